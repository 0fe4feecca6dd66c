import PyProof.Rows.All
import Wide.All
import OpenK.AllK
import Wide.FinOn
import Lean
import PySem.Challenge.RW_mj0256_01
set_option Elab.async false
set_option maxRecDepth 100000
set_option maxHeartbeats 0
open PySem PySem.W PyProof.Rows
local macro_rules | `(tactic| walk_at $s:str) => `(tactic| k_extra $s)
local macro_rules | `(tactic| k_enter) => `(tactic| k_extra "enter")
local macro_rules | `(tactic| k_all) => `(tactic| k_extra "all")

namespace Mine

open PySem PySem.W PyProof.Rows
theorem three {A B C : Prop} {p q : Program} {loose : List Str} {Xt : Shared → Bool} {α : Type} {Yf : Shared → α} {Ya : World → α} {N : Nat} (a : A) (_ : LeftO p q loose Xt Yf Ya N) (_ : B) (_ : C) : A := a
theorem hd (h : False) (said : PySem.Challenge.rw_mj0256_01.row.wellSaid = true) : PySem.Challenge.rw_mj0256_01.row.Holds := by
  refine' three ?main ?hl ?hw ?hc
  case main => k_head
  all_goals first | exact h.elim | exact True | exact False.elim h
end Mine

namespace Mine

open PySem PySem.W PyProof.Rows
noncomputable def stN (i : Nat) : Stmt := (PySem.Challenge.pw_mj0256_01.main.body.drop i).headD (.Pass ⟨0,0,0,0⟩)
noncomputable def inS : Stmt → List Stmt | .FunctionDef _ _ b _ _ _ _ _ _ _ => b | .ClassDef _ _ _ b _ _ _ _ _ _ _ => b | _ => []
noncomputable def ofS : Stmt → Arguments | .FunctionDef _ a _ _ _ _ _ _ _ _ => a | _ => ⟨[],[],none,[],[],none,[]⟩
noncomputable def stM (i j : Nat) : Stmt := ((inS (stN i)).drop j).headD (.Pass ⟨0,0,0,0⟩)
noncomputable def E (P : Params) (s : String) (n : Nat) (v : Value) : DictEntry := ⟨PyData.keyHash P (Str.ofString s), .str (Str.ofString s) n, v⟩
noncomputable def i0 (P : Params) : Obj := ⟨(.type "dict"),.none,(.dict #[E P "__name__" 1 (.str "builtins" 160),E P "__doc__" 2 (.builtin "builtins.__doc__:str#opaque"),E P "__package__" 3 (.builtin "builtins.__package__:str#opaque"),E P "__loader__" 4 (.builtin "builtins.__loader__:shared#opaque"),E P "__spec__" 5 (.builtin "builtins.__spec__#opaque"),E P "__build_class__" 6 (.builtin "__build_class__"),E P "__import__" 7 (.builtin "__import__"),E P "abs" 8 (.builtin "abs"),E P "all" 9 (.builtin "all"),E P "any" 10 (.builtin "any"),E P "ascii" 11 (.builtin "ascii"),E P "bin" 12 (.builtin "bin"),E P "breakpoint" 13 (.builtin "breakpoint"),E P "callable" 14 (.builtin "callable"),E P "chr" 15 (.builtin "chr"),E P "compile" 16 (.builtin "compile"),E P "delattr" 17 (.builtin "delattr"),E P "dir" 18 (.builtin "dir"),E P "divmod" 19 (.builtin "divmod"),E P "eval" 20 (.builtin "eval"),E P "exec" 21 (.builtin "exec"),E P "format" 22 (.builtin "format"),E P "getattr" 23 (.builtin "getattr"),E P "globals" 24 (.builtin "globals"),E P "hasattr" 25 (.builtin "hasattr"),E P "hash" 26 (.builtin "hash"),E P "hex" 27 (.builtin "hex"),E P "id" 28 (.builtin "id"),E P "input" 29 (.builtin "input"),E P "isinstance" 30 (.builtin "isinstance"),E P "issubclass" 31 (.builtin "issubclass"),E P "iter" 32 (.builtin "iter"),E P "aiter" 33 (.builtin "aiter"),E P "len" 34 (.builtin "len"),E P "locals" 35 (.builtin "locals"),E P "max" 36 (.builtin "max"),E P "min" 37 (.builtin "min"),E P "next" 38 (.builtin "next"),E P "anext" 39 (.builtin "anext"),E P "oct" 40 (.builtin "oct"),E P "ord" 41 (.builtin "ord"),E P "pow" 42 (.builtin "pow"),E P "print" 43 (.builtin "print"),E P "repr" 44 (.builtin "repr"),E P "round" 45 (.builtin "round"),E P "setattr" 46 (.builtin "setattr"),E P "sorted" 47 (.builtin "sorted"),E P "sum" 48 (.builtin "sum"),E P "vars" 49 (.builtin "vars"),E P "None" 50 .none,E P "Ellipsis" 51 .ellipsis,E P "NotImplemented" 52 .notImplemented,E P "False" 53 (.bool .false),E P "True" 54 (.bool .true),E P "bool" 55 (.type "bool"),E P "memoryview" 56 (.type "memoryview"),E P "bytearray" 57 (.type "bytearray"),E P "bytes" 58 (.type "bytes"),E P "classmethod" 59 (.type "classmethod"),E P "complex" 60 (.type "complex"),E P "dict" 61 (.type "dict"),E P "enumerate" 62 (.type "enumerate"),E P "filter" 63 (.type "filter"),E P "float" 64 (.type "float"),E P "frozenset" 65 (.type "frozenset"),E P "property" 66 (.type "property"),E P "int" 67 (.type "int"),E P "list" 68 (.type "list"),E P "map" 69 (.type "map"),E P "object" 70 (.type "object"),E P "range" 71 (.type "range"),E P "reversed" 72 (.type "reversed"),E P "set" 73 (.type "set"),E P "slice" 74 (.type "slice"),E P "staticmethod" 75 (.type "staticmethod"),E P "str" 76 (.type "str"),E P "super" 77 (.type "super"),E P "tuple" 78 (.type "tuple"),E P "type" 79 (.type "type"),E P "zip" 80 (.type "zip"),E P "__debug__" 81 (.bool .true),E P "BaseException" 82 (.type "BaseException"),E P "BaseExceptionGroup" 83 (.type "BaseExceptionGroup"),E P "Exception" 84 (.type "Exception"),E P "GeneratorExit" 85 (.type "GeneratorExit"),E P "KeyboardInterrupt" 86 (.type "KeyboardInterrupt"),E P "SystemExit" 87 (.type "SystemExit"),E P "ArithmeticError" 88 (.type "ArithmeticError"),E P "AssertionError" 89 (.type "AssertionError"),E P "AttributeError" 90 (.type "AttributeError"),E P "BufferError" 91 (.type "BufferError"),E P "EOFError" 92 (.type "EOFError"),E P "ImportError" 93 (.type "ImportError"),E P "LookupError" 94 (.type "LookupError"),E P "MemoryError" 95 (.type "MemoryError"),E P "NameError" 96 (.type "NameError"),E P "OSError" 97 (.type "OSError"),E P "ReferenceError" 98 (.type "ReferenceError"),E P "RuntimeError" 99 (.type "RuntimeError"),E P "StopAsyncIteration" 100 (.type "StopAsyncIteration"),E P "StopIteration" 101 (.type "StopIteration"),E P "SyntaxError" 102 (.type "SyntaxError"),E P "SystemError" 103 (.type "SystemError"),E P "TypeError" 104 (.type "TypeError"),E P "ValueError" 105 (.type "ValueError"),E P "Warning" 106 (.type "Warning"),E P "FloatingPointError" 107 (.type "FloatingPointError"),E P "OverflowError" 108 (.type "OverflowError"),E P "ZeroDivisionError" 109 (.type "ZeroDivisionError"),E P "BytesWarning" 110 (.type "BytesWarning"),E P "DeprecationWarning" 111 (.type "DeprecationWarning"),E P "EncodingWarning" 112 (.type "EncodingWarning"),E P "FutureWarning" 113 (.type "FutureWarning"),E P "ImportWarning" 114 (.type "ImportWarning"),E P "PendingDeprecationWarning" 115 (.type "PendingDeprecationWarning"),E P "ResourceWarning" 116 (.type "ResourceWarning"),E P "RuntimeWarning" 117 (.type "RuntimeWarning"),E P "SyntaxWarning" 118 (.type "SyntaxWarning"),E P "UnicodeWarning" 119 (.type "UnicodeWarning"),E P "UserWarning" 120 (.type "UserWarning"),E P "BlockingIOError" 121 (.type "BlockingIOError"),E P "ChildProcessError" 122 (.type "ChildProcessError"),E P "ConnectionError" 123 (.type "ConnectionError"),E P "FileExistsError" 124 (.type "FileExistsError"),E P "FileNotFoundError" 125 (.type "FileNotFoundError"),E P "InterruptedError" 126 (.type "InterruptedError"),E P "IsADirectoryError" 127 (.type "IsADirectoryError"),E P "NotADirectoryError" 128 (.type "NotADirectoryError"),E P "PermissionError" 129 (.type "PermissionError"),E P "ProcessLookupError" 130 (.type "ProcessLookupError"),E P "TimeoutError" 131 (.type "TimeoutError"),E P "IndentationError" 132 (.type "IndentationError"),E P "_IncompleteInputError" 133 (.type "_IncompleteInputError"),E P "IndexError" 134 (.type "IndexError"),E P "KeyError" 135 (.type "KeyError"),E P "ModuleNotFoundError" 136 (.type "ModuleNotFoundError"),E P "NotImplementedError" 137 (.type "NotImplementedError"),E P "PythonFinalizationError" 138 (.type "PythonFinalizationError"),E P "RecursionError" 139 (.type "RecursionError"),E P "UnboundLocalError" 140 (.type "UnboundLocalError"),E P "UnicodeError" 141 (.type "UnicodeError"),E P "BrokenPipeError" 142 (.type "BrokenPipeError"),E P "ConnectionAbortedError" 143 (.type "ConnectionAbortedError"),E P "ConnectionRefusedError" 144 (.type "ConnectionRefusedError"),E P "ConnectionResetError" 145 (.type "ConnectionResetError"),E P "TabError" 146 (.type "TabError"),E P "UnicodeDecodeError" 147 (.type "UnicodeDecodeError"),E P "UnicodeEncodeError" 148 (.type "UnicodeEncodeError"),E P "UnicodeTranslateError" 149 (.type "UnicodeTranslateError"),E P "ExceptionGroup" 150 (.type "ExceptionGroup"),E P "EnvironmentError" 151 (.type "OSError"),E P "IOError" 152 (.type "OSError"),E P "open" 153 (.builtin "open"),E P "quit" 154 (.builtin "builtins.quit#opaque"),E P "exit" 155 (.builtin "builtins.exit#opaque"),E P "copyright" 156 (.builtin "builtins.copyright#opaque"),E P "credits" 157 (.builtin "builtins.credits#opaque"),E P "license" 158 (.builtin "builtins.license#opaque"),E P "help" 159 (.builtin "builtins.help#opaque")] 159),#[]⟩
noncomputable def i1 (P : Params) : Obj := ⟨(.type "dict"),.none,(.dict #[E P "builtins" 162 (.ref 4),E P "__main__" 163 (.ref 5),E P "_sre" 244 (.ref 12),E P "_collections" 292 (.ref 30)] 4),#[]⟩
noncomputable def i4 (P : Params) : Obj := ⟨(.type "module"),(.some 0),.plain,#[]⟩
noncomputable def i5 (P : Params) : Obj := ⟨(.type "module"),(.some 3),.plain,#[]⟩
noncomputable def i6 (P : Params) : Obj := ⟨(.type "dict"),.none,(.dict #[] 0),#[]⟩
noncomputable def i7 (P : Params) : Obj := ⟨(.type "tuple"),.none,(.seq #[] 0),#[]⟩
noncomputable def i8 (P : Params) : Obj := ⟨.none,.none,(.fields #[]),#[]⟩
noncomputable def i9 (P : Params) : Obj := ⟨(.type "code"),.none,(.fields #[(.str "<module>" 176),(.str "<module>" 177),(.str "/claim/cut.py" 178),(.int 1 0),(.int 0 0),(.int 0 0),(.int 0 0),(.int 0 0),(.ref 7),(.bool .false),(.int 175 0),(.ref 8),.none,.none,.none,.none,(.int 179 0),(.int 1 0),(.str "/claim/cut.py" 180)]),#[]⟩
noncomputable def i10 (P : Params) : Obj := ⟨(.type "frame"),.none,.plain,#[(.some (.ref 9)),(.some (.ref 3)),(.some (.ref 3)),.none,(.some (.str "__main__" 164)),.none,(.some (.ref 0))]⟩
noncomputable def i11 (P : Params) : Obj := ⟨(.type "dict"),.none,(.dict #[E P "__name__" 247 (.str "_sre" 246),E P "__doc__" 248 .none,E P "__package__" 250 (.str "" 249),E P "__loader__" 251 (.builtin "off-the-table:_sre.__loader__:shared#opaque"),E P "__spec__" 252 (.builtin "off-the-table:_sre.__spec__:shared#opaque"),E P "compile" 253 (.builtin "_sre.compile"),E P "template" 254 (.builtin "off-the-table:_sre.template:shared#opaque"),E P "getcodesize" 255 (.builtin "off-the-table:_sre.getcodesize:shared#opaque"),E P "ascii_iscased" 256 (.builtin "off-the-table:_sre.ascii_iscased:shared#opaque"),E P "unicode_iscased" 257 (.builtin "off-the-table:_sre.unicode_iscased:shared#opaque"),E P "ascii_tolower" 258 (.builtin "off-the-table:_sre.ascii_tolower:shared#opaque"),E P "unicode_tolower" 259 (.builtin "off-the-table:_sre.unicode_tolower:shared#opaque"),E P "MAGIC" 261 (.int 20230612 260),E P "CODESIZE" 263 (.int 4 262),E P "MAXREPEAT" 265 (.int 4294967295 264),E P "MAXGROUPS" 267 (.int 1073741823 266),E P "copyright" 269 (.str " SRE 2.2.2 Copyright (c) 1997-2002 by Secret Labs AB " 268)] 17),#[]⟩
noncomputable def i12 (P : Params) : Obj := ⟨(.type "module"),(.some 11),.plain,#[]⟩
noncomputable def i13 (P : Params) : Obj := ⟨(.type "dict"),.none,(.dict #[E P "__module__" 189 (.str "_frozen_importlib" 186),E P "__firstlineno__" 190 (.int 971 187),E P "__doc__" 191 (.builtin "_frozen_importlib.BuiltinImporter.__doc__:str#opaque"),E P "_ORIGIN" 192 (.str "built-in" 188),E P "find_spec" 193 (.builtin "_frozen_importlib.BuiltinImporter.find_spec#opaque"),E P "create_module" 194 (.builtin "_frozen_importlib.BuiltinImporter.create_module#opaque"),E P "exec_module" 195 (.builtin "_frozen_importlib.BuiltinImporter.exec_module#opaque"),E P "get_code" 196 (.builtin "_frozen_importlib.BuiltinImporter.get_code#opaque"),E P "get_source" 197 (.builtin "_frozen_importlib.BuiltinImporter.get_source#opaque"),E P "is_package" 198 (.builtin "_frozen_importlib.BuiltinImporter.is_package#opaque"),E P "load_module" 199 (.builtin "_frozen_importlib.BuiltinImporter.load_module#opaque"),E P "__static_attributes__" 200 (.ref 15),E P "__dict__" 202 (.ref 16),E P "__weakref__" 204 (.ref 17)] 14),#[]⟩
noncomputable def i14 (P : Params) : Obj := ⟨(.type "type"),.none,(.cls ⟨"BuiltinImporter",[(.type "object")],[(.ref 14),(.type "object")],13,"BuiltinImporter",.true,[],[],.false,.none,.false⟩),#[]⟩
noncomputable def i15 (P : Params) : Obj := ⟨(.type "tuple"),.none,(.seq #[] 0),#[]⟩
noncomputable def i16 (P : Params) : Obj := ⟨(.type "getset_descriptor"),.none,(.fields #[(.str "__dict__" 201),(.ref 14),(.builtin "function.__dict__"),(.builtin "function.__dict__#set")]),#[]⟩
noncomputable def i17 (P : Params) : Obj := ⟨(.type "getset_descriptor"),.none,(.fields #[(.str "__weakref__" 203),(.ref 14),(.builtin "ExceptionGroup.__weakref__"),.none]),#[]⟩
noncomputable def i18 (P : Params) : Obj := ⟨.none,.none,(.seq #[(.int 13 0),(.str (.mk #[6,189,10,95,95,109,111,100,117,108,101,95,95,6,186,17,95,102,114,111,122,101,110,95,105,109,112,111,114,116,108,105,98,6,190,15,95,95,102,105,114,115,116,108,105,110,101,110,111,95,95,4,187,0,971,6,191,7,95,95,100,111,99,95,95,9,52,95,102,114,111,122,101,110,95,105,109,112,111,114,116,108,105,98,46,66,117,105,108,116,105,110,73,109,112,111,114,116,101,114,46,95,95,100,111,99,95,95,58,115,116,114,35,111,112,97,113,117,101,6,192,7,95,79,82,73,71,73,78,6,188,8,98,117,105,108,116,45,105,110,6,193,9,102,105,110,100,95,115,112,101,99,9,50,95,102,114,111,122,101,110,95,105,109,112,111,114,116,108,105,98,46,66,117,105,108,116,105,110,73,109,112,111,114,116,101,114,46,102,105,110,100,95,115,112,101,99,35,111,112,97,113,117,101,6,194,13,99,114,101,97,116,101,95,109,111,100,117,108,101,9,54,95,102,114,111,122,101,110,95,105,109,112,111,114,116,108,105,98,46,66,117,105,108,116,105,110,73,109,112,111,114,116,101,114,46,99,114,101,97,116,101,95,109,111,100,117,108,101,35,111,112,97,113,117,101,6,195,11,101,120,101,99,95,109,111,100,117,108,101,9,52,95,102,114,111,122,101,110,95,105,109,112,111,114,116,108,105,98,46,66,117,105,108,116,105,110,73,109,112,111,114,116,101,114,46,101,120,101,99,95,109,111,100,117,108,101,35,111,112,97,113,117,101,6,196,8,103,101,116,95,99,111,100,101,9,49,95,102,114,111,122,101,110,95,105,109,112,111,114,116,108,105,98,46,66,117,105,108,116,105,110,73,109,112,111,114,116,101,114,46,103,101,116,95,99,111,100,101,35,111,112,97,113,117,101,6,197,10,103,101,116,95,115,111,117,114,99,101,9,51,95,102,114,111,122,101,110,95,105,109,112,111,114,116,108,105,98,46,66,117,105,108,116,105,110,73,109,112,111,114,116,101,114,46,103,101,116,95,115,111,117,114,99,101,35,111,112,97,113,117,101,6,198,10,105,115,95,112,97,99,107,97,103,101,9,51,95,102,114,111,122,101,110,95,105,109,112,111,114,116,108,105,98,46,66,117,105,108,116,105,110,73,109,112,111,114,116,101,114,46,105,115,95,112,97,99,107,97,103,101,35,111,112,97,113,117,101,6,199,11,108,111,97,100,95,109,111,100,117,108,101,9,52,95,102,114,111,122,101,110,95,105,109,112,111,114,116,108,105,98,46,66,117,105,108,116,105,110,73,109,112,111,114,116,101,114,46,108,111,97,100,95,109,111,100,117,108,101,35,111,112,97,113,117,101,6,200,21,95,95,115,116,97,116,105,99,95,97,116,116,114,105,98,117,116,101,115,95,95,4,0,0,15,6,202,8,95,95,100,105,99,116,95,95,4,0,0,16,6,204,11,95,95,119,101,97,107,114,101,102,95,95,4,0,0,17]) 0),(.bool .true),(.bool .true),(.str "" 205),(.int 21 0),(.str (.mk #[6,227,10,95,95,109,111,100,117,108,101,95,95,6,217,17,95,102,114,111,122,101,110,95,105,109,112,111,114,116,108,105,98,6,228,15,95,95,102,105,114,115,116,108,105,110,101,110,111,95,95,4,218,0,562,6,229,7,95,95,100,111,99,95,95,9,47,95,102,114,111,122,101,110,95,105,109,112,111,114,116,108,105,98,46,77,111,100,117,108,101,83,112,101,99,46,95,95,100,111,99,95,95,58,115,116,114,35,111,112,97,113,117,101,6,230,8,95,95,105,110,105,116,95,95,9,44,95,102,114,111,122,101,110,95,105,109,112,111,114,116,108,105,98,46,77,111,100,117,108,101,83,112,101,99,46,95,95,105,110,105,116,95,95,35,111,112,97,113,117,101,6,231,8,95,95,114,101,112,114,95,95,9,44,95,102,114,111,122,101,110,95,105,109,112,111,114,116,108,105,98,46,77,111,100,117,108,101,83,112,101,99,46,95,95,114,101,112,114,95,95,35,111,112,97,113,117,101,6,232,6,95,95,101,113,95,95,9,42,95,102,114,111,122,101,110,95,105,109,112,111,114,116,108,105,98,46,77,111,100,117,108,101,83,112,101,99,46,95,95,101,113,95,95,35,111,112,97,113,117,101,6,233,6,99,97,99,104,101,100,9,42,95,102,114,111,122,101,110,95,105,109,112,111,114,116,108,105,98,46,77,111,100,117,108,101,83,112,101,99,46,99,97,99,104,101,100,35,111,112,97,113,117,101,6,234,6,112,97,114,101,110,116,9,42,95,102,114,111,122,101,110,95,105,109,112,111,114,116,108,105,98,46,77,111,100,117,108,101,83,112,101,99,46,112,97,114,101,110,116,35,111,112,97,113,117,101,6,235,12,104,97,115,95,108,111,99,97,116,105,111,110,9,48,95,102,114,111,122,101,110,95,105,109,112,111,114,116,108,105,98,46,77,111,100,117,108,101,83,112,101,99,46,104,97,115,95,108,111,99,97,116,105,111,110,35,111,112,97,113,117,101,6,236,21,95,95,115,116,97,116,105,99,95,97,116,116,114,105,98,117,116,101,115,95,95,4,0,0,23,6,238,8,95,95,100,105,99,116,95,95,4,0,0,24,6,240,11,95,95,119,101,97,107,114,101,102,95,95,4,0,0,25,6,241,8,95,95,104,97,115,104,95,95,0]) 0),(.bool .true),(.bool .true),(.str "" 242)] 1),#[]⟩
noncomputable def i19 (P : Params) : Obj := ⟨(.type "list"),.none,(.seq #[] 0),#[]⟩
noncomputable def i20 (P : Params) : Obj := ⟨(.type "dict"),.none,(.dict #[E P "name" 208 (.str "_sre" 207),E P "loader" 209 (.ref 14),E P "origin" 210 (.str "built-in" 184),E P "loader_state" 211 .none,E P "submodule_search_locations" 212 .none,E P "_uninitialized_submodules" 213 (.ref 19),E P "_set_fileattr" 214 (.bool .false),E P "_cached" 215 .none,E P "_initializing" 243 (.bool .false)] 9),#[]⟩
noncomputable def i21 (P : Params) : Obj := ⟨(.type "dict"),.none,(.dict #[E P "__module__" 227 (.str "_frozen_importlib" 217),E P "__firstlineno__" 228 (.int 562 218),E P "__doc__" 229 (.builtin "_frozen_importlib.ModuleSpec.__doc__:str#opaque"),E P "__init__" 230 (.builtin "_frozen_importlib.ModuleSpec.__init__#opaque"),E P "__repr__" 231 (.builtin "_frozen_importlib.ModuleSpec.__repr__#opaque"),E P "__eq__" 232 (.builtin "_frozen_importlib.ModuleSpec.__eq__#opaque"),E P "cached" 233 (.builtin "_frozen_importlib.ModuleSpec.cached#opaque"),E P "parent" 234 (.builtin "_frozen_importlib.ModuleSpec.parent#opaque"),E P "has_location" 235 (.builtin "_frozen_importlib.ModuleSpec.has_location#opaque"),E P "__static_attributes__" 236 (.ref 23),E P "__dict__" 238 (.ref 24),E P "__weakref__" 240 (.ref 25),E P "__hash__" 241 .none] 13),#[]⟩
noncomputable def i22 (P : Params) : Obj := ⟨(.type "type"),.none,(.cls ⟨"ModuleSpec",[(.type "object")],[(.ref 22),(.type "object")],21,"ModuleSpec",.true,[],[],.false,.none,.false⟩),#[]⟩
noncomputable def i23 (P : Params) : Obj := ⟨(.type "tuple"),.none,(.seq #[(.str "_cached" 219),(.str "_set_fileattr" 220),(.str "_uninitialized_submodules" 221),(.str "loader" 222),(.str "loader_state" 223),(.str "name" 224),(.str "origin" 225),(.str "submodule_search_locations" 226)] 0),#[]⟩
noncomputable def i24 (P : Params) : Obj := ⟨(.type "getset_descriptor"),.none,(.fields #[(.str "__dict__" 237),(.ref 22),(.builtin "function.__dict__"),(.builtin "function.__dict__#set")]),#[]⟩
noncomputable def i25 (P : Params) : Obj := ⟨(.type "getset_descriptor"),.none,(.fields #[(.str "__weakref__" 239),(.ref 22),(.builtin "ExceptionGroup.__weakref__"),.none]),#[]⟩
noncomputable def i26 (P : Params) : Obj := ⟨(.ref 22),(.some 20),.plain,#[]⟩
noncomputable def i27 (P : Params) : Obj := ⟨.none,.none,(.seq #[(.int 11 0),(.str (.mk #[6,247,8,95,95,110,97,109,101,95,95,6,246,4,95,115,114,101,6,248,7,95,95,100,111,99,95,95,0,6,250,11,95,95,112,97,99,107,97,103,101,95,95,6,249,0,6,251,10,95,95,108,111,97,100,101,114,95,95,4,0,0,14,6,252,8,95,95,115,112,101,99,95,95,4,0,0,26,6,253,7,99,111,109,112,105,108,101,9,12,95,115,114,101,46,99,111,109,112,105,108,101,6,254,8,116,101,109,112,108,97,116,101,9,13,95,115,114,101,46,116,101,109,112,108,97,116,101,6,255,11,103,101,116,99,111,100,101,115,105,122,101,9,16,95,115,114,101,46,103,101,116,99,111,100,101,115,105,122,101,6,256,13,97,115,99,105,105,95,105,115,99,97,115,101,100,9,18,95,115,114,101,46,97,115,99,105,105,95,105,115,99,97,115,101,100,6,257,15,117,110,105,99,111,100,101,95,105,115,99,97,115,101,100,9,20,95,115,114,101,46,117,110,105,99,111,100,101,95,105,115,99,97,115,101,100,6,258,13,97,115,99,105,105,95,116,111,108,111,119,101,114,9,18,95,115,114,101,46,97,115,99,105,105,95,116,111,108,111,119,101,114,6,259,15,117,110,105,99,111,100,101,95,116,111,108,111,119,101,114,9,20,95,115,114,101,46,117,110,105,99,111,100,101,95,116,111,108,111,119,101,114,6,261,5,77,65,71,73,67,4,260,0,20230612,6,263,8,67,79,68,69,83,73,90,69,4,262,0,4,6,265,9,77,65,88,82,69,80,69,65,84,4,264,0,4294967295,6,267,9,77,65,88,71,82,79,85,80,83,4,266,0,1073741823,6,269,9,99,111,112,121,114,105,103,104,116,6,268,53,32,83,82,69,32,50,46,50,46,50,32,67,111,112,121,114,105,103,104,116,32,40,99,41,32,49,57,57,55,45,50,48,48,50,32,98,121,32,83,101,99,114,101,116,32,76,97,98,115,32,65,66,32]) 0),(.bool .true),(.bool .false),(.str "_sre" 271),(.int 29 0),(.str (.mk #[6,296,8,95,95,110,97,109,101,95,95,6,295,12,95,99,111,108,108,101,99,116,105,111,110,115,6,297,7,95,95,100,111,99,95,95,9,31,95,99,111,108,108,101,99,116,105,111,110,115,46,95,95,100,111,99,95,95,58,115,116,114,35,111,112,97,113,117,101,6,299,11,95,95,112,97,99,107,97,103,101,95,95,6,298,0,6,300,10,95,95,108,111,97,100,101,114,95,95,4,0,0,14,6,301,8,95,95,115,112,101,99,95,95,4,0,0,33,6,302,15,95,99,111,117,110,116,95,101,108,101,109,101,110,116,115,9,28,95,99,111,108,108,101,99,116,105,111,110,115,46,95,99,111,117,110,116,95,101,108,101,109,101,110,116,115,6,303,5,100,101,113,117,101,8,17,99,111,108,108,101,99,116,105,111,110,115,46,100,101,113,117,101,6,304,11,100,101,102,97,117,108,116,100,105,99,116,8,23,99,111,108,108,101,99,116,105,111,110,115,46,100,101,102,97,117,108,116,100,105,99,116,6,305,15,95,100,101,113,117,101,95,105,116,101,114,97,116,111,114,8,27,99,111,108,108,101,99,116,105,111,110,115,46,95,100,101,113,117,101,95,105,116,101,114,97,116,111,114,6,306,23,95,100,101,113,117,101,95,114,101,118,101,114,115,101,95,105,116,101,114,97,116,111,114,8,35,99,111,108,108,101,99,116,105,111,110,115,46,95,100,101,113,117,101,95,114,101,118,101,114,115,101,95,105,116,101,114,97,116,111,114,6,307,12,95,116,117,112,108,101,103,101,116,116,101,114,8,24,99,111,108,108,101,99,116,105,111,110,115,46,95,116,117,112,108,101,103,101,116,116,101,114,6,308,11,79,114,100,101,114,101,100,68,105,99,116,8,23,99,111,108,108,101,99,116,105,111,110,115,46,79,114,100,101,114,101,100,68,105,99,116]) 0),(.bool .true),(.bool .false),(.str "_collections" 310)] 1),#[]⟩
noncomputable def i28 (P : Params) : Obj := ⟨(.type "tuple"),.none,(.seq #[(.str "deque" 277)] 0),#[]⟩
noncomputable def i29 (P : Params) : Obj := ⟨(.type "dict"),.none,(.dict #[E P "__name__" 296 (.str "_collections" 295),E P "__doc__" 297 (.builtin "off-the-table:_collections.__doc__:shared#opaque"),E P "__package__" 299 (.str "" 298),E P "__loader__" 300 (.builtin "off-the-table:_collections.__loader__:shared#opaque"),E P "__spec__" 301 (.builtin "off-the-table:_collections.__spec__:shared#opaque"),E P "_count_elements" 302 (.builtin "_collections._count_elements"),E P "deque" 303 (.type "collections.deque"),E P "defaultdict" 304 (.type "collections.defaultdict"),E P "_deque_iterator" 305 (.builtin "off-the-table:_collections._deque_iterator:shared#opaque"),E P "_deque_reverse_iterator" 306 (.builtin "off-the-table:_collections._deque_reverse_iterator:shared#opaque"),E P "_tuplegetter" 307 (.type "collections._tuplegetter"),E P "OrderedDict" 308 (.type "collections.OrderedDict")] 12),#[]⟩
noncomputable def i30 (P : Params) : Obj := ⟨(.type "module"),(.some 29),.plain,#[]⟩
noncomputable def i31 (P : Params) : Obj := ⟨(.type "list"),.none,(.seq #[] 0),#[]⟩
noncomputable def i32 (P : Params) : Obj := ⟨(.type "dict"),.none,(.dict #[E P "name" 283 (.str "_collections" 282),E P "loader" 284 (.ref 14),E P "origin" 285 (.str "built-in" 281),E P "loader_state" 286 .none,E P "submodule_search_locations" 287 .none,E P "_uninitialized_submodules" 288 (.ref 31),E P "_set_fileattr" 289 (.bool .false),E P "_cached" 290 .none,E P "_initializing" 291 (.bool .false)] 9),#[]⟩
noncomputable def i33 (P : Params) : Obj := ⟨(.ref 22),(.some 32),.plain,#[]⟩
noncomputable def ini (P : Params) : List Obj := [i0 P,
  i1 P,
  ⟨.none,.none,(.dict #[E P "\x69mport.loaded._sre" 183 (.bool .true),E P "class._frozen_importlib.BuiltinImporter" 185 (.ref 14),E P "watched.\x69mport" 206 (.ref 18),E P "class._frozen_importlib.ModuleSpec" 216 (.ref 22),E P "sys.modules.booked-epoch" 245 (.int 4 0),E P "\x69mport.later-laid._sre" 270 (.bool .true),E P "watched.library" 272 (.ref 27),E P "watched.library-objects" 0 (.str (.mk #[12,30]) 0),E P "watched.library-deep._sre" 273 (.str (.mk #[4,0,0,11,4,0,0,11,4,0,0,3,4,0,0,11,8,4,100,105,99,116,2]) 0),E P "\x69mport.loaded._collections" 280 (.bool .true),E P "sys.modules.landed._collections" 294 (.bool .true),E P "\x69mport.later-laid._collections" 309 (.bool .true),E P "watched.library-deep._collections" 311 (.str (.mk #[4,0,0,29,4,0,0,29,4,0,0,3,4,0,0,29,8,4,100,105,99,116,2]) 0)] 13),#[]⟩,
  ⟨(.type "dict"),.none,(.dict #[E P "__name__" 165 (.str "__main__" 164),E P "__doc__" 166 .none,E P "__package__" 167 .none,E P "__loader__" 168 (.builtin "__main__.__loader__#opaque"),E P "__spec__" 169 .none,E P "__annotations__" 170 (.ref 6),E P "__builtins__" 171 (.ref 4),E P "__file__" 173 (.str "/claim/cut.py" 172),E P "__cached__" 174 .none,E P "_sre" 275 (.ref 12),E P "deque" 317 (.type "collections.deque")] 11),#[]⟩,
  i4 P,
  i5 P,
  i6 P,
  i7 P,
  i8 P,
  i9 P,
  i10 P,
  i11 P,
  i12 P,
  i13 P,
  i14 P,
  i15 P,
  i16 P,
  i17 P,
  i18 P,
  i19 P,
  i20 P,
  i21 P,
  i22 P,
  i23 P,
  i24 P,
  i25 P,
  i26 P,
  i27 P,
  i28 P,
  i29 P,
  i30 P,
  i31 P,
  i32 P,
  i33 P]
noncomputable def rest0 (P : Params) : List Obj := [i0 P,
  i1 P,
  i4 P,
  i5 P,
  i6 P,
  i7 P,
  i8 P,
  i9 P,
  i10 P,
  i11 P,
  i12 P,
  i13 P,
  i14 P,
  i15 P,
  i16 P,
  i17 P,
  i18 P,
  i19 P,
  i20 P,
  i21 P,
  i22 P,
  i23 P,
  i24 P,
  i25 P,
  i26 P,
  i27 P,
  i28 P,
  i29 P,
  i30 P,
  i31 P,
  i32 P,
  i33 P,
  ⟨(.type "tuple"),.none,(.seq #[] 0),#[]⟩,
  ⟨.none,.none,(.fields #[(.int 3 0),(.int 0 0),(.ref 43),(.int 7 0),(.int 0 0),(.ref 50),(.int 15 0),(.int 0 0),(.ref 62),(.int 20 0),(.int 0 0),(.ref 69),(.int 27 0),(.int 0 0),(.ref 76),(.int 29 0),(.int 0 0),(.ref 89),(.int 36 0),(.int 0 0),(.ref 111),(.int 38 0),(.int 0 0),(.ref 123),(.int 40 0),(.int 0 0),(.ref 135),(.int 210 0),(.int 0 0),(.ref 365),(.int 416 0),(.int 0 0),(.ref 612),(.int 437 0),(.int 0 0),(.ref 619),(.int 442 0),(.int 0 0),(.ref 626),(.int 447 0),(.int 0 0),(.ref 633),(.int 450 0),(.int 0 0),(.ref 640),(.int 471 0),(.int 0 0),(.ref 647),(.int 480 0),(.int 0 0),(.ref 654),(.int 732 0),(.int 0 0),(.ref 750),(.int 740 0),(.int 0 0),(.ref 757),(.int 744 0),(.int 0 0),(.ref 765),(.int 751 0),(.int 0 0),(.ref 772),(.int 762 0),(.int 0 0),(.ref 779),(.int 769 0),(.int 0 0),(.ref 784),(.int 786 0),(.int 0 0),(.ref 791),(.int 802 0),(.int 0 0),(.ref 798),(.int 807 0),(.int 0 0),(.ref 803)]),#[]⟩,
  ⟨(.type "code"),.none,(.fields #[(.str "<module>" 319),(.str "<module>" 320),(.str "/claim/cut.py" 321),(.int 1 0),(.int 0 0),(.int 0 0),(.int 0 0),(.int 0 0),(.ref 34),(.bool .false),(.int 318 0),(.ref 35),.none,.none,.none,.none,(.int 322 0),(.int 1 0),(.str "/claim/cut.py" 323)]),#[]⟩,
  ⟨(.type "frame"),.none,.plain,#[(.some (.ref 36)),(.some (.ref 3)),(.some (.ref 3)),.none,(.some (.str "__main__" 164)),.none,(.some (.ref 0))]⟩,
  ⟨.none,.none,(.fields #[]),#[]⟩,
  ⟨.none,.none,(.func ⟨"_wall","_wall",ofS (stN 2),(.stmts (inS (stN 2))),⟨.function,[⟨"k",.local⟩],.false,.false,[]⟩,0,[],.none,.none,.none,.none,.none,.none,.none,0⟩),#[]⟩,
  ⟨.none,.none,(.fields #[]),#[]⟩,
  ⟨.none,.none,(.func ⟨"cram","cram",ofS (stN 4),(.stmts (inS (stN 4))),⟨.function,[⟨"text",.local⟩,⟨"maxlen",.local⟩,⟨"pre",.local⟩,⟨"post",.local⟩,⟨"len",.globalImplicit⟩,⟨"max",.globalImplicit⟩],.false,.false,[]⟩,0,[],.none,.none,.none,.none,.none,.none,.none,0⟩),#[]⟩]
noncomputable def rest1 (P : Params) : List Obj := [⟨(.type "list"),.none,(.seq #[(.int 14 346),(.int 17 347),(.int 4 348),(.int 1 349),(.int 1 350),(.int 21 351),(.int 9 352),(.int 0 353),(.int 604043296 354),(.int 1 355),(.int 0 356),(.int 0 357),(.int 0 358),(.int 0 359),(.int 0 360),(.int 8 361),(.int 4 362),(.int 0 363),(.int 13 364),(.int 14 365),(.int 21 366),(.int 9 367),(.int 0 368),(.int 604043296 369),(.int 1 370),(.int 0 371),(.int 0 372),(.int 0 373),(.int 0 374),(.int 0 375),(.int 8 376),(.int 4 377),(.int 0 378),(.int 1 379)] 0),#[]⟩,
  ⟨(.type "dict"),.none,(.dict #[] 0),#[]⟩,
  ⟨(.type "tuple"),.none,(.seq #[.none] 0),#[]⟩,
  ⟨.none,.none,(.fields #[]),#[]⟩,
  ⟨.none,.none,(.func ⟨"_whence","_whence",ofS (stN 7),(.stmts (inS (stN 7))),⟨.function,[⟨"n",.local⟩,⟨"what",.local⟩,⟨"_index",.globalImplicit⟩,⟨"_wall",.globalImplicit⟩],.false,.false,[]⟩,0,[],.none,.none,.none,.none,.none,.none,.none,0⟩),#[]⟩,
  ⟨.none,.none,(.fields #[]),#[]⟩,
  ⟨.none,.none,(.func ⟨"_index","_index",ofS (stN 8),(.stmts (inS (stN 8))),⟨.function,[⟨"n",.local⟩,⟨"what",.local⟩,⟨"type",.globalImplicit⟩,⟨"int",.globalImplicit⟩,⟨"bool",.globalImplicit⟩,⟨"_wall",.globalImplicit⟩],.false,.false,[]⟩,0,[],.none,.none,.none,.none,.none,.none,.none,0⟩),#[]⟩,
  ⟨(.type "builtin_function_or_method"),.none,(.fields #[(.builtin "type.__prepare__"),(.type "type")]),#[]⟩,
  ⟨(.type "dict"),.none,(.dict #[E P "__module__" 408 (.str "io" 413),E P "__qualname__" 410 (.str "UnsupportedOperation" 409),E P "__firstlineno__" 412 (.int 27 411),E P "__static_attributes__" 415 (.ref 78)] 4),#[]⟩,
  ⟨(.type "tuple"),.none,(.seq #[] 0),#[]⟩,
  ⟨.none,.none,(.fields #[]),#[]⟩,
  ⟨(.type "code"),.none,(.fields #[(.str "UnsupportedOperation" 403),(.str "UnsupportedOperation" 404),(.str "/claim/cut.py" 405),(.int 27 0),(.int 0 0),(.int 0 0),(.int 0 0),(.int 0 0),(.ref 74),(.bool .false),(.int 318 0),(.ref 75),.none,.none,.none,.none,(.int 406 0),(.int 27 0),(.str "/claim/cut.py" 407)]),#[]⟩,
  ⟨(.type "frame"),.none,.plain,#[(.some (.ref 76)),(.some (.ref 3)),(.some (.ref 73)),.none,(.some (.str "io" 383)),.none,(.some (.ref 0))]⟩,
  ⟨(.type "super"),.none,(.fields #[(.ref 80),(.ref 80),(.ref 80)]),#[]⟩,
  ⟨(.type "builtin_function_or_method"),.none,(.fields #[(.builtin "object.__init_subclass__"),(.ref 80)]),#[]⟩,
  ⟨(.type "tuple"),.none,(.seq #[] 0),#[]⟩,
  ⟨(.type "builtin_function_or_method"),.none,(.fields #[(.builtin "type.__prepare__"),(.type "type")]),#[]⟩,
  ⟨(.type "dict"),.none,(.dict #[E P "__module__" 430 (.str "io" 435),E P "__qualname__" 432 (.str "IOBase" 431),E P "__firstlineno__" 434 (.int 29 433),E P "__new__" 445 (.ref 97),E P "__static_attributes__" 446 (.ref 98)] 5),#[]⟩,
  ⟨(.type "tuple"),.none,(.seq #[] 0),#[]⟩,
  ⟨.none,.none,(.fields #[(.int 32 0),(.int 4 0),(.ref 96)]),#[]⟩,
  ⟨(.type "code"),.none,(.fields #[(.str "IOBase" 425),(.str "IOBase" 426),(.str "/claim/cut.py" 427),(.int 29 0),(.int 0 0),(.int 0 0),(.int 0 0),(.int 0 0),(.ref 87),(.bool .false),(.int 318 0),(.ref 88),.none,.none,.none,.none,(.int 428 0),(.int 29 0),(.str "/claim/cut.py" 429)]),#[]⟩,
  ⟨(.type "frame"),.none,.plain,#[(.some (.ref 89)),(.some (.ref 3)),(.some (.ref 86)),.none,(.some (.str "io" 383)),.none,(.some (.ref 0))]⟩,
  ⟨.none,.none,(.fields #[]),#[]⟩,
  ⟨.none,.none,(.func ⟨"__new__","IOBase.__new__",ofS (stM 10 1),(.stmts (inS (stM 10 1))),⟨.function,[⟨"cls",.local⟩,⟨"args",.local⟩,⟨"kwargs",.local⟩,⟨"BytesIO",.globalImplicit⟩,⟨"StringIO",.globalImplicit⟩,⟨"_wall",.globalImplicit⟩,⟨"object",.globalImplicit⟩],.false,.false,[]⟩,0,[],.none,.none,.none,.none,.none,.none,.none,0⟩),#[]⟩,
  ⟨(.type "super"),.none,(.fields #[(.ref 100),(.ref 100),(.ref 100)]),#[]⟩,
  ⟨(.type "builtin_function_or_method"),.none,(.fields #[(.builtin "object.__init_subclass__"),(.ref 100)]),#[]⟩,
  ⟨(.type "builtin_function_or_method"),.none,(.fields #[(.builtin "type.__prepare__"),(.type "type")]),#[]⟩,
  ⟨(.type "dict"),.none,(.dict #[E P "__module__" 462 (.str "io" 467),E P "__qualname__" 464 (.str "BufferedIOBase" 463),E P "__firstlineno__" 466 (.int 36 465),E P "__static_attributes__" 469 (.ref 113)] 4),#[]⟩,
  ⟨(.type "tuple"),.none,(.seq #[] 0),#[]⟩,
  ⟨.none,.none,(.fields #[]),#[]⟩,
  ⟨(.type "code"),.none,(.fields #[(.str "BufferedIOBase" 457),(.str "BufferedIOBase" 458),(.str "/claim/cut.py" 459),(.int 36 0),(.int 0 0),(.int 0 0),(.int 0 0),(.int 0 0),(.ref 109),(.bool .false),(.int 318 0),(.ref 110),.none,.none,.none,.none,(.int 460 0),(.int 36 0),(.str "/claim/cut.py" 461)]),#[]⟩,
  ⟨(.type "frame"),.none,.plain,#[(.some (.ref 111)),(.some (.ref 3)),(.some (.ref 108)),.none,(.some (.str "io" 383)),.none,(.some (.ref 0))]⟩,
  ⟨(.type "super"),.none,(.fields #[(.ref 115),(.ref 115),(.ref 115)]),#[]⟩,
  ⟨(.type "builtin_function_or_method"),.none,(.fields #[(.builtin "object.__init_subclass__"),(.ref 115)]),#[]⟩,
  ⟨(.type "builtin_function_or_method"),.none,(.fields #[(.builtin "type.__prepare__"),(.type "type")]),#[]⟩,
  ⟨(.type "dict"),.none,(.dict #[E P "__module__" 480 (.str "io" 485),E P "__qualname__" 482 (.str "TextIOBase" 481),E P "__firstlineno__" 484 (.int 38 483),E P "__static_attributes__" 487 (.ref 125)] 4),#[]⟩,
  ⟨(.type "tuple"),.none,(.seq #[] 0),#[]⟩,
  ⟨.none,.none,(.fields #[]),#[]⟩,
  ⟨(.type "code"),.none,(.fields #[(.str "TextIOBase" 475),(.str "TextIOBase" 476),(.str "/claim/cut.py" 477),(.int 38 0),(.int 0 0),(.int 0 0),(.int 0 0),(.int 0 0),(.ref 121),(.bool .false),(.int 318 0),(.ref 122),.none,.none,.none,.none,(.int 478 0),(.int 38 0),(.str "/claim/cut.py" 479)]),#[]⟩,
  ⟨(.type "frame"),.none,.plain,#[(.some (.ref 123)),(.some (.ref 3)),(.some (.ref 120)),.none,(.some (.str "io" 383)),.none,(.some (.ref 0))]⟩]
noncomputable def rest2 (P : Params) : List Obj := [⟨(.type "super"),.none,(.fields #[(.ref 127),(.ref 127),(.ref 127)]),#[]⟩,
  ⟨(.type "builtin_function_or_method"),.none,(.fields #[(.builtin "object.__init_subclass__"),(.ref 127)]),#[]⟩,
  ⟨(.type "builtin_function_or_method"),.none,(.fields #[(.builtin "type.__prepare__"),(.type "type")]),#[]⟩,
  ⟨(.type "dict"),.none,(.dict #[E P "__module__" 498 (.str "_io" 503),E P "__qualname__" 500 (.str "BytesIO" 499),E P "__firstlineno__" 502 (.int 40 501),E P "__init__" 512 (.ref 144),E P "_BytesIO__check" 519 (.ref 151),E P "_BytesIO__line" 530 (.ref 158),E P "closed" 538 (.ref 166),E P "close" 545 (.ref 173),E P "__enter__" 552 (.ref 180),E P "__exit__" 560 (.ref 187),E P "readable" 567 (.ref 194),E P "writable" 574 (.ref 201),E P "seekable" 581 (.ref 208),E P "isatty" 588 (.ref 215),E P "flush" 595 (.ref 222),E P "fileno" 602 (.ref 229),E P "detach" 609 (.ref 236),E P "getvalue" 616 (.ref 243),E P "getbuffer" 623 (.ref 250),E P "tell" 630 (.ref 257),E P "seek" 640 (.ref 265),E P "truncate" 648 (.ref 273),E P "read" 660 (.ref 281),E P "read1" 670 (.ref 289),E P "readinto" 680 (.ref 296),E P "readinto1" 688 (.ref 303),E P "readline" 698 (.ref 311),E P "readlines" 706 (.ref 319),E P "__iter__" 713 (.ref 326),E P "__next__" 721 (.ref 333),E P "write" 731 (.ref 340),E P "writelines" 739 (.ref 347),E P "__repr__" 746 (.ref 354),E P "__static_attributes__" 749 (.ref 355)] 34),#[]⟩,
  ⟨(.type "tuple"),.none,(.seq #[] 0),#[]⟩,
  ⟨.none,.none,(.fields #[(.int 43 0),(.int 4 0),(.ref 143),(.int 49 0),(.int 4 0),(.ref 150),(.int 53 0),(.int 4 0),(.ref 157),(.int 67 0),(.int 4 0),(.ref 164),(.int 70 0),(.int 4 0),(.ref 172),(.int 73 0),(.int 4 0),(.ref 179),(.int 77 0),(.int 4 0),(.ref 186),(.int 80 0),(.int 4 0),(.ref 193),(.int 84 0),(.int 4 0),(.ref 200),(.int 88 0),(.int 4 0),(.ref 207),(.int 92 0),(.int 4 0),(.ref 214),(.int 96 0),(.int 4 0),(.ref 221),(.int 99 0),(.int 4 0),(.ref 228),(.int 102 0),(.int 4 0),(.ref 235),(.int 105 0),(.int 4 0),(.ref 242),(.int 108 0),(.int 4 0),(.ref 249),(.int 111 0),(.int 4 0),(.ref 256),(.int 115 0),(.int 4 0),(.ref 264),(.int 132 0),(.int 4 0),(.ref 272),(.int 135 0),(.int 4 0),(.ref 280),(.int 149 0),(.int 4 0),(.ref 288),(.int 152 0),(.int 4 0),(.ref 295),(.int 166 0),(.int 4 0),(.ref 302),(.int 169 0),(.int 4 0),(.ref 310),(.int 176 0),(.int 4 0),(.ref 318),(.int 179 0),(.int 4 0),(.ref 325),(.int 182 0),(.int 4 0),(.ref 332),(.int 189 0),(.int 4 0),(.ref 339),(.int 205 0),(.int 4 0),(.ref 346),(.int 208 0),(.int 4 0),(.ref 353)]),#[]⟩,
  ⟨(.type "code"),.none,(.fields #[(.str "BytesIO" 493),(.str "BytesIO" 494),(.str "/claim/cut.py" 495),(.int 40 0),(.int 0 0),(.int 0 0),(.int 0 0),(.int 0 0),(.ref 133),(.bool .false),(.int 318 0),(.ref 134),.none,.none,.none,.none,(.int 496 0),(.int 40 0),(.str "/claim/cut.py" 497)]),#[]⟩,
  ⟨(.type "frame"),.none,.plain,#[(.some (.ref 135)),(.some (.ref 3)),(.some (.ref 132)),.none,(.some (.str "io" 383)),.none,(.some (.ref 0))]⟩,
  ⟨.none,.none,(.fields #[]),#[]⟩,
  ⟨.none,.none,(.func ⟨"__init__","BytesIO.__init__",ofS (stM 13 1),(.stmts (inS (stM 13 1))),⟨.function,[⟨"self",.local⟩,⟨"initial_bytes",.local⟩,⟨"type",.globalImplicit⟩,⟨"bytes",.globalImplicit⟩,⟨"bytearray",.globalImplicit⟩,⟨"_wall",.globalImplicit⟩],.false,.false,[]⟩,0,[],.none,.none,.none,.none,.none,.none,.none,0⟩),#[]⟩,
  ⟨.none,.none,(.fields #[]),#[]⟩,
  ⟨.none,.none,(.func ⟨"__check","BytesIO.__check",ofS (stM 13 2),(.stmts (inS (stM 13 2))),⟨.function,[⟨"self",.local⟩,⟨"ValueError",.globalImplicit⟩],.false,.false,[]⟩,0,[],.none,.none,.none,.none,.none,.none,.none,0⟩),#[]⟩,
  ⟨.none,.none,(.fields #[]),#[]⟩,
  ⟨.none,.none,(.func ⟨"__line","BytesIO.__line",ofS (stM 13 3),(.stmts (inS (stM 13 3))),⟨.function,[⟨"self",.local⟩,⟨"limit",.local⟩,⟨"start",.local⟩,⟨"stop",.local⟩,⟨"i",.local⟩,⟨"len",.globalImplicit⟩,⟨"bytes",.globalImplicit⟩],.false,.false,[]⟩,0,[],.none,.none,.none,.none,.none,.none,.none,0⟩),#[]⟩,
  ⟨.none,.none,(.fields #[]),#[]⟩,
  ⟨.none,.none,(.func ⟨"closed","BytesIO.closed",ofS (stM 13 4),(.stmts (inS (stM 13 4))),⟨.function,[⟨"self",.local⟩],.false,.false,[]⟩,0,[],.none,.none,.none,.none,.none,.none,.none,0⟩),#[]⟩,
  ⟨.none,.none,(.fields #[]),#[]⟩,
  ⟨.none,.none,(.func ⟨"close","BytesIO.close",ofS (stM 13 5),(.stmts (inS (stM 13 5))),⟨.function,[⟨"self",.local⟩],.false,.false,[]⟩,0,[],.none,.none,.none,.none,.none,.none,.none,0⟩),#[]⟩,
  ⟨.none,.none,(.fields #[]),#[]⟩,
  ⟨.none,.none,(.func ⟨"__enter__","BytesIO.__enter__",ofS (stM 13 6),(.stmts (inS (stM 13 6))),⟨.function,[⟨"self",.local⟩],.false,.false,[]⟩,0,[],.none,.none,.none,.none,.none,.none,.none,0⟩),#[]⟩,
  ⟨.none,.none,(.fields #[]),#[]⟩,
  ⟨.none,.none,(.func ⟨"__exit__","BytesIO.__exit__",ofS (stM 13 7),(.stmts (inS (stM 13 7))),⟨.function,[⟨"self",.local⟩,⟨"args",.local⟩],.false,.false,[]⟩,0,[],.none,.none,.none,.none,.none,.none,.none,0⟩),#[]⟩,
  ⟨.none,.none,(.fields #[]),#[]⟩,
  ⟨.none,.none,(.func ⟨"readable","BytesIO.readable",ofS (stM 13 8),(.stmts (inS (stM 13 8))),⟨.function,[⟨"self",.local⟩],.false,.false,[]⟩,0,[],.none,.none,.none,.none,.none,.none,.none,0⟩),#[]⟩,
  ⟨.none,.none,(.fields #[]),#[]⟩,
  ⟨.none,.none,(.func ⟨"writable","BytesIO.writable",ofS (stM 13 9),(.stmts (inS (stM 13 9))),⟨.function,[⟨"self",.local⟩],.false,.false,[]⟩,0,[],.none,.none,.none,.none,.none,.none,.none,0⟩),#[]⟩,
  ⟨.none,.none,(.fields #[]),#[]⟩,
  ⟨.none,.none,(.func ⟨"seekable","BytesIO.seekable",ofS (stM 13 10),(.stmts (inS (stM 13 10))),⟨.function,[⟨"self",.local⟩],.false,.false,[]⟩,0,[],.none,.none,.none,.none,.none,.none,.none,0⟩),#[]⟩,
  ⟨.none,.none,(.fields #[]),#[]⟩,
  ⟨.none,.none,(.func ⟨"isatty","BytesIO.isatty",ofS (stM 13 11),(.stmts (inS (stM 13 11))),⟨.function,[⟨"self",.local⟩],.false,.false,[]⟩,0,[],.none,.none,.none,.none,.none,.none,.none,0⟩),#[]⟩,
  ⟨.none,.none,(.fields #[]),#[]⟩,
  ⟨.none,.none,(.func ⟨"flush","BytesIO.flush",ofS (stM 13 12),(.stmts (inS (stM 13 12))),⟨.function,[⟨"self",.local⟩],.false,.false,[]⟩,0,[],.none,.none,.none,.none,.none,.none,.none,0⟩),#[]⟩,
  ⟨.none,.none,(.fields #[]),#[]⟩,
  ⟨.none,.none,(.func ⟨"fileno","BytesIO.fileno",ofS (stM 13 13),(.stmts (inS (stM 13 13))),⟨.function,[⟨"self",.local⟩,⟨"UnsupportedOperation",.globalImplicit⟩],.false,.false,[]⟩,0,[],.none,.none,.none,.none,.none,.none,.none,0⟩),#[]⟩,
  ⟨.none,.none,(.fields #[]),#[]⟩,
  ⟨.none,.none,(.func ⟨"detach","BytesIO.detach",ofS (stM 13 14),(.stmts (inS (stM 13 14))),⟨.function,[⟨"self",.local⟩,⟨"_wall",.globalImplicit⟩],.false,.false,[]⟩,0,[],.none,.none,.none,.none,.none,.none,.none,0⟩),#[]⟩,
  ⟨.none,.none,(.fields #[]),#[]⟩,
  ⟨.none,.none,(.func ⟨"getvalue","BytesIO.getvalue",ofS (stM 13 15),(.stmts (inS (stM 13 15))),⟨.function,[⟨"self",.local⟩,⟨"_wall",.globalImplicit⟩],.false,.false,[]⟩,0,[],.none,.none,.none,.none,.none,.none,.none,0⟩),#[]⟩,
  ⟨.none,.none,(.fields #[]),#[]⟩,
  ⟨.none,.none,(.func ⟨"getbuffer","BytesIO.getbuffer",ofS (stM 13 16),(.stmts (inS (stM 13 16))),⟨.function,[⟨"self",.local⟩,⟨"_wall",.globalImplicit⟩],.false,.false,[]⟩,0,[],.none,.none,.none,.none,.none,.none,.none,0⟩),#[]⟩]
noncomputable def rest3 (P : Params) : List Obj := [⟨.none,.none,(.fields #[]),#[]⟩,
  ⟨.none,.none,(.func ⟨"tell","BytesIO.tell",ofS (stM 13 17),(.stmts (inS (stM 13 17))),⟨.function,[⟨"self",.local⟩],.false,.false,[]⟩,0,[],.none,.none,.none,.none,.none,.none,.none,0⟩),#[]⟩,
  ⟨.none,.none,(.fields #[]),#[]⟩,
  ⟨.none,.none,(.func ⟨"seek","BytesIO.seek",ofS (stM 13 18),(.stmts (inS (stM 13 18))),⟨.function,[⟨"self",.local⟩,⟨"pos",.local⟩,⟨"whence",.local⟩,⟨"_index",.globalImplicit⟩,⟨"_whence",.globalImplicit⟩,⟨"ValueError",.globalImplicit⟩,⟨"str",.globalImplicit⟩,⟨"len",.globalImplicit⟩],.false,.false,[]⟩,0,[],.none,.none,.none,.none,.none,.none,.none,0⟩),#[]⟩,
  ⟨.none,.none,(.fields #[]),#[]⟩,
  ⟨.none,.none,(.func ⟨"truncate","BytesIO.truncate",ofS (stM 13 19),(.stmts (inS (stM 13 19))),⟨.function,[⟨"self",.local⟩,⟨"size",.local⟩,⟨"_wall",.globalImplicit⟩],.false,.false,[]⟩,0,[],.none,.none,.none,.none,.none,.none,.none,0⟩),#[]⟩,
  ⟨.none,.none,(.fields #[]),#[]⟩,
  ⟨.none,.none,(.func ⟨"read","BytesIO.read",ofS (stM 13 20),(.stmts (inS (stM 13 20))),⟨.function,[⟨"self",.local⟩,⟨"size",.local⟩,⟨"start",.local⟩,⟨"stop",.local⟩,⟨"_index",.globalImplicit⟩,⟨"len",.globalImplicit⟩,⟨"bytes",.globalImplicit⟩],.false,.false,[]⟩,0,[],.none,.none,.none,.none,.none,.none,.none,0⟩),#[]⟩,
  ⟨.none,.none,(.fields #[]),#[]⟩,
  ⟨.none,.none,(.func ⟨"read1","BytesIO.read1",ofS (stM 13 21),(.stmts (inS (stM 13 21))),⟨.function,[⟨"self",.local⟩,⟨"size",.local⟩,⟨"_wall",.globalImplicit⟩],.false,.false,[]⟩,0,[],.none,.none,.none,.none,.none,.none,.none,0⟩),#[]⟩,
  ⟨.none,.none,(.fields #[]),#[]⟩,
  ⟨.none,.none,(.func ⟨"readinto","BytesIO.readinto",ofS (stM 13 22),(.stmts (inS (stM 13 22))),⟨.function,[⟨"self",.local⟩,⟨"buffer",.local⟩,⟨"start",.local⟩,⟨"n",.local⟩,⟨"type",.globalImplicit⟩,⟨"bytearray",.globalImplicit⟩,⟨"_wall",.globalImplicit⟩,⟨"len",.globalImplicit⟩],.false,.false,[]⟩,0,[],.none,.none,.none,.none,.none,.none,.none,0⟩),#[]⟩,
  ⟨.none,.none,(.fields #[]),#[]⟩,
  ⟨.none,.none,(.func ⟨"readinto1","BytesIO.readinto1",ofS (stM 13 23),(.stmts (inS (stM 13 23))),⟨.function,[⟨"self",.local⟩,⟨"buffer",.local⟩,⟨"_wall",.globalImplicit⟩],.false,.false,[]⟩,0,[],.none,.none,.none,.none,.none,.none,.none,0⟩),#[]⟩,
  ⟨.none,.none,(.fields #[]),#[]⟩,
  ⟨.none,.none,(.func ⟨"readline","BytesIO.readline",ofS (stM 13 24),(.stmts (inS (stM 13 24))),⟨.function,[⟨"self",.local⟩,⟨"size",.local⟩,⟨"_index",.globalImplicit⟩],.false,.false,[]⟩,0,[],.none,.none,.none,.none,.none,.none,.none,0⟩),#[]⟩,
  ⟨.none,.none,(.fields #[]),#[]⟩,
  ⟨.none,.none,(.func ⟨"readlines","BytesIO.readlines",ofS (stM 13 25),(.stmts (inS (stM 13 25))),⟨.function,[⟨"self",.local⟩,⟨"size",.local⟩,⟨"_wall",.globalImplicit⟩],.false,.false,[]⟩,0,[],.none,.none,.none,.none,.none,.none,.none,0⟩),#[]⟩,
  ⟨.none,.none,(.fields #[]),#[]⟩,
  ⟨.none,.none,(.func ⟨"__iter__","BytesIO.__iter__",ofS (stM 13 26),(.stmts (inS (stM 13 26))),⟨.function,[⟨"self",.local⟩],.false,.false,[]⟩,0,[],.none,.none,.none,.none,.none,.none,.none,0⟩),#[]⟩,
  ⟨.none,.none,(.fields #[]),#[]⟩,
  ⟨.none,.none,(.func ⟨"__next__","BytesIO.__next__",ofS (stM 13 27),(.stmts (inS (stM 13 27))),⟨.function,[⟨"self",.local⟩,⟨"line",.local⟩,⟨"StopIteration",.globalImplicit⟩],.false,.false,[]⟩,0,[],.none,.none,.none,.none,.none,.none,.none,0⟩),#[]⟩,
  ⟨.none,.none,(.fields #[]),#[]⟩,
  ⟨.none,.none,(.func ⟨"write","BytesIO.write",ofS (stM 13 28),(.stmts (inS (stM 13 28))),⟨.function,[⟨"self",.local⟩,⟨"b",.local⟩,⟨"n",.local⟩,⟨"start",.local⟩,⟨"type",.globalImplicit⟩,⟨"bytes",.globalImplicit⟩,⟨"bytearray",.globalImplicit⟩,⟨"_wall",.globalImplicit⟩,⟨"len",.globalImplicit⟩],.false,.false,[]⟩,0,[],.none,.none,.none,.none,.none,.none,.none,0⟩),#[]⟩,
  ⟨.none,.none,(.fields #[]),#[]⟩,
  ⟨.none,.none,(.func ⟨"writelines","BytesIO.writelines",ofS (stM 13 29),(.stmts (inS (stM 13 29))),⟨.function,[⟨"self",.local⟩,⟨"lines",.local⟩,⟨"_wall",.globalImplicit⟩],.false,.false,[]⟩,0,[],.none,.none,.none,.none,.none,.none,.none,0⟩),#[]⟩,
  ⟨.none,.none,(.fields #[]),#[]⟩,
  ⟨.none,.none,(.func ⟨"__repr__","BytesIO.__repr__",ofS (stM 13 30),(.stmts (inS (stM 13 30))),⟨.function,[⟨"self",.local⟩,⟨"_wall",.globalImplicit⟩],.false,.false,[]⟩,0,[],.none,.none,.none,.none,.none,.none,.none,0⟩),#[]⟩,
  ⟨(.type "super"),.none,(.fields #[(.ref 357),(.ref 357),(.ref 357)]),#[]⟩,
  ⟨(.type "builtin_function_or_method"),.none,(.fields #[(.builtin "object.__init_subclass__"),(.ref 357)]),#[]⟩,
  ⟨(.type "builtin_function_or_method"),.none,(.fields #[(.builtin "type.__prepare__"),(.type "type")]),#[]⟩,
  ⟨(.type "dict"),.none,(.dict #[E P "__module__" 760 (.str "_io" 765),E P "__qualname__" 762 (.str "StringIO" 761),E P "__firstlineno__" 764 (.int 210 763),E P "__init__" 777 (.ref 374),E P "_StringIO__translated" 786 (.ref 381),E P "_StringIO__check" 793 (.ref 388),E P "_StringIO__check_dot" 800 (.ref 395),E P "_StringIO__line" 815 (.ref 402),E P "closed" 823 (.ref 410),E P "line_buffering" 831 (.ref 418),E P "newlines" 839 (.ref 426),E P "encoding" 847 (.ref 434),E P "errors" 855 (.ref 442),E P "close" 862 (.ref 449),E P "__enter__" 869 (.ref 456),E P "__exit__" 877 (.ref 463),E P "readable" 884 (.ref 470),E P "writable" 891 (.ref 477),E P "seekable" 898 (.ref 484),E P "isatty" 905 (.ref 491),E P "flush" 912 (.ref 498),E P "fileno" 919 (.ref 505),E P "detach" 926 (.ref 512),E P "getvalue" 933 (.ref 519),E P "tell" 940 (.ref 526),E P "seek" 950 (.ref 534),E P "truncate" 958 (.ref 542),E P "read" 970 (.ref 550),E P "readline" 980 (.ref 558),E P "readlines" 990 (.ref 566),E P "__iter__" 997 (.ref 573),E P "__next__" 1005 (.ref 580),E P "write" 1017 (.ref 587),E P "writelines" 1025 (.ref 594),E P "__repr__" 1032 (.ref 601),E P "__static_attributes__" 1036 (.ref 602)] 36),#[]⟩,
  ⟨(.type "tuple"),.none,(.seq #[] 0),#[]⟩,
  ⟨.none,.none,(.fields #[(.int 213 0),(.int 4 0),(.ref 373),(.int 226 0),(.int 4 0),(.ref 380),(.int 234 0),(.int 4 0),(.ref 387),(.int 238 0),(.int 4 0),(.ref 394),(.int 242 0),(.int 4 0),(.ref 401),(.int 275 0),(.int 4 0),(.ref 408),(.int 279 0),(.int 4 0),(.ref 416),(.int 283 0),(.int 4 0),(.ref 424),(.int 287 0),(.int 4 0),(.ref 432),(.int 291 0),(.int 4 0),(.ref 440),(.int 294 0),(.int 4 0),(.ref 448),(.int 297 0),(.int 4 0),(.ref 455),(.int 301 0),(.int 4 0),(.ref 462),(.int 304 0),(.int 4 0),(.ref 469),(.int 308 0),(.int 4 0),(.ref 476),(.int 312 0),(.int 4 0),(.ref 483),(.int 316 0),(.int 4 0),(.ref 490),(.int 320 0),(.int 4 0),(.ref 497),(.int 323 0),(.int 4 0),(.ref 504),(.int 326 0),(.int 4 0),(.ref 511),(.int 329 0),(.int 4 0),(.ref 518),(.int 332 0),(.int 4 0),(.ref 525),(.int 336 0),(.int 4 0),(.ref 533),(.int 353 0),(.int 4 0),(.ref 541),(.int 356 0),(.int 4 0),(.ref 549),(.int 370 0),(.int 4 0),(.ref 557),(.int 377 0),(.int 4 0),(.ref 565),(.int 380 0),(.int 4 0),(.ref 572),(.int 384 0),(.int 4 0),(.ref 579),(.int 391 0),(.int 4 0),(.ref 586),(.int 410 0),(.int 4 0),(.ref 593),(.int 413 0),(.int 4 0),(.ref 600)]),#[]⟩,
  ⟨(.type "code"),.none,(.fields #[(.str "StringIO" 755),(.str "StringIO" 756),(.str "/claim/cut.py" 757),(.int 210 0),(.int 0 0),(.int 0 0),(.int 0 0),(.int 0 0),(.ref 363),(.bool .false),(.int 318 0),(.ref 364),.none,.none,.none,.none,(.int 758 0),(.int 210 0),(.str "/claim/cut.py" 759)]),#[]⟩,
  ⟨(.type "frame"),.none,.plain,#[(.some (.ref 365)),(.some (.ref 3)),(.some (.ref 362)),.none,(.some (.str "io" 383)),.none,(.some (.ref 0))]⟩,
  ⟨.none,.none,(.fields #[]),#[]⟩,
  ⟨.none,.none,(.func ⟨"__init__","StringIO.__init__",ofS (stM 14 1),(.stmts (inS (stM 14 1))),⟨.function,[⟨"self",.local⟩,⟨"initial_value",.local⟩,⟨"newline",.local⟩,⟨"type",.globalImplicit⟩,⟨"str",.globalImplicit⟩,⟨"_wall",.globalImplicit⟩,⟨"ValueError",.globalImplicit⟩],.false,.false,[]⟩,0,[],.none,.none,.none,.none,.none,.none,.none,0⟩),#[]⟩,
  ⟨.none,.none,(.fields #[]),#[]⟩,
  ⟨.none,.none,(.func ⟨"__translated","StringIO.__translated",ofS (stM 14 2),(.stmts (inS (stM 14 2))),⟨.function,[⟨"self",.local⟩,⟨"s",.local⟩,⟨"newline",.local⟩],.false,.false,[]⟩,0,[],.none,.none,.none,.none,.none,.none,.none,0⟩),#[]⟩]
noncomputable def rest4 (P : Params) : List Obj := [⟨.none,.none,(.fields #[]),#[]⟩,
  ⟨.none,.none,(.func ⟨"__check","StringIO.__check",ofS (stM 14 3),(.stmts (inS (stM 14 3))),⟨.function,[⟨"self",.local⟩,⟨"ValueError",.globalImplicit⟩],.false,.false,[]⟩,0,[],.none,.none,.none,.none,.none,.none,.none,0⟩),#[]⟩,
  ⟨.none,.none,(.fields #[]),#[]⟩,
  ⟨.none,.none,(.func ⟨"__check_dot","StringIO.__check_dot",ofS (stM 14 4),(.stmts (inS (stM 14 4))),⟨.function,[⟨"self",.local⟩,⟨"ValueError",.globalImplicit⟩],.false,.false,[]⟩,0,[],.none,.none,.none,.none,.none,.none,.none,0⟩),#[]⟩,
  ⟨.none,.none,(.fields #[]),#[]⟩,
  ⟨.none,.none,(.func ⟨"__line","StringIO.__line",ofS (stM 14 5),(.stmts (inS (stM 14 5))),⟨.function,[⟨"self",.local⟩,⟨"limit",.local⟩,⟨"start",.local⟩,⟨"stop",.local⟩,⟨"cut",.local⟩,⟨"newline",.local⟩,⟨"i",.local⟩,⟨"j",.local⟩,⟨"end",.local⟩,⟨"len",.globalImplicit⟩,⟨"_wall",.globalImplicit⟩],.false,.false,[]⟩,0,[],.none,.none,.none,.none,.none,.none,.none,0⟩),#[]⟩,
  ⟨.none,.none,(.fields #[]),#[]⟩,
  ⟨.none,.none,(.func ⟨"closed","StringIO.closed",ofS (stM 14 6),(.stmts (inS (stM 14 6))),⟨.function,[⟨"self",.local⟩],.false,.false,[]⟩,0,[],.none,.none,.none,.none,.none,.none,.none,0⟩),#[]⟩,
  ⟨.none,.none,(.fields #[]),#[]⟩,
  ⟨.none,.none,(.func ⟨"line_buffering","StringIO.line_buffering",ofS (stM 14 7),(.stmts (inS (stM 14 7))),⟨.function,[⟨"self",.local⟩,⟨"_wall",.globalImplicit⟩],.false,.false,[]⟩,0,[],.none,.none,.none,.none,.none,.none,.none,0⟩),#[]⟩,
  ⟨.none,.none,(.fields #[]),#[]⟩,
  ⟨.none,.none,(.func ⟨"newlines","StringIO.newlines",ofS (stM 14 8),(.stmts (inS (stM 14 8))),⟨.function,[⟨"self",.local⟩,⟨"_wall",.globalImplicit⟩],.false,.false,[]⟩,0,[],.none,.none,.none,.none,.none,.none,.none,0⟩),#[]⟩,
  ⟨.none,.none,(.fields #[]),#[]⟩,
  ⟨.none,.none,(.func ⟨"encoding","StringIO.encoding",ofS (stM 14 9),(.stmts (inS (stM 14 9))),⟨.function,[⟨"self",.local⟩,⟨"_wall",.globalImplicit⟩],.false,.false,[]⟩,0,[],.none,.none,.none,.none,.none,.none,.none,0⟩),#[]⟩,
  ⟨.none,.none,(.fields #[]),#[]⟩,
  ⟨.none,.none,(.func ⟨"errors","StringIO.errors",ofS (stM 14 10),(.stmts (inS (stM 14 10))),⟨.function,[⟨"self",.local⟩,⟨"_wall",.globalImplicit⟩],.false,.false,[]⟩,0,[],.none,.none,.none,.none,.none,.none,.none,0⟩),#[]⟩,
  ⟨.none,.none,(.fields #[]),#[]⟩,
  ⟨.none,.none,(.func ⟨"close","StringIO.close",ofS (stM 14 11),(.stmts (inS (stM 14 11))),⟨.function,[⟨"self",.local⟩],.false,.false,[]⟩,0,[],.none,.none,.none,.none,.none,.none,.none,0⟩),#[]⟩,
  ⟨.none,.none,(.fields #[]),#[]⟩,
  ⟨.none,.none,(.func ⟨"__enter__","StringIO.__enter__",ofS (stM 14 12),(.stmts (inS (stM 14 12))),⟨.function,[⟨"self",.local⟩],.false,.false,[]⟩,0,[],.none,.none,.none,.none,.none,.none,.none,0⟩),#[]⟩,
  ⟨.none,.none,(.fields #[]),#[]⟩,
  ⟨.none,.none,(.func ⟨"__exit__","StringIO.__exit__",ofS (stM 14 13),(.stmts (inS (stM 14 13))),⟨.function,[⟨"self",.local⟩,⟨"args",.local⟩],.false,.false,[]⟩,0,[],.none,.none,.none,.none,.none,.none,.none,0⟩),#[]⟩,
  ⟨.none,.none,(.fields #[]),#[]⟩,
  ⟨.none,.none,(.func ⟨"readable","StringIO.readable",ofS (stM 14 14),(.stmts (inS (stM 14 14))),⟨.function,[⟨"self",.local⟩],.false,.false,[]⟩,0,[],.none,.none,.none,.none,.none,.none,.none,0⟩),#[]⟩,
  ⟨.none,.none,(.fields #[]),#[]⟩,
  ⟨.none,.none,(.func ⟨"writable","StringIO.writable",ofS (stM 14 15),(.stmts (inS (stM 14 15))),⟨.function,[⟨"self",.local⟩],.false,.false,[]⟩,0,[],.none,.none,.none,.none,.none,.none,.none,0⟩),#[]⟩,
  ⟨.none,.none,(.fields #[]),#[]⟩,
  ⟨.none,.none,(.func ⟨"seekable","StringIO.seekable",ofS (stM 14 16),(.stmts (inS (stM 14 16))),⟨.function,[⟨"self",.local⟩],.false,.false,[]⟩,0,[],.none,.none,.none,.none,.none,.none,.none,0⟩),#[]⟩,
  ⟨.none,.none,(.fields #[]),#[]⟩,
  ⟨.none,.none,(.func ⟨"isatty","StringIO.isatty",ofS (stM 14 17),(.stmts (inS (stM 14 17))),⟨.function,[⟨"self",.local⟩],.false,.false,[]⟩,0,[],.none,.none,.none,.none,.none,.none,.none,0⟩),#[]⟩,
  ⟨.none,.none,(.fields #[]),#[]⟩,
  ⟨.none,.none,(.func ⟨"flush","StringIO.flush",ofS (stM 14 18),(.stmts (inS (stM 14 18))),⟨.function,[⟨"self",.local⟩],.false,.false,[]⟩,0,[],.none,.none,.none,.none,.none,.none,.none,0⟩),#[]⟩,
  ⟨.none,.none,(.fields #[]),#[]⟩,
  ⟨.none,.none,(.func ⟨"fileno","StringIO.fileno",ofS (stM 14 19),(.stmts (inS (stM 14 19))),⟨.function,[⟨"self",.local⟩,⟨"UnsupportedOperation",.globalImplicit⟩],.false,.false,[]⟩,0,[],.none,.none,.none,.none,.none,.none,.none,0⟩),#[]⟩,
  ⟨.none,.none,(.fields #[]),#[]⟩,
  ⟨.none,.none,(.func ⟨"detach","StringIO.detach",ofS (stM 14 20),(.stmts (inS (stM 14 20))),⟨.function,[⟨"self",.local⟩,⟨"_wall",.globalImplicit⟩],.false,.false,[]⟩,0,[],.none,.none,.none,.none,.none,.none,.none,0⟩),#[]⟩,
  ⟨.none,.none,(.fields #[]),#[]⟩,
  ⟨.none,.none,(.func ⟨"getvalue","StringIO.getvalue",ofS (stM 14 21),(.stmts (inS (stM 14 21))),⟨.function,[⟨"self",.local⟩,⟨"_wall",.globalImplicit⟩],.false,.false,[]⟩,0,[],.none,.none,.none,.none,.none,.none,.none,0⟩),#[]⟩,
  ⟨.none,.none,(.fields #[]),#[]⟩,
  ⟨.none,.none,(.func ⟨"tell","StringIO.tell",ofS (stM 14 22),(.stmts (inS (stM 14 22))),⟨.function,[⟨"self",.local⟩],.false,.false,[]⟩,0,[],.none,.none,.none,.none,.none,.none,.none,0⟩),#[]⟩]
noncomputable def rest5 (P : Params) : List Obj := [⟨.none,.none,(.fields #[]),#[]⟩,
  ⟨.none,.none,(.func ⟨"seek","StringIO.seek",ofS (stM 14 23),(.stmts (inS (stM 14 23))),⟨.function,[⟨"self",.local⟩,⟨"pos",.local⟩,⟨"whence",.local⟩,⟨"_index",.globalImplicit⟩,⟨"_whence",.globalImplicit⟩,⟨"ValueError",.globalImplicit⟩,⟨"str",.globalImplicit⟩,⟨"OSError",.globalImplicit⟩,⟨"len",.globalImplicit⟩],.false,.false,[]⟩,0,[],.none,.none,.none,.none,.none,.none,.none,0⟩),#[]⟩,
  ⟨.none,.none,(.fields #[]),#[]⟩,
  ⟨.none,.none,(.func ⟨"truncate","StringIO.truncate",ofS (stM 14 24),(.stmts (inS (stM 14 24))),⟨.function,[⟨"self",.local⟩,⟨"pos",.local⟩,⟨"_wall",.globalImplicit⟩],.false,.false,[]⟩,0,[],.none,.none,.none,.none,.none,.none,.none,0⟩),#[]⟩,
  ⟨.none,.none,(.fields #[]),#[]⟩,
  ⟨.none,.none,(.func ⟨"read","StringIO.read",ofS (stM 14 25),(.stmts (inS (stM 14 25))),⟨.function,[⟨"self",.local⟩,⟨"size",.local⟩,⟨"start",.local⟩,⟨"stop",.local⟩,⟨"_index",.globalImplicit⟩,⟨"len",.globalImplicit⟩],.false,.false,[]⟩,0,[],.none,.none,.none,.none,.none,.none,.none,0⟩),#[]⟩,
  ⟨.none,.none,(.fields #[]),#[]⟩,
  ⟨.none,.none,(.func ⟨"readline","StringIO.readline",ofS (stM 14 26),(.stmts (inS (stM 14 26))),⟨.function,[⟨"self",.local⟩,⟨"size",.local⟩,⟨"_index",.globalImplicit⟩],.false,.false,[]⟩,0,[],.none,.none,.none,.none,.none,.none,.none,0⟩),#[]⟩,
  ⟨.none,.none,(.fields #[]),#[]⟩,
  ⟨.none,.none,(.func ⟨"readlines","StringIO.readlines",ofS (stM 14 27),(.stmts (inS (stM 14 27))),⟨.function,[⟨"self",.local⟩,⟨"hint",.local⟩,⟨"_wall",.globalImplicit⟩],.false,.false,[]⟩,0,[],.none,.none,.none,.none,.none,.none,.none,0⟩),#[]⟩,
  ⟨.none,.none,(.fields #[]),#[]⟩,
  ⟨.none,.none,(.func ⟨"__iter__","StringIO.__iter__",ofS (stM 14 28),(.stmts (inS (stM 14 28))),⟨.function,[⟨"self",.local⟩],.false,.false,[]⟩,0,[],.none,.none,.none,.none,.none,.none,.none,0⟩),#[]⟩,
  ⟨.none,.none,(.fields #[]),#[]⟩,
  ⟨.none,.none,(.func ⟨"__next__","StringIO.__next__",ofS (stM 14 29),(.stmts (inS (stM 14 29))),⟨.function,[⟨"self",.local⟩,⟨"line",.local⟩,⟨"StopIteration",.globalImplicit⟩],.false,.false,[]⟩,0,[],.none,.none,.none,.none,.none,.none,.none,0⟩),#[]⟩,
  ⟨.none,.none,(.fields #[]),#[]⟩,
  ⟨.none,.none,(.func ⟨"write","StringIO.write",ofS (stM 14 30),(.stmts (inS (stM 14 30))),⟨.function,[⟨"self",.local⟩,⟨"s",.local⟩,⟨"n",.local⟩,⟨"m",.local⟩,⟨"start",.local⟩,⟨"buf",.local⟩,⟨"type",.globalImplicit⟩,⟨"str",.globalImplicit⟩,⟨"_wall",.globalImplicit⟩,⟨"len",.globalImplicit⟩],.false,.false,[]⟩,0,[],.none,.none,.none,.none,.none,.none,.none,0⟩),#[]⟩,
  ⟨.none,.none,(.fields #[]),#[]⟩,
  ⟨.none,.none,(.func ⟨"writelines","StringIO.writelines",ofS (stM 14 31),(.stmts (inS (stM 14 31))),⟨.function,[⟨"self",.local⟩,⟨"lines",.local⟩,⟨"_wall",.globalImplicit⟩],.false,.false,[]⟩,0,[],.none,.none,.none,.none,.none,.none,.none,0⟩),#[]⟩,
  ⟨.none,.none,(.fields #[]),#[]⟩,
  ⟨.none,.none,(.func ⟨"__repr__","StringIO.__repr__",ofS (stM 14 32),(.stmts (inS (stM 14 32))),⟨.function,[⟨"self",.local⟩,⟨"_wall",.globalImplicit⟩],.false,.false,[]⟩,0,[],.none,.none,.none,.none,.none,.none,.none,0⟩),#[]⟩,
  ⟨(.type "super"),.none,(.fields #[(.ref 604),(.ref 604),(.ref 604)]),#[]⟩,
  ⟨(.type "builtin_function_or_method"),.none,(.fields #[(.builtin "object.__init_subclass__"),(.ref 604)]),#[]⟩,
  ⟨.none,.none,(.fields #[]),#[]⟩,
  ⟨.none,.none,(.func ⟨"_kind","_kind",ofS (stN 16),(.stmts (inS (stN 16))),⟨.function,[⟨"name",.local⟩,⟨"x",.local⟩,⟨"t",.local⟩,⟨"type",.globalImplicit⟩,⟨"str",.globalImplicit⟩,⟨"bool",.globalImplicit⟩,⟨"int",.globalImplicit⟩,⟨"float",.globalImplicit⟩,⟨"list",.globalImplicit⟩,⟨"tuple",.globalImplicit⟩,⟨"dict",.globalImplicit⟩,⟨"set",.globalImplicit⟩,⟨"_wall",.globalImplicit⟩],.false,.false,[]⟩,0,[],.none,.none,.none,.none,.none,.none,.none,0⟩),#[]⟩,
  ⟨.none,.none,(.fields #[]),#[]⟩,
  ⟨.none,.none,(.func ⟨"_fspath","_fspath",ofS (stN 17),(.stmts (inS (stN 17))),⟨.function,[⟨"name",.local⟩,⟨"x",.local⟩,⟨"k",.local⟩,⟨"_kind",.globalImplicit⟩,⟨"TypeError",.globalImplicit⟩],.false,.false,[]⟩,0,[],.none,.none,.none,.none,.none,.none,.none,0⟩),#[]⟩,
  ⟨.none,.none,(.fields #[]),#[]⟩,
  ⟨.none,.none,(.func ⟨"_check_arg_types","_check_arg_types",ofS (stN 18),(.stmts (inS (stN 18))),⟨.function,[⟨"funcname",.local⟩,⟨"args",.local⟩,⟨"s",.local⟩,⟨"k",.local⟩,⟨"_kind",.globalImplicit⟩,⟨"TypeError",.globalImplicit⟩,⟨"repr",.globalImplicit⟩],.false,.false,[]⟩,0,[],.none,.none,.none,.none,.none,.none,.none,0⟩),#[]⟩,
  ⟨.none,.none,(.fields #[]),#[]⟩,
  ⟨.none,.none,(.func ⟨"isabs","isabs",ofS (stN 19),(.stmts (inS (stN 19))),⟨.function,[⟨"s",.local⟩,⟨"_fspath",.globalImplicit⟩],.false,.false,[]⟩,0,[],.none,.none,.none,.none,.none,.none,.none,0⟩),#[]⟩,
  ⟨.none,.none,(.fields #[]),#[]⟩,
  ⟨.none,.none,(.func ⟨"join","join",ofS (stN 20),(.stmts (inS (stN 20))),⟨.function,[⟨"a",.local⟩,⟨"p",.local⟩,⟨"b",.local⟩,⟨"sep",.local⟩,⟨"path",.local⟩,⟨"_kind",.globalImplicit⟩,⟨"_fspath",.globalImplicit⟩,⟨"TypeError",.globalImplicit⟩,⟨"AttributeError",.globalImplicit⟩,⟨"BytesWarning",.globalImplicit⟩,⟨"_check_arg_types",.globalImplicit⟩],.false,.false,[]⟩,0,[],.none,.none,.none,.none,.none,.none,.none,0⟩),#[]⟩,
  ⟨.none,.none,(.fields #[]),#[]⟩,
  ⟨.none,.none,(.func ⟨"dirname","dirname",ofS (stN 22),(.stmts (inS (stN 22))),⟨.function,[⟨"p",.local⟩,⟨"sep",.local⟩,⟨"i",.local⟩,⟨"head",.local⟩,⟨"_fspath",.globalImplicit⟩,⟨"len",.globalImplicit⟩],.false,.false,[]⟩,0,[],.none,.none,.none,.none,.none,.none,.none,0⟩),#[]⟩,
  ⟨(.type "tuple"),.none,(.seq #[] 0),#[]⟩,
  ⟨(.type "builtin_function_or_method"),.none,(.fields #[(.builtin "type.__prepare__"),(.type "type")]),#[]⟩,
  ⟨(.type "dict"),.none,(.dict #[E P "__module__" 1108 (.str "cpy313.shlex" 1099),E P "__qualname__" 1110 (.str "shlex" 1109),E P "__firstlineno__" 1112 (.int 480 1111),E P "__init__" 1124 (.ref 663),E P "punctuation_chars" 1132 (.ref 671),E P "push_token" 1140 (.ref 678),E P "push_source" 1149 (.ref 686),E P "pop_source" 1156 (.ref 693),E P "get_token" 1168 (.ref 700),E P "read_token" 1179 (.ref 707),E P "sourcehook" 1187 (.ref 714),E P "error_leader" 1196 (.ref 722),E P "__iter__" 1203 (.ref 729),E P "__next__" 1211 (.ref 736),E P "__static_attributes__" 1232 (.ref 737)] 15),#[]⟩,
  ⟨(.type "tuple"),.none,(.seq #[] 0),#[]⟩,
  ⟨.none,.none,(.fields #[(.int 482 0),(.int 4 0),(.ref 662),(.int 524 0),(.int 4 0),(.ref 669),(.int 527 0),(.int 4 0),(.ref 677),(.int 530 0),(.int 4 0),(.ref 685),(.int 543 0),(.int 4 0),(.ref 692),(.int 550 0),(.int 4 0),(.ref 699),(.int 577 0),(.int 4 0),(.ref 706),(.int 714 0),(.int 4 0),(.ref 713),(.int 721 0),(.int 4 0),(.ref 721),(.int 724 0),(.int 4 0),(.ref 728),(.int 727 0),(.int 4 0),(.ref 735)]),#[]⟩,
  ⟨(.type "code"),.none,(.fields #[(.str "shlex" 1103),(.str "shlex" 1104),(.str "/claim/cut.py" 1105),(.int 480 0),(.int 0 0),(.int 0 0),(.int 0 0),(.int 0 0),(.ref 652),(.bool .false),(.int 318 0),(.ref 653),.none,.none,.none,.none,(.int 1106 0),(.int 480 0),(.str "/claim/cut.py" 1107)]),#[]⟩]
noncomputable def rest6 (P : Params) : List Obj := [⟨(.type "frame"),.none,.plain,#[(.some (.ref 654)),(.some (.ref 3)),(.some (.ref 651)),.none,(.some (.str "cpy313.shlex" 1099)),.none,(.some (.ref 0))]⟩,
  ⟨.none,.none,(.fields #[]),#[]⟩,
  ⟨.none,.none,(.func ⟨"__init__","shlex.__init__",ofS (stM 24 0),(.stmts (inS (stM 24 0))),⟨.function,[⟨"self",.local⟩,⟨"instream",.local⟩,⟨"infile",.local⟩,⟨"posix",.local⟩,⟨"punctuation_chars",.local⟩,⟨"t",.local⟩,⟨"isinstance",.globalImplicit⟩,⟨"str",.globalImplicit⟩,⟨"StringIO",.globalImplicit⟩,⟨"_wall",.globalImplicit⟩,⟨"deque",.globalImplicit⟩,⟨"dict",.globalImplicit⟩],.false,.false,[]⟩,0,[],.none,.none,.none,.none,.none,.none,.none,0⟩),#[]⟩,
  ⟨.none,.none,(.fields #[]),#[]⟩,
  ⟨.none,.none,(.func ⟨"punctuation_chars","shlex.punctuation_chars",ofS (stM 24 1),(.stmts (inS (stM 24 1))),⟨.function,[⟨"self",.local⟩],.false,.false,[]⟩,0,[],.none,.none,.none,.none,.none,.none,.none,0⟩),#[]⟩,
  ⟨.none,.none,(.fields #[]),#[]⟩,
  ⟨.none,.none,(.func ⟨"push_token","shlex.push_token",ofS (stM 24 2),(.stmts (inS (stM 24 2))),⟨.function,[⟨"self",.local⟩,⟨"tok",.local⟩,⟨"_wall",.globalImplicit⟩],.false,.false,[]⟩,0,[],.none,.none,.none,.none,.none,.none,.none,0⟩),#[]⟩,
  ⟨.none,.none,(.fields #[]),#[]⟩,
  ⟨.none,.none,(.func ⟨"push_source","shlex.push_source",ofS (stM 24 3),(.stmts (inS (stM 24 3))),⟨.function,[⟨"self",.local⟩,⟨"newstream",.local⟩,⟨"newfile",.local⟩,⟨"isinstance",.globalImplicit⟩,⟨"str",.globalImplicit⟩,⟨"StringIO",.globalImplicit⟩,⟨"print",.globalImplicit⟩],.false,.false,[]⟩,0,[],.none,.none,.none,.none,.none,.none,.none,0⟩),#[]⟩,
  ⟨.none,.none,(.fields #[]),#[]⟩,
  ⟨.none,.none,(.func ⟨"pop_source","shlex.pop_source",ofS (stM 24 4),(.stmts (inS (stM 24 4))),⟨.function,[⟨"self",.local⟩,⟨"print",.globalImplicit⟩],.false,.false,[]⟩,0,[],.none,.none,.none,.none,.none,.none,.none,0⟩),#[]⟩,
  ⟨.none,.none,(.fields #[]),#[]⟩,
  ⟨.none,.none,(.func ⟨"get_token","shlex.get_token",ofS (stM 24 5),(.stmts (inS (stM 24 5))),⟨.function,[⟨"self",.local⟩,⟨"tok",.local⟩,⟨"raw",.local⟩,⟨"spec",.local⟩,⟨"newfile",.local⟩,⟨"newstream",.local⟩,⟨"print",.globalImplicit⟩,⟨"repr",.globalImplicit⟩],.false,.false,[]⟩,0,[],.none,.none,.none,.none,.none,.none,.none,0⟩),#[]⟩,
  ⟨.none,.none,(.fields #[]),#[]⟩,
  ⟨.none,.none,(.func ⟨"read_token","shlex.read_token",ofS (stM 24 6),(.stmts (inS (stM 24 6))),⟨.function,[⟨"self",.local⟩,⟨"quoted",.local⟩,⟨"escapedstate",.local⟩,⟨"nextchar",.local⟩,⟨"result",.local⟩,⟨"print",.globalImplicit⟩,⟨"ValueError",.globalImplicit⟩,⟨"repr",.globalImplicit⟩],.false,.false,[]⟩,0,[],.none,.none,.none,.none,.none,.none,.none,0⟩),#[]⟩,
  ⟨.none,.none,(.fields #[]),#[]⟩,
  ⟨.none,.none,(.func ⟨"sourcehook","shlex.sourcehook",ofS (stM 24 7),(.stmts (inS (stM 24 7))),⟨.function,[⟨"self",.local⟩,⟨"newfile",.local⟩,⟨"isinstance",.globalImplicit⟩,⟨"str",.globalImplicit⟩,⟨"isabs",.globalImplicit⟩,⟨"join_path",.globalImplicit⟩,⟨"dirname",.globalImplicit⟩,⟨"_wall",.globalImplicit⟩],.false,.false,[]⟩,0,[],.none,.none,.none,.none,.none,.none,.none,0⟩),#[]⟩,
  ⟨.none,.none,(.fields #[]),#[]⟩,
  ⟨.none,.none,(.func ⟨"error_leader","shlex.error_leader",ofS (stM 24 8),(.stmts (inS (stM 24 8))),⟨.function,[⟨"self",.local⟩,⟨"infile",.local⟩,⟨"lineno",.local⟩,⟨"_wall",.globalImplicit⟩],.false,.false,[]⟩,0,[],.none,.none,.none,.none,.none,.none,.none,0⟩),#[]⟩,
  ⟨.none,.none,(.fields #[]),#[]⟩,
  ⟨.none,.none,(.func ⟨"__iter__","shlex.__iter__",ofS (stM 24 9),(.stmts (inS (stM 24 9))),⟨.function,[⟨"self",.local⟩],.false,.false,[]⟩,0,[],.none,.none,.none,.none,.none,.none,.none,0⟩),#[]⟩,
  ⟨.none,.none,(.fields #[]),#[]⟩,
  ⟨.none,.none,(.func ⟨"__next__","shlex.__next__",ofS (stM 24 10),(.stmts (inS (stM 24 10))),⟨.function,[⟨"self",.local⟩,⟨"token",.local⟩,⟨"StopIteration",.globalImplicit⟩],.false,.false,[]⟩,0,[],.none,.none,.none,.none,.none,.none,.none,0⟩),#[]⟩,
  ⟨(.type "super"),.none,(.fields #[(.ref 739),(.ref 739),(.ref 739)]),#[]⟩,
  ⟨(.type "builtin_function_or_method"),.none,(.fields #[(.builtin "object.__init_subclass__"),(.ref 739)]),#[]⟩,
  ⟨.none,.none,(.fields #[]),#[]⟩,
  ⟨.none,.none,(.func ⟨"split","split",ofS (stN 25),(.stmts (inS (stN 25))),⟨.function,[⟨"s",.local⟩,⟨"comments",.local⟩,⟨"posix",.local⟩,⟨"lex",.local⟩,⟨"ValueError",.globalImplicit⟩,⟨"shlex",.globalImplicit⟩,⟨"list",.globalImplicit⟩],.false,.false,[]⟩,0,[],.none,.none,.none,.none,.none,.none,.none,0⟩),#[]⟩,
  ⟨.none,.none,(.fields #[]),#[]⟩,
  ⟨.none,.none,(.func ⟨"join","join",ofS (stN 26),(.stmts (inS (stN 26))),⟨.function,[⟨"split_command",.local⟩],.false,.false,[]⟩,0,[],.none,.none,.none,.none,.none,.none,.none,0⟩),#[]⟩,
  ⟨.none,.none,(.fields #[]),#[]⟩,
  ⟨.none,.none,(.func ⟨"quote","quote",ofS (stN 29),(.stmts (inS (stN 29))),⟨.function,[⟨"s",.local⟩,⟨"_find_unsafe",.globalImplicit⟩],.false,.false,[]⟩,0,[],.none,.none,.none,.none,.none,.none,.none,0⟩),#[]⟩,
  ⟨.none,.none,(.fields #[]),#[]⟩,
  ⟨.none,.none,(.func ⟨"_law_sign","_law_sign",ofS (stN 31),(.stmts (inS (stN 31))),⟨.function,[⟨"x",.local⟩,⟨"kind",.local⟩,⟨"code",.local⟩,⟨"sign",.local⟩,⟨"chr",.globalImplicit⟩],.false,.false,[]⟩,0,[],.none,.none,.none,.none,.none,.none,.none,0⟩),#[]⟩,
  ⟨.none,.none,(.fields #[]),#[]⟩,
  ⟨.none,.none,(.func ⟨"_law_words","_law_words",ofS (stN 32),(.stmts (inS (stN 32))),⟨.function,[⟨"numbers",.local⟩,⟨"words",.local⟩,⟨"x",.local⟩,⟨"_law_sign",.globalImplicit⟩],.false,.false,[]⟩,0,[],.none,.none,.none,.none,.none,.none,.none,0⟩),#[]⟩,
  ⟨.none,.none,(.fields #[]),#[]⟩,
  ⟨.none,.none,(.func ⟨"_law_laid","_law_laid",ofS (stN 33),(.stmts (inS (stN 33))),⟨.function,[⟨"words",.local⟩,⟨"safe",.cell⟩,⟨"laid",.local⟩,⟨"word",.local⟩,⟨"sign",.local⟩],.false,.false,[⟨"fast",(.str "words")⟩,⟨"fast",(.str "safe")⟩,⟨"fast",(.str "laid")⟩,⟨"fast",(.str "word")⟩,⟨"fast",(.str "sign")⟩]⟩,0,[],.none,.none,.none,.none,.none,.none,.none,0⟩),#[]⟩,
  ⟨.none,.none,(.fields #[]),#[]⟩,
  ⟨.none,.none,(.func ⟨"_law_due","_law_due",ofS (stN 34),(.stmts (inS (stN 34))),⟨.function,[⟨"laid",.local⟩,⟨"width",.local⟩,⟨"parts",.local⟩,⟨"many",.local⟩,⟨"behind",.local⟩,⟨"place",.local⟩,⟨"words",.local⟩,⟨"sign",.local⟩,⟨"tells",.local⟩,⟨"len",.globalImplicit⟩,⟨"max",.globalImplicit⟩],.false,.false,[]⟩,0,[],.none,.none,.none,.none,.none,.none,.none,0⟩),#[]⟩,
  ⟨.none,.none,(.fields #[]),#[]⟩]
noncomputable def rest7 (P : Params) : List Obj := [⟨.none,.none,(.func ⟨"_law_told","_law_told",ofS (stN 35),(.stmts (inS (stN 35))),⟨.function,[⟨"line",.local⟩,⟨"fault",.local⟩,⟨"split",.globalImplicit⟩,⟨"ValueError",.globalImplicit⟩,⟨"str",.globalImplicit⟩],.false,.false,[]⟩,0,[],.none,.none,.none,.none,.none,.none,.none,0⟩),#[]⟩,
  ⟨.none,.none,(.fields #[]),#[]⟩,
  ⟨.none,.none,(.func ⟨"law","law",ofS (stN 36),(.stmts (inS (stN 36))),⟨.function,[⟨"script",.local⟩,⟨"drawn",.local⟩,⟨"words",.local⟩,⟨"laid",.local⟩,⟨"line",.local⟩,⟨"width",.local⟩,⟨"_law_words",.globalImplicit⟩,⟨"_law_laid",.globalImplicit⟩,⟨"join_shlex",.globalImplicit⟩,⟨"range",.globalImplicit⟩,⟨"len",.globalImplicit⟩,⟨"_law_told",.globalImplicit⟩,⟨"cram",.globalImplicit⟩,⟨"_law_due",.globalImplicit⟩],.false,.false,[⟨"fast",(.str "script")⟩,⟨"fast",(.str "drawn")⟩,⟨"fast",(.str "x")⟩,⟨"fast",(.str "words")⟩,⟨"fast",(.str "laid")⟩,⟨"fast",(.str "line")⟩,⟨"fast",(.str "part")⟩,⟨"fast",(.str "width")⟩]⟩,0,[],.none,.none,.none,.none,.none,.none,.none,0⟩),#[]⟩]
noncomputable def rest (P : Params) : List Obj := rest0 P ++ rest1 P ++ rest2 P ++ rest3 P ++ rest4 P ++ rest5 P ++ rest6 P ++ rest7 P
end Mine

namespace Mine

open PySem PySem.W PyProof.Rows
noncomputable def alt (b : Bool) (l : List Obj) : List Obj := List.rec (motive := fun _ => Bool → List Obj) (fun _ => []) (fun o _ ih b => match b with | true => o :: ih false | false => ih true) l b
noncomputable def bt (n : Nat) : List Obj → BT := Nat.rec (motive := fun _ => List Obj → BT) (fun _ => .nil) (fun _ ih l => match l with | [] => .nil | o :: l => .node o (ih (alt true l)) (ih (alt false l))) n
noncomputable def lay (n : Nat) : Nat → Frag → List Obj → List Obj := Nat.rec (motive := fun _ => Nat → Frag → List Obj → List Obj) (fun _ _ _ => [])
  (fun _ ih i k r => match k with
    | [] => (match r with | [] => [] | x :: r => x :: ih (Nat.succ i) k r)
    | (a, o) :: k' => match Nat.beq a i with | true => o :: ih (Nat.succ i) k' r | false => (match r with | [] => [] | x :: r => x :: ih (Nat.succ i) k r)) n
noncomputable def T0 (P : Params) : BT := bt 12 (ini P)
noncomputable def T1 (P : Params) : BT := bt 12 (lay 805 0 (hd.heap_1 P) (rest P))
noncomputable def life0 : Life := ⟨[], [], [], 0, [], [], false, #[], [], 0, false, false, false, 0, [2000, 10, 10], false, 0, true, [], [], 0, false⟩
abbrev lawP : Program := PySem.Challenge.rw_mj0256_01.row.prog
noncomputable abbrev gens0 : Array GenState := #[]
noncomputable abbrev drawn0 : Drawn := ⟨0, 0, 0, 0⟩

noncomputable def topT (st : SharedT → Thread → Option (SharedT × Thread)) (ok : Thread → Bool) : Nat → SharedT → Thread → Option SharedT
  | 0, _, _ => none
  | n + 1, s, t => match through t with
    | true => some s
    | false => match ok t with
      | false => none
      | true => match st s t with
        | some (s', t') => topT st ok n s' t'
        | none => none
theorem topT_of {tb : String → Option Builtin} {p : Program} {w : World} {n₀ : Nat} {ann : Option Value} : ∀ {n : Nat} {s s' : SharedT} {t : Thread}, topT (stepT (denote tb) p w) (stepOk n₀ ann) n s t = some s' → topRun tb p w n₀ ann n s.abs t = some s'.abs
  | 0, _, _, _, h => by cases h
  | n + 1, s, s', t, h => by
    unfold topT at h
    unfold topRun
    cases he : through t with
    | true => rw [he] at h; cases h; rfl
    | false =>
      rw [he] at h
      cases hk : stepOk n₀ ann t with
      | false => rw [hk] at h; cases h
      | true =>
        rw [hk] at h
        cases hs : stepT (denote tb) p w s t with
        | none => rw [hs] at h; cases h
        | some r => obtain ⟨s₂, t₂⟩ := r; rw [hs] at h; dsimp only; rw [stepT_spec hs]; exact topT_of h

theorem opens (w : World) : (fencedOpening treeTable lawP w 10398).map (fun s => (s.heap, s.gens, s.drawn, s.toks)) = some (absHeap (T0 w.params) 34 life0, gens0, drawn0, 318) := by
  unfold fencedOpening
  rw [PySem.W.Fast.te10274390034422433532, PySem.W.Fast.te14364793385576792824]
  kernel_rfl
end Mine

namespace Mine

open PySem PySem.W PyProof.Rows
theorem runsT (w : World) (os : OsState) : topT (stepT (denote treeTable) lawP w) (stepOk 34 (some (.ref 6))) 10398 ⟨T0 w.params, 34, life0, gens0, drawn0, 318, os⟩ (topStub lawP)
    = some ⟨T1 w.params, 805, life0, gens0, drawn0, 1323, os⟩ := by
  rw [PySem.W.Fast.te10156331382660048174, PySem.W.Fast.te11892475500146522536, PySem.W.Fast.te14364793385576792824, PySem.W.Fast.te6613529449190102663]
  kernel_rfl
end Mine

namespace Mine

open PySem PySem.W PyProof.Rows
theorem sized (w : World) : ((absHeap (T0 w.params) 34 life0).isNs mainGlobals && gens0.size == 0, (absHeap (T0 w.params) 34 life0).objs.size, (absHeap (T0 w.params) 34 life0).nsMap mainGlobals "__annotations__") = (true, 34, some (.ref 6)) := by
  kernel_rfl
theorem wl1 : sreFenced lawP.main = true := by
  (try rewrite [PySem.W.Fast.te11788848310118352699]; try rewrite [PySem.W.Fast.te9807087744658564304]; try rewrite [PySem.W.Fast.te12862048085361865435]; try rewrite [PySem.W.Fast.te8377067652309620493]; try rewrite [PySem.W.Fast.te18344453789297297638]; try rewrite [PySem.W.Fast.te8326940854005059898]; try rewrite [PySem.W.Fast.te5923862056798008813]; try rewrite [PySem.W.Fast.te17691160309236699985]; try rewrite [PySem.W.Fast.te13343964577679436407]; try rewrite [PySem.W.Fast.te17119622794617984870]; try rewrite [PySem.W.Fast.te17868728402115742887]; try rewrite [PySem.W.Fast.te10501279942588096481]; try rewrite [PySem.W.Fast.te8179353310426384613]; try rewrite [PySem.W.Fast.te797321630700447069]; try rewrite [PySem.W.Fast.te9572597257264208301]; try rewrite [PySem.W.Fast.te9558739934217749035]; try rewrite [PySem.W.Fast.te16286561074155671207]; try rewrite [PySem.W.Fast.te6984425678791042302]; try rewrite [PySem.W.Fast.te10792542408131684335]; try rewrite [PySem.W.Fast.te12879404354523853263]; try rewrite [PySem.W.Fast.te482687673346738481]; try rewrite [PySem.W.Fast.te14412699480532031325]; try rewrite [PySem.W.Fast.te12749700546528644094]; try rewrite [PySem.W.Fast.te2357444279172408678]; try rewrite [PySem.W.Fast.te5318747976498570220]; try rewrite [PySem.W.Fast.te13582783067957832011]; try rewrite [PySem.W.Fast.te4274047373036748609]; try rewrite [PySem.W.Fast.te4857012375875476094])
  kernel_rfl
theorem wl2 : ((moduleNames lawP.main.body).isEmpty || lookedIntoSs (moduleNames lawP.main.body) lawP.main.body) = true := by
  (try rewrite [PySem.W.Fast.te11788848310118352699]; try rewrite [PySem.W.Fast.te9807087744658564304]; try rewrite [PySem.W.Fast.te12862048085361865435]; try rewrite [PySem.W.Fast.te8377067652309620493]; try rewrite [PySem.W.Fast.te18344453789297297638]; try rewrite [PySem.W.Fast.te8326940854005059898]; try rewrite [PySem.W.Fast.te5923862056798008813]; try rewrite [PySem.W.Fast.te17691160309236699985]; try rewrite [PySem.W.Fast.te13343964577679436407]; try rewrite [PySem.W.Fast.te17119622794617984870]; try rewrite [PySem.W.Fast.te17868728402115742887]; try rewrite [PySem.W.Fast.te10501279942588096481]; try rewrite [PySem.W.Fast.te8179353310426384613]; try rewrite [PySem.W.Fast.te797321630700447069]; try rewrite [PySem.W.Fast.te9572597257264208301]; try rewrite [PySem.W.Fast.te9558739934217749035]; try rewrite [PySem.W.Fast.te16286561074155671207]; try rewrite [PySem.W.Fast.te6984425678791042302]; try rewrite [PySem.W.Fast.te10792542408131684335]; try rewrite [PySem.W.Fast.te12879404354523853263]; try rewrite [PySem.W.Fast.te482687673346738481]; try rewrite [PySem.W.Fast.te14412699480532031325]; try rewrite [PySem.W.Fast.te12749700546528644094]; try rewrite [PySem.W.Fast.te2357444279172408678]; try rewrite [PySem.W.Fast.te5318747976498570220]; try rewrite [PySem.W.Fast.te13582783067957832011]; try rewrite [PySem.W.Fast.te4274047373036748609]; try rewrite [PySem.W.Fast.te4857012375875476094])
  kernel_rfl
theorem wl3 : namesResolve lawP = true := by
  (try rewrite [PySem.W.Fast.te11788848310118352699]; try rewrite [PySem.W.Fast.te9807087744658564304]; try rewrite [PySem.W.Fast.te12862048085361865435]; try rewrite [PySem.W.Fast.te8377067652309620493]; try rewrite [PySem.W.Fast.te18344453789297297638]; try rewrite [PySem.W.Fast.te8326940854005059898]; try rewrite [PySem.W.Fast.te5923862056798008813]; try rewrite [PySem.W.Fast.te17691160309236699985]; try rewrite [PySem.W.Fast.te13343964577679436407]; try rewrite [PySem.W.Fast.te17119622794617984870]; try rewrite [PySem.W.Fast.te17868728402115742887]; try rewrite [PySem.W.Fast.te10501279942588096481]; try rewrite [PySem.W.Fast.te8179353310426384613]; try rewrite [PySem.W.Fast.te797321630700447069]; try rewrite [PySem.W.Fast.te9572597257264208301]; try rewrite [PySem.W.Fast.te9558739934217749035]; try rewrite [PySem.W.Fast.te16286561074155671207]; try rewrite [PySem.W.Fast.te6984425678791042302]; try rewrite [PySem.W.Fast.te10792542408131684335]; try rewrite [PySem.W.Fast.te12879404354523853263]; try rewrite [PySem.W.Fast.te482687673346738481]; try rewrite [PySem.W.Fast.te14412699480532031325]; try rewrite [PySem.W.Fast.te12749700546528644094]; try rewrite [PySem.W.Fast.te2357444279172408678]; try rewrite [PySem.W.Fast.te5318747976498570220]; try rewrite [PySem.W.Fast.te13582783067957832011]; try rewrite [PySem.W.Fast.te4274047373036748609]; try rewrite [PySem.W.Fast.te4857012375875476094])
  kernel_rfl
theorem wl4 : (lawP.boundNames.all fun n => !worldNames.contains n) = true := by
  (try rewrite [PySem.W.Fast.te11788848310118352699]; try rewrite [PySem.W.Fast.te9807087744658564304]; try rewrite [PySem.W.Fast.te12862048085361865435]; try rewrite [PySem.W.Fast.te8377067652309620493]; try rewrite [PySem.W.Fast.te18344453789297297638]; try rewrite [PySem.W.Fast.te8326940854005059898]; try rewrite [PySem.W.Fast.te5923862056798008813]; try rewrite [PySem.W.Fast.te17691160309236699985]; try rewrite [PySem.W.Fast.te13343964577679436407]; try rewrite [PySem.W.Fast.te17119622794617984870]; try rewrite [PySem.W.Fast.te17868728402115742887]; try rewrite [PySem.W.Fast.te10501279942588096481]; try rewrite [PySem.W.Fast.te8179353310426384613]; try rewrite [PySem.W.Fast.te797321630700447069]; try rewrite [PySem.W.Fast.te9572597257264208301]; try rewrite [PySem.W.Fast.te9558739934217749035]; try rewrite [PySem.W.Fast.te16286561074155671207]; try rewrite [PySem.W.Fast.te6984425678791042302]; try rewrite [PySem.W.Fast.te10792542408131684335]; try rewrite [PySem.W.Fast.te12879404354523853263]; try rewrite [PySem.W.Fast.te482687673346738481]; try rewrite [PySem.W.Fast.te14412699480532031325]; try rewrite [PySem.W.Fast.te12749700546528644094]; try rewrite [PySem.W.Fast.te2357444279172408678]; try rewrite [PySem.W.Fast.te5318747976498570220]; try rewrite [PySem.W.Fast.te13582783067957832011]; try rewrite [PySem.W.Fast.te4274047373036748609]; try rewrite [PySem.W.Fast.te4857012375875476094])
  kernel_rfl
theorem ro1 : readsOut lawP lawP.main.body "vars" = false := by
  (try rewrite [PySem.W.Fast.te11788848310118352699]; try rewrite [PySem.W.Fast.te9807087744658564304]; try rewrite [PySem.W.Fast.te12862048085361865435]; try rewrite [PySem.W.Fast.te8377067652309620493]; try rewrite [PySem.W.Fast.te18344453789297297638]; try rewrite [PySem.W.Fast.te8326940854005059898]; try rewrite [PySem.W.Fast.te5923862056798008813]; try rewrite [PySem.W.Fast.te17691160309236699985]; try rewrite [PySem.W.Fast.te13343964577679436407]; try rewrite [PySem.W.Fast.te17119622794617984870]; try rewrite [PySem.W.Fast.te17868728402115742887]; try rewrite [PySem.W.Fast.te10501279942588096481]; try rewrite [PySem.W.Fast.te8179353310426384613]; try rewrite [PySem.W.Fast.te797321630700447069]; try rewrite [PySem.W.Fast.te9572597257264208301]; try rewrite [PySem.W.Fast.te9558739934217749035]; try rewrite [PySem.W.Fast.te16286561074155671207]; try rewrite [PySem.W.Fast.te6984425678791042302]; try rewrite [PySem.W.Fast.te10792542408131684335]; try rewrite [PySem.W.Fast.te12879404354523853263]; try rewrite [PySem.W.Fast.te482687673346738481]; try rewrite [PySem.W.Fast.te14412699480532031325]; try rewrite [PySem.W.Fast.te12749700546528644094]; try rewrite [PySem.W.Fast.te2357444279172408678]; try rewrite [PySem.W.Fast.te5318747976498570220]; try rewrite [PySem.W.Fast.te13582783067957832011]; try rewrite [PySem.W.Fast.te4274047373036748609]; try rewrite [PySem.W.Fast.te4857012375875476094])
  kernel_rfl
theorem ro2 : readsOut lawP lawP.main.body "dir" = false := by
  (try rewrite [PySem.W.Fast.te11788848310118352699]; try rewrite [PySem.W.Fast.te9807087744658564304]; try rewrite [PySem.W.Fast.te12862048085361865435]; try rewrite [PySem.W.Fast.te8377067652309620493]; try rewrite [PySem.W.Fast.te18344453789297297638]; try rewrite [PySem.W.Fast.te8326940854005059898]; try rewrite [PySem.W.Fast.te5923862056798008813]; try rewrite [PySem.W.Fast.te17691160309236699985]; try rewrite [PySem.W.Fast.te13343964577679436407]; try rewrite [PySem.W.Fast.te17119622794617984870]; try rewrite [PySem.W.Fast.te17868728402115742887]; try rewrite [PySem.W.Fast.te10501279942588096481]; try rewrite [PySem.W.Fast.te8179353310426384613]; try rewrite [PySem.W.Fast.te797321630700447069]; try rewrite [PySem.W.Fast.te9572597257264208301]; try rewrite [PySem.W.Fast.te9558739934217749035]; try rewrite [PySem.W.Fast.te16286561074155671207]; try rewrite [PySem.W.Fast.te6984425678791042302]; try rewrite [PySem.W.Fast.te10792542408131684335]; try rewrite [PySem.W.Fast.te12879404354523853263]; try rewrite [PySem.W.Fast.te482687673346738481]; try rewrite [PySem.W.Fast.te14412699480532031325]; try rewrite [PySem.W.Fast.te12749700546528644094]; try rewrite [PySem.W.Fast.te2357444279172408678]; try rewrite [PySem.W.Fast.te5318747976498570220]; try rewrite [PySem.W.Fast.te13582783067957832011]; try rewrite [PySem.W.Fast.te4274047373036748609]; try rewrite [PySem.W.Fast.te4857012375875476094])
  kernel_rfl
theorem ro3 : readsOut lawP lawP.main.body "locals" = false := by
  (try rewrite [PySem.W.Fast.te11788848310118352699]; try rewrite [PySem.W.Fast.te9807087744658564304]; try rewrite [PySem.W.Fast.te12862048085361865435]; try rewrite [PySem.W.Fast.te8377067652309620493]; try rewrite [PySem.W.Fast.te18344453789297297638]; try rewrite [PySem.W.Fast.te8326940854005059898]; try rewrite [PySem.W.Fast.te5923862056798008813]; try rewrite [PySem.W.Fast.te17691160309236699985]; try rewrite [PySem.W.Fast.te13343964577679436407]; try rewrite [PySem.W.Fast.te17119622794617984870]; try rewrite [PySem.W.Fast.te17868728402115742887]; try rewrite [PySem.W.Fast.te10501279942588096481]; try rewrite [PySem.W.Fast.te8179353310426384613]; try rewrite [PySem.W.Fast.te797321630700447069]; try rewrite [PySem.W.Fast.te9572597257264208301]; try rewrite [PySem.W.Fast.te9558739934217749035]; try rewrite [PySem.W.Fast.te16286561074155671207]; try rewrite [PySem.W.Fast.te6984425678791042302]; try rewrite [PySem.W.Fast.te10792542408131684335]; try rewrite [PySem.W.Fast.te12879404354523853263]; try rewrite [PySem.W.Fast.te482687673346738481]; try rewrite [PySem.W.Fast.te14412699480532031325]; try rewrite [PySem.W.Fast.te12749700546528644094]; try rewrite [PySem.W.Fast.te2357444279172408678]; try rewrite [PySem.W.Fast.te5318747976498570220]; try rewrite [PySem.W.Fast.te13582783067957832011]; try rewrite [PySem.W.Fast.te4274047373036748609]; try rewrite [PySem.W.Fast.te4857012375875476094])
  kernel_rfl
theorem wl5a : (["vars", "dir", "locals"] : List Str).filter (readsOut lawP lawP.main.body) = [] := by
  have step : ∀ (f : Str → Bool) (a b c : Str), f a = false → f b = false → f c = false → [a, b, c].filter f = [] := fun f a b c x y z => by
    simp only [List.filter, x, y, z]
  exact step _ _ _ _ ro1 ro2 ro3
theorem wl5b : (!(importedModules lawP.main.body).all cThrough.contains) = false := by
  (try rewrite [PySem.W.Fast.te11788848310118352699]; try rewrite [PySem.W.Fast.te9807087744658564304]; try rewrite [PySem.W.Fast.te12862048085361865435]; try rewrite [PySem.W.Fast.te8377067652309620493]; try rewrite [PySem.W.Fast.te18344453789297297638]; try rewrite [PySem.W.Fast.te8326940854005059898]; try rewrite [PySem.W.Fast.te5923862056798008813]; try rewrite [PySem.W.Fast.te17691160309236699985]; try rewrite [PySem.W.Fast.te13343964577679436407]; try rewrite [PySem.W.Fast.te17119622794617984870]; try rewrite [PySem.W.Fast.te17868728402115742887]; try rewrite [PySem.W.Fast.te10501279942588096481]; try rewrite [PySem.W.Fast.te8179353310426384613]; try rewrite [PySem.W.Fast.te797321630700447069]; try rewrite [PySem.W.Fast.te9572597257264208301]; try rewrite [PySem.W.Fast.te9558739934217749035]; try rewrite [PySem.W.Fast.te16286561074155671207]; try rewrite [PySem.W.Fast.te6984425678791042302]; try rewrite [PySem.W.Fast.te10792542408131684335]; try rewrite [PySem.W.Fast.te12879404354523853263]; try rewrite [PySem.W.Fast.te482687673346738481]; try rewrite [PySem.W.Fast.te14412699480532031325]; try rewrite [PySem.W.Fast.te12749700546528644094]; try rewrite [PySem.W.Fast.te2357444279172408678]; try rewrite [PySem.W.Fast.te5318747976498570220]; try rewrite [PySem.W.Fast.te13582783067957832011]; try rewrite [PySem.W.Fast.te4274047373036748609]; try rewrite [PySem.W.Fast.te4857012375875476094])
  kernel_rfl
theorem wl5 : noRoadLSs { strict := !(importedModules lawP.main.body).all cThrough.contains, foot := none, bare := (["vars", "dir", "locals"] : List Str).filter (readsOut lawP lawP.main.body) } lawP.main.body = true := by
  rw [wl5a, wl5b]
  (try rewrite [PySem.W.Fast.te11788848310118352699]; try rewrite [PySem.W.Fast.te9807087744658564304]; try rewrite [PySem.W.Fast.te12862048085361865435]; try rewrite [PySem.W.Fast.te8377067652309620493]; try rewrite [PySem.W.Fast.te18344453789297297638]; try rewrite [PySem.W.Fast.te8326940854005059898]; try rewrite [PySem.W.Fast.te5923862056798008813]; try rewrite [PySem.W.Fast.te17691160309236699985]; try rewrite [PySem.W.Fast.te13343964577679436407]; try rewrite [PySem.W.Fast.te17119622794617984870]; try rewrite [PySem.W.Fast.te17868728402115742887]; try rewrite [PySem.W.Fast.te10501279942588096481]; try rewrite [PySem.W.Fast.te8179353310426384613]; try rewrite [PySem.W.Fast.te797321630700447069]; try rewrite [PySem.W.Fast.te9572597257264208301]; try rewrite [PySem.W.Fast.te9558739934217749035]; try rewrite [PySem.W.Fast.te16286561074155671207]; try rewrite [PySem.W.Fast.te6984425678791042302]; try rewrite [PySem.W.Fast.te10792542408131684335]; try rewrite [PySem.W.Fast.te12879404354523853263]; try rewrite [PySem.W.Fast.te482687673346738481]; try rewrite [PySem.W.Fast.te14412699480532031325]; try rewrite [PySem.W.Fast.te12749700546528644094]; try rewrite [PySem.W.Fast.te2357444279172408678]; try rewrite [PySem.W.Fast.te5318747976498570220]; try rewrite [PySem.W.Fast.te13582783067957832011]; try rewrite [PySem.W.Fast.te4274047373036748609]; try rewrite [PySem.W.Fast.te4857012375875476094])
  kernel_rfl
theorem wl6 : (namesMeet lawP lawP.main.body fun _ n => attrL n) = true := by
  (try rewrite [PySem.W.Fast.te11788848310118352699]; try rewrite [PySem.W.Fast.te9807087744658564304]; try rewrite [PySem.W.Fast.te12862048085361865435]; try rewrite [PySem.W.Fast.te8377067652309620493]; try rewrite [PySem.W.Fast.te18344453789297297638]; try rewrite [PySem.W.Fast.te8326940854005059898]; try rewrite [PySem.W.Fast.te5923862056798008813]; try rewrite [PySem.W.Fast.te17691160309236699985]; try rewrite [PySem.W.Fast.te13343964577679436407]; try rewrite [PySem.W.Fast.te17119622794617984870]; try rewrite [PySem.W.Fast.te17868728402115742887]; try rewrite [PySem.W.Fast.te10501279942588096481]; try rewrite [PySem.W.Fast.te8179353310426384613]; try rewrite [PySem.W.Fast.te797321630700447069]; try rewrite [PySem.W.Fast.te9572597257264208301]; try rewrite [PySem.W.Fast.te9558739934217749035]; try rewrite [PySem.W.Fast.te16286561074155671207]; try rewrite [PySem.W.Fast.te6984425678791042302]; try rewrite [PySem.W.Fast.te10792542408131684335]; try rewrite [PySem.W.Fast.te12879404354523853263]; try rewrite [PySem.W.Fast.te482687673346738481]; try rewrite [PySem.W.Fast.te14412699480532031325]; try rewrite [PySem.W.Fast.te12749700546528644094]; try rewrite [PySem.W.Fast.te2357444279172408678]; try rewrite [PySem.W.Fast.te5318747976498570220]; try rewrite [PySem.W.Fast.te13582783067957832011]; try rewrite [PySem.W.Fast.te4274047373036748609]; try rewrite [PySem.W.Fast.te4857012375875476094])
  kernel_rfl
theorem wellL : looksOpen lawP = true := by
  unfold looksOpen
  exact look_both (look_both (look_both (look_both (look_both wl1 wl2) wl3) wl4) wl5) wl6
theorem wellR : PySem.Challenge.rw_mj0256_01.row.wellSaid = true := by
  unfold OpenRow.wellSaid OpenRow.partSaid
  repeat' with_reducible refine look_both ?_ ?_
  all_goals first
    | with_reducible exact wellL
    | ((try rewrite [PySem.W.Fast.te11788848310118352699]; try rewrite [PySem.W.Fast.te9807087744658564304]; try rewrite [PySem.W.Fast.te12862048085361865435]; try rewrite [PySem.W.Fast.te8377067652309620493]; try rewrite [PySem.W.Fast.te18344453789297297638]; try rewrite [PySem.W.Fast.te8326940854005059898]; try rewrite [PySem.W.Fast.te5923862056798008813]; try rewrite [PySem.W.Fast.te17691160309236699985]; try rewrite [PySem.W.Fast.te13343964577679436407]; try rewrite [PySem.W.Fast.te17119622794617984870]; try rewrite [PySem.W.Fast.te17868728402115742887]; try rewrite [PySem.W.Fast.te10501279942588096481]; try rewrite [PySem.W.Fast.te8179353310426384613]; try rewrite [PySem.W.Fast.te797321630700447069]; try rewrite [PySem.W.Fast.te9572597257264208301]; try rewrite [PySem.W.Fast.te9558739934217749035]; try rewrite [PySem.W.Fast.te16286561074155671207]; try rewrite [PySem.W.Fast.te6984425678791042302]; try rewrite [PySem.W.Fast.te10792542408131684335]; try rewrite [PySem.W.Fast.te12879404354523853263]; try rewrite [PySem.W.Fast.te482687673346738481]; try rewrite [PySem.W.Fast.te14412699480532031325]; try rewrite [PySem.W.Fast.te12749700546528644094]; try rewrite [PySem.W.Fast.te2357444279172408678]; try rewrite [PySem.W.Fast.te5318747976498570220]; try rewrite [PySem.W.Fast.te13582783067957832011]; try rewrite [PySem.W.Fast.te4274047373036748609]; try rewrite [PySem.W.Fast.te4857012375875476094])
       kernel_rfl)
theorem wellS : PySem.Challenge.rw_mj0256_01.wellSaid = true := by
  unfold OpenLaw.wellSaid
  repeat' with_reducible refine look_both ?_ ?_
  all_goals first
    | with_reducible exact wellR
    | ((try rewrite [PySem.W.Fast.te11788848310118352699]; try rewrite [PySem.W.Fast.te9807087744658564304]; try rewrite [PySem.W.Fast.te12862048085361865435]; try rewrite [PySem.W.Fast.te8377067652309620493]; try rewrite [PySem.W.Fast.te18344453789297297638]; try rewrite [PySem.W.Fast.te8326940854005059898]; try rewrite [PySem.W.Fast.te5923862056798008813]; try rewrite [PySem.W.Fast.te17691160309236699985]; try rewrite [PySem.W.Fast.te13343964577679436407]; try rewrite [PySem.W.Fast.te17119622794617984870]; try rewrite [PySem.W.Fast.te17868728402115742887]; try rewrite [PySem.W.Fast.te10501279942588096481]; try rewrite [PySem.W.Fast.te8179353310426384613]; try rewrite [PySem.W.Fast.te797321630700447069]; try rewrite [PySem.W.Fast.te9572597257264208301]; try rewrite [PySem.W.Fast.te9558739934217749035]; try rewrite [PySem.W.Fast.te16286561074155671207]; try rewrite [PySem.W.Fast.te6984425678791042302]; try rewrite [PySem.W.Fast.te10792542408131684335]; try rewrite [PySem.W.Fast.te12879404354523853263]; try rewrite [PySem.W.Fast.te482687673346738481]; try rewrite [PySem.W.Fast.te14412699480532031325]; try rewrite [PySem.W.Fast.te12749700546528644094]; try rewrite [PySem.W.Fast.te2357444279172408678]; try rewrite [PySem.W.Fast.te5318747976498570220]; try rewrite [PySem.W.Fast.te13582783067957832011]; try rewrite [PySem.W.Fast.te4274047373036748609]; try rewrite [PySem.W.Fast.te4857012375875476094])
       kernel_rfl)
end Mine

namespace Mine

open PySem PySem.W PyProof.Rows
abbrev lawR : RowW := OpenRow.toRowW PySem.Challenge.rw_mj0256_01.row
noncomputable def as0 : List Addr := [2,3,38,40,41,43,44,45,47,48,50,51,55,56,57,59,60,62,63,64,66,67,69,70,71,78,79,80,81,91,93,94,96,97,98,99,100,101,102,103,106,113,114,115,118,125,126,127,130,137,138,140,141,143,144,145,147,148,150,151,152,154,155,157,158,159,161,162,164,165,166,167,169,170,172,173,174,176,177,179,180,181,183,184,186,187,188,190,191,193,194,195,197,198,200,201,202,204,205,207,208,209,211,212,214,215,216,218,219,221,222,223,225,226,228,229,230,232,233,235,236,237,239,240,242,243,244,246,247,249,250,251,253,254,256,257,258,259,261,262,264,265,266,267,269,270,272,273,274,275,277,278,280,281,282,283,285,286,288,289,290,292,293,295,296,297,299,300,302,303,304,305,307,308,310,311,312,313,315,316,318,319,320,322,323,325,326,327,329,330,332,333,334,336,337,339,340,341,343,344,346,347,348,350,351,353,354,355,356,357,360,367,368,370,371,373,374,375,377,378,380,381,382,384,385,387,388,389,391,392,394,395,396,398,399,401,402,403,405,406,408,409,410,411,413,414,416,417,418,419,421,422,424,425,426,427,429,430,432,433,434,435,437,438,440,441,442,443,445,446,448,449,450,452,453,455,456,457,459,460,462,463,464,466,467,469,470,471,473,474,476,477,478,480,481,483,484,485,487,488,490,491,492,494,495,497,498,499,501,502,504,505,506,508,509,511,512,513,515,516,518,519,520,522,523,525,526,527,528,530,531,533,534,535,536,538,539,541,542,543,544,546,547,549,550,551,552,554,555,557,558,559,560,562,563,565,566,567,569,570,572,573,574,576,577,579,580,581,583,584,586,587,588,590,591,593,594,595,597,598,600,601,602,603,604,607,609,610,612,613,614,616,617,619,620,621,623,624,626,627,628,630,631,633,634,635,637,638,640,641,642,644,645,647,648,656,657,659,660,662,663,664,666,667,669,670,671,672,674,675,677,678,679,680,682,683,685,686,687,689,690,692,693,694,696,697,699,700,701,703,704,706,707,708,710,711,713,714,715,716,718,719,721,722,723,725,726,728,729,730,732,733,735,736,737,738,739,740,741,744,745,747,748,750,751,752,754,755,757,758,759,760,762,763,765,766,767,769,770,772,773,774,776,777,779,780,781,784,785,786,788,789,791,792,793,795,796,798,799,800,803,804]
noncomputable def hook : Hook := kHook hd.heap_1 as0 (fun _ => by kernel_rfl)
abbrev looseL : List Str := [Str.ofString "_twin_re_1", Str.ofString "UnsupportedOperation", Str.ofString "IOBase", Str.ofString "BufferedIOBase", Str.ofString "TextIOBase", Str.ofString "BytesIO", Str.ofString "StringIO", Str.ofString "join_path", Str.ofString "shlex", Str.ofString "split", Str.ofString "join_shlex", Str.ofString "_find_unsafe"]
theorem look1 (w : World) (os : OsState) : (staticsOk (importedModules lawP.main.body) (absHeap (T0 w.params) 34 life0) (absHeap (T1 w.params) 805 life0) && namesBound lawP (absHeap (T1 w.params) 805 life0) && gensDone ⟨absHeap (T1 w.params) 805 life0, gens0, drawn0, 1323, os⟩
    && laidKept (absHeap (T0 w.params) 34 life0) (absHeap (T1 w.params) 805 life0)) = true := by
  kernel_rfl
theorem get_abs (t : BT) (n : Nat) (life : Life) : (absHeap t n life).get? = fun a => match Nat.blt a n with | true => alive ((t.get a).getD default) | false => none := by
  funext a
  unfold Heap.get?
  rw [absHeap_at]
  by_cases h : a < n
  · rw [if_pos h, (Nat.blt_eq).mpr h]
    show _ = alive ((t.get a).getD default)
    generalize (t.get a).getD default = o
    unfold alive
    rcases o with ⟨c, d, x, s⟩
    cases x <;> rfl
  · rw [if_neg h, Bool.eq_false_iff.mpr (fun e => h (Nat.blt_eq.mp e))]
theorem look2 (w : World) (os : OsState) : hook.obs ⟨absHeap (T1 w.params) 805 life0, gens0, drawn0, 1323, os⟩ = hook.val w := by
  show as0.map (absHeap (T1 w.params) 805 life0).get? = (hd.heap_1 w.params).map fun p => some p.2
  rw [get_abs]
  kernel_rfl
theorem look3 (w : World) (os : OsState) : openSeen hd.view_1 looseL (importedModules lawP.main.body) (fun s => xlAt hd.view_1 [] s && recOk (RowW.records lawR) s) true ⟨absHeap (T1 w.params) 805 life0, gens0, drawn0, 1323, os⟩ = openGood hd.view_1 looseL := by
  rw [PySem.W.Fast.te4187177175401517315]
  kernel_rfl
end Mine

namespace Mine

open PySem PySem.W PyProof.Rows
theorem left0 : LeftO lawP hd.view_1 looseL (fun s => xlAt hd.view_1 [] s && recOk (RowW.records lawR) s) hook.obs hook.val 10398 :=
  LeftO.of_pieces (H₀ := fun P => absHeap (T0 P) 34 life0) (H₁ := fun P => absHeap (T1 P) 805 life0) (M := 10398) opens sized (fun w os => topT_of (runsT w os)) rfl
    (fun w => funext fun os => congr (congrArg Prod.mk (look1 w os)) (congr (congrArg Prod.mk (look3 w os)) (look2 w os)))
theorem bare0 : PySem.Challenge.rw_mj0256_01.row.prog.bare := ⟨rfl, rfl, rfl, rfl, rfl, by decide +kernel⟩
theorem ok0 : (chainsOk hd.view_1 && opensWell lawP && (frees lawR && lawR.within.isEmpty)) = true := by decide +kernel
theorem promised0 : lawR.promised := by w_witness2
end Mine

namespace Mine
open PySem PySem.W PyProof.Rows PySem.Calls PySem.Spec
theorem fill0 (P : Params) : PySem.Challenge.rw_mj0256_01 = PySem.Challenge.rw_mj0256_01 → (hd.heap_1 P) = (hd.heap_1 P) := by
  k_fill
  intro _; rfl

/-- a call of a def of the text: the ledger `mu` is what the callee may change, all else stays -/
theorem code_defS {prog : Program} {w : World} {A A₀ : Around} {s : Shared} {K : Frag} {L : Addr} {h₀ base : Heap} {m mg mb : Str → Option Value} {p : Program} {loose : List Str} {mean : ExcName → Option Value} {mu : List (Addr × Obj)}
    {env : Env} {outer : List Env} {R : Result → Shared → Prop} {name qual : Str} {params : Arguments} {body : List Stmt} {scope : Scope} {dV kV doc pm cdv ct oc : Value} {an od : Option Addr} {osl : Array (Option Value)} {f : Addr} {args : Args} {binds : List (Str × Value)}
    (B : Below A₀ base outer h₀) (F : Fr h₀ L s.heap m) (X₀ : K.In h₀) (N : News h₀ L s.heap mu) (T : Top p loose mean mg mb h₀) (hA : A.frames = some (env :: outer)) (hf : env.frame = some L) (hke : env.scope.kind = .function)
    (ho : K.lookup f = some ⟨oc, od, .func (fnOf name qual params body scope dV kV doc pm an cdv ct), osl⟩) (hcd : codeIn K cdv qual = true) (hroom : A.depth < recursionLimit)
    (hbind : BindsTo s (fnOf name qual params body scope dV kV doc pm an cdv ct) args binds) (hloc : ∀ y ∈ binds, scope.names.lookup y.1 = some .local)
    (h : ∀ g L' h₁, g = hideAll s.heap (mu.map (·.1)) → Fr h₀ L g m → Fr g L' h₁ (fun y => binds.reverse.lookup y) → News g L' h₁ mu → Below A base (env :: outer) g → K.In g → Top p loose mean mg mb g → (∀ q ∈ mu, q.1 < L') →
      wpAny (model prog w) (A.deeper (envOf qual scope L' f cdv)) (execs body (envOf qual scope L' f cdv))
        (fun fl s' => LeaveK h₀ L m g (fun r s'' => g.StaysIn s''.heap → R r s'') (match fl with | .ret v => v | _ => .none) s')
        (fun e s' => wpAny (model prog w) (A.deeper (envOf qual scope L' f cdv)) (leaving (envOf qual scope L' f cdv) e) (fun _ s'' => R (.error e) s'') (fun e' s'' => R (.error e') s'') s')
        { s with heap := h₁, toks := s.toks + binds.length })
    (hco : scope.isCoroutine = false) (hgen : scope.isGenerator = false) (hk : scope.kind = .function)
    (hcell : ∀ x ∈ scope.names, x.2 ≠ .cell) : codeAny (model prog w) A (.call (.ref f) args) R s := by
  obtain ⟨FG, BG, st, lv⟩ := groundX (R := R) B F N hA hf hke
  refine codeAny_call_def (fd := fnX name qual params body scope [] dV kV doc pm an cdv ct) (body := body) (binds := binds) hroom ((X₀.keeps F.keep) _ _ ho) rfl (T.nolimit.keeps F.keep) (codeRec_of (X₀.keeps F.keep) hcd) rfl hbind hcell hloc (fun h₁ hns hk₁ => ?_) hco hgen hk
  refine wpAny_mono (h _ s.heap.objs.size h₁ rfl FG ⟨hns, fun b o e => hk₁ b o (of_hideAll _ e), Nat.le_of_eq (hideAll_size _ _)⟩
    (fun p hp => ⟨hk₁ _ _ (N p hp).1, Nat.ne_of_lt (Heap.lt_size (N p hp).1), hideAll_none _ (List.mem_map_of_mem hp)⟩) BG (X₀.keeps st) (T.keeps st) (fun p hp => Heap.lt_size (N p hp).1)) (fun fl s' hl => ?_) fun _ _ y => y
  obtain ⟨L', m', news', F', N', k⟩ := hl
  exact lv _ _ ⟨L', m', news', F', N', fun a b => k a b F'.keep⟩

theorem news_stays {h₀ h h' : Heap} {L : Addr} {news : List (Addr × Obj)} (N : News h₀ L h news) (st : h.StaysIn h') : News h₀ L h' news :=
  fun p hp => ⟨st _ _ (N p hp).1, (N p hp).2⟩
theorem news_hide {h₀ h h' : Heap} {L : Addr} {news : List (Addr × Obj)} {as : List Addr} (N : News h₀ L h news) (hd : ∀ p ∈ news, p.1 ∉ as) (st : (hideAll h as).StaysIn h') : News h₀ L h' news :=
  fun p hp => ⟨st _ _ (hideAll_get as (N p hp).1 (hd p hp)), (N p hp).2⟩
theorem news_both {h₀ h : Heap} {L : Addr} {n1 n2 : List (Addr × Obj)} (N : News h₀ L h n1) (N' : News h₀ L h n2) : News h₀ L h (n1 ++ n2) :=
  fun p hp => (List.mem_append.mp hp).elim (N p) (N' p)

/-- more room, the same tree -/
theorem wpAny_room {α : Type} {M : Model} {A A' : Around} {t : Sem α} {Q : α → Shared → Prop} {E : Value → Shared → Prop} {s : Shared} (h : wpAny M A' t Q E s)
    (h1 : A.handled = A'.handled) (h2 : A.depth ≤ A'.depth) (h3 : A.frames = A'.frames) (h4 : A.guards = A'.guards) (h5 : A.units ≤ A'.units) : wpAny M A t Q E s :=
  fun Γ p hΓ => h Γ p ⟨hΓ.1.trans h1, Nat.le_trans hΓ.2.1 h2, fun l hl => hΓ.2.2.1 l (h3.trans hl), fun g hg => hΓ.2.2.2.1 g (h4.trans hg), Nat.le_trans hΓ.2.2.2.2 h5⟩
end Mine

namespace Mine
open PySem PyProof.Rows
/-- no backslash in it, and code points all -/
noncomputable def NoBs (x : Str) : Prop := ∀ c ∈ x.cps, c ≠ 92 ∧ c < 1114112
theorem noBs_item {x : Str} {i : Int} (h : NoBs x) : NoBs (Txt.item x i) := by
  intro c hc
  unfold Txt.item at hc
  simp only [List.mem_toArray, List.mem_singleton] at hc
  subst hc
  unfold Txt.charAt
  cases hq : (seqIndex? i x.length).bind (x.cps[·]?) with
  | none => simp
  | some d =>
    obtain ⟨j, _, hj⟩ := Option.bind_eq_some_iff.mp hq
    exact h d (Array.mem_of_getElem? hj)
theorem item_len (x : Str) (i : Int) : (Txt.item x i).length ≤ 1 := Nat.le_refl 1
theorem noBs_char {c : Nat} (h : ((⟨#[c]⟩ : Str) == Str.ofString "\\") = false) (hc : c < 1114112) : NoBs ⟨#[c]⟩ := by
  intro d hd
  simp only [List.mem_toArray, List.mem_singleton] at hd
  subst hd
  refine ⟨fun e => ?_, hc⟩
  subst e
  revert h; decide
noncomputable def noBsB (x : Str) : Bool := x.cps.all fun c => c != 92 && decide (c < 1114112)
theorem noBs_of {x : Str} (h : noBsB x = true) : NoBs x := by
  intro c hc
  have := (Array.all_eq_true'.mp h) c hc
  simpa using this
theorem noBs_append {x y : Str} (h : NoBs x) (h' : NoBs y) : NoBs (x ++ y) := by
  intro c hc
  rcases Array.mem_append.mp hc with q | q
  · exact h c q
  · exact h' c q
theorem strOk_of {x : Str} (h : NoBs x) : PyData.strOk x = true := by
  unfold PyData.strOk
  rw [Array.all_eq_true']
  intro c hc
  exact decide_eq_true (h c hc).2
theorem getD_all {P : Str → Prop} {l : List Str} {d : Str} (h : ∀ x ∈ l, P x) (hd : P d) (i : Nat) : P (l.getD i d) := by
  rw [List.getD_eq_getElem?_getD]
  cases hq : l[i]? with
  | none => exact hd
  | some x => exact h x (List.mem_of_getElem? hq)
/-- what cram gives -/
noncomputable def cramOf (x : Str) (n : Int) : Str :=
  if n < (x.length : Int) then
    Txt.slice x none (some (if (n - 3).fdiv 2 > 0 then (n - 3).fdiv 2 else 0)) ++ Str.ofString "..." ++
      Txt.slice x (some ((x.length : Int) - if (n - 3 - if (n - 3).fdiv 2 > 0 then (n - 3).fdiv 2 else 0) > 0 then n - 3 - if (n - 3).fdiv 2 > 0 then (n - 3).fdiv 2 else 0 else 0)) none
  else x
theorem slice_nat (x : Str) {a b : Nat} (hab : a ≤ b) (hb : b ≤ x.length) : Txt.slice x (some (a : Int)) (some (b : Int)) = ⟨((x.cps.toList.drop a).take (b - a)).toArray⟩ := StrLaws.sliceText_nat x hab hb
theorem slice_char {x : Str} {a : Nat} {c : Nat} (hc : x.cps[a]? = some c) : Txt.slice x (some (a : Int)) (some ((a : Int) + 1)) = ⟨#[c]⟩ := by
  obtain ⟨hlt, he⟩ := Array.getElem?_eq_some_iff.mp hc
  have e := slice_nat x (a := a) (b := a + 1) (Nat.le_succ a) hlt
  have e2 : (((a + 1 : Nat) : Int)) = (a : Int) + 1 := rfl
  rw [e2] at e
  rw [e]
  have h1 : a + 1 - a = 1 := by omega
  rw [h1]
  have h2 : (x.cps.toList.drop a).take 1 = [c] := by
    rw [List.drop_eq_getElem_cons (by simpa using hlt)]
    simp [he]
  rw [h2]
theorem lt_of_at {x : Str} {a : Nat} {c : Nat} (hc : x.cps[a]? = some c) : a < x.length := (Array.getElem?_eq_some_iff.mp hc).1
end Mine

namespace Mine
open PySem PySem.W PyProof.Rows PySem.Calls PySem.Spec
section
variable {prog : Program} {w : World} {A : Around} {E : Value → Shared → Prop} {s : Shared} {env : Env} {h₀ : Heap} {x : Str} {body : List Stmt} {Q : Flow → Shared → Prop}
noncomputable def TEnd (h₀ : Heap) (L : Addr) (x : Str) (stored : List Str) (m₀ : Str → Option Value) (I : Addr) (o : Obj) (Jn : List (Addr × Obj) → Prop) (s₁ s₂ : Shared) : Prop :=
  ∃ h' tk m' news', s₂ = { s₁ with heap := h', toks := tk } ∧ Fr h₀ L h' m' ∧ News h₀ L h' ((I, o) :: news') ∧ (∀ p ∈ news', p.1 ≠ I) ∧ Jn news' ∧ ∀ y, y ≠ x → stored.contains y = false → m' y = m₀ y
noncomputable def TPost (h₀ : Heap) (L : Addr) (x : Str) (stored : List Str) (m₀ : Str → Option Value) (I : Addr) (o : Obj) (Jn : List (Addr × Obj) → Prop) (s₁ : Shared) (Q : Flow → Shared → Prop) (f : Flow) (s₂ : Shared) : Prop :=
  match f with
  | .ret v => Q (.ret v) s₂
  | .brk => Q .next s₂
  | _ => TEnd h₀ L x stored m₀ I o Jn s₁ s₂
theorem TEnd.intro {L I : Addr} {o : Obj} {stored : List Str} {m₀ m' : Str → Option Value} {Jn : List (Addr × Obj) → Prop} {news' : List (Addr × Obj)} {s₁ : Shared} {h' : Heap} {tk : Nat} (F : Fr h₀ L h' m') (N : News h₀ L h' ((I, o) :: news'))
    (hI : ∀ p ∈ news', p.1 ≠ I) (hj : Jn news') (hm : ∀ y, y ≠ x → stored.contains y = false → m' y = m₀ y) : TEnd h₀ L x stored m₀ I o Jn s₁ { s₁ with heap := h', toks := tk } := ⟨h', tk, m', news', rfl, F, N, hI, hj, hm⟩
theorem loop_gen {I : Addr} {fp wr : List Addr} {n : Nat} {P : Nat → Value → Prop} {St : Nat → Heap → Prop} {m₀ : Str → Option Value} {news : List (Addr × Obj)} (stored : List Str) (J : Nat → List (Addr × Obj) → Prop)
    (W : Walks prog w A I fp wr n P St) (hIw : I ∈ wr) (hwI : ∀ b ∈ wr, b = I) (hfp : ∀ b ∈ fp, b = I ∨ (∃ q, h₀.get? b = some q) ∨ ∃ ob, ∀ i nw, J i nw → (b, ob) ∈ nw) (hI0 : h₀.get? I = none) (hob : ∀ i h, St i h → ∃ o, h.get? I = some o)
    (hLf : env.locals ∉ fp) (hnI : ∀ p ∈ news, p.1 ≠ I) (hst : St 0 s.heap) (F : Fr h₀ env.locals s.heap m₀) (N : News h₀ env.locals s.heap news) (hj : J 0 news)
    (turn : ∀ i v (u : Str → Option Value) news₁ h tk o, i < n → P i v → J i news₁ → (∀ p ∈ news₁, p.1 ≠ I) → Fr h₀ env.locals h (fun y => if y = x then some v else if stored.contains y then u y else m₀ y) → News h₀ env.locals h ((I, o) :: news₁) →
      wpAny (model prog w) A (execs body env) (TPost h₀ env.locals x stored m₀ I o (J (i + 1)) { s with heap := h, toks := tk } Q) E { s with heap := h, toks := tk })
    (done : ∀ (u : Str → Option Value) news₁ h tk, J n news₁ → Fr h₀ env.locals h (fun y => if y = x then u y else if stored.contains y then u y else m₀ y) → News h₀ env.locals h news₁ → Q .next { s with heap := h, toks := tk }) :
    LoopAtV prog w A h₀ env x body Q E (.ref I) s := by
  let J' : Nat → (Str → Option Value) → List (Addr × Obj) → Prop := fun i m₁ news₁ => J i news₁ ∧ ∀ y, y ≠ x → stored.contains y = false → m₁ y = m₀ y
  refine ⟨I, fp, wr, n, P, St, m₀, news, J', rfl, W, hLf, (fun b hb => hwI b hb ▸ hI0), (fun p hp hw => hnI p hp (hwI _ hw)), hst, F, N, ⟨hj, fun _ _ _ => rfl⟩, ?_, ?_⟩
  · rintro i v m₁ news₁ s₁ own ⟨hh', tk', rfl⟩ hin hP ⟨hJ, hm⟩ hoff hown howh hall hst' F₁ N₁
    have e : (fun y => if y = x then some v else m₁ y) = fun y => if y = x then some v else if stored.contains y then m₁ y else m₀ y := by
      funext y
      by_cases h1 : y = x
      · simp [h1]
      · simp only [if_neg h1]
        cases h2 : stored.contains y with
        | true => simp
        | false => simp only [Bool.false_eq_true, if_false]; exact hm y h1 h2
    rw [e] at F₁
    obtain ⟨o, ho⟩ := hob _ _ hst'
    have hio : (I, o) ∈ own := hall I (W.sub _ hIw) hI0 o ho
    have hne : ∀ p ∈ news₁, p.1 ≠ I := fun p hp q => hoff p hp (q ▸ hIw)
    have N₂ : News h₀ env.locals hh' ((I, o) :: news₁) := fun p hp => by
      rcases List.mem_cons.mp hp with rfl | hp
      · exact N₁ _ (List.mem_append_left _ hio)
      · exact N₁ _ (List.mem_append_right _ hp)
    refine wpAny_mono (turn i v m₁ news₁ hh' tk' o hin hP hJ hne F₁ N₂) (fun f s₂ p => ?_) fun _ _ e => e
    have fin : TEnd h₀ env.locals x stored m₀ I o (J (i + 1)) { s with heap := hh', toks := tk' } s₂ → LoopStepU h₀ env.locals wr own (J' (i + 1)) { s with heap := hh', toks := tk' } .next s₂ := by
      rintro ⟨h', tk, m', news', e, F', N', hI', hj', hm'⟩
      refine ⟨rfl, h', tk, m', news', e, F', fun p hp => ?_, (fun p hp hw => hI' p hp (hwI _ hw)), hj', hm'⟩
      rcases List.mem_append.mp hp with hp | hp
      · rcases hfp p.1 (hown p hp) with e1 | ⟨q, hq⟩ | ⟨ob, hb⟩
        · have h1 := (N₁ p (List.mem_append_left _ hp)).1
          rw [e1] at h1
          have h2 : p.2 = o := (Option.some.inj (ho.symm.trans h1)).symm
          have : p = (I, o) := Prod.ext e1 h2
          rw [this]
          exact N' _ (.head _)
        · have := (N₁ p (List.mem_append_left _ hp)).2.2
          rw [hq] at this; cases this
        · have h1 := (N₁ p (List.mem_append_left _ hp)).1
          have h2 := (N₁ _ (List.mem_append_right _ (hb _ _ hJ))).1
          have h3 : p.2 = ob := Option.some.inj (h1.symm.trans h2)
          have : p = (p.1, ob) := Prod.ext rfl h3
          rw [this]
          exact N' _ (.tail _ (hb _ _ hj'))
      · exact N' _ (.tail _ hp)
    cases f with
    | ret v => exact .ret p
    | brk => exact .brk p
    | next => exact .next (fin p)
    | cont => exact .cont (fin p)
  · rintro h' tk m' news' F' N' _ ⟨hJ, hm⟩
    refine done m' news' h' tk hJ ?_ N'
    have e : (fun y => if y = x then m' y else if stored.contains y then m' y else m₀ y) = m' := by
      funext y
      by_cases h1 : y = x
      · simp [h1]
      · simp only [if_neg h1]
        cases h2 : stored.contains y with
        | true => simp
        | false => simp only [Bool.false_eq_true, if_false]; exact (hm y h1 h2).symm
    rw [e]; exact F'

/-- a loop over a list that stays: of the base, or an entry of the ledger that the word keeps -/
theorem iter_list {l : Addr} {vs : List Value} {m₀ : Str → Option Value} {news : List (Addr × Obj)} (stored : List Str) (J : Nat → List (Addr × Obj) → Prop)
    (hh : A.handled = none) (hl : s.heap.IsList l vs.toArray) (hin : (∃ q, h₀.get? l = some q) ∨ ∃ ob, ∀ i nw, J i nw → (l, ob) ∈ nw)
    (F : Fr h₀ env.locals s.heap m₀) (N : News h₀ env.locals s.heap news) (hj : J 0 news)
    (turn : ∀ I i v (u : Str → Option Value) news₁ h tk o, (∀ p ∈ news, p.1 < I) → vs[i]? = some v → J i news₁ → (∀ p ∈ news₁, p.1 ≠ I) → Fr h₀ env.locals h (fun y => if y = x then some v else if stored.contains y then u y else m₀ y) → News h₀ env.locals h ((I, o) :: news₁) →
      wpAny (model prog w) A (execs body env) (TPost h₀ env.locals x stored m₀ I o (J (i + 1)) { s with heap := h, toks := tk } Q) E { s with heap := h, toks := tk })
    (done : ∀ (u : Str → Option Value) news₁ h tk, J vs.length news₁ → Fr h₀ env.locals h (fun y => if y = x then u y else if stored.contains y then u y else m₀ y) → News h₀ env.locals h news₁ → Q .next { s with heap := h, toks := tk }) :
    wpAny (model prog w) A (pyIter (.ref l)) (fun it s₂ => LoopAtV prog w A h₀ env x body Q E it s₂) E s := by
  obtain ⟨ol, hol, hol2⟩ := id hl
  have hlt : l < s.heap.objs.size := Heap.lt_size hol
  have hlL : l ≠ env.locals := fun q => by
    rcases hin with ⟨q', hq'⟩ | ⟨ob, hb⟩
    · exact absurd (Nat.lt_of_lt_of_le (Heap.lt_size hq') F.above) (q ▸ Nat.lt_irrefl _)
    · exact (N _ (hb _ _ hj)).2.1 q
  refine wpAny_pyIter_list hl ?_
  have W := Walks.list (prog := prog) (w := w) hh s.heap.objs.size l (Nat.ne_of_lt hlt) vs.toArray
  rw [List.size_toArray] at W
  refine loop_gen stored J W (by simp) (by simp) (fun b hb => ?_) (next_is_new F) (fun i h st => ?_) (fun hm => ?_) (fun p hp q => ?_) ⟨⟨_, Heap.get?_push_size _ rfl, rfl, rfl⟩, hl.at fun o e => Heap.get?_push_of_some _ e⟩ (F.push _) (fun p hp => ⟨Heap.get?_push_of_some _ (N p hp).1, (N p hp).2⟩) hj ?_ ?_
  · rcases List.mem_cons.mp hb with e | hb
    · exact .inl e
    · rw [List.mem_singleton.mp hb]; exact .inr hin
  · obtain ⟨⟨o, ho, _⟩, _⟩ := st; exact ⟨o, ho⟩
  · rcases List.mem_cons.mp hm with e | hm
    · exact absurd F.ns.lt (e ▸ Nat.lt_irrefl _)
    · exact hlL (List.mem_singleton.mp hm).symm
  · exact absurd (Heap.lt_size (N p hp).1) (q ▸ Nat.lt_irrefl _)
  · intro i v u news₁ h tk o hi hP hJ hne F₁ N₁
    exact turn s.heap.objs.size i v u news₁ h tk o (fun p hp => Heap.lt_size (N p hp).1) (by simpa using hP) hJ hne F₁ N₁
  · exact done
/-- a loop over a text's signs -/
theorem iter_str {y : Str} {t : Tok} {m₀ : Str → Option Value} {news : List (Addr × Obj)} (stored : List Str) (J : Nat → List (Addr × Obj) → Prop)
    (hh : A.handled = none) (F : Fr h₀ env.locals s.heap m₀) (N : News h₀ env.locals s.heap news) (hj : J 0 news)
    (turn : ∀ I i c tc (u : Str → Option Value) news₁ h tk o, (∀ p ∈ news, p.1 < I) → y.cps[i]? = some c → J i news₁ → (∀ p ∈ news₁, p.1 ≠ I) → Fr h₀ env.locals h (fun z => if z = x then some (.str ⟨#[c]⟩ tc) else if stored.contains z then u z else m₀ z) → News h₀ env.locals h ((I, o) :: news₁) →
      wpAny (model prog w) A (execs body env) (TPost h₀ env.locals x stored m₀ I o (J (i + 1)) { s with heap := h, toks := tk } Q) E { s with heap := h, toks := tk })
    (done : ∀ (u : Str → Option Value) news₁ h tk, J y.cps.size news₁ → Fr h₀ env.locals h (fun z => if z = x then u z else if stored.contains z then u z else m₀ z) → News h₀ env.locals h news₁ → Q .next { s with heap := h, toks := tk }) :
    wpAny (model prog w) A (pyIter (.str y t)) (fun it s₂ => LoopAtV prog w A h₀ env x body Q E it s₂) E s := by
  have go : ∀ {o₀ : Obj} {St : Nat → Heap → Prop}, (W : Walks prog w A s.heap.objs.size [s.heap.objs.size] [s.heap.objs.size] y.cps.size (SignAt y) St) → (∀ i h, St i h → ∃ o, h.get? s.heap.objs.size = some o) → St 0 (s.heap.push o₀) →
      LoopAtV prog w A h₀ env x body Q E (.ref s.heap.objs.size) { s with heap := s.heap.push o₀ } := by
    intro o₀ St W hob hst
    refine loop_gen stored J W (by simp) (by simp) (fun b hb => .inl (List.mem_singleton.mp hb)) (next_is_new F) hob (fun hm => absurd F.ns.lt (List.mem_singleton.mp hm ▸ Nat.lt_irrefl _))
      (fun p hp q => absurd (Heap.lt_size (N p hp).1) (q ▸ Nat.lt_irrefl _)) hst (F.push _) (fun p hp => ⟨Heap.get?_push_of_some _ (N p hp).1, (N p hp).2⟩) hj ?_ done
    rintro i v u news₁ h tk o hi ⟨c, tc, hc, rfl⟩ hJ hne F₁ N₁
    exact turn s.heap.objs.size i c tc u news₁ h tk o (fun p hp => Heap.lt_size (N p hp).1) hc hJ hne F₁ N₁
  cases ha : y.cps.all (· < 128)
  · exact wpAny_pyIter_wide ha (go (Walks.strWide hh _ y t) (fun i h st => by obtain ⟨o, ho, _⟩ := st; exact ⟨o, ho⟩) ⟨_, Heap.get?_push_size _ rfl, rfl, rfl⟩)
  · exact wpAny_pyIter_ascii ha (go (Walks.strAscii hh _ y t) (fun i h st => by obtain ⟨o, ho, _⟩ := st; exact ⟨o, ho⟩) ⟨_, Heap.get?_push_size _ rfl, rfl, rfl⟩)
/-- a loop over a range by ones -/
theorem iter_range {r : Addr} {a₀ b₀ : Int} {t₀ u₀ v₀ : Tok} {n : Nat} {m₀ : Str → Option Value} {news : List (Addr × Obj)} (stored : List Str) (J : Nat → List (Addr × Obj) → Prop)
    (hh : A.handled = none) (hr : IsRange s.heap r a₀ b₀ 1 t₀ u₀ v₀) (hsmall : Builtin.Range.small a₀ b₀ 1 = true) (hn : Builtin.Range.rangeSize a₀ b₀ 1 = (n : Int)) (F : Fr h₀ env.locals s.heap m₀) (N : News h₀ env.locals s.heap news) (hj : J 0 news)
    (turn : ∀ I i tc (u : Str → Option Value) news₁ h tk o, (∀ p ∈ news, p.1 < I) → i < n → J i news₁ → (∀ p ∈ news₁, p.1 ≠ I) → Fr h₀ env.locals h (fun z => if z = x then some (.int (a₀ + i) tc) else if stored.contains z then u z else m₀ z) → News h₀ env.locals h ((I, o) :: news₁) →
      wpAny (model prog w) A (execs body env) (TPost h₀ env.locals x stored m₀ I o (J (i + 1)) { s with heap := h, toks := tk } Q) E { s with heap := h, toks := tk })
    (done : ∀ (u : Str → Option Value) news₁ h tk, J n news₁ → Fr h₀ env.locals h (fun z => if z = x then u z else if stored.contains z then u z else m₀ z) → News h₀ env.locals h news₁ → Q .next { s with heap := h, toks := tk }) :
    wpAny (model prog w) A (pyIter (.ref r)) (fun it s₂ => LoopAtV prog w A h₀ env x body Q E it s₂) E s := by
  refine wpAny_pyIter_range hr hsmall ?_
  have W : Walks prog w A s.heap.objs.size [s.heap.objs.size] [s.heap.objs.size] n (fun i v => i < n ∧ ∃ t, v = .int (a₀ + i * 1) t)
      (fun i h => IsRangeIter h s.heap.objs.size (a₀ + (i : Nat) * 1) ((n : Int) - (i : Nat)) 1) := (Walks.range hh _ a₀ 1 n).bound
  refine loop_gen stored J W (by simp) (by simp) (fun b hb => .inl (List.mem_singleton.mp hb)) (next_is_new F) (fun i h st => ⟨_, st⟩) (fun hm => absurd F.ns.lt (List.mem_singleton.mp hm ▸ Nat.lt_irrefl _))
      (fun p hp q => absurd (Heap.lt_size (N p hp).1) (q ▸ Nat.lt_irrefl _)) (by show IsRangeIter _ _ _ _ _; rw [hn]; simpa using Heap.get?_push_size _ rfl) (F.push _) (fun p hp => ⟨Heap.get?_push_of_some _ (N p hp).1, (N p hp).2⟩) hj ?_ done
  rintro i v u news₁ h tk o hi ⟨_, t, rfl⟩ hJ hne F₁ N₁
  rw [Int.mul_one] at F₁
  exact turn s.heap.objs.size i t u news₁ h tk o (fun p hp => Heap.lt_size (N p hp).1) hi hJ hne F₁ N₁
end
theorem news_pick2 {h₀ h : Heap} {L : Addr} {led : List (Addr × Obj)} {q r : Addr × Obj} (N : News h₀ L h led) (h1 : q ∈ led) (h2 : r ∈ led) : News h₀ L h [q, r] := fun p hp => by
  rcases List.mem_cons.mp hp with rfl | hp
  · exact N _ h1
  · rw [List.mem_singleton.mp hp]; exact N _ h2
theorem is_list_keep {h₀ h : Heap} {l L : Addr} {m : Str → Option Value} {its : Array Value} (x : h₀.IsList l its) (F : Fr h₀ L h m) : h.IsList l its := x.at fun o e => F.keep l o e
end Mine

namespace Mine
open PySem PySem.W PyProof.Rows PySem.Calls PySem.Spec
section
variable {prog : Program} {w : World} {A : Around} {E : Value → Shared → Prop} {s : Shared} {h₀ : Heap} {L D : Addr} {m : Str → Option Value} {news news' : List (Addr × Obj)}
theorem setItem_last0 {l : Addr} {vi : List Value} {x v : Value} {n : Nat} {t : Tok} {Q : Unit → Shared → Prop} (ho : s.heap.get? l = some (listOf (vi ++ [x]).toArray n))
    (hQ : Q () { s with heap := s.heap.update l (Obj.mapSeq (·.setIfInBounds vi.length v)) }) : wpAny (model prog w) A (setItem (.ref l) (.int (-1) t) v) Q E s := by
  have hl : s.heap.IsList l (vi ++ [x]).toArray := PySem.IsL.isList (n := n) ho
  unfold setItem
  try with_reducible refine wpAny_holding ?_
  first | refine wpAny_bind (wpAny_pure ?_) | skip
  refine wpAny_bind (wpAny_sequenceKey hl.typeIs (by decide) ?_)
  refine wpAny_bind (wpAny_callSpecial?_slot (name := Str.ofString "__setitem__") hl.typeIs slot_list_setitem
    (wpAny_call_entry slot_list_setitem hl.typeIs entry_list_setitem ?_ (args_list_setitem _ _ _)))
  show wpAny _ _ (Builtin.List.listSubscript? (.int (-1) t) >>= _) _ _ s
  refine wpAny_bind (wpAny_listSubscript_int (fitsIndex_neg (by decide) (by decide)) ?_)
  have hidx : seqIndex? (-1) (vi ++ [x]).toArray.size = some vi.length := by
    rw [seqIndex_neg (by decide) (by simp; omega)]
    simp only [List.size_toArray, List.length_append, List.length_cons, List.length_nil]
    congr 1; omega
  show wpAny _ _ ((Builtin.List.listItems (.ref l) >>= fun xs => pure ((seqIndex? (Int.negSucc 0) xs.size).bind fun i => xs[i]?.map (i, ·))) >>= _) _ _ s
  refine wpAny_bind (wpAny_bind ?_)
  show wpAny _ _ (seqItems? (.ref l) >>= _) _ _ s
  refine wpAny_bind (wpAny_seqItems ho rfl (wpAny_pure (wpAny_pure ?_)))
  have hidx' : seqIndex? (Int.negSucc 0) (vi ++ [x]).toArray.size = some vi.length := hidx
  rw [hidx']
  have hx : ((vi ++ [x]).toArray)[vi.length]? = some x := by simp
  simp only [Option.bind_some, hx, Option.map_some]
  show wpAny _ _ (setSeqItemAt l vi.length v >>= _) _ _ s
  refine wpAny_bind (wpAny_setSeqItemAt ho rfl ?_)
  first
    | exact wpAny_bind (wpAny_pure (wpAny_pure ⟨.none, rfl, wpAny_pure hQ⟩))
    | exact wpAny_pure ⟨.none, rfl, wpAny_pure hQ⟩
theorem setItem_last {vi : List Value} {x v : Value} {n : Nat} {t : Tok} {Q : Unit → Shared → Prop} (F : Fr h₀ L s.heap m) (N : News h₀ L s.heap news) (U : Upd D (listOf (vi ++ [x]).toArray n) (listOf (vi ++ [v]).toArray n) news news')
    (h : ∀ h', Fr h₀ L h' m → News h₀ L h' news' → Q () { s with heap := h' }) : wpAny (model prog w) A (setItem (.ref D) (.int (-1) t) v) Q E s := by
  obtain ⟨pre, post, rfl, rfl, a, b⟩ := U.split
  have z := N (D, listOf (vi ++ [x]).toArray n) (List.mem_append.mpr (.inr (.head _)))
  refine setItem_last0 z.1 (h _ (F.change (Heap.SameBut.update ..) z.2.1 z.2.2) (ki_turn _ N a b ?_ ?_))
  · simp
  · simp
theorem append_L {vi : List Value} {n : Nat} {x : Value} {Q : Value → Shared → Prop} (F : Fr h₀ L s.heap m) (N : News h₀ L s.heap news) (U : Upd D (listOf vi.toArray n) (listOf (vi ++ [x]).toArray (n + 1)) news news') (hsz : vi.length ≤ sizeLine)
    (h : ∀ h', Fr h₀ L h' m → News h₀ L h' news' → Q .none { s with heap := h' }) : wpAny (model prog w) A (call (.builtin "list.append") [.ref D, x]) Q E s := by
  rw [← List.push_toArray] at U
  exact append_K F N U h (by rw [List.size_toArray]; exact hsz)
theorem item_last {value slice : Expr} {vi : List Value} {x : Value} {t : Tok} {Q : Value → Shared → Prop} (hl : s.heap.IsList D (vi ++ [x]).toArray) (h : Q x s)
    (hs : subscripted slice false (.ref D) (.int (-1) t) = operate [.ref D, .int (-1) t] (getItem (.ref D) (.int (-1) t)) := by with_unfolding_all rfl) :
    wpAny (model prog w) A (subscriptTail value slice (.ref D) (.int (-1) t)) Q E s :=
  tail_any hl.typeIs slot_list_getitem.lookup (wpAny_getItem_list_neg hl (by decide) (by simp; omega) (by decide) (by
    have e : ((-1 : Int) + ((vi ++ [x]).toArray.size : Nat)).toNat = vi.length := by simp only [List.size_toArray, List.length_append, List.length_cons, List.length_nil]; omega
    rw [e]; simp) h) hs

theorem reads_strs {h : Heap} {a : Addr} {vs : List Value} {ws : List Str} (hl : h.IsList a vs.toArray) (hi : StrsAre vs ws) : Reads h (.ref a) (.list (ws.map PyData.str)) [a] := by
  obtain ⟨o, ho, hc, n, hd⟩ := hl
  exact Reads.list ho hc hd (by simpa using strs_readAll h hi)
theorem canLayAll0_strs : ∀ {ws : List Str}, (∀ x ∈ ws, NoBs x) → PyData.canLayAll0 (ws.map PyData.str) = true
  | [], _ => by simp [PyData.canLayAll0]
  | x :: r, h => by simp [PyData.canLayAll0, PyData.canLay0, strOk_of (h x (.head _)), canLayAll0_strs fun y hy => h y (.tail _ hy)]
theorem depthAll_strs : ∀ ws : List Str, PyData.depthAll (ws.map PyData.str) ≤ 1
  | [] => by simp [PyData.depthAll]
  | n :: r => by
    have := depthAll_strs r
    simp only [List.map_cons, PyData.depthAll, PyData.depth]
    omega
theorem shaped_strs {ws : List Str} (h : ∀ x ∈ ws, NoBs x) : SeqAt.shaped (.list (ws.map PyData.str)) = true := by
  have h1 := depthAll_strs ws
  have h2 : PyData.depth (.list (ws.map PyData.str)) ≤ 64 := by simp only [PyData.depth]; omega
  show (PyData.canLay0 (.list (ws.map PyData.str)) && decide (PyData.depth (.list (ws.map PyData.str)) ≤ 64)) = true
  rw [Bool.and_eq_true]
  exact ⟨by simp only [PyData.canLay0]; exact canLayAll0_strs h, decide_eq_true h2⟩
theorem eqvAll_strs : ∀ us ws : List Str, PyData.eqvAll (us.map PyData.str) (ws.map PyData.str) = decide (us = ws)
  | [], [] => by simp [PyData.eqvAll]
  | [], _ :: _ => by simp [PyData.eqvAll]
  | _ :: _, [] => by simp [PyData.eqvAll]
  | n :: r, k :: q => by
    simp only [List.map_cons, PyData.eqvAll, PyData.eqv, eqvAll_strs r q]
    by_cases h : n = k <;> simp [h]
theorem eq_strs {a b : Addr} {vs us : List Value} {ws xs : List Str} {Q : Value → Shared → Prop} (hl : s.heap.IsList a vs.toArray) (hi : StrsAre vs ws) (hl' : s.heap.IsList b us.toArray) (hi' : StrsAre us xs) (h1 : ∀ x ∈ ws, NoBs x) (h2 : ∀ x ∈ xs, NoBs x) (hu : A.units + 64 < cLine)
    (h : Q (.bool (decide (ws = xs))) s) : wpAny (model prog w) A (compareOp .Eq (.ref a) (.ref b)) Q E s :=
  eq_dataH (reads_strs hl hi) (reads_strs hl' hi') (shaped_strs h1) (shaped_strs h2) hu (by simp only [PyData.eqv]; rw [eqvAll_strs]; exact h)
theorem ne_strs {a b : Addr} {vs us : List Value} {ws xs : List Str} {Q : Value → Shared → Prop} (hl : s.heap.IsList a vs.toArray) (hi : StrsAre vs ws) (hl' : s.heap.IsList b us.toArray) (hi' : StrsAre us xs) (h1 : ∀ x ∈ ws, NoBs x) (h2 : ∀ x ∈ xs, NoBs x) (hu : A.units + 64 < cLine)
    (h : Q (.bool (!decide (ws = xs))) s) : wpAny (model prog w) A (compareOp .NotEq (.ref a) (.ref b)) Q E s :=
  ne_dataH (reads_strs hl hi) (reads_strs hl' hi') (shaped_strs h1) (shaped_strs h2) hu (by simp only [PyData.eqv]; rw [eqvAll_strs]; exact h)
theorem snoc_nil (ws : List Str) (x : Str) : decide (ws ++ [x] = []) = false := by simp
theorem nil_nil : decide (([] : List Str) = []) = true := rfl
end
end Mine

namespace Mine
open PySem PySem.W PyProof.Rows PySem.Calls PySem.Spec
/-- what the class machinery finds of a class whose __new__ is a def of the text -/
structure MakesPy (M : Model) (h : Heap) (C : Addr) : Prop where
  obj : ∃ oc od cd sl, h.get? C = some ⟨oc, od, .cls cd, sl⟩ ∧ cd.abstract = false ∧ cd.hasDel = false ∧ cd.mro.isEmpty = false
  made : Looks M h (Bind.madeBy (.ref C)) none
  here : Looks M h (Bind.madeHere "object.__new__" (.ref C)) ()
  base : Looks M h (Bind.staticBase (.ref C)) (.type "object")
  madeO : Looks M h (Bind.madeBy (.type "object")) (some "object.__new__")
  self : Looks M h (isSubtype (.ref C) (.ref C)) true
  top : Looks M h (isSubtype (.ref C) (.type "object")) true
  call : Looks M h (specialOf (.ref C) "__call__") (some (.builtin "type.__call__"))
  typ : Looks M h (isInstance (.ref C) (.type "type")) true
noncomputable def clsOk (K : Frag) (C : Addr) : Bool := match K.lookup C with
  | some ⟨_, _, .cls cd, _⟩ => !cd.abstract && !cd.hasDel && !cd.mro.isEmpty
  | _ => false
theorem cls_of_ok {K : Frag} {h : Heap} {C : Addr} (X : K.In h) (e : clsOk K C = true) : ∃ oc od cd sl, h.get? C = some ⟨oc, od, .cls cd, sl⟩ ∧ cd.abstract = false ∧ cd.hasDel = false ∧ cd.mro.isEmpty = false := by
  unfold clsOk at e
  split at e
  · rename_i ho
    simp only [Bool.and_eq_true, Bool.not_eq_true'] at e
    exact ⟨_, _, _, _, X _ _ ho, e.1.1, e.1.2, e.2⟩
  · cases e
theorem makes_sio {h : Heap} {w : World} {M : Model} (X : (hd.heap_1 w.params).In h) : MakesPy M h 604 where
  obj := cls_of_ok X (by kernel_rfl)
  made := Looks.of_peek X (by kernel_rfl)
  here := Looks.of_peek X (by kernel_rfl)
  base := Looks.of_peek X (by kernel_rfl)
  madeO := Looks.of_peek X (by kernel_rfl)
  self := Looks.of_peek X (by kernel_rfl)
  top := Looks.of_peek X (by kernel_rfl)
  call := Looks.of_peek X (by kernel_rfl)
  typ := Looks.of_peek X (by kernel_rfl)
section
variable {prog : Program} {w : World} {A : Around} {K : Frag} {C : Addr} {R : Result → Shared → Prop} {h : Heap} {g : Array GenState} {d : Drawn} {t : Nat} {os : OsState}
theorem new_py (Y : MakesPy (model prog w) h C)
    (hq : R (.ok (.ret (.ref (h.objs.size + 1)))) ⟨(h.push emptyDict).push (instObj C h.objs.size), g, d, t, os⟩) :
    codeAny (model prog w) A (.call (.builtin "object.__new__") ⟨[.ref C], []⟩) R ⟨h, g, d, t, os⟩ := by
  obtain ⟨⟨oc, od, cd, sl, hC, e1, e2, e4⟩, made, here, base, madeO, self, top, call, typ⟩ := Y
  have F := PySem.F.objNew
  refine codeAny_call_builtin_code (Code.quiet_builtin _ F.quiet) ?_
  simp only [checkBuiltinCall, F.kind, F.split, F.row]
  have args : Bind.checkArgs "object.__new__" ⟨.hand, "object.__new__", "__new__", .cls, []⟩ ⟨[.ref C], []⟩ = pure () := by kernel_rfl
  rw [args]
  repeat (first | simp only [bne_self_eq_false, Bool.false_eq_true, if_false] | lk)
  refine codeAny_builtin F.entry ?_
  unfold Builtin.«object.__new__»
  have fin : ∀ A', wpAny (model prog w) A' (do
      let d ← if typeHasDict (.ref C) then some <$> alloc { cls := .type "dict", data := .dict #[] } else pure none
      ret (← newObj (.ref C) .plain d)) (fun fin s' => match fin with | .done f => R (.ok f) s' | .again c' => c'.quiet = true ∧ codeAny (model prog w) A c' R s') (fun e s' => R (.error e) s') ⟨h, g, d, t, os⟩ := by
    intro A'
    show wpAny _ _ ((alloc emptyDict >>= fun x => pure (some x)) >>= _) _ _ _
    refine wpAny_bind (wpAny_bind (wpAny_alloc (wpAny_pure (wpAny_bind ?_))))
    show wpAny _ _ (newObjAsIs _ _ _) _ _ _
    unfold newObjAsIs classHasDel
    refine wpAny_bind (wpAny_alloc (wpAny_bind (wpAny_bind (wpAny_load (Heap.get?_push_of_some _ (Heap.get?_push_of_some _ hC)) (wpAny_pure ?_)))))
    rw [e2]
    refine wpAny_pure (wpAny_pure ?_)
    show R _ _
    rw [Heap.size_push]
    exact hq
  repeat (first | simp only [e1, Bool.false_eq_true, if_false] | exact fin _ | lk)
theorem new_pyN {s : Shared} {h₀ : Heap} {L : Addr} {m : Str → Option Value} {news : List (Addr × Obj)} {Q E : Value → Shared → Prop} (F : Fr h₀ L s.heap m) (N : News h₀ L s.heap news) (Y : MakesPy (model prog w) s.heap C)
    (hq : ∀ x dx h', Fr h₀ L h' m → News h₀ L h' ((x, instObj C dx) :: (dx, dictOf [] 0) :: news) → (∀ p ∈ news, p.1 < dx) → dx < x → Q (.ref x) { s with heap := h' }) :
    wpAny (model prog w) A (PySem.call (.builtin "object.__new__") [.ref C]) Q E s := by
  obtain ⟨hh, g, d, t, os⟩ := s
  refine wpAny_call (new_py Y ?_)
  have N' := (N.push F emptyDict).push (F.push _) (instObj C hh.objs.size)
  rw [Heap.size_push] at N'
  exact hq _ hh.objs.size _ ((F.push _).push _) N' (fun p hp => Heap.lt_size (N p hp).1) (Nat.lt_succ_self _)
theorem make_py {rest : List Value} {kw : List (Str × Value)} (Y : MakesPy (model prog w) h C)
    (hq : wpAny (model prog w) (A.under (.builtin "type.__call__" ⟨.ref C :: rest, kw⟩)) (getAttr (.ref C) "__new__") (fun new s₁ =>
      wpAny (model prog w) (A.under (.builtin "type.__call__" ⟨.ref C :: rest, kw⟩)) (PySem.call new (.ref C :: rest) kw) (fun ob s₂ =>
        wpAny (model prog w) (A.under (.builtin "type.__call__" ⟨.ref C :: rest, kw⟩)) (isInstance ob (.ref C)) (fun b s₃ => b = true ∧
          wpAny (model prog w) (A.under (.builtin "type.__call__" ⟨.ref C :: rest, kw⟩)) (callSpecial? ob "__init__" rest kw) (fun r s₄ => r = some .none ∧ R (.ok (.ret ob)) s₄) (fun e s' => R (.error e) s') s₃)
          (fun e s' => R (.error e) s') s₂) (fun e s' => R (.error e) s') s₁) (fun e s' => R (.error e) s') ⟨h, g, d, t, os⟩) :
    codeAny (model prog w) A (.call (.ref C) ⟨rest, kw⟩) R ⟨h, g, d, t, os⟩ := by
  obtain ⟨⟨oc, od, cd, sl, hC, e1, e2, e4⟩, made, here, base, madeO, self, top, call, typ⟩ := Y
  refine codeAny_of_tree ?_
  show wpAny _ _ (callAny (.ref C) _) _ _ _
  refine nd_load hC ?_
  show wpAny _ _ (callAny.viaDunder (.ref C) _) _ _ _
  unfold callAny.viaDunder
  refine wpAny_bind (call.at ?_)
  dsimp only
  rw [tc_bind]
  refine wpAny_bind (wpAny_pure (wpAny_bind (wpAny_pure ?_)))
  refine wpAny_pure (a := Fin.again (.call (.builtin "type.__call__") ⟨.ref C :: rest, kw⟩)) (And.intro rfl ?_)
  refine codeAny_call_builtin_at (Code.quiet_builtin _ (by decide +kernel)) entry_typeCall (check_slot tc_kind tc_split typ (tc_args _ _ _) ?_)
  unfold Builtin.«type.__call__»
  have hm : Looks (model prog w) h (mroOf (.ref C)) cd.mro := ((Looks.ld (part := none) hC).andThen .now).andThen .now
  repeat (first | simp only [e4, Bool.false_eq_true, if_false] | (fail_if_success with_reducible show wpAny _ _ (getAttr _ _) _ _ _); lk)
  refine wpAny_mono hq (fun new s₁ h₁ => ?_) fun _ _ z => z
  refine wpAny_bind (wpAny_holding (wpAny_mono h₁ (fun ob s₂ h₂ => ?_) fun _ _ z => z))
  refine wpAny_bind (wpAny_mono h₂ (fun b s₃ h₃ => ?_) fun _ _ z => z)
  obtain ⟨rfl, h₃⟩ := h₃
  simp only [Bool.not_true, Bool.false_eq_true, if_false]
  refine wpAny_bind (wpAny_holding (wpAny_mono h₃ (fun r s₄ h₄ => ?_) fun _ _ z => z))
  obtain ⟨rfl, h₄⟩ := h₄
  simp only [bne_self_eq_false, Bool.false_eq_true, if_false]
  exact wpAny_pure h₄
theorem make_pyN {s : Shared} {rest : List Value} {Q E : Value → Shared → Prop} (Y : MakesPy (model prog w) s.heap C)
    (hq : wpAny (model prog w) (A.under (.builtin "type.__call__" ⟨.ref C :: rest, []⟩)) (getAttr (.ref C) "__new__") (fun new s₁ =>
      wpAny (model prog w) (A.under (.builtin "type.__call__" ⟨.ref C :: rest, []⟩)) (PySem.call new (.ref C :: rest)) (fun ob s₂ =>
        wpAny (model prog w) (A.under (.builtin "type.__call__" ⟨.ref C :: rest, []⟩)) (isInstance ob (.ref C)) (fun b s₃ => b = true ∧
          wpAny (model prog w) (A.under (.builtin "type.__call__" ⟨.ref C :: rest, []⟩)) (callSpecial? ob "__init__" rest) (fun r s₄ => r = some .none ∧ Q ob s₄) E s₃) E s₂) E s₁) E s) :
    wpAny (model prog w) A (PySem.call (.ref C) rest) Q E s := by
  obtain ⟨hh, g, d, t, os⟩ := s
  exact wpAny_call (make_py Y hq)
theorem isInst_self {s : Shared} {x : Addr} {ox : Obj} {od : Option Obj} {M : Model} {Q : Bool → Shared → Prop} {E : Value → Shared → Prop} (I : InstAt s.heap x ox C od) (hs : Looks M s.heap (isSubtype (.ref C) (.ref C)) true) (h : Q true s) :
    wpAny M A (isInstance (.ref x) (.ref C)) Q E s := wpAny_bind (I.type.here (hs.here h))
theorem special_init {s : Shared} {x f : Addr} {ox : Obj} {od : Option Obj} {M : Model} {name : Str} {args : List Value} {Q : Option Value → Shared → Prop} {E : Value → Shared → Prop} (X : K.In s.heap) (I : InstAt s.heap x ox C od)
    (hs : findIn K (.ref C) name = some (some (.ref f))) (hf : isFn K (.ref f) = true) (h : wpAny M A (PySem.call (.ref f) (.ref x :: args)) (fun v => Q (some v)) E s) :
    wpAny M A (callSpecial? (.ref x) name args) Q E s := special_fn X I hs (beq_iff_eq.mp hf) h
end
end Mine

namespace Mine
open PySem PySem.W PyProof.Rows PySem.Calls PySem.Spec
theorem mro_dq : mroOf (.type "collections.deque") = pure [.type "collections.deque", .type "object"] := by rw [mroOf_type]; kernel_rfl
theorem lookup_dq_new : typeLookup (.type "collections.deque") "__new__" = pure (some (.builtin "collections.deque.__new__")) := by rw [typeLookup_type, builtinLookup_eq_fast]; kernel_rfl
theorem slot_dq_init : Slot "collections.deque" "__init__" "collections.deque.__init__" :=
  .of (owner := "collections.deque") (n := "__init__") (by rw [typeLookup_type, builtinLookup_eq_fast]; kernel_rfl) (by decide +kernel) (by decide +kernel) (by decide +kernel)
    (by first | exact .inl (by decide +kernel) | exact .inr (by decide +kernel)) (by rw [isSubtype_type]; kernel_rfl)
theorem sub_dq : isSubtype (.type "collections.deque") (.type "collections.deque") = pure true := by rw [isSubtype_type]; kernel_rfl
theorem called_dq : TypeCalled "collections.deque" "collections.deque.__new__" "collections.deque.__init__" :=
  ⟨by decide +kernel, by decide +kernel, ⟨_, _, mro_dq⟩, madeBy_type mro_dq lookup_dq_new (by decide +kernel), by decide +kernel, sub_dq, slot_dq_init⟩
theorem typeCall_dq : checkTypeCall "collections.deque" ⟨[], []⟩ = pure () := by kernel_rfl
theorem newCall_dq : checkBuiltinCall "collections.deque.__new__" ⟨[.type "collections.deque"], []⟩ = pure () := by kernel_rfl
theorem entry_dq_new : entryFor table "collections.deque.__new__" = some Builtin.«collections.deque.__new__» := entryFor_of_tree (by kernel_rfl)
theorem entry_dq_init : entryFor table "collections.deque.__init__" = some Builtin.«collections.deque.__init__» := entryFor_of_tree (by kernel_rfl)
theorem args_dq_init (a : Value) : argsOk "collections.deque.__init__" ⟨[a], []⟩ := by unfold argsOk; kernel_rfl
noncomputable abbrev dqObj : Obj := { cls := .type "collections.deque", data := .fields #[.none, rawInt 0] }
theorem dq_new_meets : Meets (Builtin.«collections.deque.__new__» ⟨[.type "collections.deque"], []⟩) (fun _ R s => R (.ok (.ret (.ref s.heap.objs.size))) { s with heap := s.heap.push dqObj }) :=
  .of_wp fun prog w A R s h => by
    obtain ⟨hp, g, d, tk, os⟩ := s
    have hsub : isSubtype (.type "collections.deque") (.type Builtin.Deque.ty) = pure true := sub_dq
    have hz : ¬ ((#[] : Array Value).size > sizeLine) := by decide
    have hd : typeHasDict (.type "collections.deque") = false := by decide +kernel
    unfold Builtin.«collections.deque.__new__» Builtin.Deque.newArgs Builtin.Deque.new
    dsimp only
    wp_walk
    exact ⟨_, rfl, h⟩
theorem dq_init_meets (a : Addr) : Meets (Builtin.«collections.deque.__init__» ⟨[.ref a], []⟩) (fun _ R s => s.heap.get? a = some dqObj ∧ R (.ok (.ret .none)) { s with heap := s.heap.update a (Obj.mapFields fun vs => vs.setIfInBounds 0 .none) }) :=
  .of_wp fun prog w A R s h => by
    obtain ⟨hp, g, d, tk, os⟩ := s
    obtain ⟨ho, h⟩ := h
    unfold Builtin.«collections.deque.__init__»
    dsimp only
    wp_walk
    exact ⟨_, rfl, h⟩
section
variable {prog : Program} {w : World} {A : Around} {E : Value → Shared → Prop} {s : Shared} {h₀ : Heap} {L : Addr} {m : Str → Option Value} {news : List (Addr × Obj)} {Q : Value → Shared → Prop}
theorem dq_new (F : Fr h₀ L s.heap m) (N : News h₀ L s.heap news)
    (h : ∀ D h', Fr h₀ L h' m → News h₀ L h' ((D, dqObj) :: news) → (∀ q ∈ news, q.1 < D) → Q (.ref D) { s with heap := h' }) :
    wpAny (model prog w) A (PySem.call (.type "collections.deque") []) Q E s := by
  refine callType_meets called_dq typeCall_dq newCall_dq entry_dq_new entry_dq_init dq_new_meets (Q₁ := fun ob s₁ => ob = .ref s.heap.objs.size ∧ s₁ = { s with heap := s.heap.push dqObj }) (show wants _ _ _ _ from ⟨rfl, rfl⟩) ?_
  rintro ob s₁ ⟨rfl, rfl⟩
  have ho : (s.heap.push dqObj).get? s.heap.objs.size = some dqObj := Heap.get?_push_size _ rfl
  refine ⟨⟨_, ho, rfl⟩, args_dq_init _, _, dq_init_meets _, ho, rfl, ?_⟩
  have F1 := F.push dqObj
  have N1 := N.push F dqObj
  have z := N1 _ (.head _)
  have hs : Heap.SameBut s.heap.objs.size (s.heap.push dqObj) ((s.heap.push dqObj).update s.heap.objs.size (Obj.mapFields fun vs => vs.setIfInBounds 0 .none)) := Heap.SameBut.update ..
  refine h _ _ (F1.change hs z.2.1 z.2.2) ?_ fun q hq => Heap.lt_size (N q hq).1
  refine news_set (pre := []) (o := dqObj) N1 (fun _ h => nomatch h) (fun q hq => Nat.ne_of_lt (Heap.lt_size (N q hq).1)) hs ?_
  exact Heap.get?_update_self _ ho rfl
end
end Mine

namespace Mine
open PySem PySem.W PyProof.Rows PySem.Calls PySem.Spec
theorem noBool_dq : typeLookup (.type "collections.deque") "__bool__" = pure none := by rw [typeLookup_type, builtinLookup_eq_fast]; kernel_rfl
theorem slot_dq_len : Slot "collections.deque" "__len__" "collections.deque.__len__" :=
  .of (owner := "collections.deque") (n := "__len__") (by rw [typeLookup_type, builtinLookup_eq_fast]; kernel_rfl) (by decide +kernel) (by decide +kernel) (by decide +kernel)
    (by first | exact .inl (by decide +kernel) | exact .inr (by decide +kernel)) (by rw [isSubtype_type]; kernel_rfl)
theorem entry_dq_len : entryFor table "collections.deque.__len__" = some Builtin.«collections.deque.__len__» := entryFor_of_tree (by kernel_rfl)
theorem args_dq_len (a : Value) : argsOk "collections.deque.__len__" ⟨[a], []⟩ := by unfold argsOk; kernel_rfl
section
variable {prog : Program} {w : World} {A : Around} {E : Value → Shared → Prop} {s : Shared}
theorem len_dq {d : Addr} {Q : Value → Shared → Prop} (hd : s.heap.get? d = some dqObj) (h : Q (.int 0 s.toks) { s with toks := s.toks + 1 }) :
    wpAny (model prog w) A.in1 (Builtin.«collections.deque.__len__» ⟨[.ref d], []⟩) (fun fin s' => ∃ v, fin = .done (.ret v) ∧ Q v s') E s := by
  obtain ⟨hp, g, dr, tk, os⟩ := s
  unfold Builtin.«collections.deque.__len__»
  wp_walk
  exact ⟨_, rfl, h⟩
theorem truthy_dq {d : Addr} {Q : Bool → Shared → Prop} (hd : s.heap.get? d = some dqObj) (h : ∀ tk, Q false { s with toks := tk }) : wpAny (model prog w) A (truthy (.ref d)) Q E s := by
  have hT : s.TypeIs (.ref d) "collections.deque" := ⟨_, hd, rfl⟩
  have key : wpAny (model prog w) A (runValue (.builtin "len" ⟨[.ref d], []⟩)) (fun r s' => ∃ t, r = .int 0 t ∧ Q false s') E s := by
    refine wpAny_runValue (codeAny_builtin entry_len ?_)
    rw [Around.under_plainId plain_len _]
    have body : wpAny (model prog w) A.in1 (Builtin.«len» ⟨[.ref d], []⟩) (fun fin s' => ∃ r, fin = .done (.ret r) ∧ ∃ t, r = .int 0 t ∧ Q false s') E s := by
      unfold Builtin.«len»
      refine wpAny_bind (m := oneArg "len" _) (wpAny_pure ?_)
      refine wpAny_bind (m := callSpecial? (.ref d) (Str.ofString "__len__")) (wpAny_callSpecial?_slot (name := Str.ofString "__len__") hT slot_dq_len (wpAny_call_entry slot_dq_len hT entry_dq_len (len_dq hd ?_) (args_dq_len _)))
      refine wpAny_bind (wpAny_holding (wpAny_pure ?_))
      refine wpAny_bind (wpAny_letGo ?_)
      exact wpAny_bind (wpAny_mkInt (wpAny_pure ⟨_, rfl, _, rfl, h _⟩))
    exact wpAny_mono body (fun fin s' h' => by obtain ⟨r, rfl, hq⟩ := h'; exact hq) fun _ _ e => e
  unfold truthy
  first
    | refine wpAny_bind (wpAny_callSpecial?_none (name := Str.ofString "__bool__") hT noBool_dq ?_)
    | refine wpAny_bind (wpAny_pure (wpAny_bind (wpAny_callSpecial?_none (name := Str.ofString "__bool__") hT noBool_dq ?_)))
  first
    | refine wpAny_bind (wpAny_specialOf (name := Str.ofString "__len__") hT slot_dq_len.lookup ?_)
    | refine wpAny_bind (wpAny_pure (wpAny_bind (wpAny_specialOf (name := Str.ofString "__len__") hT slot_dq_len.lookup ?_)))
  first
    | exact wpAny_bind (wpAny_mono key (fun r s' h' => by obtain ⟨t, rfl, hq⟩ := h'; exact wpAny_pure hq) fun _ _ e => e)
    | exact wpAny_bind (wpAny_pure (wpAny_bind (wpAny_mono key (fun r s' h' => by obtain ⟨t, rfl, hq⟩ := h'; exact wpAny_pure hq) fun _ _ e => e)))
end
end Mine

namespace Mine
open PySem PySem.W PyProof.Rows PySem.Calls PySem.Spec
theorem kw_1 : True := by
  w_top off
  k_with_none
  trivial
theorem kw_2 : True := by
  k_with "enter" => ((refine' code_def ?k1q2 ?k2q2 ?k3q2 ?k4q2 ?k5q2 ?kAq2 ?kFq2 ?kKq2 ?k6q2 ?k7q2 ?k8q2 ?k9q2 ?kBq2 ?_ ?c2q2 ?c3q2 ?c4q2 ?c5q2; (case kAq2 => exact rfl); (case kFq2 => exact rfl); (case kKq2 => first | exact rfl | assumption); (case k1q2 => k_asm); (case k2q2 => k_asm); (case k3q2 => k_asm); (case k4q2 => k_asm); (case k5q2 => k_asm); (case k6q2 => k_is); (case k7q2 => k_is); (case k8q2 => k_room); (case k9q2 => first | exact BindsTo.of_eq rfl | exact binds_K (by k_in) rfl (by k_is) rfl rfl rfl | fail "k_enter: no rule for these arguments"); (case c5q2 => decide); (case kBq2 => exact locs rfl); (case c2q2 => exact rfl); (case c3q2 => exact rfl); (case c4q2 => exact rfl); k_whole; intro gZ' LZ' hZ' FGZ' FZ' NZ' BZ' XZ' TZ'; (try dsimp only); (try k_lift BZ'); (try k_fold)))
  trivial
theorem kw_3 : True := by
  k_with "enter" => (kp_kind "both"; (fail_if_success k_inElt); (refine' kp_both ?k1q3 ?k2q3 ?k3q3 ?k4q3 ?k5q3 ?kAq3 ?kFq3 ?kKq3 ?k6q3 ?k7q3 ?k8q3 ?kVq3 ?kXq3 ?kQq3 ?kMq3 ?kNq3 ?kDq3 ?kRq3 ?kPq3 ?kSq3 ?kTq3 ?kBq3 ?_ ?c2q3 ?c3q3 ?c4q3 ?c5q3; (case kAq3 => exact rfl); (case kFq3 => exact rfl); (case kKq3 => first | exact rfl | assumption); (case k1q3 => k_asm); (case k2q3 => k_asm); (case k3q3 => k_asm); (case k4q3 => k_asm); (case k5q3 => k_asm); (case k6q3 => k_is); (case k7q3 => k_is); (case k8q3 => k_room); (case kVq3 => kp_lit); (case kXq3 => kp_lit); (case kQq3 => exact rfl); (case kMq3 => exact rfl); (case kNq3 => exact rfl); (case kDq3 => kp_flats); (case kRq3 => exact rfl); (case kPq3 => exact rfl); (case kSq3 => exact fun _ => rfl); (case kTq3 => exact fun _ _ => rfl); (case kBq3 => exact fun _ _ => locs rfl); (case c5q3 => decide); (case c2q3 => exact rfl); (case c3q3 => exact rfl); (case c4q3 => exact rfl); k_whole; intro CZ' DZ' oZ' gZ' LZ' hZ' tkZ' l1Z l2Z loZ' hsZ' fsZ' FGZ' FZ' NZ' BZ' XZ' TZ'; (try k_lt l1Z); (try k_lt2 l2Z); (try dsimp only); (try k_lift BZ'); (try k_fold)))
  trivial

theorem kw_4 : True := by
  k_with "call builtin:object.__new__" => (k_here; k_dflt (refine' new_pyN ?k1q4 ?k2q4 ?k3q4 ?_; (case k1q4 => k_asm); (case k2q4 => k_asm); (case k3q4 => exact makes_sio (by k_in)); k_whole); intro xZ' dZ' hZ' FZ' NZ' l1Z l2Z; (try k_lt l1Z); (try k_lt2 l2Z); (try k_sweep); (try dsimp only))
  trivial
theorem kw_5 : True := by
  k_with "isInstance ref ref" => (k_here; k_dflt (refine' isInst_self ?k1q5 ?k2q5 ?_; (case k1q5 => k_inst); (case k2q5 => exact (makes_sio (by k_in)).self); k_whole); refine ⟨rfl, ?_⟩)
  trivial
theorem kw_6 : True := by
  k_with "callSpecial? ref" => (k_here; k_dflt (refine' special_init ?k1q6 ?k2q6 ?k3q6 ?k4q6 ?_; (case k1q6 => k_in); (case k2q6 => k_inst); (case k3q6 => k_is); (case k4q6 => k_is); k_whole))
  trivial
theorem news_drop34 {h₀ h : Heap} {L : Addr} {a b c d : Addr × Obj} {r : List (Addr × Obj)} (N : News h₀ L h (a :: b :: c :: d :: r)) : News h₀ L h (a :: b :: r) := fun q hq => N q (by
  rcases List.mem_cons.mp hq with rfl | hq
  · exact .head _
  · rcases List.mem_cons.mp hq with rfl | hq
    · exact .tail _ (.head _)
    · exact .tail _ (.tail _ (.tail _ (.tail _ hq))))
/-- a StringIO's dict -/
noncomputable abbrev sioD (P : Params) (k1 k2 k3 tn tb tp : Tok) (text : Str) (pos : Int) : Obj :=
  W.dictOf [⟨PyData.keyHash P (Str.ofString "_StringIO__newline"), Value.str (Str.ofString "_StringIO__newline") k1, Value.str (Str.ofString "\n") tn⟩, ⟨PyData.keyHash P (Str.ofString "_StringIO__buf"), Value.str (Str.ofString "_StringIO__buf") k2, Value.str text tb⟩,
    ⟨PyData.keyHash P (Str.ofString "_StringIO__pos"), Value.str (Str.ofString "_StringIO__pos") k3, Value.int pos tp⟩] 3
section
variable {prog : Program} {w : World} {p : Program} {loose : List Str} {mean : ExcName → Option Value} {mg mb : Str → Option Value}
  {gd : Option (List Code)} {cn : Str} {cs : Scope} {a : Addr} {ccd : Value} {cl : List (Str × Addr)} {outer : List Env} {A₀ : Around} {base h₀ : Heap} {L : Addr} {m : Str → Option Value}
  {s : Shared} {Q E : Value → Shared → Prop}

theorem c_sio {text : Str} {t1 : Tok} {news : List (Addr × Obj)} (B : Below A₀ base outer h₀) (F : Fr h₀ L s.heap m) (X : (hd.heap_1 w.params).In h₀) (T : Top p loose mean mg mb h₀) (hk : cs.kind = .function) (N : News h₀ L s.heap news)
   (h : ∀ x d k1 k2 k3 tn tb tp h' tk', (∀ q ∈ news, q.1 < d) → d < x → Fr h₀ L h' m → News h₀ L h' ((x, instObj 604 d) :: (d, sioD w.params k1 k2 k3 tn tb tp text 0) :: news) → Q (.ref x) { s with heap := h', toks := tk' }) :
   wpAny (model prog w) (ktrTop 390 250 gd cn cs L a ccd cl outer) (call (.ref 604) [.str text t1]) Q E s := by
  refine make_pyN (makes_sio (X.keeps F.keep)) ?_
  repeat' ((fail_if_success (first | (with_reducible show wpAny _ _ (pyIter _) _ _ _) | (with_reducible show wpAny _ _ (exec (Stmt.While _ _ _ _) _) _ _ _) | (with_reducible show wpAny _ _ (execs (Stmt.While _ _ _ _ :: _) _) _ _ _))); (first | (k_unfold; (try dsimp only)) | (k_end; wrow_close) | walk1 | (dsimp only; walk1) | (leave1; try dsimp only) | dsimp only))
  (rename News h₀ L _ _ => nE)
  refine h _ _ _ _ _ _ _ _ _ _ ?_ ?_ (by assumption) (news_drop34 nE)
  · intro q hq
    (rename ∀ p ∈ news, _ => hl9)
    have h1 := ltN (hl9 q hq)
    exact ltN (by omega)
  · omega
end
end Mine

namespace Mine
open PySem PySem.W PyProof.Rows PySem.Calls PySem.Spec
theorem kw_7 : True := by
  w_top off
  k_with_none
  trivial
theorem kw_8 : True := by
  k_with "enter" => ((refine' code_def ?k1q8 ?k2q8 ?k3q8 ?k4q8 ?k5q8 ?kAq8 ?kFq8 ?kKq8 ?k6q8 ?k7q8 ?k8q8 ?k9q8 ?kBq8 ?_ ?c2q8 ?c3q8 ?c4q8 ?c5q8; (case kAq8 => exact rfl); (case kFq8 => exact rfl); (case kKq8 => first | exact rfl | assumption); (case k1q8 => k_asm); (case k2q8 => k_asm); (case k3q8 => k_asm); (case k4q8 => k_asm); (case k5q8 => k_asm); (case k6q8 => k_is); (case k7q8 => k_is); (case k8q8 => k_room); (case k9q8 => first | exact BindsTo.of_eq rfl | exact binds_K (by k_in) rfl (by k_is) rfl rfl rfl | fail "k_enter: no rule for these arguments"); (case c5q8 => decide); (case kBq8 => exact locs rfl); (case c2q8 => exact rfl); (case c3q8 => exact rfl); (case c4q8 => exact rfl); k_whole; intro gZ' LZ' hZ' FGZ' FZ' NZ' BZ' XZ' TZ'; (try dsimp only); (try k_lift BZ'); (try k_fold)))
  trivial
theorem kw_9 : True := by
  k_with "enter" => (kp_kind "both"; (fail_if_success k_inElt); (refine' kp_both ?k1q9 ?k2q9 ?k3q9 ?k4q9 ?k5q9 ?kAq9 ?kFq9 ?kKq9 ?k6q9 ?k7q9 ?k8q9 ?kVq9 ?kXq9 ?kQq9 ?kMq9 ?kNq9 ?kDq9 ?kRq9 ?kPq9 ?kSq9 ?kTq9 ?kBq9 ?_ ?c2q9 ?c3q9 ?c4q9 ?c5q9; (case kAq9 => exact rfl); (case kFq9 => exact rfl); (case kKq9 => first | exact rfl | assumption); (case k1q9 => k_asm); (case k2q9 => k_asm); (case k3q9 => k_asm); (case k4q9 => k_asm); (case k5q9 => k_asm); (case k6q9 => k_is); (case k7q9 => k_is); (case k8q9 => k_room); (case kVq9 => kp_lit); (case kXq9 => kp_lit); (case kQq9 => exact rfl); (case kMq9 => exact rfl); (case kNq9 => exact rfl); (case kDq9 => kp_flats); (case kRq9 => exact rfl); (case kPq9 => exact rfl); (case kSq9 => exact fun _ => rfl); (case kTq9 => exact fun _ _ => rfl); (case kBq9 => exact fun _ _ => locs rfl); (case c5q9 => decide); (case c2q9 => exact rfl); (case c3q9 => exact rfl); (case c4q9 => exact rfl); k_whole; intro CZ' DZ' oZ' gZ' LZ' hZ' tkZ' l1Z l2Z loZ' hsZ' fsZ' FGZ' FZ' NZ' BZ' XZ' TZ'; (try k_lt l1Z); (try k_lt2 l2Z); (try dsimp only); (try k_lift BZ'); (try k_fold)))
  trivial

section
variable {prog : Program} {w : World} {p : Program} {loose : List Str} {mean : ExcName → Option Value} {mg mb : Str → Option Value}
  {gd : Option (List Code)} {cn : Str} {cs : Scope} {a : Addr} {ccd : Value} {cl : List (Str × Addr)} {outer : List Env} {A₀ : Around} {base h₀ : Heap} {L : Addr} {m : Str → Option Value}
  {s : Shared} {Q E : Value → Shared → Prop}

theorem c_read_in {x d : Addr} {k1 k2 k3 tn tb tp t1 : Tok} {text : Str} {pos c : Nat} (B : Below A₀ base outer h₀) (F : Fr h₀ L s.heap m) (X : (hd.heap_1 w.params).In h₀) (T : Top p loose mean mg mb h₀) (hk : cs.kind = .function) (N : News h₀ L s.heap [(x, instObj 604 d), (d, sioD w.params k1 k2 k3 tn tb tp text pos)]) (hdx : @LT.lt Nat _ d x) (hlen : text.length ≤ 4000) (hc : text.cps[pos]? = some c)
   (h : ∀ t' tp' h' tk', Fr h₀ L h' m → News h₀ L h' [(x, instObj 604 d), (d, sioD w.params k1 k2 k3 tn tb tp' text (pos + 1 : Nat))] → (hideAll s.heap [x, d]).StaysIn h' → Q (.str ⟨#[c]⟩ t') { s with heap := h', toks := tk' }) :
   wpAny (model prog w) (ktrTop 450 400 gd cn cs L a ccd cl outer) (call (.ref 550) [.ref x, .int 1 t1]) Q E s := by
  have hp := lt_of_at hc
  have hcc : text.cps[pos]? = some c ∧ True := ⟨hc, trivial⟩
  clear hc
  have eN0 := N
  refine wpAny_call ?_
  k_dflt (refine' code_defS ?k1 ?k2 ?k3 ?k4 ?k5 ?kA ?kF ?kK ?k6 ?k7 ?k8 ?k9 ?kB ?_ ?c2 ?c3 ?c4 ?c5; (case kA => exact rfl); (case kF => exact rfl); (case kK => first | assumption | exact rfl); (case k1 => k_asm); (case k2 => k_asm); (case k3 => k_asm); (case k4 => exact eN0); (case k5 => k_asm); (case k6 => k_is); (case k7 => k_is); (case k8 => k_room); (case k9 => first | exact BindsTo.of_eq rfl | exact binds_K (by k_in) rfl (by k_is) rfl rfl rfl | fail "k_enter: no rule for these arguments"); (case c5 => decide); (case kB => exact locs rfl); (case c2 => exact rfl); (case c3 => exact rfl); (case c4 => exact rfl); k_whole; intro g' L' h' eg' FG' F' N' B' X' T' l1; (try dsimp only); (try k_lift B'); (try k_fold))
  repeat' ((fail_if_success (first | (with_reducible show wpAny _ _ (pyIter _) _ _ _) | (with_reducible show wpAny _ _ (exec (Stmt.While _ _ _ _) _) _ _ _) | (with_reducible show wpAny _ _ (execs (Stmt.While _ _ _ _ :: _) _) _ _ _))); (first | (k_unfold; (try dsimp only)) | (k_end; wrow_close) | walk1 | (dsimp only; walk1) | (leave1; try dsimp only) | dsimp only))
  · rw [slice_char hcc.1]
    subst eg'
    exact h _ _ _ _ (by assumption) (by assumption) (by assumption)
  · have e : (text.length : Int) = (pos : Int) + 1 := by omega
    rw [e, slice_char hcc.1]
    subst eg'
    (rename News h₀ L _ _ => nE)
    rw [e] at nE
    exact h _ _ _ _ (by assumption) nE (by assumption)
theorem c_read_end {x d : Addr} {k1 k2 k3 tn tb tp t1 : Tok} {text : Str} {pos : Nat} (B : Below A₀ base outer h₀) (F : Fr h₀ L s.heap m) (X : (hd.heap_1 w.params).In h₀) (T : Top p loose mean mg mb h₀) (hk : cs.kind = .function) (N : News h₀ L s.heap [(x, instObj 604 d), (d, sioD w.params k1 k2 k3 tn tb tp text pos)]) (hdx : @LT.lt Nat _ d x) (hlen : text.length ≤ 4000) (hp : text.length ≤ pos) (hp2 : pos ≤ 4000)
   (h : ∀ t' h' tk', Fr h₀ L h' m → News h₀ L h' [(x, instObj 604 d), (d, sioD w.params k1 k2 k3 tn tb tp text pos)] → (hideAll s.heap [x, d]).StaysIn h' → Q (.str (Str.ofString "") t') { s with heap := h', toks := tk' }) :
   wpAny (model prog w) (ktrTop 450 400 gd cn cs L a ccd cl outer) (call (.ref 550) [.ref x, .int 1 t1]) Q E s := by
  have eN0 := N
  refine wpAny_call ?_
  k_dflt (refine' code_defS ?k1 ?k2 ?k3 ?k4 ?k5 ?kA ?kF ?kK ?k6 ?k7 ?k8 ?k9 ?kB ?_ ?c2 ?c3 ?c4 ?c5; (case kA => exact rfl); (case kF => exact rfl); (case kK => first | assumption | exact rfl); (case k1 => k_asm); (case k2 => k_asm); (case k3 => k_asm); (case k4 => exact eN0); (case k5 => k_asm); (case k6 => k_is); (case k7 => k_is); (case k8 => k_room); (case k9 => first | exact BindsTo.of_eq rfl | exact binds_K (by k_in) rfl (by k_is) rfl rfl rfl | fail "k_enter: no rule for these arguments"); (case c5 => decide); (case kB => exact locs rfl); (case c2 => exact rfl); (case c3 => exact rfl); (case c4 => exact rfl); k_whole; intro g' L' h' eg' FG' F' N' B' X' T' l1; (try dsimp only); (try k_lift B'); (try k_fold))
  repeat' ((fail_if_success (first | (with_reducible show wpAny _ _ (pyIter _) _ _ _) | (with_reducible show wpAny _ _ (exec (Stmt.While _ _ _ _) _) _ _ _) | (with_reducible show wpAny _ _ (execs (Stmt.While _ _ _ _ :: _) _) _ _ _))); (first | (k_unfold; (try dsimp only)) | (k_end; wrow_close) | walk1 | (dsimp only; walk1) | (leave1; try dsimp only) | dsimp only))
  subst eg'
  exact h _ _ _ (by assumption) (by assumption) (by assumption)
end
end Mine

namespace Mine
open PySem PySem.W PyProof.Rows PySem.Calls PySem.Spec
/-- a fact put by: no line of the walk looks into it -/
structure Hide (P : Prop) : Prop where
  out : P
/-- what of a lexer stays: the tokens of its keys and values, the word signs, the text -/
structure LexC where
  (k0 k1 k2 k3 k4 k5 k6 k7 k8 k9 k10 k11 k12 k13 k14 k15 k16 k17 k18 v4 v5 v6 v8 v9 v10 v14 v18 s1 s2 s3 sn sb : Tok)
  wc : Str
  text : Str
noncomputable abbrev lexD (P : Params) (c : LexC) (sio pb fs : Addr) (st : Value) (ln : Int) (tl : Tok) (tok : Str) (tt : Tok) : Obj :=
  W.dictOf [⟨PyData.keyHash P (Str.ofString "instream"), Value.str (Str.ofString "instream") c.k0, Value.ref sio⟩,
    ⟨PyData.keyHash P (Str.ofString "infile"), Value.str (Str.ofString "infile") c.k1, Value.none⟩,
    ⟨PyData.keyHash P (Str.ofString "posix"), Value.str (Str.ofString "posix") c.k2, Value.bool true⟩,
    ⟨PyData.keyHash P (Str.ofString "eof"), Value.str (Str.ofString "eof") c.k3, Value.none⟩,
    ⟨PyData.keyHash P (Str.ofString "commenters"), Value.str (Str.ofString "commenters") c.k4, Value.str (Str.ofString "") c.v4⟩,
    ⟨PyData.keyHash P (Str.ofString "wordchars"), Value.str (Str.ofString "wordchars") c.k5, Value.str c.wc c.v5⟩,
    ⟨PyData.keyHash P (Str.ofString "whitespace"), Value.str (Str.ofString "whitespace") c.k6, Value.str (Str.ofString " \t\r\n") c.v6⟩,
    ⟨PyData.keyHash P (Str.ofString "whitespace_split"), Value.str (Str.ofString "whitespace_split") c.k7, Value.bool true⟩,
    ⟨PyData.keyHash P (Str.ofString "quotes"), Value.str (Str.ofString "quotes") c.k8, Value.str (Str.ofString "'\"") c.v8⟩,
    ⟨PyData.keyHash P (Str.ofString "escape"), Value.str (Str.ofString "escape") c.k9, Value.str (Str.ofString "\\") c.v9⟩,
    ⟨PyData.keyHash P (Str.ofString "escapedquotes"), Value.str (Str.ofString "escapedquotes") c.k10, Value.str (Str.ofString "\"") c.v10⟩,
    ⟨PyData.keyHash P (Str.ofString "state"), Value.str (Str.ofString "state") c.k11, st⟩,
    ⟨PyData.keyHash P (Str.ofString "pushback"), Value.str (Str.ofString "pushback") c.k12, Value.ref pb⟩,
    ⟨PyData.keyHash P (Str.ofString "lineno"), Value.str (Str.ofString "lineno") c.k13, Value.int ln tl⟩,
    ⟨PyData.keyHash P (Str.ofString "debug"), Value.str (Str.ofString "debug") c.k14, Value.int 0 c.v14⟩,
    ⟨PyData.keyHash P (Str.ofString "token"), Value.str (Str.ofString "token") c.k15, Value.str tok tt⟩,
    ⟨PyData.keyHash P (Str.ofString "filestack"), Value.str (Str.ofString "filestack") c.k16, Value.ref fs⟩,
    ⟨PyData.keyHash P (Str.ofString "source"), Value.str (Str.ofString "source") c.k17, Value.none⟩,
    ⟨PyData.keyHash P (Str.ofString "_punctuation_chars"), Value.str (Str.ofString "_punctuation_chars") c.k18, Value.str (Str.ofString "") c.v18⟩] 19
inductive LSt where
  | sp | wd | qt (x : Nat)
noncomputable def isWs (c : Nat) : Bool := decide (c ∈ (Str.ofString " \t\r\n").cps.toList)
noncomputable def isQt (c : Nat) : Bool := decide (c ∈ (Str.ofString "'\"").cps.toList)
/-- what read_token makes of the signs that are left: quoted, the token, what is left behind it (none at the text's end); none: an open quotation -/
noncomputable def scan : LSt → Bool → Str → List Nat → Option (Bool × Str × Option (List Nat))
  | .sp, q, tok, [] => some (q, tok, none)
  | .sp, q, tok, c :: r => if isWs c then scan .sp q tok r else if isQt c then scan (.qt c) q tok r else scan .wd q ⟨#[c]⟩ r
  | .qt _, _, _, [] => none
  | .qt x, _, tok, c :: r => if c = x then scan .wd true tok r else scan (.qt x) true (tok ++ ⟨#[c]⟩) r
  | .wd, q, tok, [] => some (q, tok, none)
  | .wd, q, tok, c :: r => if isWs c then some (q, tok, some r) else if isQt c then scan (.qt c) q tok r else scan .wd q (tok ++ ⟨#[c]⟩) r
noncomputable abbrev LSt.val : LSt → Tok → Value
  | .sp, t => .str (Str.ofString " ") t
  | .wd, t => .str (Str.ofString "a") t
  | .qt x, t => .str ⟨#[x]⟩ t
noncomputable def LSt.Ok : LSt → Bool → Str → Prop
  | .sp, q, tok => q = false ∧ tok = Str.ofString ""
  | .wd, q, tok => q = true ∨ 0 < tok.length
  | .qt x, _, _ => isQt x = true
/-- a lexer and all that it has -/
noncomputable abbrev lexL (P : Params) (c : LexC) (fs pb sio ds lx dl : Addr) (st : Value) (ln : Int) (tl : Tok) (tok : Str) (tt tp : Tok) (pos : Int) : List (Addr × Obj) :=
  [(fs, dqObj), (pb, dqObj), (sio, instObj 604 ds), (ds, sioD P c.s1 c.s2 c.s3 c.sn c.sb tp c.text pos), (lx, instObj 739 dl), (dl, lexD P c sio pb fs st ln tl tok tt)]
/-- the addresses are apart -/
structure Apart (fs pb sio ds lx dl : Addr) : Prop where
  a1 : @LT.lt Nat _ dl lx
  a2 : @LT.lt Nat _ lx ds
  a3 : @LT.lt Nat _ ds sio
  a4 : @LT.lt Nat _ sio pb
  a5 : @LT.lt Nat _ pb fs
noncomputable def frameM (nc : Option Value) (q : Bool) (te : Tok) (lx : Addr) : Str → Option Value := fun y =>
  if y = Str.ofString "nextchar" then nc else if y = Str.ofString "quoted" then some (.bool q) else if y = Str.ofString "escapedstate" then some (.str (Str.ofString " ") te) else if y = Str.ofString "self" then some (.ref lx) else none
section
variable {M : Model} {A : Around} {E : Value → Shared → Prop} {env : Env} {s : Shared} {Q : Flow → Shared → Prop}
theorem execs_append (a b : List Stmt) (env : Env) : execs (a ++ b) env = execs a env >>= fun f => match f with | .next => execs b env | f => pure f := by
  induction a with
  | nil => rfl
  | cons x r ih =>
    rw [List.cons_append, execs_cons, execs_cons, bind_assoc, ih]
    refine congrArg _ (funext fun f => ?_)
    cases f <;> rfl
theorem execs_cut {a b : List Stmt} (P : Shared → Prop) (h1 : wpAny M A (execs a env) (fun f s' => f = .next ∧ P s') E s) (h2 : ∀ s', P s' → wpAny M A (execs b env) Q E s') : wpAny M A (execs (a ++ b) env) Q E s := by
  rw [execs_append]
  refine wpAny_bind (wpAny_mono h1 (fun f s' h => ?_) fun _ _ h => h)
  obtain ⟨rfl, h⟩ := h
  exact h2 s' h
end
noncomputable def jRT (P : Params) (c : LexC) (fs pb sio ds lx dl : Addr) (R : Option (Bool × Str × Option (List Nat))) (n : Nat) (m : Str → Option Value) (news : List (Addr × Obj)) : Prop :=
  ∃ (st : LSt) (q : Bool) (tok : Str) (pos : Nat) (nc : Option Value) (te ts tl tt tp : Tok) (ln : Int), m = frameM nc q te lx ∧ news = lexL P c fs pb sio ds lx dl (st.val ts) ln tl tok tt tp pos ∧
    pos ≤ c.text.length ∧ n + pos = c.text.length + 1 ∧ tok.length ≤ pos ∧ st.Ok q tok ∧ scan st q tok (c.text.cps.toList.drop pos) = R
/-- behind the turn's head: a sign is read, or none is left -/
noncomputable def HeadP (P : Params) (c : LexC) (fs pb sio ds lx dl : Addr) (g : Heap) (L' : Addr) (st : Value) (tok : Str) (tt : Tok) (q : Bool) (te : Tok) (pos : Nat) (s s' : Shared) : Prop :=
  ∃ h tk nc tn ln tl tp pos', s' = { s with heap := h, toks := tk } ∧ Fr g L' h (frameM (some (.str nc tn)) q te lx) ∧ News g L' h (lexL P c fs pb sio ds lx dl st ln tl tok tt tp (pos' : Nat)) ∧
    ((nc = Str.ofString "" ∧ pos' = pos ∧ c.text.length ≤ pos) ∨ ∃ x, c.text.cps[pos]? = some x ∧ nc = ⟨#[x]⟩ ∧ pos' = pos + 1)
theorem frameM_nc {nc : Option Value} {v : Value} {q : Bool} {te : Tok} {lx : Addr} : (fun y => if y = Str.ofString "nextchar" then some v else frameM nc q te lx y) = frameM (some v) q te lx := by
  funext y; unfold frameM; by_cases h : y = Str.ofString "nextchar" <;> simp [h]
theorem frameM_qu {nc : Option Value} {q : Bool} {te : Tok} {lx : Addr} {b : Bool} : (fun y => if y = Str.ofString "quoted" then some (.bool b) else frameM nc q te lx y) = frameM nc b te lx := by
  funext y
  unfold frameM
  by_cases h : y = Str.ofString "quoted"
  · subst h
    have e : ¬ (Str.ofString "quoted" = Str.ofString "nextchar") := by decide
    simp [e]
  · simp [h]
section
variable {h₀ : Heap} {L : Addr} {P : Params} {c : LexC} {fs pb sio ds lx dl : Addr} {st : Value} {ln : Int} {tl : Tok} {tok : Str} {tt tp tp' : Tok} {pos pos' : Int} {h h' : Heap}
theorem lex_read (N : News h₀ L h (lexL P c fs pb sio ds lx dl st ln tl tok tt tp pos)) (M : News h₀ L h' [(sio, instObj 604 ds), (ds, sioD P c.s1 c.s2 c.s3 c.sn c.sb tp' c.text pos')]) (S : (hideAll h [sio, ds]).StaysIn h')
    (a1 : @LT.lt Nat _ dl lx) (a2 : @LT.lt Nat _ lx ds) (a3 : @LT.lt Nat _ ds sio) (a4 : @LT.lt Nat _ sio pb) (a5 : @LT.lt Nat _ pb fs) : News h₀ L h' (lexL P c fs pb sio ds lx dl st ln tl tok tt tp' pos') := by
  have R : News h₀ L h [(fs, dqObj), (pb, dqObj), (lx, instObj 739 dl), (dl, lexD P c sio pb fs st ln tl tok tt)] := fun q hq => N q (by
    simp only [List.mem_cons, List.not_mem_nil, or_false] at hq ⊢
    rcases hq with e | e | e | e
    · exact .inl e
    · exact .inr (.inl e)
    · exact .inr (.inr (.inr (.inr (.inl e))))
    · exact .inr (.inr (.inr (.inr (.inr e)))))
  have R' := news_hide (as := [sio, ds]) R (fun q hq hm => by
    simp only [List.mem_cons, List.not_mem_nil, or_false] at hq hm
    rcases hq with rfl | rfl | rfl | rfl <;> rcases hm with e | e <;> (have e' : @Eq Nat _ _ := e; dsimp only at e'; omega)) S
  intro q hq
  simp only [List.mem_cons, List.not_mem_nil, or_false] at hq
  rcases hq with e | e | e | e | e | e
  · exact R' q (by rw [e]; simp)
  · exact R' q (by rw [e]; simp)
  · exact M q (by rw [e]; simp)
  · exact M q (by rw [e]; simp)
  · exact R' q (by rw [e]; simp)
  · exact R' q (by rw [e]; simp)
end
section
variable {prog : Program} {w : World} {A : Around} {E : Value → Shared → Prop} {s : Shared} {x y : Str} {t u : Tok} {c : Nat} {b : Bool} {Q : Value → Shared → Prop}
theorem in_by (hb : decide (c ∈ y.cps.toList) = b) (h : Q (.bool b) s) : wpAny (model prog w) A (compareOp .In (.str ⟨#[c]⟩ u) (.str y t)) Q E s :=
  PyProof.Rows.in_str (by rw [StrLaws.found_one, hb]; exact h)
theorem notIn_by (hb : decide (c ∈ y.cps.toList) = b) (h : Q (.bool (!b)) s) : wpAny (model prog w) A (compareOp .NotIn (.str ⟨#[c]⟩ u) (.str y t)) Q E s :=
  PyProof.Rows.notIn_str (by rw [StrLaws.found_one, hb]; exact h)
theorem in_lit (hb : (!(Builtin.Str.occurrences y x 0 y.length 1).isEmpty) = b) (h : Q (.bool b) s) : wpAny (model prog w) A (compareOp .In (.str x u) (.str y t)) Q E s :=
  PyProof.Rows.in_str (by rw [hb]; exact h)
theorem eq_by (hb : (x == y) = b) (h : Q (.bool b) s) : wpAny (model prog w) A (compareOp .Eq (.str x u) (.str y t)) Q E s :=
  PyProof.Rows.eq_str (by rw [hb]; exact h)
end
theorem eq_char (x : Nat) (c : Nat) : ((⟨#[x]⟩ : Str) == ⟨#[c]⟩) = decide (x = c) := by
  by_cases h : x = c
  · subst h; simp
  · simp [h]
theorem truthy_by {prog : Program} {w : World} {A : Around} {E : Value → Shared → Prop} {s : Shared} {x : Str} {t : Tok} {b : Bool} {Q : Bool → Shared → Prop} (hl : x.length ≤ 1000000) (hb : decide (0 < x.length) = b) (h : ∀ tk, Q b { s with toks := tk }) :
    wpAny (model prog w) A (truthy (.str x t)) Q E s := PySem.P.truthy_str (by omega) (by
  have e : ((x.length : Int) != 0) = b := by
    rw [← hb]
    by_cases h0 : x.length = 0
    · rw [h0]; rfl
    · have h1 : ((x.length : Int) != 0) = true := bne_iff_ne.mpr (by omega)
      rw [h1]; exact (decide_eq_true (by omega)).symm
  rw [e]
  exact h _)
theorem drop_at {t : Str} {i x : Nat} (h : t.cps[i]? = some x) : t.cps.toList.drop i = x :: t.cps.toList.drop (i + 1) := by
  obtain ⟨hlt, he⟩ := Array.getElem?_eq_some_iff.mp h
  rw [List.drop_eq_getElem_cons (by simpa using hlt)]
  simp [he]
theorem drop_end {t : Str} {i : Nat} (h : t.length ≤ i) : t.cps.toList.drop i = [] := List.drop_eq_nil_of_le (by rw [Array.length_toList]; exact h)
/-- the state and the place behind a token -/
noncomputable def restP (c : LexC) (left : Option (List Nat)) (sv : Value) (pos : Nat) : Prop := pos ≤ c.text.length ∧ ((left = none ∧ sv = .none ∧ pos = c.text.length) ∨ (∃ ts, left = some (c.text.cps.toList.drop pos) ∧ sv = .str (Str.ofString " ") ts))
/-- behind the loop -/
noncomputable def AfterP (P : Params) (c : LexC) (fs pb sio ds lx dl : Addr) (g : Heap) (L' : Addr) (R : Option (Bool × Str × Option (List Nat))) (s s' : Shared) : Prop :=
  ∃ h tk nc q te sv ln tl tok tt tp left pos', s' = { s with heap := h, toks := tk } ∧ Fr g L' h (frameM nc q te lx) ∧ News g L' h (lexL P c fs pb sio ds lx dl sv ln tl tok tt tp (pos' : Nat)) ∧ R = some (q, tok, left) ∧ tok.length ≤ 4000 ∧ restP c left sv pos'
theorem frameM_init {mm : Str → Option Value} {t : Tok} {lx : Addr} (hm : mm = fun y => List.lookup y [(Str.ofString "self", Value.ref lx)]) :
    (fun y => if y = Str.ofString "escapedstate" then some (Value.str (Str.ofString " ") t) else if y = Str.ofString "quoted" then some (Value.bool false) else mm y) = frameM none false t lx := by
  subst hm
  funext y
  unfold frameM
  by_cases h1 : y = Str.ofString "nextchar"
  · subst h1
    rw [if_pos rfl, if_neg (by decide), if_neg (by decide)]
    have : (Str.ofString "nextchar" == Str.ofString "self") = false := by decide
    simp [List.lookup, this]
  · rw [if_neg h1]
    by_cases h2 : y = Str.ofString "escapedstate"
    · subst h2
      rw [if_pos rfl, if_neg (by decide), if_pos rfl]
    · rw [if_neg h2, if_neg h2]
      by_cases h3 : y = Str.ofString "quoted"
      · rw [if_pos h3, if_pos h3]
      · rw [if_neg h3, if_neg h3]
        by_cases h4 : y = Str.ofString "self"
        · subst h4; rw [if_pos rfl]; simp [List.lookup]
        · rw [if_neg h4]
          have : (y == Str.ofString "self") = false := beq_false_of_ne h4
          simp [List.lookup, this]
theorem no_empty (x : Nat) : decide (x ∈ (Str.ofString "").cps.toList) = false := rfl
theorem no_bs {t : Str} {i x : Nat} (h : NoBs t) (hx : t.cps[i]? = some x) : decide (x ∈ (Str.ofString "\\").cps.toList) = false := by
  have h1 := (h x (Array.mem_of_getElem? hx)).1
  exact decide_eq_false (fun q => h1 (by
    have q' : x ∈ ([92] : List Nat) := q
    simpa using q'))
theorem qt_sp {z : Nat} (h : isQt z = true) : ((⟨#[z]⟩ : Str) == Str.ofString " ") = false := by
  have e : Str.ofString " " = ⟨#[32]⟩ := by decide
  rw [e, eq_char]
  refine decide_eq_false fun q => ?_
  subst q
  revert h; decide
theorem news_tl {h₀ h : Heap} {L : Addr} {a : Addr × Obj} {r : List (Addr × Obj)} (N : News h₀ L h (a :: r)) : News h₀ L h r := fun q hq => N q (.tail _ hq)
theorem raised_nil {base h : Heap} {l : List Env} {e t : Addr} {cls : Value} {vs : List Value} {news : List (Addr × Obj)} (R : RaisedK base l e cls t vs news h) : RaisedK base l e cls t vs [] h := by
  obtain ⟨⟨B, h1, _, h3⟩, h4⟩ := R
  exact ⟨⟨B, h1, (fun _ q => nomatch q), h3⟩, h4⟩
/-- what read_token gives back of a token -/
noncomputable def tokV (q : Bool) (tok : Str) (v : Value) : Prop := (q = false ∧ tok = Str.ofString "" ∧ v = .none) ∨ ((q = true ∨ tok ≠ Str.ofString "") ∧ ∃ t, v = .str tok t)
theorem raisedS_nil {base G h : Heap} {l : List Env} {e t : Addr} {cls : Value} {vs : List Value} {news : List (Addr × Obj)} (R : RaisedS base G l e cls t vs news h) : RaisedS base G l e cls t vs [] h := by
  obtain ⟨⟨B, h1, h2, _, h3⟩, h4⟩ := R
  exact ⟨⟨B, h1, h2, (fun _ q => nomatch q), h3⟩, h4⟩
end Mine

namespace Mine
open PySem PySem.W PyProof.Rows PySem.Calls PySem.Spec
theorem kw_10 : True := by
  w_top off
  k_with_none
  trivial
theorem kw_11 : True := by
  k_with "enter" => ((refine' code_def ?k1q11 ?k2q11 ?k3q11 ?k4q11 ?k5q11 ?kAq11 ?kFq11 ?kKq11 ?k6q11 ?k7q11 ?k8q11 ?k9q11 ?kBq11 ?_ ?c2q11 ?c3q11 ?c4q11 ?c5q11; (case kAq11 => exact rfl); (case kFq11 => exact rfl); (case kKq11 => first | exact rfl | assumption); (case k1q11 => k_asm); (case k2q11 => k_asm); (case k3q11 => k_asm); (case k4q11 => k_asm); (case k5q11 => k_asm); (case k6q11 => k_is); (case k7q11 => k_is); (case k8q11 => k_room); (case k9q11 => first | exact BindsTo.of_eq rfl | exact binds_K (by k_in) rfl (by k_is) rfl rfl rfl | fail "k_enter: no rule for these arguments"); (case c5q11 => decide); (case kBq11 => exact locs rfl); (case c2q11 => exact rfl); (case c3q11 => exact rfl); (case c4q11 => exact rfl); k_whole; intro gZ' LZ' hZ' FGZ' FZ' NZ' BZ' XZ' TZ'; (try dsimp only); (try k_lift BZ'); (try k_fold)))
  trivial
theorem kw_12 : True := by
  k_with "enter" => (kp_kind "both"; (fail_if_success k_inElt); (refine' kp_both ?k1q12 ?k2q12 ?k3q12 ?k4q12 ?k5q12 ?kAq12 ?kFq12 ?kKq12 ?k6q12 ?k7q12 ?k8q12 ?kVq12 ?kXq12 ?kQq12 ?kMq12 ?kNq12 ?kDq12 ?kRq12 ?kPq12 ?kSq12 ?kTq12 ?kBq12 ?_ ?c2q12 ?c3q12 ?c4q12 ?c5q12; (case kAq12 => exact rfl); (case kFq12 => exact rfl); (case kKq12 => first | exact rfl | assumption); (case k1q12 => k_asm); (case k2q12 => k_asm); (case k3q12 => k_asm); (case k4q12 => k_asm); (case k5q12 => k_asm); (case k6q12 => k_is); (case k7q12 => k_is); (case k8q12 => k_room); (case kVq12 => kp_lit); (case kXq12 => kp_lit); (case kQq12 => exact rfl); (case kMq12 => exact rfl); (case kNq12 => exact rfl); (case kDq12 => kp_flats); (case kRq12 => exact rfl); (case kPq12 => exact rfl); (case kSq12 => exact fun _ => rfl); (case kTq12 => exact fun _ _ => rfl); (case kBq12 => exact fun _ _ => locs rfl); (case c5q12 => decide); (case c2q12 => exact rfl); (case c3q12 => exact rfl); (case c4q12 => exact rfl); k_whole; intro CZ' DZ' oZ' gZ' LZ' hZ' tkZ' l1Z l2Z loZ' hsZ' fsZ' FGZ' FZ' NZ' BZ' XZ' TZ'; (try k_lt l1Z); (try k_lt2 l2Z); (try dsimp only); (try k_lift BZ'); (try k_fold)))
  trivial

theorem kw_13 : True := by
  k_with "call ref" => (k_here; (with_reducible show wpAny _ _ (call (Value.ref 550) _) _ _ _); k_dflt (refine wpAny_room (A' := ktrTop 450 400 _ _ _ _ _ _ _ _) ?_ rfl (Nat.le_of_ble_eq_true rfl) rfl rfl (Nat.le_of_ble_eq_true rfl); first | (refine' c_read_in ?k1q13 ?k2q13 ?k3q13 ?k4q13 ?k5q13 ?k6q13 ?k7q13 ?k8q13 ?k9q13 ?_; (case k1q13 => k_asm); (case k2q13 => k_asm); (case k3q13 => k_asm); (case k4q13 => k_asm); (case k5q13 => exact rfl); (case k6q13 => exact news_pick2 (by k_asm) (by k_memK) (by k_memK)); (case k7q13 => assumption); (case k8q13 => assumption); (case k9q13 => assumption); k_whole; intro t9Z tp9Z h9Z tk9Z F9Z M9Z S9Z) | (refine' c_read_end ?k1q13 ?k2q13 ?k3q13 ?k4q13 ?k5q13 ?k6q13 ?k7q13 ?k8q13 ?k9q13 ?kaq13 ?_; (case k1q13 => k_asm); (case k2q13 => k_asm); (case k3q13 => k_asm); (case k4q13 => k_asm); (case k5q13 => exact rfl); (case k6q13 => exact news_pick2 (by k_asm) (by k_memK) (by k_memK)); (case k7q13 => assumption); (case k8q13 => assumption); (case k9q13 => assumption); (case kaq13 => assumption); k_whole; intro t9Z h9Z tk9Z F9Z M9Z S9Z)); (have N9Z := lex_read (by k_asm) M9Z S9Z (by assumption) (by assumption) (by assumption) (by assumption) (by assumption)); clear M9Z S9Z; (try k_sweep); (try dsimp only))
  trivial
theorem kw_14 : True := by
  k_with "compareOp In str str" => (k_here; first | (refine' in_by ?k1q14 ?_; (case k1q14 => first | assumption | exact decide_eq_false (by simp)); k_whole) | (refine' in_lit (b := true) ?k1q14 ?_; (case k1q14 => decide +kernel)) | (refine' in_lit (b := false) ?k1q14 ?_; (case k1q14 => decide +kernel)))
  trivial
theorem kw_15 : True := by
  k_with "compareOp NotIn str str" => (k_here; refine' notIn_by ?k1q15 ?_; (case k1q15 => first | assumption | exact decide_eq_false (by simp)); k_whole)
  trivial
theorem kw_16 : True := by
  k_with "compareOp Eq str str" => (k_here; first | (refine' eq_by ?k1q16 ?_; (case k1q16 => assumption); k_whole) | (refine' eq_by (b := true) ?k1q16 ?_; (case k1q16 => decide +kernel)) | (refine' eq_by (b := false) ?k1q16 ?_; (case k1q16 => decide +kernel)))
  trivial
theorem kw_17 : True := by
  k_with "truthy str" => (k_here; k_dflt (first | (refine' truthy_by ?k0q17 ?k1q17 ?_; (case k1q17 => assumption); (case k0q17 => omega); k_whole; intro tk9Z) | (refine' truthy_by (b := true) ?k0q17 ?k1q17 ?_; (case k1q17 => exact rfl); (case k0q17 => exact Nat.le_of_ble_eq_true rfl); intro tk9Z) | (refine' truthy_by (b := false) ?k0q17 ?k1q17 ?_; (case k1q17 => exact rfl); (case k0q17 => exact Nat.le_of_ble_eq_true rfl); intro tk9Z)))
  trivial
theorem kw_18 : True := by
  k_with "leaving ref" => (k_here; (refine' leave_raiseS ?k1q18 (Heap.MadeExc.of (by assumption)) ?k2q18 ?k3q18 ?_; (case k1q18 => assumption); (case k2q18 => assumption); (case k3q18 => k_asm); k_whole; intro hZ' tZ' RZ' RKZ' UZ'; clear RKZ'; (try dsimp only at RZ' UZ' ⊢)))
  trivial
theorem kw_19 : True := by
  k_with "exec Raise some none" => (k_here; (with_reducible show wpAny _ _ (exec (Stmt.Raise (some (Expr.Call (Expr.Name _ _) (_ :: _) [] _)) none _) _) _ _ _); k_dflt (refine' Raise_madeB PySem.F.excCall_ValueError PySem.F.excRaise_ValueError ?hhq19 ?_ ?heq19 ?hpq19; (case hhq19 => exact rfl); (case heq19 => exact rfl); (case hpq19 => exact rfl)))
  trivial
theorem rtA {n p l : Nat} (e : n + p = l + 1) (h : p < l) : n - 1 < n := by omega
theorem rtB {n p l : Nat} (e : n + p = l + 1) (h : p < l) : n - 1 + (p + 1) = l + 1 := by omega
section
variable {prog : Program} {w : World} {p : Program} {loose : List Str} {mean : ExcName → Option Value} {mg mb : Str → Option Value}
  {gd : Option (List Code)} {cn : Str} {cs : Scope} {a : Addr} {ccd : Value} {cl : List (Str × Addr)} {outer : List Env} {A₀ : Around} {base h₀ : Heap} {L : Addr} {m : Str → Option Value}
  {s : Shared} {Q E : Value → Shared → Prop}

theorem c_rt {c : LexC} {fs pb sio ds lx dl : Addr} {ts : Tok} {ln : Int} {tl tt tp : Tok} {pos : Nat} (B : Below A₀ base outer h₀) (F : Fr h₀ L s.heap m) (X : (hd.heap_1 w.params).In h₀) (T : Top p loose mean mg mb h₀) (hk : cs.kind = .function) (N : News h₀ L s.heap (lexL w.params c fs pb sio ds lx dl (.str (Str.ofString " ") ts) ln tl (Str.ofString "") tt tp pos)) (ap : Apart fs pb sio ds lx dl) (hlen : c.text.length ≤ 4000) (hp : pos ≤ c.text.length) (hbs : NoBs c.text) (hwq : ∀ x, isQt x = true → decide (x ∈ c.wc.cps.toList) = false)
   (h : ∀ q tok left v h' tk' sv ln' tl' tt' tp' pos', scan .sp false (Str.ofString "") (c.text.cps.toList.drop pos) = some (q, tok, left) → tok.length ≤ 4000 → tokV q tok v → restP c left sv pos' → Fr h₀ L h' m →
      News h₀ L h' (lexL w.params c fs pb sio ds lx dl sv ln' tl' (Str.ofString "") tt' tp' (pos' : Nat)) → (hideAll s.heap [fs, pb, sio, ds, lx, dl]).StaysIn h' → Q v { s with heap := h', toks := tk' })
   (hE : ∀ e t tm g h' tk', g = hideAll s.heap [fs, pb, sio, ds, lx, dl] → scan .sp false (Str.ofString "") (c.text.cps.toList.drop pos) = none → Fr h₀ L g m → RaisedS base g (envX cn cs L a ccd cl :: outer) e (.type "ValueError") t [.str (Str.ofString "No closing quotation") tm] [] h' → g.UpToSlots h' → E (.ref e) { s with heap := h', toks := tk' }) :
   wpAny (model prog w) (ktrTop 430 350 gd cn cs L a ccd cl outer) (call (.ref 707) [.ref lx]) Q E s := by
  obtain ⟨a1, a2, a3, a4, a5⟩ := ap
  have hbs' : NoBs c.text ∧ True := ⟨hbs, trivial⟩
  clear hbs
  have eN0 := N
  refine wpAny_call ?_
  k_dflt (refine' code_defS ?k1 ?k2 ?k3 ?k4 ?k5 ?kA ?kF ?kK ?k6 ?k7 ?k8 ?k9 ?kB ?_ ?c2 ?c3 ?c4 ?c5; (case kA => exact rfl); (case kF => exact rfl); (case kK => first | assumption | exact rfl); (case k1 => k_asm); (case k2 => k_asm); (case k3 => k_asm); (case k4 => exact eN0); (case k5 => k_asm); (case k6 => k_is); (case k7 => k_is); (case k8 => k_room); (case k9 => first | exact BindsTo.of_eq rfl | exact binds_K (by k_in) rfl (by k_is) rfl rfl rfl | fail "k_enter: no rule for these arguments"); (case c5 => decide); (case kB => exact locs rfl); (case c2 => exact rfl); (case c3 => exact rfl); (case c4 => exact rfl); k_whole; intro g' L' h' eg' FG' F' N' B' X' T' l1; (try dsimp only); (try k_lift B'); (try k_fold))
  repeat' ((fail_if_success (first | (with_reducible show wpAny _ _ (pyIter _) _ _ _) | (with_reducible show wpAny _ _ (exec (Stmt.While _ _ _ _) _) _ _ _) | (with_reducible show wpAny _ _ (execs (Stmt.While _ _ _ _ :: _) _) _ _ _))); (first | (k_unfold; (try dsimp only)) | (k_end; wrow_close) | walk1 | (dsimp only; walk1) | (leave1; try dsimp only) | dsimp only))
  (rename Fr g' L' _ _ => fW); (rename News g' L' _ _ => nW)
  refine execs_cut (a := [_]) (b := [_, _, _, _, _]) (AfterP w.params c fs pb sio ds lx dl g' L' (scan .sp false (Str.ofString "") (c.text.cps.toList.drop pos)) s) ?_ ?_
  · refine wpAny_execs_cons ?_
    refine While_inv2 (jRT w.params c fs pb sio ds lx dl (scan .sp false (Str.ofString "") (c.text.cps.toList.drop pos))) (n₀ := c.text.length + 1 - pos) fW nW ?_ ?_
    · exact ⟨.sp, false, _, pos, none, _, ts, tl, tt, tp, ln, frameM_init rfl, rfl, hp, by omega, Nat.zero_le _, ⟨rfl, rfl⟩, rfl⟩
    · clear fW nW
      rintro n m₁ news₁ h₁ tk₁ F1 N1 ⟨st, q, tok, pos₁, nc, te, ts₁, tl₁, tt₁, tp₁, ln₁, rfl, rfl, hp1, hn1, htk, hok, hscan⟩
      dsimp only at F1 N1 ⊢
      iterate 3 (all_goals try ((fail_if_success (first | (with_reducible show wpAny _ _ (pyIter _) _ _ _) | (with_reducible show wpAny _ _ (exec (Stmt.While _ _ _ _) _) _ _ _) | (with_reducible show wpAny _ _ (execs (Stmt.While _ _ _ _ :: _) _) _ _ _))); (first | (k_unfold; (try dsimp only)) | (k_end; wrow_close) | walk1 | (dsimp only; walk1) | (leave1; try dsimp only) | dsimp only)))
      refine execs_cut (a := [_, _, _]) (b := [_]) (HeadP w.params c fs pb sio ds lx dl g' L' (st.val ts₁) tok tt₁ q te pos₁ s) ?_ ?_
      · clear h hE hok hscan
        by_cases hx : pos₁ < c.text.length
        · obtain ⟨x, hx⟩ : ∃ x, c.text.cps[pos₁]? = some x := ⟨c.text.cps[pos₁], Array.getElem?_eq_getElem hx⟩
          by_cases hnl : ((⟨#[x]⟩ : Str) == Str.ofString "\n") = true
          all_goals (try (have hnl := Bool.eq_false_iff.mpr hnl))
          all_goals repeat' ((fail_if_success (first | (with_reducible show wpAny _ _ (pyIter _) _ _ _) | (with_reducible show wpAny _ _ (exec (Stmt.While _ _ _ _) _) _ _ _) | (with_reducible show wpAny _ _ (execs (Stmt.While _ _ _ _ :: _) _) _ _ _))); (first | (k_unfold; (try dsimp only)) | (k_end; wrow_close) | walk1 | (dsimp only; walk1) | (leave1; try dsimp only) | dsimp only))
          all_goals (
            (rename Fr g' L' _ _ => fE); (rename News g' L' _ _ => nE)
            rw [frameM_nc] at fE
            exact ⟨_, _, _, _, _, _, _, _, rfl, fE, nE, .inr ⟨x, hx, rfl, rfl⟩⟩)
        · have hx : c.text.length ≤ pos₁ := Nat.le_of_not_lt hx
          have hx4 : pos₁ ≤ 4000 := Nat.le_trans hp1 hlen
          repeat' ((fail_if_success (first | (with_reducible show wpAny _ _ (pyIter _) _ _ _) | (with_reducible show wpAny _ _ (exec (Stmt.While _ _ _ _) _) _ _ _) | (with_reducible show wpAny _ _ (execs (Stmt.While _ _ _ _ :: _) _) _ _ _))); (first | (k_unfold; (try dsimp only)) | (k_end; wrow_close) | walk1 | (dsimp only; walk1) | (leave1; try dsimp only) | dsimp only))
          (rename Fr g' L' _ _ => fE); (rename News g' L' _ _ => nE)
          rw [frameM_nc] at fE
          exact ⟨_, _, _, _, _, _, _, _, rfl, fE, nE, .inl ⟨rfl, rfl, hx⟩⟩
      · rintro s' ⟨hh, tk, nc₂, tn, ln₂, tl₂, tp₂, pos', rfl, F2, N2, hcase⟩
        clear F1 N1
        cases st with
        | sp =>
          obtain ⟨rfl, rfl⟩ := hok
          rcases hcase with ⟨rfl, rfl, hend⟩ | ⟨x, hx, rfl, rfl⟩
          · rw [drop_end hend, scan] at hscan
            repeat' ((fail_if_success (first | (with_reducible show wpAny _ _ (pyIter _) _ _ _) | (with_reducible show wpAny _ _ (exec (Stmt.While _ _ _ _) _) _ _ _) | (with_reducible show wpAny _ _ (execs (Stmt.While _ _ _ _ :: _) _) _ _ _))); (first | (k_unfold; (try dsimp only)) | (k_end; wrow_close) | walk1 | (dsimp only; walk1) | (leave1; try dsimp only) | dsimp only))
            dsimp only [WhileStep2]
            (rename Fr g' L' _ _ => fE); (rename News g' L' _ _ => nE)
            exact wpAny_execs_nil ⟨rfl, _, _, _, _, _, _, _, _, _, _, _, _, _, rfl, fE, nE, hscan.symm, by decide, hp1, .inl ⟨rfl, rfl, Nat.le_antisymm hp1 hend⟩⟩
          · have hlt := lt_of_at hx
            have hb9 := no_bs hbs'.1 hx
            have hem := no_empty x
            rw [drop_at hx, scan] at hscan
            by_cases hw : isWs x = true
            · have hw' : decide (x ∈ (Str.ofString " \t\r\n").cps.toList) = true := hw
              rw [if_pos hw] at hscan
              repeat' ((fail_if_success (first | (with_reducible show wpAny _ _ (pyIter _) _ _ _) | (with_reducible show wpAny _ _ (exec (Stmt.While _ _ _ _) _) _ _ _) | (with_reducible show wpAny _ _ (execs (Stmt.While _ _ _ _ :: _) _) _ _ _))); (first | (k_unfold; (try dsimp only)) | (k_end; wrow_close) | walk1 | (dsimp only; walk1) | (leave1; try dsimp only) | dsimp only))
              dsimp only [WhileStep2]
              (rename Fr g' L' _ _ => fE); (rename News g' L' _ _ => nE)
              exact ⟨_, _, _, _, n - 1, rfl, fE, nE, rtA hn1 hlt, .sp, false, _, pos₁ + 1, _, _, _, _, _, _, _, rfl, rfl, hlt, rtB hn1 hlt, Nat.le_succ_of_le htk, ⟨rfl, rfl⟩, hscan⟩
            · have hw' : decide (x ∈ (Str.ofString " \t\r\n").cps.toList) = false := Bool.eq_false_iff.mpr hw
              rw [if_neg hw] at hscan
              by_cases hq : isQt x = true
              · have hq' : decide (x ∈ (Str.ofString "'\"").cps.toList) = true := hq
                rw [if_pos hq] at hscan
                have hwc := hwq x hq
                repeat' ((fail_if_success (first | (with_reducible show wpAny _ _ (pyIter _) _ _ _) | (with_reducible show wpAny _ _ (exec (Stmt.While _ _ _ _) _) _ _ _) | (with_reducible show wpAny _ _ (execs (Stmt.While _ _ _ _ :: _) _) _ _ _))); (first | (k_unfold; (try dsimp only)) | (k_end; wrow_close) | walk1 | (dsimp only; walk1) | (leave1; try dsimp only) | dsimp only))
                dsimp only [WhileStep2]
                (rename Fr g' L' _ _ => fE); (rename News g' L' _ _ => nE)
                exact ⟨_, _, _, _, n - 1, rfl, fE, nE, rtA hn1 hlt, .qt x, false, _, pos₁ + 1, _, _, _, _, _, _, _, rfl, rfl, hlt, rtB hn1 hlt, Nat.le_succ_of_le htk, hq, hscan⟩
              · have hq' : decide (x ∈ (Str.ofString "'\"").cps.toList) = false := Bool.eq_false_iff.mpr hq
                rw [if_neg hq] at hscan
                by_cases hwc : decide (x ∈ c.wc.cps.toList) = true
                all_goals (try (have hwc := Bool.eq_false_iff.mpr hwc))
                all_goals repeat' ((fail_if_success (first | (with_reducible show wpAny _ _ (pyIter _) _ _ _) | (with_reducible show wpAny _ _ (exec (Stmt.While _ _ _ _) _) _ _ _) | (with_reducible show wpAny _ _ (execs (Stmt.While _ _ _ _ :: _) _) _ _ _))); (first | (k_unfold; (try dsimp only)) | (k_end; wrow_close) | walk1 | (dsimp only; walk1) | (leave1; try dsimp only) | dsimp only))
                all_goals dsimp only [WhileStep2]
                all_goals (
                  (rename Fr g' L' _ _ => fE); (rename News g' L' _ _ => nE)
                  exact ⟨_, _, _, _, n - 1, rfl, fE, nE, rtA hn1 hlt, .wd, false, _, pos₁ + 1, _, _, _, _, _, _, _, rfl, rfl, hlt, rtB hn1 hlt, (show 1 ≤ _ from Nat.succ_le_succ (Nat.zero_le _)), .inr (show 0 < 1 from Nat.one_pos), hscan⟩)
        | qt z =>
          have hz2 : decide (z ∈ (Str.ofString "'\"").cps.toList) = true := hok
          have hz1 : ((⟨#[z]⟩ : Str) == Str.ofString " ") = false := qt_sp hok
          rcases hcase with ⟨rfl, rfl, hend⟩ | ⟨x, hx, rfl, rfl⟩
          · rw [drop_end hend, scan] at hscan
            repeat' ((fail_if_success (first | (with_reducible show wpAny _ _ (pyIter _) _ _ _) | (with_reducible show wpAny _ _ (exec (Stmt.While _ _ _ _) _) _ _ _) | (with_reducible show wpAny _ _ (execs (Stmt.While _ _ _ _ :: _) _) _ _ _))); (first | (k_unfold; (try dsimp only)) | (k_end; wrow_close) | walk1 | (dsimp only; walk1) | (leave1; try dsimp only) | dsimp only))
            exact hE _ _ _ _ _ _ eg' hscan.symm FG' (raisedS_nil (by assumption)) (by assumption)
          · have hlt := lt_of_at hx
            have hb9 := no_bs hbs'.1 hx
            have hem := no_empty x
            rw [drop_at hx, scan] at hscan
            by_cases hxz : x = z
            · subst hxz
              have he9 : ((⟨#[x]⟩ : Str) == ⟨#[x]⟩) = true := by simp
              rw [if_pos rfl] at hscan
              repeat' ((fail_if_success (first | (with_reducible show wpAny _ _ (pyIter _) _ _ _) | (with_reducible show wpAny _ _ (exec (Stmt.While _ _ _ _) _) _ _ _) | (with_reducible show wpAny _ _ (execs (Stmt.While _ _ _ _ :: _) _) _ _ _))); (first | (k_unfold; (try dsimp only)) | (k_end; wrow_close) | walk1 | (dsimp only; walk1) | (leave1; try dsimp only) | dsimp only))
              dsimp only [WhileStep2]
              (rename Fr g' L' _ _ => fE); (rename News g' L' _ _ => nE)
              exact ⟨_, _, _, _, n - 1, rfl, fE, nE, rtA hn1 hlt, .wd, true, _, pos₁ + 1, _, _, _, _, _, _, _, frameM_qu, rfl, hlt, rtB hn1 hlt, Nat.le_succ_of_le htk, .inl rfl, hscan⟩
            · have he9 : ((⟨#[x]⟩ : Str) == ⟨#[z]⟩) = false := by rw [eq_char]; exact decide_eq_false hxz
              rw [if_neg hxz] at hscan
              have htl4 : tok.length ≤ 4000 := Nat.le_trans htk (Nat.le_trans hp1 hlen)
              repeat' ((fail_if_success (first | (with_reducible show wpAny _ _ (pyIter _) _ _ _) | (with_reducible show wpAny _ _ (exec (Stmt.While _ _ _ _) _) _ _ _) | (with_reducible show wpAny _ _ (execs (Stmt.While _ _ _ _ :: _) _) _ _ _))); (first | (k_unfold; (try dsimp only)) | (k_end; wrow_close) | walk1 | (dsimp only; walk1) | (leave1; try dsimp only) | dsimp only))
              dsimp only [WhileStep2]
              (rename Fr g' L' _ _ => fE); (rename News g' L' _ _ => nE)
              exact ⟨_, _, _, _, n - 1, rfl, fE, nE, rtA hn1 hlt, .qt z, true, _, pos₁ + 1, _, _, _, _, _, _, _, frameM_qu, rfl, hlt, rtB hn1 hlt, by (rw [Str.length_append]; exact Nat.succ_le_succ htk), hok, hscan⟩
        | wd =>
          rcases hcase with ⟨rfl, rfl, hend⟩ | ⟨x, hx, rfl, rfl⟩
          · rw [drop_end hend, scan] at hscan
            repeat' ((fail_if_success (first | (with_reducible show wpAny _ _ (pyIter _) _ _ _) | (with_reducible show wpAny _ _ (exec (Stmt.While _ _ _ _) _) _ _ _) | (with_reducible show wpAny _ _ (execs (Stmt.While _ _ _ _ :: _) _) _ _ _))); (first | (k_unfold; (try dsimp only)) | (k_end; wrow_close) | walk1 | (dsimp only; walk1) | (leave1; try dsimp only) | dsimp only))
            dsimp only [WhileStep2]
            (rename Fr g' L' _ _ => fE); (rename News g' L' _ _ => nE)
            exact wpAny_execs_nil ⟨rfl, _, _, _, _, _, _, _, _, _, _, _, _, _, rfl, fE, news_tl nE, hscan.symm, Nat.le_trans htk (Nat.le_trans hp1 hlen), hp1, .inl ⟨rfl, rfl, Nat.le_antisymm hp1 hend⟩⟩
          · have hlt := lt_of_at hx
            have hb9 := no_bs hbs'.1 hx
            have hem := no_empty x
            rw [drop_at hx, scan] at hscan
            by_cases hw : isWs x = true
            · have hw' : decide (x ∈ (Str.ofString " \t\r\n").cps.toList) = true := hw
              rw [if_pos hw] at hscan
              have htl4 : tok.length ≤ 4000 := Nat.le_trans htk (Nat.le_trans hp1 hlen)
              have hqt : (decide (0 < tok.length) = true) ∨ (decide (0 < tok.length) = false ∧ q = true) := by
                by_cases h0 : 0 < tok.length
                · exact .inl (decide_eq_true h0)
                · exact .inr ⟨decide_eq_false h0, hok.resolve_right h0⟩
              rcases hqt with ht0 | ⟨ht0, rfl⟩
              all_goals repeat' ((fail_if_success (first | (with_reducible show wpAny _ _ (pyIter _) _ _ _) | (with_reducible show wpAny _ _ (exec (Stmt.While _ _ _ _) _) _ _ _) | (with_reducible show wpAny _ _ (execs (Stmt.While _ _ _ _ :: _) _) _ _ _))); (first | (k_unfold; (try dsimp only)) | (k_end; wrow_close) | walk1 | (dsimp only; walk1) | (leave1; try dsimp only) | dsimp only))
              all_goals dsimp only [WhileStep2]
              all_goals (
                (rename Fr g' L' _ _ => fE); (rename News g' L' _ _ => nE)
                exact wpAny_execs_nil ⟨rfl, _, _, _, _, _, _, _, _, _, _, _, _, _, rfl, fE, news_tl nE, hscan.symm, htl4, hlt, .inr ⟨_, rfl, rfl⟩⟩)
            · have hw' : decide (x ∈ (Str.ofString " \t\r\n").cps.toList) = false := Bool.eq_false_iff.mpr hw
              rw [if_neg hw] at hscan
              by_cases hq : isQt x = true
              · have hq' : decide (x ∈ (Str.ofString "'\"").cps.toList) = true := hq
                rw [if_pos hq] at hscan
                repeat' ((fail_if_success (first | (with_reducible show wpAny _ _ (pyIter _) _ _ _) | (with_reducible show wpAny _ _ (exec (Stmt.While _ _ _ _) _) _ _ _) | (with_reducible show wpAny _ _ (execs (Stmt.While _ _ _ _ :: _) _) _ _ _))); (first | (k_unfold; (try dsimp only)) | (k_end; wrow_close) | walk1 | (dsimp only; walk1) | (leave1; try dsimp only) | dsimp only))
                dsimp only [WhileStep2]
                (rename Fr g' L' _ _ => fE); (rename News g' L' _ _ => nE)
                exact ⟨_, _, _, _, n - 1, rfl, fE, news_tl nE, rtA hn1 hlt, .qt x, q, _, pos₁ + 1, _, _, _, _, _, _, _, rfl, rfl, hlt, rtB hn1 hlt, Nat.le_succ_of_le htk, hq, hscan⟩
              · have hq' : decide (x ∈ (Str.ofString "'\"").cps.toList) = false := Bool.eq_false_iff.mpr hq
                rw [if_neg hq] at hscan
                have htl4 : tok.length ≤ 4000 := Nat.le_trans htk (Nat.le_trans hp1 hlen)
                by_cases hwc : decide (x ∈ c.wc.cps.toList) = true
                all_goals (try (have hwc := Bool.eq_false_iff.mpr hwc))
                all_goals repeat' ((fail_if_success (first | (with_reducible show wpAny _ _ (pyIter _) _ _ _) | (with_reducible show wpAny _ _ (exec (Stmt.While _ _ _ _) _) _ _ _) | (with_reducible show wpAny _ _ (execs (Stmt.While _ _ _ _ :: _) _) _ _ _))); (first | (k_unfold; (try dsimp only)) | (k_end; wrow_close) | walk1 | (dsimp only; walk1) | (leave1; try dsimp only) | dsimp only))
                all_goals dsimp only [WhileStep2]
                all_goals (
                  (rename Fr g' L' _ _ => fE); (rename News g' L' _ _ => nE)
                  exact ⟨_, _, _, _, n - 1, rfl, fE, news_tl nE, rtA hn1 hlt, .wd, q, _, pos₁ + 1, _, _, _, _, _, _, _, rfl, rfl, hlt, rtB hn1 hlt, by (rw [Str.length_append]; exact Nat.succ_le_succ htk), .inr (by rw [Str.length_append]; exact Nat.succ_pos _), hscan⟩)
  · rintro s' ⟨hh, tk, nc, q, te, sv, ln', tl', tok, tt', tp', left, pos', rfl, F2, N2, hR, htl, hrest⟩
    clear fW nW
    have hz := Hide.mk (And.intro hR (And.intro htl hrest))
    clear hR htl hrest
    by_cases htk : (tok == Str.ofString "") = true
    · obtain rfl := eq_of_beq htk
      have htk' : (Str.ofString "" == Str.ofString "") = true := htk
      cases q with
      | false =>
        repeat' ((fail_if_success (first | (with_reducible show wpAny _ _ (pyIter _) _ _ _) | (with_reducible show wpAny _ _ (exec (Stmt.While _ _ _ _) _) _ _ _) | (with_reducible show wpAny _ _ (execs (Stmt.While _ _ _ _ :: _) _) _ _ _))); (first | (k_unfold; (try dsimp only)) | (k_end; wrow_close) | walk1 | (dsimp only; walk1) | (leave1; try dsimp only) | dsimp only))
        obtain ⟨hR, htl, hrest⟩ := hz.out
        subst eg'
        refine h false (Str.ofString "") left .none _ _ sv ln' tl' ?tt0 tp' pos' hR htl (.inl ⟨rfl, rfl, rfl⟩) hrest ?ff ?nn ?ss
        (case nn => with_reducible assumption)
        (case ff => with_reducible assumption)
        (case ss => ((rename Heap.StaysIn _ _ => sE); exact sE))
      | true =>
        repeat' ((fail_if_success (first | (with_reducible show wpAny _ _ (pyIter _) _ _ _) | (with_reducible show wpAny _ _ (exec (Stmt.While _ _ _ _) _) _ _ _) | (with_reducible show wpAny _ _ (execs (Stmt.While _ _ _ _ :: _) _) _ _ _))); (first | (k_unfold; (try dsimp only)) | (k_end; wrow_close) | walk1 | (dsimp only; walk1) | (leave1; try dsimp only) | dsimp only))
        obtain ⟨hR, htl, hrest⟩ := hz.out
        subst eg'
        refine h true (Str.ofString "") left _ _ _ sv ln' tl' ?tt1 tp' pos' hR htl (.inr ⟨.inl rfl, _, rfl⟩) hrest ?ff ?nn ?ss
        (case nn => with_reducible assumption)
        (case ff => with_reducible assumption)
        (case ss => ((rename Heap.StaysIn _ _ => sE); exact sE))
    · have htk' := Bool.eq_false_iff.mpr htk
      have hne : tok ≠ Str.ofString "" := fun q => htk (by rw [q]; exact beq_self_eq_true _)
      cases q with
      | false =>
        repeat' ((fail_if_success (first | (with_reducible show wpAny _ _ (pyIter _) _ _ _) | (with_reducible show wpAny _ _ (exec (Stmt.While _ _ _ _) _) _ _ _) | (with_reducible show wpAny _ _ (execs (Stmt.While _ _ _ _ :: _) _) _ _ _))); (first | (k_unfold; (try dsimp only)) | (k_end; wrow_close) | walk1 | (dsimp only; walk1) | (leave1; try dsimp only) | dsimp only))
        obtain ⟨hR, htl, hrest⟩ := hz.out
        subst eg'
        refine h false tok left _ _ _ sv ln' tl' ?tt2 tp' pos' hR htl (.inr ⟨.inr hne, _, rfl⟩) hrest ?ff ?nn ?ss
        (case nn => with_reducible assumption)
        (case ff => with_reducible assumption)
        (case ss => ((rename Heap.StaysIn _ _ => sE); exact sE))
      | true =>
        repeat' ((fail_if_success (first | (with_reducible show wpAny _ _ (pyIter _) _ _ _) | (with_reducible show wpAny _ _ (exec (Stmt.While _ _ _ _) _) _ _ _) | (with_reducible show wpAny _ _ (execs (Stmt.While _ _ _ _ :: _) _) _ _ _))); (first | (k_unfold; (try dsimp only)) | (k_end; wrow_close) | walk1 | (dsimp only; walk1) | (leave1; try dsimp only) | dsimp only))
        obtain ⟨hR, htl, hrest⟩ := hz.out
        subst eg'
        refine h true tok left _ _ _ sv ln' tl' ?tt3 tp' pos' hR htl (.inr ⟨.inr hne, _, rfl⟩) hrest ?ff ?nn ?ss
        (case nn => with_reducible assumption)
        (case ff => with_reducible assumption)
        (case ss => ((rename Heap.StaysIn _ _ => sE); exact sE))
end
end Mine

namespace Mine
open PySem PySem.W PyProof.Rows PySem.Calls PySem.Spec
theorem kw_20 : True := by
  w_top off
  k_with_none
  trivial
theorem kw_21 : True := by
  k_with "enter" => ((refine' code_def ?k1q21 ?k2q21 ?k3q21 ?k4q21 ?k5q21 ?kAq21 ?kFq21 ?kKq21 ?k6q21 ?k7q21 ?k8q21 ?k9q21 ?kBq21 ?_ ?c2q21 ?c3q21 ?c4q21 ?c5q21; (case kAq21 => exact rfl); (case kFq21 => exact rfl); (case kKq21 => first | exact rfl | assumption); (case k1q21 => k_asm); (case k2q21 => k_asm); (case k3q21 => k_asm); (case k4q21 => k_asm); (case k5q21 => k_asm); (case k6q21 => k_is); (case k7q21 => k_is); (case k8q21 => k_room); (case k9q21 => first | exact BindsTo.of_eq rfl | exact binds_K (by k_in) rfl (by k_is) rfl rfl rfl | fail "k_enter: no rule for these arguments"); (case c5q21 => decide); (case kBq21 => exact locs rfl); (case c2q21 => exact rfl); (case c3q21 => exact rfl); (case c4q21 => exact rfl); k_whole; intro gZ' LZ' hZ' FGZ' FZ' NZ' BZ' XZ' TZ'; (try dsimp only); (try k_lift BZ'); (try k_fold)))
  trivial
theorem kw_22 : True := by
  k_with "enter" => (kp_kind "both"; (fail_if_success k_inElt); (refine' kp_both ?k1q22 ?k2q22 ?k3q22 ?k4q22 ?k5q22 ?kAq22 ?kFq22 ?kKq22 ?k6q22 ?k7q22 ?k8q22 ?kVq22 ?kXq22 ?kQq22 ?kMq22 ?kNq22 ?kDq22 ?kRq22 ?kPq22 ?kSq22 ?kTq22 ?kBq22 ?_ ?c2q22 ?c3q22 ?c4q22 ?c5q22; (case kAq22 => exact rfl); (case kFq22 => exact rfl); (case kKq22 => first | exact rfl | assumption); (case k1q22 => k_asm); (case k2q22 => k_asm); (case k3q22 => k_asm); (case k4q22 => k_asm); (case k5q22 => k_asm); (case k6q22 => k_is); (case k7q22 => k_is); (case k8q22 => k_room); (case kVq22 => kp_lit); (case kXq22 => kp_lit); (case kQq22 => exact rfl); (case kMq22 => exact rfl); (case kNq22 => exact rfl); (case kDq22 => kp_flats); (case kRq22 => exact rfl); (case kPq22 => exact rfl); (case kSq22 => exact fun _ => rfl); (case kTq22 => exact fun _ _ => rfl); (case kBq22 => exact fun _ _ => locs rfl); (case c5q22 => decide); (case c2q22 => exact rfl); (case c3q22 => exact rfl); (case c4q22 => exact rfl); k_whole; intro CZ' DZ' oZ' gZ' LZ' hZ' tkZ' l1Z l2Z loZ' hsZ' fsZ' FGZ' FZ' NZ' BZ' XZ' TZ'; (try k_lt l1Z); (try k_lt2 l2Z); (try dsimp only); (try k_lift BZ'); (try k_fold)))
  trivial

theorem kw_23 : True := by
  k_with "call ref" => (k_here; (with_reducible show wpAny _ _ (call (Value.ref 550) _) _ _ _); k_dflt (refine wpAny_room (A' := ktrTop 450 400 _ _ _ _ _ _ _ _) ?_ rfl (Nat.le_of_ble_eq_true rfl) rfl rfl (Nat.le_of_ble_eq_true rfl); (refine' c_read_end ?k1q23 ?k2q23 ?k3q23 ?k4q23 ?k5q23 ?k6q23 ?k7q23 ?k8q23 ?k9q23 ?kaq23 ?_; (case k1q23 => k_asm); (case k2q23 => k_asm); (case k3q23 => k_asm); (case k4q23 => k_asm); (case k5q23 => exact rfl); (case k6q23 => exact news_pick2 (by k_asm) (by k_memK) (by k_memK)); (case k7q23 => assumption); (case k8q23 => assumption); (case k9q23 => assumption); (case kaq23 => assumption); k_whole; intro t9Z h9Z tk9Z F9Z M9Z S9Z)); (have N9Z := lex_read (by k_asm) M9Z S9Z (by assumption) (by assumption) (by assumption) (by assumption) (by assumption)); clear M9Z S9Z; (try k_sweep); (try dsimp only))
  trivial
theorem kw_24 : True := by
  k_with "compareOp Eq str str" => (k_here; first | (refine' eq_by ?k1q24 ?_; (case k1q24 => assumption); k_whole) | (refine' eq_by (b := true) ?k1q24 ?_; (case k1q24 => decide +kernel)) | (refine' eq_by (b := false) ?k1q24 ?_; (case k1q24 => decide +kernel)))
  trivial
theorem kw_25 : True := by
  k_with "truthy str" => (k_here; k_dflt (first | (refine' truthy_by ?k0q25 ?k1q25 ?_; (case k1q25 => assumption); (case k0q25 => omega); k_whole; intro tk9Z) | (refine' truthy_by (b := true) ?k0q25 ?k1q25 ?_; (case k1q25 => exact rfl); (case k0q25 => exact Nat.le_of_ble_eq_true rfl); intro tk9Z) | (refine' truthy_by (b := false) ?k0q25 ?k1q25 ?_; (case k1q25 => exact rfl); (case k0q25 => exact Nat.le_of_ble_eq_true rfl); intro tk9Z)))
  trivial
section
variable {prog : Program} {w : World} {p : Program} {loose : List Str} {mean : ExcName → Option Value} {mg mb : Str → Option Value}
  {gd : Option (List Code)} {cn : Str} {cs : Scope} {a : Addr} {ccd : Value} {cl : List (Str × Addr)} {outer : List Env} {A₀ : Around} {base h₀ : Heap} {L : Addr} {m : Str → Option Value}
  {s : Shared} {Q E : Value → Shared → Prop}

theorem c_rt_none {c : LexC} {fs pb sio ds lx dl : Addr} {ln : Int} {tl tt tp : Tok} {pos : Nat} (B : Below A₀ base outer h₀) (F : Fr h₀ L s.heap m) (X : (hd.heap_1 w.params).In h₀) (T : Top p loose mean mg mb h₀) (hk : cs.kind = .function) (N : News h₀ L s.heap (lexL w.params c fs pb sio ds lx dl .none ln tl (Str.ofString "") tt tp pos)) (ap : Apart fs pb sio ds lx dl) (hlen : c.text.length ≤ 4000) (hp : c.text.length ≤ pos) (hp2 : pos ≤ 4000)
   (h : ∀ h' tk' ln' tl' tt' tp', Fr h₀ L h' m → News h₀ L h' (lexL w.params c fs pb sio ds lx dl .none ln' tl' (Str.ofString "") tt' tp' (pos : Nat)) → (hideAll s.heap [fs, pb, sio, ds, lx, dl]).StaysIn h' → Q .none { s with heap := h', toks := tk' }) :
   wpAny (model prog w) (ktrTop 430 350 gd cn cs L a ccd cl outer) (call (.ref 707) [.ref lx]) Q E s := by
  obtain ⟨a1, a2, a3, a4, a5⟩ := ap
  have eN0 := N
  refine wpAny_call ?_
  k_dflt (refine' code_defS ?k1 ?k2 ?k3 ?k4 ?k5 ?kA ?kF ?kK ?k6 ?k7 ?k8 ?k9 ?kB ?_ ?c2 ?c3 ?c4 ?c5; (case kA => exact rfl); (case kF => exact rfl); (case kK => first | assumption | exact rfl); (case k1 => k_asm); (case k2 => k_asm); (case k3 => k_asm); (case k4 => exact eN0); (case k5 => k_asm); (case k6 => k_is); (case k7 => k_is); (case k8 => k_room); (case k9 => first | exact BindsTo.of_eq rfl | exact binds_K (by k_in) rfl (by k_is) rfl rfl rfl | fail "k_enter: no rule for these arguments"); (case c5 => decide); (case kB => exact locs rfl); (case c2 => exact rfl); (case c3 => exact rfl); (case c4 => exact rfl); k_whole; intro g' L' h' eg' FG' F' N' B' X' T' l1; (try dsimp only); (try k_lift B'); (try k_fold))
  k_steps
  subst eg'
  refine' h _ _ _ _ _ _ ?ff ?nn ?ss
  (case nn => with_reducible assumption)
  (case ff => with_reducible assumption)
  (case ss => ((rename Heap.StaysIn _ _ => sE); exact sE))
end
end Mine

namespace Mine
open PySem PySem.W PyProof.Rows PySem.Calls PySem.Spec
theorem kw_26 : True := by
  w_top off
  k_with_none
  trivial
theorem kw_27 : True := by
  k_with "enter" => ((refine' code_def ?k1q27 ?k2q27 ?k3q27 ?k4q27 ?k5q27 ?kAq27 ?kFq27 ?kKq27 ?k6q27 ?k7q27 ?k8q27 ?k9q27 ?kBq27 ?_ ?c2q27 ?c3q27 ?c4q27 ?c5q27; (case kAq27 => exact rfl); (case kFq27 => exact rfl); (case kKq27 => first | exact rfl | assumption); (case k1q27 => k_asm); (case k2q27 => k_asm); (case k3q27 => k_asm); (case k4q27 => k_asm); (case k5q27 => k_asm); (case k6q27 => k_is); (case k7q27 => k_is); (case k8q27 => k_room); (case k9q27 => first | exact BindsTo.of_eq rfl | exact binds_K (by k_in) rfl (by k_is) rfl rfl rfl | fail "k_enter: no rule for these arguments"); (case c5q27 => decide); (case kBq27 => exact locs rfl); (case c2q27 => exact rfl); (case c3q27 => exact rfl); (case c4q27 => exact rfl); k_whole; intro gZ' LZ' hZ' FGZ' FZ' NZ' BZ' XZ' TZ'; (try dsimp only); (try k_lift BZ'); (try k_fold)))
  trivial
theorem kw_28 : True := by
  k_with "enter" => (kp_kind "both"; (fail_if_success k_inElt); (refine' kp_both ?k1q28 ?k2q28 ?k3q28 ?k4q28 ?k5q28 ?kAq28 ?kFq28 ?kKq28 ?k6q28 ?k7q28 ?k8q28 ?kVq28 ?kXq28 ?kQq28 ?kMq28 ?kNq28 ?kDq28 ?kRq28 ?kPq28 ?kSq28 ?kTq28 ?kBq28 ?_ ?c2q28 ?c3q28 ?c4q28 ?c5q28; (case kAq28 => exact rfl); (case kFq28 => exact rfl); (case kKq28 => first | exact rfl | assumption); (case k1q28 => k_asm); (case k2q28 => k_asm); (case k3q28 => k_asm); (case k4q28 => k_asm); (case k5q28 => k_asm); (case k6q28 => k_is); (case k7q28 => k_is); (case k8q28 => k_room); (case kVq28 => kp_lit); (case kXq28 => kp_lit); (case kQq28 => exact rfl); (case kMq28 => exact rfl); (case kNq28 => exact rfl); (case kDq28 => kp_flats); (case kRq28 => exact rfl); (case kPq28 => exact rfl); (case kSq28 => exact fun _ => rfl); (case kTq28 => exact fun _ _ => rfl); (case kBq28 => exact fun _ _ => locs rfl); (case c5q28 => decide); (case c2q28 => exact rfl); (case c3q28 => exact rfl); (case c4q28 => exact rfl); k_whole; intro CZ' DZ' oZ' gZ' LZ' hZ' tkZ' l1Z l2Z loZ' hsZ' fsZ' FGZ' FZ' NZ' BZ' XZ' TZ'; (try k_lt l1Z); (try k_lt2 l2Z); (try dsimp only); (try k_lift BZ'); (try k_fold)))
  trivial

/-- the next token: none, an open quotation; some (none, _), no token is left -/
noncomputable def nextTok : Option (List Nat) → Option (Option Str × Option (List Nat))
  | none => some (none, none)
  | some r => match scan .sp false (Str.ofString "") r with
    | none => none
    | some (q, tok, left) => if q = false ∧ tok = Str.ofString "" then some (none, left) else some (some tok, left)
theorem nextTok_err {r : List Nat} (h : scan .sp false (Str.ofString "") r = none) : nextTok (some r) = none := by simp only [nextTok]; rw [h]
theorem nextTok_stop {r : List Nat} {left : Option (List Nat)} (h : scan .sp false (Str.ofString "") r = some (false, Str.ofString "", left)) : nextTok (some r) = some (none, left) := by simp only [nextTok]; rw [h]; dsimp only; exact if_pos ⟨rfl, rfl⟩
theorem nextTok_tok {r : List Nat} {q : Bool} {tok : Str} {left : Option (List Nat)} (h : scan .sp false (Str.ofString "") r = some (q, tok, left)) (hq : q = true ∨ tok ≠ Str.ofString "") : nextTok (some r) = some (some tok, left) := by
  simp only [nextTok]; rw [h]; dsimp only; exact if_neg (fun ⟨a, b⟩ => hq.elim (fun z => by rw [a] at z; cases z) (fun z => z b))
theorem kw_29 : True := by
  k_with "call ref" => (k_here; (with_reducible show wpAny _ _ (call (Value.ref 707) _) _ _ _); k_dflt (refine wpAny_room (A' := ktrTop 430 350 _ _ _ _ _ _ _ _) ?_ rfl (Nat.le_of_ble_eq_true rfl) rfl rfl (Nat.le_of_ble_eq_true rfl); (refine' c_rt ?k1q29 ?k2q29 ?k3q29 ?k4q29 ?k5q29 ?k6q29 ?k7q29 ?k8q29 ?k9q29 ?kaq29 ?kbq29 ?_ ?_; (case k1q29 => k_asm); (case k2q29 => k_asm); (case k3q29 => k_asm); (case k4q29 => k_asm); (case k5q29 => exact rfl); (case k6q29 => with_reducible assumption); (case k7q29 => assumption); (case k8q29 => assumption); (case k9q29 => assumption); (case kaq29 => assumption); (case kbq29 => assumption); (all_goals first | (intro (q9 : Bool) tok9 left9 v9 h9Z tk9Z sv9 ln9 tl9 tt9 tp9 pos9 hs9Z hl9 hv9 hr9 F9Z N9 S9; (try k_sweep); (rcases hv9 with ⟨e9Z, e8, e7⟩ | ⟨hq9, t9Z, e7⟩) <;> (subst e7; (try (subst e9Z; subst e8)))) | (intro e9Z t9Z tm9Z g9Z h9Z tk9Z eg9Z hs9Z F9Z R9Z U9Z)); (all_goals (try dsimp only)))))
  trivial
theorem kw_30 : True := by
  k_with "call ref" => (k_here; (with_reducible show wpAny _ _ (call (Value.ref 707) _) _ _ _); k_dflt (refine wpAny_room (A' := ktrTop 430 350 _ _ _ _ _ _ _ _) ?_ rfl (Nat.le_of_ble_eq_true rfl) rfl rfl (Nat.le_of_ble_eq_true rfl); (refine' c_rt_none ?k1q30 ?k2q30 ?k3q30 ?k4q30 ?k5q30 ?k6q30 ?k7q30 ?k8q30 ?k9q30 ?kaq30 ?_; (case k1q30 => k_asm); (case k2q30 => k_asm); (case k3q30 => k_asm); (case k4q30 => k_asm); (case k5q30 => exact rfl); (case k6q30 => with_reducible assumption); (case k7q30 => assumption); (case k8q30 => assumption); (case k9q30 => assumption); (case kaq30 => assumption); (intro h9Z tk9Z ln9Z tl9Z tt9Z tp9Z F9Z N9Z S9Z; (try k_sweep)); (try dsimp only))))
  trivial
theorem kw_31 : True := by
  k_with "truthy ref" => (k_here; k_dflt (refine' truthy_dq ?k1q31 ?_; (case k1q31 => exact News.get (by k_asm) (by k_memK)); intro tk9Z))
  trivial
theorem kw_32 : True := by
  k_with "leaving ref" => (k_here; first | (refine' leave_raiseS ?k1q32 (Heap.MadeExc.of (by assumption)) ?k2q32 ?k3q32 ?_; (case k1q32 => assumption); (case k2q32 => assumption); (case k3q32 => k_asm); k_whole; intro hZ' tZ' RZ' RKZ' UZ'; clear RKZ'; (try dsimp only at RZ' UZ' ⊢)) | (refine' leave_onS ?k1q32 ?k2q32 ?k3q32 ?k4q32 ?_; (case k3q32 => assumption); (case k1q32 => assumption); (case k4q32 => assumption); (case k2q32 => assumption); k_whole; intro hZ' RZ' RKZ' UZ'; clear RKZ'; (try dsimp only at RZ' UZ' ⊢)))
  trivial
section
variable {prog : Program} {w : World} {p : Program} {loose : List Str} {mean : ExcName → Option Value} {mg mb : Str → Option Value}
  {gd : Option (List Code)} {cn : Str} {cs : Scope} {a : Addr} {ccd : Value} {cl : List (Str × Addr)} {outer : List Env} {A₀ : Around} {base h₀ : Heap} {L : Addr} {m : Str → Option Value}
  {s : Shared} {Q E : Value → Shared → Prop}

theorem c_next_sp {c : LexC} {fs pb sio ds lx dl : Addr} {ts : Tok} {ln : Int} {tl tt tp : Tok} {pos : Nat} (B : Below A₀ base outer h₀) (F : Fr h₀ L s.heap m) (X : (hd.heap_1 w.params).In h₀) (T : Top p loose mean mg mb h₀) (hk : cs.kind = .function) (N : News h₀ L s.heap (lexL w.params c fs pb sio ds lx dl (.str (Str.ofString " ") ts) ln tl (Str.ofString "") tt tp pos)) (ap : Apart fs pb sio ds lx dl) (hlen : c.text.length ≤ 4000) (hp : pos ≤ c.text.length) (hbs : NoBs c.text) (hwq : ∀ x, isQt x = true → decide (x ∈ c.wc.cps.toList) = false)
   (hV : ∀ tok left t' h' tk' sv ln' tl' tt' tp' pos', nextTok (some (c.text.cps.toList.drop pos)) = some (some tok, left) → tok.length ≤ 4000 → restP c left sv pos' → Fr h₀ L h' m →
      News h₀ L h' (lexL w.params c fs pb sio ds lx dl sv ln' tl' (Str.ofString "") tt' tp' (pos' : Nat)) → (hideAll s.heap [fs, pb, sio, ds, lx, dl]).StaysIn h' → Q (.str tok t') { s with heap := h', toks := tk' })
   (hS : ∀ left e t g h' tk', g = hideAll s.heap [fs, pb, sio, ds, lx, dl] → nextTok (some (c.text.cps.toList.drop pos)) = some (none, left) → Fr h₀ L g m → RaisedS base g (envX cn cs L a ccd cl :: outer) e (.type "StopIteration") t [] [] h' → g.UpToSlots h' → E (.ref e) { s with heap := h', toks := tk' })
   (hE : ∀ e t tm g h' tk', g = hideAll s.heap [fs, pb, sio, ds, lx, dl] → nextTok (some (c.text.cps.toList.drop pos)) = none → Fr h₀ L g m → RaisedS base g (envX cn cs L a ccd cl :: outer) e (.type "ValueError") t [.str (Str.ofString "No closing quotation") tm] [] h' → g.UpToSlots h' → E (.ref e) { s with heap := h', toks := tk' }) :
   wpAny (model prog w) (ktrTop 390 250 gd cn cs L a ccd cl outer) (call (.ref 736) [.ref lx]) Q E s := by
  have ap' := ap
  obtain ⟨a1, a2, a3, a4, a5⟩ := ap'
  have hz := Hide.mk (And.intro hV (And.intro hS hE))
  clear hV hS hE
  have eN0 := N
  refine wpAny_call ?_
  k_dflt (refine' code_defS ?k1 ?k2 ?k3 ?k4 ?k5 ?kA ?kF ?kK ?k6 ?k7 ?k8 ?k9 ?kB ?_ ?c2 ?c3 ?c4 ?c5; (case kA => exact rfl); (case kF => exact rfl); (case kK => first | assumption | exact rfl); (case k1 => k_asm); (case k2 => k_asm); (case k3 => k_asm); (case k4 => exact eN0); (case k5 => k_asm); (case k6 => k_is); (case k7 => k_is); (case k8 => k_room); (case k9 => first | exact BindsTo.of_eq rfl | exact binds_K (by k_in) rfl (by k_is) rfl rfl rfl | fail "k_enter: no rule for these arguments"); (case c5 => decide); (case kB => exact locs rfl); (case c2 => exact rfl); (case c3 => exact rfl); (case c4 => exact rfl); k_whole; intro g' L' h' eg' FG' F' N' B' X' T' l1; (try dsimp only); (try k_lift B'); (try k_fold))
  k_steps
  · obtain ⟨hV, hS, hE⟩ := hz.out
    exact hS _ _ _ _ _ _ eg' (nextTok_stop (by assumption)) FG' (raisedS_nil (by assumption)) (by assumption)
  · obtain ⟨hV, hS, hE⟩ := hz.out
    subst eg'
    refine' hV _ _ _ _ _ _ _ _ _ _ _ (nextTok_tok (by with_reducible assumption) (by with_reducible assumption)) (by with_reducible assumption) (by with_reducible assumption) ?ff ?nn ?ss
    (case nn => with_reducible assumption)
    (case ff => with_reducible assumption)
    (case ss => ((rename Heap.StaysIn _ _ => sE); exact sE))
  · obtain ⟨hV, hS, hE⟩ := hz.out
    exact hE _ _ _ _ _ _ eg' (nextTok_err (by with_reducible assumption)) FG' (raisedS_nil (by assumption)) (by assumption)
theorem c_next_none {c : LexC} {fs pb sio ds lx dl : Addr} {ln : Int} {tl tt tp : Tok} {pos : Nat} (B : Below A₀ base outer h₀) (F : Fr h₀ L s.heap m) (X : (hd.heap_1 w.params).In h₀) (T : Top p loose mean mg mb h₀) (hk : cs.kind = .function) (N : News h₀ L s.heap (lexL w.params c fs pb sio ds lx dl .none ln tl (Str.ofString "") tt tp pos)) (ap : Apart fs pb sio ds lx dl) (hlen : c.text.length ≤ 4000) (hp : c.text.length ≤ pos) (hp2 : pos ≤ 4000)
   (hS : ∀ e t g h' tk', g = hideAll s.heap [fs, pb, sio, ds, lx, dl] → Fr h₀ L g m → RaisedS base g (envX cn cs L a ccd cl :: outer) e (.type "StopIteration") t [] [] h' → g.UpToSlots h' → E (.ref e) { s with heap := h', toks := tk' }) :
   wpAny (model prog w) (ktrTop 390 250 gd cn cs L a ccd cl outer) (call (.ref 736) [.ref lx]) Q E s := by
  have ap' := ap
  obtain ⟨a1, a2, a3, a4, a5⟩ := ap'
  have hz := Hide.mk hS
  clear hS
  have eN0 := N
  refine wpAny_call ?_
  k_dflt (refine' code_defS ?k1 ?k2 ?k3 ?k4 ?k5 ?kA ?kF ?kK ?k6 ?k7 ?k8 ?k9 ?kB ?_ ?c2 ?c3 ?c4 ?c5; (case kA => exact rfl); (case kF => exact rfl); (case kK => first | assumption | exact rfl); (case k1 => k_asm); (case k2 => k_asm); (case k3 => k_asm); (case k4 => exact eN0); (case k5 => k_asm); (case k6 => k_is); (case k7 => k_is); (case k8 => k_room); (case k9 => first | exact BindsTo.of_eq rfl | exact binds_K (by k_in) rfl (by k_is) rfl rfl rfl | fail "k_enter: no rule for these arguments"); (case c5 => decide); (case kB => exact locs rfl); (case c2 => exact rfl); (case c3 => exact rfl); (case c4 => exact rfl); k_whole; intro g' L' h' eg' FG' F' N' B' X' T' l1; (try dsimp only); (try k_lift B'); (try k_fold))
  k_steps
  exact hz.out _ _ _ _ _ eg' FG' (raisedS_nil (by assumption)) (by assumption)
end
end Mine

namespace Mine
open PySem PySem.W PyProof.Rows PySem.Calls PySem.Spec
/-- all tokens of what is left -/
noncomputable def lexLen : Option (List Nat) → Nat
  | none => 0
  | some r => r.length + 1
theorem scan_len : ∀ (r : List Nat) (st : LSt) (q : Bool) (tok : Str) (q' : Bool) (tok' : Str) (r' : List Nat), scan st q tok r = some (q', tok', some r') → r'.length < r.length
  | [], st, q, tok, q', tok', r', h => by cases st <;> simp [scan] at h
  | c :: r, st, q, tok, q', tok', r', h => by
    have ih := scan_len r
    cases st with
    | sp =>
      simp only [scan] at h
      split at h
      · exact Nat.lt_succ_of_lt (ih _ _ _ _ _ _ h)
      · split at h <;> exact Nat.lt_succ_of_lt (ih _ _ _ _ _ _ h)
    | qt x =>
      simp only [scan] at h
      split at h <;> exact Nat.lt_succ_of_lt (ih _ _ _ _ _ _ h)
    | wd =>
      simp only [scan] at h
      split at h
      · simp only [Option.some.injEq, Prod.mk.injEq] at h
        rw [h.2.2]; exact Nat.lt_succ_self _
      · split at h <;> exact Nat.lt_succ_of_lt (ih _ _ _ _ _ _ h)
theorem next_len {left left' : Option (List Nat)} {tok : Str} (h : nextTok left = some (some tok, left')) : lexLen left' < lexLen left := by
  cases left with
  | none => simp [nextTok] at h
  | some r =>
    simp only [nextTok] at h
    split at h
    · cases h
    · rename_i q tok₁ l₁ hs
      split at h
      · simp at h
      · simp only [Option.some.injEq, Prod.mk.injEq] at h
        obtain ⟨_, rfl⟩ := h
        cases l₁ with
        | none => exact Nat.succ_pos _
        | some r' => exact Nat.succ_lt_succ (scan_len _ _ _ _ _ _ _ hs)
/-- all the tokens: none, if a quotation is left open -/
noncomputable def lexAll (left : Option (List Nat)) : Option (List Str) :=
  match h : nextTok left with
  | none => none
  | some (none, _) => some []
  | some (some tok, left') => (lexAll left').map (tok :: ·)
termination_by lexLen left
decreasing_by exact next_len h
theorem lexAll_err {left : Option (List Nat)} (h : nextTok left = none) : lexAll left = none := by rw [lexAll]; split <;> simp_all
theorem lexAll_stop {left l' : Option (List Nat)} (h : nextTok left = some (none, l')) : lexAll left = some [] := by rw [lexAll]; split <;> simp_all
theorem lexAll_tok {left l' : Option (List Nat)} {tok : Str} (h : nextTok left = some (some tok, l')) : lexAll left = (lexAll l').map (tok :: ·) := by
  rw [lexAll]
  split
  · simp_all
  · simp_all
  · rename_i h2; rw [h] at h2; simp only [Option.some.injEq, Prod.mk.injEq] at h2; rw [h2.1, h2.2]
theorem entry_ext : entryFor table "list.extend.loop" = some Builtin.«list.extend.loop» := entryFor_of_tree (by kernel_rfl)
theorem plain_ext : plainId "list.extend.loop" = true := by decide +kernel
theorem sub_stop : isSubtype (.type "StopIteration") (.type "StopIteration") = pure true := by rw [isSubtype_type]; kernel_rfl
theorem sub_value_stop : isSubtype (.type "ValueError") (.type "StopIteration") = pure false := by rw [isSubtype_type]; kernel_rfl
section
variable {prog : Program} {w : World} {A : Around} {A₀ : Around} {E : Value → Shared → Prop} {s : Shared} {base h₀ g : Heap} {outer : List Env} {L a e t : Addr} {m : Str → Option Value} {cn : Str} {cs : Scope} {ccd : Value} {cl : List (Str × Addr)} {vs : List Value} {X : String} {Q : Option Value → Shared → Prop}
/-- a StopIteration that an own __next__ raises ends the builtin's walk: the frames below are turned in their slots -/
theorem stop_lands (B : Below A₀ base outer h₀) (F : Fr h₀ L g m) (R : RaisedS base g (envX cn cs L a ccd cl :: outer) e (.type "StopIteration") t vs [] s.heap) (hsm : g.UpToSlots s.heap)
    (k : ∀ g₁, KtsTurn (outer.filterMap (·.frame)) h₀ g₁ → Fr g₁ L s.heap m → Below A₀ base outer g₁ → (∀ b o, g.get? b = some o → b ≠ L → b ∉ outer.filterMap (·.frame) → s.heap.get? b = some o) → Q none s) : OwitStop (model prog w) A Q E (.ref e) s := by
  obtain ⟨⟨B', hB, hBG, _, hfl, hnew⟩, htup⟩ := R
  obtain ⟨ob, hob, hobc⟩ := hfl.there
  have hT : s.TypeIs (.ref e) "StopIteration" := (show ∃ o, s.heap.get? e = some o ∧ o.cls = .type "StopIteration" from ⟨ob, hob, hobc⟩)
  unfold OwitStop
  refine wpAny_isInstance hT sub_stop ?_
  show (if true = true then Q none s else E (.ref e) s)
  rw [if_pos rfl]
  obtain ⟨g₁, T, F₁, B₁⟩ := kts_ground (name := cn) (scope := cs) (a := a) (cd := ccd) B F (fun b o q nm => hBG b o q nm) hfl.1 hsm
  refine k g₁ T F₁ B₁ fun b o q nL nf => hfl.1 b o (hBG b o q fun hm => ?_)
  rcases kts_mem (name := cn) (scope := cs) (a := a) (cd := ccd) hm with z | z
  · exact nL z
  · exact nf z
theorem value_passes {G : Heap} {l : List Env} {news : List (Addr × Obj)} (R : RaisedS base G l e (.type "ValueError") t vs news s.heap) (h : E (.ref e) s) : OwitStop (model prog w) A Q E (.ref e) s := by
  obtain ⟨⟨B', hB, hBG, _, hfl, hnew⟩, htup⟩ := R
  obtain ⟨ob, hob, hobc⟩ := hfl.there
  have hT : s.TypeIs (.ref e) "ValueError" := (show ∃ o, s.heap.get? e = some o ∧ o.cls = .type "ValueError" from ⟨ob, hob, hobc⟩)
  unfold OwitStop
  refine wpAny_isInstance hT sub_value_stop ?_
  show (if false = true then Q none s else E (.ref e) s)
  rw [if_neg Bool.false_ne_true]
  exact h
end
section
variable {prog : Program} {w : World} {p : Program} {loose : List Str} {mean : ExcName → Option Value} {mg mb : Str → Option Value}
  {gd : Option (List Code)} {cn : Str} {cs : Scope} {a : Addr} {ccd : Value} {cl : List (Str × Addr)} {outer : List Env} {A₀ : Around} {base h₀ : Heap} {L : Addr} {m : Str → Option Value}
  {c : LexC} {fs pb sio ds lx dl D : Addr}
theorem lex_inst {h : Heap} {sv : Value} {ln : Int} {tl : Tok} {tok : Str} {tt tp : Tok} {pos : Int} (N : News h₀ L h (lexL w.params c fs pb sio ds lx dl sv ln tl tok tt tp pos)) : InstAt h lx (instObj 739 dl) 739 (some (lexD w.params c sio pb fs sv ln tl tok tt)) :=
  InstAt.of_news N (by simp) (by simp)
theorem ext_loop (B : Below A₀ base outer h₀) (X : (hd.heap_1 w.params).In h₀) (T : Top p loose mean mg mb h₀) (hk : cs.kind = .function) (ap : Apart fs pb sio ds lx dl) (hD : @LT.lt Nat _ fs D) (hlen : c.text.length ≤ 4000) (hbs : NoBs c.text)
    (hwq : ∀ x, isQt x = true → decide (x ∈ c.wc.cps.toList) = false) :
    ∀ (n : Nat) (s : Shared) (R : Result → Shared → Prop) (left : Option (List Nat)) (sv : Value) (ln : Int) (tl tt tp : Tok) (pos : Nat) (us : List Value) (ws : List Str) (cc : Nat), lexLen left < n → restP c left sv pos → StrsAre us ws → ws.length + lexLen left ≤ 5000 →
      Fr h₀ L s.heap m → News h₀ L s.heap ((D, W.listOf us.toArray cc) :: lexL w.params c fs pb sio ds lx dl sv ln tl (Str.ofString "") tt tp (pos : Nat)) →
      (∀ ws' us' cc' h' tk' g₁, lexAll left = some ws' → StrsAre us' (ws ++ ws') → KtsTurn (outer.filterMap (·.frame)) h₀ g₁ → Fr g₁ L h' m → Below A₀ base outer g₁ → h'.get? D = some (W.listOf us'.toArray cc') → R (.ok (.ret .none)) { s with heap := h', toks := tk' }) →
      (∀ e t tm g h' tk', lexAll left = none → Fr h₀ L g m → RaisedS base g (envX cn cs L a ccd cl :: outer) e (.type "ValueError") t [.str (Str.ofString "No closing quotation") tm] [] h' → g.UpToSlots h' → R (.error (.ref e)) { s with heap := h', toks := tk' }) →
      codeAny (model prog w) (ktrTop 375 210 gd cn cs L a ccd cl outer) (.builtin "list.extend.loop" ⟨[.ref D, .ref lx, .none], []⟩) R s := by
  intro n
  induction n with
  | zero => intro s R left sv ln tl tt tp pos us ws cc h; exact absurd h (Nat.not_lt_zero _)
  | succ n ih =>
    intro s R left sv ln tl tt tp pos us ws cc hn hrest hus hws F N hR hE
    have NL := news_tl N
    have ap' := ap
    obtain ⟨a1, a2, a3, a4, a5⟩ := ap'
    have hDn : D ∉ [fs, pb, sio, ds, lx, dl] := by
      intro hm
      simp only [List.mem_cons, List.not_mem_nil, or_false] at hm
      rcases hm with e | e | e | e | e | e <;> (have e' : @Eq Nat _ _ := e; omega)
    refine codeAny_builtin entry_ext ?_
    rw [Around.under_plainId plain_ext _]
    unfold Builtin.«list.extend.loop»
    dsimp only
    refine wpAny_bind (owit_next (f := 736) F X (lex_inst NL) (by kernel_rfl) (by kernel_rfl) ?_)
    have stop : ∀ e t g h' tk', lexAll left = some [] → g = hideAll s.heap [fs, pb, sio, ds, lx, dl] → Fr h₀ L g m → RaisedS base g (envX cn cs L a ccd cl :: outer) e (.type "StopIteration") t [] [] h' → g.UpToSlots h' →
        OwitStop (model prog w) (Around.in1 (ktrTop 375 210 gd cn cs L a ccd cl outer)) (fun r s' => wpAny (model prog w) (Around.in1 (ktrTop 375 210 gd cn cs L a ccd cl outer)) (match r with | none => ret .none | some x => do Builtin.List.listUpdate (.ref D) (·.push x); again (.builtin "list.extend.loop" ⟨[.ref D, .ref lx, .none], []⟩))
          (fun fin s' => match fin with | .done f => R (.ok f) s' | .again c' => c'.quiet = true ∧ codeAny (model prog w) (ktrTop 375 210 gd cn cs L a ccd cl outer) c' R s') (fun e s' => R (.error e) s') s') (fun e s' => R (.error e) s') (.ref e) { s with heap := h', toks := tk' } := by
      intro e t g h' tk' hl eg FG RS US
      refine stop_lands (s := { s with heap := h', toks := tk' }) B FG RS US fun g₁ T₁ F₁ B₁ hkeep => ?_
      refine wpAny_pure ?_
      refine hR [] us cc h' tk' g₁ hl (by simpa using hus) T₁ F₁ B₁ (hkeep D _ ?_ ?_ ?_)
      · rw [eg]; exact hideAll_get _ (N _ (.head _)).1 hDn
      · exact (N _ (.head _)).2.1
      · intro hm
        obtain ⟨_, o, ho, _⟩ := B.frames.mem hm
        have := (N _ (.head _)).2.2
        dsimp only at this
        rw [ho] at this; cases this
    obtain ⟨hpos, hcase⟩ := hrest
    rcases hcase with ⟨rfl, rfl, rfl⟩ | ⟨ts, rfl, rfl⟩
    · refine wpAny_room (A' := ktrTop 390 250 gd cn cs L a ccd cl outer) ?_ rfl (Nat.le_of_ble_eq_true rfl) rfl rfl (Nat.le_of_ble_eq_true rfl)
      refine c_next_none B F X T hk NL ap hlen (Nat.le_refl _) hlen ?_
      intro e t g h' tk' eg FG RS US
      exact stop e t g h' tk' (lexAll_stop rfl) eg FG RS US
    · refine wpAny_room (A' := ktrTop 390 250 gd cn cs L a ccd cl outer) ?_ rfl (Nat.le_of_ble_eq_true rfl) rfl rfl (Nat.le_of_ble_eq_true rfl)
      refine c_next_sp B F X T hk NL ap hlen hpos hbs hwq ?_ ?_ ?_
      · intro tok left' t' h' tk' sv' ln' tl' tt' tp' pos' hnx htl hr' F' N' S'
        have hlt := next_len hnx
        have hD' := news_hide (as := [fs, pb, sio, ds, lx, dl]) (news := [(D, W.listOf us.toArray cc)]) (fun q hq => by rw [List.mem_singleton.mp hq]; exact N _ (.head _)) (fun q hq => by rw [List.mem_singleton.mp hq]; exact hDn) S'
        have zD := hD' _ (.head _)
        have hsz : us.length ≤ 5000 := by have := hus.length; omega
        refine wpAny_bind (listUpdate_at zD.1 rfl ?_ (by rw [List.size_toArray, sizeLine_eq]; omega) (by rw [Array.size_push, List.size_toArray, sizeLine_eq]; omega))
        refine wpAny_pure ⟨plainId_quiet plain_ext _, ?_⟩
        have hs9 : Heap.SameBut D h' (h'.update D (Obj.mapSeq (·.push (.str tok t')))) := Heap.SameBut.update ..
        have hnew : (h'.update D (Obj.mapSeq (·.push (.str tok t')))).get? D = some (W.listOf (us ++ [Value.str tok t']).toArray (cc + 1)) := by
          rw [Heap.get?_update_self _ zD.1 rfl]
          simp [Obj.mapSeq, W.listOf]
        refine ih _ R left' sv' ln' tl' tt' tp' pos' (us ++ [.str tok t']) (ws ++ [tok]) (cc + 1) (by omega) hr' (kct_snoc hus) (by simp only [List.length_append, List.length_cons, List.length_nil]; omega) (F'.change hs9 zD.2.1 zD.2.2) ?_ ?_ ?_
        · refine news_set (pre := []) (o := W.listOf us.toArray cc) (fun q hq => ?_) (fun _ h => nomatch h) (fun q hq e => hDn (by
            simp only [List.mem_cons, List.not_mem_nil, or_false] at hq ⊢
            rcases hq with z | z | z | z | z | z <;> (rw [z] at e; simp only at e; simp [← e]))) hs9 hnew
          rcases List.mem_cons.mp hq with z | z
          · rw [z]; exact zD
          · exact N' q z
        · intro ws' us' cc' h'' tk'' g₁ hl hu' T₁ F₁ B₁ hD₁
          refine hR (tok :: ws') us' cc' h'' tk'' g₁ ?_ (by simpa using hu') T₁ F₁ B₁ hD₁
          rw [lexAll_tok hnx, hl]; rfl
        · intro e t tm g h'' tk'' hl FG RS US
          refine hE e t tm g h'' tk'' ?_ FG RS US
          rw [lexAll_tok hnx, hl]; rfl
      · intro left' e t g h' tk' eg hnx FG RS US
        exact stop e t g h' tk' (lexAll_stop hnx) eg FG RS US
      · intro e t tm g h' tk' eg hnx FG RS US
        exact value_passes (s := { s with heap := h', toks := tk' }) RS (hE e t tm g h' tk' (lexAll_err hnx) FG RS US)
end
end Mine

namespace Mine
open PySem PySem.W PyProof.Rows PySem.Calls PySem.Spec
theorem kw_33 : True := by
  w_top off
  k_with_none
  trivial
theorem kw_34 : True := by
  k_with "enter" => ((refine' code_def ?k1q34 ?k2q34 ?k3q34 ?k4q34 ?k5q34 ?kAq34 ?kFq34 ?kKq34 ?k6q34 ?k7q34 ?k8q34 ?k9q34 ?kBq34 ?_ ?c2q34 ?c3q34 ?c4q34 ?c5q34; (case kAq34 => exact rfl); (case kFq34 => exact rfl); (case kKq34 => first | exact rfl | assumption); (case k1q34 => k_asm); (case k2q34 => k_asm); (case k3q34 => k_asm); (case k4q34 => k_asm); (case k5q34 => k_asm); (case k6q34 => k_is); (case k7q34 => k_is); (case k8q34 => k_room); (case k9q34 => first | exact BindsTo.of_eq rfl | exact binds_K (by k_in) rfl (by k_is) rfl rfl rfl | fail "k_enter: no rule for these arguments"); (case c5q34 => decide); (case kBq34 => exact locs rfl); (case c2q34 => exact rfl); (case c3q34 => exact rfl); (case c4q34 => exact rfl); k_whole; intro gZ' LZ' hZ' FGZ' FZ' NZ' BZ' XZ' TZ'; (try dsimp only); (try k_lift BZ'); (try k_fold)))
  trivial
theorem kw_35 : True := by
  k_with "enter" => (kp_kind "both"; (fail_if_success k_inElt); (refine' kp_both ?k1q35 ?k2q35 ?k3q35 ?k4q35 ?k5q35 ?kAq35 ?kFq35 ?kKq35 ?k6q35 ?k7q35 ?k8q35 ?kVq35 ?kXq35 ?kQq35 ?kMq35 ?kNq35 ?kDq35 ?kRq35 ?kPq35 ?kSq35 ?kTq35 ?kBq35 ?_ ?c2q35 ?c3q35 ?c4q35 ?c5q35; (case kAq35 => exact rfl); (case kFq35 => exact rfl); (case kKq35 => first | exact rfl | assumption); (case k1q35 => k_asm); (case k2q35 => k_asm); (case k3q35 => k_asm); (case k4q35 => k_asm); (case k5q35 => k_asm); (case k6q35 => k_is); (case k7q35 => k_is); (case k8q35 => k_room); (case kVq35 => kp_lit); (case kXq35 => kp_lit); (case kQq35 => exact rfl); (case kMq35 => exact rfl); (case kNq35 => exact rfl); (case kDq35 => kp_flats); (case kRq35 => exact rfl); (case kPq35 => exact rfl); (case kSq35 => exact fun _ => rfl); (case kTq35 => exact fun _ _ => rfl); (case kBq35 => exact fun _ _ => locs rfl); (case c5q35 => decide); (case c2q35 => exact rfl); (case c3q35 => exact rfl); (case c4q35 => exact rfl); k_whole; intro CZ' DZ' oZ' gZ' LZ' hZ' tkZ' l1Z l2Z loZ' hsZ' fsZ' FGZ' FZ' NZ' BZ' XZ' TZ'; (try k_lt l1Z); (try k_lt2 l2Z); (try dsimp only); (try k_lift BZ'); (try k_fold)))
  trivial

theorem codeAny_room {M : Model} {A A' : Around} {cd : Code} {R : Result → Shared → Prop} {s : Shared} (h : codeAny M A' cd R s)
    (h1 : A.handled = A'.handled) (h2 : A.depth ≤ A'.depth) (h3 : A.frames = A'.frames) (h4 : A.guards = A'.guards) (h5 : A.units ≤ A'.units) : codeAny M A cd R s :=
  fun Γ p hc hΓ => h Γ p hc ⟨hΓ.1.trans h1, Nat.le_trans hΓ.2.1 h2, fun l hl => hΓ.2.2.1 l (h3.trans hl), fun g hg => hΓ.2.2.2.1 g (h4.trans hg), Nat.le_trans hΓ.2.2.2.2 h5⟩
section
variable {prog : Program} {w : World} {p : Program} {loose : List Str} {mean : ExcName → Option Value} {mg mb : Str → Option Value}
  {gd : Option (List Code)} {cn : Str} {cs : Scope} {a : Addr} {ccd : Value} {cl : List (Str × Addr)} {outer : List Env} {A₀ : Around} {base h₀ : Heap} {L : Addr} {m : Str → Option Value}
  {s : Shared} {Q E : Value → Shared → Prop}

theorem c_iter {lx : Addr} (B : Below A₀ base outer h₀) (F : Fr h₀ L s.heap m) (X : (hd.heap_1 w.params).In h₀) (T : Top p loose mean mg mb h₀) (hk : cs.kind = .function) (h : ∀ h' tk', Fr h₀ L h' m → s.heap.StaysIn h' → Q (.ref lx) { s with heap := h', toks := tk' }) : wpAny (model prog w) (ktrTop 390 250 gd cn cs L a ccd cl outer) (call (.ref 729) [.ref lx]) Q E s := by
  have eN0 : News h₀ L s.heap [] := fun _ h => nomatch h
  refine wpAny_call ?_
  k_dflt (refine' code_defS ?k1 ?k2 ?k3 ?k4 ?k5 ?kA ?kF ?kK ?k6 ?k7 ?k8 ?k9 ?kB ?_ ?c2 ?c3 ?c4 ?c5; (case kA => exact rfl); (case kF => exact rfl); (case kK => first | assumption | exact rfl); (case k1 => k_asm); (case k2 => k_asm); (case k3 => k_asm); (case k4 => exact eN0); (case k5 => k_asm); (case k6 => k_is); (case k7 => k_is); (case k8 => k_room); (case k9 => first | exact BindsTo.of_eq rfl | exact binds_K (by k_in) rfl (by k_is) rfl rfl rfl | fail "k_enter: no rule for these arguments"); (case c5 => decide); (case kB => exact locs rfl); (case c2 => exact rfl); (case c3 => exact rfl); (case c4 => exact rfl); k_whole; intro g' L' h' eg' FG' F' N' B' X' T' l1; (try dsimp only); (try k_lift B'); (try k_fold))
  k_steps
  subst eg'
  exact h _ _ (by assumption) (by assumption)
end
section
variable {prog : Program} {w : World} {p : Program} {loose : List Str} {mean : ExcName → Option Value} {mg mb : Str → Option Value}
  {gd : Option (List Code)} {cn : Str} {cs : Scope} {a : Addr} {ccd : Value} {cl : List (Str × Addr)} {outer : List Env} {A₀ : Around} {base h₀ : Heap} {L : Addr} {m : Str → Option Value}
  {s : Shared} {Q E : Value → Shared → Prop} {c : LexC} {fs pb sio ds lx dl : Addr}
theorem c_list {ts : Tok} {ln : Int} {tl tt tp : Tok} (B : Below A₀ base outer h₀) (F : Fr h₀ L s.heap m) (X : (hd.heap_1 w.params).In h₀) (T : Top p loose mean mg mb h₀) (hk : cs.kind = .function) (N : News h₀ L s.heap (lexL w.params c fs pb sio ds lx dl (.str (Str.ofString " ") ts) ln tl (Str.ofString "") tt tp (0 : Nat))) (ap : Apart fs pb sio ds lx dl) (hlen : c.text.length ≤ 4000) (hbs : NoBs c.text)
    (hwq : ∀ x, isQt x = true → decide (x ∈ c.wc.cps.toList) = false)
    (hV : ∀ D ws us cc h' tk' g₁, lexAll (some c.text.cps.toList) = some ws → StrsAre us ws → KtsTurn (outer.filterMap (·.frame)) h₀ g₁ → Fr g₁ L h' m → Below A₀ base outer g₁ → h'.get? D = some (W.listOf us.toArray cc) → h₀.get? D = none → D ≠ L → Q (.ref D) { s with heap := h', toks := tk' })
    (hE : ∀ e t tm g h' tk', lexAll (some c.text.cps.toList) = none → Fr h₀ L g m → RaisedS base g (envX cn cs L a ccd cl :: outer) e (.type "ValueError") t [.str (Str.ofString "No closing quotation") tm] [] h' → g.UpToSlots h' → E (.ref e) { s with heap := h', toks := tk' }) :
    wpAny (model prog w) (ktrTop 370 200 gd cn cs L a ccd cl outer) (call (.type "list") [.ref lx]) Q E s := by
  refine callType_codes (Q₁ := fun obj s₁ => obj = .ref s.heap.objs.size ∧ s₁ = { s with heap := s.heap.push { cls := .type "list", data := .seq #[] } }) PySem.F.called_list (PySem.F.typeCall_list_1 _) PySem.F.entry_list_init
    (code_list_new _ ⟨rfl, rfl⟩) fun obj s₁ h₁ => ?_
  obtain ⟨rfl, rfl⟩ := h₁
  have hS : (s.heap.push { cls := .type "list", data := .seq #[] }).get? s.heap.objs.size = some { cls := .type "list", data := .seq #[] } := Heap.get?_push_size _ rfl
  refine ⟨⟨_, hS, rfl⟩, PySem.F.args_list_init_2 _ _, ?_⟩
  show wpAny _ _ (do let old ← Builtin.List.listItems (.ref s.heap.objs.size); Builtin.List.listUpdate (.ref s.heap.objs.size) (fun _ => #[]); letGo old.toList.reverse; Builtin.List.listExtendWith (.ref s.heap.objs.size) (.ref lx) .none) _ _ _
  refine wpAny_bind ?_
  unfold Builtin.List.listItems
  refine wpAny_bind (wpAny_seqItems hS rfl (wpAny_pure ?_))
  refine wpAny_bind (listUpdate_at hS rfl ?_ (by decide) (by decide))
  refine wpAny_bind (wpAny_letGo ?_)
  have F1 := F.push { cls := .type "list", data := .seq #[] }
  have N1 := N.push F { cls := .type "list", data := .seq #[] }
  have z := N1 _ (.head _)
  have hs9 : Heap.SameBut s.heap.objs.size (s.heap.push { cls := .type "list", data := .seq #[] }) ((s.heap.push { cls := .type "list", data := .seq #[] }).update s.heap.objs.size (Obj.mapSeq (fun _ => (#[] : Array Value)))) := Heap.SameBut.update ..
  have F2 := F1.change hs9 z.2.1 z.2.2
  have hfr : ∀ q ∈ lexL w.params c fs pb sio ds lx dl (.str (Str.ofString " ") ts) ln tl (Str.ofString "") tt tp (0 : Nat), q.1 < s.heap.objs.size := fun q hq => Heap.lt_size (N q hq).1
  have N2 : News h₀ L ((s.heap.push { cls := .type "list", data := .seq #[] }).update s.heap.objs.size (Obj.mapSeq (fun _ => (#[] : Array Value)))) ((s.heap.objs.size, W.listOf ([] : List Value).toArray 0) :: lexL w.params c fs pb sio ds lx dl (.str (Str.ofString " ") ts) ln tl (Str.ofString "") tt tp (0 : Nat)) :=
    news_set (pre := []) (o := { cls := .type "list", data := .seq #[] }) N1 (fun _ h => nomatch h) (fun q hq => Nat.ne_of_lt (hfr q hq)) hs9 (Heap.get?_update_self _ z.1 rfl)
  generalize hH : ((s.heap.push { cls := .type "list", data := .seq #[] }).update s.heap.objs.size (Obj.mapSeq (fun _ => (#[] : Array Value)))) = H at F2 N2 ⊢
  have hDlt : @LT.lt Nat _ fs s.heap.objs.size := hfr (fs, dqObj) (.head _)
  have hD0 : h₀.get? s.heap.objs.size = none := (N2 _ (.head _)).2.2
  have hDL : s.heap.objs.size ≠ L := (N2 _ (.head _)).2.1
  generalize s.heap.objs.size = D at N2 hDlt hD0 hDL ⊢
  have NL := news_tl N2
  have I := lex_inst NL
  unfold Builtin.List.listExtendWith
  refine wpAny_bind (I.type.here ?_)
  have hxD : @LT.lt Nat _ lx D := by obtain ⟨a1, a2, a3, a4, a5⟩ := ap; omega
  have h1 : Builtin.List.listSameRef (.ref D) (.ref lx) = false := by
    have : D ≠ lx := fun e => by have e' : @Eq Nat D lx := e; omega
    simp [Builtin.List.listSameRef, this]
  have h2 : (Value.ref 739 == Value.type "list") = false := by decide
  have h3 : (Value.ref 739 == Value.type "tuple") = false := by decide
  simp only [h1, h2, h3, Bool.or_false, Bool.false_eq_true, if_false]
  refine wpAny_bind (owit_iter (f := 729) F2 X I (by kernel_rfl) (by kernel_rfl) ?_)
  refine wpAny_room (A' := ktrTop 390 250 gd cn cs L a ccd cl outer) ?_ rfl (Nat.le_of_ble_eq_true rfl) rfl rfl (Nat.le_of_ble_eq_true rfl)
  refine c_iter (s := { s with heap := H }) B F2 X T hk ?_
  intro h' tk' F3 S3
  have N3 := news_stays N2 S3
  have I3 := lex_inst (news_tl N3)
  refine owit_it F3 X I3 (g := .ref 736) (by kernel_rfl) ?_
  refine wpAny_bind (wpAny_holding ?_)
  unfold Builtin.List.listLengthHint
  refine wpAny_bind (wpAny_bind (I3.type.here ((looks_findIn (X.keeps F3.keep) (show findIn (hd.heap_1 w.params) (.ref 739) "__len__" = some none by kernel_rfl)).here ?_)))
  show wpAny _ _ (specialOf (Value.ref lx) (Str.ofString "__length_hint__") >>= _) _ _ _
  refine wpAny_bind (wpAny_bind (I3.type.here ((looks_findIn (X.keeps F3.keep) (show findIn (hd.heap_1 w.params) (.ref 739) "__length_hint__" = some none by kernel_rfl)).here ?_)))
  refine wpAny_pure ?_
  show wpAny _ _ (rule "list.extend.makes-room" >>= fun _ => Builtin.List.listTouch (.ref D) >>= fun _ => again (.builtin "list.extend.loop" ⟨[.ref D, .ref lx, .none], []⟩)) _ _ _
  refine wpAny_bind (wpAny_rule ?_)
  refine wpAny_bind ?_
  show wpAny _ _ (updateSeq D (·.push .none) >>= fun _ => updateSeq D (·.pop)) _ _ _
  have hS3 := (N3 _ (.head _)).1
  refine wpAny_bind (wpAny_updateSeq hS3 rfl ?_)
  have hS4 := Heap.get?_update_self (Obj.mapSeq (·.push Value.none)) hS3 rfl
  refine wpAny_updateSeq (hz := by seq_fits) hS4 rfl ?_
  have hS5 := Heap.get?_update_self (Obj.mapSeq (·.pop)) hS4 rfl
  have n0 : ∀ q ∈ lexL w.params c fs pb sio ds lx dl (.str (Str.ofString " ") ts) ln tl (Str.ofString "") tt tp (0 : Nat), q.1 ≠ D := by
    obtain ⟨a1, a2, a3, a4, a5⟩ := ap
    intro q hq e
    simp only [List.mem_cons, List.not_mem_nil, or_false] at hq
    have e' : @Eq Nat q.1 D := e
    rcases hq with z | z | z | z | z | z <;> (rw [z] at e'; dsimp only at e'; omega)
  have sb4 : Heap.SameBut D h' (h'.update D (Obj.mapSeq (·.push Value.none))) := Heap.SameBut.update ..
  have sb5 : Heap.SameBut D (h'.update D (Obj.mapSeq (·.push Value.none))) ((h'.update D (Obj.mapSeq (·.push Value.none))).update D (Obj.mapSeq (·.pop))) := Heap.SameBut.update ..
  have F4 := F3.change sb4 hDL hD0
  have F5 := F4.change sb5 hDL hD0
  have N4 := news_set (pre := []) N3 (fun _ h => nomatch h) n0 sb4 hS4
  have N5 := news_set (pre := []) N4 (fun _ h => nomatch h) n0 sb5 hS5
  refine wpAny_pure ⟨plainId_quiet plain_ext _, ?_⟩
  refine codeAny_room (A' := ktrTop 375 210 gd cn cs L a ccd cl outer) ?_ rfl (Nat.le_of_ble_eq_true rfl) rfl rfl (Nat.le_of_ble_eq_true rfl)
  refine ext_loop B X T hk ap hDlt hlen hbs hwq (lexLen (some c.text.cps.toList) + 1) _ _ (some c.text.cps.toList) _ ln tl tt tp 0 [] [] 2 (Nat.lt_succ_self _) ⟨Nat.zero_le _, .inr ⟨ts, by simp, rfl⟩⟩ .nil (by simp only [List.length_nil, lexLen, Array.length_toList]; have : c.text.cps.size ≤ 4000 := hlen; omega) F5 N5 ?_ ?_
  · intro ws' us' cc' h'' tk'' g₁ hl hu' T₁ F₁ B₁ hD₁
    exact ⟨rfl, hV D ws' us' cc' h'' tk'' g₁ hl (by simpa using hu') T₁ F₁ B₁ hD₁ hD0 hDL⟩
  · intro e t tm g h'' tk'' hl FG RS US
    exact hE e t tm g h'' tk'' hl FG RS US
end
end Mine

namespace Mine
open PySem PySem.W PyProof.Rows PySem.Calls PySem.Spec
theorem kw_36 : True := by
  w_top off
  k_with_none
  trivial
theorem kw_37 : True := by
  k_with "enter" => ((refine' code_def ?k1q37 ?k2q37 ?k3q37 ?k4q37 ?k5q37 ?kAq37 ?kFq37 ?kKq37 ?k6q37 ?k7q37 ?k8q37 ?k9q37 ?kBq37 ?_ ?c2q37 ?c3q37 ?c4q37 ?c5q37; (case kAq37 => exact rfl); (case kFq37 => exact rfl); (case kKq37 => first | exact rfl | assumption); (case k1q37 => k_asm); (case k2q37 => k_asm); (case k3q37 => k_asm); (case k4q37 => k_asm); (case k5q37 => k_asm); (case k6q37 => k_is); (case k7q37 => k_is); (case k8q37 => k_room); (case k9q37 => first | exact BindsTo.of_eq rfl | exact binds_K (by k_in) rfl (by k_is) rfl rfl rfl | fail "k_enter: no rule for these arguments"); (case c5q37 => decide); (case kBq37 => exact locs rfl); (case c2q37 => exact rfl); (case c3q37 => exact rfl); (case c4q37 => exact rfl); k_whole; intro gZ' LZ' hZ' FGZ' FZ' NZ' BZ' XZ' TZ'; (try dsimp only); (try k_lift BZ'); (try k_fold)))
  trivial
theorem kw_38 : True := by
  k_with "enter" => (kp_kind "both"; (fail_if_success k_inElt); (refine' kp_both ?k1q38 ?k2q38 ?k3q38 ?k4q38 ?k5q38 ?kAq38 ?kFq38 ?kKq38 ?k6q38 ?k7q38 ?k8q38 ?kVq38 ?kXq38 ?kQq38 ?kMq38 ?kNq38 ?kDq38 ?kRq38 ?kPq38 ?kSq38 ?kTq38 ?kBq38 ?_ ?c2q38 ?c3q38 ?c4q38 ?c5q38; (case kAq38 => exact rfl); (case kFq38 => exact rfl); (case kKq38 => first | exact rfl | assumption); (case k1q38 => k_asm); (case k2q38 => k_asm); (case k3q38 => k_asm); (case k4q38 => k_asm); (case k5q38 => k_asm); (case k6q38 => k_is); (case k7q38 => k_is); (case k8q38 => k_room); (case kVq38 => kp_lit); (case kXq38 => kp_lit); (case kQq38 => exact rfl); (case kMq38 => exact rfl); (case kNq38 => exact rfl); (case kDq38 => kp_flats); (case kRq38 => exact rfl); (case kPq38 => exact rfl); (case kSq38 => exact fun _ => rfl); (case kTq38 => exact fun _ _ => rfl); (case kBq38 => exact fun _ _ => locs rfl); (case c5q38 => decide); (case c2q38 => exact rfl); (case c3q38 => exact rfl); (case c4q38 => exact rfl); k_whole; intro CZ' DZ' oZ' gZ' LZ' hZ' tkZ' l1Z l2Z loZ' hsZ' fsZ' FGZ' FZ' NZ' BZ' XZ' TZ'; (try k_lt l1Z); (try k_lt2 l2Z); (try dsimp only); (try k_lift BZ'); (try k_fold)))
  trivial

theorem kw_39 : True := by
  k_with "call ref" => (k_here; (with_reducible show wpAny _ _ (call (Value.ref 604) _) _ _ _); k_dflt (refine wpAny_room (A' := ktrTop 390 250 _ _ _ _ _ _ _ _) ?_ rfl (Nat.le_of_ble_eq_true rfl) rfl rfl (Nat.le_of_ble_eq_true rfl); refine' c_sio ?k1q39 ?k2q39 ?k3q39 ?k4q39 ?k5q39 ?k6q39 ?_; (case k1q39 => k_asm); (case k2q39 => k_asm); (case k3q39 => k_asm); (case k4q39 => k_asm); (case k5q39 => exact rfl); (case k6q39 => k_asm); k_whole); intro x9Z d9Z k1Z k2Z k3Z tnZ tbZ tpZ h9Z tk9Z l9Z l8Z F9Z N9Z; (try k_lt l9Z); (try k_lt2 l8Z); (try k_sweep); (try dsimp only))
  trivial
theorem kw_40 : True := by
  k_with "call type:collections.deque" => (k_here; k_dflt (refine' dq_new ?k1q40 ?k2q40 ?_; (case k1q40 => k_asm); (case k2q40 => k_asm); k_whole); intro x9Z h9Z F9Z N9Z l9Z; (try k_lt l9Z); (try k_sweep); (try dsimp only))
  trivial
theorem qt_wc : ∀ x, isQt x = true → decide (x ∈ (Str.ofString "abcdfeghijklmnopqrstuvwxyzABCDEFGHIJKLMNOPQRSTUVWXYZ0123456789_ßàáâãäåæçèéêëìíîïðñòóôõöøùúûüýþÿÀÁÂÃÄÅÆÇÈÉÊËÌÍÎÏÐÑÒÓÔÕÖØÙÚÛÜÝÞ").cps.toList) = false := by
  intro x hx
  have h : x ∈ (Str.ofString "'\"").cps.toList := of_decide_eq_true hx
  have h' : x ∈ ([39, 34] : List Nat) := h
  simp only [List.mem_cons, List.not_mem_nil, or_false] at h'
  rcases h' with rfl | rfl <;> decide +kernel
section
variable {prog : Program} {w : World} {p : Program} {loose : List Str} {mean : ExcName → Option Value} {mg mb : Str → Option Value}
  {gd : Option (List Code)} {cn : Str} {cs : Scope} {a : Addr} {ccd : Value} {outer : List Env} {A₀ : Around} {base h₀ : Heap} {L : Addr} {m : Str → Option Value}
  {s : Shared} {Q E : Value → Shared → Prop}
theorem c_split {text : Str} {t1 : Tok} (B : Below A₀ base outer h₀) (F : Fr h₀ L s.heap m) (X : (hd.heap_1 w.params).In h₀) (T : Top p loose mean mg mb h₀) (hk : cs.kind = .function) (XB : (hd.heap_1 w.params).In base) (TB : Top p loose mean mg mb base) (KD : KtsDicts (outer.filterMap (·.frame)) h₀) (hlen : text.length ≤ 4000) (hbs : NoBs text)
    (hV : ∀ D ws us cc h' tk' h₁, lexAll (some text.cps.toList) = some ws → StrsAre us ws → KtsTurn (outer.filterMap (·.frame)) h₀ h₁ → Fr h₁ L h' m → News h₁ L h' [(D, W.listOf us.toArray cc)] → Below A₀ base outer h₁ → (hd.heap_1 w.params).In h₁ → Top p loose mean mg mb h₁ → KtsDicts (outer.filterMap (·.frame)) h₁ → Q (.ref D) { s with heap := h', toks := tk' })
    (hE : ∀ e t tm g h' tk', lexAll (some text.cps.toList) = none → Fr h₀ L g m → RaisedS base g (envX cn cs L a ccd [] :: outer) e (.type "ValueError") t [.str (Str.ofString "No closing quotation") tm] [] h' → g.UpToSlots h' → E (.ref e) { s with heap := h', toks := tk' }) :
    wpAny (model prog w) (ktrTop 350 150 gd cn cs L a ccd [] outer) (call (.ref 751) [.str text t1]) Q E s := by
  have eN0 : News h₀ L s.heap [] := fun _ h => nomatch h
  have hz := Hide.mk (And.intro hV hE)
  have hy := Hide.mk (And.intro XB (And.intro TB KD))
  clear hV hE
  refine wpAny_call ?_
  k_dflt (refine' PySem.W.code_defS (g₀ := h₀) ?k1 ?k2 ?k3 ?k4 ?k5 XB TB KD KtsTurn.refl ?kA ?k6 ?k7 ?k8 ?k9 ?kB ?_ ?kK ?c2 ?c3 ?c4 ?c5; (case kA => exact rfl); (case kK => assumption); (case k1 => k_asm); (case k2 => k_asm); (case k3 => k_asm); (case k4 => exact eN0); (case k5 => k_asm); (case k6 => k_is); (case k7 => k_is); (case k8 => k_room); (case k9 => first | exact BindsTo.of_eq rfl | exact binds_K (X.keeps F.keep) rfl (by k_is) rfl rfl rfl); (case c5 => decide); (case kB => exact locs rfl); (case c2 => exact rfl); (case c3 => exact rfl); (case c4 => exact rfl); k_whole; intro g' L' h' FG' F' N' B' X' T' D'; (try dsimp only); (try k_lift B'); (try k_fold))
  clear XB TB KD
  repeat' ((fail_if_success (first | (with_reducible show wpAny _ _ (pyIter _) _ _ _) | (with_reducible show wpAny _ _ (exec (Stmt.While _ _ _ _) _) _ _ _) | (with_reducible show wpAny _ _ (execs (Stmt.While _ _ _ _ :: _) _) _ _ _))); (first | (k_unfold; (try dsimp only)) | (k_end; wrow_close) | walk1 | (dsimp only; walk1) | (leave1; try dsimp only) | dsimp only))
  refine wpAny_room (A' := ktrTop 370 200 gd (Str.ofString "split") _ L' 751 _ [] (envOf cn cs L a ccd :: outer)) ?_ rfl (Nat.le_of_ble_eq_true rfl) rfl rfl (Nat.le_of_ble_eq_true rfl)
  refine' c_list (c := ⟨_, _, _, _, _, _, _, _, _, _, _, _, _, _, _, _, _, _, _, _, _, _, _, _, _, _, _, _, _, _, _, _, _, text⟩) B' ?kf X' T' rfl ?kn ?ka hlen hbs ?kq ?_ ?_
  (case kf => k_asm)
  (case kn => show News _ _ _ _; assumption)
  (case ka => exact ⟨by omega, by omega, by omega, by omega, by omega⟩)
  (case kq => exact qt_wc)
  · intro D ws us cc h9 tk9 g₁ hl hu T₁ F₁ B₁ hD hD0 hDL
    obtain ⟨hV, hE⟩ := hz.out
    obtain ⟨XB, TB, KD⟩ := hy.out
    have N9 : News g₁ L' h9 [(D, W.listOf us.toArray cc)] := fun q hq => by
      have e := List.mem_singleton.mp hq
      subst e
      exact ⟨hD, hDL, T₁.none_ _ hD0⟩
    refine leaveS_r F₁ N9 T₁ ?_
    intro h₁ T₂ F₂ N₂ B₂ X₂ TT₂ D₂
    exact hV D ws us cc h9 tk9 h₁ hl hu T₂ F₂ N₂ B₂ X₂ TT₂ D₂
  · intro e t tm g h9 tk9 hl FG RS US
    obtain ⟨hV, hE⟩ := hz.out
    refine' leave_onS B' FG RS US ?_
    intro h8 R8 RK8 U8
    exact hE e t tm g' h8 tk9 hl FG' R8 U8
end
end Mine

namespace Mine
open PySem PySem.W PyProof.Rows PySem.Calls PySem.Spec
theorem kw_41 : True := by
  w_top off
  k_with_none
  trivial
theorem kw_42 : True := by
  k_with "enter" => ((refine' code_def ?k1q42 ?k2q42 ?k3q42 ?k4q42 ?k5q42 ?kAq42 ?kFq42 ?kKq42 ?k6q42 ?k7q42 ?k8q42 ?k9q42 ?kBq42 ?_ ?c2q42 ?c3q42 ?c4q42 ?c5q42; (case kAq42 => exact rfl); (case kFq42 => exact rfl); (case kKq42 => first | exact rfl | assumption); (case k1q42 => k_asm); (case k2q42 => k_asm); (case k3q42 => k_asm); (case k4q42 => k_asm); (case k5q42 => k_asm); (case k6q42 => k_is); (case k7q42 => k_is); (case k8q42 => k_room); (case k9q42 => first | exact BindsTo.of_eq rfl | exact binds_K (by k_in) rfl (by k_is) rfl rfl rfl | fail "k_enter: no rule for these arguments"); (case c5q42 => decide); (case kBq42 => exact locs rfl); (case c2q42 => exact rfl); (case c3q42 => exact rfl); (case c4q42 => exact rfl); k_whole; intro gZ' LZ' hZ' FGZ' FZ' NZ' BZ' XZ' TZ'; (try dsimp only); (try k_lift BZ'); (try k_fold)))
  trivial
theorem kw_43 : True := by
  k_with "enter" => (kp_kind "both"; (fail_if_success k_inElt); (refine' kp_both ?k1q43 ?k2q43 ?k3q43 ?k4q43 ?k5q43 ?kAq43 ?kFq43 ?kKq43 ?k6q43 ?k7q43 ?k8q43 ?kVq43 ?kXq43 ?kQq43 ?kMq43 ?kNq43 ?kDq43 ?kRq43 ?kPq43 ?kSq43 ?kTq43 ?kBq43 ?_ ?c2q43 ?c3q43 ?c4q43 ?c5q43; (case kAq43 => exact rfl); (case kFq43 => exact rfl); (case kKq43 => first | exact rfl | assumption); (case k1q43 => k_asm); (case k2q43 => k_asm); (case k3q43 => k_asm); (case k4q43 => k_asm); (case k5q43 => k_asm); (case k6q43 => k_is); (case k7q43 => k_is); (case k8q43 => k_room); (case kVq43 => kp_lit); (case kXq43 => kp_lit); (case kQq43 => exact rfl); (case kMq43 => exact rfl); (case kNq43 => exact rfl); (case kDq43 => kp_flats); (case kRq43 => exact rfl); (case kPq43 => exact rfl); (case kSq43 => exact fun _ => rfl); (case kTq43 => exact fun _ _ => rfl); (case kBq43 => exact fun _ _ => locs rfl); (case c5q43 => decide); (case c2q43 => exact rfl); (case c3q43 => exact rfl); (case c4q43 => exact rfl); k_whole; intro CZ' DZ' oZ' gZ' LZ' hZ' tkZ' l1Z l2Z loZ' hsZ' fsZ' FGZ' FZ' NZ' BZ' XZ' TZ'; (try k_lt l1Z); (try k_lt2 l2Z); (try dsimp only); (try k_lift BZ'); (try k_fold)))
  trivial

theorem kw_44 : True := by
  k_with "call ref" => (k_here; (with_reducible show wpAny _ _ (call (Value.ref 751) _) _ _ _); k_dflt (refine wpAny_room (A' := ktrTop 350 150 _ _ _ _ _ _ _ _) ?_ rfl (Nat.le_of_ble_eq_true rfl) rfl rfl (Nat.le_of_ble_eq_true rfl); refine' c_split ?k1q44 ?k2q44 ?k3q44 ?k4q44 ?k5q44 ?k6q44 ?k7q44 ?k8q44 ?k9q44 ?kaq44 ?_ ?_; (case k1q44 => k_asm); (case k2q44 => k_asm); (case k3q44 => k_asm); (case k4q44 => k_asm); (case k5q44 => exact rfl); (case k6q44 => assumption); (case k7q44 => assumption); (case k8q44 => assumption); (case k9q44 => assumption); (case kaq44 => assumption); (all_goals first | (intro D9Z ws9Z (us9 : List Value) cc9 h9Z tk9Z g9 hl9Z hu9 T9 F9Z N9 B9 X9 P9 D9Z; (try dsimp only)) | (intro e9Z t9Z tm9Z G9Z h9Z tk9Z hl9Z F9Z R9Z U9Z; (try dsimp only)))))
  trivial
section
variable {prog : Program} {w : World} {A₀ A : Around} {s : Shared} {base h₀ : Heap} {L a : Addr} {m : Str → Option Value} {cn : Str} {cs : Scope} {ccd : Value} {K : Frag} {p : Program} {loose : List Str} {mean : ExcName → Option Value} {mg mb : Str → Option Value}
    {R : Result → Shared → Prop} {name qual : Str} {params : Arguments} {body : List Stmt} {scope : Scope} {dV kV doc pm cdv ct oc : Value} {an od : Option Addr} {osl : Array (Option Value)} {f : Addr} {args : Args} {binds : List (Str × Value)}
/-- a call out of the ground's only frame whose body may catch: every other object stays -/
theorem code_defX (B : Below A₀ base [] h₀) (F : Fr h₀ L s.heap m) (X₀ : K.In h₀) (N : News h₀ L s.heap []) (T : Top p loose mean mg mb h₀) (hA : A.frames = some [envOf cn cs L a ccd])
    (ho : K.lookup f = some ⟨oc, od, .func (fnOf name qual params body scope dV kV doc pm an cdv ct), osl⟩) (hcd : codeIn K cdv qual = true) (hroom : A.depth < recursionLimit)
    (hbind : BindsTo s (fnOf name qual params body scope dV kV doc pm an cdv ct) args binds) (hloc : ∀ y ∈ binds, scope.names.lookup y.1 = some .local)
    (h : ∀ g L' h₁, Fr h₀ L g m → Fr g L' h₁ (fun y => binds.reverse.lookup y) → News g L' h₁ [] → Below A base [envOf cn cs L a ccd] g → K.In g → Top p loose mean mg mb g → KtsDicts ([envOf cn cs L a ccd].filterMap (·.frame)) g →
      wpAny (model prog w) (A.deeper (envOf qual scope L' f cdv)) (execs body (envOf qual scope L' f cdv))
        (fun fl s' => LeaveS0 ([envOf cn cs L a ccd].filterMap (·.frame)) h₀ L m g (fun r s' => (∀ b o, s.heap.get? b = some o → b ≠ L → s'.heap.get? b = some o) → R r s') (match fl with | .ret v => v | _ => .none) s')
        (fun e s' => wpAny (model prog w) (A.deeper (envOf qual scope L' f cdv)) (leaving (envOf qual scope L' f cdv) e) (fun _ s'' => R (.error e) s'') (fun e' s'' => R (.error e') s'') s')
        { s with heap := h₁, toks := s.toks + binds.length })
    (hck : cs.kind = .function) (hco : scope.isCoroutine = false) (hgen : scope.isGenerator = false) (hk : scope.kind = .function)
    (hcell : ∀ x ∈ scope.names, x.2 ≠ .cell) : codeAny (model prog w) A (.call (.ref f) args) R s := by
  have X := X₀.keeps F.keep
  refine codeAny_call_def (fd := fnOf name qual params body scope dV kV doc pm an cdv ct) (body := body) (binds := binds) hroom (X _ _ ho) rfl (T.nolimit.keeps F.keep) (codeRec_of X hcd) rfl hbind hcell hloc (fun h₁ hns hk₁ => ?_) hco hgen hk
  obtain ⟨oL, es, ep, hLg, hLd, hN, hNs, st, B₂⟩ := kts_enter B F N hA hck
  have one : ∀ {b : Addr}, b ∈ [envOf cn cs L a ccd].filterMap (·.frame) → b = L := fun hb => by
    rcases kts_mem hb with z | z
    · exact z
    · simp at z
  refine wpAny_mono (h _ s.heap.objs.size h₁ ⟨hN _ hLg, st, F.above⟩ ⟨hns, fun b o e => hk₁ b o (of_hideAll _ e), Nat.le_of_eq (hideAll_size _ _)⟩
    (fun _ hp => nomatch hp) B₂ (X₀.keeps st) (T.keeps st) (fun b hb => by
      have z := one hb
      subst z
      exact ⟨oL, es, ep, hLg, hLd⟩)) (fun fl s' hl => ?_) fun _ _ y => y
  obtain ⟨g', L', m', news', T', F', N', k⟩ := hl
  have nL₀ : h₀.get? L = none := kts_self F
  obtain ⟨sl, hs⟩ := T'.up hLg
  have all : ∀ b o, s.heap.get? b = some o → b ≠ L → s'.heap.get? b = some o := fun b o e n => F'.keep b o (T'.other b o (hideAll_get _ e (fun q => nomatch q)) (fun q => n (one q)))
  refine k ⟨hNs sl _ (F'.keep _ _ hs), fun b o e => all b o (F.keep b o e) (fun q => by rw [q, nL₀] at e; cases e), F.above⟩ (fun p hp => ⟨(N' p hp).1, fun q => ?_, ?_⟩) all
  · have := (N' p hp).2.2; rw [q, hs] at this; cases this
  · cases q : h₀.get? p.1 with
    | none => rfl
    | some o =>
      obtain ⟨sl', hs'⟩ := T'.up (st _ _ q)
      have := (N' p hp).2.2
      rw [hs'] at this
      cases this
end
section
variable {prog : Program} {w : World} {p : Program} {loose : List Str} {mean : ExcName → Option Value} {mg mb : Str → Option Value}
  {gd : Option (List Code)} {cn : Str} {cs : Scope} {a : Addr} {ccd : Value} {A₀ : Around} {base h₀ : Heap} {L : Addr} {m : Str → Option Value}
  {s : Shared} {Q E : Value → Shared → Prop}
/-- _law_told: the list of the words, or the fault's text; nothing else that stood before is changed -/
theorem c_told {text : Str} {t1 : Tok} (B : Below A₀ base [] h₀) (F : Fr h₀ L s.heap m) (X : (hd.heap_1 w.params).In h₀) (T : Top p loose mean mg mb h₀) (hk : cs.kind = .function) (XB : (hd.heap_1 w.params).In base) (TB : Top p loose mean mg mb base) (hlen : text.length ≤ 4000) (hbs : NoBs text)
    (hV : ∀ D ws us cc h' tk', lexAll (some text.cps.toList) = some ws → StrsAre us ws → Fr h₀ L h' m → (∀ b o, s.heap.get? b = some o → b ≠ L → h'.get? b = some o) → News h₀ L h' [(D, W.listOf us.toArray cc)] → Q (.ref D) { s with heap := h', toks := tk' })
    (hE : ∀ tm h' tk', lexAll (some text.cps.toList) = none → Fr h₀ L h' m → (∀ b o, s.heap.get? b = some o → b ≠ L → h'.get? b = some o) → Q (.str (Str.ofString "No closing quotation") tm) { s with heap := h', toks := tk' }) :
    wpAny (model prog w) (ktrTop 330 100 gd cn cs L a ccd [] []) (call (.ref 799) [.str text t1]) Q E s := by
  have eN0 : News h₀ L s.heap [] := fun _ h => nomatch h
  have hz := Hide.mk (And.intro hV hE)
  clear hV hE
  refine wpAny_call ?_
  k_dflt (refine' code_defX ?k1 ?k2 ?k3 ?k4 ?k5 ?kA ?k6 ?k7 ?k8 ?k9 ?kB ?_ ?kK ?c2 ?c3 ?c4 ?c5; (case kA => exact rfl); (case kK => assumption); (case k1 => k_asm); (case k2 => k_asm); (case k3 => k_asm); (case k4 => exact eN0); (case k5 => k_asm); (case k6 => k_is); (case k7 => k_is); (case k8 => k_room); (case k9 => first | exact BindsTo.of_eq rfl | exact binds_K (X.keeps F.keep) rfl (by k_is) rfl rfl rfl); (case c5 => decide); (case kB => exact locs rfl); (case c2 => exact rfl); (case c3 => exact rfl); (case c4 => exact rfl); k_whole; intro g' L' h' FG' F' N' B' X' T' D'; (try dsimp only); (try k_lift B'); (try k_fold))
  repeat' ((fail_if_success (first | (with_reducible show wpAny _ _ (pyIter _) _ _ _) | (with_reducible show wpAny _ _ (exec (Stmt.While _ _ _ _) _) _ _ _) | (with_reducible show wpAny _ _ (execs (Stmt.While _ _ _ _ :: _) _) _ _ _))); (first | (k_unfold; (try dsimp only)) | (k_end; wrow_close) | walk1 | (dsimp only; walk1) | (leave1; try dsimp only) | dsimp only))
  · obtain ⟨hV, hE⟩ := hz.out
    exact hV _ _ _ _ _ _ (by with_reducible assumption) (by with_reducible assumption) (by with_reducible assumption) (by with_reducible assumption) (by with_reducible assumption)
  · obtain ⟨hV, hE⟩ := hz.out
    exact hE _ _ _ (by with_reducible assumption) (by with_reducible assumption) (by with_reducible assumption)
end
end Mine

namespace Mine
open PySem PyProof.Rows
/-! the plain law: no program in sight -/
noncomputable abbrev Pl := Option Nat
noncomputable def step : Pl → Nat → Pl
  | none, c => if isQt c then some c else none
  | some q, c => if c = q then none else some q
noncomputable def run : Pl → List Nat → Pl
  | p, [] => p
  | p, c :: r => run (step p c) r
noncomputable def tellOf : Pl → Nat → Option Str
  | none, c => if isWs c then none else if isQt c then some (Str.ofString "") else some ⟨#[c]⟩
  | some q, c => if c = q then some (Str.ofString "") else some ⟨#[c]⟩
noncomputable abbrev Sg := Nat × Pl × Option Str
noncomputable def ann : Pl → List Nat → List Sg
  | _, [] => []
  | p, c :: r => (c, p, tellOf p c) :: ann (step p c) r
noncomputable def wsAt (p : Pl) (c : Nat) : Bool := p.isNone && isWs c
noncomputable def Gd : Bool → Pl → List Nat → Prop
  | b, _, [] => b = false
  | b, p, c :: r => (wsAt p c = true → b = false) ∧ Gd (wsAt p c) (step p c) r
noncomputable def Gp : Bool → Pl → List Nat → Prop
  | _, _, [] => True
  | b, p, c :: r => (wsAt p c = true → b = false) ∧ Gp (wsAt p c) (step p c) r
noncomputable def bOf : Bool → Pl → List Nat → Bool
  | b, _, [] => b
  | _, p, c :: r => bOf (wsAt p c) (step p c) r
noncomputable def wf : Str → List Sg → List Str
  | cur, [] => [cur]
  | cur, (_, _, none) :: r => cur :: wf (Str.ofString "") r
  | cur, (_, _, some t) :: r => wf (cur ++ t) r
noncomputable def LSt.pl : LSt → Pl
  | .sp => none
  | .wd => none
  | .qt x => some x
noncomputable def LSt.b : LSt → Bool
  | .sp => true
  | _ => false
theorem ws_not_qt {c : Nat} (h : isWs c = true) : isQt c = false := by
  have h1 : c ∈ (Str.ofString " \t\r\n").cps.toList := of_decide_eq_true h
  have h' : c ∈ ([32, 9, 13, 10] : List Nat) := h1
  simp only [List.mem_cons, List.not_mem_nil, or_false] at h'
  rcases h' with rfl | rfl | rfl | rfl <;> decide +kernel
theorem str_nil (x : Str) : x ++ Str.ofString "" = x := by
  show (⟨x.cps ++ #[]⟩ : Str) = x
  simp
theorem nil_str (x : Str) : Str.ofString "" ++ x = x := by
  show (⟨#[] ++ x.cps⟩ : Str) = x
  simp
theorem len_one (tok : Str) (c : Nat) : 0 < (tok ++ (⟨#[c]⟩ : Str)).length := by
  show 0 < (tok.cps ++ #[c]).size
  simp
theorem ne_of_len {tok : Str} (h : 0 < tok.length) : tok ≠ Str.ofString "" := by
  intro e; rw [e] at h; exact absurd h (by decide +kernel)
theorem scan_good : ∀ (cs : List Nat) (st : LSt) (q : Bool) (tok : Str), st.Ok q tok → Gd st.b st.pl cs → run st.pl cs = none →
    ∃ q' tok' left, scan st q tok cs = some (q', tok', left) ∧ (q' = true ∨ tok' ≠ Str.ofString "") ∧
      ((left = none ∧ wf tok (ann st.pl cs) = [tok']) ∨ ∃ r, left = some r ∧ r.length < cs.length ∧ Gd true none r ∧ run none r = none ∧ wf tok (ann st.pl cs) = tok' :: wf (Str.ofString "") (ann none r))
  | [], .sp, q, tok, ok, g, h => by simp [Gd, LSt.b] at g
  | [], .qt x, q, tok, ok, g, h => by simp [run, LSt.pl] at h
  | [], .wd, q, tok, ok, g, h => ⟨q, tok, none, rfl, ok.imp id ne_of_len, .inl ⟨rfl, rfl⟩⟩
  | c :: r, .sp, q, tok, ok, g, h => by
    obtain ⟨rfl, rfl⟩ := ok
    obtain ⟨g1, g2⟩ := g
    have hw : isWs c = false := by
      cases hh : isWs c with
      | false => rfl
      | true => exact absurd (g1 (by simp [wsAt, LSt.pl, hh])) (by simp [LSt.b])
    have hwa : wsAt LSt.sp.pl c = false := by simp [wsAt, hw]
    rw [hwa] at g2
    cases hq : isQt c with
    | true =>
      have e1 : step LSt.sp.pl c = (LSt.qt c).pl := by simp [step, LSt.pl, hq]
      rw [e1] at g2
      rw [run, e1] at h
      obtain ⟨q', tok', left, h1, h2, h3⟩ := scan_good r (.qt c) false (Str.ofString "") hq g2 h
      refine ⟨q', tok', left, by rw [scan, if_neg (by simp [hw]), if_pos hq]; exact h1, h2, ?_⟩
      have e2 : wf (Str.ofString "") (ann LSt.sp.pl (c :: r)) = wf (Str.ofString "") (ann (LSt.qt c).pl r) := by
        have : tellOf LSt.sp.pl c = some (Str.ofString "") := by simp [tellOf, LSt.pl, hw, hq]
        rw [ann, this, wf, e1, str_nil]
      rw [e2]
      exact h3.imp id fun ⟨r', a1, a2, a3⟩ => ⟨r', a1, Nat.lt_succ_of_lt a2, a3⟩
    | false =>
      have e1 : step LSt.sp.pl c = LSt.wd.pl := by simp [step, LSt.pl, hq]
      rw [e1] at g2
      rw [run, e1] at h
      obtain ⟨q', tok', left, h1, h2, h3⟩ := scan_good r .wd false ⟨#[c]⟩ (.inr (by show 0 < (#[c] : Array Nat).size; simp)) g2 h
      refine ⟨q', tok', left, by rw [scan, if_neg (by simp [hw]), if_neg (by simp [hq])]; exact h1, h2, ?_⟩
      have e2 : wf (Str.ofString "") (ann LSt.sp.pl (c :: r)) = wf ⟨#[c]⟩ (ann LSt.wd.pl r) := by
        have : tellOf LSt.sp.pl c = some ⟨#[c]⟩ := by simp [tellOf, LSt.pl, hw, hq]
        rw [ann, this, wf, e1, nil_str]
      rw [e2]
      exact h3.imp id fun ⟨r', a1, a2, a3⟩ => ⟨r', a1, Nat.lt_succ_of_lt a2, a3⟩
  | c :: r, .wd, q, tok, ok, g, h => by
    obtain ⟨g1, g2⟩ := g
    cases hw : isWs c with
    | true =>
      have hq := ws_not_qt hw
      have e1 : step LSt.wd.pl c = none := by simp [step, LSt.pl, hq]
      have hwa : wsAt LSt.wd.pl c = true := by simp [wsAt, LSt.pl, hw]
      rw [e1, hwa] at g2
      rw [run, e1] at h
      refine ⟨q, tok, some r, by rw [scan, if_pos hw], ok.imp id ne_of_len, .inr ⟨r, rfl, Nat.lt_succ_self _, g2, h, ?_⟩⟩
      have : tellOf LSt.wd.pl c = none := by simp [tellOf, LSt.pl, hw]
      rw [ann, this, wf, e1]
    | false =>
      have hwa : wsAt LSt.wd.pl c = false := by simp [wsAt, hw]
      rw [hwa] at g2
      cases hq : isQt c with
      | true =>
        have e1 : step LSt.wd.pl c = (LSt.qt c).pl := by simp [step, LSt.pl, hq]
        rw [e1] at g2
        rw [run, e1] at h
        obtain ⟨q', tok', left, h1, h2, h3⟩ := scan_good r (.qt c) q tok hq g2 h
        refine ⟨q', tok', left, by rw [scan, if_neg (by simp [hw]), if_pos hq]; exact h1, h2, ?_⟩
        have e2 : wf tok (ann LSt.wd.pl (c :: r)) = wf tok (ann (LSt.qt c).pl r) := by
          have : tellOf LSt.wd.pl c = some (Str.ofString "") := by simp [tellOf, LSt.pl, hw, hq]
          rw [ann, this, wf, e1, str_nil]
        rw [e2]
        exact h3.imp id fun ⟨r', a1, a2, a3⟩ => ⟨r', a1, Nat.lt_succ_of_lt a2, a3⟩
      | false =>
        have e1 : step LSt.wd.pl c = LSt.wd.pl := by simp [step, LSt.pl, hq]
        rw [e1] at g2
        rw [run, e1] at h
        obtain ⟨q', tok', left, h1, h2, h3⟩ := scan_good r .wd q (tok ++ ⟨#[c]⟩) (.inr (len_one tok c)) g2 h
        refine ⟨q', tok', left, by rw [scan, if_neg (by simp [hw]), if_neg (by simp [hq])]; exact h1, h2, ?_⟩
        have e2 : wf tok (ann LSt.wd.pl (c :: r)) = wf (tok ++ ⟨#[c]⟩) (ann LSt.wd.pl r) := by
          have : tellOf LSt.wd.pl c = some ⟨#[c]⟩ := by simp [tellOf, LSt.pl, hw, hq]
          rw [ann, this, wf, e1]
        rw [e2]
        exact h3.imp id fun ⟨r', a1, a2, a3⟩ => ⟨r', a1, Nat.lt_succ_of_lt a2, a3⟩
  | c :: r, .qt x, q, tok, ok, g, h => by
    obtain ⟨g1, g2⟩ := g
    have hwa : wsAt (LSt.qt x).pl c = false := by simp [wsAt, LSt.pl]
    rw [hwa] at g2
    by_cases hx : c = x
    · have e1 : step (LSt.qt x).pl c = LSt.wd.pl := by simp [step, LSt.pl, hx]
      rw [e1] at g2
      rw [run, e1] at h
      obtain ⟨q', tok', left, h1, h2, h3⟩ := scan_good r .wd true tok (.inl rfl) g2 h
      refine ⟨q', tok', left, by rw [scan, if_pos hx]; exact h1, h2, ?_⟩
      have e2 : wf tok (ann (LSt.qt x).pl (c :: r)) = wf tok (ann LSt.wd.pl r) := by
        have : tellOf (LSt.qt x).pl c = some (Str.ofString "") := by simp [tellOf, LSt.pl, hx]
        rw [ann, this, wf, e1, str_nil]
      rw [e2]
      exact h3.imp id fun ⟨r', a1, a2, a3⟩ => ⟨r', a1, Nat.lt_succ_of_lt a2, a3⟩
    · have e1 : step (LSt.qt x).pl c = (LSt.qt x).pl := by simp [step, LSt.pl, hx]
      rw [e1] at g2
      rw [run, e1] at h
      obtain ⟨q', tok', left, h1, h2, h3⟩ := scan_good r (.qt x) true (tok ++ ⟨#[c]⟩) ok g2 h
      refine ⟨q', tok', left, by rw [scan, if_neg hx]; exact h1, h2, ?_⟩
      have e2 : wf tok (ann (LSt.qt x).pl (c :: r)) = wf (tok ++ ⟨#[c]⟩) (ann (LSt.qt x).pl r) := by
        have : tellOf (LSt.qt x).pl c = some ⟨#[c]⟩ := by simp [tellOf, LSt.pl, hx]
        rw [ann, this, wf, e1]
      rw [e2]
      exact h3.imp id fun ⟨r', a1, a2, a3⟩ => ⟨r', a1, Nat.lt_succ_of_lt a2, a3⟩
end Mine

namespace Mine
open PySem PyProof.Rows
theorem scan_bad : ∀ (cs : List Nat) (st : LSt) (q : Bool) (tok : Str), st.Ok q tok → run st.pl cs ≠ none →
    scan st q tok cs = none ∨ ∃ q' tok' r, scan st q tok cs = some (q', tok', some r) ∧ (q' = true ∨ tok' ≠ Str.ofString "") ∧ r.length < cs.length ∧ run none r ≠ none
  | [], .sp, q, tok, ok, h => by simp [run, LSt.pl] at h
  | [], .wd, q, tok, ok, h => by simp [run, LSt.pl] at h
  | [], .qt x, q, tok, ok, h => .inl rfl
  | c :: r, .sp, q, tok, ok, h => by
    obtain ⟨rfl, rfl⟩ := ok
    cases hw : isWs c with
    | true =>
      have hq := ws_not_qt hw
      have e1 : step LSt.sp.pl c = LSt.sp.pl := by simp [step, LSt.pl, hq]
      rw [run, e1] at h
      rw [scan, if_pos hw]
      exact (scan_bad r .sp false _ ⟨rfl, rfl⟩ h).imp id fun ⟨q', t', r', a, b, c', d⟩ => ⟨q', t', r', a, b, Nat.lt_succ_of_lt c', d⟩
    | false =>
      cases hq : isQt c with
      | true =>
        have e1 : step LSt.sp.pl c = (LSt.qt c).pl := by simp [step, LSt.pl, hq]
        rw [run, e1] at h
        rw [scan, if_neg (by simp [hw]), if_pos hq]
        exact (scan_bad r (.qt c) false _ hq h).imp id fun ⟨q', t', r', a, b, c', d⟩ => ⟨q', t', r', a, b, Nat.lt_succ_of_lt c', d⟩
      | false =>
        have e1 : step LSt.sp.pl c = LSt.wd.pl := by simp [step, LSt.pl, hq]
        rw [run, e1] at h
        rw [scan, if_neg (by simp [hw]), if_neg (by simp [hq])]
        exact (scan_bad r .wd false _ (.inr (by show 0 < (#[c] : Array Nat).size; simp)) h).imp id fun ⟨q', t', r', a, b, c', d⟩ => ⟨q', t', r', a, b, Nat.lt_succ_of_lt c', d⟩
  | c :: r, .wd, q, tok, ok, h => by
    cases hw : isWs c with
    | true =>
      have hq := ws_not_qt hw
      have e1 : step LSt.wd.pl c = none := by simp [step, LSt.pl, hq]
      rw [run, e1] at h
      rw [scan, if_pos hw]
      exact .inr ⟨q, tok, r, rfl, ok.imp id ne_of_len, Nat.lt_succ_self _, h⟩
    | false =>
      cases hq : isQt c with
      | true =>
        have e1 : step LSt.wd.pl c = (LSt.qt c).pl := by simp [step, LSt.pl, hq]
        rw [run, e1] at h
        rw [scan, if_neg (by simp [hw]), if_pos hq]
        exact (scan_bad r (.qt c) q tok hq h).imp id fun ⟨q', t', r', a, b, c', d⟩ => ⟨q', t', r', a, b, Nat.lt_succ_of_lt c', d⟩
      | false =>
        have e1 : step LSt.wd.pl c = LSt.wd.pl := by simp [step, LSt.pl, hq]
        rw [run, e1] at h
        rw [scan, if_neg (by simp [hw]), if_neg (by simp [hq])]
        exact (scan_bad r .wd q _ (.inr (len_one tok c)) h).imp id fun ⟨q', t', r', a, b, c', d⟩ => ⟨q', t', r', a, b, Nat.lt_succ_of_lt c', d⟩
  | c :: r, .qt x, q, tok, ok, h => by
    by_cases hx : c = x
    · have e1 : step (LSt.qt x).pl c = LSt.wd.pl := by simp [step, LSt.pl, hx]
      rw [run, e1] at h
      rw [scan, if_pos hx]
      exact (scan_bad r .wd true tok (.inl rfl) h).imp id fun ⟨q', t', r', a, b, c', d⟩ => ⟨q', t', r', a, b, Nat.lt_succ_of_lt c', d⟩
    · have e1 : step (LSt.qt x).pl c = (LSt.qt x).pl := by simp [step, LSt.pl, hx]
      rw [run, e1] at h
      rw [scan, if_neg hx]
      exact (scan_bad r (.qt x) true _ ok h).imp id fun ⟨q', t', r', a, b, c', d⟩ => ⟨q', t', r', a, b, Nat.lt_succ_of_lt c', d⟩
theorem lex_bad : ∀ (n : Nat) (cs : List Nat), cs.length < n → run none cs ≠ none → lexAll (some cs) = none := by
  intro n
  induction n with
  | zero => intro cs h; exact absurd h (Nat.not_lt_zero _)
  | succ n ih =>
    intro cs hn h
    rcases scan_bad cs .sp false (Str.ofString "") ⟨rfl, rfl⟩ h with e | ⟨q', t', r, e, ht, hr, hrun⟩
    · exact lexAll_err (nextTok_err e)
    · rw [lexAll_tok (nextTok_tok e ht), ih r (by omega) hrun]; rfl
theorem lex_none : lexAll none = some [] := lexAll_stop rfl
theorem lex_good : ∀ (n : Nat) (cs : List Nat), cs.length < n → Gd true none cs → run none cs = none → lexAll (some cs) = some (wf (Str.ofString "") (ann none cs)) := by
  intro n
  induction n with
  | zero => intro cs h; exact absurd h (Nat.not_lt_zero _)
  | succ n ih =>
    intro cs hn hg h
    obtain ⟨q', t', left, e, ht, hc⟩ := scan_good cs .sp false (Str.ofString "") ⟨rfl, rfl⟩ hg h
    rw [lexAll_tok (nextTok_tok e ht)]
    rcases hc with ⟨rfl, hw⟩ | ⟨r, rfl, hl, hg', hr, hw⟩
    · rw [lex_none]; exact (congrArg some hw).symm
    · rw [ih r (by omega) hg' hr]; exact (congrArg some hw).symm
/-! composition -/
theorem run_append : ∀ (a b : List Nat) (p : Pl), run p (a ++ b) = run (run p a) b
  | [], _, _ => rfl
  | c :: r, b, p => run_append r b (step p c)
theorem ann_append : ∀ (a b : List Nat) (p : Pl), ann p (a ++ b) = ann p a ++ ann (run p a) b
  | [], _, _ => rfl
  | c :: r, b, p => by rw [List.cons_append, ann, ann_append r b, ann]; rfl
theorem gd_append : ∀ (a c : List Nat) (b : Bool) (p : Pl), Gd b p (a ++ c) ↔ Gp b p a ∧ Gd (bOf b p a) (run p a) c
  | [], _, _, _ => by simp [Gp, bOf, run]
  | x :: r, c, b, p => by
    rw [List.cons_append, Gd, gd_append r c, Gp, bOf, run]
    exact and_assoc.symm
theorem gp_append : ∀ (a c : List Nat) (b : Bool) (p : Pl), Gp b p (a ++ c) ↔ Gp b p a ∧ Gp (bOf b p a) (run p a) c
  | [], _, _, _ => by simp [Gp, bOf, run]
  | x :: r, c, b, p => by
    rw [List.cons_append, Gp, gp_append r c, Gp, bOf, run]
    exact and_assoc.symm
theorem bOf_append : ∀ (a c : List Nat) (b : Bool) (p : Pl), bOf b p (a ++ c) = bOf (bOf b p a) (run p a) c
  | [], _, _, _ => rfl
  | x :: r, c, b, p => bOf_append r c (wsAt p x) (step p x)
theorem ann_length : ∀ (a : List Nat) (p : Pl), (ann p a).length = a.length
  | [], _ => rfl
  | c :: r, p => by rw [ann, List.length_cons, List.length_cons, ann_length r]
theorem ann_take : ∀ (a : List Nat) (p : Pl) (n : Nat), (ann p a).take n = ann p (a.take n)
  | _, _, 0 => by simp [ann]
  | [], _, n + 1 => by simp [ann]
  | c :: r, p, n + 1 => by rw [ann, List.take_succ_cons, List.take_succ_cons, ann, ann_take r]
theorem ann_drop : ∀ (a : List Nat) (p : Pl) (n : Nat), (ann p a).drop n = ann (run p (a.take n)) (a.drop n)
  | _, _, 0 => by simp [run]
  | [], _, n + 1 => by simp [ann]
  | c :: r, p, n + 1 => by rw [ann, List.drop_succ_cons, List.drop_succ_cons, ann_drop r, List.take_succ_cons, run]
theorem ann_get : ∀ (a : List Nat) (p : Pl) (n : Nat), n < a.length → ((ann p a)[n]?.map (·.2.1)) = some (run p (a.take n))
  | [], _, n, h => absurd h (Nat.not_lt_zero _)
  | c :: r, p, 0, _ => by simp [ann, run]
  | c :: r, p, n + 1, h => by
    rw [ann, List.getElem?_cons_succ, ann_get r _ n (by simpa using h), List.take_succ_cons, run]
theorem ann_codes : ∀ (a : List Nat) (p : Pl), (ann p a).map (·.1) = a
  | [], _ => rfl
  | c :: r, p => by rw [ann, List.map_cons, ann_codes r]
/-! a place is outside or one of the two quotation signs -/
noncomputable def PlOk : Pl → Prop
  | none => True
  | some q => isQt q = true
theorem plOk_step {p : Pl} {c : Nat} (h : PlOk p) : PlOk (step p c) := by
  cases p with
  | none =>
    cases hq : isQt c with
    | true => simp only [step, hq, if_true]; exact hq
    | false => simp [step, hq, PlOk]
  | some q =>
    by_cases hc : c = q
    · simp [step, hc, PlOk]
    · simp only [step, if_neg hc]; exact h
theorem plOk_run : ∀ (a : List Nat) {p : Pl}, PlOk p → PlOk (run p a)
  | [], _, h => h
  | _ :: r, _, h => plOk_run r (plOk_step h)
theorem step_inj {p p' : Pl} {c : Nat} (h : PlOk p) (h' : PlOk p') (e : step p c = step p' c) : p = p' := by
  cases p with
  | none =>
    cases p' with
    | none => rfl
    | some q =>
      simp only [step] at e
      by_cases hc : c = q
      · subst hc
        have hq : isQt c = true := h'
        simp [hq] at e
      · rw [if_neg hc] at e
        split at e
        · simp only [Option.some.injEq] at e; exact absurd e hc
        · cases e
  | some q =>
    cases p' with
    | none =>
      simp only [step] at e
      by_cases hc : c = q
      · subst hc
        have hq : isQt c = true := h
        simp [hq] at e
      · rw [if_neg hc] at e
        split at e
        · simp only [Option.some.injEq] at e; exact absurd e.symm hc
        · cases e
    | some q' =>
      simp only [step] at e
      by_cases hc : c = q
      · rw [if_pos hc] at e
        by_cases hc' : c = q'
        · rw [← hc, hc']
        · rw [if_neg hc'] at e; cases e
      · rw [if_neg hc] at e
        by_cases hc' : c = q'
        · rw [if_pos hc'] at e; cases e
        · rw [if_neg hc'] at e; exact e
theorem run_inj : ∀ (a : List Nat) {p p' : Pl}, PlOk p → PlOk p' → run p a = run p' a → p = p'
  | [], _, _, _, _, e => e
  | c :: r, _, _, h, h', e => step_inj h h' (run_inj r (plOk_step h) (plOk_step h') e)
theorem gd_weak : ∀ (a : List Nat) (b : Bool) (p : Pl), Gd b p a → Gd false p a
  | [], _, _, _ => rfl
  | _ :: _, _, _, h => ⟨fun _ => rfl, h.2⟩
noncomputable def dots : List Nat := [46, 46, 46]
theorem dot_qt : isQt 46 = false := by decide +kernel
theorem dot_ws : isWs 46 = false := by decide +kernel
theorem dot_ne {q : Nat} (h : isQt q = true) : (46 : Nat) ≠ q := fun e => by rw [← e, dot_qt] at h; cases h
theorem dot_step {p : Pl} (h : PlOk p) : step p 46 = p := by
  cases p with
  | none => simp [step, dot_qt]
  | some q => simp only [step, if_neg (dot_ne h)]
theorem dot_tell {p : Pl} (h : PlOk p) : tellOf p 46 = some (Str.ofString ".") := by
  cases p with
  | none => simp [tellOf, dot_qt, dot_ws]; rfl
  | some q => simp only [tellOf, if_neg (dot_ne h)]; rfl
theorem dots_run {p : Pl} (h : PlOk p) : run p dots = p := by simp only [dots, run, dot_step h]
theorem dots_ann {p : Pl} (h : PlOk p) : ann p dots = [(46, p, some (Str.ofString ".")), (46, p, some (Str.ofString ".")), (46, p, some (Str.ofString "."))] := by
  simp only [dots, ann, dot_step h, dot_tell h]
theorem dot_wsAt (p : Pl) : wsAt p 46 = false := by simp [wsAt, dot_ws]
/-- what is due of the signs, at a cut -/
noncomputable def cutWords (sg : List Sg) (pre post : Nat) : Option (List Str) :=
  let behind := sg.drop (sg.length - post)
  let place : Pl := match behind with | [] => none | x :: _ => x.2.1
  if (sg[pre]?.map (·.2.1)) = some place then some (wf (Str.ofString "") (sg.take pre ++ [(46, place, some (Str.ofString ".")), (46, place, some (Str.ofString ".")), (46, place, some (Str.ofString "."))] ++ behind)) else none
theorem cut_law {cs : List Nat} (hg : Gd true none cs) (hr : run none cs = none) {pre post : Nat} (h1 : pre < cs.length) (h2 : post ≤ cs.length) :
    lexAll (some (cs.take pre ++ dots ++ cs.drop (cs.length - post))) = cutWords (ann none cs) pre post := by
  have ok1 : PlOk (run none (cs.take pre)) := plOk_run _ trivial
  have ok2 : PlOk (run none (cs.take (cs.length - post))) := plOk_run _ trivial
  have hplace : (match (ann none cs).drop ((ann none cs).length - post) with | [] => none | x :: _ => x.2.1 : Pl) = run none (cs.take (cs.length - post)) := by
    rw [ann_length, ann_drop]
    cases hz : cs.drop (cs.length - post) with
    | nil =>
      have : cs.length ≤ cs.length - post := by
        have := congrArg List.length hz
        simp only [List.length_drop, List.length_nil] at this; omega
      rw [List.take_of_length_le this, hr]; rfl
    | cons x r => rfl
  have hget := ann_get cs none pre h1
  have hZ : run (run none (cs.take (cs.length - post))) (cs.drop (cs.length - post)) = none := by
    rw [← run_append, List.take_append_drop]; exact hr
  unfold cutWords
  dsimp only
  rw [hplace, hget]
  by_cases he : run none (cs.take pre) = run none (cs.take (cs.length - post))
  · rw [if_pos (by rw [he])]
    have hrun : run none (cs.take pre ++ dots ++ cs.drop (cs.length - post)) = none := by
      rw [run_append, run_append, dots_run ok1, he]; exact hZ
    have hgd : Gd true none (cs.take pre ++ dots ++ cs.drop (cs.length - post)) := by
      have g1 : Gp true none (cs.take pre) := ((gd_append (cs.take pre) (cs.drop pre) true none).mp (by rw [List.take_append_drop]; exact hg)).1
      have g2 : Gd (bOf true none (cs.take (cs.length - post))) (run none (cs.take (cs.length - post))) (cs.drop (cs.length - post)) :=
        ((gd_append (cs.take (cs.length - post)) (cs.drop (cs.length - post)) true none).mp (by rw [List.take_append_drop]; exact hg)).2
      rw [List.append_assoc]
      refine (gd_append _ _ _ _).mpr ⟨g1, ?_⟩
      refine (gd_append _ _ _ _).mpr ⟨?_, ?_⟩
      · simp only [dots, Gp, dot_wsAt, Bool.false_eq_true, false_implies, and_self]
      · rw [dots_run ok1, he]
        have : bOf (bOf true none (cs.take pre)) (run none (cs.take pre)) dots = false := by simp only [dots, bOf, dot_wsAt]
        rw [he] at this
        rw [this]
        exact gd_weak _ _ _ g2
    rw [lex_good _ _ (Nat.lt_succ_self _) hgd hrun, ann_append, ann_append, run_append, dots_run ok1, dots_ann ok1, ← ann_take, he, ann_length, ann_drop]
  · rw [if_neg (fun e => he (Option.some.inj e))]
    refine lex_bad _ _ (Nat.lt_succ_self _) ?_
    rw [run_append, run_append, dots_run ok1]
    intro e
    exact he (run_inj _ ok1 ok2 (e.trans hZ.symm))
end Mine

namespace Mine
open PySem PyProof.Rows
noncomputable def safeStr : Str := Str.ofString "ABCDEFGHIJKLMNOPQRSTUVWXYZabcdefghijklmnopqrstuvwxyz0123456789_@%+=:,./-"
noncomputable def safeC (c : Nat) : Bool := decide (c ∈ safeStr.cps.toList)
theorem safe_all : ∀ c ∈ safeStr.cps.toList, isWs c = false ∧ isQt c = false := by decide +kernel
theorem safe_ws {c : Nat} (h : safeC c = true) : isWs c = false := (safe_all c (of_decide_eq_true h)).1
theorem safe_qt {c : Nat} (h : safeC c = true) : isQt c = false := (safe_all c (of_decide_eq_true h)).2
theorem qt39 : isQt 39 = true := by decide +kernel
theorem qt34 : isQt 34 = true := by decide +kernel
theorem ws39 : isWs 39 = false := by decide +kernel
theorem ws34 : isWs 34 = false := by decide +kernel
theorem ws32 : isWs 32 = true := by decide +kernel
theorem qt32 : isQt 32 = false := by decide +kernel
noncomputable abbrev sE : Str := Str.ofString ""
/-- the signs of one sign within the quotation marks -/
noncomputable def sgIn (c : Nat) : List Sg :=
  if c = 39 then [(39, some 39, some sE), (34, none, some sE), (39, some 34, some ⟨#[39]⟩), (34, some 34, some sE), (39, none, some sE)] else [(c, some 39, some ⟨#[c]⟩)]
noncomputable def sgSafe (c : Nat) : Sg := (c, none, some ⟨#[c]⟩)
noncomputable def plainW (x : List Nat) : Bool := !x.isEmpty && x.all safeC
noncomputable def sgWord (x : List Nat) : List Sg :=
  if plainW x then x.map sgSafe else [(39, none, some sE)] ++ x.flatMap sgIn ++ [(39, some 39, some sE)]
noncomputable def laidStep (laid : List Sg) (x : List Nat) : List Sg := (if laid = [] then laid else laid ++ [(32, none, none)]) ++ sgWord x
noncomputable def laidOf (ws : List (List Nat)) : List Sg := ws.foldl laidStep []
noncomputable def codes (l : List Sg) : List Nat := l.map (·.1)
/-- a stretch from one place to another that keeps the blanks good -/
structure Str1 (b : Bool) (p : Pl) (l : List Sg) (p' : Pl) : Prop where
  hann : ann p (codes l) = l
  hrun : run p (codes l) = p'
  hgp : Gp b p (codes l)
  hne : l ≠ []
  hb : bOf b p (codes l) = false
theorem codes_append (a b : List Sg) : codes (a ++ b) = codes a ++ codes b := List.map_append
theorem Str1.weak {b : Bool} {p p' : Pl} {l : List Sg} (h : Str1 true p l p') : Str1 b p l p' := by
  obtain ⟨h1, h2, h3, h4, h5⟩ := h
  refine ⟨h1, h2, ?_, h4, ?_⟩
  · cases l with
    | nil => exact absurd rfl h4
    | cons x r =>
      cases b with
      | true => exact h3
      | false => exact ⟨fun _ => rfl, h3.2⟩
  · cases l with
    | nil => exact absurd rfl h4
    | cons x r => exact h5
theorem Str1.append {b : Bool} {p p' p'' : Pl} {l l' : List Sg} (h : Str1 b p l p') (h' : Str1 false p' l' p'') : Str1 b p (l ++ l') p'' := by
  refine ⟨?_, ?_, ?_, ?_, ?_⟩
  · rw [codes_append, ann_append, h.hann, h.hrun, h'.hann]
  · rw [codes_append, run_append, h.hrun, h'.hrun]
  · rw [codes_append]
    refine (gp_append _ _ _ _).mpr ⟨h.hgp, ?_⟩
    rw [h.hb, h.hrun]; exact h'.hgp
  · intro e
    exact h.hne (List.append_eq_nil_iff.mp e).1
  · rw [codes_append, bOf_append, h.hb, h.hrun, h'.hb]
theorem str1_one {b : Bool} {p : Pl} {c : Nat} (hw : wsAt p c = false) : Str1 b p [(c, p, tellOf p c)] (step p c) := by
  refine ⟨rfl, rfl, ⟨fun h => ?_, trivial⟩, by simp, hw⟩
  rw [hw] at h; cases h
theorem str1_safe : ∀ {b : Bool} (x : List Nat), x ≠ [] → (∀ c ∈ x, safeC c = true) → Str1 b none (x.map sgSafe) none
  | _, [], h, _ => absurd rfl h
  | b, [c], _, hs => by
    have h1 := hs c (.head _)
    have hw := safe_ws h1
    have hq := safe_qt h1
    have e : sgSafe c = (c, none, tellOf none c) := by simp [sgSafe, tellOf, hw, hq]
    have e2 : step none c = none := by simp [step, hq]
    have := str1_one (b := b) (p := none) (c := c) (by simp [wsAt, hw])
    rw [← e, e2] at this
    exact this
  | b, c :: d :: r, _, hs => by
    have h1 := hs c (.head _)
    have hw := safe_ws h1
    have hq := safe_qt h1
    have e : sgSafe c = (c, none, tellOf none c) := by simp [sgSafe, tellOf, hw, hq]
    have e2 : step none c = none := by simp [step, hq]
    have := str1_one (b := b) (p := none) (c := c) (by simp [wsAt, hw])
    rw [← e, e2] at this
    exact this.append (str1_safe (d :: r) (by simp) fun y hy => hs y (.tail _ hy))
theorem str1_in (b : Bool) (c : Nat) : Str1 b (some 39) (sgIn c) (some 39) := by
  unfold sgIn
  by_cases h : c = 39
  · rw [if_pos h]
    refine ⟨?_, ?_, ?_, by simp, ?_⟩
    · simp [codes, ann, step, tellOf, qt34, qt39, ws34, ws39]
    · simp [codes, run, step, qt34, qt39]
    · simp [codes, Gp, wsAt, step, qt34, qt39, ws34, ws39]
    · simp [codes, bOf, wsAt, step, qt34, qt39, ws34, ws39]
  · rw [if_neg h]
    have e : ((c, some 39, some ⟨#[c]⟩) : Sg) = (c, some 39, tellOf (some 39) c) := by simp [tellOf, h]
    have e2 : step (some 39) c = some 39 := by simp [step, h]
    have := str1_one (b := b) (p := some 39) (c := c) (by simp [wsAt])
    rw [← e, e2] at this
    exact this
theorem str1_ins : ∀ {l : List Sg} {b : Bool} {p : Pl} (x : List Nat), Str1 b p l (some 39) → Str1 b p (l ++ x.flatMap sgIn) (some 39)
  | l, _, _, [], h => by simpa using h
  | l, _, _, c :: r, h => by
    rw [List.flatMap_cons, ← List.append_assoc]
    exact str1_ins r (h.append (str1_in false c))
theorem str1_word (x : List Nat) : Str1 true none (sgWord x) none := by
  unfold sgWord
  cases hp : plainW x with
  | true =>
    rw [if_pos rfl]
    simp only [plainW, Bool.and_eq_true, Bool.not_eq_true', List.isEmpty_eq_false_iff, List.all_eq_true] at hp
    exact str1_safe x hp.1 hp.2
  | false =>
    rw [if_neg (by simp)]
    have h1 : Str1 true none [((39, none, some sE) : Sg)] (some 39) := by
      have := str1_one (b := true) (p := none) (c := 39) (by simp [wsAt, ws39])
      simpa [tellOf, step, ws39, qt39] using this
    have h2 : Str1 false (some 39) [((39, some 39, some sE) : Sg)] none := by
      have := str1_one (b := false) (p := some 39) (c := 39) (by simp [wsAt])
      simpa [tellOf, step] using this
    exact (str1_ins x h1).append h2
theorem str1_laid : ∀ (ws : List (List Nat)) (l : List Sg), l = [] ∨ Str1 true none l none → ws ≠ [] ∨ l ≠ [] → Str1 true none (ws.foldl laidStep l) none
  | [], l, h, h2 => by
    rcases h2 with h2 | h2
    · exact absurd rfl h2
    · exact h.resolve_left h2
  | x :: r, l, h, _ => by
    rw [List.foldl_cons]
    have key : Str1 true none (laidStep l x) none := by
      unfold laidStep
      rcases h with h | h
      · rw [if_pos h, h]; exact str1_word x
      · rw [if_neg h.hne]
        refine ⟨?_, ?_, ?_, ?_, ?_⟩
        · rw [codes_append, codes_append, ann_append, ann_append, h.hann]
          have e1 : run none (codes l ++ codes [((32, none, none) : Sg)]) = none := by rw [run_append, h.hrun]; simp [codes, run, step, qt32]
          have e2 : ann (run none (codes l)) (codes [((32, none, none) : Sg)]) = [(32, none, none)] := by rw [h.hrun]; simp [codes, ann, tellOf, ws32]
          rw [e1, e2, (str1_word x).hann]
        · rw [codes_append, codes_append, run_append, run_append, h.hrun]
          have e1 : run none (codes [((32, none, none) : Sg)]) = none := by simp [codes, run, step, qt32]
          rw [e1, (str1_word x).hrun]
        · rw [codes_append, codes_append]
          refine (gp_append _ _ _ _).mpr ⟨(gp_append _ _ _ _).mpr ⟨h.hgp, ?_⟩, ?_⟩
          · rw [h.hb]; exact ⟨fun _ => rfl, trivial⟩
          · have e1 : run none (codes l ++ codes [((32, none, none) : Sg)]) = none := by rw [run_append, h.hrun]; simp [codes, run, step, qt32]
            rw [e1]
            have := (str1_word x).hgp
            have e3 : bOf true none (codes l ++ codes [((32, none, none) : Sg)]) = true := by rw [bOf_append, h.hrun]; simp [codes, bOf, wsAt, ws32]
            rw [e3]; exact this
        · intro e
          exact (str1_word x).hne (List.append_eq_nil_iff.mp e).2
        · rw [codes_append, codes_append, bOf_append]
          have e1 : run none (codes l ++ codes [((32, none, none) : Sg)]) = none := by rw [run_append, h.hrun]; simp [codes, run, step, qt32]
          have e3 : bOf true none (codes l ++ codes [((32, none, none) : Sg)]) = true := by rw [bOf_append, h.hrun]; simp [codes, bOf, wsAt, ws32]
          rw [e1, e3, (str1_word x).hb]
    exact str1_laid r _ (.inr key) (.inr key.hne)
theorem laid_str1 {ws : List (List Nat)} (h : ws ≠ []) : Str1 true none (laidOf ws) none := str1_laid ws [] (.inl rfl) (.inl h)
theorem str1_gd {l : List Sg} (h : Str1 true none l none) : Gd true none (codes l) := by
  have := (gd_append (codes l) [] true none).mpr ⟨h.hgp, h.hb⟩
  rwa [List.append_nil] at this
/-- the law at any width, of the signs -/
noncomputable def dueOf (sg : List Sg) (n : Int) : Option (List Str) :=
  if n < (sg.length : Int) then
    let many : Nat := (n - 3).toNat
    cutWords sg (many / 2) (many - many / 2)
  else some (wf sE sg)
noncomputable def cutCodes (cs : List Nat) (n : Int) : List Nat :=
  if n < (cs.length : Int) then
    let many : Nat := (n - 3).toNat
    cs.take (many / 2) ++ dots ++ cs.drop (cs.length - (many - many / 2))
  else cs
theorem due_law {ws : List (List Nat)} (h : ws ≠ []) (n : Int) : lexAll (some (cutCodes (codes (laidOf ws)) n)) = dueOf (laidOf ws) n := by
  have S := laid_str1 h
  have hl : (codes (laidOf ws)).length = (laidOf ws).length := by simp [codes]
  have hpos : 0 < (laidOf ws).length := List.length_pos_iff.mpr S.hne
  unfold cutCodes dueOf
  rw [hl]
  by_cases hn : n < ((laidOf ws).length : Int)
  · rw [if_pos hn, if_pos hn]
    dsimp only
    have := cut_law (str1_gd S) S.hrun (pre := (n - 3).toNat / 2) (post := (n - 3).toNat - (n - 3).toNat / 2) (by rw [hl]; omega) (by rw [hl]; omega)
    rw [S.hann, hl] at this
    exact this
  · rw [if_neg hn, if_neg hn, lex_good _ _ (Nat.lt_succ_self _) (str1_gd S) S.hrun, S.hann]
end Mine

namespace Mine
open PySem PyProof.Rows
noncomputable abbrev cpsOf (x : Str) : List Nat := x.cps.toList
theorem str_ext {x y : Str} (h : cpsOf x = cpsOf y) : x = y := by
  cases x; cases y
  simp only [cpsOf] at h
  exact congrArg _ (Array.toList_inj.mp h)
theorem cps_append (x y : Str) : cpsOf (x ++ y) = cpsOf x ++ cpsOf y := by
  show (x.cps ++ y.cps).toList = _
  simp
noncomputable def repl (c : Nat) (z : List Nat) (l : List Nat) : List Nat := l.flatMap fun k => if k = c then z else [k]
theorem repl_free (c : Nat) (z : List Nat) : ∀ l : List Nat, c ∉ l → repl c z l = l
  | [], _ => rfl
  | k :: r, h => by
    have h1 : ¬ k = c := fun e => h (e ▸ List.mem_cons_self ..)
    have h2 : c ∉ r := fun m => h (List.mem_cons_of_mem _ m)
    have ih := repl_free c z r h2
    unfold repl at ih ⊢
    rw [List.flatMap_cons, if_neg h1, ih]; rfl
theorem repl_join (c : Nat) (z : Str) : ∀ parts : List Str, (∀ p ∈ parts, c ∉ p.cps.toList) → repl c z.cps.toList (Str.join ⟨#[c]⟩ parts).cps.toList = (Str.join z parts).cps.toList
  | [], _ => rfl
  | [p], h => repl_free c _ _ (h p (List.mem_singleton.mpr rfl))
  | p :: q :: r, h => by
    have ih := repl_join c z (q :: r) fun a ha => h a (List.mem_cons_of_mem _ ha)
    show repl c _ (p ++ ⟨#[c]⟩ ++ Str.join ⟨#[c]⟩ (q :: r)).cps.toList = (p ++ z ++ Str.join z (q :: r)).cps.toList
    simp only [Str.cps_append, Array.toList_append]
    have h1 := repl_free c z.cps.toList _ (h p (List.mem_cons_self ..))
    unfold repl at ih h1 ⊢
    rw [List.flatMap_append, List.flatMap_append, ih, h1]
    simp
theorem replace_codes (x z : Str) (c : Nat) : (Txt.replace x ⟨#[c]⟩ z).cps.toList = repl c z.cps.toList x.cps.toList := by
  rw [StrLaws.replace_one, ← repl_join c z _ (StrLaws.split_free x c), StrLaws.join_split]
/-- a word as the line has it -/
noncomputable def qStr (x : Str) : Str := ⟨(codes (sgWord (cpsOf x))).toArray⟩
theorem qStr_cps (x : Str) : cpsOf (qStr x) = codes (sgWord (cpsOf x)) := by simp [cpsOf, qStr]
theorem q_empty {x : Str} (h : x.length = 0) : qStr x = Str.ofString "''" := by
  have : cpsOf x = [] := by
    have : x.cps.size = 0 := h
    simp [cpsOf, Array.size_eq_zero_iff.mp this]
  refine str_ext ?_
  rw [qStr_cps, this]
  decide +kernel
theorem q_plain {x : Str} (h : plainW (cpsOf x) = true) : qStr x = x := by
  refine str_ext ?_
  rw [qStr_cps, sgWord, if_pos h]
  simp [codes, sgSafe, Function.comp_def]
theorem codes_in (l : List Nat) : codes (l.flatMap sgIn) = repl 39 [39, 34, 39, 34, 39] l := by
  induction l with
  | nil => rfl
  | cons c r ih =>
    unfold repl at ih ⊢
    rw [List.flatMap_cons, codes_append, ih, List.flatMap_cons]
    congr 1
    unfold sgIn
    by_cases h : c = 39
    · rw [if_pos h, if_pos h]; rfl
    · rw [if_neg h, if_neg h]; rfl
theorem q_quoted {x : Str} (h : plainW (cpsOf x) = false) : qStr x = Str.ofString "'" ++ Txt.replace x (Str.ofString "'") (Str.ofString "'\"'\"'") ++ Str.ofString "'" := by
  refine str_ext ?_
  have e1 : Str.ofString "'" = ⟨#[39]⟩ := by decide +kernel
  have e2 : cpsOf (Str.ofString "'\"'\"'") = [39, 34, 39, 34, 39] := by decide +kernel
  rw [qStr_cps, sgWord, if_neg (by simp [h]), codes_append, codes_append, codes_in, cps_append, cps_append, e1]
  have h3 : cpsOf (Txt.replace x ⟨#[39]⟩ (Str.ofString "'\"'\"'")) = repl 39 [39, 34, 39, 34, 39] (cpsOf x) := by
    have := replace_codes x (Str.ofString "'\"'\"'") 39
    rw [show (Str.ofString "'\"'\"'").cps.toList = [39, 34, 39, 34, 39] from e2] at this
    exact this
  rw [h3]
  rfl
noncomputable def lineOf (ws : List Str) : Str := Txt.join (Str.ofString " ") (ws.map qStr)
theorem join_snoc (sep : Str) : ∀ (l : List Str) (x : Str), l ≠ [] → Str.join sep (l ++ [x]) = Str.join sep l ++ sep ++ x
  | [], _, h => absurd rfl h
  | [a], x, _ => rfl
  | a :: b :: r, x, _ => by
    have ih := join_snoc sep (b :: r) x (by simp)
    show a ++ sep ++ Str.join sep ((b :: r) ++ [x]) = (a ++ sep ++ Str.join sep (b :: r)) ++ sep ++ x
    rw [ih]
    refine str_ext ?_
    simp only [cps_append, List.append_assoc]
theorem laidStep_ne (l : List Sg) (x : List Nat) : laidStep l x ≠ [] := by
  intro e
  exact (str1_word x).hne (List.append_eq_nil_iff.mp e).2
theorem laidOf_snoc (ws : List (List Nat)) (x : List Nat) : laidOf (ws ++ [x]) = laidStep (laidOf ws) x := by simp [laidOf, List.foldl_append]
theorem laidOf_ne {ws : List (List Nat)} (h : ws ≠ []) : laidOf ws ≠ [] := (laid_str1 h).hne
theorem line_rev : ∀ (r : List Str), cpsOf (lineOf r.reverse) = codes (laidOf (r.reverse.map cpsOf))
  | [] => rfl
  | x :: r => by
    have ih := line_rev r
    unfold lineOf at ih ⊢
    unfold Txt.join at ih ⊢
    rw [List.reverse_cons, List.map_append, List.map_append, List.map_cons, List.map_nil, List.map_cons, List.map_nil, laidOf_snoc]
    cases hr : r.reverse with
    | nil =>
      rw [StrLaws.glued_eq_join]
      show cpsOf (qStr x) = _
      rw [qStr_cps]; rfl
    | cons a b =>
      rw [← hr]
      have hne : r.reverse.map qStr ≠ [] := by rw [hr]; simp
      have hne2 : laidOf (r.reverse.map cpsOf) ≠ [] := laidOf_ne (by rw [hr]; simp)
      rw [StrLaws.glued_eq_join] at ih ⊢
      rw [join_snoc _ _ _ hne, cps_append, cps_append, ih, qStr_cps, laidStep, if_neg hne2, codes_append, codes_append]
      rfl
theorem line_codes (ws : List Str) : cpsOf (lineOf ws) = codes (laidOf (ws.map cpsOf)) := by
  have := line_rev ws.reverse
  rwa [List.reverse_reverse] at this
/-- the line, glued of its signs -/
theorem glue_signs (l : List Nat) : cpsOf (Txt.join (Str.ofString "") (l.map fun c => (⟨#[c]⟩ : Str))) = l := by
  unfold Txt.join
  rw [StrLaws.glued_eq_join]
  induction l with
  | nil => rfl
  | cons c r ih =>
    cases r with
    | nil => rfl
    | cons d q =>
      show cpsOf ((⟨#[c]⟩ : Str) ++ Str.ofString "" ++ Str.join (Str.ofString "") ((d :: q).map fun c => (⟨#[c]⟩ : Str))) = _
      rw [cps_append, cps_append, ih]
      rfl
theorem cram_nums {n : Int} {l : Nat} (hn : -1 ≤ n) (h : n < (l : Int)) : ∃ p q : Nat, (n - 3).toNat / 2 = p ∧ (n - 3).toNat - (n - 3).toNat / 2 = q ∧ (if (n - 3) / 2 > 0 then (n - 3) / 2 else 0 : Int) = (p : Int) ∧
    (if n - 3 - (p : Int) > 0 then n - 3 - (p : Int) else 0 : Int) = (q : Int) ∧ p ≤ l ∧ q ≤ l := by
  refine ⟨_, _, rfl, rfl, ?_⟩
  by_cases h3 : n ≤ 3
  · have e : (n - 3).toNat = 0 := by omega
    rw [e, if_neg (by omega), if_neg (by simp; omega)]
    exact ⟨rfl, rfl, Nat.zero_le _, Nat.zero_le _⟩
  · obtain ⟨m, rfl⟩ : ∃ m : Nat, n = (m : Int) + 3 := ⟨(n - 3).toNat, by omega⟩
    have e : ((m : Int) + 3 - 3).toNat = m := by omega
    rw [e, Int.add_sub_cancel]
    refine ⟨?_, ?_, by omega, by omega⟩ <;> split <;> omega
theorem cram_codes (x : Str) {n : Int} (hn : -1 ≤ n) : cpsOf (cramOf x n) = cutCodes (cpsOf x) n := by
  unfold cramOf cutCodes
  have hlen : x.cps.toList.length = x.length := by simp [Str.length]
  have e6 : (cpsOf x).length = x.length := hlen
  rw [e6]
  by_cases h : n < (x.length : Int)
  · rw [if_pos h, if_pos h]
    dsimp only
    rw [Int.fdiv_eq_ediv_of_nonneg _ (by decide)]
    obtain ⟨p, q, ep, eq, e1, e2, hp, hq⟩ := cram_nums hn h
    rw [e1, e2, eq, ep, show ((x.length : Int) - (q : Int)) = ((x.length - q : Nat) : Int) from (Int.ofNat_sub hq).symm]
    have s1 : Txt.slice x none (some (p : Int)) = _ := StrLaws.sliceText_to ⟨Int.natCast_nonneg _, by rw [hlen]; exact Int.ofNat_le.mpr hp⟩
    have s2 : Txt.slice x (some ((x.length - q : Nat) : Int)) none = _ := StrLaws.sliceText_from ⟨Int.natCast_nonneg _, by rw [hlen]; exact Int.ofNat_le.mpr (Nat.sub_le _ _)⟩
    rw [s1, s2, cps_append, cps_append, show cpsOf (Str.ofString "...") = dots by decide +kernel]
    simp only [cpsOf, List.drop_zero]
    rw [List.take_of_length_le (l := List.drop _ _) (by rw [List.length_drop, hlen, Int.toNat_natCast, Int.toNat_sub]; exact Nat.le_refl _)]
    rfl
  · rw [if_neg h, if_neg h]
end Mine

namespace Mine
open PySem PyProof.Rows
open PySem.Sre
noncomputable def rxCode : Array Nat := #[14, 17, 4, 1, 1, 21, 9, 0, 604043296, 1, 0, 0, 0, 0, 0, 8, 4, 0, 13, 14, 21, 9, 0, 604043296, 1, 0, 0, 0, 0, 0, 8, 4, 0, 1]
theorem safe_small : ∀ c ∈ safeStr.cps.toList, c < 256 := by decide +kernel
theorem rx_bits : ∀ c : Fin 256, (((rxCode.getD (7 + c.val / 32) 0).testBit (c.val % 32)) || isWord c.val) = safeC c.val := by decide +kernel
theorem rx_bits2 : ∀ c : Fin 256, (rxCode.getD (22 + c.val / 32) 0) = (rxCode.getD (7 + c.val / 32) 0) := by decide +kernel
theorem rx_big {c : Nat} (h : ¬ c < 256) : isWord c = false ∧ safeC c = false := by
  constructor
  · simp only [isWord, isDigit, Bool.or_eq_false_iff, Bool.and_eq_false_iff, decide_eq_false_iff_not, beq_eq_false_iff_ne]
    omega
  · exact decide_eq_false fun hm => h (safe_small c hm)
theorem set_5 (c : Nat) (seen : Sre.Seen) : ∃ seen', inSet rxCode c 34 5 true seen = .ok (!safeC c, seen') := by
  have e1 : inSet rxCode c 34 5 true seen = inSet rxCode c 33 6 false (seen.add 21) := rfl
  have e2 : inSet rxCode c 33 6 false (seen.add 21) = if (decide (c < 256) && (rxCode.getD (6 + (1 + c / 32)) 0).testBit (c % 32)) = true then .ok (false, (seen.add 21).add 9) else inSet rxCode c 32 15 false ((seen.add 21).add 9) := rfl
  have e3 : inSet rxCode c 32 15 false ((seen.add 21).add 9) = if isWord c = true then .ok (false, ((((seen.add 21).add 9).add 8).add 59)) else .ok (true, ((((seen.add 21).add 9).add 8).add 59).add 0) := by
    have : inSet rxCode c 32 15 false ((seen.add 21).add 9) = (if (isWord c != false) = true then pure (false, ((((seen.add 21).add 9).add 8).add 59)) else .ok (true, ((((seen.add 21).add 9).add 8).add 59).add 0)) := rfl
    rw [this]
    cases isWord c <;> rfl
  rw [e1, e2, e3]
  by_cases hc : c < 256
  · have hb := rx_bits ⟨c, hc⟩
    have e4 : 6 + (1 + c / 32) = 7 + c / 32 := by omega
    rw [e4]
    simp only at hb
    rw [← hb]
    simp only [hc, decide_true, Bool.true_and]
    cases (rxCode.getD (7 + c / 32) 0).testBit (c % 32)
    · cases isWord c
      · exact ⟨_, rfl⟩
      · exact ⟨_, rfl⟩
    · exact ⟨_, rfl⟩
  · obtain ⟨h1, h2⟩ := rx_big hc
    rw [h1, h2]
    simp only [hc, decide_false, Bool.false_and]
    exact ⟨_, rfl⟩
theorem set_20 (c : Nat) (seen : Sre.Seen) : ∃ seen', inSet rxCode c 34 20 true seen = .ok (!safeC c, seen') := by
  have e1 : inSet rxCode c 34 20 true seen = inSet rxCode c 33 21 false (seen.add 21) := rfl
  have e2 : inSet rxCode c 33 21 false (seen.add 21) = if (decide (c < 256) && (rxCode.getD (21 + (1 + c / 32)) 0).testBit (c % 32)) = true then .ok (false, (seen.add 21).add 9) else inSet rxCode c 32 30 false ((seen.add 21).add 9) := rfl
  have e3 : inSet rxCode c 32 30 false ((seen.add 21).add 9) = if isWord c = true then .ok (false, ((((seen.add 21).add 9).add 8).add 59)) else .ok (true, ((((seen.add 21).add 9).add 8).add 59).add 0) := by
    have : inSet rxCode c 32 30 false ((seen.add 21).add 9) = (if (isWord c != false) = true then pure (false, ((((seen.add 21).add 9).add 8).add 59)) else .ok (true, ((((seen.add 21).add 9).add 8).add 59).add 0)) := rfl
    rw [this]
    cases isWord c <;> rfl
  rw [e1, e2, e3]
  by_cases hc : c < 256
  · have hb := rx_bits ⟨c, hc⟩
    have hb2 := rx_bits2 ⟨c, hc⟩
    have e4 : 21 + (1 + c / 32) = 22 + c / 32 := by omega
    rw [e4]
    simp only at hb hb2
    rw [← hb, hb2]
    simp only [hc, decide_true, Bool.true_and]
    cases (rxCode.getD (7 + c / 32) 0).testBit (c % 32)
    · cases isWord c
      · exact ⟨_, rfl⟩
      · exact ⟨_, rfl⟩
    · exact ⟨_, rfl⟩
  · obtain ⟨h1, h2⟩ := rx_big hc
    rw [h1, h2]
    simp only [hc, decide_false, Bool.false_and]
    exact ⟨_, rfl⟩
theorem admitted_run (m : M) (hc : m.code = rxCode) : ∀ (fuel s : Nat) (seen : Sre.Seen), m.lim < fuel + s →
    ((∀ j, s ≤ j → j < m.lim → safeC (m.text.getD j 0) = true) ∧ ∃ seen', M.admitted m fuel s seen = .ok (none, seen')) ∨
    (∃ j seen', s ≤ j ∧ j < m.lim ∧ safeC (m.text.getD j 0) = false ∧ M.admitted m fuel s seen = .ok (some j, seen')) := by
  intro fuel
  induction fuel with
  | zero =>
    intro s seen h
    exact .inl ⟨fun j h1 h2 => by omega, ⟨seen, rfl⟩⟩
  | succ fuel ih =>
    intro s seen h
    by_cases hs : s ≥ m.lim
    · exact .inl ⟨fun j h1 h2 => by omega, ⟨seen, by rw [M.admitted, if_pos hs]⟩⟩
    · obtain ⟨seen', e⟩ := set_5 (m.text.getD s 0) seen
      have e' : inSet m.code (m.text.getD s 0) m.code.size 5 true seen = .ok (!safeC (m.text.getD s 0), seen') := by rw [hc]; exact e
      cases hq : safeC (m.text.getD s 0) with
      | false =>
        rw [hq] at e'
        refine .inr ⟨s, seen', Nat.le_refl _, by omega, hq, ?_⟩
        rw [M.admitted, if_neg hs, e']; rfl
      | true =>
        rw [hq] at e'
        have e2 : M.admitted m (fuel + 1) s seen = M.admitted m fuel (s + 1) seen' := by rw [M.admitted, if_neg hs, e']; rfl
        rcases ih (s + 1) seen' (by omega) with ⟨h1, h2⟩ | ⟨j, sn, h1, h2, h3, h4⟩
        · refine .inl ⟨fun j hj hl => ?_, by rw [e2]; exact h2⟩
          by_cases hjs : j = s
          · rw [hjs]; exact hq
          · exact h1 j (by omega) hl
        · exact .inr ⟨j, sn, by omega, h2, h3, by rw [e2]; exact h4⟩
theorem search_run (text : Array Nat) (h0 : 0 < text.size) :
    ((∀ j, j < text.size → safeC (text.getD j 0) = true) ∧ ∃ m', (forSearch rxCode text 0 0 text.size false).runFor 4 = m' ∧ m'.outcome = some .failed) ∨
    ((∃ j, j < text.size ∧ safeC (text.getD j 0) = false) ∧ ∃ m', (forSearch rxCode text 0 0 text.size false).runFor 4 = m' ∧ m'.outcome = some .matched) := by
  obtain ⟨m0, hm0, hcode, htext, hlim, hseen, hfrom⟩ : ∃ m0 : M, m0 = { code := rxCode, text := text, lim := text.size, start := 0, lastStart := text.size, pc := 18, pos := 0, handed := 0, marks := #[], seen := ({} : Sre.Seen).add 14 } ∧ m0.code = rxCode ∧ m0.text = text ∧ m0.lim = text.size ∧ True ∧
      forSearch rxCode text 0 0 text.size false = m0.attemptFrom 0 true := by
    refine ⟨_, rfl, rfl, rfl, rfl, trivial, ?_⟩
    have hh : header rxCode = (1, 18) := rfl
    unfold forSearch
    dsimp only
    rw [hh]
    dsimp only
    rw [if_neg (show ¬ (decide (0 > text.size) || decide (text.size - 0 < 1)) = true from by simp only [Bool.or_eq_true, decide_eq_true_eq]; omega)]
    rfl
  rw [hfrom]
  have hfs : m0.hasFirstSet = true := by rw [hm0]; rfl
  unfold M.attemptFrom
  rw [hfs]
  simp only [Bool.not_true, Bool.false_eq_true, if_false]
  rcases admitted_run m0 hcode (m0.lim + 1 - 0) 0 m0.seen (by omega) with ⟨h1, seen', h2⟩ | ⟨j, seen', h1, h2, h3, h4⟩
  · refine .inl ⟨fun j hj => ?_, ?_⟩
    · have := h1 j (Nat.zero_le _) (by rw [hlim]; exact hj)
      rwa [htext] at this
    · rw [h2]
      refine ⟨_, rfl, ?_⟩
      rw [hm0]
      rfl
  · refine .inr ⟨⟨j, by rw [← hlim]; exact h2, by rw [← htext]; exact h3⟩, ?_⟩
    rw [h4]
    refine ⟨_, rfl, ?_⟩
    obtain ⟨sn, hsn⟩ := set_20 (text.getD j 0) (seen'.add 13)
    have h3' : safeC (text.getD j 0) = false := by rw [← htext]; exact h3
    rw [h3'] at hsn
    have hjl : ¬ j ≥ text.size := by rw [hlim] at h2; omega
    -- the machine's four steps
    obtain ⟨m1, hm1⟩ : ∃ m1 : M, m1 = { code := rxCode, text := text, lim := text.size, start := j, lastStart := text.size, pc := 18, pos := j, handed := j, marks := #[], seen := seen', weight := 1, frames := [{ wait := .nextStart, pc := 18, pos := j, outermost := true }] } := ⟨_, rfl⟩
    have e1 : ({ m0 with mustAdvance := false, seen := seen' }).attemptAt j true = m1 := by rw [hm0, hm1]; rfl
    show (M.runFor 4 (({ m0 with mustAdvance := false, seen := seen' }).attemptAt j true)).outcome = _
    rw [e1]
    have s1 : m1.step = { m1 with seen := sn, pc := 33, pos := j + 1 } := by
      have : m1.step = (if j ≥ text.size then ({ m1 with seen := seen'.add 13 }).say false else
        match inSet rxCode (text.getD j 0) 34 20 true (seen'.add 13) with
        | .error why => ({ m1 with seen := seen'.add 13 }).stick why
        | .ok (false, seen) => { m1 with seen := seen }.say false
        | .ok (true, seen) => { m1 with seen := seen, pc := 33, pos := j + 1 }) := by rw [hm1]; rfl
      rw [this, if_neg hjl, hsn]; rfl
    have s2 : M.runFor 4 m1 = M.runFor 3 m1.step := by rw [hm1]; rfl
    rw [s2, s1, hm1]
    rfl
end Mine

namespace Mine
open PySem PySem.W PyProof.Rows PySem.Calls PySem.Spec
theorem entry_search : entryFor table "re.Pattern.search" = some Builtin.«re.Pattern.search» := entryFor_of_tree (by kernel_rfl)
theorem plain_search : plainId "re.Pattern.search" = true := by decide +kernel
theorem sub_pat_mod : isSubtype (.type "re.Pattern") (.type "module") = pure false := by rw [isSubtype_type]; kernel_rfl
theorem sub_pat_type : isSubtype (.type "re.Pattern") (.type "type") = pure false := by rw [isSubtype_type]; kernel_rfl
theorem kind_search : builtinKind "re.Pattern.search" = some .method := by kernel_rfl
theorem va_search : Manifest.varargsMethods.contains "re.Pattern.search" = false := by decide +kernel
noncomputable abbrev sigS : Manifest.Signature := ⟨.keywords, "Pattern.search", "search", .self, [⟨"string", .posOrKw, true⟩, ⟨"pos", .posOrKw, false⟩, ⟨"endpos", .posOrKw, false⟩]⟩
theorem sig_search : Manifest.signature? "re.Pattern.search" = some sigS := by kernel_rfl
theorem args_search (x : Str) (t : Tok) : Bind.checkArgs "re.Pattern.search" { sigS with full := s!"{Bind.lastOf "re.Pattern"}.{Bind.lastOf "re.Pattern.search"}" } ⟨[.ref 56, .str x t], []⟩ = pure () := by first | kernel_rfl | rfl
theorem named_search (x : Value) : Builtin.Re.reNamed "re.Pattern.search" "search" ["string", "pos", "endpos"] 1 [x] [] = pure [some x, none, none] := by rfl
theorem reDrive_done {k : Nat} {m : Sre.M} (h : (m.runFor 4).outcome.isSome = true) : Builtin.Re.reDrive (k + 1) m = pure (m.runFor 4) := by
  unfold Builtin.Re.reDrive
  show (if (m.runFor 4).outcome.isSome then pure (m.runFor 4) else do rule "sre.turn"; Builtin.Re.reDrive k (m.runFor 4)) = _
  rw [if_pos h]
section
variable {prog : Program} {w : World} {A : Around} {E : Value → Shared → Prop} {s : Shared}
theorem check_search {x : Str} {t : Tok} {o : Obj} {vs : Array Value} {Q : Unit → Shared → Prop} (ho : s.heap.get? 56 = some o) (hc : o.cls = .type "re.Pattern") (hd : o.data = .fields vs) (h : Q () s) : wpAny (model prog w) A (checkBoundCall "re.Pattern.search" ⟨[.ref 56, .str x t], []⟩) Q E s := by
  have hT : s.TypeIs (.ref 56) "re.Pattern" := ⟨o, ho, hc⟩
  unfold checkBoundCall
  rw [kind_search, sig_search]
  dsimp only
  rw [if_neg (by decide)]
  refine wpAny_bind (wpAny_isInstance hT sub_pat_mod ?_)
  rw [va_search]
  simp only [Bool.or_self, Bool.false_eq_true, if_false]
  have h1 : ∀ {Q : Bool → Shared → Prop}, Q false s → wpAny (model prog w) A (isType (.ref 56)) Q E s := fun {Q} hq => by
    obtain ⟨hp, g, d, tk, os⟩ := s
    unfold isType
    wp_walk
    rw [hd]; exact hq
  refine wpAny_bind (h1 ?_)
  simp only [Bool.false_eq_true, if_false]
  refine wpAny_bind (wpAny_typeOf hT ?_)
  dsimp only
  exact wpAny_of_eq (args_search x t) h
theorem pat_at (P : Params) : ∃ FS, (hd.heap_1 P).lookup 56 = some { cls := .type "re.Pattern", data := .fields FS } ∧ Builtin.Re.reRawNat (FS.getD 6 .none) = 0 ∧ FS.getD 5 .none = .ref 55 ∧ Builtin.Re.reRawNat (FS.getD 2 .none) = 0 := ⟨_, rfl, rfl, rfl, rfl⟩
noncomputable def codeVals : Array Value := #[Value.int 14 0, Value.int 17 0, Value.int 4 0, Value.int 1 0, Value.int 1 0, Value.int 21 0, Value.int 9 0, Value.int 0 0, Value.int 604043296 0, Value.int 1 0, Value.int 0 0, Value.int 0 0, Value.int 0 0, Value.int 0 0, Value.int 0 0, Value.int 8 0, Value.int 4 0, Value.int 0 0, Value.int 13 0, Value.int 14 0, Value.int 21 0, Value.int 9 0, Value.int 0 0, Value.int 604043296 0, Value.int 1 0, Value.int 0 0, Value.int 0 0, Value.int 0 0, Value.int 0 0, Value.int 0 0, Value.int 8 0, Value.int 4 0, Value.int 0 0, Value.int 1 0]
theorem code_at (P : Params) : ∃ n, (hd.heap_1 P).lookup 55 = some { cls := .type "tuple", data := .seq codeVals n } := ⟨_, rfl⟩
theorem find_at (P : Params) : (hd.heap_1 P).lookup 759 = some { cls := .type "builtin_function_or_method", data := .fields #[.builtin "re.Pattern.search", .ref 56] } := rfl
theorem code_raw : ((codeVals.map Builtin.Re.reRawOf).map (·.toNat)) = rxCode := by decide +kernel
theorem rules_run (l : List Nat) (m : Sre.M) {Q : PUnit → Shared → Prop} (h : Q ⟨⟩ s) : wpAny (model prog w) A (forIn l PUnit.unit fun i __s => if m.seen.has i = true then do rule (Sre.names.getD i ""); pure (ForInStep.yield PUnit.unit) else pure (ForInStep.yield PUnit.unit)) Q E s := by
  refine wpAny_forIn_list _ (fun _ _ s' => s' = s) _ ?_ (fun b s' e => by subst e; exact h) l _ rfl
  rintro x rest b s' rfl
  by_cases hs : m.seen.has x = true
  · rw [if_pos hs]; exact wpAny_bind (wpAny_rule (wpAny_pure rfl))
  · rw [if_neg hs]; exact wpAny_pure rfl
theorem search_meets {x : Str} {t : Tok} (X : (hd.heap_1 w.params).In s.heap) (h0 : 0 < x.length) (h1 : x.length ≤ 4000) {Q : Value → Shared → Prop}
    (hN : plainW (cpsOf x) = true → Q .none s) (hM : plainW (cpsOf x) = false → ∀ a h', s.heap.StaysIn h' → Q (.ref a) { s with heap := h' }) :
    wpAny (model prog w) A (Builtin.«re.Pattern.search» ⟨[.ref 56, .str x t], []⟩) (fun fin s' => ∃ v, fin = .done (.ret v) ∧ Q v s') E s := by
  obtain ⟨FS, hp, h6, h5, h2⟩ := pat_at w.params
  obtain ⟨nn, hcd⟩ := code_at w.params
  have ho := X _ _ hp
  have hco := X _ _ hcd
  unfold Builtin.«re.Pattern.search» Builtin.Re.reTarget
  dsimp only
  rw [named_search]
  refine wpAny_bind (wpAny_bind (wpAny_pure ?_))
  dsimp only
  refine wpAny_bind (wpAny_pure (wpAny_bind (wpAny_pure (wpAny_bind (wpAny_fieldsOf ho rfl ?_)))))
  have hto : Builtin.Re.reTextOf (.str x t) = pure (x.cps, 0) := rfl
  rw [hto]
  refine wpAny_bind (wpAny_pure ?_)
  dsimp only
  rw [h6, h5, h2, if_neg (by decide), if_neg (by decide)]
  have hnc : Builtin.Re.reNoCollectionInside (.str x t) 0 = pure () := rfl
  rw [hnc]
  refine wpAny_bind (wpAny_pure ?_)
  have hraw : ∀ {Q : Array Int → Shared → Prop}, Q (codeVals.map Builtin.Re.reRawOf) s → wpAny (model prog w) A (Builtin.Re.reRawItems (.ref 55)) Q E s := fun {Q} hq => by
    unfold Builtin.Re.reRawItems
    exact wpAny_bind (wpAny_seqItems hco rfl (wpAny_pure hq))
  refine wpAny_bind (hraw (wpAny_pure ?_))
  dsimp only
  rw [code_raw]
  have hpos : min (0 : Int).toNat x.cps.size = 0 := by simp
  have hlim : min ((2 ^ 63 - 1 : Int)).toNat x.cps.size = x.cps.size := by
    have : x.cps.size ≤ 4000 := h1
    exact Nat.min_eq_right (Nat.le_trans this (by decide))
  rw [hpos, hlim]
  unfold Builtin.Re.reAnswer Builtin.Re.reRunToEnd
  have hall : ∀ b, plainW (cpsOf x) = b → ((b = true ↔ ∀ j, j < x.cps.size → safeC (x.cps.getD j 0) = true)) := fun b hb => by
    subst hb
    have hne : cpsOf x ≠ [] := fun e => by
      have := congrArg List.length e
      simp [cpsOf] at this
      exact absurd h0 (by show ¬ 0 < x.cps.size; rw [this]; simp)
    simp only [plainW, Bool.and_eq_true, Bool.not_eq_true', List.isEmpty_eq_false_iff, List.all_eq_true]
    constructor
    · rintro ⟨_, h⟩ j hj
      refine h _ ?_
      simp only [cpsOf, Array.getD_eq_getD_getElem?, Array.getElem?_eq_getElem hj, Option.getD_some]
      exact Array.mem_toList_iff.mpr (Array.getElem_mem hj)
    · intro h
      refine ⟨hne, fun c hc => ?_⟩
      obtain ⟨j, hj, e⟩ := List.getElem_of_mem hc
      have hj' : j < x.cps.size := by simpa [cpsOf] using hj
      have := h j hj'
      rw [← e]
      simpa [cpsOf, Array.getD_eq_getD_getElem?, Array.getElem?_eq_getElem hj'] using this
  have h264 : (2 ^ 64 : Nat) = (2 ^ 64 - 1) + 1 := by decide
  rcases search_run x.cps h0 with ⟨hs, m', hm', ho'⟩ | ⟨⟨j, hj, hs⟩, m', hm', ho'⟩
  · rw [h264, reDrive_done (by rw [hm', ho']; rfl), hm']
    refine wpAny_bind (wpAny_bind (wpAny_pure (wpAny_bind (rules_run _ m' ?_))))
    rw [ho']
    refine wpAny_pure ?_
    exact wpAny_pure ⟨_, rfl, hN ((hall _ rfl).mpr hs)⟩
  · rw [h264, reDrive_done (by rw [hm', ho']; rfl), hm']
    refine wpAny_bind (wpAny_bind (wpAny_pure (wpAny_bind (rules_run _ m' ?_))))
    rw [ho']
    refine wpAny_pure ?_
    dsimp only
    have hf : plainW (cpsOf x) = false := by
      cases hb : plainW (cpsOf x) with
      | false => rfl
      | true => rw [(hall _ hb).mp rfl j hj] at hs; cases hs
    unfold Builtin.Re.reNewMatch
    simp only [List.range_zero, List.flatMap_nil, List.any_nil, Bool.false_eq_true, if_false]
    refine wpAny_bind (wpAny_bind (wpAny_newTuple ?_ (by show (2 : Nat) ≤ sizeLine; rw [sizeLine_eq]; decide)))
    unfold newFields
    refine wpAny_newObj_type ?_ (by size_fits)
    exact wpAny_pure ⟨_, rfl, hM hf _ _ fun b o e => Heap.get?_push_of_some _ (Heap.get?_push_of_some _ e)⟩
theorem c_find {x : Str} {t : Tok} (X : (hd.heap_1 w.params).In s.heap) (h0 : 0 < x.length) (h1 : x.length ≤ 4000) {Q : Value → Shared → Prop}
    (hN : plainW (cpsOf x) = true → Q .none s) (hM : plainW (cpsOf x) = false → ∀ a h', s.heap.StaysIn h' → Q (.ref a) { s with heap := h' }) :
    wpAny (model prog w) A (call (.ref 759) [.str x t]) Q E s := by
  obtain ⟨FS, hp, _⟩ := pat_at w.params
  have ho := X _ _ hp
  have hf := X _ _ (find_at w.params)
  refine wpAny_call (codeAny_of_tree ?_)
  show wpAny _ _ (callAny (.ref 759) ⟨[.str x t], []⟩) _ _ s
  unfold callAny
  dsimp only
  refine wpAny_bind (wpAny_load hf ?_)
  dsimp only
  rw [if_pos (by decide)]
  simp only [List.getElem?_toArray, List.getElem?_cons_zero, List.getElem?_cons_succ]
  rw [if_pos (by decide)]
  refine wpAny_bind (check_search ho rfl rfl ?_)
  refine wpAny_pure ⟨plainId_quiet plain_search _, codeAny_builtin entry_search ?_⟩
  rw [Around.under_plainId plain_search _]
  refine wpAny_mono (search_meets X h0 h1 (Q := Q) hN hM) (fun fin s' h' => ?_) fun _ _ e => e
  obtain ⟨v, rfl, hv⟩ := h'
  exact hv
end
end Mine

namespace Mine
open PySem PySem.W PyProof.Rows PySem.Calls PySem.Spec
/-- a call of a def, no frame of the caller in sight: all that stood stays the callee's ground -/
theorem code_defP {prog : Program} {w : World} {A : Around} {s : Shared} {K : Frag} {mg mb : Str → Option Value} {p : Program} {loose : List Str} {mean : ExcName → Option Value}
    {R : Result → Shared → Prop} {name qual : Str} {params : Arguments} {body : List Stmt} {scope : Scope} {dV kV doc pm cdv ct oc : Value} {an od : Option Addr} {osl : Array (Option Value)} {f : Addr} {args : Args} {binds : List (Str × Value)}
    (X : K.In s.heap) (T : Top p loose mean mg mb s.heap)
    (ho : K.lookup f = some ⟨oc, od, .func (fnOf name qual params body scope dV kV doc pm an cdv ct), osl⟩) (hcd : codeIn K cdv qual = true) (hroom : A.depth < recursionLimit)
    (hbind : BindsTo s (fnOf name qual params body scope dV kV doc pm an cdv ct) args binds) (hloc : ∀ y ∈ binds, scope.names.lookup y.1 = some .local)
    (h : ∀ g L' h₁, g = s.heap → Fr g L' h₁ (fun y => binds.reverse.lookup y) → News g L' h₁ [] → K.In g → Top p loose mean mg mb g →
      wpAny (model prog w) (A.deeper (envOf qual scope L' f cdv)) (execs body (envOf qual scope L' f cdv))
        (fun fl s' => R (.ok (.ret (match fl with | .ret v => v | _ => .none))) s')
        (fun e s' => wpAny (model prog w) (A.deeper (envOf qual scope L' f cdv)) (leaving (envOf qual scope L' f cdv) e) (fun _ s'' => R (.error e) s'') (fun e' s'' => R (.error e') s'') s')
        { s with heap := h₁, toks := s.toks + binds.length })
    (hco : scope.isCoroutine = false) (hgen : scope.isGenerator = false) (hk : scope.kind = .function)
    (hcell : ∀ x ∈ scope.names, x.2 ≠ .cell) : codeAny (model prog w) A (.call (.ref f) args) R s := by
  refine codeAny_call_def (fd := fnX name qual params body scope [] dV kV doc pm an cdv ct) (body := body) (binds := binds) hroom (X _ _ ho) rfl T.nolimit (codeRec_of X hcd) rfl hbind hcell hloc (fun h₁ hns hk₁ => ?_) hco hgen hk
  exact h _ s.heap.objs.size h₁ rfl ⟨hns, hk₁, Nat.le_refl _⟩ (fun _ hp => nomatch hp) X T
section
variable {prog : Program} {w : World} {A : Around} {E : Value → Shared → Prop} {s : Shared} {env : Env}
theorem callWith_find {h₀ : Heap} {pos : Pos} {first : List Value} {e : Expr} {rest : List Expr} {Q : Value → Shared → Prop} (_X : (hd.heap_1 w.params).In h₀)
    (h : wpAny (model prog w) A (spliced (backTo pos (starEach (e :: rest) env))) (fun vs s₁ => (hd.heap_1 w.params).In s₁.heap ∧ wpAny (model prog w) A (call (.ref 759) (first ++ vs)) Q E s₁) E s)
    (he : starEach (e :: rest) env = (false, eval e env) :: starEach rest env := by rfl) (hplain : (backTo pos (starEach rest env)).any (·.1) = false := by rfl) :
    wpAny (model prog w) A (callWith pos (.ref 759) first (backTo pos (starEach (e :: rest) env)) []) Q E s := by
  rw [he] at h ⊢
  exact callWith_of (P := (hd.heap_1 w.params).In) (by show ((false || (backTo pos (starEach rest env)).any (·.1)) || false) = false; rw [hplain]; rfl)
    (fun h X => ⟨.machine, .inr (.inl rfl), (Looks.ld (part := none) (X _ _ (find_at w.params))).andThen .now⟩) (evalArgs_plain h)
end
theorem kw_45 : True := by
  w_top off
  k_with_none
  trivial
theorem kw_46 : True := by
  k_with "callWith ref" => (k_here; (with_reducible show wpAny _ _ (callWith _ (Value.ref 759) _ (backTo _ (starEach (_ :: _) _)) []) _ _ _); k_dflt (refine' callWith_find ?k1q46 ?_; (case k1q46 => k_asm); k_whole))
  trivial
noncomputable abbrev topQ (fr : Option (List Env)) (gd : Option (List Code)) : Around := { handled := none, depth := 480, frames := fr, guards := gd, units := 480 }
theorem kw_47 : True := by
  k_with "call ref" => (k_here; (with_reducible show wpAny _ _ (call (Value.ref 759) _) _ _ _); k_dflt (refine' c_find ?k1q47 ?k2q47 ?k3q47 ?_ ?_; (case k1q47 => exact Frag.In.keeps (by assumption) (Fr.keep (by assumption))); (case k2q47 => omega); (case k3q47 => omega); (all_goals intro hp9Z); (all_goals first | (intro a9Z h9Z S9Z; (have F9Z := Fr.keeps (by assumption) S9Z); (have N9Z := News.grown (by assumption) S9Z)) | skip); (all_goals (try dsimp only))))
  trivial
theorem repl_le (z : List Nat) (hz : z.length ≤ 5) (c : Nat) : ∀ l : List Nat, (repl c z l).length ≤ 5 * l.length
  | [] => Nat.le_refl _
  | k :: r => by
    have ih := repl_le z hz c r
    unfold repl at ih ⊢
    rw [List.flatMap_cons, List.length_append, List.length_cons]
    by_cases h : k = c
    · rw [if_pos h]; omega
    · rw [if_neg h]; simp only [List.length_cons, List.length_nil]; omega
theorem repl_len {x : Str} (h : x.length ≤ 8) : (Txt.replace x (Str.ofString "'") (Str.ofString "'\"'\"'")).length ≤ 40 := by
  have e1 : Str.ofString "'" = ⟨#[39]⟩ := by decide +kernel
  have e := replace_codes x (Str.ofString "'\"'\"'") 39
  have e2 := congrArg List.length e
  have h2 := repl_le (Str.ofString "'\"'\"'").cps.toList (by decide +kernel) 39 x.cps.toList
  have h3 : x.cps.toList.length = x.length := by simp [Str.length]
  have h4 : (Txt.replace x ⟨#[39]⟩ (Str.ofString "'\"'\"'")).cps.toList.length = (Txt.replace x ⟨#[39]⟩ (Str.ofString "'\"'\"'")).length := by simp [Str.length]
  rw [e1, ← h4, e2]
  omega
section
variable {prog : Program} {w : World} {p : Program} {loose : List Str} {mean : ExcName → Option Value} {mg mb : Str → Option Value}
  {gd : Option (List Code)} {fr : Option (List Env)} {s : Shared} {Q E : Value → Shared → Prop}
theorem c_quote {x : Str} {t1 : Tok} (X : (hd.heap_1 w.params).In s.heap) (T : Top p loose mean mg mb s.heap) (hlen : x.length ≤ 8)
   (h : ∀ t' h' tk', s.heap.StaysIn h' → Q (.str (qStr x) t') { s with heap := h', toks := tk' }) :
   wpAny (model prog w) (topQ fr gd) (call (.ref 766) [.str x t1]) Q E s := by
  have hr : (Txt.replace x (Str.ofString "'") (Str.ofString "'\"'\"'")).length ≤ 40 := repl_len hlen
  refine wpAny_call ?_
  k_dflt (refine' code_defP ?k1 ?k2 ?kA ?k6 ?k7 ?k8 ?k9 ?_ ?c2 ?c3 ?c4 ?c5; (case k1 => exact X); (case k2 => exact T); (case kA => k_is); (case k6 => k_is); (case k7 => k_room); (case k8 => exact BindsTo.of_eq rfl); (case k9 => exact locs rfl); (case c5 => decide); (case c2 => exact rfl); (case c3 => exact rfl); (case c4 => exact rfl); k_whole)
  intro g' L' h' eg' F' N' X' T'
  (try dsimp only)
  (try k_fold)
  k_steps
  all_goals (try dsimp only)
  · have e := q_plain (by assumption : plainW (cpsOf x) = true)
    rw [e] at h
    exact h _ _ _ (by rw [← eg']; exact Fr.keep (by assumption))
  · have e := q_quoted (by assumption : plainW (cpsOf x) = false)
    rw [e] at h
    exact h _ _ _ (by rw [← eg']; exact Fr.keep (by assumption))
  · have e := q_empty (x := x) (by omega)
    rw [e] at h
    exact h _ _ _ (by rw [← eg']; exact Fr.keep (by assumption))
end
end Mine

namespace Mine
open PySem PySem.W PyProof.Rows PySem.Calls PySem.Spec
theorem kw_48 : True := by
  w_top off
  k_with_none
  trivial
/-- a program of one line: what is known of the top without its defs -/
noncomputable def p0 : Program := { main := { body := [.Import [{ name := Str.ofString "sys", asname := none, pos := ⟨1, 0, 1, 0⟩ }] ⟨1, 0, 1, 0⟩], scope := { kind := .module, names := [], isGenerator := false, isCoroutine := false }, futureAnnotations := false, file := Str.ofString "" }, modules := [], parses := [], absent := [] }
noncomputable def loose0 (p : Program) (loose : List Str) : List Str := loose ++ ((recsOf p).map (·.name) ++ ((litsOf p).map (·.1) ++ (clssOf p loose).map (·.name)))
theorem p0_recs : recsOf p0 = [] := rfl
theorem p0_owns : ownsOf p0 = [] := rfl
theorem p0_none : importsNone p0 = false := by decide +kernel
theorem p0_val (x : Str) : valOf p0 x = none := rfl
theorem top0 {p : Program} {loose : List Str} {mean : ExcName → Option Value} {mg mb : Str → Option Value} {h h₁ : Heap} {c P : Addr} {ps ps' : Array Value} (T : Top p loose mean mg mb h) (B : Based h₁ h c P ps) : Top p0 (loose0 p loose) mean mg mb (regrown h P ps') where
  g := LGe.ns_regrown B T.g
  b := LGe.ns_regrown B T.b
  nolimit := let ⟨mc, h1, h2⟩ := T.nolimit; ⟨mc, LGe.ns_regrown B h1, h2⟩
  nodigits := let ⟨mc, h1, h2⟩ := T.nodigits; ⟨mc, LGe.ns_regrown B h1, h2⟩
  fn := by intro d hd; rw [p0_recs] at hd; cases hd
  own := by intro d hd; rw [p0_owns] at hd; cases hd
  const := by intro x d hd; rw [p0_val] at hd; cases hd
  free := by
    intro x h1 h2 _ _ _
    unfold loose0 at h2
    simp only [List.mem_append, not_or] at h2
    exact T.free x h1 h2.1 h2.2.1 h2.2.2.1 h2.2.2.2
  builtins := T.builtins
  tab := by intro d hd; rw [p0_recs] at hd; cases hd
  bmain := by
    obtain ⟨bm, ob, h1, h2, h3, h4, r⟩ := T.bmain
    refine ⟨bm, ob, h1, h2, ?_, h4, r⟩
    have : bm ≠ P := B.ne_of_cls h3 (by rw [h4]; simp)
    exact (Heap.get?_update_other _ _ (Ne.symm this)).trans h3
  seer := by intro h; rw [p0_none] at h; cases h
theorem sgIn_len (c : Nat) : (sgIn c).length ≤ 5 := by unfold sgIn; by_cases h : c = 39 <;> simp [h]
theorem q_len {x : Str} (h : x.length ≤ 8) : (qStr x).length ≤ 42 := by
  have h1 : (cpsOf x).length ≤ 8 := by simpa [cpsOf, Str.length] using h
  have h2 : (qStr x).length = (sgWord (cpsOf x)).length := by simp [qStr, codes, Str.length]
  have h3 : ∀ l : List Nat, (l.flatMap sgIn).length ≤ 5 * l.length := by
    intro l
    induction l with
    | nil => exact Nat.le_refl _
    | cons c r ih => rw [List.flatMap_cons, List.length_append, List.length_cons]; have := sgIn_len c; omega
  rw [h2, sgWord]
  by_cases hp : plainW (cpsOf x) = true
  · rw [if_pos hp, List.length_map]; omega
  · rw [if_neg hp]; have := h3 (cpsOf x); simp only [List.length_append, List.length_cons, List.length_nil]; omega
theorem q_sum : ∀ {ws : List Str}, (∀ x ∈ ws, x.length ≤ 8) → ((ws.map qStr).map (·.length)).sum ≤ 42 * ws.length
  | [], _ => Nat.le_refl _
  | x :: r, h => by
    have h1 := q_len (h x (.head _))
    have h2 := q_sum (ws := r) fun y hy => h y (.tail _ hy)
    simp only [List.map_cons, List.sum_cons, List.length_cons]
    omega
noncomputable abbrev topJ (fr : Option (List Env)) (gd : Option (List Code)) : Around := { handled := none, depth := 350, frames := fr, guards := gd, units := 150 }
section
variable {prog : Program} {w : World} {p : Program} {loose : List Str} {mean : ExcName → Option Value} {mg mb : Str → Option Value}
  {gd : Option (List Code)} {fr : Option (List Env)} {s : Shared} {Q E : Value → Shared → Prop}
theorem c_join {l P : Addr} {vs : List Value} {ws : List Str} (X : (hd.heap_1 w.params).In s.heap) (T : Top p loose mean mg mb s.heap) (G : AllBare s.gens)
   (hc : s.heap.IsCode 757 P #[]) (ht : s.heap.TableAt 757 P #[]) (hP : P ≠ cStatics) (hK : kb_classed (hd.heap_1 w.params) = true)
   (hl : s.heap.IsList l vs.toArray) (hi : StrsAre vs ws) (hn : ws.length ≤ 8) (hlen : ∀ x ∈ ws, x.length ≤ 8)
   (h : ∀ ps' t' s', AllBare s'.gens → s'.os = s.os → (∀ b o, b ≠ P → s.heap.get? b = some o → s'.heap.get? b = some o) → s'.heap.get? P = some { cls := .none, data := .fields ps' } → Q (.str (lineOf ws) t') s') :
   wpAny (model prog w) (topJ fr gd) (call (.ref 758) [.ref l]) Q E s := by
  refine wpAny_call ?_
  k_dflt (refine' code_defP ?k1 ?k2 ?kA ?k6 ?k7 ?k8 ?k9 ?_ ?c2 ?c3 ?c4 ?c5; (case k1 => exact X); (case k2 => exact T); (case kA => k_is); (case k6 => k_is); (case k7 => k_room); (case k8 => exact BindsTo.of_eq rfl); (case k9 => exact locs rfl); (case c5 => decide); (case c2 => exact rfl); (case c3 => exact rfl); (case c4 => exact rfl); k_whole)
  intro g' L' h' eg' F' N' X' T'
  (try dsimp only)
  (try k_fold)
  have hkp : Hide (StrsAre vs ws ∧ s.heap.IsList l vs.toArray) := ⟨hi, hl⟩
  clear hi hl
  k_steps
  have hgen : ∀ c' C (A' : Around) (E' : Value → Shared → Prop) (a : Str) (t : Tok) (u : Shared) m₂, A'.handled = none → A'.depth ≤ 352 → A'.units ≤ 420 → a ∈ ws → Fr (regrown g' P (#[] ++ #[rawInt 741, rawInt 20, .ref c'])) C u.heap m₂ →
      ∀ {Q' : Value → Shared → Prop}, (∀ t' h' tk', u.heap.StaysIn h' → Q' (.str (qStr a) t') { u with heap := h', toks := tk' }) → wpAny (model prog w) A' (call (.ref 766) [.str a t]) Q' E' u := by
    intro c' C A' E' a t u m₂ h1 h2 h3 ha F₂ Q' hq
    have B₁ : Based g' g' 757 P #[] := by rw [eg']; exact Based.start hc ht hP
    have X₂ : (hd.heap_1 w.params).In (regrown g' P (#[] ++ #[rawInt 741, rawInt 20, .ref c'])) := kb_in_regrown B₁ X' T'.g hK
    have T₂ := top0 (ps' := #[] ++ #[rawInt 741, rawInt 20, .ref c']) T' B₁
    refine wpAny_room (A' := topQ A'.frames A'.guards) ?_ h1 (Nat.le_trans h2 (Nat.le_of_ble_eq_true rfl)) rfl rfl (Nat.le_trans h3 (Nat.le_of_ble_eq_true rfl))
    exact c_quote (X₂.keeps F₂.keep) (T₂.keeps F₂.keep) (hlen a ha) hq
  have B₁ : Based g' g' 757 P #[] := by rw [eg']; exact Based.start hc ht hP
  obtain ⟨bm, ob, M₁⟩ := bmod_of_top T'
  have F1 : Fr g' L' h' (fun y => List.lookup y [(Str.ofString "split_command", Value.ref l)]) := F'
  refine GeneratorExp_strsF (h₁ := g') (h₀ := g') (c := 757) (P := P) (ps := #[]) (L := L') (m := fun y => List.lookup y [(Str.ofString "split_command", Value.ref l)]) (cl := []) (pz := fun _ => true) (d := fun a => .str (qStr a)) B₁ M₁ rfl rfl rfl rfl ?_ (by decide) rfl rfl rfl ?_ ?_ ?_
  · with_unfolding_all rfl
  · exact Nat.le_of_ble_eq_true rfl
  · obtain ⟨hi, hl⟩ := hkp.out
    have hls : g'.IsList l vs.toArray := by rw [eg']; exact hl
    refine ld F1 rfl ?_
    refine ⟨l, vs, ws, L', rfl, is_list_keep hls F1, hi, F1, G, T'.nolimit.keeps F1.keep, Nat.le_refl _, F1.ns.lt, ?_, ?_, ?_⟩
    · intro c' C A' E' a t u m₂ h1 h2 h3 ha F₂ hm hLC hk
      exact wpAny_pure ⟨rfl, _, _, rfl, fun _ _ e => e⟩
    · intro c' C A' E' a t u m₂ h1 h2 h3 ha _ F₂ hm hLC hk
      have X₂ : (hd.heap_1 w.params).In (regrown g' P (#[] ++ #[rawInt 741, rawInt 20, .ref c'])) := kb_in_regrown B₁ X' T'.g hK
      have T₂ := top0 (ps' := #[] ++ #[rawInt 741, rawInt 20, .ref c']) T' B₁
      refine Call_ ?_
      refine Name_function_global rfl rfl (loadGlobal_global (T₂.keeps F₂.keep).g (mg_of X₂ T₂.g (v := .ref 766) (by with_unfolding_all rfl)) ?_) (by decide)
      refine callWith_K (K := hd.heap_1 w.params) X₂ (by k_is) ?_
      refine spliced_more (ldVarG F₂ hm (spliced_none ?_))
      refine ⟨X₂.keeps F₂.keep, ?_⟩
      refine hgen c' C A' E' a t u m₂ h1 (Nat.le_trans h2 (Nat.le_of_ble_eq_true rfl)) (Nat.le_trans h3 (Nat.le_of_ble_eq_true rfl)) ha F₂ ?_
      intro t' h'' tk'' hs
      exact ⟨.str _ _, _, _, rfl, hs⟩
    · intro c' a' s₅ B₅ F₅ G₅ hos hk X₅
      refine spliced_none ?_
      have ef : (ws.filter fun _ => true).map (fun a => qStr a) = ws.map qStr := by rw [List.filter_eq_self.mpr (fun _ _ => rfl)]
      refine join_genSK F₅ G₅ X₅ (Nat.le_refl _) ?_ ?_ (Nat.le_trans hn (by rw [sizeLine_eq]; decide))
      · rw [ef]
        refine joinOk_of_weight (Nat.le_trans (Nat.add_le_add (q_sum hlen) (Nat.le_refl _)) ?_) (by decide +kernel)
        rw [List.length_map]; omega
      · intro s' t' F₆ G₆ hos₆ hk₆
        rw [ef]
        refine h (#[] ++ #[rawInt 741, rawInt 20, .ref c']) t' s' G₆ (hos₆.trans hos) ?_ ?_
        · intro b o hb e
          rw [← eg'] at e
          refine F₆.keep b o ?_
          exact (Heap.get?_update_other _ _ (Ne.symm hb)).trans e
        · refine F₆.keep P _ ?_
          exact Heap.get?_update_self _ (eg' ▸ ht.2) rfl
  · intro _; with_unfolding_all rfl
end
end Mine

namespace Mine
open PySem PySem.W PyProof.Rows PySem.Calls PySem.Spec
theorem kw_49 : True := by
  w_top off
  k_with_none
  trivial
section
variable {prog : Program} {w : World} {p : Program} {loose : List Str} {mean : ExcName → Option Value} {mg mb : Str → Option Value}
  {gd : Option (List Code)} {cn : Str} {cs : Scope} {a : Addr} {ccd : Value} {cl : List (Str × Addr)} {outer : List Env} {A₀ : Around} {base h₀ : Heap} {L : Addr} {m : Str → Option Value}
  {s : Shared} {Q E : Value → Shared → Prop}

theorem c_sign {x : Int} {t1 : Tok} (B : Below A₀ base outer h₀) (F : Fr h₀ L s.heap m) (X : (hd.heap_1 w.params).In h₀) (T : Top p loose mean mg mb h₀) (hk : cs.kind = .function) (hx0 : 0 ≤ x) (hx1 : x < 17793024)
   (h : ∀ (r : Str) t' h' tk', r.length ≤ 1 → NoBs r → Fr h₀ L h' m → s.heap.StaysIn h' → Q (.str r t') { s with heap := h', toks := tk' }) :
   wpAny (model prog w) (ktrTop 490 500 gd cn cs L a ccd cl outer) (call (.ref 773) [.int x t1]) Q E s := by
  have eN0 : News h₀ L s.heap [] := fun _ h => nomatch h
  refine wpAny_call ?_
  k_dflt (refine' code_defS ?k1 ?k2 ?k3 ?k4 ?k5 ?kA ?kF ?kK ?k6 ?k7 ?k8 ?k9 ?kB ?_ ?c2 ?c3 ?c4 ?c5; (case kA => exact rfl); (case kF => exact rfl); (case kK => first | assumption | exact rfl); (case k1 => k_asm); (case k2 => k_asm); (case k3 => k_asm); (case k4 => exact eN0); (case k5 => k_asm); (case k6 => k_is); (case k7 => k_is); (case k8 => k_room); (case k9 => first | exact BindsTo.of_eq rfl | exact binds_K (by k_in) rfl (by k_is) rfl rfl rfl | fail "k_enter: no rule for these arguments"); (case c5 => decide); (case kB => exact locs rfl); (case c2 => exact rfl); (case c3 => exact rfl); (case c4 => exact rfl); k_whole; intro g' L' h' eg' FG' F' N' B' X' T' l1; (try dsimp only); (try k_lift B'); (try k_fold))
  k_steps
  all_goals subst eg'
  all_goals refine h _ _ _ _ ?_ ?_ (by assumption) (by assumption)
  all_goals first
    | exact item_len _ _
    | (refine noBs_item (noBs_of ?_); decide +kernel)
    | exact Nat.le_refl 1
    | exact noBs_char (by assumption) (by have h1 := fmod_lo (x.fdiv 16) (n := 1112064) (by decide); have h2 := fmod_hi (x.fdiv 16) (n := 1112064) (by decide); omega)
    | (refine noBs_of ?_; decide +kernel)
    | (refine getD_all (P := fun r => r.length ≤ 1) ?_ (by decide) _; decide +kernel)
    | (refine getD_all (P := NoBs) ?_ (noBs_of (by decide +kernel)) _; intro r hr; refine noBs_of ?_; revert r; decide +kernel)

theorem c_cram {text : Str} {n : Int} {t1 t2 : Tok} (B : Below A₀ base outer h₀) (F : Fr h₀ L s.heap m) (X : (hd.heap_1 w.params).In h₀) (T : Top p loose mean mg mb h₀) (hk : cs.kind = .function) (hlen : text.length ≤ 4000) (hn : -2 ≤ n) (hn2 : n ≤ 5000)
   (h : ∀ t' h' tk', Fr h₀ L h' m → s.heap.StaysIn h' → Q (.str (cramOf text n) t') { s with heap := h', toks := tk' }) :
   wpAny (model prog w) (ktrTop 490 500 gd cn cs L a ccd cl outer) (call (.ref 51) [.str text t1, .int n t2]) Q E s := by
  have eN0 : News h₀ L s.heap [] := fun _ h => nomatch h
  refine wpAny_call ?_
  k_dflt (refine' code_defS ?k1 ?k2 ?k3 ?k4 ?k5 ?kA ?kF ?kK ?k6 ?k7 ?k8 ?k9 ?kB ?_ ?c2 ?c3 ?c4 ?c5; (case kA => exact rfl); (case kF => exact rfl); (case kK => first | assumption | exact rfl); (case k1 => k_asm); (case k2 => k_asm); (case k3 => k_asm); (case k4 => exact eN0); (case k5 => k_asm); (case k6 => k_is); (case k7 => k_is); (case k8 => k_room); (case k9 => first | exact BindsTo.of_eq rfl | exact binds_K (by k_in) rfl (by k_is) rfl rfl rfl | fail "k_enter: no rule for these arguments"); (case c5 => decide); (case kB => exact locs rfl); (case c2 => exact rfl); (case c3 => exact rfl); (case c4 => exact rfl); k_whole; intro g' L' h' eg' FG' F' N' B' X' T' l1; (try dsimp only); (try k_lift B'); (try k_fold))
  k_steps
  all_goals subst eg'
  · have e : cramOf text n = _ := if_pos (by assumption)
    rw [← e]
    exact h _ _ _ (by assumption) (by assumption)
  · have e : cramOf text n = text := if_neg (by omega)
    simp only [e] at h
    exact h _ _ _ (by assumption) (by assumption)
end
end Mine

namespace Mine
open PySem PySem.W PyProof.Rows PySem.Calls PySem.Spec
theorem kw_50 : True := by
  w_top off
  k_with_none
  trivial
theorem kw_51 : True := by
  k_with "exec For Name Name cons nil" => (k_here; (rename Fr _ _ _ _ => lFZ'); (with_unfolding_all refine' For_invVF lFZ' ?k1q51 ?k2q51 ?_; (case k1q51 => exact rfl); (case k2q51 => exact rfl); k_whole))
  trivial
theorem kw_52 : True := by
  k_with "exec For Name Call cons nil" => (k_here; (rename Fr _ _ _ _ => lFZ'); (with_unfolding_all refine' For_invVF lFZ' ?k1q52 ?k2q52 ?_; (case k1q52 => exact rfl); (case k2q52 => exact rfl); k_whole))
  trivial

theorem kw_53 : True := by
  k_with "setItem ref int" => (k_here; (with_reducible show wpAny _ _ (setItem (Value.ref _) (Value.int _ _) _) _ _ _); k_dflt (refine' setItem_last ?k1q53 ?k2q53 ?k3q53 ?_; (case k1q53 => k_asm); (case k2q53 => k_asm); (case k3q53 => k_upd); k_whole); intro h9Z F9Z N9Z; (try k_sweep); (try dsimp only))
  trivial
theorem kw_54 : True := by
  k_with "call builtin:list.append" => (k_here; (with_reducible show wpAny _ _ (call (Value.builtin _) [Value.ref _, _]) _ _ _); k_dflt (refine' append_L ?k1q54 ?k2q54 ?k3q54 ?k4q54 ?_; (case k1q54 => k_asm); (case k2q54 => k_asm); (case k3q54 => k_upd); (case k4q54 => (simp only [List.length_append, List.length_cons, List.length_nil, sizeLine_eq]; omega)); k_whole); intro h9Z F9Z N9Z; (try k_sweep); (try dsimp only))
  trivial
theorem kw_55 : True := by
  k_with "subscriptTail Name UnaryOp ref int" => (k_here; (with_reducible show wpAny _ _ (subscriptTail _ _ (Value.ref _) (Value.int _ _)) _ _ _); k_dflt (refine' item_last ?k1q55 ?_ ?k3q55; (case k1q55 => is_list); (case k3q55 => with_unfolding_all rfl); k_whole); (try dsimp only))
  trivial

theorem kw_56 : True := by
  k_with "call ref" => (k_here; (with_reducible show wpAny _ _ (call (Value.ref 773) _) _ _ _); k_dflt (refine wpAny_room (A' := ktrTop 490 500 _ _ _ _ _ _ _ _) ?_ rfl (Nat.le_of_ble_eq_true rfl) rfl rfl (Nat.le_of_ble_eq_true rfl); refine' c_sign ?k1q56 ?k2q56 ?k3q56 ?k4q56 ?k5q56 ?k6q56 ?k7q56 ?_; (case k1q56 => k_asm); (case k2q56 => k_asm); (case k3q56 => k_asm); (case k4q56 => k_asm); (case k5q56 => exact rfl); (case k6q56 => omega); (case k7q56 => omega); intro r9Z t9Z h9Z tk9Z hr9Z hb9Z F9Z S9Z; have N9Z := news_stays (by k_asm) S9Z; (try k_sweep); (try dsimp only)))
  trivial
theorem kw_57 : True := by
  k_with "compareOp Eq ref ref" => (k_here; k_dflt (refine' eq_strs (xs := []) ?k1q57 ?k2q57 ?k3q57 StrsAre.nil ?k5q57 (fun _ h => nomatch h) ?k7q57 ?_; (case k1q57 => is_list); (case k2q57 => assumption); (case k3q57 => is_list); (case k5q57 => assumption); (case k7q57 => exact Nat.le_of_ble_eq_true rfl); k_whole); (try simp only [snoc_nil, nil_nil]))
  trivial
/-- the words so far -/
noncomputable def WordsOk (k : Nat) (ws : List Str) : Prop := (0 < k → ws ≠ []) ∧ ws.length ≤ k ∧ (ws.map Str.length).sum ≤ k ∧ ∀ x ∈ ws, NoBs x
noncomputable def jWords (D : Addr) (i : Nat) (news : List (Addr × Obj)) : Prop := ∃ ws us c, news = [(D, W.listOf us.toArray c)] ∧ StrsAre us ws ∧ WordsOk i ws
theorem jWords_new {D : Addr} {i c : Nat} {us : List Value} {ws : List Str} {r : Str} {t : Tok} (hu : StrsAre us ws) (hw : WordsOk i ws) (hr : r.length ≤ 1) (hb : NoBs r) :
    jWords D (i + 1) [(D, W.listOf (us ++ [Value.str (Str.ofString "" ++ r) t]).toArray c)] := by
  refine ⟨ws ++ [Str.ofString "" ++ r], _, c, rfl, kct_snoc hu, by simp, ?_, ?_, ?_⟩
  · have := hw.2.1; simp; omega
  · have := hw.2.2.1
    have e : (Str.ofString "" ++ r).length = r.length := by show (#[] ++ r.cps).size = r.cps.size; simp
    simp only [List.map_append, List.map_cons, List.map_nil, List.sum_append, List.sum_cons, List.sum_nil, e]; omega
  · intro x hx
    rcases List.mem_append.mp hx with q | q
    · exact hw.2.2.2 x q
    · rw [List.mem_singleton.mp q]; exact noBs_append (noBs_of (by decide +kernel)) hb
theorem jWords_app {D : Addr} {i c : Nat} {vi : List Value} {yi : List Str} {y r : Str} {t : Tok} (hu : StrsAre vi yi) (hw : WordsOk i (yi ++ [y])) (hr : r.length ≤ 1) (hb : NoBs r) :
    jWords D (i + 1) [(D, W.listOf (vi ++ [Value.str (y ++ r) t]).toArray c)] := by
  refine ⟨yi ++ [y ++ r], _, c, rfl, kct_snoc hu, by simp, ?_, ?_, ?_⟩
  · have := hw.2.1; simp at this ⊢; omega
  · have := hw.2.2.1
    have e : (y ++ r).length = y.length + r.length := by show (y.cps ++ r.cps).size = _; simp [Str.length]
    simp only [List.map_append, List.map_cons, List.map_nil, List.sum_append, List.sum_cons, List.sum_nil, e] at this ⊢; omega
  · intro x hx
    rcases List.mem_append.mp hx with q | q
    · exact hw.2.2.2 x (List.mem_append_left _ q)
    · rw [List.mem_singleton.mp q]; exact noBs_append (hw.2.2.2 y (List.mem_append_right _ (.head _))) hb
theorem intsAre_at {vs : List Value} {ns : List Int} (hi : IntsAre vs ns) {i : Nat} {v : Value} (h : vs[i]? = some v) : ∃ n t, ns[i]? = some n ∧ v = .int n t := by
  have hlt : i < vs.length := (List.getElem?_eq_some_iff.mp h).1
  rw [hi.length] at hlt
  obtain ⟨t, hx⟩ := hi.get i ns[i] (by simp [hlt])
  rw [h] at hx
  exact ⟨ns[i], t, by simp [hlt], Option.some.inj hx⟩
theorem fresh_ne {h₀ h g h' : Heap} {L L' D : Addr} {o : Obj} {news n2 : List (Addr × Obj)} (N : News h₀ L h news) (st : h.StaysIn g) (N' : News g L' h' n2) (hm : (D, o) ∈ n2) : ∀ q ∈ news, q.1 ≠ D := fun q hq e => by
  have h1 := st _ _ (N q hq).1
  have h2 := (N' _ hm).2.2
  dsimp only at h2
  rw [e, h2] at h1; cases h1
section
variable {prog : Program} {w : World} {p : Program} {loose : List Str} {mean : ExcName → Option Value} {mg mb : Str → Option Value}
  {gd : Option (List Code)} {cn : Str} {cs : Scope} {a : Addr} {ccd : Value} {cl : List (Str × Addr)} {outer : List Env} {A₀ : Around} {base h₀ : Heap} {L : Addr} {m : Str → Option Value}
  {s : Shared} {Q E : Value → Shared → Prop}

theorem c_words {l : Addr} {vs : List Value} {ns : List Int} {news : List (Addr × Obj)} (B : Below A₀ base outer h₀) (F : Fr h₀ L s.heap m) (X : (hd.heap_1 w.params).In h₀) (T : Top p loose mean mg mb h₀) (hk : cs.kind = .function) (N : News h₀ L s.heap news) (hl : s.heap.IsList l vs.toArray) (hi : IntsAre vs ns) (hn : ns.length ≤ 8) (hb : ∀ n ∈ ns, 0 ≤ n ∧ n < 17793024)
   (h : ∀ D us ws c h' tk', StrsAre us ws → WordsOk ns.length ws → (∀ q ∈ news, q.1 ≠ D) → Fr h₀ L h' m → News h₀ L h' ((D, W.listOf us.toArray c) :: news) → s.heap.StaysIn h' → Q (.ref D) { s with heap := h', toks := tk' }) :
   wpAny (model prog w) (ktrTop 330 100 gd cn cs L a ccd cl outer) (call (.ref 780) [.ref l]) Q E s := by
  have hN : News h₀ L s.heap news ∧ True := ⟨N, trivial⟩
  clear N
  have eN0 : News h₀ L s.heap [] := fun _ h => nomatch h
  refine wpAny_call ?_
  k_dflt (refine' code_defS ?k1 ?k2 ?k3 ?k4 ?k5 ?kA ?kF ?kK ?k6 ?k7 ?k8 ?k9 ?kB ?_ ?c2 ?c3 ?c4 ?c5; (case kA => exact rfl); (case kF => exact rfl); (case kK => first | assumption | exact rfl); (case k1 => k_asm); (case k2 => k_asm); (case k3 => k_asm); (case k4 => exact eN0); (case k5 => k_asm); (case k6 => k_is); (case k7 => k_is); (case k8 => k_room); (case k9 => first | exact BindsTo.of_eq rfl | exact binds_K (by k_in) rfl (by k_is) rfl rfl rfl | fail "k_enter: no rule for these arguments"); (case c5 => decide); (case kB => exact locs rfl); (case c2 => exact rfl); (case c3 => exact rfl); (case c4 => exact rfl); k_whole; intro g' L' h' eg' FG' F' N' B' X' T' l1; (try dsimp only); (try k_lift B'); (try k_fold))
  have hkp : IntsAre vs ns ∧ s.heap.IsList l vs.toArray := ⟨hi, hl⟩
  clear hi hl
  repeat' ((fail_if_success (first | (with_reducible show wpAny _ _ (pyIter _) _ _ _) | (with_reducible show wpAny _ _ (exec (Stmt.While _ _ _ _) _) _ _ _) | (with_reducible show wpAny _ _ (execs (Stmt.While _ _ _ _ :: _) _) _ _ _))); (first | (k_unfold; (try dsimp only)) | (k_end; wrow_close) | walk1 | (dsimp only; walk1) | (leave1; try dsimp only) | dsimp only))
  obtain ⟨hi, hl⟩ := hkp
  have hls : g'.IsList l vs.toArray := by rw [eg']; exact hl
  refine iter_list [] (jWords _) rfl (is_list_keep hls (by assumption)) (.inl (by obtain ⟨o, ho, _⟩ := hls; exact ⟨o, ho⟩)) (by assumption) (by assumption) ⟨[], [], 0, rfl, .nil, ⟨by simp, by simp, by simp, by simp⟩⟩ ?_ ?_
  · rintro I i v u news₁ hh tk o hlt hv ⟨ws, us, c, rfl, hus, hws⟩ hne F1 N1
    have hne' : @Ne Nat I _ := (hne _ (.head _)).symm
    obtain ⟨n, t, hni, rfl⟩ := intsAre_at hi hv
    have hb1 := hb n (List.mem_of_getElem? hni)
    have hi8 : i < 8 := by have := (List.getElem?_eq_some_iff.mp hni).1; omega
    have hgd := hws.2.2.2
    clear hb hls hi hl hv h hN
    dsimp only [envOf] at F1 N1 hne'
    simp only [List.contains_nil, Bool.false_eq_true, if_false] at F1
    rcases PyProof.Rows.strs_nil_or_snoc hus with ⟨rfl, rfl⟩ | ⟨vi, yi, y, ty, rfl, rfl, hvi⟩
    · have hl8 := hws.2.1
      repeat' ((fail_if_success (first | (with_reducible show wpAny _ _ (pyIter _) _ _ _) | (with_reducible show wpAny _ _ (exec (Stmt.While _ _ _ _) _) _ _ _) | (with_reducible show wpAny _ _ (execs (Stmt.While _ _ _ _ :: _) _) _ _ _))); (first | (k_unfold; (try dsimp only)) | (k_end; wrow_close) | walk1 | (dsimp only; walk1) | (leave1; try dsimp only) | dsimp only))
      all_goals (
        (rename News _ _ _ _ => nE)
        first
          | refine' TEnd.intro (by assumption) (news_pick2 nE (by k_memK) (by k_memK)) ?_ (jWords_new hus hws (by assumption) (by assumption)) ?_
        · intro p hp; rw [List.mem_singleton.mp hp]; exact Ne.symm hne'
        · intro y h1 h2; exact if_neg h1)
    · have hl8 : vi.length ≤ 8 := by have h1 := hws.2.1; have h2 := hus.length; simp at h1 h2; omega
      have hy8 : y.length ≤ 8 := by have h1 := hws.2.2.1; simp only [List.map_append, List.map_cons, List.map_nil, List.sum_append, List.sum_cons, List.sum_nil] at h1; omega
      repeat' ((fail_if_success (first | (with_reducible show wpAny _ _ (pyIter _) _ _ _) | (with_reducible show wpAny _ _ (exec (Stmt.While _ _ _ _) _) _ _ _) | (with_reducible show wpAny _ _ (execs (Stmt.While _ _ _ _ :: _) _) _ _ _))); (first | (k_unfold; (try dsimp only)) | (k_end; wrow_close) | walk1 | (dsimp only; walk1) | (leave1; try dsimp only) | dsimp only))
      all_goals (
        (rename News _ _ _ _ => nE)
        first
          | refine' TEnd.intro (by assumption) (news_pick2 nE (by k_memK) (by k_memK)) ?_ (jWords_new hus hws (by assumption) (by assumption)) ?_
          | refine' TEnd.intro (by assumption) (news_pick2 nE (by k_memK) (by k_memK)) ?_ (jWords_app hvi hws (by assumption) (by assumption)) ?_
        · intro p hp; rw [List.mem_singleton.mp hp]; exact Ne.symm hne'
        · intro y h1 h2; exact if_neg h1)
  · rintro u news₁ hh tk ⟨ws, us, c, rfl, hus, hws⟩ F1 N1
    repeat' ((fail_if_success (first | (with_reducible show wpAny _ _ (pyIter _) _ _ _) | (with_reducible show wpAny _ _ (exec (Stmt.While _ _ _ _) _) _ _ _) | (with_reducible show wpAny _ _ (execs (Stmt.While _ _ _ _ :: _) _) _ _ _))); (first | (k_unfold; (try dsimp only)) | (k_end; wrow_close) | walk1 | (dsimp only; walk1) | (leave1; try dsimp only) | dsimp only))
    have hfr := fresh_ne hN.1 (show s.heap.StaysIn g' from by rw [eg']; exact fun _ _ e => e) N1 (.head _)
    rw [← hi.length] at h
    refine h _ _ _ c _ _ hus hws hfr (by assumption) ?_ (by subst eg'; assumption)
    intro p hp
    rcases List.mem_cons.mp hp with rfl | hp
    · have kN' := (by assumption : News h₀ L _ [(_, _)])
      exact kN' _ (.head _)
    · exact news_stays hN.1 (by subst eg'; assumption) p hp
end
end Mine

namespace Mine
open PySem PySem.W PyProof.Rows PySem.Calls PySem.Spec
noncomputable def plStr : Pl → Str
  | none => Str.ofString ""
  | some q => ⟨#[q]⟩
noncomputable def tDat : Option Str → Dat
  | none => .none
  | some x => .str x
noncomputable def sgDat (g : Sg) : Dat := .tuple [.str ⟨#[g.1]⟩, .str (plStr g.2.1), tDat g.2.2]
noncomputable abbrev sgDats (l : List Sg) : List Dat := l.map sgDat
noncomputable def unsafeS (a : Str) : Bool := match a.cps.toList with | [c] => !safeC c | _ => true
section
variable {prog : Program} {w : World} {A : Around} {E : Value → Shared → Prop} {s : Shared} {h₀ : Heap} {L C : Addr} {m : Str → Option Value} {news : List (Addr × Obj)} {env : Env}
/-- [sign for sign in word if sign not in safe] -/
theorem comp_unsafe {scope : Scope} {cl : List (Str × Addr)} {p1 p2 p3 p4 p5 pos : Pos} {iter : Expr} {oc : Obj} {st t : Tok} {x : Str} {Q : Value → Shared → Prop} (hh : A.handled = none)
    (F : Fr h₀ L s.heap m) (N : News h₀ L s.heap news) (hclos : closureFor scope env = pure cl) (hm : (C, oc) ∈ news) (hcl : cl.lookup (Str.ofString "safe") = some C) (hoc : oc.data = .cell (some (.str safeStr st)))
    (hcell : ∀ y ∈ scope.names, y.2 ≠ .cell) (hkind : scope.kind = .function)
    (hnames : ∀ y ∈ scope.names, y.2 = .local → scope.names.lookup y.1 = some .local) (hx : scope.names.lookup (Str.ofString "sign") = some .local)
    (hxs : ∀ C', (compEnvC scope cl C' env).kindOf (Str.ofString "sign") = some .local) (hxf : ∀ C', (compEnvC scope cl C' env).kindOf (Str.ofString "safe") = some .cell) (hkf : ∀ C', (compEnvC scope cl C' env).scope.kind = .function)
    (hs : ∀ x, foldedSetIterable iter env x = pure x) (hsz : x.length ≤ 4000)
    (hit : ∀ {Q' : Value → Shared → Prop}, Q' (.str x t) s → wpAny (model prog w) A (eval iter env) Q' E s)
    (h : ∀ D ys n h' tk, StrsAre ys ((signs x).filter unsafeS) → Fr h₀ L h' m → News h₀ L h' ((D, W.listOf ys.toArray n) :: news) → Q (.ref D) { s with heap := h', toks := tk }) :
    wpAny (model prog w) A (eval (.ListComp (.Name (Str.ofString "sign") p1) [⟨.Name (Str.ofString "sign") p2, iter, [.Compare (.Name (Str.ofString "sign") p3) [.NotIn] [.Name (Str.ofString "safe") p4] p5], 0⟩] scope pos) env) Q E s := by
  refine wpAny_ListComp_free (ItemKind.str.lift unsafeS) (fun v r => ∃ a, ItemKind.str.is a v ∧ Carried r (PyData.str a)) hclos hcell hkind hnames hx (hit ?_) hs
  refine wpAny_pyIter_str fun o St W hst => ?_
  have up : ∀ (h' : Heap), (∀ b o', b ∉ [s.heap.objs.size] → (s.heap.push o).get? b = some o' → h'.get? b = some o') → ∀ b o', s.heap.get? b = some o' → h'.get? b = some o' :=
    fun h' hk b o' e => hk b o' (old_not_new e) (Heap.get?_push_of_some _ e)
  refine ⟨s.heap.objs.size, [s.heap.objs.size], [s.heap.objs.size], x.cps.size, SignAt x, St, rfl, W A hh, Nat.le_trans hsz (by rw [sizeLine_eq]; decide), hst, ?_, ⟨?_, ?_⟩, ?_⟩
  · intro b hb
    show b < (s.heap.push o).objs.size
    rw [Heap.size_push, List.mem_singleton.mp hb]
    exact Nat.lt_succ_self _
  · intro C' i v s₃ m₃ E' hC hP hn hm' hk _
    obtain ⟨c, u, _, rfl⟩ := hP
    have ha : ItemKind.str.is ⟨#[c]⟩ (.str ⟨#[c]⟩ u) := ⟨u, rfl⟩
    rw [ItemKind.lift_is ha]
    have hce : s₃.heap.get? C = some oc := up _ hk _ _ (N _ hm).1
    refine wpAny_tests_one (wpAny_isTrue_Compare1 (wpAny_Name (wpAny_loadName_local (hkf C') (hxs C') hn hm' ?_) (by decide)) (by with_unfolding_all rfl))
    refine wpAny_Name (wpAny_loadName_cell (hkf C') (hxf C') hcl ⟨oc, hce, hoc⟩ ?_) (by decide)
    refine notIn_by (b := safeC c) rfl ?_
    refine wpAny_truthy_bool ⟨?_, _, _, rfl, fun _ _ e => e⟩
    rfl
  · intro C' i v s₃ m₃ E' hC hP hp hn hm' hk _
    obtain ⟨c, u, _, rfl⟩ := hP
    refine wpAny_Name (wpAny_loadName_local (hkf C') (hxs C') hn hm' ?_) (by decide)
    exact ⟨⟨⟨#[c]⟩, ⟨u, rfl⟩, .str _ _⟩, _, _, rfl, fun _ _ e => e⟩
  · intro D h' tk ys vs hnew hlD hplD hlen hP hF hk
    obtain ⟨n, hpl⟩ := hplD
    have hcar := (areOf_signs hlen hP).paired unsafeS PyData.str _ hF
    have hsa : StrsAre ys.toList ((signs x).filter unsafeS) := by
      have : ∀ (l : List Str) (us : List Value), CarriedAll us (l.map PyData.str) → StrsAre us l := by
        intro l
        induction l with
        | nil => intro us hu; cases hu; exact .nil
        | cons a r ih =>
          intro us hu
          cases hu with
          | cons h1 h2 =>
            cases h1 with
            | str _ t => exact .cons _ _ (ih _ h2)
      exact this _ _ hcar
    refine h D ys.toList n h' tk hsa (F.keeps (up h' hk)) fun q hq => ?_
    rcases List.mem_cons.mp hq with rfl | hq
    · have hLlt := F.ns.lt
      refine ⟨by rw [Array.toArray_toList]; exact hpl, ?_, ?_⟩
      · intro e
        obtain ⟨oL, _, _, hL, _⟩ := F.ns
        have := Heap.get?_push_of_some o hL
        dsimp only at e
        rw [← e, hnew] at this
        cases this
      · cases e : h₀.get? D with
        | none => rfl
        | some o' => rw [Heap.get?_push_of_some _ (F.keep _ _ e)] at hnew; cases hnew
    · exact (N.grown (up h' hk)) q hq
noncomputable abbrev tupO (vs : List Value) : Obj := { cls := .type "tuple", data := .seq vs.toArray }
/-- one turn of the tuples' block after the other -/
theorem tups_rest {scope : Scope} {cl : List (Str × Addr)} {p1 p2 p3 p4 : Pos} {k kk : Nat} {x : Str} {pre : List (Addr × Obj)} {Fin : List Value → List (Addr × Obj) → Prop}
    (hxs : ∀ C', (compEnvC scope cl C' env).kindOf (Str.ofString "sign") = some .local) (hkf : ∀ C', (compEnvC scope cl C' env).scope.kind = .function)
    (hfin : ∀ ys tl, DatAll tl ys (sgDats ((cpsOf x).map sgSafe)) → (∀ q ∈ tl, ∀ p ∈ pre, p.1 ≠ q.1) → Fin ys (pre ++ tl)) (tl₀ : List (Addr × Obj)) :
    ∀ (j i : Nat) (ys : List Value) (tl : List (Addr × Obj)), i + j = (cpsOf x).length → DatAll tl ys (sgDats (((cpsOf x).take i).map sgSafe)) → (∀ q ∈ tl, ∀ p ∈ pre, p.1 ≠ q.1) →
      LCg.CompRest prog w A h₀ L m env (.Tuple [.Name (Str.ofString "sign") p1, .Constant (.str (Str.ofString "")) k p2, .Name (Str.ofString "sign") p3] kk p4) (Str.ofString "sign") scope cl s (fun _ => True) (SignAt x) Fin j i ys (pre ++ tl) := by
  intro j
  induction j with
  | zero =>
    intro i ys tl hij hd hoff
    refine LCg.CompRest.zero (hfin ys tl ?_ hoff)
    have : (cpsOf x).take i = cpsOf x := List.take_of_length_le (by omega)
    rwa [this] at hd
  | succ j ih =>
    intro i ys tl hij hd hoff
    refine LCg.CompRest.succ ?_
    intro v I oI C' oC D m₂ hp tk E' hP hC hm₂ F N off hne
    obtain ⟨c, u, hc, rfl⟩ := hP
    have hn : hp.Ns C' m₂ := hC.ns (N (C', oC) (by simp)).1
    refine wpAny_Tuple (spliced_more (wpAny_Name (wpAny_loadName_local (s := { s with heap := hp, toks := tk }) (hkf C') (hxs C') hn hm₂ ?_) (by decide)))
    refine spliced_more (wpAny_Constant_str ?_)
    refine spliced_more (wpAny_Name (wpAny_loadName_local (hkf C') (hxs C') hn hm₂ ?_) (by decide))
    refine spliced_none ⟨by rw [sizeLine_eq]; exact Nat.le_of_ble_eq_true rfl, ?_⟩
    have N2 := N.push F (tupO [.str ⟨#[c]⟩ u, .str (Str.ofString "") tk, .str ⟨#[c]⟩ u])
    have hT : ∀ p ∈ (I, oI) :: (C', oC) :: (D, LCg.lst ys) :: (pre ++ tl), p.1 ≠ hp.objs.size := fun p hp' => Nat.ne_of_lt (Heap.lt_size (N p hp').1)
    refine LCg.CompEnd.intro (F.push _) N2 (pre ++ (tl ++ [(hp.objs.size, tupO [.str ⟨#[c]⟩ u, .str (Str.ofString "") tk, .str ⟨#[c]⟩ u])])) ?_ ?_ trivial ?_
    · intro p hp'
      simp only [List.mem_cons, List.mem_append, List.not_mem_nil, or_false] at hp' ⊢
      rcases hp' with e | e | e | e | e | e
      · exact .inr (.inl e)
      · exact .inr (.inr (.inl e))
      · exact .inr (.inr (.inr (.inl e)))
      · exact .inr (.inr (.inr (.inr (.inl e))))
      · exact .inr (.inr (.inr (.inr (.inr e))))
      · exact .inl e
    · refine LCg.Off3.of fun p hp' => ?_
      rw [← List.append_assoc] at hp'
      rcases List.mem_append.mp hp' with e | e
      · exact off.mem p e
      · rw [List.mem_singleton.mp e]
        exact ⟨(hT (I, oI) (by simp)).symm, (hT (C', oC) (by simp)).symm, (hT (D, LCg.lst ys) (by simp)).symm⟩
    · have hci : (cpsOf x)[i]? = some c := by rw [← hc]; simp [cpsOf]
      refine ih (i + 1) _ _ (by omega) ?_ ?_
      · have ht : (cpsOf x).take (i + 1) = (cpsOf x).take i ++ [c] := by rw [List.take_add_one, hci]; rfl
        rw [ht, List.map_append, sgDats, List.map_append]
        refine (DatAll.mono (fun p hp' => List.mem_append_left _ hp') hd).append (.one ?_)
        exact .tuple (n := 0) (List.mem_append_right _ (.head _)) (.cons (.str _ _) (.cons (.str _ _) (.cons (.str _ _) .nil)))
      · intro q hq p hp'
        rcases List.mem_append.mp hq with e | e
        · exact hoff q e p hp'
        · rw [List.mem_singleton.mp e]
          exact hT p (by simp [hp'])
/-- [(sign, '', sign) for sign in word] -/
theorem comp_tups {scope : Scope} {cl : List (Str × Addr)} {p1 p2 p3 p4 p5 pos : Pos} {k kk : Nat} {iter : Expr} {t : Tok} {x : Str} {pre : List (Addr × Obj)} {Q : Value → Shared → Prop} (hh : A.handled = none)
    (F : Fr h₀ L s.heap m) (N : News h₀ L s.heap pre) (hclos : closureFor scope env = pure cl)
    (hcell : ∀ y ∈ scope.names, y.2 ≠ .cell) (hkind : scope.kind = .function)
    (hnames : ∀ y ∈ scope.names, y.2 = .local → scope.names.lookup y.1 = some .local) (hx : scope.names.lookup (Str.ofString "sign") = some .local)
    (hxs : ∀ C', (compEnvC scope cl C' env).kindOf (Str.ofString "sign") = some .local) (hkf : ∀ C', (compEnvC scope cl C' env).scope.kind = .function)
    (hs : ∀ x, foldedSetIterable iter env x = pure x) (hsz : x.length ≤ 4000)
    (hit : ∀ {Q' : Value → Shared → Prop}, Q' (.str x t) s → wpAny (model prog w) A (eval iter env) Q' E s)
    (h : ∀ D ys tl h' tk, DatAll tl ys (sgDats ((cpsOf x).map sgSafe)) → (∀ q ∈ tl, ∀ p ∈ pre, p.1 ≠ q.1) → Fr h₀ L h' m → News h₀ L h' ((D, W.listOf ys.toArray ys.length) :: (pre ++ tl)) → (∀ p ∈ pre ++ tl, p.1 ≠ D) → Q (.ref D) { s with heap := h', toks := tk }) :
    wpAny (model prog w) A (eval (.ListComp (.Tuple [.Name (Str.ofString "sign") p1, .Constant (.str (Str.ofString "")) k p2, .Name (Str.ofString "sign") p3] kk p4) [⟨.Name (Str.ofString "sign") p5, iter, [], 0⟩] scope pos) env) Q E s := by
  have go : ∀ {o₀ : Obj} {St : Nat → Heap → Prop}, (W : Walks prog w A s.heap.objs.size [s.heap.objs.size] [s.heap.objs.size] x.cps.size (SignAt x) St) → (∀ i h, St i h → ∃ o, h.get? s.heap.objs.size = some o) →
      (∀ i h h' o, St i h → h.get? s.heap.objs.size = some o → h'.get? s.heap.objs.size = some o → St i h') → St 0 (s.heap.push o₀) →
      wpAny (model prog w) A (newList []) (fun acc s₃ => wpAny (model prog w) A (newFunctionEnv scope env.globals cl [] env.qual none .none (some env)) (fun cenv s₄ =>
        codeAny (model prog w) A (.compStart (.ListComp (.Tuple [.Name (Str.ofString "sign") p1, .Constant (.str (Str.ofString "")) k p2, .Name (Str.ofString "sign") p3] kk p4) [⟨.Name (Str.ofString "sign") p5, iter, [], 0⟩] scope pos) 0 (.ref s.heap.objs.size) acc { cenv with scope := relabel scope env })
          (fun r s' => compPost (model prog w) A E none Q acc cenv.locals r s') s₄) E s₃) E { s with heap := s.heap.push o₀ } := by
    intro o₀ St W hob hSt hst
    have N₂ : News h₀ L (s.heap.push o₀) pre := N.pushKeep o₀
    have hlen : (cpsOf x).length = x.cps.size := by simp [cpsOf]
    refine LCg.block_U (RR := fun acc C r s' => compPost (model prog w) A E none Q acc C r s') (S := fun _ => True) (news := pre) (Fin := fun ys nw => ∃ tl, nw = pre ++ tl ∧ DatAll tl ys (sgDats ((cpsOf x).map sgSafe)) ∧ ∀ q ∈ tl, ∀ p ∈ pre, p.1 ≠ q.1)
      W (Nat.le_trans hsz (by rw [sizeLine_eq]; decide)) hob (fun i h h' o nw a b c _ _ _ => hSt i h h' o a b c) hcell hkind hx hst ?_ (F.push o₀) N₂ (Nat.ne_of_lt F.ns.lt) (next_is_new F) (fun p hp => Nat.ne_of_lt (Heap.lt_size (N p hp).1)) trivial ?_ ?_
    · intro b hb
      rw [List.mem_singleton.mp hb]
      show s.heap.objs.size < (s.heap.push o₀).objs.size
      rw [Heap.size_push]; exact Nat.lt_succ_self _
    · have := tups_rest (prog := prog) (w := w) (A := A) (h₀ := h₀) (L := L) (m := m) (env := env) (s := { s with heap := s.heap.push o₀ }) (p1 := p1) (p2 := p2) (p3 := p3) (p4 := p4) (k := k) (kk := kk) (x := x) (pre := pre) (scope := scope) (cl := cl)
        (Fin := fun ys nw => ∃ tl, nw = pre ++ tl ∧ DatAll tl ys (sgDats ((cpsOf x).map sgSafe)) ∧ ∀ q ∈ tl, ∀ p ∈ pre, p.1 ≠ q.1) hxs hkf (fun ys tl a b => ⟨tl, rfl, a, b⟩) [] x.cps.size 0 [] [] (by rw [hlen]; omega) (by simp; exact .nil) (fun _ h => nomatch h)
      rwa [List.append_nil] at this
    · rintro D C' h' tk m' ys news' F' N' o1 hn hC₀ hD₀ hCL hDL hCD offC ⟨tl, rfl, hd, hoff⟩
      refine ⟨m', hn, fun h'' hs'' => h D ys tl h'' tk hd hoff (F'.change hs'' hCL hC₀) (fun p hp => ?_) ?_⟩
      · refine ⟨hs''.extBut _ _ ?_ (N' p hp).1, (N' p hp).2⟩
        rcases List.mem_cons.mp hp with rfl | hp
        · exact Ne.symm hCD
        · exact offC p hp
      · have : ∀ (l : List (Addr × Obj)), LCg.Off1 D l → ∀ p ∈ l, p.1 ≠ D := by
          intro l
          induction l with
          | nil => intro _ p hp; cases hp
          | cons a r ih =>
            intro ho p hp
            rcases List.mem_cons.mp hp with rfl | hp
            · exact ho.1
            · exact ih ho.2 p hp
        exact this _ o1
  rw [eval_ListComp]
  refine wpAny_comprehension_free (use := none) rfl hs hclos hkind hnames (hit ?_)
  cases ha : x.cps.all (· < 128)
  · exact wpAny_pyIter_wide ha (go (Walks.strWide hh _ x t) (fun i h st => by obtain ⟨o, ho, _⟩ := st; exact ⟨o, ho⟩) (fun i h h' o st e e' => by obtain ⟨o', q, r⟩ := st; rw [e] at q; cases q; exact ⟨o, e', r⟩) ⟨_, Heap.get?_push_size _ rfl, rfl, rfl⟩)
  · exact wpAny_pyIter_ascii ha (go (Walks.strAscii hh _ x t) (fun i h st => by obtain ⟨o, ho, _⟩ := st; exact ⟨o, ho⟩) (fun i h h' o st e e' => by obtain ⟨o', q, r⟩ := st; rw [e] at q; cases q; exact ⟨o, e', r⟩) ⟨_, Heap.get?_push_size _ rfl, rfl, rfl⟩)
theorem comp_tups3 {scope : Scope} {cl : List (Str × Addr)} {p1 p2 p3 p4 p5 pos : Pos} {k kk : Nat} {iter : Expr} {t : Tok} {x : Str} {I D Ca : Addr} {o oD oc : Obj} {tl : List (Addr × Obj)} {Q : Value → Shared → Prop} (hh : A.handled = none)
    (F : Fr h₀ L s.heap m) (N : News h₀ L s.heap ((I, o) :: (D, oD) :: (Ca, oc) :: tl)) (hclos : closureFor scope env = pure cl)
    (hcell : ∀ y ∈ scope.names, y.2 ≠ .cell) (hkind : scope.kind = .function)
    (hnames : ∀ y ∈ scope.names, y.2 = .local → scope.names.lookup y.1 = some .local) (hx : scope.names.lookup (Str.ofString "sign") = some .local)
    (hxs : ∀ C', (compEnvC scope cl C' env).kindOf (Str.ofString "sign") = some .local) (hkf : ∀ C', (compEnvC scope cl C' env).scope.kind = .function)
    (hs : ∀ x, foldedSetIterable iter env x = pure x) (hsz : x.length ≤ 4000)
    (hit : ∀ {Q' : Value → Shared → Prop}, Q' (.str x t) s → wpAny (model prog w) A (eval iter env) Q' E s)
    (h : ∀ D2 ys tl2 h' tk, DatAll tl2 ys (sgDats ((cpsOf x).map sgSafe)) → (∀ q ∈ tl2, q.1 ≠ I) → (∀ q ∈ tl2, q.1 ≠ D) → (∀ q ∈ tl2, q.1 ≠ Ca) → @Ne Nat D2 I → @Ne Nat D2 D → @Ne Nat D2 Ca → (∀ p ∈ tl ++ tl2, p.1 ≠ D2) → Fr h₀ L h' m →
      News h₀ L h' ((D2, W.listOf ys.toArray ys.length) :: (I, o) :: (D, oD) :: (Ca, oc) :: (tl ++ tl2)) → Q (.ref D2) { s with heap := h', toks := tk }) :
    wpAny (model prog w) A (eval (.ListComp (.Tuple [.Name (Str.ofString "sign") p1, .Constant (.str (Str.ofString "")) k p2, .Name (Str.ofString "sign") p3] kk p4) [⟨.Name (Str.ofString "sign") p5, iter, [], 0⟩] scope pos) env) Q E s :=
  comp_tups hh F N hclos hcell hkind hnames hx hxs hkf hs hsz hit fun D2 ys tl2 h' tk hd ho F' N' hD =>
    h D2 ys tl2 h' tk hd (fun q hq => (ho q hq _ (.head _)).symm) (fun q hq => (ho q hq _ (.tail _ (.head _))).symm) (fun q hq => (ho q hq _ (.tail _ (.tail _ (.head _)))).symm)
      (hD (I, o) (List.mem_append_left _ (.head _))).symm (hD _ (List.mem_append_left _ (.tail _ (.head _)))).symm (hD _ (List.mem_append_left _ (.tail _ (.tail _ (.head _))))).symm
      (fun p hp => hD p (by rcases List.mem_append.mp hp with e | e
                            · exact List.mem_append_left _ (.tail _ (.tail _ (.tail _ e)))
                            · exact List.mem_append_right _ e)) F' N'
end
end Mine

namespace Mine
open PySem PySem.W PyProof.Rows PySem.Calls PySem.Spec
/-- a call of a def with captured locals, no frame of the caller in sight -/
theorem code_defPC {prog : Program} {w : World} {A : Around} {s : Shared} {K : Frag} {mg mb : Str → Option Value} {p : Program} {loose : List Str} {mean : ExcName → Option Value}
    {R : Result → Shared → Prop} {name qual : Str} {params : Arguments} {body : List Stmt} {scope : Scope} {dV kV doc pm cdv ct oc : Value} {an od : Option Addr} {osl : Array (Option Value)} {f : Addr} {args : Args} {binds : List (Str × Value)}
    (X : K.In s.heap) (T : Top p loose mean mg mb s.heap)
    (ho : K.lookup f = some ⟨oc, od, .func (fnOf name qual params body scope dV kV doc pm an cdv ct), osl⟩) (hcd : codeIn K cdv qual = true) (hroom : A.depth < recursionLimit)
    (hbind : BindsTo s (fnOf name qual params body scope dV kV doc pm an cdv ct) args binds) (hkind : (binds.all fun y => scope.names.lookup y.1 == some .local || scope.names.lookup y.1 == some .cell) = true)
    (hnd : ((cellsFrom 0 scope.names []).map (·.1)).Nodup)
    (h : ∀ g L' h₁ tk cells, g = s.heap → Fr g L' h₁ (bindL (envOfC qual scope L' f cdv).kindOf binds fun _ => none) → News g L' h₁ cells →
      CellsAre (bindC (envOfC qual scope L' f cdv).kindOf binds fun _ => none) (cellsFrom (L' + 1) scope.names []) cells → K.In g → Top p loose mean mg mb g →
      wpAny (model prog w) (A.deeper (envOfC qual scope L' f cdv)) (execs body (envOfC qual scope L' f cdv))
        (fun fl s' => R (.ok (.ret (match fl with | .ret v => v | _ => .none))) s')
        (fun e s' => wpAny (model prog w) (A.deeper (envOfC qual scope L' f cdv)) (leaving (envOfC qual scope L' f cdv) e) (fun _ s'' => R (.error e) s'') (fun e' s'' => R (.error e') s'') s')
        { s with heap := h₁, toks := tk })
    (hco : scope.isCoroutine = false) (hgen : scope.isGenerator = false) (hk : scope.kind = .function) : codeAny (model prog w) A (.call (.ref f) args) R s := by
  refine codeAny_call_function (fd := fnX name qual params body scope [] dV kV doc pm an cdv ct) (body := body) hroom (X _ _ ho) rfl hco hgen rfl (codeRec_of X hcd) (hbind _ _ _ _ ?_)
  refine wpAny_newFunctionEnv_cells hk (kindsX hkind _) fun env' he s' x => ?_
  subst he
  refine ⟨T.nolimit.keeps x.toInCall.keep, codeAny_func ?_⟩
  obtain ⟨h₁, tk, rfl, _⟩ := x.done
  have hk₁ := x.toInCall.keep
  obtain ⟨cells, NC, Y⟩ := Cl.news (h₀ := s.heap) (Nat.le_refl _) fun n c hm => ⟨x.cell n c (lookup_of_mem_nodup (cellsFrom_names scope.names 0 (s.heap.objs.size + 1) [] [] rfl ▸ hnd) hm), x.above n c hm⟩
  exact h _ s.heap.objs.size h₁ tk cells rfl ⟨x.toInCall.ns, hk₁, Nat.le_refl _⟩ NC Y X T
/-- the signs so far -/
noncomputable def jLaid (D C : Addr) (oc : Obj) (ws : List Str) (i : Nat) (news : List (Addr × Obj)) : Prop :=
  ∃ us c tl, news = (D, W.listOf us.toArray c) :: (C, oc) :: tl ∧ DatAll tl us (sgDats (laidOf ((ws.take i).map cpsOf))) ∧ (∀ p ∈ tl, p.1 ≠ D) ∧ ∀ p ∈ tl, p.1 ≠ C
/-- behind a statement of the turn -/
noncomputable def StL (g : Heap) (L' I D C : Addr) (o oc : Obj) (m : Str → Option Value) (sg : List Sg) (s s' : Shared) : Prop :=
  ∃ h tk us c tl, s' = { s with heap := h, toks := tk } ∧ Fr g L' h m ∧ News g L' h ((I, o) :: (D, W.listOf us.toArray c) :: (C, oc) :: tl) ∧ DatAll tl us (sgDats sg) ∧ (∀ p ∈ tl, p.1 ≠ D) ∧ (∀ p ∈ tl, p.1 ≠ C) ∧ ∀ p ∈ tl, p.1 ≠ I
theorem StL.intro {g h : Heap} {L' I D C : Addr} {o oc : Obj} {m : Str → Option Value} {sg : List Sg} {s : Shared} {tk : Nat} {us : List Value} {c : Nat} {all tl : List (Addr × Obj)} (F : Fr g L' h m) (N : News g L' h all) (sub : ∀ p ∈ (I, o) :: (D, W.listOf us.toArray c) :: (C, oc) :: tl, p ∈ all)
    (hd : DatAll tl us (sgDats sg)) (h1 : ∀ p ∈ tl, p.1 ≠ D) (h2 : ∀ p ∈ tl, p.1 ≠ C) (h3 : ∀ p ∈ tl, p.1 ≠ I) : StL g L' I D C o oc m sg s { s with heap := h, toks := tk } :=
  ⟨h, tk, us, c, tl, rfl, F, fun p hp => N p (sub p hp), hd, h1, h2, h3⟩
theorem cutL {M : Model} {A : Around} {E : Value → Shared → Prop} {env : Env} {a : Stmt} {b : List Stmt} {Q : Flow → Shared → Prop} {g h : Heap} {L' I D C : Addr} {o oc oD : Obj} {m : Str → Option Value} {s : Shared} {tl : List (Addr × Obj)} (_F : Fr g L' h m) (_N : News g L' h ((I, o) :: (D, oD) :: (C, oc) :: tl)) (sg : List Sg)
    (h1 : wpAny M A (execs [a] env) (fun f s' => f = .next ∧ StL g L' I D C o oc m sg s s') E s) (h2 : ∀ s', StL g L' I D C o oc m sg s s' → wpAny M A (execs b env) Q E s') : wpAny M A (execs (a :: b) env) Q E s :=
  execs_cut (a := [a]) _ h1 h2
theorem news_sub {h₀ h : Heap} {L : Addr} {all l : List (Addr × Obj)} (N : News h₀ L h all) (sub : ∀ p ∈ l, p ∈ all) : News h₀ L h l := fun p hp => N p (sub p hp)
/-- the inner loop -/
noncomputable def jIn (I D C : Addr) (o oc : Obj) (sg2 : List Sg) (x : Str) (j : Nat) (news : List (Addr × Obj)) : Prop :=
  ∃ us c tl, news = (I, o) :: (D, W.listOf us.toArray c) :: (C, oc) :: tl ∧ DatAll tl us (sgDats (sg2 ++ [(39, none, some sE)] ++ ((cpsOf x).take j).flatMap sgIn)) ∧ (∀ p ∈ tl, p.1 ≠ D) ∧ (∀ p ∈ tl, p.1 ≠ C) ∧ ∀ p ∈ tl, p.1 ≠ I
theorem in_len {sg2 : List Sg} {x : Str} {j : Nat} {tl : List (Addr × Obj)} {us : List Value} (h1 : sg2.length ≤ 345) (h2 : x.length ≤ 8) (h : DatAll tl us (sgDats (sg2 ++ [(39, none, some sE)] ++ ((cpsOf x).take j).flatMap sgIn))) : us.length ≤ 400 := by
  have h3 : ∀ l : List Nat, (l.flatMap sgIn).length ≤ 5 * l.length := by
    intro l
    induction l with
    | nil => exact Nat.le_refl _
    | cons c r ih => rw [List.flatMap_cons, List.length_append, List.length_cons]; have := sgIn_len c; omega
  have h4 := h3 ((cpsOf x).take j)
  have h5 : ((cpsOf x).take j).length ≤ 8 := by
    have : (cpsOf x).length = x.length := by simp [cpsOf, Str.length]
    rw [List.length_take]; omega
  rw [h.length, List.length_map]
  simp only [List.length_append, List.length_cons, List.length_nil]
  omega
theorem in_step {x : Str} {j c2 : Nat} {sg2 : List Sg} (h : (cpsOf x)[j]? = some c2) : sgDats (sg2 ++ [(39, none, some sE)] ++ ((cpsOf x).take (j + 1)).flatMap sgIn) = sgDats (sg2 ++ [(39, none, some sE)] ++ ((cpsOf x).take j).flatMap sgIn) ++ sgDats (sgIn c2) := by
  have ht : (cpsOf x).take (j + 1) = (cpsOf x).take j ++ [c2] := by rw [List.take_add_one, h]; rfl
  rw [ht, List.flatMap_append, ← List.append_assoc, sgDats, List.map_append]
  simp
theorem tend_one {g h : Heap} {L' I I2 D C T : Addr} {o o2 oc : Obj} {m₀ m' : Str → Option Value} {sg2 : List Sg} {x : Str} {j c2 : Nat} {t1 t2 t3 : Tok} {s₁ : Shared} {tk : Nat} {us : List Value} {c : Nat} {tl : List (Addr × Obj)}
    (F : Fr g L' h m') (N : News g L' h ((T, tupO [.str ⟨#[c2]⟩ t1, .str (Str.ofString "'") t2, .str ⟨#[c2]⟩ t3]) :: (I2, o2) :: (I, o) :: (D, W.listOf (us ++ [Value.ref T]).toArray c) :: (C, oc) :: tl)) (hus : DatAll tl us (sgDats (sg2 ++ [(39, none, some sE)] ++ ((cpsOf x).take j).flatMap sgIn)))
    (hc : (cpsOf x)[j]? = some c2) (h39 : c2 ≠ 39) (a1 : @Ne Nat T D) (a2 : @Ne Nat T C) (a3 : @Ne Nat T I) (a4 : @Ne Nat T I2) (b1 : @Ne Nat I2 I) (b2 : @Ne Nat I2 D) (b3 : @Ne Nat I2 C) (b4 : ∀ p ∈ tl, p.1 ≠ I2)
    (htD : ∀ p ∈ tl, p.1 ≠ D) (htC : ∀ p ∈ tl, p.1 ≠ C) (htI : ∀ p ∈ tl, p.1 ≠ I) (hm : ∀ y, y ≠ Str.ofString "sign" → ([] : List Str).contains y = false → m' y = m₀ y) :
    TEnd g L' (Str.ofString "sign") [] m₀ I2 o2 (jIn I D C o oc sg2 x (j + 1)) s₁ { s₁ with heap := h, toks := tk } := by
  refine TEnd.intro (news' := (I, o) :: (D, W.listOf (us ++ [Value.ref T]).toArray c) :: (C, oc) :: (T, tupO [.str ⟨#[c2]⟩ t1, .str (Str.ofString "'") t2, .str ⟨#[c2]⟩ t3]) :: tl) F (news_sub N ?_) ?_ ?_ hm
  · exact List.forall_mem_cons.mpr ⟨.tail _ (.head _), List.forall_mem_cons.mpr ⟨.tail _ (.tail _ (.head _)), List.forall_mem_cons.mpr ⟨.tail _ (.tail _ (.tail _ (.head _))), List.forall_mem_cons.mpr ⟨.tail _ (.tail _ (.tail _ (.tail _ (.head _)))), List.forall_mem_cons.mpr ⟨.head _, fun p hp => .tail _ (.tail _ (.tail _ (.tail _ (.tail _ hp))))⟩⟩⟩⟩⟩
  · exact List.forall_mem_cons.mpr ⟨Ne.symm b1, List.forall_mem_cons.mpr ⟨Ne.symm b2, List.forall_mem_cons.mpr ⟨Ne.symm b3, List.forall_mem_cons.mpr ⟨a4, b4⟩⟩⟩⟩
  · refine ⟨_, _, _, rfl, ?_, List.forall_mem_cons.mpr ⟨a1, htD⟩, List.forall_mem_cons.mpr ⟨a2, htC⟩, List.forall_mem_cons.mpr ⟨a3, htI⟩⟩
    rw [in_step hc, sgIn, if_neg h39]
    exact (hus.mono fun p hp => List.mem_cons_of_mem _ hp).append (.one (.tuple (.head _) (.cons (.str _ _) (.cons (.str _ _) (.cons (.str _ _) .nil)))))
theorem tend_five {g h : Heap} {L' I I2 D C T1 T2 T3 T4 T5 : Addr} {o o2 oc : Obj} {m₀ m' : Str → Option Value} {sg2 : List Sg} {x : Str} {j c2 : Nat} {t1 t2 t3 u1 u2 u3 v1 v2 v3 w1 w2 w3 z1 z2 z3 : Tok} {s₁ : Shared} {tk : Nat} {us : List Value} {c : Nat} {tl : List (Addr × Obj)}
    (F : Fr g L' h m') (N : News g L' h ((T5, tupO [.str (Str.ofString "'") z1, .str (Str.ofString "") z2, .str (Str.ofString "") z3]) :: (T4, tupO [.str (Str.ofString "\"") w1, .str (Str.ofString "\"") w2, .str (Str.ofString "") w3]) :: (T3, tupO [.str (Str.ofString "'") v1, .str (Str.ofString "\"") v2, .str (Str.ofString "'") v3]) ::
      (T2, tupO [.str (Str.ofString "\"") u1, .str (Str.ofString "") u2, .str (Str.ofString "") u3]) :: (T1, tupO [.str (Str.ofString "'") t1, .str (Str.ofString "'") t2, .str (Str.ofString "") t3]) :: (I2, o2) :: (I, o) :: (D, W.listOf (us ++ [Value.ref T1, Value.ref T2, Value.ref T3, Value.ref T4, Value.ref T5]).toArray c) :: (C, oc) :: tl)) (hus : DatAll tl us (sgDats (sg2 ++ [(39, none, some sE)] ++ ((cpsOf x).take j).flatMap sgIn)))
    (hc : (cpsOf x)[j]? = some c2) (h39 : c2 = 39) (a1 : @LT.lt Nat _ D T1) (a2 : @LT.lt Nat _ C T1) (a3 : @LT.lt Nat _ I T1) (a4 : @LT.lt Nat _ I2 T1) (c1 : @LT.lt Nat _ T1 T2) (c2' : @LT.lt Nat _ T2 T3) (c3 : @LT.lt Nat _ T3 T4) (c4 : @LT.lt Nat _ T4 T5) (b1 : @Ne Nat I2 I) (b2 : @Ne Nat I2 D) (b3 : @Ne Nat I2 C) (b4 : ∀ p ∈ tl, p.1 ≠ I2)
    (htD : ∀ p ∈ tl, p.1 ≠ D) (htC : ∀ p ∈ tl, p.1 ≠ C) (htI : ∀ p ∈ tl, p.1 ≠ I) (hm : ∀ y, y ≠ Str.ofString "sign" → ([] : List Str).contains y = false → m' y = m₀ y) :
    TEnd g L' (Str.ofString "sign") [] m₀ I2 o2 (jIn I D C o oc sg2 x (j + 1)) s₁ { s₁ with heap := h, toks := tk } := by
  refine TEnd.intro (news' := (I, o) :: (D, W.listOf (us ++ [Value.ref T1, Value.ref T2, Value.ref T3, Value.ref T4, Value.ref T5]).toArray c) :: (C, oc) :: (T5, tupO [.str (Str.ofString "'") z1, .str (Str.ofString "") z2, .str (Str.ofString "") z3]) :: (T4, tupO [.str (Str.ofString "\"") w1, .str (Str.ofString "\"") w2, .str (Str.ofString "") w3]) :: (T3, tupO [.str (Str.ofString "'") v1, .str (Str.ofString "\"") v2, .str (Str.ofString "'") v3]) ::
      (T2, tupO [.str (Str.ofString "\"") u1, .str (Str.ofString "") u2, .str (Str.ofString "") u3]) :: (T1, tupO [.str (Str.ofString "'") t1, .str (Str.ofString "'") t2, .str (Str.ofString "") t3]) :: tl) F (news_sub N ?_) ?_ ?_ hm
  · exact List.forall_mem_cons.mpr ⟨.tail _ (.tail _ (.tail _ (.tail _ (.tail _ (.head _))))), List.forall_mem_cons.mpr ⟨.tail _ (.tail _ (.tail _ (.tail _ (.tail _ (.tail _ (.head _)))))), List.forall_mem_cons.mpr ⟨.tail _ (.tail _ (.tail _ (.tail _ (.tail _ (.tail _ (.tail _ (.head _))))))), List.forall_mem_cons.mpr ⟨.tail _ (.tail _ (.tail _ (.tail _ (.tail _ (.tail _ (.tail _ (.tail _ (.head _)))))))), List.forall_mem_cons.mpr ⟨.head _, List.forall_mem_cons.mpr ⟨.tail _ (.head _), List.forall_mem_cons.mpr ⟨.tail _ (.tail _ (.head _)), List.forall_mem_cons.mpr ⟨.tail _ (.tail _ (.tail _ (.head _))), List.forall_mem_cons.mpr ⟨.tail _ (.tail _ (.tail _ (.tail _ (.head _)))), fun p hp => .tail _ (.tail _ (.tail _ (.tail _ (.tail _ (.tail _ (.tail _ (.tail _ (.tail _ hp))))))))⟩⟩⟩⟩⟩⟩⟩⟩⟩
  all_goals have d3 : @LT.lt Nat _ T1 T3 := Nat.lt_trans c1 c2'
  all_goals have d4 : @LT.lt Nat _ T1 T4 := Nat.lt_trans d3 c3
  all_goals have d5 : @LT.lt Nat _ T1 T5 := Nat.lt_trans d4 c4
  all_goals have five : ∀ (Z : Addr), @LT.lt Nat _ Z T1 → (∀ p ∈ tl, p.1 ≠ Z) → ∀ p ∈ (T5, tupO [.str (Str.ofString "'") z1, .str (Str.ofString "") z2, .str (Str.ofString "") z3]) :: (T4, tupO [.str (Str.ofString "\"") w1, .str (Str.ofString "\"") w2, .str (Str.ofString "") w3]) :: (T3, tupO [.str (Str.ofString "'") v1, .str (Str.ofString "\"") v2, .str (Str.ofString "'") v3]) ::
      (T2, tupO [.str (Str.ofString "\"") u1, .str (Str.ofString "") u2, .str (Str.ofString "") u3]) :: (T1, tupO [.str (Str.ofString "'") t1, .str (Str.ofString "'") t2, .str (Str.ofString "") t3]) :: tl, p.1 ≠ Z := fun Z hZ ht =>
    List.forall_mem_cons.mpr ⟨Nat.ne_of_gt (Nat.lt_trans hZ d5), List.forall_mem_cons.mpr ⟨Nat.ne_of_gt (Nat.lt_trans hZ d4), List.forall_mem_cons.mpr ⟨Nat.ne_of_gt (Nat.lt_trans hZ d3), List.forall_mem_cons.mpr ⟨Nat.ne_of_gt (Nat.lt_trans hZ c1), List.forall_mem_cons.mpr ⟨Nat.ne_of_gt hZ, ht⟩⟩⟩⟩⟩
  · exact List.forall_mem_cons.mpr ⟨Ne.symm b1, List.forall_mem_cons.mpr ⟨Ne.symm b2, List.forall_mem_cons.mpr ⟨Ne.symm b3, five I2 a4 b4⟩⟩⟩
  · refine ⟨_, _, _, rfl, ?_, five D a1 htD, five C a2 htC, five I a3 htI⟩
    rw [in_step hc, sgIn, if_pos h39]
    refine (hus.mono fun p hp => .tail _ (.tail _ (.tail _ (.tail _ (.tail _ hp))))).append ?_
    exact (.cons (.tuple (n := 0) (.tail _ (.tail _ (.tail _ (.tail _ (.head _))))) (.cons (.str _ _) (.cons (.str _ _) (.cons (.str _ _) .nil)))) (.cons (.tuple (n := 0) (.tail _ (.tail _ (.tail _ (.head _)))) (.cons (.str _ _) (.cons (.str _ _) (.cons (.str _ _) .nil)))) (.cons (.tuple (n := 0) (.tail _ (.tail _ (.head _))) (.cons (.str _ _) (.cons (.str _ _) (.cons (.str _ _) .nil)))) (.cons (.tuple (n := 0) (.tail _ (.head _)) (.cons (.str _ _) (.cons (.str _ _) (.cons (.str _ _) .nil)))) (.cons (.tuple (n := 0) (.head _) (.cons (.str _ _) (.cons (.str _ _) (.cons (.str _ _) .nil)))) .nil)))))
theorem tend_last {g h : Heap} {L' I D C T : Addr} {o oc : Obj} {m₀ m' : Str → Option Value} {sg2 : List Sg} {x : Str} {ws : List Str} {i : Nat} {t1 t2 t3 : Tok} {s₁ : Shared} {tk : Nat} {us : List Value} {c : Nat} {tl : List (Addr × Obj)}
    (F : Fr g L' h m') (N : News g L' h ((T, tupO [.str (Str.ofString "'") t1, .str (Str.ofString "'") t2, .str (Str.ofString "") t3]) :: (I, o) :: (D, W.listOf (us ++ [Value.ref T]).toArray c) :: (C, oc) :: tl)) (hus : DatAll tl us (sgDats (sg2 ++ [(39, none, some sE)] ++ ((cpsOf x).take x.cps.size).flatMap sgIn)))
    (hst : laidOf ((ws.take (i + 1)).map cpsOf) = sg2 ++ sgWord (cpsOf x)) (hp : plainW (cpsOf x) = false) (a1 : @Ne Nat T D) (a2 : @Ne Nat T C) (a3 : @Ne Nat T I) (b1 : @Ne Nat I D) (b2 : @Ne Nat I C)
    (htD : ∀ p ∈ tl, p.1 ≠ D) (htC : ∀ p ∈ tl, p.1 ≠ C) (htI : ∀ p ∈ tl, p.1 ≠ I) (hm : ∀ y, y ≠ Str.ofString "word" → ([Str.ofString "sign"] : List Str).contains y = false → m' y = m₀ y) :
    TEnd g L' (Str.ofString "word") [Str.ofString "sign"] m₀ I o (jLaid D C oc ws (i + 1)) s₁ { s₁ with heap := h, toks := tk } := by
  have ht : (cpsOf x).take x.cps.size = cpsOf x := List.take_of_length_le (by simp [cpsOf])
  rw [ht] at hus
  refine TEnd.intro (news' := (D, W.listOf (us ++ [Value.ref T]).toArray c) :: (C, oc) :: (T, tupO [.str (Str.ofString "'") t1, .str (Str.ofString "'") t2, .str (Str.ofString "") t3]) :: tl) F (news_sub N ?_) ?_ ?_ hm
  · exact List.forall_mem_cons.mpr ⟨.tail _ (.head _), List.forall_mem_cons.mpr ⟨.tail _ (.tail _ (.head _)), List.forall_mem_cons.mpr ⟨.tail _ (.tail _ (.tail _ (.head _))), List.forall_mem_cons.mpr ⟨.head _, fun p hp => .tail _ (.tail _ (.tail _ (.tail _ hp)))⟩⟩⟩⟩
  · exact List.forall_mem_cons.mpr ⟨Ne.symm b1, List.forall_mem_cons.mpr ⟨Ne.symm b2, List.forall_mem_cons.mpr ⟨a3, htI⟩⟩⟩
  · refine ⟨_, _, _, rfl, ?_, List.forall_mem_cons.mpr ⟨a1, htD⟩, List.forall_mem_cons.mpr ⟨a2, htC⟩⟩
    rw [hst, sgWord, if_neg (by simp [hp]), ← List.append_assoc, ← List.append_assoc, sgDats, List.map_append]
    exact (hus.mono fun p hp => List.mem_cons_of_mem _ hp).append (.one (.tuple (.head _) (.cons (.str _ _) (.cons (.str _ _) (.cons (.str _ _) .nil)))))
theorem laid_fin {g h : Heap} {L' D C : Addr} {oD oc : Obj} {tl : List (Addr × Obj)} (N : News g L' h ((D, oD) :: (C, oc) :: tl)) : ∀ q ∈ (D, oD) :: tl, h.get? q.1 = some q.2 ∧ g.get? q.1 = none := by
  intro q hq
  have hq' : q ∈ (D, oD) :: (C, oc) :: tl := by
    rcases List.mem_cons.mp hq with e | e
    · rw [e]; exact .head _
    · exact .tail _ (.tail _ e)
  exact ⟨(N q hq').1, (N q hq').2.2⟩
theorem datAll_nil {tl : List (Addr × Obj)} {us : List Value} (h : DatAll tl us []) : us = [] := by cases h; rfl
theorem strsAre_at {vs : List Value} {ws : List Str} (hi : StrsAre vs ws) {i : Nat} {v : Value} (h : vs[i]? = some v) : ∃ x t, ws[i]? = some x ∧ v = .str x t := by
  have hlt : i < vs.length := (List.getElem?_eq_some_iff.mp h).1
  rw [hi.length] at hlt
  obtain ⟨t, hx⟩ := hi.get i ws[i] (by simp [hlt])
  rw [h] at hx
  exact ⟨ws[i], t, by simp [hlt], Option.some.inj hx⟩
theorem strOk_one {c : Nat} (h : c < 1114112) : PyData.strOk ⟨#[c]⟩ = true := by
  unfold PyData.strOk
  rw [Array.all_eq_true']
  intro d hd
  simp only [List.mem_toArray, List.mem_singleton] at hd
  subst hd
  exact decide_eq_true h
theorem sE_ok : PyData.strOk (Str.ofString "") = true := by decide +kernel
noncomputable def SgOk (g : Sg) : Prop := kqdOk 8 (sgDat g) = true
theorem sgOk_of {c : Nat} {pl : Pl} {t : Option Str} (h1 : c < 1114112) (h2 : ∀ q, pl = some q → q < 1114112) (h3 : ∀ x, t = some x → PyData.strOk x = true) : SgOk (c, pl, t) := by
  have a1 := strOk_one h1
  have a2 : PyData.strOk (plStr pl) = true := by
    cases pl with
    | none => exact sE_ok
    | some q => exact strOk_one (h2 q rfl)
  have a3 : kqdOk 7 (tDat t) = true := by
    cases t with
    | none => rfl
    | some x => exact h3 x rfl
  show (kqdOk 7 (.str ⟨#[c]⟩) && (kqdOk 7 (.str (plStr pl)) && (kqdOk 7 (tDat t) && true))) = true
  rw [a3]
  show (PyData.strOk ⟨#[c]⟩ && (PyData.strOk (plStr pl) && true)) = true
  rw [a1, a2]; rfl
theorem sgWord_ok {x : List Nat} (h : ∀ c ∈ x, c < 1114112) : ∀ g ∈ sgWord x, SgOk g := by
  have hs : ∀ c, c < 1114112 → ∀ t, (some (⟨#[c]⟩ : Str)) = some t → PyData.strOk t = true := fun c hc t e => by
    rw [← Option.some.inj e]; exact strOk_one hc
  have he : ∀ t, (some sE) = some t → PyData.strOk t = true := fun t e => by rw [← Option.some.inj e]; exact sE_ok
  have q39 : ∀ q, (some 39 : Pl) = some q → q < 1114112 := fun q e => by rw [← Option.some.inj e]; decide
  have q34 : ∀ q, (some 34 : Pl) = some q → q < 1114112 := fun q e => by rw [← Option.some.inj e]; decide
  have qn : ∀ q, (none : Pl) = some q → q < 1114112 := fun q e => nomatch e
  intro g hg
  unfold sgWord at hg
  split at hg
  · obtain ⟨c, hc, rfl⟩ := List.mem_map.mp hg
    exact sgOk_of (h c hc) qn (hs c (h c hc))
  · simp only [List.mem_append, List.mem_singleton, List.mem_flatMap] at hg
    rcases hg with (rfl | ⟨c, hc, hg⟩) | rfl
    · exact sgOk_of (by decide) qn he
    · unfold sgIn at hg
      split at hg
      · simp only [List.mem_cons, List.not_mem_nil, or_false] at hg
        rcases hg with rfl | rfl | rfl | rfl | rfl
        · exact sgOk_of (by decide) q39 he
        · exact sgOk_of (by decide) qn he
        · exact sgOk_of (by decide) q34 (hs 39 (by decide))
        · exact sgOk_of (by decide) q34 he
        · exact sgOk_of (by decide) qn he
      · rw [List.mem_singleton.mp hg]
        exact sgOk_of (h c hc) q39 (hs c (h c hc))
    · exact sgOk_of (by decide) q39 he
theorem laid_rev {P : Sg → Prop} (hb : P (32, none, none)) : ∀ (r : List (List Nat)), (∀ x ∈ r, ∀ g ∈ sgWord x, P g) → ∀ g ∈ laidOf r.reverse, P g
  | [], _, g, hg => nomatch hg
  | x :: r, h, g, hg => by
    rw [List.reverse_cons, laidOf_snoc] at hg
    unfold laidStep at hg
    have ih := laid_rev hb r fun y hy => h y (.tail _ hy)
    rcases List.mem_append.mp hg with hg | hg
    · split at hg
      · exact ih g hg
      · rcases List.mem_append.mp hg with hg | hg
        · exact ih g hg
        · rw [List.mem_singleton.mp hg]; exact hb
    · exact h x (.head _) g hg
theorem laid_ok {ws : List Str} (h : ∀ x ∈ ws, NoBs x) : ∀ d ∈ sgDats (laidOf (ws.map cpsOf)), kqdOk 8 d = true := by
  intro d hd
  obtain ⟨g, hg, rfl⟩ := List.mem_map.mp hd
  have := laid_rev (P := SgOk) (sgOk_of (by decide) (fun q e => nomatch e) (fun x e => nomatch e)) (ws.map cpsOf).reverse (fun y hy => by
    obtain ⟨x, hx, rfl⟩ := List.mem_map.mp (List.mem_reverse.mp hy)
    refine sgWord_ok fun c hc => (h x hx c ?_).2
    exact Array.mem_toList_iff.mp hc) g
  rw [List.reverse_reverse] at this
  exact this hg
theorem sgWord_len {x : Str} (h : x.length ≤ 8) : (sgWord (cpsOf x)).length ≤ 42 := by
  have := q_len h
  simpa [qStr, codes, Str.length] using this
theorem laid_len_rev : ∀ (r : List Str), (∀ x ∈ r, x.length ≤ 8) → (laidOf (r.reverse.map cpsOf)).length ≤ 43 * r.length
  | [], _ => Nat.le_refl _
  | x :: r, h => by
    have ih := laid_len_rev r fun y hy => h y (.tail _ hy)
    have h1 := sgWord_len (h x (.head _))
    rw [List.reverse_cons, List.map_append, List.map_cons, List.map_nil, laidOf_snoc, laidStep, List.length_append, List.length_cons]
    have : (if laidOf (r.reverse.map cpsOf) = [] then laidOf (r.reverse.map cpsOf) else laidOf (r.reverse.map cpsOf) ++ [(32, none, none)]).length ≤ (laidOf (r.reverse.map cpsOf)).length + 1 := by
      split
      · omega
      · simp
    omega
theorem laid_len {ws : List Str} (h : ∀ x ∈ ws, x.length ≤ 8) : (laidOf (ws.map cpsOf)).length ≤ 43 * ws.length := by
  have := laid_len_rev ws.reverse fun x hx => h x (List.mem_reverse.mp hx)
  rwa [List.reverse_reverse, List.length_reverse] at this
theorem take_step {ws : List Str} {i : Nat} {x : Str} (h : ws[i]? = some x) : laidOf ((ws.take (i + 1)).map cpsOf) = laidStep (laidOf ((ws.take i).map cpsOf)) (cpsOf x) := by
  have ht : ws.take (i + 1) = ws.take i ++ [x] := by rw [List.take_add_one, h]; rfl
  rw [ht, List.map_append, List.map_cons, List.map_nil, laidOf_snoc]
theorem dat_len {tl : List (Addr × Obj)} {ys : List Value} {l : List Nat} (h : DatAll tl ys (sgDats (l.map sgSafe))) : ys.length = l.length := by rw [h.length, List.length_map, List.length_map]
theorem ne_empty {x : Str} (h : 0 < x.length) : (x == Str.ofString "") = false := by
  cases hb : x == Str.ofString "" with
  | false => rfl
  | true => rw [beq_iff_eq.mp hb] at h; exact absurd h (by decide +kernel)
theorem plain_pos {x : Str} (h : plainW (cpsOf x) = true) : 0 < x.length := by
  simp only [plainW, Bool.and_eq_true, Bool.not_eq_true', List.isEmpty_eq_false_iff] at h
  have := List.length_pos_iff.mpr h.1
  simpa [cpsOf, Str.length] using this
theorem filter_plain {x : Str} (h : plainW (cpsOf x) = true) : decide ((signs x).filter unsafeS = []) = true := by
  simp only [plainW, Bool.and_eq_true, List.all_eq_true] at h
  refine decide_eq_true (List.filter_eq_nil_iff.mpr fun a ha => ?_)
  obtain ⟨c, hc, rfl⟩ := List.mem_map.mp ha
  simp [unsafeS, h.2 c hc]
theorem filter_unsafe {x : Str} (h : plainW (cpsOf x) = false) (h0 : 0 < x.length) : decide ((signs x).filter unsafeS = []) = false := by
  refine decide_eq_false fun e => ?_
  have e' := List.filter_eq_nil_iff.mp e
  have : plainW (cpsOf x) = true := by
    simp only [plainW, Bool.and_eq_true, Bool.not_eq_true', List.isEmpty_eq_false_iff, List.all_eq_true]
    refine ⟨?_, fun c hc => ?_⟩
    · apply List.length_pos_iff.mp; simpa [cpsOf, Str.length] using h0
    · have := e' ⟨#[c]⟩ (List.mem_map.mpr ⟨c, hc, rfl⟩)
      simpa [unsafeS] using this
  rw [this] at h; cases h
theorem signs_bs {x : Str} (h : NoBs x) (f : Str → Bool) : ∀ a ∈ (signs x).filter f, NoBs a := by
  intro a ha c hc
  obtain ⟨d, hd, rfl⟩ := List.mem_map.mp (List.mem_filter.mp ha).1
  simp only [List.mem_toArray, List.mem_singleton] at hc
  subst hc
  exact h c (Array.mem_toList_iff.mp hd)
theorem starEach_List (elts : List Expr) (p : Pos) (rest : List Expr) (env : Env) : starEach (.List elts p :: rest) env = (false, eval (.List elts p) env) :: starEach rest env := rfl
theorem starEach_Tuple (elts : List Expr) (k : Nat) (p : Pos) (rest : List Expr) (env : Env) : starEach (.Tuple elts k p :: rest) env = (false, eval (.Tuple elts k p) env) :: starEach rest env := rfl
theorem plain_nil (pos : Pos) (env : Env) : (backTo pos (starEach [] env)).any (·.1) = false := rfl
section
variable {prog : Program} {w : World} {A : Around} {E : Value → Shared → Prop} {s : Shared} {h₀ : Heap} {L D D' El : Addr} {m : Str → Option Value} {rest tl news news' : List (Addr × Obj)} {us : List Value} {c n k : Nat} {ds : List Dat} {Q : Value → Shared → Prop}
theorem ne_nil_t (N : News h₀ L s.heap ((El, W.listOf #[] n) :: rest)) (mD : (D, W.listOf us.toArray c) ∈ rest) (Da : DatAll tl us ds) (sub : ∀ p ∈ tl, p ∈ rest) (ok : ∀ d ∈ ds, kqdOk 8 d = true) (hu : A.units + 64 < cLine) (hne : ds ≠ [])
    (h : News h₀ L s.heap rest → Q (.bool true) s) : wpAny (model prog w) A (compareOp .NotEq (.ref D) (.ref El)) Q E s := by
  refine kqd_ne (es := []) (ys := []) N (List.mem_cons_of_mem _ mD) rfl rfl Da (fun p hp => List.mem_cons_of_mem _ (sub p hp)) (List.mem_cons_self) rfl rfl .nil (fun p hp => hp) ok (fun _ h => nomatch h) hu ?_
  rw [decide_eq_false hne]
  exact h fun p hp => N p (List.mem_cons_of_mem _ hp)
theorem ne_nil_f (N : News h₀ L s.heap ((El, W.listOf #[] n) :: rest)) (mD : (D, W.listOf #[] c) ∈ rest) (hu : A.units + 64 < cLine)
    (h : News h₀ L s.heap rest → Q (.bool false) s) : wpAny (model prog w) A (compareOp .NotEq (.ref D) (.ref El)) Q E s := by
  refine kqd_ne (ds := []) (es := []) (xs := []) (ys := []) N (List.mem_cons_of_mem _ mD) rfl rfl .nil (fun p hp => hp) (List.mem_cons_self) rfl rfl .nil (fun p hp => hp) (fun _ h => nomatch h) (fun _ h => nomatch h) hu ?_
  rw [decide_eq_true rfl]
  exact h fun p hp => N p (List.mem_cons_of_mem _ hp)
theorem eq_nil_b {fs : List Str} {b : Bool} (N : News h₀ L s.heap ((El, W.listOf #[] n) :: (D', W.listOf us.toArray k) :: rest)) (hs : StrsAre us fs) (hb : ∀ x ∈ fs, NoBs x) (hu : A.units + 64 < cLine) (hv : decide (fs = []) = b)
    (h : News h₀ L s.heap rest → Q (.bool b) s) : wpAny (model prog w) A (compareOp .Eq (.ref D') (.ref El)) Q E s := by
  refine eq_strs (xs := []) (us := []) ⟨_, (N _ (.tail _ (.head _))).1, rfl, _, rfl⟩ hs ⟨_, (N _ (.head _)).1, rfl, _, rfl⟩ .nil hb (fun _ h => nomatch h) hu ?_
  rw [hv]
  exact h fun p hp => N p (.tail _ (.tail _ hp))
theorem extend_L {vs : List Value} (F : Fr h₀ L s.heap m) (N : News h₀ L s.heap ((D', W.listOf vs.toArray k) :: news)) (hne : vs.length ≠ 0) (hD : D' ≠ D)
    (U : Upd D (W.listOf us.toArray c) (W.listOf (us ++ vs).toArray (c + 1)) news news') (hsz : us.length + vs.length ≤ 4000)
    (h : ∀ h', Fr h₀ L h' m → News h₀ L h' news' → Q .none { s with heap := h' }) : wpAny (model prog w) A (call (.builtin "list.extend") [.ref D, .ref D']) Q E s := by
  refine kl_extend (its := us.toArray) (its2 := vs.toArray) (l := us ++ vs) F N (List.mem_cons_self) rfl hne (.tail hD U) ?_ ?_ ?_ fun h' F' N' => h h' F' fun p hp => N' p (.tail _ hp)
  · intro e
    rw [Bool.and_eq_true] at e
    have h1 := e.2
    simp only [Builtin.List.listTooLong, decide_eq_true_eq, List.size_toArray] at h1
    rw [sizeLine_eq] at h1
    omega
  · show us.length ≤ sizeLine; rw [sizeLine_eq]; omega
  · show us.toArray.size + vs.toArray.size ≤ sizeLine + 1; rw [sizeLine_eq, List.size_toArray, List.size_toArray]; omega
theorem ne_by {x y : Str} {u t : Tok} {b : Bool} (hb : (x == y) = b) (h : Q (.bool (!b)) s) : wpAny (model prog w) A (compareOp .NotEq (.str x u) (.str y t)) Q E s :=
  PyProof.Rows.ne_str (by rw [bne, hb]; exact h)
end
theorem kw_58 : True := by
  w_top off
  k_with_none
  trivial
theorem kw_59 : True := by
  k_with "exec For Name Name cons nil" => (k_here; (rename Fr _ _ _ _ => lFZ'); (with_unfolding_all refine' For_invVF lFZ' ?k1q59 ?k2q59 ?_; (case k1q59 => exact rfl); (case k2q59 => exact rfl); k_whole))
  trivial
theorem kw_60 : True := by
  k_with "exec For Name Call cons nil" => (k_here; (rename Fr _ _ _ _ => lFZ'); (with_unfolding_all refine' For_invVF lFZ' ?k1q60 ?k2q60 ?_; (case k1q60 => exact rfl); (case k2q60 => exact rfl); k_whole))
  trivial

theorem kw_61 : True := by
  k_with "setItem ref int" => (k_here; (with_reducible show wpAny _ _ (setItem (Value.ref _) (Value.int _ _) _) _ _ _); k_dflt (refine' setItem_last ?k1q61 ?k2q61 ?k3q61 ?_; (case k1q61 => k_asm); (case k2q61 => k_asm); (case k3q61 => k_upd); k_whole); intro h9Z F9Z N9Z; (try k_sweep); (try dsimp only))
  trivial
theorem kw_62 : True := by
  k_with "call builtin:list.append" => (k_here; (with_reducible show wpAny _ _ (call (Value.builtin _) [Value.ref _, _]) _ _ _); k_dflt (refine' append_L ?k1q62 ?k2q62 ?k3q62 ?k4q62 ?_; (case k1q62 => k_asm); (case k2q62 => k_asm); (case k3q62 => k_upd); (case k4q62 => (simp only [List.length_append, List.length_cons, List.length_nil, sizeLine_eq]; omega)); k_whole); intro h9Z F9Z N9Z; (try k_sweep); (try dsimp only))
  trivial
theorem kw_63 : True := by
  k_with "subscriptTail Name UnaryOp ref int" => (k_here; (with_reducible show wpAny _ _ (subscriptTail _ _ (Value.ref _) (Value.int _ _)) _ _ _); k_dflt (refine' item_last ?k1q63 ?_ ?k3q63; (case k1q63 => is_list); (case k3q63 => with_unfolding_all rfl); k_whole); (try dsimp only))
  trivial

theorem kw_64 : True := by
  k_with "callWith" => (k_here; (try dsimp only); (with_reducible show wpAny _ _ (callWith _ _ _ (backTo _ (starEach [Expr.List _ _] _)) []) _ _ _); (with_reducible refine callWith_method1 ?_ (starEach_List _ _ _ _) (plain_nil _ _)))
  trivial
theorem kw_65 : True := by
  k_with "spliced" => (k_here; (with_reducible show wpAny _ _ (spliced (backTo _ (starEach (Expr.List _ _ :: _) _))) _ _ _); (with_reducible refine spliced_more ?_ (starEach_List _ _ _ _)))
  trivial
theorem kw_66 : True := by
  k_with "spliced" => (k_here; (with_reducible show wpAny _ _ (spliced (backTo _ (starEach (Expr.Tuple _ _ _ :: _) _))) _ _ _); (with_reducible refine spliced_more ?_ (starEach_Tuple _ _ _ _ _)))
  trivial
theorem kw_67 : True := by
  k_with "eval List" => (k_here; (with_reducible refine List_ ?_))
  trivial
theorem kw_68 : True := by
  k_with "all" => (first | assumption | exact List.forall_mem_append.mpr ⟨by assumption, by assumption⟩)
  trivial
theorem kw_69 : True := by
  k_with "compareOp NotEq ref ref" => (k_here; k_dflt (first | (refine' ne_nil_t ?Nq69 ?mDq69 ?Daq69 ?subq69 ?okq69 ?huq69 ?hneq69 ?_; (case Nq69 => k_asm); (case mDq69 => k_memK); (case Daq69 => with_reducible assumption); (case subq69 => kqd_sub); (case okq69 => assumption); (case huq69 => exact Nat.le_of_ble_eq_true rfl); (case hneq69 => assumption)) | (refine' ne_nil_f ?Nq69 ?mDq69 ?huq69 ?_; (case Nq69 => k_asm); (case mDq69 => k_memK); (case huq69 => exact Nat.le_of_ble_eq_true rfl))); intro N9Z)
  trivial
theorem kw_70 : True := by
  k_with "compareOp NotEq str str" => (k_here; k_dflt (first | (refine ne_by (by with_reducible assumption) ?_) | (refine ne_by (b := true) (by decide +kernel) ?_) | (refine ne_by (b := false) (by decide +kernel) ?_)); (try dsimp only [Bool.not_true, Bool.not_false]))
  trivial
theorem kw_71 : True := by
  k_with "compareOp Eq str str" => (k_here; k_dflt (first | (refine eq_by (by with_reducible assumption) ?_) | (refine eq_by (b := true) (by decide +kernel) ?_) | (refine eq_by (b := false) (by decide +kernel) ?_)))
  trivial
theorem kw_72 : True := by
  k_with "eval ListComp" => (k_here; (with_reducible show wpAny _ _ (eval (Expr.ListComp (Expr.Name _ _) _ _ _) _) _ _ _); k_dflt (refine' comp_unsafe rfl ?Fq72 ?Nq72 ?clq72 ?mq72 ?lkq72 ?ocq72 ?c1q72 ?c2q72 ?c3q72 ?c4q72 ?c5q72 ?c6q72 ?c7q72 ?c8q72 ?c9q72 ?itq72 ?_; (case Fq72 => k_asm); (case Nq72 => k_asm); (case clq72 => with_unfolding_all rfl); (case lkq72 => rfl); (case mq72 => k_memK); (case ocq72 => assumption); (case c1q72 => decide); (case c2q72 => rfl); (case c3q72 => decide); (case c4q72 => rfl); (case c5q72 => exact fun _ => rfl); (case c6q72 => exact fun _ => rfl); (case c7q72 => exact fun _ => rfl); (case c8q72 => (intro _; with_unfolding_all rfl)); (case itq72 => (intro Q9Z h9Z; exact nameX_L (by assumption) rfl h9Z)); (case c9q72 => omega); intro D9Z ys9Z n9Z h9Z tk9Z hs9Z F9Z N9Z; (try k_sweep); (try dsimp only)))
  trivial
theorem kw_73 : True := by
  k_with "eval ListComp" => (k_here; (with_reducible show wpAny _ _ (eval (Expr.ListComp (Expr.Tuple _ _ _) _ _ _) _) _ _ _); k_dflt (refine' comp_tups3 rfl ?Fq73 ?Nq73 ?clq73 ?c1q73 ?c2q73 ?c3q73 ?c4q73 ?c5q73 ?c7q73 ?c8q73 ?c9q73 ?itq73 ?_; (case Fq73 => k_asm); (case Nq73 => k_asm); (case clq73 => with_unfolding_all rfl); (case c1q73 => decide); (case c2q73 => rfl); (case c3q73 => decide); (case c4q73 => rfl); (case c5q73 => exact fun _ => rfl); (case c7q73 => exact fun _ => rfl); (case c8q73 => (intro _; with_unfolding_all rfl)); (case itq73 => (intro Q9Z h9Z; exact nameX_L (by assumption) rfl h9Z)); (case c9q73 => omega); intro D9Z ys9Z tl9Z h9Z tk9Z hd9Z ho9Z hp9Z hq9Z e9Z e8Z e7Z hD9Z F9Z N9Z; (have hl9Z := dat_len hd9Z); (try k_sweep); (try dsimp only)))
  trivial
theorem kw_74 : True := by
  k_with "compareOp Eq ref ref" => (k_here; k_dflt (refine' eq_nil_b ?Nq74 ?hsq74 ?hbq74 ?huq74 ?hvq74 ?_; (case Nq74 => k_asm); (case hsq74 => with_reducible assumption); (case hbq74 => assumption); (case huq74 => exact Nat.le_of_ble_eq_true rfl); (case hvq74 => assumption)); intro N9Z)
  trivial
theorem kw_75 : True := by
  k_with "call builtin:list.extend" => (k_here; (with_reducible show wpAny _ _ (call (Value.builtin _) [Value.ref _, Value.ref _]) _ _ _); k_dflt (refine' extend_L ?Fq75 ?Nq75 ?neq75 ?hDq75 ?Uq75 ?zq75 ?_; (case Fq75 => k_asm); (case Nq75 => k_asm); (case Uq75 => k_upd); (case neq75 => first | exact Nat.succ_ne_zero _ | assumption | omega); (case hDq75 => k_ne); (case zq75 => first | omega | (simp only [List.length_append, List.length_cons, List.length_nil]; omega))); intro h9Z F9Z N9Z; (try k_sweep); (try dsimp only))
  trivial
section
variable {prog : Program} {w : World} {p : Program} {loose : List Str} {mean : ExcName → Option Value} {mg mb : Str → Option Value}
  {gd : Option (List Code)} {fr : Option (List Env)} {s : Shared} {Q E : Value → Shared → Prop}
theorem c_laid {l : Addr} {vs : List Value} {ws : List Str} (X : (hd.heap_1 w.params).In s.heap) (T : Top p loose mean mg mb s.heap) (hl : s.heap.IsList l vs.toArray) (hi : StrsAre vs ws) (hn : ws.length ≤ 8) (hlen : ∀ x ∈ ws, x.length ≤ 8) (hbs : ∀ x ∈ ws, NoBs x)
   (h : ∀ D us c tl h' tk', DatAll tl us (sgDats (laidOf (ws.map cpsOf))) → s.heap.StaysIn h' → (∀ q ∈ (D, W.listOf us.toArray c) :: tl, h'.get? q.1 = some q.2 ∧ s.heap.get? q.1 = none) → (∀ p ∈ tl, p.1 ≠ D) → Q (.ref D) { s with heap := h', toks := tk' }) :
   wpAny (model prog w) (topQ fr gd) (call (.ref 785) [.ref l]) Q E s := by
  refine wpAny_call ?_
  k_dflt (refine' code_defPC ?k1 ?k2 ?kA ?k6 ?k7 ?k8 ?k9 ?ka ?_ ?c2 ?c3 ?c4; (case k1 => exact X); (case k2 => exact T); (case kA => k_is); (case k6 => k_is); (case k7 => k_room); (case k8 => exact BindsTo.of_eq rfl); (case k9 => exact rfl); (case ka => decide); (case c2 => exact rfl); (case c3 => exact rfl); (case c4 => exact rfl); k_whole)
  intro g' L' h' tk' cells' eg' F' N' Y' X' T'
  obtain ⟨oc', rfl, hoc'⟩ := CellsAre.one Y'
  clear Y'
  (try dsimp only)
  (try k_fold)
  have hkp : Hide (StrsAre vs ws ∧ s.heap.IsList l vs.toArray) := ⟨hi, hl⟩
  clear hi hl
  repeat' ((fail_if_success (first | (with_reducible show wpAny _ _ (pyIter _) _ _ _) | (with_reducible show wpAny _ _ (exec (Stmt.While _ _ _ _) _) _ _ _) | (with_reducible show wpAny _ _ (execs (Stmt.While _ _ _ _ :: _) _) _ _ _))); (first | (k_unfold; (try dsimp only)) | (k_end; wrow_close) | walk1 | (dsimp only; walk1) | (leave1; try dsimp only) | dsimp only))
  obtain ⟨hi, hl⟩ := hkp.out
  have hls : g'.IsList l vs.toArray := by rw [eg']; exact hl
  refine iter_list [Str.ofString "sign"] (jLaid _ _ _ ws) rfl (is_list_keep hls (by assumption)) (.inl (by obtain ⟨o, ho, _⟩ := hls; exact ⟨o, ho⟩)) (by assumption) (by assumption) ⟨[], 0, [], rfl, .nil, by simp, by simp⟩ ?_ ?_
  · rintro I i v u news₁ hh tk o hlt hv ⟨us, c, tl, rfl, hus, htD, htC⟩ hne F1 N1
    have hne' : @Ne Nat I _ := (hne _ (.head _)).symm
    have hneC : @Ne Nat I _ := (hne _ (.tail _ (.head _))).symm
    have hneT : ∀ p ∈ tl, p.1 ≠ I := fun p hp => hne _ (.tail _ (.tail _ hp))
    obtain ⟨x, t, hni, rfl⟩ := strsAre_at hi hv
    have hx8 := hlen x (List.mem_of_getElem? hni)
    have hxb := hbs x (List.mem_of_getElem? hni)
    have hok := laid_ok (ws := ws.take i) fun y hy => hbs y (List.mem_of_mem_take hy)
    have hln := laid_len (ws := ws.take i) fun y hy => hlen y (List.mem_of_mem_take hy)
    have hstep := take_step hni
    generalize hsg : laidOf ((ws.take i).map cpsOf) = sg at hus hok hln hstep
    have hul : us.length = sg.length := by rw [hus.length, List.length_map]
    have hsl : sg.length ≤ 344 := by have : (ws.take i).length ≤ 8 := by rw [List.length_take]; omega
                                     omega
    clear hls hi hl hv hlen hbs hne hni hsg
    dsimp only [envOf] at F1 N1 hne' hneC
    refine cutL F1 N1 (if sg = [] then sg else sg ++ [(32, none, none)]) ?_ ?_
    · by_cases hz : sg = []
      · subst hz
        have := datAll_nil hus
        subst this
        k_steps
        refine StL.intro (tl := tl) (by k_asm) (by k_asm) (by kqd_sub) (by simpa using hus) htD htC hneT
      · have hne : sgDats sg ≠ [] := fun e => hz (List.map_eq_nil_iff.mp e)
        k_steps
        refine' StL.intro (us := us ++ [Value.ref _]) (tl := (_, tupO _) :: tl) (by k_asm) (by k_asm) ?sub ?hd ?x1 ?x2 ?x3
        (case sub => kqd_sub)
        · rw [if_neg hz, sgDats, List.map_append]
          exact (hus.mono fun p hp => List.mem_cons_of_mem _ hp).append (.one (.tuple (.head _) (.cons (.str _ _) (.cons (.str _ _) (.cons .none .nil)))))
        · exact List.forall_mem_cons.mpr ⟨by k_ne, htD⟩
        · exact List.forall_mem_cons.mpr ⟨by k_ne, htC⟩
        · exact List.forall_mem_cons.mpr ⟨by k_ne, hneT⟩
    · have hs2 : (if sg = [] then sg else sg ++ [((32, none, none) : Sg)]).length ≤ 345 := by
        split
        · omega
        · simp; omega
      have hst2 : laidOf ((ws.take (i + 1)).map cpsOf) = (if sg = [] then sg else sg ++ [((32, none, none) : Sg)]) ++ sgWord (cpsOf x) := hstep
      generalize (if sg = [] then sg else sg ++ [((32, none, none) : Sg)]) = sg2 at hs2 hst2
      clear hus hok hln hstep hul hsl F1 N1 htD htC hneT
      clear us c tl
      rintro s' ⟨h₂, tk₂, us, c, tl, rfl, F2, N2, hus, htD, htC, hneT⟩
      have hul : us.length = sg2.length := by rw [hus.length, List.length_map]
      have hxc : (cpsOf x).length = x.length := by simp [cpsOf, Str.length]
      dsimp only at F2 N2 ⊢
      cases hp : plainW (cpsOf x) with
      | true =>
        have hx0 := plain_pos hp
        have hxe := ne_empty hx0
        have hfl := filter_plain hp
        have hfb := signs_bs hxb unsafeS
        k_steps
        show TEnd _ _ _ _ _ _ _ _ _ _
        refine' TEnd.intro (news' := (_, W.listOf (us ++ _).toArray _) :: (_, _) :: (tl ++ _)) (by k_asm) ?N ?hI ?hj ?hm
        (case N => k_asm)
        · exact List.forall_mem_cons.mpr ⟨by k_ne, List.forall_mem_cons.mpr ⟨by k_ne, by k_all⟩⟩
        · refine ⟨_, _, _, rfl, ?_, by k_all, by k_all⟩
          rw [hst2, sgWord, if_pos hp, sgDats, List.map_append]
          exact (hus.mono fun p hp => List.mem_append_left _ hp).append (DatAll.mono (fun p hp => List.mem_append_right _ hp) (by assumption))
        · intro y h1 h2
          rw [if_neg h1, if_neg (by rw [h2]; exact Bool.false_ne_true)]
      | false =>
        refine cutL F2 N2 sg2 ?_ ?_
        · by_cases hx0 : 0 < x.length
          · have hxe := ne_empty hx0
            have hfl := filter_unsafe hp hx0
            have hfb := signs_bs hxb unsafeS
            k_steps
            exact StL.intro (tl := tl) (by k_asm) (by k_asm) (by kqd_sub) hus htD htC hneT
          · have hxz : x = Str.ofString "" := str_ext (List.length_eq_zero_iff.mp (by omega))
            subst hxz
            k_steps
            exact StL.intro (tl := tl) (by k_asm) (by k_asm) (by kqd_sub) hus htD htC hneT
        · clear hus htD htC hneT hul F2 N2
          clear us c tl
          rintro s' ⟨h₃, tk₃, us, c, tl, rfl, F2, N2, hus, htD, htC, hneT⟩
          have hul : us.length = sg2.length := by rw [hus.length, List.length_map]
          dsimp only at F2 N2 ⊢
          repeat' ((fail_if_success (first | (with_reducible show wpAny _ _ (pyIter _) _ _ _) | (with_reducible show wpAny _ _ (exec (Stmt.While _ _ _ _) _) _ _ _) | (with_reducible show wpAny _ _ (execs (Stmt.While _ _ _ _ :: _) _) _ _ _))); (first | (k_unfold; (try dsimp only)) | (k_end; wrow_close) | walk1 | (dsimp only; walk1) | (leave1; try dsimp only) | dsimp only))
          refine' iter_str [] (jIn I _ (L' + 1) o _ sg2 x) rfl (by k_asm) (news_sub (by k_asm) ?sub2) ⟨us ++ [_], _, (_, tupO _) :: tl, rfl, ?hd2, ?y1, ?y2, ?y3⟩ ?turn2 ?done2
          (case sub2 => kqd_sub)
          · rw [List.take_zero, List.flatMap_nil, List.append_nil, sgDats, List.map_append]
            exact (hus.mono fun p hp => List.mem_cons_of_mem _ hp).append (.one (.tuple (.head _) (.cons (.str _ _) (.cons (.str _ _) (.cons (.str _ _) .nil)))))
          · exact List.forall_mem_cons.mpr ⟨by k_ne, htD⟩
          · exact List.forall_mem_cons.mpr ⟨by k_ne, htC⟩
          · exact List.forall_mem_cons.mpr ⟨by k_ne, hneT⟩
          · clear hus htD htC hneT hul
            rintro I2 j c2 tc u2 news₂ hh2 tk2 o2 hlt2 hc2 ⟨us', c', tl', rfl, hus, htD, htC, hneT⟩ hne2 F2 N2
            have b1 : @Ne Nat I2 _ := (hne2 _ (.head _)).symm
            have b2 : @Ne Nat I2 _ := (hne2 _ (.tail _ (.head _))).symm
            have b3 : @Ne Nat I2 _ := (hne2 _ (.tail _ (.tail _ (.head _)))).symm
            have b4 : ∀ p ∈ tl', p.1 ≠ I2 := fun p hp => hne2 _ (.tail _ (.tail _ (.tail _ hp)))
            have hul : us'.length ≤ 400 := in_len hs2 hx8 hus
            have hcj : (cpsOf x)[j]? = some c2 := by rw [← hc2]; simp [cpsOf]
            clear hlt hlt2 hne2 hc2
            dsimp only at F2 N2 b1 b2 b3
            by_cases h39 : c2 = 39
            · have hce : ((⟨#[c2]⟩ : Str) == Str.ofString "'") = true := by rw [h39]; decide +kernel
              k_steps
              show TEnd _ _ _ _ _ _ _ _ _ _
              refine tend_five (by k_asm) (by k_asm) hus hcj h39 ?_ ?_ ?_ ?_ ?_ ?_ ?_ ?_ b1 b2 b3 b4 htD htC hneT (fun y h1 _ => if_neg h1) <;> omega
            · have hce : ((⟨#[c2]⟩ : Str) == Str.ofString "'") = false := by rw [show Str.ofString "'" = ⟨#[39]⟩ from by decide +kernel, eq_char]; exact decide_eq_false h39
              k_steps
              show TEnd _ _ _ _ _ _ _ _ _ _
              refine tend_one (by k_asm) (by k_asm) hus hcj h39 ?_ ?_ ?_ ?_ b1 b2 b3 b4 htD htC hneT (fun y h1 _ => if_neg h1) <;> omega
          · clear hus htD htC hneT hul
            rintro u2 news₂ hh2 tk2 ⟨us', c', tl', rfl, hus, htD, htC, hneT⟩ F2 N2
            have hul : us'.length ≤ 400 := in_len hs2 hx8 hus
            clear hlt
            (try dsimp only at F2 N2)
            k_steps
            show TEnd _ _ _ _ _ _ _ _ _ _
            refine tend_last (by k_asm) (by k_asm) hus hst2 hp ?_ ?_ ?_ hne' hneC htD htC hneT ?_
            · omega
            · omega
            · omega
            · intro y h1 h2
              have h3 : y ≠ Str.ofString "sign" := fun e => by rw [e] at h2; simp at h2
              rw [if_neg h3, if_neg (by simp), if_neg h1, if_neg (by rw [h2]; exact Bool.false_ne_true)]
  · rintro u news₁ hh tk ⟨us, c, tl, rfl, hus, htD, htC⟩ F1 N1
    dsimp only at F1 N1
    k_steps
    rw [hi.length, List.take_length] at hus
    refine h _ us c tl _ _ hus (by rw [← eg']; exact F1.keep) ?_ htD
    rw [← eg']
    exact laid_fin N1
end
end Mine

namespace Mine
open PySem PySem.W PyProof.Rows PySem.Calls PySem.Spec
/- nofill -/
section
variable {prog : Program} {w : World} {A : Around} {E : Value → Shared → Prop} {s : Shared} {env : Env} {h₀ : Heap} {body : List Stmt} {Q : Flow → Shared → Prop}
/-- the end of a turn whose target is a tuple of names -/
noncomputable def TEndT (h₀ : Heap) (L : Addr) (stored : List Str) (m₀ : Str → Option Value) (I : Addr) (o : Obj) (Jn : List (Addr × Obj) → Prop) (s₁ : Shared) (f : Flow) (s₂ : Shared) : Prop :=
  f = .next ∧ ∃ h' tk m' news', s₂ = { s₁ with heap := h', toks := tk } ∧ Fr h₀ L h' m' ∧ News h₀ L h' ((I, o) :: news') ∧ (∀ p ∈ news', p.1 ≠ I) ∧ Jn news' ∧ ∀ y, stored.contains y = false → m' y = m₀ y
theorem TEndT.intro {L I : Addr} {o : Obj} {stored : List Str} {m₀ m' : Str → Option Value} {Jn : List (Addr × Obj) → Prop} {news' : List (Addr × Obj)} {s₁ : Shared} {h' : Heap} {tk : Nat} (F : Fr h₀ L h' m') (N : News h₀ L h' ((I, o) :: news'))
    (hI : ∀ p ∈ news', p.1 ≠ I) (hj : Jn news') (hm : ∀ y, stored.contains y = false → m' y = m₀ y) : TEndT h₀ L stored m₀ I o Jn s₁ .next { s₁ with heap := h', toks := tk } := ⟨rfl, h', tk, m', news', rfl, F, N, hI, hj, hm⟩
theorem iter_listT {target : Expr} {l : Addr} {vs : List Value} {m₀ : Str → Option Value} {news : List (Addr × Obj)} (stored : List Str) (J : Nat → List (Addr × Obj) → Prop)
    (hh : A.handled = none) (hl : s.heap.IsList l vs.toArray) (hin : (∃ q, h₀.get? l = some q) ∨ ∃ ob, ∀ i nw, J i nw → (l, ob) ∈ nw)
    (F : Fr h₀ env.locals s.heap m₀) (N : News h₀ env.locals s.heap news) (hj : J 0 news)
    (turn : ∀ I i v (u : Str → Option Value) news₁ s₁ o, vs[i]? = some v → J i news₁ → (∀ p ∈ news₁, p.1 ≠ I) → Fr h₀ env.locals s₁.heap (fun y => if stored.contains y then u y else m₀ y) → News h₀ env.locals s₁.heap ((I, o) :: news₁) →
      wpAny (model prog w) A (assign target env v) (fun _ s₃ => wpAny (model prog w) A (execs body env) (TEndT h₀ env.locals stored m₀ I o (J (i + 1)) s₁) E s₃) E s₁)
    (done : ∀ (u : Str → Option Value) news₁ h tk, J vs.length news₁ → Fr h₀ env.locals h (fun y => if stored.contains y then u y else m₀ y) → News h₀ env.locals h news₁ → Q .next { s with heap := h, toks := tk }) :
    wpAny (model prog w) A (pyIter (.ref l)) (fun it s₂ => LoopAtT prog w A h₀ env target body Q E it s₂) E s := by
  obtain ⟨ol, hol, hol2⟩ := id hl
  have hlt : l < s.heap.objs.size := Heap.lt_size hol
  have hlL : l ≠ env.locals := fun q => by
    rcases hin with ⟨q', hq'⟩ | ⟨ob, hb⟩
    · exact absurd (Nat.lt_of_lt_of_le (Heap.lt_size hq') F.above) (q ▸ Nat.lt_irrefl _)
    · exact (N _ (hb _ _ hj)).2.1 q
  refine wpAny_pyIter_list hl ?_
  have W := Walks.list (prog := prog) (w := w) hh s.heap.objs.size l (Nat.ne_of_lt hlt) vs.toArray
  rw [List.size_toArray] at W
  let J' : Nat → (Str → Option Value) → List (Addr × Obj) → Prop := fun i m₁ news₁ => J i news₁ ∧ ∀ y, stored.contains y = false → m₁ y = m₀ y
  refine ⟨s.heap.objs.size, [s.heap.objs.size, l], [s.heap.objs.size], vs.length, _, _, m₀, news, J', rfl, W, ?_, ?_, ?_, ⟨⟨_, Heap.get?_push_size _ rfl, rfl, rfl⟩, hl.at fun o e => Heap.get?_push_of_some _ e⟩, F.push _, (fun p hp => ⟨Heap.get?_push_of_some _ (N p hp).1, (N p hp).2⟩),
    (fun i s' v Q' st hQ' => letGo_listiter st.1 hQ'), ⟨hj, fun _ _ => rfl⟩, ?_, ?_⟩
  · intro hm
    rcases List.mem_cons.mp hm with e | hm
    · exact absurd F.ns.lt (e ▸ Nat.lt_irrefl _)
    · exact hlL (List.mem_singleton.mp hm).symm
  · intro b hb
    rw [List.mem_singleton.mp hb]
    exact next_is_new F
  · intro p hp hI
    exact absurd (Heap.lt_size (N p hp).1) ((List.mem_singleton.mp hI) ▸ Nat.lt_irrefl _)
  · rintro i v m₁ news₁ s₁ own hi hP ⟨hJ, hm⟩ hoff hown howh hall hst F₁ N₁
    have hP' : vs[i]? = some v := by simpa using hP
    have e : m₁ = fun y => if stored.contains y then m₁ y else m₀ y := by
      funext y
      cases h2 : stored.contains y with
      | true => simp
      | false => simp only [Bool.false_eq_true, if_false]; exact hm y h2
    rw [e] at F₁
    obtain ⟨⟨o, ho, _⟩, _⟩ := id hst
    have hI0 : h₀.get? s.heap.objs.size = none := next_is_new F
    have hio : (s.heap.objs.size, o) ∈ own := hall _ (.head _) hI0 o ho
    have hne : ∀ p ∈ news₁, p.1 ≠ s.heap.objs.size := fun p hp q => hoff p hp (by rw [q]; exact .head _)
    have N₂ : News h₀ env.locals s₁.heap ((s.heap.objs.size, o) :: news₁) := fun p hp => by
      rcases List.mem_cons.mp hp with rfl | hp
      · exact N₁ _ (List.mem_append_left _ hio)
      · exact N₁ _ (List.mem_append_right _ hp)
    refine wpAny_mono (turn s.heap.objs.size i v m₁ news₁ s₁ o hP' hJ hne F₁ N₂) (fun _ s₃ h₃ => wpAny_mono h₃ (fun f s₂ p => ?_) fun _ _ e => e) fun _ _ e => e
    obtain ⟨rfl, h', tk, m', news', e, F', N', hI', hj', hm'⟩ := p
    refine ⟨rfl, h', tk, m', news', e, F', fun p hp => ?_, (fun p hp hw => hI' p hp (List.mem_singleton.mp hw)), hj', hm'⟩
    rcases List.mem_append.mp hp with hp | hp
    · rcases List.mem_cons.mp (hown p hp) with e1 | e1
      · have h1 := (N₁ p (List.mem_append_left _ hp)).1
        rw [e1] at h1
        have h2 : p.2 = o := (Option.some.inj (ho.symm.trans h1)).symm
        have : p = (s.heap.objs.size, o) := Prod.ext e1 h2
        rw [this]
        exact N' _ (.head _)
      · have e2 := List.mem_singleton.mp e1
        rcases hin with ⟨q, hq⟩ | ⟨ob, hb⟩
        · have := (N₁ p (List.mem_append_left _ hp)).2.2
          rw [e2, hq] at this; cases this
        · have h1 := (N₁ p (List.mem_append_left _ hp)).1
          have h2 := (N₁ _ (List.mem_append_right _ (hb _ _ hJ))).1
          dsimp only at h2
          rw [← e2] at h2
          have h3 : p.2 = ob := Option.some.inj (h1.symm.trans h2)
          have : p = (l, ob) := Prod.ext e2 h3
          rw [this]
          exact N' _ (.tail _ (hb _ _ hj'))
    · exact N' _ (.tail _ hp)
  · rintro h' tk m' news' F' N' _ ⟨hJ, hm⟩
    refine done m' news' h' tk hJ ?_ N'
    have e : (fun y => if stored.contains y then m' y else m₀ y) = m' := by
      funext y
      cases h2 : stored.contains y with
      | true => simp
      | false => simp only [Bool.false_eq_true, if_false]; exact (hm y h2).symm
    rw [e]; exact F'
end
section
variable {prog : Program} {w : World} {A : Around} {E : Value → Shared → Prop} {s : Shared} {h₀ : Heap} {L a : Addr} {m : Str → Option Value} {cn : Str} {cs : Scope} {ccd : Value} {cl : List (Str × Addr)} {news : List (Addr × Obj)}
/-- three names from a tuple -/
theorem assign3 {x1 x2 x3 : Str} {p1 p2 p3 pos : Pos} {k : Nat} {t : Addr} {v1 v2 v3 : Value} {Q : Unit → Shared → Prop} (hh : A.handled = none) (ht : IsTup s.heap t #[v1, v2, v3]) (F : Fr h₀ L s.heap m) (N : News h₀ L s.heap news)
    (hk : cs.kind = .function) (k1 : (envX cn cs L a ccd cl).kindOf x1 = some .local) (k2 : (envX cn cs L a ccd cl).kindOf x2 = some .local) (k3 : (envX cn cs L a ccd cl).kindOf x3 = some .local)
    (h : ∀ h' tk, Fr h₀ L h' (fun y => if y = x3 then some v3 else if y = x2 then some v2 else if y = x1 then some v1 else m y) → News h₀ L h' news → Q () { s with heap := h', toks := tk }) :
    wpAny (model prog w) A (assign (.Tuple [.Name x1 p1, .Name x2 p2, .Name x3 p3] k pos) (envX cn cs L a ccd cl) (.ref t)) Q E s := by
  refine assign_Tuple_tuple hh ht rfl rfl fun h' hx => ?_
  have F1 := F.extBut hx (Nat.le_refl _)
  have N1 := N.extBut hx (Nat.le_refl _)
  refine wpAny_assignInOrder_more (wpAny_assign_Name (storeX_L F1 N1 (fun h2 F2 N2 => ?_) hk k1))
  refine wpAny_assignInOrder_more (wpAny_assign_Name (storeX_L F2 N2 (fun h3 F3 N3 => ?_) hk k2))
  refine wpAny_assignInOrder_more (wpAny_assign_Name (storeX_L F3 N3 (fun h4 F4 N4 => ?_) hk k3))
  exact wpAny_assignInOrder_none (h _ _ F4 N4)
end
end Mine

namespace Mine
open PySem PySem.W PyProof.Rows PySem.Calls PySem.Spec
theorem kw_76 : True := by
  w_top off
  k_with_none
  trivial
theorem kw_77 : True := by
  k_with "setItem ref int" => (k_here; (with_reducible show wpAny _ _ (setItem (Value.ref _) (Value.int _ _) _) _ _ _); k_dflt (refine' setItem_last ?k1q77 ?k2q77 ?k3q77 ?_; (case k1q77 => k_asm); (case k2q77 => k_asm); (case k3q77 => k_upd); k_whole); intro h9Z F9Z N9Z; (try k_sweep); (try dsimp only))
  trivial
theorem kw_78 : True := by
  k_with "call builtin:list.append" => (k_here; (with_reducible show wpAny _ _ (call (Value.builtin _) [Value.ref _, _]) _ _ _); k_dflt (refine' append_L ?k1q78 ?k2q78 ?k3q78 ?k4q78 ?_; (case k1q78 => k_asm); (case k2q78 => k_asm); (case k3q78 => k_upd); (case k4q78 => (simp only [List.length_append, List.length_cons, List.length_nil, sizeLine_eq]; omega)); k_whole); intro h9Z F9Z N9Z; (try k_sweep); (try dsimp only))
  trivial
theorem kw_79 : True := by
  k_with "subscriptTail Name UnaryOp ref int" => (k_here; (with_reducible show wpAny _ _ (subscriptTail _ _ (Value.ref _) (Value.int _ _)) _ _ _); k_dflt (refine' item_last ?k1q79 ?_ ?k3q79; (case k1q79 => is_list); (case k3q79 => with_unfolding_all rfl); k_whole); (try dsimp only))
  trivial

theorem kw_80 : True := by
  k_with "all" => (assumption)
  trivial
theorem kw_81 : True := by
  k_with "exec For Tuple Name cons nil" => (k_here; (rename Fr _ _ _ _ => lFZ'); (with_unfolding_all refine' For_invTF lFZ' ?_ ?k2q81; (case k2q81 => (intro _; exact rfl)); k_whole))
  trivial
theorem fr_at {g h : Heap} {L : Addr} {m : Str → Option Value} {x : Str} {v : Value} (F : Fr g L h m) (e : m x = some v) : Fr g L h (fun y => if y = x then some v else m y) := by
  have : (fun y => if y = x then some v else m y) = m := by
    funext y
    by_cases hy : y = x
    · rw [if_pos hy, hy, e]
    · rw [if_neg hy]
  rw [this]; exact F
noncomputable def StV (g : Heap) (L' : Addr) (x : Str) (m : Str → Option Value) (vP : Value → List (Addr × Obj) → Prop) (s s' : Shared) : Prop :=
  ∃ h tk v nw, s' = { s with heap := h, toks := tk } ∧ Fr g L' h (fun y => if y = x then some v else m y) ∧ News g L' h nw ∧ vP v nw
theorem cutS {M : Model} {A : Around} {E : Value → Shared → Prop} {env : Env} {a : Stmt} {b : List Stmt} {Q : Flow → Shared → Prop} {g : Heap} {L' : Addr} {m : Str → Option Value} {s : Shared} (_F : Fr g L' s.heap m) (x : Str) (vP : Value → List (Addr × Obj) → Prop)
    (h1 : wpAny M A (execs [a] env) (fun f s' => f = .next ∧ StV g L' x m vP s s') E s) (h2 : ∀ v nw h tk, vP v nw → Fr g L' h (fun y => if y = x then some v else m y) → News g L' h nw → wpAny M A (execs b env) Q E { s with heap := h, toks := tk }) : wpAny M A (execs (a :: b) env) Q E s :=
  execs_cut (a := [a]) (StV g L' x m vP s) h1 fun s' ⟨h, tk, v, nw, e, F, N, hv⟩ => by rw [e]; exact h2 v nw h tk hv F N
theorem len_sg {prog : Program} {w : World} {A : Around} {E : Value → Shared → Prop} {s : Shared} {l : Addr} {us : List Value} {sg : List Sg} {Q : Value → Shared → Prop} (hl : s.heap.IsList l us.toArray) (hul : us.length = sg.length) (hs : sg.length ≤ 400)
    (h : ∀ t tk, Q (.int (sg.length : Int) t) { s with toks := tk }) : wpAny (model prog w) A (call (.builtin "len") [.ref l]) Q E s := by
  have e : us.toArray.size = sg.length := by rw [List.size_toArray, hul]
  refine len_list hl (by rw [e]; omega) ?_
  rw [e]; exact h _ _
theorem execs_cutR {M : Model} {A : Around} {E : Value → Shared → Prop} {env : Env} {s : Shared} {Q : Flow → Shared → Prop} {a b : List Stmt} (P : Shared → Prop) (h1 : wpAny M A (execs a env) (fun f s' => (f = .next ∧ P s') ∨ (f ≠ .next ∧ Q f s')) E s)
    (h2 : ∀ s', P s' → wpAny M A (execs b env) Q E s') : wpAny M A (execs (a ++ b) env) Q E s := by
  rw [execs_append]
  refine wpAny_bind (wpAny_mono h1 (fun f s' h => ?_) fun _ _ h => h)
  rcases h with ⟨rfl, h⟩ | ⟨hne, h⟩
  · exact h2 s' h
  · cases f with
    | next => exact absurd rfl hne
    | brk => exact wpAny_pure h
    | cont => exact wpAny_pure h
    | ret v => exact wpAny_pure h
/-- what the last loop walks over -/
noncomputable def PartsP (g : Heap) (L' : Addr) (W' : List Str) (s s' : Shared) : Prop :=
  ∃ h tk Pa items sgp tlx news m', s' = { s with heap := h, toks := tk } ∧ Fr g L' h m' ∧ m' (Str.ofString "parts") = some (.ref Pa) ∧ News g L' h news ∧ ((∃ k, g.get? Pa = some (W.listOf items.toArray k)) ∨ ∃ k, (Pa, W.listOf items.toArray k) ∈ news) ∧
    DatAll tlx items (sgDats sgp) ∧ (∀ q ∈ tlx, g.get? q.1 = some q.2 ∨ q ∈ news) ∧ W' = wf sE sgp ∧ sgp.length ≤ 900 ∧ ∀ x ∈ sgp, ∀ t, x.2.2 = some t → t.length ≤ 1
noncomputable def jDue (Wd : Addr) (news : List (Addr × Obj)) (sgp : List Sg) (i : Nat) (nw : List (Addr × Obj)) : Prop :=
  ∃ vp yp cur tc k, nw = (Wd, PySem.W.listOf (vp ++ [Value.str cur tc]).toArray k) :: news ∧ StrsAre vp yp ∧ wf sE sgp = yp ++ wf cur (sgp.drop i) ∧ cur.length ≤ i ∧ vp.length ≤ i
theorem sg_tuple {tlx : List (Addr × Obj)} {v : Value} {g : Sg} (h : DatIn tlx v (sgDat g)) : ∃ a t1 t2 tv nn, v = .ref a ∧ (a, ({ cls := .type "tuple", data := .seq #[.str ⟨#[g.1]⟩ t1, .str (plStr g.2.1) t2, tv] nn } : Obj)) ∈ tlx ∧ DatIn tlx tv (tDat g.2.2) := by
  cases h with
  | tuple hm hr =>
    cases hr with
    | cons h1 hr =>
      cases hr with
      | cons h2 hr =>
        cases hr with
        | cons h3 hr =>
          cases hr
          cases h1
          cases h2
          exact ⟨_, _, _, _, _, rfl, hm, h3⟩
theorem datAll_drop {tl : List (Addr × Obj)} : ∀ (k : Nat) {us : List Value} {ds : List Dat}, DatAll tl us ds → DatAll tl (us.drop k) (ds.drop k)
  | 0, _, _, h => h
  | k + 1, _, _, h => by
    cases h with
    | nil => exact .nil
    | cons h1 h2 => exact datAll_drop k h2
theorem datAll_take {tl : List (Addr × Obj)} : ∀ (k : Nat) {us : List Value} {ds : List Dat}, DatAll tl us ds → DatAll tl (us.take k) (ds.take k)
  | 0, _, _, _ => .nil
  | k + 1, _, _, h => by
    cases h with
    | nil => exact .nil
    | cons h1 h2 => exact .cons h1 (datAll_take k h2)
theorem datSg_drop {tl : List (Addr × Obj)} {us : List Value} {sg : List Sg} (h : DatAll tl us (sgDats sg)) (k : Nat) : DatAll tl (us.drop k) (sgDats (sg.drop k)) := by
  rw [sgDats, List.map_drop]; exact datAll_drop k h
theorem datSg_take {tl : List (Addr × Obj)} {us : List Value} {sg : List Sg} (h : DatAll tl us (sgDats sg)) (k : Nat) : DatAll tl (us.take k) (sgDats (sg.take k)) := by
  rw [sgDats, List.map_take]; exact datAll_take k h
theorem datAll_parts {tl : List (Addr × Obj)} {us bs : List Value} {sg sb : List Sg} {D : Addr} {pb : Pl} {t1 t2 t3 : Tok} {n : Nat} {news : List (Addr × Obj)} (h : DatAll tl us (sgDats sg)) (k : Nat) {g h9 : Heap} {L' : Addr} {q1 q2 q3 q4 : Addr × Obj} (_hm : News g L' h9 (q1 :: q2 :: q3 :: q4 :: (D, ({ cls := .type "tuple", data := .seq #[.str (Str.ofString ".") t1, .str (plStr pb) t2, .str (Str.ofString ".") t3] n } : Obj)) :: news)) (hb : DatAll tl bs (sgDats sb)) :
    DatAll ((D, ({ cls := .type "tuple", data := .seq #[.str (Str.ofString ".") t1, .str (plStr pb) t2, .str (Str.ofString ".") t3] n } : Obj)) :: tl) (us.take k ++ [.ref D, .ref D, .ref D] ++ bs) (sgDats (sg.take k ++ [(46, pb, some (Str.ofString ".")), (46, pb, some (Str.ofString ".")), (46, pb, some (Str.ofString "."))] ++ sb)) := by
  rw [sgDats, List.map_append, List.map_append]
  have one : DatIn ((D, ({ cls := .type "tuple", data := .seq #[.str (Str.ofString ".") t1, .str (plStr pb) t2, .str (Str.ofString ".") t3] n } : Obj)) :: tl) (.ref D) (sgDat (46, pb, some (Str.ofString "."))) :=
    .tuple (n := n) (.head _) (.cons (.str _ _) (.cons (.str _ _) (.cons (.str _ _) .nil)))
  refine (DatAll.append ((datSg_take h k).mono fun p hp => List.mem_cons_of_mem _ hp) ?_).append (hb.mono fun p hp => List.mem_cons_of_mem _ hp)
  exact .cons one (.cons one (.cons one .nil))
theorem plStr_inj : ∀ {a b : Pl}, plStr a = plStr b → a = b
  | none, none, _ => rfl
  | some x, some y, h => by
    have := congrArg (fun z : Str => z.cps.toList) h
    simpa [plStr] using this
  | none, some y, h => absurd (congrArg (fun z : Str => z.cps.size) h) (by show ¬ (Str.ofString "").cps.size = 1; decide +kernel)
  | some y, none, h => absurd (congrArg (fun z : Str => z.cps.size) h) (by show ¬ 1 = (Str.ofString "").cps.size; decide +kernel)
noncomputable def plHd : List Sg → Pl
  | [] => none
  | x :: _ => x.2.1
theorem cut_hd (sg : List Sg) (pre post : Nat) : cutWords sg pre post = (if (sg[pre]?.map (·.2.1)) = some (plHd (sg.drop (sg.length - post))) then some (wf (Str.ofString "") (sg.take pre ++ [(46, plHd (sg.drop (sg.length - post)), some (Str.ofString ".")), (46, plHd (sg.drop (sg.length - post)), some (Str.ofString ".")), (46, plHd (sg.drop (sg.length - post)), some (Str.ofString "."))] ++ sg.drop (sg.length - post))) else none) := by
  unfold cutWords
  cases sg.drop (sg.length - post) <;> rfl
theorem due_names {m₀ : Str → Option Value} {v1 v2 v3 : Value} (u : Str → Option Value) : ∀ y, ([Str.ofString "sign", Str.ofString "place", Str.ofString "tells"] : List Str).contains y = false →
    (fun y => if y = Str.ofString "tells" then some v3 else if y = Str.ofString "place" then some v2 else if y = Str.ofString "sign" then some v1 else if ([Str.ofString "sign", Str.ofString "place", Str.ofString "tells"] : List Str).contains y then u y else m₀ y) y = m₀ y := by
  intro y hy
  have h1 : y ≠ Str.ofString "sign" := fun e => by rw [e] at hy; simp at hy
  have h2 : y ≠ Str.ofString "place" := fun e => by rw [e] at hy; simp at hy
  have h3 : y ≠ Str.ofString "tells" := fun e => by rw [e] at hy; simp at hy
  show (if y = Str.ofString "tells" then _ else _) = _
  rw [if_neg h3, if_neg h2, if_neg h1, if_neg (by rw [hy]; exact Bool.false_ne_true)]
theorem parts_list {g h : Heap} {L' Pa Wd : Addr} {m : Str → Option Value} {oW : Obj} {items : List Value} {news : List (Addr × Obj)} (hP : (∃ k, g.get? Pa = some (W.listOf items.toArray k)) ∨ ∃ k, (Pa, W.listOf items.toArray k) ∈ news) (F : Fr g L' h m) (N : News g L' h ((Wd, oW) :: news)) : h.IsList Pa items.toArray := by
  rcases hP with ⟨k, hk⟩ | ⟨k, hk⟩
  · exact ⟨_, F.keep _ _ hk, rfl, _, rfl⟩
  · exact ⟨_, (N _ (.tail _ hk)).1, rfl, _, rfl⟩
theorem parts_in {g : Heap} {Pa Wd : Addr} {items : List Value} {news : List (Addr × Obj)} {sgp : List Sg} (hP : (∃ k, g.get? Pa = some (W.listOf items.toArray k)) ∨ ∃ k, (Pa, W.listOf items.toArray k) ∈ news) : (∃ q, g.get? Pa = some q) ∨ ∃ ob, ∀ i nw, jDue Wd news sgp i nw → (Pa, ob) ∈ nw := by
  rcases hP with ⟨k, hk⟩ | ⟨k, hk⟩
  · exact .inl ⟨_, hk⟩
  · refine .inr ⟨W.listOf items.toArray k, fun i nw hj => ?_⟩
    obtain ⟨vp, yp, cur, tc, k', rfl, _⟩ := hj
    exact .tail _ hk
theorem pick_from {vs : List Value} {x : Int} (h : 0 ≤ x) : (slicePick vs.toArray (some x) none none).toList = vs.drop x.toNat := by
  have e : sliceBounds (some x) none none vs.toArray.size = (((min x.toNat vs.toArray.size : Nat) : Int), ((vs.toArray.size : Nat) : Int), 1) := by
    simp only [sliceBounds, Option.getD_none, show (1 : Int) > 0 by decide, if_true, if_neg (show ¬ (x < 0) by omega)]
    congr 1
    omega
  rw [kmk_pick_nat _ e]
  show (vs.drop (min x.toNat vs.toArray.size)).take (vs.toArray.size - min x.toNat vs.toArray.size) = _
  rw [List.size_toArray, kmk_drop_min, List.take_of_length_le (by rw [List.length_drop]; omega)]
theorem pick_upto {vs : List Value} {y : Int} (h : 0 ≤ y) : (slicePick vs.toArray none (some y) none).toList = vs.take y.toNat := by
  have e : sliceBounds none (some y) none vs.toArray.size = (((0 : Nat) : Int), ((min y.toNat vs.toArray.size : Nat) : Int), 1) := by
    simp only [sliceBounds, Option.getD_none, show (1 : Int) > 0 by decide, if_true, if_neg (show ¬ (y < 0) by omega)]
    congr 1
    congr 1
    omega
  rw [kmk_pick_nat _ e]
  show (vs.drop 0).take (min y.toNat vs.toArray.size - 0) = _
  rw [List.drop_zero, Nat.sub_zero, List.size_toArray, kmk_take_min]
theorem news_free {h : Heap} {l : List (Addr × Obj)} (H : ∀ q ∈ l, h.get? q.1 = some q.2) : News ({} : Heap) h.objs.size h l := fun p hp => ⟨H p hp, Nat.ne_of_lt (Heap.lt_size (H p hp)), by
  cases e : ({} : Heap).get? p.1 with
  | none => rfl
  | some o => exact absurd (Heap.lt_size e) (Nat.not_lt_zero _)⟩
section
variable {prog : Program} {w : World} {A : Around} {E : Value → Shared → Prop} {s : Shared} {h₀ : Heap} {L D D' El : Addr} {m : Str → Option Value} {rest tl news news' : List (Addr × Obj)} {us : List Value} {c n k : Nat} {ds : List Dat} {Q : Value → Shared → Prop}
theorem ne_nil_b (F : Fr h₀ L s.heap m) (N : News h₀ L s.heap ((El, W.listOf #[] n) :: rest)) (mD : (D, W.listOf us.toArray c) ∈ rest) (Da : DatAll tl us ds) (hT : ∀ q ∈ tl, h₀.get? q.1 = some q.2) (ok : ∀ d ∈ ds, kqdOk 8 d = true) (hu : A.units + 64 < cLine) (hne : ds ≠ [])
    (h : News h₀ L s.heap rest → Q (.bool true) s) : wpAny (model prog w) A (compareOp .NotEq (.ref D) (.ref El)) Q E s := by
  have N2 : News ({} : Heap) s.heap.objs.size s.heap ((El, W.listOf #[] n) :: (D, W.listOf us.toArray c) :: tl) := news_free fun q hq => by
    rcases List.mem_cons.mp hq with e | hq
    · rw [e]; exact (N _ (.head _)).1
    · rcases List.mem_cons.mp hq with e | hq
      · rw [e]; exact (N _ (.tail _ mD)).1
      · exact F.keep _ _ (hT q hq)
  refine kqd_ne (es := []) (ys := []) N2 (.tail _ (.head _)) rfl rfl Da (fun p hp => .tail _ (.tail _ hp)) (.head _) rfl rfl .nil (fun p hp => hp) ok (fun _ h => nomatch h) hu ?_
  rw [decide_eq_false hne]
  exact h fun p hp => N p (List.mem_cons_of_mem _ hp)
theorem mul3 {v : Value} {u : Tok} (F : Fr h₀ L s.heap m) (N : News h₀ L s.heap news) (hm : (D, W.listOf #[v] n) ∈ news)
    (h : ∀ M h', Fr h₀ L h' m → News h₀ L h' ((M, W.listOf [v, v, v].toArray 0) :: news) → (∀ p ∈ news, p.1 < M) → Q (.ref M) { s with heap := h' }) : wpAny (model prog w) A (binaryOp .Mult (.ref D) (.int 3 u)) Q E s :=
  mul_list F N (N _ hm).1 (by decide) (by decide) (by show 1 * 3 ≤ 2 ^ 24; decide) fun h' F' N' => h _ h' F' N' fun p hp => Heap.lt_size (N p hp).1
theorem add_L {as bs : List Value} (F : Fr h₀ L s.heap m) (N : News h₀ L s.heap news) (ha : (D, W.listOf as.toArray n) ∈ news) (hb : (D', W.listOf bs.toArray k) ∈ news) (hz : as.length + bs.length ≤ 4000)
    (h : ∀ M h', Fr h₀ L h' m → News h₀ L h' ((M, W.listOf (as ++ bs).toArray 0) :: news) → (∀ p ∈ news, p.1 < M) → Q (.ref M) { s with heap := h' }) : wpAny (model prog w) A (binaryOp .Add (.ref D) (.ref D')) Q E s :=
  add_arrays (its := as.toArray) (its2 := bs.toArray) F N ⟨_, (N _ ha).1, rfl, _, rfl⟩ ⟨_, (N _ hb).1, rfl, _, rfl⟩ (fun h' F' N' => h _ h' F' N' fun p hp => Heap.lt_size (N p hp).1) (by rw [List.size_toArray, List.size_toArray, sizeLine_eq]; omega)
end
theorem kw_82 : True := by
  k_with "callWith" => (k_here; (try dsimp only); (with_reducible show wpAny _ _ (callWith _ _ _ (backTo _ (starEach [Expr.List _ _] _)) []) _ _ _); (with_reducible refine callWith_method1 ?_ (starEach_List _ _ _ _) (plain_nil _ _)))
  trivial
theorem kw_83 : True := by
  k_with "spliced" => (k_here; (with_reducible show wpAny _ _ (spliced (backTo _ (starEach (Expr.List _ _ :: _) _))) _ _ _); (with_reducible refine spliced_more ?_ (starEach_List _ _ _ _)))
  trivial
theorem kw_84 : True := by
  k_with "spliced" => (k_here; (with_reducible show wpAny _ _ (spliced (backTo _ (starEach (Expr.Tuple _ _ _ :: _) _))) _ _ _); (with_reducible refine spliced_more ?_ (starEach_Tuple _ _ _ _ _)))
  trivial
theorem kw_85 : True := by
  k_with "eval List" => (k_here; (with_reducible refine List_ ?_))
  trivial
theorem kw_86 : True := by
  k_with "subscriptTail" => (k_here; (with_reducible show wpAny _ _ (subscriptTail _ _ (Value.ref _) (Value.ref _)) _ _ _); k_dflt (refine' kmk_slice_lit ?Fq86 ?Nq86 ?lq86 ?pq86 ?qq86 ?eq86 ?_ ?sq86 ?tq86 ?zq86; (case Fq86 => k_asm); (case Nq86 => k_asm); (case lq86 => first | exact is_list_keep (by assumption) (by assumption) | kmk_list); (case pq86 => kmk_part); (case qq86 => kmk_part); (case eq86 => first | exact pick_from (by omega) | exact pick_upto (by omega)); (case sq86 => with_unfolding_all rfl); (case tq86 => kmk_pure); (case zq86 => (rw [List.size_toArray, sizeLine_eq]; omega))); intro DZ' hZ' FZ' NZ' l1Z; (try k_lt l1Z); (try k_sweep))
  trivial
theorem kw_87 : True := by
  k_with "subscriptTail" => (k_here; (with_reducible show wpAny _ _ (subscriptTail _ _ (Value.ref _) (Value.int _ _)) _ _ _); k_dflt (first | (refine item_tupleT (IsTup.keeps (by assumption) (Fr.keep (by assumption))) (by decide) (by decide) (by exact rfl) (by exact rfl) ?_) | (refine item_list (is_list_keep (by assumption) (by assumption)) (by omega) (by omega) (by assumption) ?_) | (refine item_list (by kmk_list) (by decide) (by decide) (by with_reducible assumption) ?_)))
  trivial
theorem kw_88 : True := by
  k_with "compareOp NotEq ref ref" => (k_here; k_dflt (first | (refine' ne_nil_f ?Nq88 ?mDq88 ?huq88 ?_; (case Nq88 => k_asm); (case mDq88 => k_memK); (case huq88 => exact Nat.le_of_ble_eq_true rfl)) | (refine' ne_nil_b ?Fq88 ?Nq88 ?mDq88 ?Daq88 ?hTq88 ?okq88 ?huq88 ?hneq88 ?_; (case Fq88 => k_asm); (case Nq88 => k_asm); (case mDq88 => k_memK); (case Daq88 => with_reducible assumption); (case hTq88 => assumption); (case okq88 => assumption); (case huq88 => exact Nat.le_of_ble_eq_true rfl); (case hneq88 => assumption))); intro N9Z)
  trivial
theorem kw_89 : True := by
  k_with "compareOp NotEq str str" => (k_here; k_dflt (refine ne_by (by with_reducible assumption) ?_); (try dsimp only [Bool.not_true, Bool.not_false]))
  trivial
theorem kw_90 : True := by
  k_with "binaryOp Mult ref int" => (k_here; k_dflt (refine' mul3 ?Fq90 ?Nq90 ?mq90 ?_; (case Fq90 => k_asm); (case Nq90 => k_asm); (case mq90 => k_memK)); intro M9Z h9Z F9Z N9Z l1Z; (try k_lt l1Z); (try k_sweep))
  trivial
theorem kw_91 : True := by
  k_with "binaryOp Add ref ref" => (k_here; k_dflt (refine' add_L ?Fq91 ?Nq91 ?mq91 ?nq91 ?zq91 ?_; (case Fq91 => k_asm); (case Nq91 => k_asm); (case mq91 => k_memK); (case nq91 => k_memK); (case zq91 => (simp only [List.length_append, List.length_cons, List.length_nil, List.length_take]; omega))); intro M9Z h9Z F9Z N9Z l1Z; (try k_lt l1Z); (try k_sweep))
  trivial
theorem kw_92 : True := by
  k_with "call builtin:len" => (k_here; k_dflt (refine len_sg (is_list_keep (by assumption) (by assumption)) (by assumption) (by assumption) ?_); intro t9Z tk9Z; (try dsimp only))
  trivial
section
variable {prog : Program} {w : World} {p : Program} {loose : List Str} {mean : ExcName → Option Value} {mg mb : Str → Option Value}
  {gd : Option (List Code)} {fr : Option (List Env)} {s : Shared} {Q E : Value → Shared → Prop}
theorem c_due {l : Addr} {us : List Value} {c : Nat} {sg : List Sg} {tl : List (Addr × Obj)} {n : Int} {t1 : Tok} (X : (hd.heap_1 w.params).In s.heap) (T : Top p loose mean mg mb s.heap) (hl : s.heap.get? l = some (W.listOf us.toArray c))
   (htl : ∀ q ∈ tl, s.heap.get? q.1 = some q.2) (hd9 : DatAll tl us (sgDats sg)) (hok : ∀ d ∈ sgDats sg, kqdOk 8 d = true) (hsl : sg.length ≤ 400) (hs0 : 0 < sg.length) (hs1 : ∀ x ∈ sg, ∀ t, x.2.2 = some t → t.length ≤ 1) (hn1 : -1 ≤ n) (hn2 : n ≤ 5000)
   (hV : ∀ ws D us' k h' tk', dueOf sg n = some ws → StrsAre us' ws → s.heap.StaysIn h' → h'.get? D = some (W.listOf us'.toArray k) → Q (.ref D) { s with heap := h', toks := tk' })
   (hE : ∀ t h' tk', dueOf sg n = none → s.heap.StaysIn h' → Q (.str (Str.ofString "No closing quotation") t) { s with heap := h', toks := tk' }) :
   wpAny (model prog w) (topQ fr gd) (call (.ref 792) [.ref l, .int n t1]) Q E s := by
  refine wpAny_call ?_
  k_dflt (refine' code_defP ?k1 ?k2 ?kA ?k6 ?k7 ?k8 ?k9 ?_ ?c2 ?c3 ?c4 ?c5; (case k1 => exact X); (case k2 => exact T); (case kA => k_is); (case k6 => k_is); (case k7 => k_room); (case k8 => exact BindsTo.of_eq rfl); (case k9 => exact locs rfl); (case c5 => decide); (case c2 => exact rfl); (case c3 => exact rfl); (case c4 => exact rfl); k_whole)
  intro g' L' h' eg' F' N' X' T'
  (try dsimp only)
  (try k_fold)
  have hls : g'.IsList l us.toArray := by rw [eg']; exact ⟨_, hl, rfl, _, rfl⟩
  have hul : us.length = sg.length := by rw [hd9.length, List.length_map]
  have hVE := Hide.mk (And.intro hV hE)
  clear hV hE
  refine execs_cutR (a := [_, _]) (b := [_, _, _]) (fun s' => ∃ W', dueOf sg n = some W' ∧ PartsP g' L' W' s s') ?_ ?_
  · by_cases hn : n < (sg.length : Int)
    · repeat' ((fail_if_success (first | (with_reducible show wpAny _ _ (execs (Stmt.Assign [Expr.Name (Str.ofString "many") _] _ _ :: _) _) _ _ _) | (with_reducible show wpAny _ _ (pyIter _) _ _ _) | (with_reducible show wpAny _ _ (exec (Stmt.While _ _ _ _) _) _ _ _) | (with_reducible show wpAny _ _ (execs (Stmt.While _ _ _ _ :: _) _) _ _ _))); (first | (k_unfold; (try dsimp only)) | (k_end; wrow_close) | walk1 | (dsimp only; walk1) | (leave1; try dsimp only) | dsimp only))
      obtain ⟨mm, hmm⟩ : ∃ mm : Nat, mm = (n - 3).toNat := ⟨_, rfl⟩
      have hfd : ((mm : Int).fdiv 2) = ((mm / 2 : Nat) : Int) := by rw [Int.fdiv_eq_ediv_of_nonneg _ (by decide)]; omega
      refine cutS (by k_asm) (Str.ofString "many") (fun v nw => (∃ t, v = .int (mm : Int) t) ∧ nw = []) ?_ ?_
      · k_steps
        exact ⟨_, _, _, _, rfl, by k_asm, by k_asm, ⟨⟨_, by congr 1; (repeat' split) <;> omega⟩, rfl⟩⟩
      · rintro _ nw h₃ tk₃ ⟨⟨tm, rfl⟩, rfl⟩ F3 N3
        dsimp only at F3 N3 ⊢
        refine cutS (by k_asm) (Str.ofString "behind") (fun v nw => ∃ B, v = .ref B ∧ nw = [(B, W.listOf (us.drop (sg.length - (mm - mm / 2))).toArray 0)]) ?_ ?_
        · k_steps
          rename_i F9 N9
          dsimp only at N9
          have hpk : slicePick us.toArray (some ((sg.length : Int) - ((mm : Int) - (mm : Int).fdiv 2))) none none = (us.drop (sg.length - (mm - mm / 2))).toArray := by
            refine Array.toList_inj.mp ?_
            rw [pick_from (by rw [hfd]; omega), List.toList_toArray, hfd]
            congr 1
            omega
          rw [hpk] at N9
          exact ⟨_, _, _, _, rfl, by k_asm, N9, ⟨_, rfl, rfl⟩⟩
        · rintro _ nw h₄ tk₄ ⟨B, rfl, rfl⟩ F4 N4
          dsimp only at F4 N4 ⊢
          clear F3 N3
          have hcut : cutWords sg (mm / 2) (mm - mm / 2) = dueOf sg n := by
            unfold dueOf; rw [if_pos hn]; dsimp only; rw [← hmm]
          have hpl : mm / 2 < sg.length := by omega
          have hpo : mm - mm / 2 ≤ sg.length := by omega
          clear hmm
          generalize mm - mm / 2 = post at N4 hcut hpo
          generalize mm / 2 = pre at hcut hpl hfd
          obtain ⟨sb, hsb⟩ : ∃ sb, sb = sg.drop (sg.length - post) := ⟨_, rfl⟩
          obtain ⟨bs, hbs⟩ : ∃ bs, bs = us.drop (sg.length - post) := ⟨_, rfl⟩
          rw [← hbs] at N4
          have hdb : DatAll tl bs (sgDats sb) := by rw [hbs, hsb]; exact datSg_drop hd9 _
          have hokb : ∀ d ∈ sgDats sb, kqdOk 8 d = true := by
            rw [hsb]; exact fun d hd => hok d (by rw [sgDats, List.map_drop] at hd; exact List.mem_of_mem_drop hd)
          have htl' : ∀ q ∈ tl, g'.get? q.1 = some q.2 := by rw [eg']; exact htl
          obtain ⟨pb, hpb⟩ : ∃ pb : Pl, pb = plHd sb := ⟨_, rfl⟩
          refine cutS (by k_asm) (Str.ofString "place") (fun v nw => ∃ t, v = .str (plStr pb) t ∧ nw = [(B, W.listOf bs.toArray 0)]) ?_ ?_
          · cases sb with
            | nil =>
              cases hdb
              subst hpb
              k_steps
              exact ⟨_, _, _, _, rfl, by k_asm, by k_asm, ⟨_, rfl, rfl⟩⟩
            | cons g0 gr =>
              obtain ⟨v0, br, rfl, hd0, hdr0⟩ : ∃ v0 br, bs = v0 :: br ∧ DatIn tl v0 (sgDat g0) ∧ DatAll tl br (sgDats gr) := by
                cases hdb with | cons h1 h2 => exact ⟨_, _, rfl, h1, h2⟩
              obtain ⟨a0, u1, u2, tv, nn, rfl, hm0, hdt0⟩ := sg_tuple hd0
              have htup0 : IsTup g' a0 #[.str ⟨#[g0.1]⟩ u1, .str (plStr g0.2.1) u2, tv] := ⟨_, htl' _ hm0, rfl, _, rfl⟩
              have hne0 : sgDats (g0 :: gr) ≠ [] := List.cons_ne_nil _ _
              have hx0 : (Value.ref a0 :: br).toArray[Int.toNat 0]? = some (.ref a0) := rfl
              subst hpb
              k_steps
              exact ⟨_, _, _, _, rfl, by k_asm, by k_asm, ⟨_, rfl, rfl⟩⟩
          · rintro _ nw h₅ tk₅ ⟨tp, rfl, rfl⟩ F5 N5
            dsimp only at F5 N5 ⊢
            clear F4 N4
            obtain ⟨v1, hv1, hd1⟩ := hd9.get (k := pre) (by rw [sgDats, List.length_map]; exact hpl)
            rw [List.getElem_map] at hd1
            obtain ⟨a1, u3, u4, tv1, nn1, rfl, hm1, hdt1⟩ := sg_tuple hd1
            have htup1 : IsTup g' a1 #[.str ⟨#[(sg[pre]).1]⟩ u3, .str (plStr (sg[pre]).2.1) u4, tv1] := ⟨_, htl' _ hm1, rfl, _, rfl⟩
            have hx1 : us.toArray[((mm : Int).fdiv 2).toNat]? = some (.ref a1) := by
              rw [hfd, Int.toNat_natCast, List.getElem?_toArray]; exact hv1
            rw [cut_hd, ← hsb, ← hpb] at hcut
            have hsp : sg[pre]? = some sg[pre] := List.getElem?_eq_getElem hpl
            rw [hsp, Option.map_some] at hcut
            by_cases hpp : (sg[pre]).2.1 = pb
            · rw [if_pos (by rw [hpp])] at hcut
              have hb : (plStr (sg[pre]).2.1 == plStr pb) = true := by rw [hpp]; exact beq_self_eq_true _
              generalize sg[pre] = gp at htup1 hb hdt1 hpp
              have hbl : bs.length ≤ 400 := by rw [hbs, List.length_drop]; omega
              have hpk : slicePick us.toArray none (some ((mm : Int).fdiv 2)) none = (us.take pre).toArray := by
                refine Array.toList_inj.mp ?_
                rw [pick_upto (by rw [hfd]; omega), List.toList_toArray, hfd]
                congr 1
              k_steps
              dsimp only at N9Z l1Z
              rw [hpk] at N9Z
              k_steps
              rename_i N9
              refine .inl ⟨rfl, _, hcut.symm, _, _, _, _, _, _, _, _, rfl, by k_asm, rfl, N9, .inr ⟨0, .head _⟩, datAll_parts hd9 pre N9 hdb, ?ma, ?mb, ?mc, ?md⟩
              (case ma =>
                intro q hq
                rcases List.mem_cons.mp hq with e | hq
                · rw [e]; exact .inr (.tail _ (.tail _ (.tail _ (.tail _ (.head _)))))
                · exact .inl (htl' q hq))
              (case mb => exact rfl)
              (case mc => simp only [List.length_append, List.length_take, hsb, List.length_drop, List.length_cons, List.length_nil]; omega)
              (case md =>
                intro x hx t ht
                rcases List.mem_append.mp hx with hx | hx
                · rcases List.mem_append.mp hx with hx | hx
                  · exact hs1 x (List.mem_of_mem_take hx) t ht
                  · have ex : x = (46, pb, some (Str.ofString ".")) := by
                      rcases List.mem_cons.mp hx with e | hx
                      · exact e
                      · rcases List.mem_cons.mp hx with e | hx
                        · exact e
                        · exact List.mem_singleton.mp hx
                    rw [ex] at ht
                    rw [← Option.some.inj ht]
                    decide +kernel
                · exact hs1 x (List.mem_of_mem_drop (by rw [← hsb]; exact hx)) t ht)
            · rw [if_neg (by simpa using hpp)] at hcut
              have hb : (plStr (sg[pre]).2.1 == plStr pb) = false := by
                rw [beq_eq_false_iff_ne]; exact fun e => hpp (plStr_inj e)
              generalize sg[pre] = gp at htup1 hb hdt1 hpp
              k_steps
              refine .inr ⟨Flow.noConfusion, ?_⟩
              (try dsimp only)
              k_steps
              refine hVE.out.2 _ _ _ hcut.symm ?_
              rw [← eg']
              exact Fr.keep (by k_asm)
    · k_steps
      exact .inl ⟨rfl, _, by unfold dueOf; rw [if_neg hn], _, _, l, us, sg, tl, [], _, rfl, by k_asm, rfl, by k_asm, .inl ⟨c, by rw [eg']; exact hl⟩, hd9, fun q hq => .inl (by rw [eg']; exact htl q hq), rfl, by omega, hs1⟩
  · clear hls hul hd9 htl hok hl hs1 hsl hs0 hn1 hn2 F' N'
    rintro s' ⟨W', hdue, h₂, tk₂, Pa, items, sgp, tlx, news, m', rfl, F2, hm2, N2, hP, hdx, htx, hW, hlp, ht1⟩
    have F3 := fr_at F2 hm2
    clear F2 hm2
    (try dsimp only at F3 N2 ⊢)
    have hpl : ∃ k, h₂.get? Pa = some (W.listOf items.toArray k) := by
      rcases hP with ⟨k, hk⟩ | ⟨k, hk⟩
      · exact ⟨k, F3.keep _ _ hk⟩
      · exact ⟨k, (N2 _ hk).1⟩
    clear hpl
    repeat' ((fail_if_success (first | (with_reducible show wpAny _ _ (pyIter _) _ _ _) | (with_reducible show wpAny _ _ (exec (Stmt.While _ _ _ _) _) _ _ _) | (with_reducible show wpAny _ _ (execs (Stmt.While _ _ _ _ :: _) _) _ _ _))); (first | (k_unfold; (try dsimp only)) | (k_end; wrow_close) | walk1 | (dsimp only; walk1) | (leave1; try dsimp only) | dsimp only))
    have hnW : ∀ p ∈ news, @Ne Nat p.1 _ := fun p hp => Nat.ne_of_lt ((by assumption : ∀ (p : Addr × Obj), p ∈ news → p.1 < _) p hp)
    refine iter_listT [Str.ofString "sign", Str.ofString "place", Str.ofString "tells"] (jDue _ news sgp) rfl (parts_list hP (by assumption) (by assumption)) (parts_in hP) (by assumption) (by assumption) ⟨[], [], _, _, _, rfl, .nil, rfl, by decide +kernel, Nat.le_refl _⟩ ?_ ?_
    · rintro I i v u news₁ s₁ o hv ⟨vp, yp, cur, tc, k, rfl, hvp, hwf, hcl, hvl⟩ hne F1 N1
      have hne' : @Ne Nat I _ := (hne _ (.head _)).symm
      have hneN : ∀ p ∈ news, p.1 ≠ I := fun p hp => hne _ (.tail _ hp)
      have hil : i < sgp.length := by
        have := (List.getElem?_eq_some_iff.mp hv).1
        rw [hdx.length, List.length_map] at this
        exact this
      have hdr : sgp.drop i = sgp[i] :: sgp.drop (i + 1) := List.drop_eq_getElem_cons hil
      have htl1 := ht1 _ (List.getElem_mem hil)
      obtain ⟨v', hv', hdi⟩ := hdx.get (k := i) (by rw [List.length_map]; exact hil)
      have ev : v' = v := by rw [hv] at hv'; exact (Option.some.inj hv').symm
      subst ev
      rw [List.getElem_map] at hdi
      generalize sgp[i] = gi at hdr htl1 hdi
      obtain ⟨a, u1, u2, tv, nn, rfl, hm, hdt⟩ := sg_tuple hdi
      have htup : IsTup s₁.heap a #[.str ⟨#[gi.1]⟩ u1, .str (plStr gi.2.1) u2, tv] := by
        rcases htx _ hm with e | e
        · exact ⟨_, F1.keep _ _ e, rfl, _, rfl⟩
        · exact ⟨_, (N1 _ (.tail _ (.tail _ e))).1, rfl, _, rfl⟩
      clear hP hdx htx hv hv' hm hdi hne
      refine assign3 rfl htup F1 N1 rfl rfl rfl rfl fun h9 tk9 F9 N9 => ?_
      clear htup F1 N1
      cases hg : gi.2.2 with
      | none =>
        rw [hg] at hdt
        cases hdt
        k_steps
        obtain ⟨gc, gp, gt⟩ := gi
        dsimp only at hg
        subst hg
        refine' TEndT.intro (by k_asm) ?qN ?qI ?qj (due_names _)
        (case qN => k_asm)
        (case qI => exact List.forall_mem_cons.mpr ⟨Ne.symm hne', hneN⟩)
        refine ⟨vp ++ [.str cur tc], yp ++ [cur], _, _, _, rfl, kct_snoc hvp, ?_, by rw [show (Str.ofString "").length = 0 from by decide +kernel]; omega, by simp; omega⟩
        rw [hwf, hdr, wf, List.append_assoc]; rfl
      | some x =>
        rw [hg] at hdt
        cases hdt
        have hx1 := htl1 x hg
        k_steps
        obtain ⟨gc, gp, gt⟩ := gi
        dsimp only at hg
        subst hg
        refine' TEndT.intro (by k_asm) ?rN ?rI ?rj (due_names _)
        (case rN => k_asm)
        (case rI => exact List.forall_mem_cons.mpr ⟨Ne.symm hne', hneN⟩)
        refine ⟨vp, yp, cur ++ x, _, _, rfl, hvp, ?_, by omega, by omega⟩
        rw [hwf, hdr, wf]
    · rintro u news₁ hh tk ⟨vp, yp, cur, tc, k, rfl, hvp, hwf, hcl, hvl⟩ F1 N1
      have hz : sgp.drop items.length = [] := List.drop_of_length_le (by rw [hdx.length, List.length_map]; exact Nat.le_refl _)
      rw [hz] at hwf
      clear hP hdx htx
      k_steps
      refine hVE.out.1 _ _ (vp ++ [.str cur tc]) k _ _ hdue ?_ (by rw [← eg']; exact F1.keep) (N1 _ (.head _)).1
      rw [hW, hwf]
      exact kct_snoc hvp
end
end Mine

namespace Mine
open PySem PySem.W PyProof.Rows PySem.Calls PySem.Spec
theorem join_tab {w : World} {loose : List Str} {mean : ExcName → Option Value} {mg mb : Str → Option Value} {h : Heap} (X : (hd.heap_1 w.params).In h) (T : Top hd.view_1 loose mean mg mb h) : ∃ P, h.IsCode 757 P #[] ∧ h.TableAt 757 P #[] ∧ P ≠ cStatics := by
  obtain ⟨d, hd1, hd2⟩ : ∃ d ∈ recsOf hd.view_1, d.name = Str.ofString "join" := by
    have : (recsOf hd.view_1).any (fun d => d.name == Str.ofString "join") = true := by decide +kernel
    obtain ⟨d, h1, h2⟩ := List.any_eq_true.mp this
    exact ⟨d, h1, eq_of_beq h2⟩
  obtain ⟨a, o, fd, c, P, g1, g2, g3, g4, g5, g6⟩ := T.tab d hd1
  have hm : mg (Str.ofString "join") = some (.ref 758) := mg_of X T.g rfl
  rw [hd2, hm] at g1
  cases g1
  have hX := X 758 _ rfl
  rw [hX] at g2
  cases g2
  cases g3
  cases g4
  refine ⟨P, g5, g6, fun e => ?_⟩
  obtain ⟨_, ⟨oc, _, _, e1, e2, _⟩, _⟩ := T.nodigits
  rw [← e, g6.2] at e1
  cases e1
  cases e2
theorem k_classed (w : World) : kb_classed (hd.heap_1 w.params) = true := by
  first | rfl | kernel_rfl
end Mine

namespace Mine
open PySem PySem.W PyProof.Rows PySem.Calls PySem.Spec
section
variable {prog : Program} {w : World} {p : Program} {loose : List Str} {mean : ExcName → Option Value} {mg mb : Str → Option Value}
  {gd : Option (List Code)} {fr : Option (List Env)} {h₀ : Heap} {L : Addr} {m : Str → Option Value} {s : Shared} {news : List (Addr × Obj)} {Q E : Value → Shared → Prop}
theorem News.stays {h h' : Heap} (N : News h₀ L h news) (st : h.StaysIn h') : News h₀ L h' news := fun q hq => ⟨st _ _ (N q hq).1, (N q hq).2⟩
theorem c_laidF {l : Addr} {vs : List Value} {ws : List Str} (F : Fr h₀ L s.heap m) (X : (hd.heap_1 w.params).In h₀) (T : Top p loose mean mg mb h₀) (N : News h₀ L s.heap news) (hl : s.heap.IsList l vs.toArray) (hi : StrsAre vs ws) (hn : ws.length ≤ 8) (hlen : ∀ x ∈ ws, x.length ≤ 8) (hbs : ∀ x ∈ ws, NoBs x)
   (h : ∀ D us c tl h' tk', DatAll tl us (sgDats (laidOf (ws.map cpsOf))) → Fr h₀ L h' m → News h₀ L h' ((D, W.listOf us.toArray c) :: (tl ++ news)) → (∀ p ∈ tl, p.1 ≠ D) → Q (.ref D) { s with heap := h', toks := tk' }) :
   wpAny (model prog w) (topQ fr gd) (call (.ref 785) [.ref l]) Q E s := by
  refine c_laid (X.keeps F.keep) (T.keeps F.keep) hl hi hn hlen hbs fun D us c tl h' tk' hd st hq ht => h D us c tl h' tk' hd (F.keeps st) ?_ ht
  have new : ∀ q ∈ (D, W.listOf us.toArray c) :: tl, h'.get? q.1 = some q.2 ∧ q.1 ≠ L ∧ h₀.get? q.1 = none := by
    intro q hq'
    obtain ⟨h1, h2⟩ := hq q hq'
    refine ⟨h1, ?_, ?_⟩
    · intro e
      obtain ⟨oL, _, _, hL, _⟩ := F.ns
      rw [e, hL] at h2; cases h2
    · cases e : h₀.get? q.1 with
      | none => rfl
      | some o => rw [F.keep _ _ e] at h2; cases h2
  intro q hq'
  rcases List.mem_cons.mp hq' with e | hq'
  · exact new q (e ▸ .head _)
  · rcases List.mem_append.mp hq' with e | e
    · exact new q (.tail _ e)
    · exact News.stays N st q e
theorem regrown_old {P : Addr} {ps' : Array Value} (hc : h₀.IsCode 757 P #[]) (ht : h₀.TableAt 757 P #[]) (hP : P ≠ cStatics) {h : Heap} (k : ∀ b o, (regrown h₀ P ps').get? b = some o → h.get? b = some o) : OldK h₀ h := by
  have hcP : (757 : Nat) ≠ P := by obtain ⟨_, _, _, _, _, _, _, _, _, _, _, _, _, _, _, _, _, _, _, _, x⟩ := hc; exact x
  have hself : (regrown h₀ P ps').get? P = some { cls := .none, data := .fields ps' } := Heap.get?_update_self _ ht.2 rfl
  have hoth : ∀ b, b ≠ P → (regrown h₀ P ps').get? b = h₀.get? b := fun b hb => Heap.get?_update_other _ _ (Ne.symm hb)
  have ht' : h.TableAt 757 P (#[] ++ ps') := by
    rw [Array.empty_append]
    obtain ⟨⟨o, vs, e, r⟩, _⟩ := ht
    exact ⟨⟨o, vs, k _ _ ((hoth _ hcP).trans e), r⟩, k _ _ hself⟩
  exact (OldK.refl h₀).step_table ht ht ht' (fun b o hb e => k _ _ ((hoth b hb).trans e)) hP
theorem c_joinF {l P : Addr} {vs : List Value} {ws : List Str} (F : Fr h₀ L s.heap m) (X : (hd.heap_1 w.params).In h₀) (T : Top p loose mean mg mb h₀) (N : News h₀ L s.heap news) (G : AllBare s.gens)
   (hc : h₀.IsCode 757 P #[]) (ht : h₀.TableAt 757 P #[]) (hP : P ≠ cStatics)
   (hl : s.heap.IsList l vs.toArray) (hi : StrsAre vs ws) (hn : ws.length ≤ 8) (hlen : ∀ x ∈ ws, x.length ≤ 8)
   (h : ∀ ps' t' s', AllBare s'.gens → s'.os = s.os → (hd.heap_1 w.params).In (regrown h₀ P ps') → Top p0 (loose0 p loose) mean mg mb (regrown h₀ P ps') → Fr (regrown h₀ P ps') L s'.heap m → News (regrown h₀ P ps') L s'.heap news → Q (.str (lineOf ws) t') s') :
   wpAny (model prog w) (topJ fr gd) (call (.ref 758) [.ref l]) Q E s := by
  have hPlt : P < h₀.objs.size := hc.lt.2
  have hLP : L ≠ P := Nat.ne_of_gt (Nat.lt_of_lt_of_le hPlt F.above)
  refine c_join (X.keeps F.keep) (T.keeps F.keep) G (hc.keeps F.keep) (ht.keeps F.keep) hP (k_classed w) hl hi hn hlen fun ps' t' s' hG hos hk hp => ?_
  have B₁ : Based h₀ h₀ 757 P #[] := Based.start hc ht hP
  have hself : (regrown h₀ P ps').get? P = some { cls := .none, data := .fields ps' } := Heap.get?_update_self _ ht.2 rfl
  have hoth : ∀ b, b ≠ P → (regrown h₀ P ps').get? b = h₀.get? b := fun b hb => Heap.get?_update_other _ _ (Ne.symm hb)
  refine h ps' t' s' hG hos (kb_in_regrown B₁ X T.g (k_classed w)) (top0 T B₁) ⟨F.ns.extBut (fun b o hb e => hk b o hb e) hLP, ?_, Nat.le_trans (Nat.le_of_eq (Heap.SameBut.update h₀ P _).1) F.above⟩ ?_
  · intro b o e
    by_cases hb : b = P
    · subst hb; rw [hself] at e; cases e; exact hp
    · rw [hoth b hb] at e; exact hk b o hb (F.keep b o e)
  · intro q hq
    have hqP : q.1 ≠ P := fun e => by have := (N q hq).2.2; rw [e, ht.2] at this; cases this
    exact ⟨hk _ _ hqP (N q hq).1, (N q hq).2.1, (hoth _ hqP).trans (N q hq).2.2⟩
theorem c_dueF {l : Addr} {us : List Value} {c : Nat} {sg : List Sg} {tl : List (Addr × Obj)} {n : Int} {t1 : Tok} (F : Fr h₀ L s.heap m) (X : (hd.heap_1 w.params).In h₀) (T : Top p loose mean mg mb h₀) (N : News h₀ L s.heap news) (hl : (l, W.listOf us.toArray c) ∈ news)
   (htl : ∀ q ∈ tl, q ∈ news) (hd9 : DatAll tl us (sgDats sg)) (hok : ∀ d ∈ sgDats sg, kqdOk 8 d = true) (hsl : sg.length ≤ 400) (hs0 : 0 < sg.length) (hs1 : ∀ x ∈ sg, ∀ t, x.2.2 = some t → t.length ≤ 1) (hn1 : -1 ≤ n) (hn2 : n ≤ 5000)
   (hV : ∀ ws D us' k h' tk', dueOf sg n = some ws → StrsAre us' ws → Fr h₀ L h' m → News h₀ L h' news → (∀ (d : Addr) o, s.heap.get? d = some o → h'.get? d = some o) → h'.get? D = some (W.listOf us'.toArray k) → Q (.ref D) { s with heap := h', toks := tk' })
   (hE : ∀ t h' tk', dueOf sg n = none → Fr h₀ L h' m → News h₀ L h' news → Q (.str (Str.ofString "No closing quotation") t) { s with heap := h', toks := tk' }) :
   wpAny (model prog w) (topQ fr gd) (call (.ref 792) [.ref l, .int n t1]) Q E s :=
  c_due (X.keeps F.keep) (T.keeps F.keep) (N _ hl).1 (fun q hq => (N _ (htl q hq)).1) hd9 hok hsl hs0 hs1 hn1 hn2
    (fun ws D us' k h' tk' e hs st hD => hV ws D us' k h' tk' e hs (F.keeps st) (News.stays N st) (fun d o => st d o) hD)
    (fun t h' tk' e st => hE t h' tk' e (F.keeps st) (News.stays N st))
end
end Mine

namespace Mine
open PySem PySem.W PyProof.Rows PySem.Calls PySem.Spec
section
variable {prog : Program} {w : World} {A : Around} {E : Value → Shared → Prop} {s : Shared} {h₀ : Heap} {L C : Addr} {m : Str → Option Value} {news : List (Addr × Obj)} {env : Env}
theorem firsts_pair {tl : List (Addr × Obj)} : ∀ {us ys : List Value} {sg : List Sg}, DatAll tl us (sgDats sg) → Paired (fun v r => ∀ g, DatIn tl v (sgDat g) → ∃ t, r = Value.str ⟨#[g.1]⟩ t) us ys → StrsAre ys (sg.map fun g => (⟨#[g.1]⟩ : Str))
  | [], _, [], _, .nil => .nil
  | _ :: _, _, g :: r, .cons h1 h2, .cons k1 k2 => by
    obtain ⟨t, rfl⟩ := k1 g h1
    exact .cons _ _ (firsts_pair h2 k2)
/-- [part[0] for part in laid] -/
theorem comp_firsts {scope : Scope} {cl : List (Str × Addr)} {p1 p2 p3 p4 pos : Pos} {k : Nat} {iter : Expr} {l : Addr} {c : Nat} {us : List Value} {sg : List Sg} {tl : List (Addr × Obj)} {Q : Value → Shared → Prop} (hh : A.handled = none)
    (F : Fr h₀ L s.heap m) (N : News h₀ L s.heap news) (hl : (l, W.listOf us.toArray c) ∈ news) (htl : ∀ q ∈ tl, q ∈ news) (hd : DatAll tl us (sgDats sg)) (hclos : closureFor scope env = pure cl)
    (hcell : ∀ y ∈ scope.names, y.2 ≠ .cell) (hkind : scope.kind = .function)
    (hnames : ∀ y ∈ scope.names, y.2 = .local → scope.names.lookup y.1 = some .local) (hx : scope.names.lookup (Str.ofString "part") = some .local)
    (hxs : ∀ C', (compEnvC scope cl C' env).kindOf (Str.ofString "part") = some .local) (hkf : ∀ C', (compEnvC scope cl C' env).scope.kind = .function)
    (hs : ∀ x, foldedSetIterable iter env x = pure x) (hsz : sg.length ≤ 4000)
    (hit : ∀ {Q' : Value → Shared → Prop}, Q' (.ref l) s → wpAny (model prog w) A (eval iter env) Q' E s)
    (h : ∀ D ys n h' tk, StrsAre ys (sg.map fun g => (⟨#[g.1]⟩ : Str)) → Fr h₀ L h' m → News h₀ L h' ((D, W.listOf ys.toArray n) :: news) → Q (.ref D) { s with heap := h', toks := tk }) :
    wpAny (model prog w) A (eval (.ListComp (.Subscript (.Name (Str.ofString "part") p1) (.Constant (.int 0) k p2) p3) [⟨.Name (Str.ofString "part") p4, iter, [], 0⟩] scope pos) env) Q E s := by
  have hlen : us.length = sg.length := by rw [hd.length, List.length_map]
  refine wpAny_ListComp_free (fun _ => true) (fun v r => ∀ g, DatIn tl v (sgDat g) → ∃ t, r = Value.str ⟨#[g.1]⟩ t) hclos hcell hkind hnames hx (hit ?_) hs
  have hls : s.heap.IsList l us.toArray := ⟨_, (N _ hl).1, rfl, _, rfl⟩
  have hlt : l < s.heap.objs.size := Heap.lt_size (N _ hl).1
  refine wpAny_pyIter_list hls ?_
  have W := Walks.list (prog := prog) (w := w) hh s.heap.objs.size l (Nat.ne_of_lt hlt) us.toArray
  rw [List.size_toArray] at W
  refine ⟨s.heap.objs.size, [s.heap.objs.size, l], [s.heap.objs.size], us.length, _, _, rfl, W, Nat.le_trans (by omega : us.length ≤ 4000) (by rw [sizeLine_eq]; decide), ⟨⟨_, Heap.get?_push_size _ rfl, rfl, rfl⟩, hls.at fun o e => Heap.get?_push_of_some _ e⟩, ?_, ⟨?_, ?_⟩, ?_⟩
  · intro b hb
    rw [Heap.size_push]
    rcases List.mem_cons.mp hb with e | hb
    · rw [e]; exact Nat.lt_succ_self _
    · rw [List.mem_singleton.mp hb]; exact Nat.lt_succ_of_lt hlt
  · intro C' i v s₃ m₃ E' hC hP hn hm' hk _
    exact wpAny_tests_nil ⟨rfl, _, _, rfl, fun _ _ e => e⟩
  · intro C' i v s₃ m₃ E' hC hP hp hn hm' hk _
    have up : ∀ b o', s.heap.get? b = some o' → s₃.heap.get? b = some o' := fun b o' e => hk b o' (by intro z; rw [List.mem_singleton.mp z] at e; exact absurd (Heap.lt_size e) (Nat.lt_irrefl _)) (Heap.get?_push_of_some _ e)
    have hv : us[i]? = some v := by rw [← List.getElem?_toArray]; exact hP
    have hil : i < (sgDats sg).length := by rw [← hd.length]; exact (List.getElem?_eq_some_iff.mp hv).1
    obtain ⟨v', hv', hdi⟩ := hd.get hil
    have ev : v' = v := by rw [hv] at hv'; exact (Option.some.inj hv').symm
    subst ev
    rw [List.getElem_map] at hdi
    obtain ⟨a, u1, u2, tv, nn, rfl, hm, hdt⟩ := sg_tuple hdi
    have htup : IsTup s₃.heap a #[.str ⟨#[(sg[i]'(by simpa using hil)).1]⟩ u1, .str (plStr (sg[i]'(by simpa using hil)).2.1) u2, tv] := ⟨_, up _ _ (N _ (htl _ hm)).1, rfl, _, rfl⟩
    refine Subscript_ (wpAny_Name (wpAny_loadName_local (hkf C') (hxs C') hn hm' ?_) (by decide))
    refine wpAny_Constant_int ?_
    refine item_tupleT (l := [.str ⟨#[(sg[i]'(by simpa using hil)).1]⟩ u1, .str (plStr (sg[i]'(by simpa using hil)).2.1) u2, tv]) htup (by decide) (by decide) (j := 0) (by exact rfl) (by exact rfl) ?_
    refine ⟨?_, _, _, rfl, fun _ _ e => e⟩
    intro g hg
    cases hg with
    | tuple hm2 hr2 =>
      have h1 := (N _ (htl _ hm2)).1
      rw [(N _ (htl _ hm)).1] at h1
      cases hr2 with
      | cons q1 hr2 =>
        cases q1 with
        | str x t =>
          have h2 := Option.some.inj h1
          dsimp only at h2
          injection h2 with _ _ h3
          injection h3 with h4 _
          have h5 := congrArg (fun z : Array Value => z.toList.head?) h4
          simp only [List.toList_toArray, List.head?_cons, Option.some.injEq] at h5
          exact ⟨t, h5⟩
  · intro D h' tk ys vs hnew hlD hplD hlen' hP hF hk
    obtain ⟨n, hpl⟩ := hplD
    have evs : vs = us := by
      refine List.ext_getElem? fun j => ?_
      rcases Nat.lt_or_ge j vs.length with hj | hj
      · have := hP j vs[j] (List.getElem?_eq_getElem hj)
        rw [List.getElem?_eq_getElem hj]
        rw [List.getElem?_toArray] at this
        exact this.symm
      · rw [List.getElem?_eq_none hj, List.getElem?_eq_none (by omega)]
    rw [evs, List.filter_eq_self.mpr (fun _ _ => rfl)] at hF
    have up : ∀ b o', s.heap.get? b = some o' → h'.get? b = some o' := fun b o' e => hk b o' (by intro z; rw [List.mem_singleton.mp z] at e; exact absurd (Heap.lt_size e) (Nat.lt_irrefl _)) (Heap.get?_push_of_some _ e)
    refine h D ys.toList n h' tk (firsts_pair hd hF) (F.keeps up) fun q hq => ?_
    rcases List.mem_cons.mp hq with rfl | hq
    · refine ⟨by rw [Array.toArray_toList]; exact hpl, ?_, ?_⟩
      · intro e
        obtain ⟨oL, _, _, hL, _⟩ := F.ns
        dsimp only at e
        rw [← e] at hL
        rw [Heap.get?_push_of_some _ hL] at hnew
        cases hnew
      · cases e : h₀.get? D with
        | none => rfl
        | some o' => rw [Heap.get?_push_of_some _ (F.keep _ _ e)] at hnew; cases hnew
    · exact (N.grown up) q hq
end
end Mine

namespace Mine
open PySem PySem.W PyProof.Rows PySem.Calls PySem.Spec
noncomputable def TOk (g : Sg) : Prop := ∀ t, g.2.2 = some t → t.length ≤ 1
theorem tOk_e {c : Nat} {pl : Pl} : TOk (c, pl, some sE) := fun t e => by
  rw [← Option.some.inj e]; show sE.cps.size ≤ 1; decide +kernel
theorem tOk_c {c k : Nat} {pl : Pl} : TOk (c, pl, some ⟨#[k]⟩) := fun t e => by
  rw [← Option.some.inj e]; exact Nat.le_refl 1
theorem sgWord_tells (x : List Nat) : ∀ g ∈ sgWord x, TOk g := by
  intro g hg
  unfold sgWord at hg
  split at hg
  · obtain ⟨c, hc, rfl⟩ := List.mem_map.mp hg
    exact tOk_c
  · simp only [List.mem_append, List.mem_singleton, List.mem_flatMap] at hg
    rcases hg with (rfl | ⟨c, hc, hg⟩) | rfl
    · exact tOk_e
    · unfold sgIn at hg
      split at hg
      · simp only [List.mem_cons, List.not_mem_nil, or_false] at hg
        rcases hg with rfl | rfl | rfl | rfl | rfl
        · exact tOk_e
        · exact tOk_e
        · exact tOk_c
        · exact tOk_e
        · exact tOk_e
      · rw [List.mem_singleton.mp hg]; exact tOk_c
    · exact tOk_e
theorem laid_tells (ws : List Str) : ∀ g ∈ laidOf (ws.map cpsOf), TOk g := by
  have := laid_rev (P := TOk) (fun t e => nomatch e) (ws.map cpsOf).reverse (fun y _ => sgWord_tells y)
  rwa [List.reverse_reverse] at this
noncomputable def COk (g : Sg) : Prop := g.1 ≠ 92 ∧ g.1 < 1114112
theorem sgWord_codes {x : List Nat} (h : ∀ c ∈ x, c ≠ 92 ∧ c < 1114112) : ∀ g ∈ sgWord x, COk g := by
  intro g hg
  unfold sgWord at hg
  split at hg
  · obtain ⟨c, hc, rfl⟩ := List.mem_map.mp hg
    exact h c hc
  · simp only [List.mem_append, List.mem_singleton, List.mem_flatMap] at hg
    rcases hg with (rfl | ⟨c, hc, hg⟩) | rfl
    · exact ⟨by decide, by decide⟩
    · unfold sgIn at hg
      split at hg
      · simp only [List.mem_cons, List.not_mem_nil, or_false] at hg
        rcases hg with rfl | rfl | rfl | rfl | rfl <;> exact ⟨by decide, by decide⟩
      · rw [List.mem_singleton.mp hg]; exact h c hc
    · exact ⟨by decide, by decide⟩
theorem laid_codes {ws : List Str} (h : ∀ x ∈ ws, NoBs x) : ∀ g ∈ laidOf (ws.map cpsOf), COk g := by
  have := laid_rev (P := COk) ⟨by decide, by decide⟩ (ws.map cpsOf).reverse (fun y hy => by
    obtain ⟨x, hx, rfl⟩ := List.mem_map.mp (List.mem_reverse.mp hy)
    exact sgWord_codes fun c hc => h x hx c (Array.mem_toList_iff.mp hc))
  rwa [List.reverse_reverse] at this
theorem nobs_list {x : Str} (h : ∀ c ∈ cpsOf x, c ≠ 92 ∧ c < 1114112) : NoBs x := fun c hc => h c (Array.mem_toList_iff.mpr hc)
theorem line_nobs {ws : List Str} (h : ∀ x ∈ ws, NoBs x) : NoBs (lineOf ws) := by
  refine nobs_list fun c hc => ?_
  rw [line_codes] at hc
  obtain ⟨g, hg, rfl⟩ := List.mem_map.mp hc
  exact laid_codes h g hg
theorem cram_nobs {x : Str} {n : Int} (h : NoBs x) (hn : -1 ≤ n) : NoBs (cramOf x n) := by
  refine nobs_list fun c hc => ?_
  have hx : ∀ c ∈ cpsOf x, c ≠ 92 ∧ c < 1114112 := fun c hc => h c (Array.mem_toList_iff.mp hc)
  rw [cram_codes x hn] at hc
  unfold cutCodes at hc
  split at hc
  · dsimp only at hc
    rcases List.mem_append.mp hc with hc | hc
    · rcases List.mem_append.mp hc with hc | hc
      · exact hx c (List.mem_of_mem_take hc)
      · simp only [dots, List.mem_cons, List.not_mem_nil, or_false, or_self] at hc
        rw [hc]; exact ⟨by decide, by decide⟩
    · exact hx c (List.mem_of_mem_drop hc)
  · exact hx c hc
theorem line_len (ws : List Str) : (lineOf ws).length = (laidOf (ws.map cpsOf)).length := by
  have := congrArg List.length (line_codes ws)
  rw [codes, List.length_map] at this
  rw [← this]
  simp [cpsOf, Str.length]
theorem cram_len (x : Str) {n : Int} (hn : -1 ≤ n) : (cramOf x n).length ≤ x.length + 3 + x.length := by
  have h1 : (cramOf x n).length = (cpsOf (cramOf x n)).length := by simp [cpsOf, Str.length]
  have h2 : x.length = (cpsOf x).length := by simp [cpsOf, Str.length]
  rw [h1, h2, cram_codes x hn]
  unfold cutCodes
  split
  · simp only [List.length_append, List.length_take, List.length_drop, dots, List.length_cons, List.length_nil]; omega
  · omega
theorem law_eq {ws : List Str} (h : ws ≠ []) {n : Int} (hn : -1 ≤ n) : lexAll (some (cramOf (lineOf ws) n).cps.toList) = dueOf (laidOf (ws.map cpsOf)) n := by
  show lexAll (some (cpsOf (cramOf (lineOf ws) n))) = _
  rw [cram_codes _ hn, line_codes]
  exact due_law (by simpa using h) n
theorem laid_pos {ws : List Str} (h : ws ≠ []) : 0 < (laidOf (ws.map cpsOf)).length :=
  List.length_pos_iff.mpr (laid_str1 (ws := ws.map cpsOf) (by simpa using h)).hne
theorem join_line (ws : List Str) : Txt.join (Str.ofString "") ((laidOf (ws.map cpsOf)).map fun g => (⟨#[g.1]⟩ : Str)) = lineOf ws := by
  refine str_ext ?_
  rw [line_codes]
  have := glue_signs (codes (laidOf (ws.map cpsOf)))
  rw [codes, List.map_map] at this
  exact this
theorem firsts_weight : ∀ (sg : List Sg), ((sg.map fun g => (⟨#[g.1]⟩ : Str)).map (·.length)).sum = sg.length
  | [] => rfl
  | g :: r => by
    have ih := firsts_weight r
    simp only [List.map_cons, List.sum_cons, List.length_cons]
    rw [ih]
    show 1 + r.length = _
    omega
section
variable {prog : Program} {w : World} {p : Program} {loose : List Str} {mean : ExcName → Option Value} {mg mb : Str → Option Value}
  {gd : Option (List Code)} {cn : Str} {cs : Scope} {a : Addr} {ccd : Value} {A₀ : Around} {h₀ : Heap} {L : Addr} {m : Str → Option Value} {news : List (Addr × Obj)}
  {s : Shared} {Q E : Value → Shared → Prop}
theorem c_cramF {text : Str} {n : Int} {t1 t2 : Tok} (F : Fr h₀ L s.heap m) (X : (hd.heap_1 w.params).In h₀) (T : Top p loose mean mg mb h₀) (N : News h₀ L s.heap news) (hk : cs.kind = .function) (hlen : text.length ≤ 4000) (hn : -2 ≤ n) (hn2 : n ≤ 5000)
   (h : ∀ t' h' tk', Fr h₀ L h' m → News h₀ L h' news → Q (.str (cramOf text n) t') { s with heap := h', toks := tk' }) :
   wpAny (model prog w) (ktrTop 490 500 gd cn cs L a ccd [] []) (call (.ref 51) [.str text t1, .int n t2]) Q E s :=
  c_cram (below_caller h₀) F X T hk hlen hn hn2 fun t' h' tk' F' st => h t' h' tk' F' (News.stays N st)
theorem c_toldF {text : Str} {t1 : Tok} (F : Fr h₀ L s.heap m) (X : (hd.heap_1 w.params).In h₀) (T : Top p loose mean mg mb h₀) (N : News h₀ L s.heap news) (hk : cs.kind = .function) (hlen : text.length ≤ 4000) (hbs : NoBs text)
    (hV : ∀ D ws us cc h' tk', lexAll (some text.cps.toList) = some ws → StrsAre us ws → Fr h₀ L h' m → News h₀ L h' ((D, W.listOf us.toArray cc) :: news) → Q (.ref D) { s with heap := h', toks := tk' })
    (hE : ∀ tm h' tk', lexAll (some text.cps.toList) = none → Fr h₀ L h' m → News h₀ L h' news → Q (.str (Str.ofString "No closing quotation") tm) { s with heap := h', toks := tk' }) :
    wpAny (model prog w) (ktrTop 330 100 gd cn cs L a ccd [] []) (call (.ref 799) [.str text t1]) Q E s :=
  c_told (below_caller h₀) F X T hk X T hlen hbs
    (fun D ws us cc h' tk' e hs F' k N' => hV D ws us cc h' tk' e hs F' fun q hq => by
      rcases List.mem_cons.mp hq with e | hq
      · exact N' q (e ▸ .head _)
      · exact ⟨k _ _ (N q hq).1 (N q hq).2.1, (N q hq).2⟩)
    (fun tm h' tk' e F' k => hE tm h' tk' e F' fun q hq => ⟨k _ _ (N q hq).1 (N q hq).2.1, (N q hq).2⟩)
theorem c_wordsF {l : Addr} {vs : List Value} {ns : List Int} (F : Fr h₀ L s.heap m) (X : (hd.heap_1 w.params).In h₀) (T : Top p loose mean mg mb h₀) (N : News h₀ L s.heap news) (hk : cs.kind = .function) (hl : s.heap.IsList l vs.toArray) (hi : IntsAre vs ns) (hn : ns.length ≤ 8) (hb : ∀ n ∈ ns, 0 ≤ n ∧ n < 17793024)
   (h : ∀ D us ws c h' tk', StrsAre us ws → WordsOk ns.length ws → Fr h₀ L h' m → News h₀ L h' ((D, W.listOf us.toArray c) :: news) → Q (.ref D) { s with heap := h', toks := tk' }) :
   wpAny (model prog w) (ktrTop 330 100 gd cn cs L a ccd [] []) (call (.ref 780) [.ref l]) Q E s :=
  c_words (below_caller h₀) F X T hk N hl hi hn hb fun D us ws c h' tk' h1 h2 _ F' N' _ => h D us ws c h' tk' h1 h2 F' N'
end
noncomputable def NOk (g : Sg) : Prop := ∀ t, g.2.2 = some t → NoBs t
theorem nOk_e {c : Nat} {pl : Pl} : NOk (c, pl, some sE) := fun t e => by
  rw [← Option.some.inj e]; exact noBs_of (by decide +kernel)
theorem nOk_c {c k : Nat} {pl : Pl} (h : k ≠ 92 ∧ k < 1114112) : NOk (c, pl, some ⟨#[k]⟩) := fun t e => by
  rw [← Option.some.inj e]
  intro d hd
  simp only [List.mem_toArray, List.mem_singleton] at hd
  rw [hd]; exact h
theorem sgWord_nobs {x : List Nat} (h : ∀ c ∈ x, c ≠ 92 ∧ c < 1114112) : ∀ g ∈ sgWord x, NOk g := by
  intro g hg
  unfold sgWord at hg
  split at hg
  · obtain ⟨c, hc, rfl⟩ := List.mem_map.mp hg
    exact nOk_c (h c hc)
  · simp only [List.mem_append, List.mem_singleton, List.mem_flatMap] at hg
    rcases hg with (rfl | ⟨c, hc, hg⟩) | rfl
    · exact nOk_e
    · unfold sgIn at hg
      split at hg
      · simp only [List.mem_cons, List.not_mem_nil, or_false] at hg
        rcases hg with rfl | rfl | rfl | rfl | rfl
        · exact nOk_e
        · exact nOk_e
        · exact nOk_c ⟨by decide, by decide⟩
        · exact nOk_e
        · exact nOk_e
      · rw [List.mem_singleton.mp hg]; exact nOk_c (h c hc)
    · exact nOk_e
theorem laid_nobs {ws : List Str} (h : ∀ x ∈ ws, NoBs x) : ∀ g ∈ laidOf (ws.map cpsOf), NOk g := by
  have := laid_rev (P := NOk) (fun t e => nomatch e) (ws.map cpsOf).reverse (fun y hy => by
    obtain ⟨x, hx, rfl⟩ := List.mem_map.mp (List.mem_reverse.mp hy)
    exact sgWord_nobs fun c hc => h x hx c (Array.mem_toList_iff.mp hc))
  rwa [List.reverse_reverse] at this
theorem wf_nobs : ∀ (l : List Sg) (cur : Str), NoBs cur → (∀ g ∈ l, NOk g) → ∀ x ∈ wf cur l, NoBs x
  | [], cur, hc, _, x, hx => by rw [List.mem_singleton.mp hx]; exact hc
  | (_, _, none) :: r, cur, hc, h, x, hx => by
    rw [wf] at hx
    rcases List.mem_cons.mp hx with e | hx
    · rw [e]; exact hc
    · exact wf_nobs r sE (noBs_of (by decide +kernel)) (fun g hg => h g (.tail _ hg)) x hx
  | (_, _, some t) :: r, cur, hc, h, x, hx => by
    rw [wf] at hx
    exact wf_nobs r (cur ++ t) (noBs_append hc (h _ (.head _) t rfl)) (fun g hg => h g (.tail _ hg)) x hx
theorem due_nobs {sg : List Sg} (h : ∀ g ∈ sg, NOk g) {n : Int} {ws : List Str} (e : dueOf sg n = some ws) : ∀ x ∈ ws, NoBs x := by
  have he : NoBs sE := noBs_of (by decide +kernel)
  have hd : NoBs (Str.ofString ".") := noBs_of (by decide +kernel)
  unfold dueOf at e
  split at e
  · dsimp only at e
    rw [cut_hd] at e
    split at e
    · rw [← Option.some.inj e]
      refine wf_nobs _ _ he fun g hg => ?_
      rcases List.mem_append.mp hg with hg | hg
      · rcases List.mem_append.mp hg with hg | hg
        · exact h g (List.mem_of_mem_take hg)
        · simp only [List.mem_cons, List.not_mem_nil, or_false, or_self] at hg
          rw [hg]
          intro t ht
          rw [← Option.some.inj ht]; exact hd
      · exact h g (List.mem_of_mem_drop hg)
    · cases e
  · rw [← Option.some.inj e]
    exact wf_nobs _ _ he h
section
variable {prog : Program} {w : World} {s : Shared} {Q E : Value → Shared → Prop}
theorem ne_words {A : Around} {D D' : Addr} {us us' : List Value} {ws ws' : List Str} {c k : Nat} (h1 : s.heap.get? D = some (W.listOf us.toArray c)) (h2 : s.heap.get? D' = some (W.listOf us'.toArray k)) (i1 : StrsAre us ws) (i2 : StrsAre us' ws') (ew : ws = ws') (ok : ∀ x ∈ ws', NoBs x) (hu : A.units + 64 < cLine)
    (h : Q (.bool false) s) : wpAny (model prog w) A (compareOp .NotEq (.ref D) (.ref D')) Q E s := by
  subst ew
  refine ne_strs ⟨_, h1, rfl, _, rfl⟩ i1 ⟨_, h2, rfl, _, rfl⟩ i2 ok ok hu ?_
  rw [decide_eq_true rfl]; exact h
end
end Mine

namespace Mine
open PySem PySem.W PyProof.Rows PySem.Calls PySem.Spec
theorem kw_93 : True := by
  w_top off
  k_with_none
  trivial
theorem kw_94 : True := by
  k_with "setItem ref int" => (k_here; (with_reducible show wpAny _ _ (setItem (Value.ref _) (Value.int _ _) _) _ _ _); k_dflt (refine' setItem_last ?k1q94 ?k2q94 ?k3q94 ?_; (case k1q94 => k_asm); (case k2q94 => k_asm); (case k3q94 => k_upd); k_whole); intro h9Z F9Z N9Z; (try k_sweep); (try dsimp only))
  trivial
theorem kw_95 : True := by
  k_with "call builtin:list.append" => (k_here; (with_reducible show wpAny _ _ (call (Value.builtin _) [Value.ref _, _]) _ _ _); k_dflt (refine' append_L ?k1q95 ?k2q95 ?k3q95 ?k4q95 ?_; (case k1q95 => k_asm); (case k2q95 => k_asm); (case k3q95 => k_upd); (case k4q95 => (simp only [List.length_append, List.length_cons, List.length_nil, sizeLine_eq]; omega)); k_whole); intro h9Z F9Z N9Z; (try k_sweep); (try dsimp only))
  trivial
theorem kw_96 : True := by
  k_with "subscriptTail Name UnaryOp ref int" => (k_here; (with_reducible show wpAny _ _ (subscriptTail _ _ (Value.ref _) (Value.int _ _)) _ _ _); k_dflt (refine' item_last ?k1q96 ?_ ?k3q96; (case k1q96 => is_list); (case k3q96 => with_unfolding_all rfl); k_whole); (try dsimp only))
  trivial

theorem kw_97 : True := by
  k_with "all" => (assumption)
  trivial
theorem mem_sum {x : Str} : ∀ {ws : List Str}, x ∈ ws → x.length ≤ (ws.map Str.length).sum
  | y :: r, h => by
    simp only [List.map_cons, List.sum_cons]
    rcases List.mem_cons.mp h with e | h
    · rw [e]; omega
    · have := mem_sum h; omega
theorem fmods {ns : List Int} (_h : ns ≠ []) : ∀ n ∈ ns.map (fun k' => k'.fmod 17793024), 0 ≤ n ∧ n < 17793024 := by
  intro n hn
  obtain ⟨x, _, rfl⟩ := List.mem_map.mp hn
  exact ⟨fmod_lo x (by decide), fmod_hi x (by decide)⟩
theorem sub0 {α : Type} {l m : List α} (h : ∀ q ∈ l, q ∈ m) : ∀ q ∈ l, q ∈ m := h
theorem sub1 {α : Type} {l m : List α} {a : α} (h : ∀ q ∈ l, q ∈ m) : ∀ q ∈ l, q ∈ a :: m := fun q hq => .tail _ (h q hq)
theorem sub2 {α : Type} {l m : List α} {a b : α} (h : ∀ q ∈ l, q ∈ m) : ∀ q ∈ l, q ∈ a :: b :: m := fun q hq => .tail _ (.tail _ (h q hq))
theorem eq_words {z : Option (List Nat)} {sg : List Sg} {n : Int} {a b : List Str} (e : lexAll z = some a) (f : dueOf sg n = some b) (h : lexAll z = dueOf sg n) : a = b := Option.some.inj (e.symm.trans (h.trans f))
theorem mix1 {z : Option (List Nat)} {sg : List Sg} {n : Int} {a : List Str} (e : lexAll z = some a) (f : dueOf sg n = none) (h : lexAll z = dueOf sg n) : False := by rw [h, f] at e; cases e
theorem mix2 {z : Option (List Nat)} {sg : List Sg} {n : Int} {a : List Str} (e : lexAll z = none) (f : dueOf sg n = some a) (h : lexAll z = dueOf sg n) : False := by rw [h, f] at e; cases e
theorem news_headAt {g h : Heap} {L D : Addr} {o : Obj} {r : List (Addr × Obj)} (N : News g L h ((D, o) :: r)) : h.get? D = some o := (N _ (.head _)).1
theorem kw_98 : True := by
  k_with "call ref" => (k_here; (with_reducible show wpAny _ _ (call (Value.ref 780) _) _ _ _); k_dflt (refine wpAny_room (A' := ktrTop 330 100 _ _ _ _ _ _ [] []) ?_ rfl (Nat.le_of_ble_eq_true rfl) rfl rfl (Nat.le_of_ble_eq_true rfl); refine' c_wordsF ?Fq98 ?Xq98 ?Tq98 ?Nq98 ?hkq98 ?hlq98 ?hiq98 ?hnq98 ?hbq98 ?_; (case Fq98 => k_asm); (case Xq98 => k_asm); (case Tq98 => k_asm); (case Nq98 => k_asm); (case hkq98 => exact rfl); (case hlq98 => kmk_list); (case hiq98 => assumption); (case hnq98 => (rw [List.length_map]; assumption)); (case hbq98 => exact fmods (by assumption))); intro D9Z us9Z ws9Z c9Z h9Z tk9Z hs9Z hw9Z F9Z N9Z; (try k_sweep); (try dsimp only))
  trivial
theorem kw_99 : True := by
  k_with "call ref" => (k_here; (with_reducible show wpAny _ _ (call (Value.ref 785) _) _ _ _); k_dflt (refine wpAny_room (A' := topQ _ _) ?_ rfl (Nat.le_of_ble_eq_true rfl) rfl rfl (Nat.le_of_ble_eq_true rfl); refine' c_laidF ?Fq99 ?Xq99 ?Tq99 ?Nq99 ?hlq99 ?hiq99 ?hnq99 ?hlenq99 ?hbsq99 ?_; (case Fq99 => k_asm); (case Xq99 => k_asm); (case Tq99 => k_asm); (case Nq99 => k_asm); (case hlq99 => kmk_list); (case hiq99 => assumption); (case hnq99 => assumption); (case hlenq99 => assumption); (case hbsq99 => assumption)); intro D9Z us9Z c9Z tl9Z h9Z tk9Z hd9Z F9Z N9Z ht9Z; (try dsimp only))
  trivial
theorem kw_100 : True := by
  k_with "call ref" => (k_here; (with_reducible show wpAny _ _ (call (Value.ref 51) _) _ _ _); k_dflt (refine wpAny_room (A' := ktrTop 490 500 _ _ _ _ _ _ [] []) ?_ rfl (Nat.le_of_ble_eq_true rfl) rfl rfl (Nat.le_of_ble_eq_true rfl); refine' c_cramF ?Fq100 ?Xq100 ?Tq100 ?Nq100 ?hkq100 ?hlq100 ?hnq100 ?hmq100 ?_; (case Fq100 => k_asm); (case Xq100 => k_asm); (case Tq100 => k_asm); (case Nq100 => k_asm); (case hkq100 => exact rfl); (case hlq100 => omega); (case hnq100 => omega); (case hmq100 => omega)); intro t9Z h9Z tk9Z F9Z N9Z; (try dsimp only))
  trivial
theorem kw_101 : True := by
  k_with "call ref" => (k_here; (with_reducible show wpAny _ _ (call (Value.ref 799) _) _ _ _); k_dflt (refine wpAny_room (A' := ktrTop 330 100 _ _ _ _ _ _ [] []) ?_ rfl (Nat.le_of_ble_eq_true rfl) rfl rfl (Nat.le_of_ble_eq_true rfl); refine' c_toldF ?Fq101 ?Xq101 ?Tq101 ?Nq101 ?hkq101 ?hlq101 ?hbq101 ?_ ?_; (case Fq101 => k_asm); (case Xq101 => k_asm); (case Tq101 => k_asm); (case Nq101 => k_asm); (case hkq101 => exact rfl); (case hlq101 => assumption); (case hbq101 => assumption)); (all_goals first | (intro D9Z ws9Z us9Z cc9Z h9Z tk9Z e9Z hs9Z F9Z N9Z; (try dsimp only)) | (intro t9Z h9Z tk9Z e9Z F9Z N9Z; (try dsimp only))))
  trivial
theorem kw_102 : True := by
  k_with "call ref" => (k_here; (with_reducible show wpAny _ _ (call (Value.ref 792) _) _ _ _); k_dflt (refine wpAny_room (A' := topQ _ _) ?_ rfl (Nat.le_of_ble_eq_true rfl) rfl rfl (Nat.le_of_ble_eq_true rfl); refine' c_dueF ?Fq102 ?Xq102 ?Tq102 ?Nq102 ?hlq102 ?htq102 ?hdq102 ?okq102 ?h4q102 ?h0q102 ?h1q102 ?n1q102 ?n2q102 ?_ ?_; (case Fq102 => k_asm); (case Xq102 => k_asm); (case Tq102 => k_asm); (case Nq102 => k_asm); (case hlq102 => first | assumption | exact List.mem_cons_of_mem _ (by assumption) | exact List.mem_cons_of_mem _ (List.mem_cons_of_mem _ (by assumption))); (case hdq102 => with_reducible assumption); (case htq102 => first | exact sub0 (by assumption) | exact sub1 (by assumption) | exact sub2 (by assumption)); (case okq102 => assumption); (case h4q102 => assumption); (case h0q102 => assumption); (case h1q102 => assumption); (case n1q102 => omega); (case n2q102 => omega)); (all_goals first | (intro ws8Z D8Z us8Z k8Z h8Z tk8Z e8Z hs8Z F8Z N8Z kp8Z hD8Z; (try dsimp only)) | (intro t8Z h8Z tk8Z e8Z F8Z N8Z; (try dsimp only))))
  trivial
theorem kw_103 : True := by
  k_with "call ref" => (k_here; (with_reducible show wpAny _ _ (call (Value.ref 758) _) _ _ _); k_dflt (refine wpAny_room (A' := topJ _ _) ?_ rfl (Nat.le_of_ble_eq_true rfl) rfl rfl (Nat.le_of_ble_eq_true rfl); refine' c_joinF ?Fq103 ?Xq103 ?Tq103 ?Nq103 ?Gq103 ?hcq103 ?htq103 ?hPq103 ?hlq103 ?hiq103 ?hnq103 ?hlenq103 ?_; (case Fq103 => k_asm); (case Xq103 => k_asm); (case Tq103 => k_asm); (case Nq103 => k_asm); (case Gq103 => assumption); (case hcq103 => assumption); (case htq103 => assumption); (case hPq103 => assumption); (case hlq103 => first | assumption | kmk_list); (case hiq103 => assumption); (case hnq103 => assumption); (case hlenq103 => assumption)); intro ps9Z t9Z s9Z G9Z os9Z X9Z T9Z F9Z N9Z; (try dsimp only))
  trivial
theorem kw_104 : True := by
  k_with "eval ListComp" => (k_here; (with_reducible show wpAny _ _ (eval (Expr.ListComp (Expr.Subscript _ _ _) _ _ _) _) _ _ _); k_dflt (refine' comp_firsts rfl ?Fq104 ?Nq104 ?hlq104 ?htq104 ?hdq104 ?clq104 ?c1q104 ?c2q104 ?c3q104 ?c4q104 ?c5q104 ?c7q104 ?c8q104 ?c9q104 ?itq104 ?_; (case Fq104 => k_asm); (case Nq104 => k_asm); (case hlq104 => first | assumption | k_memK); (case hdq104 => with_reducible assumption); (case htq104 => assumption); (case clq104 => with_unfolding_all rfl); (case c1q104 => decide); (case c2q104 => rfl); (case c3q104 => decide); (case c4q104 => rfl); (case c5q104 => exact fun _ => rfl); (case c7q104 => exact fun _ => rfl); (case c8q104 => (intro _; with_unfolding_all rfl)); (case itq104 => (intro Q9Z h9Z; exact ld (by assumption) rfl h9Z)); (case c9q104 => omega); intro D9Z ys9Z n9Z h9Z tk9Z hs9Z F9Z N9Z; (try dsimp only)))
  trivial
theorem kw_105 : True := by
  k_with "call builtin:str.join" => (k_here; k_dflt (refine' join_listW ?hlq105 ?hiq105 ?hzq105 ?hwq105 ?_; (case hlq105 => kmk_list); (case hiq105 => (rw [List.toList_toArray]; assumption)); (case hzq105 => decide +kernel); (case hwq105 => assumption)); intro t9Z tk9Z; (try dsimp only))
  trivial
theorem kw_106 : True := by
  k_with "compareOp NotEq str str" => (k_here; k_dflt (refine ne_by (by with_reducible assumption) ?_); (try dsimp only [Bool.not_true, Bool.not_false]))
  trivial
theorem kw_107 : True := by
  k_with "compareOp NotEq ref ref" => (k_here; k_dflt (refine' ne_words ?h1q107 ?h2q107 ?i1q107 ?i2q107 ?ewq107 ?okq107 ?huq107 ?_; (case h2q107 => with_reducible assumption); (case i2q107 => with_reducible assumption); (case h1q107 => exact news_headAt (by k_asm)); (case i1q107 => with_reducible assumption); (case ewq107 => exact eq_words (by with_reducible assumption) (by with_reducible assumption) (by with_reducible assumption)); (case okq107 => exact (by assumption : ∀ (n : Int) ws', dueOf _ n = some ws' → ∀ x ∈ ws', NoBs x) _ _ (by with_reducible assumption)); (case huq107 => exact Nat.le_of_ble_eq_true rfl)))
  trivial
theorem kw_108 : True := by
  k_with "compareOp NotEq str str" => (k_here; k_dflt (first | refine ne_by (by with_reducible assumption) ?_ | refine ne_by (beq_self_eq_true _) ?_); (try dsimp only [Bool.not_true, Bool.not_false]))
  trivial
theorem kw_109 : True := by
  k_with "compareOp NotEq ref str" => (k_here; exact (mix1 (by with_reducible assumption) (by with_reducible assumption) (by with_reducible assumption)).elim)
  trivial
theorem kw_110 : True := by
  k_with "compareOp NotEq str ref" => (k_here; exact (mix2 (by with_reducible assumption) (by with_reducible assumption) (by with_reducible assumption)).elim)
  trivial
noncomputable def LineP (w : World) (s₁ : Shared) (P : Addr) (mean : ExcName → Option Value) (mg mb : Str → Option Value) (line : Str) (Dl : Addr) (nf : List (Addr × Obj)) (s' : Shared) : Prop :=
  ∃ ps' t p' lo, ∃ m₀ : Str → Option Value, AllBare s'.gens ∧ s'.os = s₁.os ∧ (hd.heap_1 w.params).In (regrown s₁.heap P ps') ∧ Top p' lo mean mg mb (regrown s₁.heap P ps') ∧
    Fr (regrown s₁.heap P ps') s₁.heap.objs.size s'.heap (fun y => if y = Str.ofString "line" then some (.str line t) else m₀ y) ∧ m₀ (Str.ofString "laid") = some (.ref Dl) ∧ News (regrown s₁.heap P ps') s₁.heap.objs.size s'.heap nf
theorem news_head1 {g h : Heap} {L : Addr} {q : Addr × Obj} {r : List (Addr × Obj)} (N : News g L h (q :: r)) : News g L h [q] := fun p hp => N p (by rw [List.mem_singleton.mp hp]; exact .head _)
theorem news_tail1 {g h : Heap} {L : Addr} {q : Addr × Obj} {r : List (Addr × Obj)} (N : News g L h (q :: r)) : News g L h r := fun p hp => N p (.tail _ hp)
theorem law_walk : PySem.Challenge.rw_mj0256_01.Holds := by
  refine holds_law wellS fun said => holds_open (q := hd.view_1) (loose := looseL) (Xt := fun s => xlAt hd.view_1 [] s && recOk (RowW.records lawR) s) (XP := XL hd.view_1 []) (Yf := hook.obs) (Ya := hook.val) (YP := hook.says) (N := 10398) left0 hook.of hook.keeps
    (fun s e => xl_of s (Bool.and_eq_true_iff.mp e).1) XL.keeps (by rfl) (by rfl) (by rfl) (fun s e => recFacts_of (Bool.and_eq_true_iff.mp e).2) rfl said ok0 bare0 promised0 ?_
  clear said
  k_fill
  intro w s₀ s₁ mg mb G Y fa o pm cd doc dV kV ho hd' hcd hD hmg hg args vals as hpre hlay hrd hwl hlo
  have KX := kIn_of Y
  refine Ground.open G ?_
  intro T B D TE TW
  (try (refine guard_noD D (by decide +kernel) ?_; clear D))
  clear hmg
  wrow_args hpre hlay hrd hwl hlo
  all_goals (
    first | refine callC_kw (enter_call ?_) | refine enter_call ?_ | refine callC_kw (enter_callW ?_) | refine enter_callW ?_ | w_how
    w_top on
    have K0 := below_caller (Top.heap T)
    w_call any ho hd' hcd hD T F
    clear hd' hcd hD
    k_drop
    skip)
  all_goals try k_fold
  rename_i ns hs g1 g2 g3 g4 wA wB l vs wC hL ra w1 r0 hI hr hcond1 hcond2 h₁ N
  clear hr r0 w1 ra hcond2 g1 g2 g3 g4
  try clear TE TW
  try clear B
  have eN0 := N
  (try dsimp only)
  obtain ⟨P, hPc, hPt, hPs⟩ := join_tab KX T
  generalize hd.view_1 = pr at T
  refine cutS (by k_asm) (Str.ofString "drawn") (fun v nw => ∃ D us ns' c, v = .ref D ∧ nw = [(D, W.listOf us.toArray c)] ∧ IntsAre us ns' ∧ ns'.length ≤ 8 ∧ ns' ≠ []) ?_ ?_
  · by_cases hz : ns = []
    · k_steps
      rename_i F9 N9
      exact ⟨_, _, _, _, rfl, by k_asm, (news_head1 N9), ⟨_, _, [6, 2, 6, 0, 5, 4, 0], _, rfl, rfl, .cons _ _ (.cons _ _ (.cons _ _ (.cons _ _ (.cons _ _ (.cons _ _ (.cons _ _ .nil)))))), by decide, by decide⟩⟩
    · k_steps
      rename_i hI9 hC9 hL9 l9 h9 F9 N9
      exact ⟨_, _, _, _, rfl, by k_asm, (news_head1 N9), ⟨_, _, _, _, rfl, rfl, hI9, by omega, fun e => hz (by cases ns with | nil => rfl | cons a r => exact absurd e (by simp))⟩⟩
  · clear eN0 F N hL hI hs hcond1
    rintro _ nw h₂ tk₂ ⟨D, us, ns', c, rfl, rfl, hI, hnl, hnn⟩ F N
    (try dsimp only at F N ⊢)
    refine cutS (by k_asm) (Str.ofString "words") (fun v nw => ∃ D us ws c, v = .ref D ∧ nw = [(D, W.listOf us.toArray c)] ∧ StrsAre us ws ∧ WordsOk 8 ws ∧ ws ≠ []) ?_ ?_
    · k_steps
      rename_i h9 F9 N9
      have hs9 := hs9Z
      have hw9 := hw9Z
      refine ⟨_, _, _, _, rfl, by k_asm, (news_head1 N9), ⟨_, _, _, _, rfl, rfl, hs9, ?_, ?_⟩⟩
      · rw [List.length_map] at hw9
        obtain ⟨q1, q2, q3, q4⟩ := hw9
        exact ⟨fun _ e => by rw [e] at q1; exact absurd (q1 (List.length_pos_iff.mpr hnn)) (by simp), by omega, by omega, q4⟩
      · refine hw9.1 ?_
        rw [List.length_map]
        exact List.length_pos_iff.mpr hnn
    · clear F N hI hnl hnn
      rintro _ nw h₃ tk₃ ⟨Dw, usw, ws, cw, rfl, rfl, hsw, hww, hwn⟩ F N
      (try dsimp only at F N ⊢)
      have hw8 : ws.length ≤ 8 := hww.2.1
      have hwl : ∀ x ∈ ws, x.length ≤ 8 := fun x hx => Nat.le_trans (mem_sum hx) hww.2.2.1
      have hwb : ∀ x ∈ ws, NoBs x := hww.2.2.2
      refine cutS (by k_asm) (Str.ofString "laid") (fun v nw => ∃ Dl usl cl tl, v = .ref Dl ∧ nw = (Dl, W.listOf usl.toArray cl) :: (tl ++ [(Dw, W.listOf usw.toArray cw)]) ∧ DatAll tl usl (sgDats (laidOf (ws.map cpsOf)))) ?_ ?_
      · k_steps
        rename_i h9 F9 N9
        have hd9 := hd9Z
        exact ⟨_, _, _, _, rfl, by k_asm, N9, ⟨_, _, _, _, rfl, rfl, hd9⟩⟩
      · clear F N
        rintro _ nw h₄ tk₄ ⟨Dl, usl, cl, tl, rfl, rfl, hdl⟩ F N
        (try dsimp only at F N ⊢)
        have hG : AllBare s₁.gens := .of_eq hg
        have hlw : h₄.IsList Dw usw.toArray := ⟨_, (N (Dw, W.listOf usw.toArray cw) (.tail _ (List.mem_append_right _ (.head _)))).1, rfl, _, rfl⟩
        refine execs_cut (a := [_]) (LineP w s₁ P (ExcName.means s₀.heap) mg mb (lineOf ws) Dl ((Dl, W.listOf usl.toArray cl) :: (tl ++ [(Dw, W.listOf usw.toArray cw)]))) ?_ ?_
        · k_steps
          exact ⟨_, _, _, _, _, by assumption, by assumption, by assumption, by assumption, by k_asm, rfl, by k_asm⟩
        · clear F N
          rintro s₅ ⟨ps', tl5, p', lo, m₀, hG5, hos5, X5, T5, F5, hm5, N5⟩
          have hold : ∀ {h : Heap}, (∀ b o, (regrown s₁.heap P ps').get? b = some o → h.get? b = some o) → OldK s₁.heap h := fun k => regrown_old hPc hPt hPs k
          have K5 := below_caller (regrown s₁.heap P ps')
          have F6 := fr_at F5 (x := Str.ofString "laid") (v := .ref Dl) (by rw [if_neg (by decide)]; exact hm5)
          clear F5 hm5 hlw K0 T KX hPc hPt hPs hG hww hsw
          generalize regrown s₁.heap P ps' = R at *
          have hok : ∀ d ∈ sgDats (laidOf (ws.map cpsOf)), kqdOk 8 d = true := laid_ok hwb
          have hsl : (laidOf (ws.map cpsOf)).length ≤ 400 := Nat.le_trans (laid_len hwl) (by omega)
          have hs0 : 0 < (laidOf (ws.map cpsOf)).length := laid_pos hwn
          have hs1 : ∀ x ∈ laidOf (ws.map cpsOf), ∀ t, x.2.2 = some t → t.length ≤ 1 := laid_tells ws
          have hb : (lineOf ws == Txt.join (Str.ofString "") ((laidOf (ws.map cpsOf)).map fun g => (⟨#[g.1]⟩ : Str))) = true := by rw [join_line]; exact beq_self_eq_true _
          have hwj : (((laidOf (ws.map cpsOf)).map fun g => (⟨#[g.1]⟩ : Str)).map (·.length)).sum + ((laidOf (ws.map cpsOf)).map fun g => (⟨#[g.1]⟩ : Str)).length ≤ 1048576 := by
            rw [firsts_weight, List.length_map]; omega
          have heq : ∀ n : Int, -1 ≤ n → lexAll (some (cramOf (lineOf ws) n).cps.toList) = dueOf (laidOf (ws.map cpsOf)) n := fun n hn => law_eq hwn hn
          have hnb : ∀ (n : Int) ws', dueOf (laidOf (ws.map cpsOf)) n = some ws' → ∀ x ∈ ws', NoBs x := fun n ws' e => due_nobs (laid_nobs hwb) e
          have hln : (lineOf ws).length = (laidOf (ws.map cpsOf)).length := line_len ws
          have hcn : ∀ n : Int, -1 ≤ n → NoBs (cramOf (lineOf ws) n) := fun n hn => cram_nobs (line_nobs hwb) hn
          have hcl : ∀ n : Int, -1 ≤ n → (cramOf (lineOf ws) n).length ≤ (lineOf ws).length + 3 + (lineOf ws).length := fun n hn => cram_len _ hn
          generalize laidOf (ws.map cpsOf) = sg at *
          generalize lineOf ws = line at *
          clear hwl hwb hwn hw8
          have htl : ∀ q ∈ tl, q ∈ (Dl, W.listOf usl.toArray cl) :: (tl ++ [(Dw, W.listOf usw.toArray cw)]) := fun q hq => .tail _ (List.mem_append_left _ hq)
          have hDl : (Dl, W.listOf usl.toArray cl) ∈ (Dl, W.listOf usl.toArray cl) :: (tl ++ [(Dw, W.listOf usw.toArray cw)]) := .head _
          generalize (Dl, W.listOf usl.toArray cl) :: (tl ++ [(Dw, W.listOf usw.toArray cw)]) = nf at *
          repeat' ((fail_if_success (first | (with_reducible show wpAny _ _ (pyIter _) _ _ _) | (with_reducible show wpAny _ _ (exec (Stmt.While _ _ _ _) _) _ _ _) | (with_reducible show wpAny _ _ (execs (Stmt.While _ _ _ _ :: _) _) _ _ _))); (first | (k_unfold; (try dsimp only)) | (k_end; wrow_close) | walk1 | (dsimp only; walk1) | (leave1; try dsimp only) | dsimp only))
          refine iter_range [] (fun _ nw => nw = nf) rfl (by assumption) (small_one (by omega) (by omega) (by omega) (by omega)) (n := line.length + 3) ?hn (by assumption) (news_tail1 (by assumption)) rfl ?_ ?_
          · unfold Builtin.Range.rangeSize
            rw [if_pos (by decide), if_pos (by omega)]
            omega
          · rintro I i tc u news₁ hh tk o hlt hi rfl hne F7 N7
            have hc1 : (cramOf line (-1 + (i : Int))).length ≤ 4000 := by have := hcl (-1 + (i : Int)) (by omega); omega
            have hc2 := hcn (-1 + (i : Int)) (by omega)
            have hc3 := heq (-1 + (i : Int)) (by omega)
            clear hlt hcn hcl heq hold
            k_steps
            all_goals (refine' TEnd.intro ?aF ?aN hne rfl ?aM; (case aF => (dsimp only [envOf]; k_asm)); (case aN => (dsimp only [envOf]; first | (with_reducible assumption) | exact news_tail1 (by with_reducible assumption))); (case aM => (intro y h1 h2; simp [h1])))
          · rintro u news₁ hh tk rfl F7 N7
            (try dsimp only)
            k_steps
            (try dsimp only)
            refine ⟨.inl ⟨_, _, [], rfl, ?gr, ReadsW.bool true, ?gp, ?gu⟩, hold F7.keep, hos5, hG5⟩
            (case gr => exact fun _ => rfl)
            (case gp => first | rfl | wrow_post)
            (case gu => exact fun _ => ⟨List.nodup_nil, fun _ h => nomatch h⟩)
end Mine

theorem PySem.Challenge.cw_mj0256_01_holds : PySem.Challenge.rw_mj0256_01.Holds := by
  exact Mine.law_walk
