import PyProof.Rows.All
import Wide.All
import OpenK.AllK
import Wide.FinOn
import KE.KDictOf
import KE.KPairComp
import Lean
import PySem.Challenge.RW_ad5043_01
set_option maxRecDepth 100000
set_option Elab.async false
namespace Mine
open PySem PySem.W PyProof.Rows
theorem prog_bare : (PySem.Challenge.rw_ad5043_01.row).prog.bare := ⟨rfl, rfl, rfl, rfl, rfl, by decide +kernel⟩
end Mine
namespace Mine
open PySem PySem.W PyProof.Rows
set_option maxHeartbeats 8000000 in
theorem by_law (h : OpenRow.wellSaid (OpenLaw.row PySem.Challenge.rw_ad5043_01) = true → (OpenLaw.row PySem.Challenge.rw_ad5043_01).Holds) : PySem.Challenge.rw_ad5043_01.Holds := by
  o_law
  exact h (by assumption)
end Mine
namespace Mine.H
open PySem PySem.W
/-- the text's statements, read out of the row -/
def tx : List Stmt := PySem.Challenge.pw_ad5043_01.main.body
def st (i : Nat) : Stmt := tx.getD i (.Pass ⟨0, 0, 0, 0⟩)
def kd (s : Stmt) (i : Nat) : Stmt := match s with
  | .ClassDef _ _ _ b _ _ _ _ _ _ _ => b.getD i s
  | .FunctionDef _ _ b _ _ _ _ _ _ _ => b.getD i s
  | _ => s
def nam : Stmt → Str | .FunctionDef n _ _ _ _ _ _ _ _ _ => n | _ => ⟨#[]⟩
def prm : Stmt → Arguments | .FunctionDef _ a _ _ _ _ _ _ _ _ => a | _ => ⟨[], [], none, [], [], none, []⟩
def bdy : Stmt → List Stmt | .FunctionDef _ _ b _ _ _ _ _ _ _ => b | _ => []
def scp : Stmt → Scope | .FunctionDef _ _ _ _ _ _ s _ _ _ => s | _ => ⟨.module, [], false, false, []⟩
def fd (s : Stmt) (qn : Str) (g : Nat) (cl : List (Str × Addr)) (d k doc pm : Value) (an : Option Addr) (cd ct : Value) (bi : Addr) : FuncData := ⟨nam s, qn, prm s, .stmts (bdy s), scp s, g, cl, d, k, doc, pm, an, cd, ct, bi⟩
def R (a : Nat) : Value := .ref a
def I (i : Int) (t : Nat) : Value := .int i t
def V (x : String) (t : Nat) : Value := .str (Str.ofString x) t
def W (x : List Nat) (t : Nat) : Value := .str ⟨x.toArray⟩ t
def T (x : String) : Value := .type x
def U (x : String) : Value := .builtin x
def B (b : Bool) : Value := .bool b
def N : Value := .none
def E (P : Params) (x : String) (t : Nat) (v : Value) : DictEntry := ⟨PyData.keyHash P (Str.ofString x), .str (Str.ofString x) t, v⟩
def grow (o : Obj) (es : Array DictEntry) (k : Nat) : Obj := match o with
  | ⟨c, d, .dict l _, s⟩ => ⟨c, d, .dict (l.toList ++ es.toList).toArray k, s⟩
  | o => o
abbrev n := BT.node
abbrev z := BT.nil
def a0 (P : Params) : Obj := ⟨(T "dict"), none, (.dict #[E P "__name__" 1 (V "builtins" 160), E P "__doc__" 2 (U "builtins.__doc__:str#opaque"), E P "__package__" 3 (U "builtins.__package__:str#opaque"), E P "__loader__" 4 (U "builtins.__loader__:shared#opaque"), E P "__spec__" 5 (U "builtins.__spec__#opaque"), E P "__build_class__" 6 (U "__build_class__"), E P "__import__" 7 (U "__import__"), E P "abs" 8 (U "abs"), E P "all" 9 (U "all"), E P "any" 10 (U "any"), E P "ascii" 11 (U "ascii"), E P "bin" 12 (U "bin"), E P "breakpoint" 13 (U "breakpoint"), E P "callable" 14 (U "callable"), E P "chr" 15 (U "chr"), E P "compile" 16 (U "compile"), E P "delattr" 17 (U "delattr"), E P "dir" 18 (U "dir"), E P "divmod" 19 (U "divmod"), E P "eval" 20 (U "eval"), E P "exec" 21 (U "exec"), E P "format" 22 (U "format"), E P "getattr" 23 (U "getattr"), E P "globals" 24 (U "globals"), E P "hasattr" 25 (U "hasattr"), E P "hash" 26 (U "hash"), E P "hex" 27 (U "hex"), E P "id" 28 (U "id"), E P "input" 29 (U "input"), E P "isinstance" 30 (U "isinstance"), E P "issubclass" 31 (U "issubclass"), E P "iter" 32 (U "iter"), E P "aiter" 33 (U "aiter"), E P "len" 34 (U "len"), E P "locals" 35 (U "locals"), E P "max" 36 (U "max"), E P "min" 37 (U "min"), E P "next" 38 (U "next"), E P "anext" 39 (U "anext"), E P "oct" 40 (U "oct"), E P "ord" 41 (U "ord"), E P "pow" 42 (U "pow"), E P "print" 43 (U "print"), E P "repr" 44 (U "repr"), E P "round" 45 (U "round"), E P "setattr" 46 (U "setattr"), E P "sorted" 47 (U "sorted"), E P "sum" 48 (U "sum"), E P "vars" 49 (U "vars"), E P "None" 50 N, E P "Ellipsis" 51 Value.ellipsis, E P "NotImplemented" 52 Value.notImplemented, E P "False" 53 (B false), E P "True" 54 (B true), E P "bool" 55 (T "bool"), E P "memoryview" 56 (T "memoryview"), E P "bytearray" 57 (T "bytearray"), E P "bytes" 58 (T "bytes"), E P "classmethod" 59 (T "classmethod"), E P "complex" 60 (T "complex"), E P "dict" 61 (T "dict"), E P "enumerate" 62 (T "enumerate"), E P "filter" 63 (T "filter"), E P "float" 64 (T "float"), E P "frozenset" 65 (T "frozenset"), E P "property" 66 (T "property"), E P "int" 67 (T "int"), E P "list" 68 (T "list"), E P "map" 69 (T "map"), E P "object" 70 (T "object"), E P "range" 71 (T "range"), E P "reversed" 72 (T "reversed"), E P "set" 73 (T "set"), E P "slice" 74 (T "slice"), E P "staticmethod" 75 (T "staticmethod"), E P "str" 76 (T "str"), E P "super" 77 (T "super"), E P "tuple" 78 (T "tuple"), E P "type" 79 (T "type"), E P "zip" 80 (T "zip"), E P "__debug__" 81 (B true), E P "BaseException" 82 (T "BaseException"), E P "BaseExceptionGroup" 83 (T "BaseExceptionGroup"), E P "Exception" 84 (T "Exception"), E P "GeneratorExit" 85 (T "GeneratorExit"), E P "KeyboardInterrupt" 86 (T "KeyboardInterrupt"), E P "SystemExit" 87 (T "SystemExit"), E P "ArithmeticError" 88 (T "ArithmeticError"), E P "AssertionError" 89 (T "AssertionError"), E P "AttributeError" 90 (T "AttributeError"), E P "BufferError" 91 (T "BufferError"), E P "EOFError" 92 (T "EOFError"), E P "ImportError" 93 (T "ImportError"), E P "LookupError" 94 (T "LookupError"), E P "MemoryError" 95 (T "MemoryError"), E P "NameError" 96 (T "NameError"), E P "OSError" 97 (T "OSError"), E P "ReferenceError" 98 (T "ReferenceError"), E P "RuntimeError" 99 (T "RuntimeError"), E P "StopAsyncIteration" 100 (T "StopAsyncIteration"), E P "StopIteration" 101 (T "StopIteration"), E P "SyntaxError" 102 (T "SyntaxError"), E P "SystemError" 103 (T "SystemError"), E P "TypeError" 104 (T "TypeError"), E P "ValueError" 105 (T "ValueError"), E P "Warning" 106 (T "Warning"), E P "FloatingPointError" 107 (T "FloatingPointError"), E P "OverflowError" 108 (T "OverflowError"), E P "ZeroDivisionError" 109 (T "ZeroDivisionError"), E P "BytesWarning" 110 (T "BytesWarning"), E P "DeprecationWarning" 111 (T "DeprecationWarning"), E P "EncodingWarning" 112 (T "EncodingWarning"), E P "FutureWarning" 113 (T "FutureWarning"), E P "ImportWarning" 114 (T "ImportWarning"), E P "PendingDeprecationWarning" 115 (T "PendingDeprecationWarning"), E P "ResourceWarning" 116 (T "ResourceWarning"), E P "RuntimeWarning" 117 (T "RuntimeWarning"), E P "SyntaxWarning" 118 (T "SyntaxWarning"), E P "UnicodeWarning" 119 (T "UnicodeWarning"), E P "UserWarning" 120 (T "UserWarning"), E P "BlockingIOError" 121 (T "BlockingIOError"), E P "ChildProcessError" 122 (T "ChildProcessError"), E P "ConnectionError" 123 (T "ConnectionError"), E P "FileExistsError" 124 (T "FileExistsError"), E P "FileNotFoundError" 125 (T "FileNotFoundError"), E P "InterruptedError" 126 (T "InterruptedError"), E P "IsADirectoryError" 127 (T "IsADirectoryError"), E P "NotADirectoryError" 128 (T "NotADirectoryError"), E P "PermissionError" 129 (T "PermissionError"), E P "ProcessLookupError" 130 (T "ProcessLookupError"), E P "TimeoutError" 131 (T "TimeoutError"), E P "IndentationError" 132 (T "IndentationError"), E P "_IncompleteInputError" 133 (T "_IncompleteInputError"), E P "IndexError" 134 (T "IndexError"), E P "KeyError" 135 (T "KeyError"), E P "ModuleNotFoundError" 136 (T "ModuleNotFoundError"), E P "NotImplementedError" 137 (T "NotImplementedError"), E P "PythonFinalizationError" 138 (T "PythonFinalizationError"), E P "RecursionError" 139 (T "RecursionError"), E P "UnboundLocalError" 140 (T "UnboundLocalError"), E P "UnicodeError" 141 (T "UnicodeError"), E P "BrokenPipeError" 142 (T "BrokenPipeError"), E P "ConnectionAbortedError" 143 (T "ConnectionAbortedError"), E P "ConnectionRefusedError" 144 (T "ConnectionRefusedError"), E P "ConnectionResetError" 145 (T "ConnectionResetError"), E P "TabError" 146 (T "TabError"), E P "UnicodeDecodeError" 147 (T "UnicodeDecodeError"), E P "UnicodeEncodeError" 148 (T "UnicodeEncodeError"), E P "UnicodeTranslateError" 149 (T "UnicodeTranslateError"), E P "ExceptionGroup" 150 (T "ExceptionGroup"), E P "EnvironmentError" 151 (T "OSError"), E P "IOError" 152 (T "OSError"), E P "open" 153 (U "open"), E P "quit" 154 (U "builtins.quit#opaque"), E P "exit" 155 (U "builtins.exit#opaque"), E P "copyright" 156 (U "builtins.copyright#opaque"), E P "credits" 157 (U "builtins.credits#opaque"), E P "license" 158 (U "builtins.license#opaque"), E P "help" 159 (U "builtins.help#opaque")] 159), #[]⟩
def a1 (P : Params) : Obj := ⟨(T "dict"), none, (.dict #[E P "builtins" 162 (R 4), E P "__main__" 163 (R 5), E P "_sre" 244 (R 12)] 3), #[]⟩
def a2 (P : Params) : Obj := ⟨N, none, (.dict #[E P "\x69mport.loaded._sre" 183 (B true), E P "class._frozen_importlib.BuiltinImporter" 185 (R 14), E P "watched.\x69mport" 206 (R 18), E P "class._frozen_importlib.ModuleSpec" 216 (R 22), E P "sys.modules.booked-epoch" 245 (I 3 0), E P "\x69mport.later-laid._sre" 270 (B true), E P "watched.library" 272 (R 27), E P "watched.library-objects" 0 (V "\x0c" 0), E P "watched.library-deep._sre" 273 (V "\x04\x00\x00\x0b\x04\x00\x00\x0b\x04\x00\x00\x03\x04\x00\x00\x0b\x08\x04dict\x02" 0)] 9), #[]⟩
def a3 (P : Params) : Obj := ⟨(T "dict"), none, (.dict #[E P "__name__" 165 (V "__main__" 164), E P "__doc__" 166 N, E P "__package__" 167 N, E P "__loader__" 168 (U "__main__.__loader__#opaque"), E P "__spec__" 169 N, E P "__annotations__" 170 (R 6), E P "__builtins__" 171 (R 4), E P "__file__" 173 (V "/claim/cut.py" 172), E P "__cached__" 174 N, E P "_sre" 275 (R 12)] 10), #[]⟩
def a4 : Obj := ⟨(T "module"), (some 0), .plain, #[]⟩
def a5 : Obj := ⟨(T "module"), (some 3), .plain, #[]⟩
def a6 : Obj := ⟨(T "dict"), none, (.dict #[] 0), #[]⟩
def a7 : Obj := ⟨(T "tuple"), none, (.seq #[] 0), #[]⟩
def a8 : Obj := ⟨N, none, (.fields #[]), #[]⟩
def a9 : Obj := ⟨(T "code"), none, (.fields #[(V "<module>" 176), (V "<module>" 177), (V "/claim/cut.py" 178), (I 1 0), (I 0 0), (I 0 0), (I 0 0), (I 0 0), (R 7), (B false), (I 175 0), (R 8), N, N, N, N, (I 179 0), (I 1 0), (V "/claim/cut.py" 180)]), #[]⟩
def a10 : Obj := ⟨(T "frame"), none, .plain, #[(some (R 9)), (some (R 3)), (some (R 3)), none, (some (V "__main__" 164)), none, (some (R 0))]⟩
def a11 (P : Params) : Obj := ⟨(T "dict"), none, (.dict #[E P "__name__" 247 (V "_sre" 246), E P "__doc__" 248 N, E P "__package__" 250 (V "" 249), E P "__loader__" 251 (U "off-the-table:_sre.__loader__:shared#opaque"), E P "__spec__" 252 (U "off-the-table:_sre.__spec__:shared#opaque"), E P "compile" 253 (U "_sre.compile"), E P "template" 254 (U "off-the-table:_sre.template:shared#opaque"), E P "getcodesize" 255 (U "off-the-table:_sre.getcodesize:shared#opaque"), E P "ascii_iscased" 256 (U "off-the-table:_sre.ascii_iscased:shared#opaque"), E P "unicode_iscased" 257 (U "off-the-table:_sre.unicode_iscased:shared#opaque"), E P "ascii_tolower" 258 (U "off-the-table:_sre.ascii_tolower:shared#opaque"), E P "unicode_tolower" 259 (U "off-the-table:_sre.unicode_tolower:shared#opaque"), E P "MAGIC" 261 (I 20230612 260), E P "CODESIZE" 263 (I 4 262), E P "MAXREPEAT" 265 (I 4294967295 264), E P "MAXGROUPS" 267 (I 1073741823 266), E P "copyright" 269 (V " SRE 2.2.2 Copyright (c) 1997-2002 by Secret Labs AB " 268)] 17), #[]⟩
def a12 : Obj := ⟨(T "module"), (some 11), .plain, #[]⟩
def a13 (P : Params) : Obj := ⟨(T "dict"), none, (.dict #[E P "__module__" 189 (V "_frozen_importlib" 186), E P "__firstlineno__" 190 (I 971 187), E P "__doc__" 191 (U "_frozen_importlib.BuiltinImporter.__doc__:str#opaque"), E P "_ORIGIN" 192 (V "built-in" 188), E P "find_spec" 193 (U "_frozen_importlib.BuiltinImporter.find_spec#opaque"), E P "create_module" 194 (U "_frozen_importlib.BuiltinImporter.create_module#opaque"), E P "exec_module" 195 (U "_frozen_importlib.BuiltinImporter.exec_module#opaque"), E P "get_code" 196 (U "_frozen_importlib.BuiltinImporter.get_code#opaque"), E P "get_source" 197 (U "_frozen_importlib.BuiltinImporter.get_source#opaque"), E P "is_package" 198 (U "_frozen_importlib.BuiltinImporter.is_package#opaque"), E P "load_module" 199 (U "_frozen_importlib.BuiltinImporter.load_module#opaque"), E P "__static_attributes__" 200 (R 15), E P "__dict__" 202 (R 16), E P "__weakref__" 204 (R 17)] 14), #[]⟩
def a14 : Obj := ⟨(T "type"), none, (.cls ⟨(Str.ofString "BuiltinImporter"), [(T "object")], [(R 14), (T "object")], 13, (Str.ofString "BuiltinImporter"), true, [], [], false, none, false⟩), #[]⟩
def a15 : Obj := ⟨(T "tuple"), none, (.seq #[] 0), #[]⟩
def a16 : Obj := ⟨(T "getset_descriptor"), none, (.fields #[(V "__dict__" 201), (R 14), (U "function.__dict__"), (U "function.__dict__#set")]), #[]⟩
def a17 : Obj := ⟨(T "getset_descriptor"), none, (.fields #[(V "__weakref__" 203), (R 14), (U "ExceptionGroup.__weakref__"), N]), #[]⟩
def a18 : Obj := ⟨N, none, (.seq #[(I 13 0), (V "\x06½\n__module__\x06º\x11_frozen_importlib\x06¾\x0f__firstlineno__\x04»\x00ϋ\x06¿\x07__doc__\t4_frozen_importlib.BuiltinImporter.__doc__:str#opaque\x06À\x07_ORIGIN\x06¼\x08built-in\x06Á\tfind_spec\t2_frozen_importlib.BuiltinImporter.find_spec#opaque\x06Â\x0dcreate_module\t6_frozen_importlib.BuiltinImporter.create_module#opaque\x06Ã\x0bexec_module\t4_frozen_importlib.BuiltinImporter.exec_module#opaque\x06Ä\x08get_code\t1_frozen_importlib.BuiltinImporter.get_code#opaque\x06Å\nget_source\t3_frozen_importlib.BuiltinImporter.get_source#opaque\x06Æ\nis_package\t3_frozen_importlib.BuiltinImporter.is_package#opaque\x06Ç\x0bload_module\t4_frozen_importlib.BuiltinImporter.load_module#opaque\x06È\x15__static_attributes__\x04\x00\x00\x0f\x06Ê\x08__dict__\x04\x00\x00\x10\x06Ì\x0b__weakref__\x04\x00\x00\x11" 0), (B true), (B true), (V "" 205), (I 21 0), (V "\x06ã\n__module__\x06Ù\x11_frozen_importlib\x06ä\x0f__firstlineno__\x04Ú\x00Ȳ\x06å\x07__doc__\t/_frozen_importlib.ModuleSpec.__doc__:str#opaque\x06æ\x08__init__\t,_frozen_importlib.ModuleSpec.__init__#opaque\x06ç\x08__repr__\t,_frozen_importlib.ModuleSpec.__repr__#opaque\x06è\x06__eq__\t*_frozen_importlib.ModuleSpec.__eq__#opaque\x06é\x06cached\t*_frozen_importlib.ModuleSpec.cached#opaque\x06ê\x06parent\t*_frozen_importlib.ModuleSpec.parent#opaque\x06ë\x0chas_location\t0_frozen_importlib.ModuleSpec.has_location#opaque\x06ì\x15__static_attributes__\x04\x00\x00\x17\x06î\x08__dict__\x04\x00\x00\x18\x06ð\x0b__weakref__\x04\x00\x00\x19\x06ñ\x08__hash__\x00" 0), (B true), (B true), (V "" 242)] 1), #[]⟩
def a19 : Obj := ⟨(T "list"), none, (.seq #[] 0), #[]⟩
def a20 (P : Params) : Obj := ⟨(T "dict"), none, (.dict #[E P "name" 208 (V "_sre" 207), E P "loader" 209 (R 14), E P "origin" 210 (V "built-in" 184), E P "loader_state" 211 N, E P "submodule_search_locations" 212 N, E P "_uninitialized_submodules" 213 (R 19), E P "_set_fileattr" 214 (B false), E P "_cached" 215 N, E P "_initializing" 243 (B false)] 9), #[]⟩
def a21 (P : Params) : Obj := ⟨(T "dict"), none, (.dict #[E P "__module__" 227 (V "_frozen_importlib" 217), E P "__firstlineno__" 228 (I 562 218), E P "__doc__" 229 (U "_frozen_importlib.ModuleSpec.__doc__:str#opaque"), E P "__init__" 230 (U "_frozen_importlib.ModuleSpec.__init__#opaque"), E P "__repr__" 231 (U "_frozen_importlib.ModuleSpec.__repr__#opaque"), E P "__eq__" 232 (U "_frozen_importlib.ModuleSpec.__eq__#opaque"), E P "cached" 233 (U "_frozen_importlib.ModuleSpec.cached#opaque"), E P "parent" 234 (U "_frozen_importlib.ModuleSpec.parent#opaque"), E P "has_location" 235 (U "_frozen_importlib.ModuleSpec.has_location#opaque"), E P "__static_attributes__" 236 (R 23), E P "__dict__" 238 (R 24), E P "__weakref__" 240 (R 25), E P "__hash__" 241 N] 13), #[]⟩
def a22 : Obj := ⟨(T "type"), none, (.cls ⟨(Str.ofString "ModuleSpec"), [(T "object")], [(R 22), (T "object")], 21, (Str.ofString "ModuleSpec"), true, [], [], false, none, false⟩), #[]⟩
def a23 : Obj := ⟨(T "tuple"), none, (.seq #[(V "_cached" 219), (V "_set_fileattr" 220), (V "_uninitialized_submodules" 221), (V "loader" 222), (V "loader_state" 223), (V "name" 224), (V "origin" 225), (V "submodule_search_locations" 226)] 0), #[]⟩
def a24 : Obj := ⟨(T "getset_descriptor"), none, (.fields #[(V "__dict__" 237), (R 22), (U "function.__dict__"), (U "function.__dict__#set")]), #[]⟩
def a25 : Obj := ⟨(T "getset_descriptor"), none, (.fields #[(V "__weakref__" 239), (R 22), (U "ExceptionGroup.__weakref__"), N]), #[]⟩
def a26 : Obj := ⟨(R 22), (some 20), .plain, #[]⟩
def a27 : Obj := ⟨N, none, (.seq #[(I 11 0), (W [6, 247, 8, 95, 95, 110, 97, 109, 101, 95, 95, 6, 246, 4, 95, 115, 114, 101, 6, 248, 7, 95, 95, 100, 111, 99, 95, 95, 0, 6, 250, 11, 95, 95, 112, 97, 99, 107, 97, 103, 101, 95, 95, 6, 249, 0, 6, 251, 10, 95, 95, 108, 111, 97, 100, 101, 114, 95, 95, 4, 0, 0, 14, 6, 252, 8, 95, 95, 115, 112, 101, 99, 95, 95, 4, 0, 0, 26, 6, 253, 7, 99, 111, 109, 112, 105, 108, 101, 9, 12, 95, 115, 114, 101, 46, 99, 111, 109, 112, 105, 108, 101, 6, 254, 8, 116, 101, 109, 112, 108, 97, 116, 101, 9, 13, 95, 115, 114, 101, 46, 116, 101, 109, 112, 108, 97, 116, 101, 6, 255, 11, 103, 101, 116, 99, 111, 100, 101, 115, 105, 122, 101, 9, 16, 95, 115, 114, 101, 46, 103, 101, 116, 99, 111, 100, 101, 115, 105, 122, 101, 6, 256, 13, 97, 115, 99, 105, 105, 95, 105, 115, 99, 97, 115, 101, 100, 9, 18, 95, 115, 114, 101, 46, 97, 115, 99, 105, 105, 95, 105, 115, 99, 97, 115, 101, 100, 6, 257, 15, 117, 110, 105, 99, 111, 100, 101, 95, 105, 115, 99, 97, 115, 101, 100, 9, 20, 95, 115, 114, 101, 46, 117, 110, 105, 99, 111, 100, 101, 95, 105, 115, 99, 97, 115, 101, 100, 6, 258, 13, 97, 115, 99, 105, 105, 95, 116, 111, 108, 111, 119, 101, 114, 9, 18, 95, 115, 114, 101, 46, 97, 115, 99, 105, 105, 95, 116, 111, 108, 111, 119, 101, 114, 6, 259, 15, 117, 110, 105, 99, 111, 100, 101, 95, 116, 111, 108, 111, 119, 101, 114, 9, 20, 95, 115, 114, 101, 46, 117, 110, 105, 99, 111, 100, 101, 95, 116, 111, 108, 111, 119, 101, 114, 6, 261, 5, 77, 65, 71, 73, 67, 4, 260, 0, 20230612, 6, 263, 8, 67, 79, 68, 69, 83, 73, 90, 69, 4, 262, 0, 4, 6, 265, 9, 77, 65, 88, 82, 69, 80, 69, 65, 84, 4, 264, 0, 4294967295, 6, 267, 9, 77, 65, 88, 71, 82, 79, 85, 80, 83, 4, 266, 0, 1073741823, 6, 269, 9, 99, 111, 112, 121, 114, 105, 103, 104, 116, 6, 268, 53, 32, 83, 82, 69, 32, 50, 46, 50, 46, 50, 32, 67, 111, 112, 121, 114, 105, 103, 104, 116, 32, 40, 99, 41, 32, 49, 57, 57, 55, 45, 50, 48, 48, 50, 32, 98, 121, 32, 83, 101, 99, 114, 101, 116, 32, 76, 97, 98, 115, 32, 65, 66, 32] 0), (B true), (B false), (V "_sre" 271)] 0), #[]⟩
def Tz (P : Params) : BT := (n (a0 P) (n (a1 P) (n (a3 P) (n a7 (n a15 z z) (n a23 z z)) (n (a11 P) (n a19 z z) (n a27 z z))) (n a5 (n a9 (n a17 z z) (n a25 z z)) (n (a13 P) (n (a21 P) z z) z))) (n (a2 P) (n a4 (n a8 (n a16 z z) (n a24 z z)) (n a12 (n (a20 P) z z) z)) (n a6 (n a10 (n a18 z z) (n a26 z z)) (n a14 (n a22 z z) z))))
def a28 : Obj := ⟨(T "tuple"), none, (.seq #[] 0), #[]⟩
def a29 : Obj := ⟨N, none, (.fields #[]), #[]⟩
def a30 : Obj := ⟨(T "code"), none, (.fields #[(V "<module>" 277), (V "<module>" 278), (V "/claim/cut.py" 279), (I 1 0), (I 0 0), (I 0 0), (I 0 0), (I 0 0), (R 28), (B false), (I 276 0), (R 29), N, N, N, N, (I 280 0), (I 1 0), (V "/claim/cut.py" 281)]), #[]⟩
def a31 : Obj := ⟨(T "frame"), none, .plain, #[(some (R 30)), (some (R 3)), (some (R 3)), none, (some (V "__main__" 164)), none, (some (R 0))]⟩
def Ta (P : Params) : BT := (n (a0 P) (n (a1 P) (n (a3 P) (n a7 (n a15 (n a31 z z) z) (n a23 z z)) (n (a11 P) (n a19 z z) (n a27 z z))) (n a5 (n a9 (n a17 z z) (n a25 z z)) (n (a13 P) (n (a21 P) z z) (n a29 z z)))) (n (a2 P) (n a4 (n a8 (n a16 z z) (n a24 z z)) (n a12 (n (a20 P) z z) (n a28 z z))) (n a6 (n a10 (n a18 z z) (n a26 z z)) (n a14 (n a22 z z) (n a30 z z)))))
def Tb (P : Params) : BT := (n (a0 P) (n (a1 P) (n (a3 P) (n a7 (n a15 (n a31 z z) z) (n a23 z z)) (n (a11 P) (n a19 z z) (n a27 z z))) (n a5 (n a9 (n a17 z z) (n a25 z z)) (n (a13 P) (n (a21 P) z z) (n a29 z z)))) (n (a2 P) (n a4 (n a8 (n a16 z z) (n a24 z z)) (n a12 (n (a20 P) z z) (n a28 z z))) (n a6 (n a10 (n a18 z z) (n a26 z z)) (n a14 (n a22 z z) (n a30 z z)))))
def a3v1 (P : Params) : Obj := ⟨(T "dict"), none, (.dict #[E P "__name__" 165 (V "cssselect.parser" 296), E P "__doc__" 166 N, E P "__package__" 167 N, E P "__loader__" 168 (U "__main__.__loader__#opaque"), E P "__spec__" 169 N, E P "__annotations__" 170 (R 6), E P "__builtins__" 171 (R 4), E P "__file__" 173 (V "/claim/cut.py" 172), E P "__cached__" 174 N, E P "_sre" 275 (R 12), E P "_wall" 288 (R 38), E P "_pe_name" 295 (R 45), E P "_twin_re_10" 435 (R 50), E P "_twin_re_11" 573 (R 55), E P "cast" 581 (R 62), E P "ascii_lower" 588 (R 69)] 16), #[]⟩
def a29v1 : Obj := ⟨N, none, (.fields #[(I 2 0), (I 0 0), (R 37), (I 5 0), (I 0 0), (R 44), (I 12 0), (I 0 0), (R 61), (I 14 0), (I 0 0), (R 68)]), #[]⟩
def a32 : Obj := ⟨(T "tuple"), none, (.seq #[] 0), #[]⟩
def a33 : Obj := ⟨N, none, (.fields #[]), #[]⟩
def a34 : Obj := ⟨(T "tuple"), none, (.seq #[(V "k" 285)] 0), #[]⟩
def a35 : Obj := ⟨(T "tuple"), none, (.seq #[] 0), #[]⟩
def a36 : Obj := ⟨N, none, (.func (fd (st 1) (Str.ofString "_wall") 0 [] N N N N none N N 0)), #[]⟩
def a37 : Obj := ⟨(T "code"), none, (.fields #[(V "_wall" 282), (V "_wall" 283), (V "/claim/cut.py" 284), (I 2 0), (I 1 0), (I 0 0), (I 0 0), (I 3 0), (R 32), (B true), (I 276 0), (R 33), N, (R 34), (R 35), (R 36), (I 286 0), (I 2 0), (V "/claim/cut.py" 287)]), #[]⟩
def a38 : Obj := ⟨(T "function"), none, (.func (fd (st 1) (Str.ofString "_wall") 3 [] N N N (V "__main__" 164) none (R 37) N 0)), #[]⟩
def a39 : Obj := ⟨(T "tuple"), none, (.seq #[] 0), #[]⟩
def a40 : Obj := ⟨N, none, (.fields #[]), #[]⟩
def a41 : Obj := ⟨(T "tuple"), none, (.seq #[(V "n" 292)] 0), #[]⟩
def a42 : Obj := ⟨(T "tuple"), none, (.seq #[] 0), #[]⟩
def a43 : Obj := ⟨N, none, (.func (fd (st 2) (Str.ofString "_pe_name") 0 [] N N N N none N N 0)), #[]⟩
def a44 : Obj := ⟨(T "code"), none, (.fields #[(V "_pe_name" 289), (V "_pe_name" 290), (V "/claim/cut.py" 291), (I 5 0), (I 1 0), (I 0 0), (I 0 0), (I 3 0), (R 39), (B true), (I 276 0), (R 40), N, (R 41), (R 42), (R 43), (I 293 0), (I 5 0), (V "/claim/cut.py" 294)]), #[]⟩
def a45 : Obj := ⟨(T "function"), none, (.func (fd (st 2) (Str.ofString "_pe_name") 3 [] N N N (V "__main__" 164) none (R 44) N 0)), #[]⟩
def a46 : Obj := ⟨(T "list"), none, (.seq #[(I 14 301), (I 4 302), (I 0 303), (I 0 304), (I 4294967295 305), (I 23 306), (I 124 307), (I 0 308), (I 4294967295 309), (I 17 310), (I 0 311), (I 7 312), (I 16 313), (I 13 314), (I 12 315), (I 21 316), (I 9 317), (I 13312 318), (I 128 319), (I 268435456 320), (I 0 321), (I 0 322), (I 0 323), (I 0 324), (I 0 325), (I 0 326), (I 15 327), (I 101 328), (I 29 329), (I 16 330), (I 92 331), (I 7 332), (I 5 333), (I 16 334), (I 10 335), (I 15 336), (I 19 337), (I 7 338), (I 16 339), (I 13 340), (I 16 341), (I 10 342), (I 15 343), (I 12 344), (I 5 345), (I 16 346), (I 13 347), (I 15 348), (I 7 349), (I 5 350), (I 16 351), (I 12 352), (I 15 353), (I 2 354), (I 0 355), (I 15 356), (I 72 357), (I 52 358), (I 16 359), (I 92 360), (I 17 361), (I 2 362), (I 24 363), (I 13 364), (I 1 365), (I 6 366), (I 39 367), (I 8 368), (I 22 369), (I 48 370), (I 57 371), (I 22 372), (I 97 373), (I 102 374), (I 0 375), (I 1 376), (I 17 377), (I 3 378), (I 23 379), (I 27 380), (I 0 381), (I 1 382), (I 7 383), (I 7 384), (I 16 385), (I 13 386), (I 16 387), (I 10 388), (I 15 389), (I 17 390), (I 15 391), (I 13 392), (I 11 393), (I 9 394), (I 13824 395), (I 1 396), (I 0 397), (I 0 398), (I 0 399), (I 0 400), (I 0 401), (I 0 402), (I 0 403), (I 15 404), (I 2 405), (I 0 406), (I 18 407), (I 15 408), (I 20 409), (I 18 410), (I 16 411), (I 92 412), (I 39 413), (I 12 414), (I 21 415), (I 9 416), (I 13312 417), (I 67043328 418), (I 0 419), (I 126 420), (I 0 421), (I 0 422), (I 0 423), (I 0 424), (I 0 425), (I 15 426), (I 2 427), (I 0 428), (I 17 429), (I 1 430), (I 18 431), (I 1 432)] 0), #[]⟩
def a47 : Obj := ⟨(T "dict"), none, (.dict #[] 0), #[]⟩
def a48 : Obj := ⟨(T "tuple"), none, (.seq #[N, N, N] 0), #[]⟩
def a49 : Obj := ⟨(T "tuple"), none, (.seq #[(I 14 0), (I 4 0), (I 0 0), (I 0 0), (I 4294967295 0), (I 23 0), (I 124 0), (I 0 0), (I 4294967295 0), (I 17 0), (I 0 0), (I 7 0), (I 16 0), (I 13 0), (I 12 0), (I 21 0), (I 9 0), (I 13312 0), (I 128 0), (I 268435456 0), (I 0 0), (I 0 0), (I 0 0), (I 0 0), (I 0 0), (I 0 0), (I 15 0), (I 101 0), (I 29 0), (I 16 0), (I 92 0), (I 7 0), (I 5 0), (I 16 0), (I 10 0), (I 15 0), (I 19 0), (I 7 0), (I 16 0), (I 13 0), (I 16 0), (I 10 0), (I 15 0), (I 12 0), (I 5 0), (I 16 0), (I 13 0), (I 15 0), (I 7 0), (I 5 0), (I 16 0), (I 12 0), (I 15 0), (I 2 0), (I 0 0), (I 15 0), (I 72 0), (I 52 0), (I 16 0), (I 92 0), (I 17 0), (I 2 0), (I 24 0), (I 13 0), (I 1 0), (I 6 0), (I 39 0), (I 8 0), (I 22 0), (I 48 0), (I 57 0), (I 22 0), (I 97 0), (I 102 0), (I 0 0), (I 1 0), (I 17 0), (I 3 0), (I 23 0), (I 27 0), (I 0 0), (I 1 0), (I 7 0), (I 7 0), (I 16 0), (I 13 0), (I 16 0), (I 10 0), (I 15 0), (I 17 0), (I 15 0), (I 13 0), (I 11 0), (I 9 0), (I 13824 0), (I 1 0), (I 0 0), (I 0 0), (I 0 0), (I 0 0), (I 0 0), (I 0 0), (I 0 0), (I 15 0), (I 2 0), (I 0 0), (I 18 0), (I 15 0), (I 20 0), (I 18 0), (I 16 0), (I 92 0), (I 39 0), (I 12 0), (I 21 0), (I 9 0), (I 13312 0), (I 67043328 0), (I 0 0), (I 126 0), (I 0 0), (I 0 0), (I 0 0), (I 0 0), (I 0 0), (I 15 0), (I 2 0), (I 0 0), (I 17 0), (I 1 0), (I 18 0), (I 1 0)] 0), #[]⟩
def a50 : Obj := ⟨(T "re.Pattern"), none, (.fields #[(V "([^\\n\\r\\f\\\\']|\\\\(?:\\n|\\r\\n|\\r|\\f)|\\\\([0-9a-f]{1,6})(?:\\r\\n|[ \\n\\r\\t\\f])?|\\\\[^\\n\\r\\f0-9a-f])*" 299), (I 34 434), (I 2 0), N, N, (R 49), (I 0 0)]), #[]⟩
def a51 : Obj := ⟨(T "list"), none, (.seq #[(I 14 439), (I 4 440), (I 0 441), (I 0 442), (I 4294967295 443), (I 23 444), (I 124 445), (I 0 446), (I 4294967295 447), (I 17 448), (I 0 449), (I 7 450), (I 16 451), (I 13 452), (I 12 453), (I 21 454), (I 9 455), (I 13312 456), (I 4 457), (I 268435456 458), (I 0 459), (I 0 460), (I 0 461), (I 0 462), (I 0 463), (I 0 464), (I 15 465), (I 101 466), (I 29 467), (I 16 468), (I 92 469), (I 7 470), (I 5 471), (I 16 472), (I 10 473), (I 15 474), (I 19 475), (I 7 476), (I 16 477), (I 13 478), (I 16 479), (I 10 480), (I 15 481), (I 12 482), (I 5 483), (I 16 484), (I 13 485), (I 15 486), (I 7 487), (I 5 488), (I 16 489), (I 12 490), (I 15 491), (I 2 492), (I 0 493), (I 15 494), (I 72 495), (I 52 496), (I 16 497), (I 92 498), (I 17 499), (I 2 500), (I 24 501), (I 13 502), (I 1 503), (I 6 504), (I 39 505), (I 8 506), (I 22 507), (I 48 508), (I 57 509), (I 22 510), (I 97 511), (I 102 512), (I 0 513), (I 1 514), (I 17 515), (I 3 516), (I 23 517), (I 27 518), (I 0 519), (I 1 520), (I 7 521), (I 7 522), (I 16 523), (I 13 524), (I 16 525), (I 10 526), (I 15 527), (I 17 528), (I 15 529), (I 13 530), (I 11 531), (I 9 532), (I 13824 533), (I 1 534), (I 0 535), (I 0 536), (I 0 537), (I 0 538), (I 0 539), (I 0 540), (I 0 541), (I 15 542), (I 2 543), (I 0 544), (I 18 545), (I 15 546), (I 20 547), (I 18 548), (I 16 549), (I 92 550), (I 39 551), (I 12 552), (I 21 553), (I 9 554), (I 13312 555), (I 67043328 556), (I 0 557), (I 126 558), (I 0 559), (I 0 560), (I 0 561), (I 0 562), (I 0 563), (I 15 564), (I 2 565), (I 0 566), (I 17 567), (I 1 568), (I 18 569), (I 1 570)] 0), #[]⟩
def a52 : Obj := ⟨(T "dict"), none, (.dict #[] 0), #[]⟩
def a53 : Obj := ⟨(T "tuple"), none, (.seq #[N, N, N] 0), #[]⟩
def a54 : Obj := ⟨(T "tuple"), none, (.seq #[(I 14 0), (I 4 0), (I 0 0), (I 0 0), (I 4294967295 0), (I 23 0), (I 124 0), (I 0 0), (I 4294967295 0), (I 17 0), (I 0 0), (I 7 0), (I 16 0), (I 13 0), (I 12 0), (I 21 0), (I 9 0), (I 13312 0), (I 4 0), (I 268435456 0), (I 0 0), (I 0 0), (I 0 0), (I 0 0), (I 0 0), (I 0 0), (I 15 0), (I 101 0), (I 29 0), (I 16 0), (I 92 0), (I 7 0), (I 5 0), (I 16 0), (I 10 0), (I 15 0), (I 19 0), (I 7 0), (I 16 0), (I 13 0), (I 16 0), (I 10 0), (I 15 0), (I 12 0), (I 5 0), (I 16 0), (I 13 0), (I 15 0), (I 7 0), (I 5 0), (I 16 0), (I 12 0), (I 15 0), (I 2 0), (I 0 0), (I 15 0), (I 72 0), (I 52 0), (I 16 0), (I 92 0), (I 17 0), (I 2 0), (I 24 0), (I 13 0), (I 1 0), (I 6 0), (I 39 0), (I 8 0), (I 22 0), (I 48 0), (I 57 0), (I 22 0), (I 97 0), (I 102 0), (I 0 0), (I 1 0), (I 17 0), (I 3 0), (I 23 0), (I 27 0), (I 0 0), (I 1 0), (I 7 0), (I 7 0), (I 16 0), (I 13 0), (I 16 0), (I 10 0), (I 15 0), (I 17 0), (I 15 0), (I 13 0), (I 11 0), (I 9 0), (I 13824 0), (I 1 0), (I 0 0), (I 0 0), (I 0 0), (I 0 0), (I 0 0), (I 0 0), (I 0 0), (I 15 0), (I 2 0), (I 0 0), (I 18 0), (I 15 0), (I 20 0), (I 18 0), (I 16 0), (I 92 0), (I 39 0), (I 12 0), (I 21 0), (I 9 0), (I 13312 0), (I 67043328 0), (I 0 0), (I 126 0), (I 0 0), (I 0 0), (I 0 0), (I 0 0), (I 0 0), (I 15 0), (I 2 0), (I 0 0), (I 17 0), (I 1 0), (I 18 0), (I 1 0)] 0), #[]⟩
def a55 : Obj := ⟨(T "re.Pattern"), none, (.fields #[(V "([^\\n\\r\\f\\\\\"]|\\\\(?:\\n|\\r\\n|\\r|\\f)|\\\\([0-9a-f]{1,6})(?:\\r\\n|[ \\n\\r\\t\\f])?|\\\\[^\\n\\r\\f0-9a-f])*" 437), (I 34 572), (I 2 0), N, N, (R 54), (I 0 0)]), #[]⟩
def a56 : Obj := ⟨(T "tuple"), none, (.seq #[] 0), #[]⟩
def a57 : Obj := ⟨N, none, (.fields #[]), #[]⟩
def a58 : Obj := ⟨(T "tuple"), none, (.seq #[(V "kind" 577), (V "value" 578)] 0), #[]⟩
def a59 : Obj := ⟨(T "tuple"), none, (.seq #[] 0), #[]⟩
def a60 : Obj := ⟨N, none, (.func (fd (st 6) (Str.ofString "cast") 0 [] N N N N none N N 0)), #[]⟩
def a61 : Obj := ⟨(T "code"), none, (.fields #[(V "cast" 574), (V "cast" 575), (V "/claim/cut.py" 576), (I 12 0), (I 2 0), (I 0 0), (I 0 0), (I 3 0), (R 56), (B true), (I 276 0), (R 57), N, (R 58), (R 59), (R 60), (I 579 0), (I 12 0), (V "/claim/cut.py" 580)]), #[]⟩
def a62 : Obj := ⟨(T "function"), none, (.func (fd (st 6) (Str.ofString "cast") 3 [] N N N (V "cssselect.parser" 296) none (R 61) N 0)), #[]⟩
def a63 : Obj := ⟨(T "tuple"), none, (.seq #[] 0), #[]⟩
def a64 : Obj := ⟨N, none, (.fields #[]), #[]⟩
def a65 : Obj := ⟨(T "tuple"), none, (.seq #[(V "string" 585)] 0), #[]⟩
def a66 : Obj := ⟨(T "tuple"), none, (.seq #[] 0), #[]⟩
def a67 : Obj := ⟨N, none, (.func (fd (st 7) (Str.ofString "ascii_lower") 0 [] N N N N none N N 0)), #[]⟩
def a68 : Obj := ⟨(T "code"), none, (.fields #[(V "ascii_lower" 582), (V "ascii_lower" 583), (V "/claim/cut.py" 584), (I 14 0), (I 1 0), (I 0 0), (I 0 0), (I 3 0), (R 63), (B true), (I 276 0), (R 64), N, (R 65), (R 66), (R 67), (I 586 0), (I 14 0), (V "/claim/cut.py" 587)]), #[]⟩
def a69 : Obj := ⟨(T "function"), none, (.func (fd (st 7) (Str.ofString "ascii_lower") 3 [] N N N (V "cssselect.parser" 296) none (R 68) N 0)), #[]⟩
def T7 (P : Params) : BT := (n (a0 P) (n (a1 P) (n (a3v1 P) (n a7 (n a15 (n a31 (n a63 z z) z) (n a47 z z)) (n a23 (n a39 z z) (n a55 z z))) (n (a11 P) (n a19 (n a35 (n a67 z z) z) (n a51 z z)) (n a27 (n a43 z z) (n a59 z z)))) (n a5 (n a9 (n a17 (n a33 (n a65 z z) z) (n a49 z z)) (n a25 (n a41 z z) (n a57 z z))) (n (a13 P) (n (a21 P) (n a37 (n a69 z z) z) (n a53 z z)) (n a29v1 (n a45 z z) (n a61 z z))))) (n (a2 P) (n a4 (n a8 (n a16 (n a32 (n a64 z z) z) (n a48 z z)) (n a24 (n a40 z z) (n a56 z z))) (n a12 (n (a20 P) (n a36 (n a68 z z) z) (n a52 z z)) (n a28 (n a44 z z) (n a60 z z)))) (n a6 (n a10 (n a18 (n a34 (n a66 z z) z) (n a50 z z)) (n a26 (n a42 z z) (n a58 z z))) (n a14 (n a22 (n a38 z z) (n a54 z z)) (n a30 (n a46 z z) (n a62 z z))))))
def a2v1 (P : Params) : Obj := grow (a2 P) #[E P "type.__subclasses__.Exception.0" 605 (I 79 0), E P "type.__subclasses__.Exception.n" 606 (I 1 0)] 11
def a3v2 (P : Params) : Obj := grow (a3v1 P) #[E P "SelectorError" 608 (R 79), E P "SelectorSyntaxError" 624 (R 92)] 18
def a29v2 : Obj := ⟨N, none, (.fields #[(I 2 0), (I 0 0), (R 37), (I 5 0), (I 0 0), (R 44), (I 12 0), (I 0 0), (R 61), (I 14 0), (I 0 0), (R 68), (I 16 0), (I 0 0), (R 75), (I 18 0), (I 0 0), (R 88)]), #[]⟩
def a70 : Obj := ⟨(T "tuple"), none, (.seq #[(T "Exception")] 0), #[]⟩
def a71 : Obj := ⟨(T "builtin_function_or_method"), none, (.fields #[(U "type.__prepare__"), (T "type")]), #[]⟩
def a72 (P : Params) : Obj := ⟨(T "dict"), none, (.dict #[E P "__module__" 596 (V "cssselect.parser" 296), E P "__qualname__" 598 (V "SelectorError" 597), E P "__firstlineno__" 600 (I 16 599), E P "__static_attributes__" 601 (R 77)] 4), #[]⟩
def a73 : Obj := ⟨(T "tuple"), none, (.seq #[] 0), #[]⟩
def a74 : Obj := ⟨N, none, (.fields #[]), #[]⟩
def a75 : Obj := ⟨(T "code"), none, (.fields #[(V "SelectorError" 591), (V "SelectorError" 592), (V "/claim/cut.py" 593), (I 16 0), (I 0 0), (I 0 0), (I 0 0), (I 0 0), (R 73), (B false), (I 276 0), (R 74), N, N, N, N, (I 594 0), (I 16 0), (V "/claim/cut.py" 595)]), #[]⟩
def a76 : Obj := ⟨(T "frame"), none, .plain, #[(some (R 75)), (some (R 3)), (some (R 72)), none, (some (V "cssselect.parser" 296)), none, (some (R 0))]⟩
def a77 : Obj := ⟨(T "tuple"), none, (.seq #[] 0), #[]⟩
def a78 (P : Params) : Obj := ⟨(T "dict"), none, (.dict #[E P "__module__" 596 (V "cssselect.parser" 296), E P "__firstlineno__" 600 (I 16 599), E P "__static_attributes__" 601 (R 77), E P "__weakref__" 603 (R 80), E P "__doc__" 604 N] 3), #[]⟩
def a79 : Obj := ⟨(T "type"), none, (.cls ⟨(Str.ofString "SelectorError"), [(T "Exception")], [(R 79), (T "Exception"), (T "BaseException"), (T "object")], 78, (Str.ofString "SelectorError"), true, [], [(R 92)], false, none, false⟩), #[(some (R 70)), none, (some (V "SelectorError" 589)), (some (V "SelectorError" 597)), (some (U "Exception.__new__")), (some (B true))]⟩
def a80 : Obj := ⟨(T "getset_descriptor"), none, (.fields #[(V "__weakref__" 602), (R 79), (U "ExceptionGroup.__weakref__"), N]), #[]⟩
def a81 : Obj := ⟨(T "super"), none, (.fields #[(R 79), (R 79), (R 79)]), #[]⟩
def a82 : Obj := ⟨(T "builtin_function_or_method"), none, (.fields #[(U "object.__init_subclass__"), (R 79)]), #[]⟩
def a83 : Obj := ⟨(T "tuple"), none, (.seq #[(R 79)] 0), #[]⟩
def a84 : Obj := ⟨(T "builtin_function_or_method"), none, (.fields #[(U "type.__prepare__"), (T "type")]), #[]⟩
def a85 (P : Params) : Obj := ⟨(T "dict"), none, (.dict #[E P "__module__" 616 (V "cssselect.parser" 296), E P "__qualname__" 618 (V "SelectorSyntaxError" 617), E P "__firstlineno__" 620 (I 18 619), E P "__static_attributes__" 621 (R 90)] 4), #[]⟩
def a86 : Obj := ⟨(T "tuple"), none, (.seq #[] 0), #[]⟩
def a87 : Obj := ⟨N, none, (.fields #[]), #[]⟩
def a88 : Obj := ⟨(T "code"), none, (.fields #[(V "SelectorSyntaxError" 611), (V "SelectorSyntaxError" 612), (V "/claim/cut.py" 613), (I 18 0), (I 0 0), (I 0 0), (I 0 0), (I 0 0), (R 86), (B false), (I 276 0), (R 87), N, N, N, N, (I 614 0), (I 18 0), (V "/claim/cut.py" 615)]), #[]⟩
def a89 : Obj := ⟨(T "frame"), none, .plain, #[(some (R 88)), (some (R 3)), (some (R 85)), none, (some (V "cssselect.parser" 296)), none, (some (R 0))]⟩
def a90 : Obj := ⟨(T "tuple"), none, (.seq #[] 0), #[]⟩
def a91 (P : Params) : Obj := ⟨(T "dict"), none, (.dict #[E P "__module__" 616 (V "cssselect.parser" 296), E P "__firstlineno__" 620 (I 18 619), E P "__static_attributes__" 621 (R 90), E P "__doc__" 622 N] 2), #[]⟩
def a92 : Obj := ⟨(T "type"), none, (.cls ⟨(Str.ofString "SelectorSyntaxError"), [(R 79)], [(R 92), (R 79), (T "Exception"), (T "BaseException"), (T "object")], 91, (Str.ofString "SelectorSyntaxError"), true, [], [], false, none, false⟩), #[(some (R 83)), none, (some (V "SelectorSyntaxError" 609)), (some (V "SelectorSyntaxError" 617)), (some (U "Exception.__new__")), (some (B true))]⟩
def a93 : Obj := ⟨(T "super"), none, (.fields #[(R 92), (R 92), (R 92)]), #[]⟩
def a94 : Obj := ⟨(T "builtin_function_or_method"), none, (.fields #[(U "object.__init_subclass__"), (R 92)]), #[]⟩
def T9 (P : Params) : BT := (n (a0 P) (n (a1 P) (n (a3v2 P) (n a7 (n a15 (n a31 (n a63 z z) z) (n a47 (n a79 z z) z)) (n a23 (n a39 (n a71 z z) z) (n a55 (n a87 z z) z))) (n (a11 P) (n a19 (n a35 (n a67 z z) z) (n a51 (n a83 z z) z)) (n a27 (n a43 (n a75 z z) z) (n a59 (n (a91 P) z z) z)))) (n a5 (n a9 (n a17 (n a33 (n a65 z z) z) (n a49 (n a81 z z) z)) (n a25 (n a41 (n a73 z z) z) (n a57 (n a89 z z) z))) (n (a13 P) (n (a21 P) (n a37 (n a69 z z) z) (n a53 (n (a85 P) z z) z)) (n a29v2 (n a45 (n a77 z z) z) (n a61 (n a93 z z) z))))) (n (a2v1 P) (n a4 (n a8 (n a16 (n a32 (n a64 z z) z) (n a48 (n a80 z z) z)) (n a24 (n a40 (n (a72 P) z z) z) (n a56 (n a88 z z) z))) (n a12 (n (a20 P) (n a36 (n a68 z z) z) (n a52 (n a84 z z) z)) (n a28 (n a44 (n a76 z z) z) (n a60 (n a92 z z) z)))) (n a6 (n a10 (n a18 (n a34 (n a66 z z) z) (n a50 (n a82 z z) z)) (n a26 (n a42 (n a74 z z) z) (n a58 (n a90 z z) z))) (n a14 (n a22 (n a38 (n a70 z z) z) (n a54 (n a86 z z) z)) (n a30 (n a46 (n (a78 P) z z) z) (n a62 (n a94 z z) z))))))
def a3v3 (P : Params) : Obj := grow (a3v2 P) #[E P "Selector" 682 (R 133)] 19
def a29v3 : Obj := ⟨N, none, (.fields #[(I 2 0), (I 0 0), (R 37), (I 5 0), (I 0 0), (R 44), (I 12 0), (I 0 0), (R 61), (I 14 0), (I 0 0), (R 68), (I 16 0), (I 0 0), (R 75), (I 18 0), (I 0 0), (R 88), (I 20 0), (I 0 0), (R 100)]), #[]⟩
def a95 : Obj := ⟨(T "tuple"), none, (.seq #[] 0), #[]⟩
def a96 : Obj := ⟨(T "builtin_function_or_method"), none, (.fields #[(U "type.__prepare__"), (T "type")]), #[]⟩
def a97 (P : Params) : Obj := ⟨(T "dict"), none, (.dict #[E P "__module__" 632 (V "cssselect.parser" 296), E P "__qualname__" 634 (V "Selector" 633), E P "__firstlineno__" 636 (I 20 635), E P "__init__" 645 (R 109), E P "__repr__" 653 (R 116), E P "canonical" 662 (R 123), E P "specificity" 672 (R 130), E P "__static_attributes__" 675 (R 131)] 8), #[]⟩
def a98 : Obj := ⟨(T "tuple"), none, (.seq #[] 0), #[]⟩
def a99 : Obj := ⟨N, none, (.fields #[(I 22 0), (I 4 0), (R 108), (I 28 0), (I 4 0), (R 115), (I 37 0), (I 4 0), (R 122), (I 49 0), (I 4 0), (R 129)]), #[]⟩
def a100 : Obj := ⟨(T "code"), none, (.fields #[(V "Selector" 627), (V "Selector" 628), (V "/claim/cut.py" 629), (I 20 0), (I 0 0), (I 0 0), (I 0 0), (I 0 0), (R 98), (B false), (I 276 0), (R 99), N, N, N, N, (I 630 0), (I 20 0), (V "/claim/cut.py" 631)]), #[]⟩
def a101 : Obj := ⟨(T "frame"), none, .plain, #[(some (R 100)), (some (R 3)), (some (R 97)), none, (some (V "cssselect.parser" 296)), none, (some (R 0))]⟩
def a102 : Obj := ⟨(T "tuple"), none, (.seq #[N] 0), #[]⟩
def a103 : Obj := ⟨(T "tuple"), none, (.seq #[] 0), #[]⟩
def a104 : Obj := ⟨N, none, (.fields #[]), #[]⟩
def a105 : Obj := ⟨(T "tuple"), none, (.seq #[(V "self" 640), (V "tree" 641), (V "pseudo_element" 642)] 0), #[]⟩
def a106 : Obj := ⟨(T "tuple"), none, (.seq #[] 0), #[]⟩
def a107 : Obj := ⟨N, none, (.func (fd (kd (st 10) 0) (Str.ofString "Selector.__init__") 0 [] N N N N none N N 0)), #[]⟩
def a108 : Obj := ⟨(T "code"), none, (.fields #[(V "__init__" 637), (V "Selector.__init__" 638), (V "/claim/cut.py" 639), (I 22 0), (I 3 0), (I 0 0), (I 0 0), (I 3 0), (R 103), (B true), (I 276 0), (R 104), N, (R 105), (R 106), (R 107), (I 643 0), (I 22 0), (V "/claim/cut.py" 644)]), #[]⟩
def a109 : Obj := ⟨(T "function"), none, (.func (fd (kd (st 10) 0) (Str.ofString "Selector.__init__") 3 [] (R 102) N N (V "cssselect.parser" 296) none (R 108) N 0)), #[]⟩
def a110 : Obj := ⟨(T "tuple"), none, (.seq #[] 0), #[]⟩
def a111 : Obj := ⟨N, none, (.fields #[]), #[]⟩
def a112 : Obj := ⟨(T "tuple"), none, (.seq #[(V "self" 649), (V "pseudo_element" 650)] 0), #[]⟩
def a113 : Obj := ⟨(T "tuple"), none, (.seq #[] 0), #[]⟩
def a114 : Obj := ⟨N, none, (.func (fd (kd (st 10) 1) (Str.ofString "Selector.__repr__") 0 [] N N N N none N N 0)), #[]⟩
def a115 : Obj := ⟨(T "code"), none, (.fields #[(V "__repr__" 646), (V "Selector.__repr__" 647), (V "/claim/cut.py" 648), (I 28 0), (I 1 0), (I 0 0), (I 0 0), (I 3 0), (R 110), (B true), (I 276 0), (R 111), N, (R 112), (R 113), (R 114), (I 651 0), (I 28 0), (V "/claim/cut.py" 652)]), #[]⟩
def a116 : Obj := ⟨(T "function"), none, (.func (fd (kd (st 10) 1) (Str.ofString "Selector.__repr__") 3 [] N N N (V "cssselect.parser" 296) none (R 115) N 0)), #[]⟩
def a117 : Obj := ⟨(T "tuple"), none, (.seq #[] 0), #[]⟩
def a118 : Obj := ⟨N, none, (.fields #[]), #[]⟩
def a119 : Obj := ⟨(T "tuple"), none, (.seq #[(V "self" 657), (V "pseudo_element" 658), (V "res" 659)] 0), #[]⟩
def a120 : Obj := ⟨(T "tuple"), none, (.seq #[] 0), #[]⟩
def a121 : Obj := ⟨N, none, (.func (fd (kd (st 10) 2) (Str.ofString "Selector.canonical") 0 [] N N N N none N N 0)), #[]⟩
def a122 : Obj := ⟨(T "code"), none, (.fields #[(V "canonical" 654), (V "Selector.canonical" 655), (V "/claim/cut.py" 656), (I 37 0), (I 1 0), (I 0 0), (I 0 0), (I 3 0), (R 117), (B true), (I 276 0), (R 118), N, (R 119), (R 120), (R 121), (I 660 0), (I 37 0), (V "/claim/cut.py" 661)]), #[]⟩
def a123 : Obj := ⟨(T "function"), none, (.func (fd (kd (st 10) 2) (Str.ofString "Selector.canonical") 3 [] N N N (V "cssselect.parser" 296) none (R 122) N 0)), #[]⟩
def a124 : Obj := ⟨(T "tuple"), none, (.seq #[] 0), #[]⟩
def a125 : Obj := ⟨N, none, (.fields #[]), #[]⟩
def a126 : Obj := ⟨(T "tuple"), none, (.seq #[(V "self" 666), (V "a" 667), (V "b" 668), (V "c" 669)] 0), #[]⟩
def a127 : Obj := ⟨(T "tuple"), none, (.seq #[] 0), #[]⟩
def a128 : Obj := ⟨N, none, (.func (fd (kd (st 10) 3) (Str.ofString "Selector.specificity") 0 [] N N N N none N N 0)), #[]⟩
def a129 : Obj := ⟨(T "code"), none, (.fields #[(V "specificity" 663), (V "Selector.specificity" 664), (V "/claim/cut.py" 665), (I 49 0), (I 1 0), (I 0 0), (I 0 0), (I 3 0), (R 124), (B true), (I 276 0), (R 125), N, (R 126), (R 127), (R 128), (I 670 0), (I 49 0), (V "/claim/cut.py" 671)]), #[]⟩
def a130 : Obj := ⟨(T "function"), none, (.func (fd (kd (st 10) 3) (Str.ofString "Selector.specificity") 3 [] N N N (V "cssselect.parser" 296) none (R 129) N 0)), #[]⟩
def a131 : Obj := ⟨(T "tuple"), none, (.seq #[(V "parsed_tree" 673), (V "pseudo_element" 674)] 0), #[]⟩
def a132 (P : Params) : Obj := ⟨(T "dict"), none, (.dict #[E P "__module__" 632 (V "cssselect.parser" 296), E P "__firstlineno__" 636 (I 20 635), E P "__init__" 645 (R 109), E P "__repr__" 653 (R 116), E P "canonical" 662 (R 123), E P "specificity" 672 (R 130), E P "__static_attributes__" 675 (R 131), E P "__dict__" 677 (R 134), E P "__weakref__" 679 (R 135), E P "__doc__" 680 N] 4), #[]⟩
def a133 : Obj := ⟨(T "type"), none, (.cls ⟨(Str.ofString "Selector"), [(T "object")], [(R 133), (T "object")], 132, (Str.ofString "Selector"), true, [], [], false, none, false⟩), #[none, none, (some (V "Selector" 625)), (some (V "Selector" 633)), (some (U "object.__new__")), (some (B true))]⟩
def a134 : Obj := ⟨(T "getset_descriptor"), none, (.fields #[(V "__dict__" 676), (R 133), (U "function.__dict__"), (U "function.__dict__#set")]), #[]⟩
def a135 : Obj := ⟨(T "getset_descriptor"), none, (.fields #[(V "__weakref__" 678), (R 133), (U "ExceptionGroup.__weakref__"), N]), #[]⟩
def a136 : Obj := ⟨(T "super"), none, (.fields #[(R 133), (R 133), (R 133)]), #[]⟩
def a137 : Obj := ⟨(T "builtin_function_or_method"), none, (.fields #[(U "object.__init_subclass__"), (R 133)]), #[]⟩
def T10 (P : Params) : BT := (n (a0 P) (n (a1 P) (n (a3v3 P) (n a7 (n a15 (n a31 (n a63 (n a127 z z) z) (n a95 z z)) (n a47 (n a79 z z) (n a111 z z))) (n a23 (n a39 (n a71 (n a135 z z) z) (n a103 z z)) (n a55 (n a87 z z) (n a119 z z)))) (n (a11 P) (n a19 (n a35 (n a67 (n a131 z z) z) (n a99 z z)) (n a51 (n a83 z z) (n a115 z z))) (n a27 (n a43 (n a75 z z) (n a107 z z)) (n a59 (n (a91 P) z z) (n a123 z z))))) (n a5 (n a9 (n a17 (n a33 (n a65 (n a129 z z) z) (n (a97 P) z z)) (n a49 (n a81 z z) (n a113 z z))) (n a25 (n a41 (n a73 (n a137 z z) z) (n a105 z z)) (n a57 (n a89 z z) (n a121 z z)))) (n (a13 P) (n (a21 P) (n a37 (n a69 (n a133 z z) z) (n a101 z z)) (n a53 (n (a85 P) z z) (n a117 z z))) (n a29v3 (n a45 (n a77 z z) (n a109 z z)) (n a61 (n a93 z z) (n a125 z z)))))) (n (a2v1 P) (n a4 (n a8 (n a16 (n a32 (n a64 (n a128 z z) z) (n a96 z z)) (n a48 (n a80 z z) (n a112 z z))) (n a24 (n a40 (n (a72 P) (n a136 z z) z) (n a104 z z)) (n a56 (n a88 z z) (n a120 z z)))) (n a12 (n (a20 P) (n a36 (n a68 (n (a132 P) z z) z) (n a100 z z)) (n a52 (n a84 z z) (n a116 z z))) (n a28 (n a44 (n a76 z z) (n a108 z z)) (n a60 (n a92 z z) (n a124 z z))))) (n a6 (n a10 (n a18 (n a34 (n a66 (n a130 z z) z) (n a98 z z)) (n a50 (n a82 z z) (n a114 z z))) (n a26 (n a42 (n a74 z z) (n a106 z z)) (n a58 (n a90 z z) (n a122 z z)))) (n a14 (n a22 (n a38 (n a70 (n a134 z z) z) (n a102 z z)) (n a54 (n a86 z z) (n a118 z z))) (n a30 (n a46 (n (a78 P) z z) (n a110 z z)) (n a62 (n a94 z z) (n a126 z z)))))))
def a3v4 (P : Params) : Obj := grow (a3v3 P) #[E P "Class" 737 (R 175)] 20
def a29v4 : Obj := ⟨N, none, (.fields #[(I 2 0), (I 0 0), (R 37), (I 5 0), (I 0 0), (R 44), (I 12 0), (I 0 0), (R 61), (I 14 0), (I 0 0), (R 68), (I 16 0), (I 0 0), (R 75), (I 18 0), (I 0 0), (R 88), (I 20 0), (I 0 0), (R 100), (I 54 0), (I 0 0), (R 143)]), #[]⟩
def a138 : Obj := ⟨(T "tuple"), none, (.seq #[] 0), #[]⟩
def a139 : Obj := ⟨(T "builtin_function_or_method"), none, (.fields #[(U "type.__prepare__"), (T "type")]), #[]⟩
def a140 (P : Params) : Obj := ⟨(T "dict"), none, (.dict #[E P "__module__" 690 (V "cssselect.parser" 296), E P "__qualname__" 692 (V "Class" 691), E P "__firstlineno__" 694 (I 54 693), E P "__init__" 703 (R 151), E P "__repr__" 710 (R 158), E P "canonical" 717 (R 165), E P "specificity" 727 (R 172), E P "__static_attributes__" 730 (R 173)] 8), #[]⟩
def a141 : Obj := ⟨(T "tuple"), none, (.seq #[] 0), #[]⟩
def a142 : Obj := ⟨N, none, (.fields #[(I 56 0), (I 4 0), (R 150), (I 60 0), (I 4 0), (R 157), (I 63 0), (I 4 0), (R 164), (I 66 0), (I 4 0), (R 171)]), #[]⟩
def a143 : Obj := ⟨(T "code"), none, (.fields #[(V "Class" 685), (V "Class" 686), (V "/claim/cut.py" 687), (I 54 0), (I 0 0), (I 0 0), (I 0 0), (I 0 0), (R 141), (B false), (I 276 0), (R 142), N, N, N, N, (I 688 0), (I 54 0), (V "/claim/cut.py" 689)]), #[]⟩
def a144 : Obj := ⟨(T "frame"), none, .plain, #[(some (R 143)), (some (R 3)), (some (R 140)), none, (some (V "cssselect.parser" 296)), none, (some (R 0))]⟩
def a145 : Obj := ⟨(T "tuple"), none, (.seq #[] 0), #[]⟩
def a146 : Obj := ⟨N, none, (.fields #[]), #[]⟩
def a147 : Obj := ⟨(T "tuple"), none, (.seq #[(V "self" 698), (V "selector" 699), (V "class_name" 700)] 0), #[]⟩
def a148 : Obj := ⟨(T "tuple"), none, (.seq #[] 0), #[]⟩
def a149 : Obj := ⟨N, none, (.func (fd (kd (st 11) 0) (Str.ofString "Class.__init__") 0 [] N N N N none N N 0)), #[]⟩
def a150 : Obj := ⟨(T "code"), none, (.fields #[(V "__init__" 695), (V "Class.__init__" 696), (V "/claim/cut.py" 697), (I 56 0), (I 3 0), (I 0 0), (I 0 0), (I 3 0), (R 145), (B true), (I 276 0), (R 146), N, (R 147), (R 148), (R 149), (I 701 0), (I 56 0), (V "/claim/cut.py" 702)]), #[]⟩
def a151 : Obj := ⟨(T "function"), none, (.func (fd (kd (st 11) 0) (Str.ofString "Class.__init__") 3 [] N N N (V "cssselect.parser" 296) none (R 150) N 0)), #[]⟩
def a152 : Obj := ⟨(T "tuple"), none, (.seq #[] 0), #[]⟩
def a153 : Obj := ⟨N, none, (.fields #[]), #[]⟩
def a154 : Obj := ⟨(T "tuple"), none, (.seq #[(V "self" 707)] 0), #[]⟩
def a155 : Obj := ⟨(T "tuple"), none, (.seq #[] 0), #[]⟩
def a156 : Obj := ⟨N, none, (.func (fd (kd (st 11) 1) (Str.ofString "Class.__repr__") 0 [] N N N N none N N 0)), #[]⟩
def a157 : Obj := ⟨(T "code"), none, (.fields #[(V "__repr__" 704), (V "Class.__repr__" 705), (V "/claim/cut.py" 706), (I 60 0), (I 1 0), (I 0 0), (I 0 0), (I 3 0), (R 152), (B true), (I 276 0), (R 153), N, (R 154), (R 155), (R 156), (I 708 0), (I 60 0), (V "/claim/cut.py" 709)]), #[]⟩
def a158 : Obj := ⟨(T "function"), none, (.func (fd (kd (st 11) 1) (Str.ofString "Class.__repr__") 3 [] N N N (V "cssselect.parser" 296) none (R 157) N 0)), #[]⟩
def a159 : Obj := ⟨(T "tuple"), none, (.seq #[] 0), #[]⟩
def a160 : Obj := ⟨N, none, (.fields #[]), #[]⟩
def a161 : Obj := ⟨(T "tuple"), none, (.seq #[(V "self" 714)] 0), #[]⟩
def a162 : Obj := ⟨(T "tuple"), none, (.seq #[] 0), #[]⟩
def a163 : Obj := ⟨N, none, (.func (fd (kd (st 11) 2) (Str.ofString "Class.canonical") 0 [] N N N N none N N 0)), #[]⟩
def a164 : Obj := ⟨(T "code"), none, (.fields #[(V "canonical" 711), (V "Class.canonical" 712), (V "/claim/cut.py" 713), (I 63 0), (I 1 0), (I 0 0), (I 0 0), (I 3 0), (R 159), (B true), (I 276 0), (R 160), N, (R 161), (R 162), (R 163), (I 715 0), (I 63 0), (V "/claim/cut.py" 716)]), #[]⟩
def a165 : Obj := ⟨(T "function"), none, (.func (fd (kd (st 11) 2) (Str.ofString "Class.canonical") 3 [] N N N (V "cssselect.parser" 296) none (R 164) N 0)), #[]⟩
def a166 : Obj := ⟨(T "tuple"), none, (.seq #[] 0), #[]⟩
def a167 : Obj := ⟨N, none, (.fields #[]), #[]⟩
def a168 : Obj := ⟨(T "tuple"), none, (.seq #[(V "self" 721), (V "a" 722), (V "b" 723), (V "c" 724)] 0), #[]⟩
def a169 : Obj := ⟨(T "tuple"), none, (.seq #[] 0), #[]⟩
def a170 : Obj := ⟨N, none, (.func (fd (kd (st 11) 3) (Str.ofString "Class.specificity") 0 [] N N N N none N N 0)), #[]⟩
def a171 : Obj := ⟨(T "code"), none, (.fields #[(V "specificity" 718), (V "Class.specificity" 719), (V "/claim/cut.py" 720), (I 66 0), (I 1 0), (I 0 0), (I 0 0), (I 3 0), (R 166), (B true), (I 276 0), (R 167), N, (R 168), (R 169), (R 170), (I 725 0), (I 66 0), (V "/claim/cut.py" 726)]), #[]⟩
def a172 : Obj := ⟨(T "function"), none, (.func (fd (kd (st 11) 3) (Str.ofString "Class.specificity") 3 [] N N N (V "cssselect.parser" 296) none (R 171) N 0)), #[]⟩
def a173 : Obj := ⟨(T "tuple"), none, (.seq #[(V "class_name" 728), (V "selector" 729)] 0), #[]⟩
def a174 (P : Params) : Obj := ⟨(T "dict"), none, (.dict #[E P "__module__" 690 (V "cssselect.parser" 296), E P "__firstlineno__" 694 (I 54 693), E P "__init__" 703 (R 151), E P "__repr__" 710 (R 158), E P "canonical" 717 (R 165), E P "specificity" 727 (R 172), E P "__static_attributes__" 730 (R 173), E P "__dict__" 732 (R 176), E P "__weakref__" 734 (R 177), E P "__doc__" 735 N] 4), #[]⟩
def a175 : Obj := ⟨(T "type"), none, (.cls ⟨(Str.ofString "Class"), [(T "object")], [(R 175), (T "object")], 174, (Str.ofString "Class"), true, [], [], false, none, false⟩), #[none, none, (some (V "Class" 683)), (some (V "Class" 691)), (some (U "object.__new__")), (some (B true))]⟩
def a176 : Obj := ⟨(T "getset_descriptor"), none, (.fields #[(V "__dict__" 731), (R 175), (U "function.__dict__"), (U "function.__dict__#set")]), #[]⟩
def a177 : Obj := ⟨(T "getset_descriptor"), none, (.fields #[(V "__weakref__" 733), (R 175), (U "ExceptionGroup.__weakref__"), N]), #[]⟩
def a178 : Obj := ⟨(T "super"), none, (.fields #[(R 175), (R 175), (R 175)]), #[]⟩
def a179 : Obj := ⟨(T "builtin_function_or_method"), none, (.fields #[(U "object.__init_subclass__"), (R 175)]), #[]⟩
def T11 (P : Params) : BT := (n (a0 P) (n (a1 P) (n (a3v4 P) (n a7 (n a15 (n a31 (n a63 (n a127 z z) z) (n a95 (n a159 z z) z)) (n a47 (n a79 (n a143 z z) z) (n a111 (n a175 z z) z))) (n a23 (n a39 (n a71 (n a135 z z) z) (n a103 (n a167 z z) z)) (n a55 (n a87 (n a151 z z) z) (n a119 z z)))) (n (a11 P) (n a19 (n a35 (n a67 (n a131 z z) z) (n a99 (n a163 z z) z)) (n a51 (n a83 (n a147 z z) z) (n a115 (n a179 z z) z))) (n a27 (n a43 (n a75 (n a139 z z) z) (n a107 (n a171 z z) z)) (n a59 (n (a91 P) (n a155 z z) z) (n a123 z z))))) (n a5 (n a9 (n a17 (n a33 (n a65 (n a129 z z) z) (n (a97 P) (n a161 z z) z)) (n a49 (n a81 (n a145 z z) z) (n a113 (n a177 z z) z))) (n a25 (n a41 (n a73 (n a137 z z) z) (n a105 (n a169 z z) z)) (n a57 (n a89 (n a153 z z) z) (n a121 z z)))) (n (a13 P) (n (a21 P) (n a37 (n a69 (n a133 z z) z) (n a101 (n a165 z z) z)) (n a53 (n (a85 P) (n a149 z z) z) (n a117 z z))) (n a29v4 (n a45 (n a77 (n a141 z z) z) (n a109 (n a173 z z) z)) (n a61 (n a93 (n a157 z z) z) (n a125 z z)))))) (n (a2v1 P) (n a4 (n a8 (n a16 (n a32 (n a64 (n a128 z z) z) (n a96 (n a160 z z) z)) (n a48 (n a80 (n a144 z z) z) (n a112 (n a176 z z) z))) (n a24 (n a40 (n (a72 P) (n a136 z z) z) (n a104 (n a168 z z) z)) (n a56 (n a88 (n a152 z z) z) (n a120 z z)))) (n a12 (n (a20 P) (n a36 (n a68 (n (a132 P) z z) z) (n a100 (n a164 z z) z)) (n a52 (n a84 (n a148 z z) z) (n a116 z z))) (n a28 (n a44 (n a76 (n (a140 P) z z) z) (n a108 (n a172 z z) z)) (n a60 (n a92 (n a156 z z) z) (n a124 z z))))) (n a6 (n a10 (n a18 (n a34 (n a66 (n a130 z z) z) (n a98 (n a162 z z) z)) (n a50 (n a82 (n a146 z z) z) (n a114 (n a178 z z) z))) (n a26 (n a42 (n a74 (n a138 z z) z) (n a106 (n a170 z z) z)) (n a58 (n a90 (n a154 z z) z) (n a122 z z)))) (n a14 (n a22 (n a38 (n a70 (n a134 z z) z) (n a102 (n a166 z z) z)) (n a54 (n a86 (n a150 z z) z) (n a118 z z))) (n a30 (n a46 (n (a78 P) (n a142 z z) z) (n a110 (n (a174 P) z z) z)) (n a62 (n a94 (n a158 z z) z) (n a126 z z)))))))
def a3v5 (P : Params) : Obj := grow (a3v4 P) #[E P "FunctionalPseudoElement" 788 (R 213)] 21
def a29v5 : Obj := ⟨N, none, (.fields #[(I 2 0), (I 0 0), (R 37), (I 5 0), (I 0 0), (R 44), (I 12 0), (I 0 0), (R 61), (I 14 0), (I 0 0), (R 68), (I 16 0), (I 0 0), (R 75), (I 18 0), (I 0 0), (R 88), (I 20 0), (I 0 0), (R 100), (I 54 0), (I 0 0), (R 143), (I 70 0), (I 0 0), (R 185)]), #[]⟩
def a180 : Obj := ⟨(T "tuple"), none, (.seq #[] 0), #[]⟩
def a181 : Obj := ⟨(T "builtin_function_or_method"), none, (.fields #[(U "type.__prepare__"), (T "type")]), #[]⟩
def a182 (P : Params) : Obj := ⟨(T "dict"), none, (.dict #[E P "__module__" 745 (V "cssselect.parser" 296), E P "__qualname__" 747 (V "FunctionalPseudoElement" 746), E P "__firstlineno__" 749 (I 70 748), E P "__init__" 758 (R 193), E P "__repr__" 764 (R 198), E P "argument_types" 770 (R 203), E P "canonical" 778 (R 210), E P "__static_attributes__" 781 (R 211)] 8), #[]⟩
def a183 : Obj := ⟨(T "tuple"), none, (.seq #[] 0), #[]⟩
def a184 : Obj := ⟨N, none, (.fields #[(I 72 0), (I 4 0), (R 192), (I 76 0), (I 4 0), (R 197), (I 80 0), (I 4 0), (R 202), (I 83 0), (I 4 0), (R 209)]), #[]⟩
def a185 : Obj := ⟨(T "code"), none, (.fields #[(V "FunctionalPseudoElement" 740), (V "FunctionalPseudoElement" 741), (V "/claim/cut.py" 742), (I 70 0), (I 0 0), (I 0 0), (I 0 0), (I 0 0), (R 183), (B false), (I 276 0), (R 184), N, N, N, N, (I 743 0), (I 70 0), (V "/claim/cut.py" 744)]), #[]⟩
def a186 : Obj := ⟨(T "frame"), none, .plain, #[(some (R 185)), (some (R 3)), (some (R 182)), none, (some (V "cssselect.parser" 296)), none, (some (R 0))]⟩
def a187 : Obj := ⟨(T "tuple"), none, (.seq #[] 0), #[]⟩
def a188 : Obj := ⟨N, none, (.fields #[]), #[]⟩
def a189 : Obj := ⟨(T "tuple"), none, (.seq #[(V "self" 753), (V "name" 754), (V "arguments" 755)] 0), #[]⟩
def a190 : Obj := ⟨(T "tuple"), none, (.seq #[] 0), #[]⟩
def a191 : Obj := ⟨N, none, (.func (fd (kd (st 12) 0) (Str.ofString "FunctionalPseudoElement.__init__") 0 [] N N N N none N N 0)), #[]⟩
def a192 : Obj := ⟨(T "code"), none, (.fields #[(V "__init__" 750), (V "FunctionalPseudoElement.__init__" 751), (V "/claim/cut.py" 752), (I 72 0), (I 3 0), (I 0 0), (I 0 0), (I 3 0), (R 187), (B true), (I 276 0), (R 188), N, (R 189), (R 190), (R 191), (I 756 0), (I 72 0), (V "/claim/cut.py" 757)]), #[]⟩
def a193 : Obj := ⟨(T "function"), none, (.func (fd (kd (st 12) 0) (Str.ofString "FunctionalPseudoElement.__init__") 3 [] N N N (V "cssselect.parser" 296) none (R 192) N 0)), #[]⟩
def a194 : Obj := ⟨(T "tuple"), none, (.seq #[] 0), #[]⟩
def a195 : Obj := ⟨N, none, (.fields #[]), #[]⟩
def a196 : Obj := ⟨N, none, (.func (fd (kd (st 12) 1) (Str.ofString "FunctionalPseudoElement.__repr__") 0 [] N N N N none N N 0)), #[]⟩
def a197 : Obj := ⟨(T "code"), none, (.fields #[(V "__repr__" 759), (V "FunctionalPseudoElement.__repr__" 760), (V "/claim/cut.py" 761), (I 76 0), (I 1 0), (I 0 0), (I 0 0), (I 3 0), (R 194), (B true), (I 276 0), (R 195), N, N, N, (R 196), (I 762 0), (I 76 0), (V "/claim/cut.py" 763)]), #[]⟩
def a198 : Obj := ⟨(T "function"), none, (.func (fd (kd (st 12) 1) (Str.ofString "FunctionalPseudoElement.__repr__") 3 [] N N N (V "cssselect.parser" 296) none (R 197) N 0)), #[]⟩
def a199 : Obj := ⟨(T "tuple"), none, (.seq #[] 0), #[]⟩
def a200 : Obj := ⟨N, none, (.fields #[]), #[]⟩
def a201 : Obj := ⟨N, none, (.func (fd (kd (st 12) 2) (Str.ofString "FunctionalPseudoElement.argument_types") 0 [] N N N N none N N 0)), #[]⟩
def a202 : Obj := ⟨(T "code"), none, (.fields #[(V "argument_types" 765), (V "FunctionalPseudoElement.argument_types" 766), (V "/claim/cut.py" 767), (I 80 0), (I 1 0), (I 0 0), (I 0 0), (I 3 0), (R 199), (B true), (I 276 0), (R 200), N, N, N, (R 201), (I 768 0), (I 80 0), (V "/claim/cut.py" 769)]), #[]⟩
def a203 : Obj := ⟨(T "function"), none, (.func (fd (kd (st 12) 2) (Str.ofString "FunctionalPseudoElement.argument_types") 3 [] N N N (V "cssselect.parser" 296) none (R 202) N 0)), #[]⟩
def a204 : Obj := ⟨(T "tuple"), none, (.seq #[] 0), #[]⟩
def a205 : Obj := ⟨N, none, (.fields #[]), #[]⟩
def a206 : Obj := ⟨(T "tuple"), none, (.seq #[(V "self" 774), (V "args" 775)] 0), #[]⟩
def a207 : Obj := ⟨(T "tuple"), none, (.seq #[] 0), #[]⟩
def a208 : Obj := ⟨N, none, (.func (fd (kd (st 12) 3) (Str.ofString "FunctionalPseudoElement.canonical") 0 [] N N N N none N N 0)), #[]⟩
def a209 : Obj := ⟨(T "code"), none, (.fields #[(V "canonical" 771), (V "FunctionalPseudoElement.canonical" 772), (V "/claim/cut.py" 773), (I 83 0), (I 1 0), (I 0 0), (I 0 0), (I 3 0), (R 204), (B true), (I 276 0), (R 205), N, (R 206), (R 207), (R 208), (I 776 0), (I 83 0), (V "/claim/cut.py" 777)]), #[]⟩
def a210 : Obj := ⟨(T "function"), none, (.func (fd (kd (st 12) 3) (Str.ofString "FunctionalPseudoElement.canonical") 3 [] N N N (V "cssselect.parser" 296) none (R 209) N 0)), #[]⟩
def a211 : Obj := ⟨(T "tuple"), none, (.seq #[(V "arguments" 779), (V "name" 780)] 0), #[]⟩
def a212 (P : Params) : Obj := ⟨(T "dict"), none, (.dict #[E P "__module__" 745 (V "cssselect.parser" 296), E P "__firstlineno__" 749 (I 70 748), E P "__init__" 758 (R 193), E P "__repr__" 764 (R 198), E P "argument_types" 770 (R 203), E P "canonical" 778 (R 210), E P "__static_attributes__" 781 (R 211), E P "__dict__" 783 (R 214), E P "__weakref__" 785 (R 215), E P "__doc__" 786 N] 4), #[]⟩
def a213 : Obj := ⟨(T "type"), none, (.cls ⟨(Str.ofString "FunctionalPseudoElement"), [(T "object")], [(R 213), (T "object")], 212, (Str.ofString "FunctionalPseudoElement"), true, [], [], false, none, false⟩), #[none, none, (some (V "FunctionalPseudoElement" 738)), (some (V "FunctionalPseudoElement" 746)), (some (U "object.__new__")), (some (B true))]⟩
def a214 : Obj := ⟨(T "getset_descriptor"), none, (.fields #[(V "__dict__" 782), (R 213), (U "function.__dict__"), (U "function.__dict__#set")]), #[]⟩
def a215 : Obj := ⟨(T "getset_descriptor"), none, (.fields #[(V "__weakref__" 784), (R 213), (U "ExceptionGroup.__weakref__"), N]), #[]⟩
def a216 : Obj := ⟨(T "super"), none, (.fields #[(R 213), (R 213), (R 213)]), #[]⟩
def a217 : Obj := ⟨(T "builtin_function_or_method"), none, (.fields #[(U "object.__init_subclass__"), (R 213)]), #[]⟩
def T12 (P : Params) : BT := (n (a0 P) (n (a1 P) (n (a3v5 P) (n a7 (n a15 (n a31 (n a63 (n a127 z z) (n a191 z z)) (n a95 (n a159 z z) z)) (n a47 (n a79 (n a143 z z) (n a207 z z)) (n a111 (n a175 z z) z))) (n a23 (n a39 (n a71 (n a135 z z) (n a199 z z)) (n a103 (n a167 z z) z)) (n a55 (n a87 (n a151 z z) (n a215 z z)) (n a119 (n a183 z z) z)))) (n (a11 P) (n a19 (n a35 (n a67 (n a131 z z) (n a195 z z)) (n a99 (n a163 z z) z)) (n a51 (n a83 (n a147 z z) (n a211 z z)) (n a115 (n a179 z z) z))) (n a27 (n a43 (n a75 (n a139 z z) (n a203 z z)) (n a107 (n a171 z z) z)) (n a59 (n (a91 P) (n a155 z z) z) (n a123 (n a187 z z) z))))) (n a5 (n a9 (n a17 (n a33 (n a65 (n a129 z z) (n a193 z z)) (n (a97 P) (n a161 z z) z)) (n a49 (n a81 (n a145 z z) (n a209 z z)) (n a113 (n a177 z z) z))) (n a25 (n a41 (n a73 (n a137 z z) (n a201 z z)) (n a105 (n a169 z z) z)) (n a57 (n a89 (n a153 z z) (n a217 z z)) (n a121 (n a185 z z) z)))) (n (a13 P) (n (a21 P) (n a37 (n a69 (n a133 z z) (n a197 z z)) (n a101 (n a165 z z) z)) (n a53 (n (a85 P) (n a149 z z) (n a213 z z)) (n a117 (n a181 z z) z))) (n a29v5 (n a45 (n a77 (n a141 z z) (n a205 z z)) (n a109 (n a173 z z) z)) (n a61 (n a93 (n a157 z z) z) (n a125 (n a189 z z) z)))))) (n (a2v1 P) (n a4 (n a8 (n a16 (n a32 (n a64 (n a128 z z) (n a192 z z)) (n a96 (n a160 z z) z)) (n a48 (n a80 (n a144 z z) (n a208 z z)) (n a112 (n a176 z z) z))) (n a24 (n a40 (n (a72 P) (n a136 z z) (n a200 z z)) (n a104 (n a168 z z) z)) (n a56 (n a88 (n a152 z z) (n a216 z z)) (n a120 (n a184 z z) z)))) (n a12 (n (a20 P) (n a36 (n a68 (n (a132 P) z z) (n a196 z z)) (n a100 (n a164 z z) z)) (n a52 (n a84 (n a148 z z) (n (a212 P) z z)) (n a116 (n a180 z z) z))) (n a28 (n a44 (n a76 (n (a140 P) z z) (n a204 z z)) (n a108 (n a172 z z) z)) (n a60 (n a92 (n a156 z z) z) (n a124 (n a188 z z) z))))) (n a6 (n a10 (n a18 (n a34 (n a66 (n a130 z z) (n a194 z z)) (n a98 (n a162 z z) z)) (n a50 (n a82 (n a146 z z) (n a210 z z)) (n a114 (n a178 z z) z))) (n a26 (n a42 (n a74 (n a138 z z) (n a202 z z)) (n a106 (n a170 z z) z)) (n a58 (n a90 (n a154 z z) z) (n a122 (n a186 z z) z)))) (n a14 (n a22 (n a38 (n a70 (n a134 z z) (n a198 z z)) (n a102 (n a166 z z) z)) (n a54 (n a86 (n a150 z z) (n a214 z z)) (n a118 (n (a182 P) z z) z))) (n a30 (n a46 (n (a78 P) (n a142 z z) (n a206 z z)) (n a110 (n (a174 P) z z) z)) (n a62 (n a94 (n a158 z z) z) (n a126 (n a190 z z) z)))))))
def a3v6 (P : Params) : Obj := grow (a3v5 P) #[E P "Function" 851 (R 258)] 22
def a29v6 : Obj := ⟨N, none, (.fields #[(I 2 0), (I 0 0), (R 37), (I 5 0), (I 0 0), (R 44), (I 12 0), (I 0 0), (R 61), (I 14 0), (I 0 0), (R 68), (I 16 0), (I 0 0), (R 75), (I 18 0), (I 0 0), (R 88), (I 20 0), (I 0 0), (R 100), (I 54 0), (I 0 0), (R 143), (I 70 0), (I 0 0), (R 185), (I 86 0), (I 0 0), (R 223)]), #[]⟩
def a218 : Obj := ⟨(T "tuple"), none, (.seq #[] 0), #[]⟩
def a219 : Obj := ⟨(T "builtin_function_or_method"), none, (.fields #[(U "type.__prepare__"), (T "type")]), #[]⟩
def a220 (P : Params) : Obj := ⟨(T "dict"), none, (.dict #[E P "__module__" 796 (V "cssselect.parser" 296), E P "__qualname__" 798 (V "Function" 797), E P "__firstlineno__" 800 (I 86 799), E P "__init__" 810 (R 231), E P "__repr__" 816 (R 236), E P "argument_types" 822 (R 241), E P "canonical" 830 (R 248), E P "specificity" 840 (R 255), E P "__static_attributes__" 844 (R 256)] 9), #[]⟩
def a221 : Obj := ⟨(T "tuple"), none, (.seq #[] 0), #[]⟩
def a222 : Obj := ⟨N, none, (.fields #[(I 88 0), (I 4 0), (R 230), (I 93 0), (I 4 0), (R 235), (I 97 0), (I 4 0), (R 240), (I 100 0), (I 4 0), (R 247), (I 104 0), (I 4 0), (R 254)]), #[]⟩
def a223 : Obj := ⟨(T "code"), none, (.fields #[(V "Function" 791), (V "Function" 792), (V "/claim/cut.py" 793), (I 86 0), (I 0 0), (I 0 0), (I 0 0), (I 0 0), (R 221), (B false), (I 276 0), (R 222), N, N, N, N, (I 794 0), (I 86 0), (V "/claim/cut.py" 795)]), #[]⟩
def a224 : Obj := ⟨(T "frame"), none, .plain, #[(some (R 223)), (some (R 3)), (some (R 220)), none, (some (V "cssselect.parser" 296)), none, (some (R 0))]⟩
def a225 : Obj := ⟨(T "tuple"), none, (.seq #[] 0), #[]⟩
def a226 : Obj := ⟨N, none, (.fields #[]), #[]⟩
def a227 : Obj := ⟨(T "tuple"), none, (.seq #[(V "self" 804), (V "selector" 805), (V "name" 806), (V "arguments" 807)] 0), #[]⟩
def a228 : Obj := ⟨(T "tuple"), none, (.seq #[] 0), #[]⟩
def a229 : Obj := ⟨N, none, (.func (fd (kd (st 13) 0) (Str.ofString "Function.__init__") 0 [] N N N N none N N 0)), #[]⟩
def a230 : Obj := ⟨(T "code"), none, (.fields #[(V "__init__" 801), (V "Function.__init__" 802), (V "/claim/cut.py" 803), (I 88 0), (I 4 0), (I 0 0), (I 0 0), (I 3 0), (R 225), (B true), (I 276 0), (R 226), N, (R 227), (R 228), (R 229), (I 808 0), (I 88 0), (V "/claim/cut.py" 809)]), #[]⟩
def a231 : Obj := ⟨(T "function"), none, (.func (fd (kd (st 13) 0) (Str.ofString "Function.__init__") 3 [] N N N (V "cssselect.parser" 296) none (R 230) N 0)), #[]⟩
def a232 : Obj := ⟨(T "tuple"), none, (.seq #[] 0), #[]⟩
def a233 : Obj := ⟨N, none, (.fields #[]), #[]⟩
def a234 : Obj := ⟨N, none, (.func (fd (kd (st 13) 1) (Str.ofString "Function.__repr__") 0 [] N N N N none N N 0)), #[]⟩
def a235 : Obj := ⟨(T "code"), none, (.fields #[(V "__repr__" 811), (V "Function.__repr__" 812), (V "/claim/cut.py" 813), (I 93 0), (I 1 0), (I 0 0), (I 0 0), (I 3 0), (R 232), (B true), (I 276 0), (R 233), N, N, N, (R 234), (I 814 0), (I 93 0), (V "/claim/cut.py" 815)]), #[]⟩
def a236 : Obj := ⟨(T "function"), none, (.func (fd (kd (st 13) 1) (Str.ofString "Function.__repr__") 3 [] N N N (V "cssselect.parser" 296) none (R 235) N 0)), #[]⟩
def a237 : Obj := ⟨(T "tuple"), none, (.seq #[] 0), #[]⟩
def a238 : Obj := ⟨N, none, (.fields #[]), #[]⟩
def a239 : Obj := ⟨N, none, (.func (fd (kd (st 13) 2) (Str.ofString "Function.argument_types") 0 [] N N N N none N N 0)), #[]⟩
def a240 : Obj := ⟨(T "code"), none, (.fields #[(V "argument_types" 817), (V "Function.argument_types" 818), (V "/claim/cut.py" 819), (I 97 0), (I 1 0), (I 0 0), (I 0 0), (I 3 0), (R 237), (B true), (I 276 0), (R 238), N, N, N, (R 239), (I 820 0), (I 97 0), (V "/claim/cut.py" 821)]), #[]⟩
def a241 : Obj := ⟨(T "function"), none, (.func (fd (kd (st 13) 2) (Str.ofString "Function.argument_types") 3 [] N N N (V "cssselect.parser" 296) none (R 240) N 0)), #[]⟩
def a242 : Obj := ⟨(T "tuple"), none, (.seq #[] 0), #[]⟩
def a243 : Obj := ⟨N, none, (.fields #[]), #[]⟩
def a244 : Obj := ⟨(T "tuple"), none, (.seq #[(V "self" 826), (V "args" 827)] 0), #[]⟩
def a245 : Obj := ⟨(T "tuple"), none, (.seq #[] 0), #[]⟩
def a246 : Obj := ⟨N, none, (.func (fd (kd (st 13) 3) (Str.ofString "Function.canonical") 0 [] N N N N none N N 0)), #[]⟩
def a247 : Obj := ⟨(T "code"), none, (.fields #[(V "canonical" 823), (V "Function.canonical" 824), (V "/claim/cut.py" 825), (I 100 0), (I 1 0), (I 0 0), (I 0 0), (I 3 0), (R 242), (B true), (I 276 0), (R 243), N, (R 244), (R 245), (R 246), (I 828 0), (I 100 0), (V "/claim/cut.py" 829)]), #[]⟩
def a248 : Obj := ⟨(T "function"), none, (.func (fd (kd (st 13) 3) (Str.ofString "Function.canonical") 3 [] N N N (V "cssselect.parser" 296) none (R 247) N 0)), #[]⟩
def a249 : Obj := ⟨(T "tuple"), none, (.seq #[] 0), #[]⟩
def a250 : Obj := ⟨N, none, (.fields #[]), #[]⟩
def a251 : Obj := ⟨(T "tuple"), none, (.seq #[(V "self" 834), (V "a" 835), (V "b" 836), (V "c" 837)] 0), #[]⟩
def a252 : Obj := ⟨(T "tuple"), none, (.seq #[] 0), #[]⟩
def a253 : Obj := ⟨N, none, (.func (fd (kd (st 13) 4) (Str.ofString "Function.specificity") 0 [] N N N N none N N 0)), #[]⟩
def a254 : Obj := ⟨(T "code"), none, (.fields #[(V "specificity" 831), (V "Function.specificity" 832), (V "/claim/cut.py" 833), (I 104 0), (I 1 0), (I 0 0), (I 0 0), (I 3 0), (R 249), (B true), (I 276 0), (R 250), N, (R 251), (R 252), (R 253), (I 838 0), (I 104 0), (V "/claim/cut.py" 839)]), #[]⟩
def a255 : Obj := ⟨(T "function"), none, (.func (fd (kd (st 13) 4) (Str.ofString "Function.specificity") 3 [] N N N (V "cssselect.parser" 296) none (R 254) N 0)), #[]⟩
def a256 : Obj := ⟨(T "tuple"), none, (.seq #[(V "arguments" 841), (V "name" 842), (V "selector" 843)] 0), #[]⟩
def a257 (P : Params) : Obj := ⟨(T "dict"), none, (.dict #[E P "__module__" 796 (V "cssselect.parser" 296), E P "__firstlineno__" 800 (I 86 799), E P "__init__" 810 (R 231), E P "__repr__" 816 (R 236), E P "argument_types" 822 (R 241), E P "canonical" 830 (R 248), E P "specificity" 840 (R 255), E P "__static_attributes__" 844 (R 256), E P "__dict__" 846 (R 259), E P "__weakref__" 848 (R 260), E P "__doc__" 849 N] 4), #[]⟩
def a258 : Obj := ⟨(T "type"), none, (.cls ⟨(Str.ofString "Function"), [(T "object")], [(R 258), (T "object")], 257, (Str.ofString "Function"), true, [], [], false, none, false⟩), #[none, none, (some (V "Function" 789)), (some (V "Function" 797)), (some (U "object.__new__")), (some (B true))]⟩
def a259 : Obj := ⟨(T "getset_descriptor"), none, (.fields #[(V "__dict__" 845), (R 258), (U "function.__dict__"), (U "function.__dict__#set")]), #[]⟩
def a260 : Obj := ⟨(T "getset_descriptor"), none, (.fields #[(V "__weakref__" 847), (R 258), (U "ExceptionGroup.__weakref__"), N]), #[]⟩
def a261 : Obj := ⟨(T "super"), none, (.fields #[(R 258), (R 258), (R 258)]), #[]⟩
def a262 : Obj := ⟨(T "builtin_function_or_method"), none, (.fields #[(U "object.__init_subclass__"), (R 258)]), #[]⟩
def T13 (P : Params) : BT := (n (a0 P) (n (a1 P) (n (a3v6 P) (n a7 (n a15 (n a31 (n a63 (n a127 (n a255 z z) z) (n a191 z z)) (n a95 (n a159 z z) (n a223 z z))) (n a47 (n a79 (n a143 z z) (n a207 z z)) (n a111 (n a175 z z) (n a239 z z)))) (n a23 (n a39 (n a71 (n a135 z z) (n a199 z z)) (n a103 (n a167 z z) (n a231 z z))) (n a55 (n a87 (n a151 z z) (n a215 z z)) (n a119 (n a183 z z) (n a247 z z))))) (n (a11 P) (n a19 (n a35 (n a67 (n a131 (n a259 z z) z) (n a195 z z)) (n a99 (n a163 z z) (n a227 z z))) (n a51 (n a83 (n a147 z z) (n a211 z z)) (n a115 (n a179 z z) (n a243 z z)))) (n a27 (n a43 (n a75 (n a139 z z) (n a203 z z)) (n a107 (n a171 z z) (n a235 z z))) (n a59 (n (a91 P) (n a155 z z) (n a219 z z)) (n a123 (n a187 z z) (n a251 z z)))))) (n a5 (n a9 (n a17 (n a33 (n a65 (n a129 (n (a257 P) z z) z) (n a193 z z)) (n (a97 P) (n a161 z z) (n a225 z z))) (n a49 (n a81 (n a145 z z) (n a209 z z)) (n a113 (n a177 z z) (n a241 z z)))) (n a25 (n a41 (n a73 (n a137 z z) (n a201 z z)) (n a105 (n a169 z z) (n a233 z z))) (n a57 (n a89 (n a153 z z) (n a217 z z)) (n a121 (n a185 z z) (n a249 z z))))) (n (a13 P) (n (a21 P) (n a37 (n a69 (n a133 (n a261 z z) z) (n a197 z z)) (n a101 (n a165 z z) (n a229 z z))) (n a53 (n (a85 P) (n a149 z z) (n a213 z z)) (n a117 (n a181 z z) (n a245 z z)))) (n a29v6 (n a45 (n a77 (n a141 z z) (n a205 z z)) (n a109 (n a173 z z) (n a237 z z))) (n a61 (n a93 (n a157 z z) (n a221 z z)) (n a125 (n a189 z z) (n a253 z z))))))) (n (a2v1 P) (n a4 (n a8 (n a16 (n a32 (n a64 (n a128 (n a256 z z) z) (n a192 z z)) (n a96 (n a160 z z) (n a224 z z))) (n a48 (n a80 (n a144 z z) (n a208 z z)) (n a112 (n a176 z z) (n a240 z z)))) (n a24 (n a40 (n (a72 P) (n a136 z z) (n a200 z z)) (n a104 (n a168 z z) (n a232 z z))) (n a56 (n a88 (n a152 z z) (n a216 z z)) (n a120 (n a184 z z) (n a248 z z))))) (n a12 (n (a20 P) (n a36 (n a68 (n (a132 P) (n a260 z z) z) (n a196 z z)) (n a100 (n a164 z z) (n a228 z z))) (n a52 (n a84 (n a148 z z) (n (a212 P) z z)) (n a116 (n a180 z z) (n a244 z z)))) (n a28 (n a44 (n a76 (n (a140 P) z z) (n a204 z z)) (n a108 (n a172 z z) (n a236 z z))) (n a60 (n a92 (n a156 z z) (n (a220 P) z z)) (n a124 (n a188 z z) (n a252 z z)))))) (n a6 (n a10 (n a18 (n a34 (n a66 (n a130 (n a258 z z) z) (n a194 z z)) (n a98 (n a162 z z) (n a226 z z))) (n a50 (n a82 (n a146 z z) (n a210 z z)) (n a114 (n a178 z z) (n a242 z z)))) (n a26 (n a42 (n a74 (n a138 z z) (n a202 z z)) (n a106 (n a170 z z) (n a234 z z))) (n a58 (n a90 (n a154 z z) (n a218 z z)) (n a122 (n a186 z z) (n a250 z z))))) (n a14 (n a22 (n a38 (n a70 (n a134 (n a262 z z) z) (n a198 z z)) (n a102 (n a166 z z) (n a230 z z))) (n a54 (n a86 (n a150 z z) (n a214 z z)) (n a118 (n (a182 P) z z) (n a246 z z)))) (n a30 (n a46 (n (a78 P) (n a142 z z) (n a206 z z)) (n a110 (n (a174 P) z z) (n a238 z z))) (n a62 (n a94 (n a158 z z) (n a222 z z)) (n a126 (n a190 z z) (n a254 z z))))))))
def a3v7 (P : Params) : Obj := grow (a3v6 P) #[E P "Pseudo" 906 (R 300)] 23
def a29v7 : Obj := ⟨N, none, (.fields #[(I 2 0), (I 0 0), (R 37), (I 5 0), (I 0 0), (R 44), (I 12 0), (I 0 0), (R 61), (I 14 0), (I 0 0), (R 68), (I 16 0), (I 0 0), (R 75), (I 18 0), (I 0 0), (R 88), (I 20 0), (I 0 0), (R 100), (I 54 0), (I 0 0), (R 143), (I 70 0), (I 0 0), (R 185), (I 86 0), (I 0 0), (R 223), (I 108 0), (I 0 0), (R 268)]), #[]⟩
def a263 : Obj := ⟨(T "tuple"), none, (.seq #[] 0), #[]⟩
def a264 : Obj := ⟨(T "builtin_function_or_method"), none, (.fields #[(U "type.__prepare__"), (T "type")]), #[]⟩
def a265 (P : Params) : Obj := ⟨(T "dict"), none, (.dict #[E P "__module__" 859 (V "cssselect.parser" 296), E P "__qualname__" 861 (V "Pseudo" 860), E P "__firstlineno__" 863 (I 108 862), E P "__init__" 872 (R 276), E P "__repr__" 879 (R 283), E P "canonical" 886 (R 290), E P "specificity" 896 (R 297), E P "__static_attributes__" 899 (R 298)] 8), #[]⟩
def a266 : Obj := ⟨(T "tuple"), none, (.seq #[] 0), #[]⟩
def a267 : Obj := ⟨N, none, (.fields #[(I 110 0), (I 4 0), (R 275), (I 114 0), (I 4 0), (R 282), (I 117 0), (I 4 0), (R 289), (I 120 0), (I 4 0), (R 296)]), #[]⟩
def a268 : Obj := ⟨(T "code"), none, (.fields #[(V "Pseudo" 854), (V "Pseudo" 855), (V "/claim/cut.py" 856), (I 108 0), (I 0 0), (I 0 0), (I 0 0), (I 0 0), (R 266), (B false), (I 276 0), (R 267), N, N, N, N, (I 857 0), (I 108 0), (V "/claim/cut.py" 858)]), #[]⟩
def a269 : Obj := ⟨(T "frame"), none, .plain, #[(some (R 268)), (some (R 3)), (some (R 265)), none, (some (V "cssselect.parser" 296)), none, (some (R 0))]⟩
def a270 : Obj := ⟨(T "tuple"), none, (.seq #[] 0), #[]⟩
def a271 : Obj := ⟨N, none, (.fields #[]), #[]⟩
def a272 : Obj := ⟨(T "tuple"), none, (.seq #[(V "self" 867), (V "selector" 868), (V "ident" 869)] 0), #[]⟩
def a273 : Obj := ⟨(T "tuple"), none, (.seq #[] 0), #[]⟩
def a274 : Obj := ⟨N, none, (.func (fd (kd (st 14) 0) (Str.ofString "Pseudo.__init__") 0 [] N N N N none N N 0)), #[]⟩
def a275 : Obj := ⟨(T "code"), none, (.fields #[(V "__init__" 864), (V "Pseudo.__init__" 865), (V "/claim/cut.py" 866), (I 110 0), (I 3 0), (I 0 0), (I 0 0), (I 3 0), (R 270), (B true), (I 276 0), (R 271), N, (R 272), (R 273), (R 274), (I 870 0), (I 110 0), (V "/claim/cut.py" 871)]), #[]⟩
def a276 : Obj := ⟨(T "function"), none, (.func (fd (kd (st 14) 0) (Str.ofString "Pseudo.__init__") 3 [] N N N (V "cssselect.parser" 296) none (R 275) N 0)), #[]⟩
def a277 : Obj := ⟨(T "tuple"), none, (.seq #[] 0), #[]⟩
def a278 : Obj := ⟨N, none, (.fields #[]), #[]⟩
def a279 : Obj := ⟨(T "tuple"), none, (.seq #[(V "self" 876)] 0), #[]⟩
def a280 : Obj := ⟨(T "tuple"), none, (.seq #[] 0), #[]⟩
def a281 : Obj := ⟨N, none, (.func (fd (kd (st 14) 1) (Str.ofString "Pseudo.__repr__") 0 [] N N N N none N N 0)), #[]⟩
def a282 : Obj := ⟨(T "code"), none, (.fields #[(V "__repr__" 873), (V "Pseudo.__repr__" 874), (V "/claim/cut.py" 875), (I 114 0), (I 1 0), (I 0 0), (I 0 0), (I 3 0), (R 277), (B true), (I 276 0), (R 278), N, (R 279), (R 280), (R 281), (I 877 0), (I 114 0), (V "/claim/cut.py" 878)]), #[]⟩
def a283 : Obj := ⟨(T "function"), none, (.func (fd (kd (st 14) 1) (Str.ofString "Pseudo.__repr__") 3 [] N N N (V "cssselect.parser" 296) none (R 282) N 0)), #[]⟩
def a284 : Obj := ⟨(T "tuple"), none, (.seq #[] 0), #[]⟩
def a285 : Obj := ⟨N, none, (.fields #[]), #[]⟩
def a286 : Obj := ⟨(T "tuple"), none, (.seq #[(V "self" 883)] 0), #[]⟩
def a287 : Obj := ⟨(T "tuple"), none, (.seq #[] 0), #[]⟩
def a288 : Obj := ⟨N, none, (.func (fd (kd (st 14) 2) (Str.ofString "Pseudo.canonical") 0 [] N N N N none N N 0)), #[]⟩
def a289 : Obj := ⟨(T "code"), none, (.fields #[(V "canonical" 880), (V "Pseudo.canonical" 881), (V "/claim/cut.py" 882), (I 117 0), (I 1 0), (I 0 0), (I 0 0), (I 3 0), (R 284), (B true), (I 276 0), (R 285), N, (R 286), (R 287), (R 288), (I 884 0), (I 117 0), (V "/claim/cut.py" 885)]), #[]⟩
def a290 : Obj := ⟨(T "function"), none, (.func (fd (kd (st 14) 2) (Str.ofString "Pseudo.canonical") 3 [] N N N (V "cssselect.parser" 296) none (R 289) N 0)), #[]⟩
def a291 : Obj := ⟨(T "tuple"), none, (.seq #[] 0), #[]⟩
def a292 : Obj := ⟨N, none, (.fields #[]), #[]⟩
def a293 : Obj := ⟨(T "tuple"), none, (.seq #[(V "self" 890), (V "a" 891), (V "b" 892), (V "c" 893)] 0), #[]⟩
def a294 : Obj := ⟨(T "tuple"), none, (.seq #[] 0), #[]⟩
def a295 : Obj := ⟨N, none, (.func (fd (kd (st 14) 3) (Str.ofString "Pseudo.specificity") 0 [] N N N N none N N 0)), #[]⟩
def a296 : Obj := ⟨(T "code"), none, (.fields #[(V "specificity" 887), (V "Pseudo.specificity" 888), (V "/claim/cut.py" 889), (I 120 0), (I 1 0), (I 0 0), (I 0 0), (I 3 0), (R 291), (B true), (I 276 0), (R 292), N, (R 293), (R 294), (R 295), (I 894 0), (I 120 0), (V "/claim/cut.py" 895)]), #[]⟩
def a297 : Obj := ⟨(T "function"), none, (.func (fd (kd (st 14) 3) (Str.ofString "Pseudo.specificity") 3 [] N N N (V "cssselect.parser" 296) none (R 296) N 0)), #[]⟩
def a298 : Obj := ⟨(T "tuple"), none, (.seq #[(V "ident" 897), (V "selector" 898)] 0), #[]⟩
def a299 (P : Params) : Obj := ⟨(T "dict"), none, (.dict #[E P "__module__" 859 (V "cssselect.parser" 296), E P "__firstlineno__" 863 (I 108 862), E P "__init__" 872 (R 276), E P "__repr__" 879 (R 283), E P "canonical" 886 (R 290), E P "specificity" 896 (R 297), E P "__static_attributes__" 899 (R 298), E P "__dict__" 901 (R 301), E P "__weakref__" 903 (R 302), E P "__doc__" 904 N] 4), #[]⟩
def a300 : Obj := ⟨(T "type"), none, (.cls ⟨(Str.ofString "Pseudo"), [(T "object")], [(R 300), (T "object")], 299, (Str.ofString "Pseudo"), true, [], [], false, none, false⟩), #[none, none, (some (V "Pseudo" 852)), (some (V "Pseudo" 860)), (some (U "object.__new__")), (some (B true))]⟩
def a301 : Obj := ⟨(T "getset_descriptor"), none, (.fields #[(V "__dict__" 900), (R 300), (U "function.__dict__"), (U "function.__dict__#set")]), #[]⟩
def a302 : Obj := ⟨(T "getset_descriptor"), none, (.fields #[(V "__weakref__" 902), (R 300), (U "ExceptionGroup.__weakref__"), N]), #[]⟩
def a303 : Obj := ⟨(T "super"), none, (.fields #[(R 300), (R 300), (R 300)]), #[]⟩
def a304 : Obj := ⟨(T "builtin_function_or_method"), none, (.fields #[(U "object.__init_subclass__"), (R 300)]), #[]⟩
def T14 (P : Params) : BT := (n (a0 P) (n (a1 P) (n (a3v7 P) (n a7 (n a15 (n a31 (n a63 (n a127 (n a255 z z) z) (n a191 z z)) (n a95 (n a159 (n a287 z z) z) (n a223 z z))) (n a47 (n a79 (n a143 (n a271 z z) z) (n a207 z z)) (n a111 (n a175 (n a303 z z) z) (n a239 z z)))) (n a23 (n a39 (n a71 (n a135 (n a263 z z) z) (n a199 z z)) (n a103 (n a167 (n a295 z z) z) (n a231 z z))) (n a55 (n a87 (n a151 (n a279 z z) z) (n a215 z z)) (n a119 (n a183 z z) (n a247 z z))))) (n (a11 P) (n a19 (n a35 (n a67 (n a131 (n a259 z z) z) (n a195 z z)) (n a99 (n a163 (n a291 z z) z) (n a227 z z))) (n a51 (n a83 (n a147 (n a275 z z) z) (n a211 z z)) (n a115 (n a179 z z) (n a243 z z)))) (n a27 (n a43 (n a75 (n a139 (n a267 z z) z) (n a203 z z)) (n a107 (n a171 (n (a299 P) z z) z) (n a235 z z))) (n a59 (n (a91 P) (n a155 (n a283 z z) z) (n a219 z z)) (n a123 (n a187 z z) (n a251 z z)))))) (n a5 (n a9 (n a17 (n a33 (n a65 (n a129 (n (a257 P) z z) z) (n a193 z z)) (n (a97 P) (n a161 (n a289 z z) z) (n a225 z z))) (n a49 (n a81 (n a145 (n a273 z z) z) (n a209 z z)) (n a113 (n a177 z z) (n a241 z z)))) (n a25 (n a41 (n a73 (n a137 (n (a265 P) z z) z) (n a201 z z)) (n a105 (n a169 (n a297 z z) z) (n a233 z z))) (n a57 (n a89 (n a153 (n a281 z z) z) (n a217 z z)) (n a121 (n a185 z z) (n a249 z z))))) (n (a13 P) (n (a21 P) (n a37 (n a69 (n a133 (n a261 z z) z) (n a197 z z)) (n a101 (n a165 (n a293 z z) z) (n a229 z z))) (n a53 (n (a85 P) (n a149 (n a277 z z) z) (n a213 z z)) (n a117 (n a181 z z) (n a245 z z)))) (n a29v7 (n a45 (n a77 (n a141 (n a269 z z) z) (n a205 z z)) (n a109 (n a173 (n a301 z z) z) (n a237 z z))) (n a61 (n a93 (n a157 (n a285 z z) z) (n a221 z z)) (n a125 (n a189 z z) (n a253 z z))))))) (n (a2v1 P) (n a4 (n a8 (n a16 (n a32 (n a64 (n a128 (n a256 z z) z) (n a192 z z)) (n a96 (n a160 (n a288 z z) z) (n a224 z z))) (n a48 (n a80 (n a144 (n a272 z z) z) (n a208 z z)) (n a112 (n a176 (n a304 z z) z) (n a240 z z)))) (n a24 (n a40 (n (a72 P) (n a136 (n a264 z z) z) (n a200 z z)) (n a104 (n a168 (n a296 z z) z) (n a232 z z))) (n a56 (n a88 (n a152 (n a280 z z) z) (n a216 z z)) (n a120 (n a184 z z) (n a248 z z))))) (n a12 (n (a20 P) (n a36 (n a68 (n (a132 P) (n a260 z z) z) (n a196 z z)) (n a100 (n a164 (n a292 z z) z) (n a228 z z))) (n a52 (n a84 (n a148 (n a276 z z) z) (n (a212 P) z z)) (n a116 (n a180 z z) (n a244 z z)))) (n a28 (n a44 (n a76 (n (a140 P) (n a268 z z) z) (n a204 z z)) (n a108 (n a172 (n a300 z z) z) (n a236 z z))) (n a60 (n a92 (n a156 (n a284 z z) z) (n (a220 P) z z)) (n a124 (n a188 z z) (n a252 z z)))))) (n a6 (n a10 (n a18 (n a34 (n a66 (n a130 (n a258 z z) z) (n a194 z z)) (n a98 (n a162 (n a290 z z) z) (n a226 z z))) (n a50 (n a82 (n a146 (n a274 z z) z) (n a210 z z)) (n a114 (n a178 z z) (n a242 z z)))) (n a26 (n a42 (n a74 (n a138 (n a266 z z) z) (n a202 z z)) (n a106 (n a170 (n a298 z z) z) (n a234 z z))) (n a58 (n a90 (n a154 (n a282 z z) z) (n a218 z z)) (n a122 (n a186 z z) (n a250 z z))))) (n a14 (n a22 (n a38 (n a70 (n a134 (n a262 z z) z) (n a198 z z)) (n a102 (n a166 (n a294 z z) z) (n a230 z z))) (n a54 (n a86 (n a150 (n a278 z z) z) (n a214 z z)) (n a118 (n (a182 P) z z) (n a246 z z)))) (n a30 (n a46 (n (a78 P) (n a142 (n a270 z z) z) (n a206 z z)) (n a110 (n (a174 P) (n a302 z z) z) (n a238 z z))) (n a62 (n a94 (n a158 (n a286 z z) z) (n a222 z z)) (n a126 (n a190 z z) (n a254 z z))))))))
def a3v8 (P : Params) : Obj := grow (a3v7 P) #[E P "Negation" 965 (R 342), E P "_combinator_prefix" 972 (R 353)] 25
def a29v8 : Obj := ⟨N, none, (.fields #[(I 2 0), (I 0 0), (R 37), (I 5 0), (I 0 0), (R 44), (I 12 0), (I 0 0), (R 61), (I 14 0), (I 0 0), (R 68), (I 16 0), (I 0 0), (R 75), (I 18 0), (I 0 0), (R 88), (I 20 0), (I 0 0), (R 100), (I 54 0), (I 0 0), (R 143), (I 70 0), (I 0 0), (R 185), (I 86 0), (I 0 0), (R 223), (I 108 0), (I 0 0), (R 268), (I 124 0), (I 0 0), (R 310), (I 143 0), (I 0 0), (R 352)]), #[]⟩
def a305 : Obj := ⟨(T "tuple"), none, (.seq #[] 0), #[]⟩
def a306 : Obj := ⟨(T "builtin_function_or_method"), none, (.fields #[(U "type.__prepare__"), (T "type")]), #[]⟩
def a307 (P : Params) : Obj := ⟨(T "dict"), none, (.dict #[E P "__module__" 914 (V "cssselect.parser" 296), E P "__qualname__" 916 (V "Negation" 915), E P "__firstlineno__" 918 (I 124 917), E P "__init__" 927 (R 318), E P "__repr__" 934 (R 325), E P "canonical" 942 (R 332), E P "specificity" 955 (R 339), E P "__static_attributes__" 958 (R 340)] 8), #[]⟩
def a308 : Obj := ⟨(T "tuple"), none, (.seq #[] 0), #[]⟩
def a309 : Obj := ⟨N, none, (.fields #[(I 126 0), (I 4 0), (R 317), (I 130 0), (I 4 0), (R 324), (I 133 0), (I 4 0), (R 331), (I 139 0), (I 4 0), (R 338)]), #[]⟩
def a310 : Obj := ⟨(T "code"), none, (.fields #[(V "Negation" 909), (V "Negation" 910), (V "/claim/cut.py" 911), (I 124 0), (I 0 0), (I 0 0), (I 0 0), (I 0 0), (R 308), (B false), (I 276 0), (R 309), N, N, N, N, (I 912 0), (I 124 0), (V "/claim/cut.py" 913)]), #[]⟩
def a311 : Obj := ⟨(T "frame"), none, .plain, #[(some (R 310)), (some (R 3)), (some (R 307)), none, (some (V "cssselect.parser" 296)), none, (some (R 0))]⟩
def a312 : Obj := ⟨(T "tuple"), none, (.seq #[] 0), #[]⟩
def a313 : Obj := ⟨N, none, (.fields #[]), #[]⟩
def a314 : Obj := ⟨(T "tuple"), none, (.seq #[(V "self" 922), (V "selector" 923), (V "subselector" 924)] 0), #[]⟩
def a315 : Obj := ⟨(T "tuple"), none, (.seq #[] 0), #[]⟩
def a316 : Obj := ⟨N, none, (.func (fd (kd (st 15) 0) (Str.ofString "Negation.__init__") 0 [] N N N N none N N 0)), #[]⟩
def a317 : Obj := ⟨(T "code"), none, (.fields #[(V "__init__" 919), (V "Negation.__init__" 920), (V "/claim/cut.py" 921), (I 126 0), (I 3 0), (I 0 0), (I 0 0), (I 3 0), (R 312), (B true), (I 276 0), (R 313), N, (R 314), (R 315), (R 316), (I 925 0), (I 126 0), (V "/claim/cut.py" 926)]), #[]⟩
def a318 : Obj := ⟨(T "function"), none, (.func (fd (kd (st 15) 0) (Str.ofString "Negation.__init__") 3 [] N N N (V "cssselect.parser" 296) none (R 317) N 0)), #[]⟩
def a319 : Obj := ⟨(T "tuple"), none, (.seq #[] 0), #[]⟩
def a320 : Obj := ⟨N, none, (.fields #[]), #[]⟩
def a321 : Obj := ⟨(T "tuple"), none, (.seq #[(V "self" 931)] 0), #[]⟩
def a322 : Obj := ⟨(T "tuple"), none, (.seq #[] 0), #[]⟩
def a323 : Obj := ⟨N, none, (.func (fd (kd (st 15) 1) (Str.ofString "Negation.__repr__") 0 [] N N N N none N N 0)), #[]⟩
def a324 : Obj := ⟨(T "code"), none, (.fields #[(V "__repr__" 928), (V "Negation.__repr__" 929), (V "/claim/cut.py" 930), (I 130 0), (I 1 0), (I 0 0), (I 0 0), (I 3 0), (R 319), (B true), (I 276 0), (R 320), N, (R 321), (R 322), (R 323), (I 932 0), (I 130 0), (V "/claim/cut.py" 933)]), #[]⟩
def a325 : Obj := ⟨(T "function"), none, (.func (fd (kd (st 15) 1) (Str.ofString "Negation.__repr__") 3 [] N N N (V "cssselect.parser" 296) none (R 324) N 0)), #[]⟩
def a326 : Obj := ⟨(T "tuple"), none, (.seq #[] 0), #[]⟩
def a327 : Obj := ⟨N, none, (.fields #[]), #[]⟩
def a328 : Obj := ⟨(T "tuple"), none, (.seq #[(V "self" 938), (V "subsel" 939)] 0), #[]⟩
def a329 : Obj := ⟨(T "tuple"), none, (.seq #[] 0), #[]⟩
def a330 : Obj := ⟨N, none, (.func (fd (kd (st 15) 2) (Str.ofString "Negation.canonical") 0 [] N N N N none N N 0)), #[]⟩
def a331 : Obj := ⟨(T "code"), none, (.fields #[(V "canonical" 935), (V "Negation.canonical" 936), (V "/claim/cut.py" 937), (I 133 0), (I 1 0), (I 0 0), (I 0 0), (I 3 0), (R 326), (B true), (I 276 0), (R 327), N, (R 328), (R 329), (R 330), (I 940 0), (I 133 0), (V "/claim/cut.py" 941)]), #[]⟩
def a332 : Obj := ⟨(T "function"), none, (.func (fd (kd (st 15) 2) (Str.ofString "Negation.canonical") 3 [] N N N (V "cssselect.parser" 296) none (R 331) N 0)), #[]⟩
def a333 : Obj := ⟨(T "tuple"), none, (.seq #[] 0), #[]⟩
def a334 : Obj := ⟨N, none, (.fields #[]), #[]⟩
def a335 : Obj := ⟨(T "tuple"), none, (.seq #[(V "self" 946), (V "a1" 947), (V "b1" 948), (V "c1" 949), (V "a2" 950), (V "b2" 951), (V "c2" 952)] 0), #[]⟩
def a336 : Obj := ⟨(T "tuple"), none, (.seq #[] 0), #[]⟩
def a337 : Obj := ⟨N, none, (.func (fd (kd (st 15) 3) (Str.ofString "Negation.specificity") 0 [] N N N N none N N 0)), #[]⟩
def a338 : Obj := ⟨(T "code"), none, (.fields #[(V "specificity" 943), (V "Negation.specificity" 944), (V "/claim/cut.py" 945), (I 139 0), (I 1 0), (I 0 0), (I 0 0), (I 3 0), (R 333), (B true), (I 276 0), (R 334), N, (R 335), (R 336), (R 337), (I 953 0), (I 139 0), (V "/claim/cut.py" 954)]), #[]⟩
def a339 : Obj := ⟨(T "function"), none, (.func (fd (kd (st 15) 3) (Str.ofString "Negation.specificity") 3 [] N N N (V "cssselect.parser" 296) none (R 338) N 0)), #[]⟩
def a340 : Obj := ⟨(T "tuple"), none, (.seq #[(V "selector" 956), (V "subselector" 957)] 0), #[]⟩
def a341 (P : Params) : Obj := ⟨(T "dict"), none, (.dict #[E P "__module__" 914 (V "cssselect.parser" 296), E P "__firstlineno__" 918 (I 124 917), E P "__init__" 927 (R 318), E P "__repr__" 934 (R 325), E P "canonical" 942 (R 332), E P "specificity" 955 (R 339), E P "__static_attributes__" 958 (R 340), E P "__dict__" 960 (R 343), E P "__weakref__" 962 (R 344), E P "__doc__" 963 N] 4), #[]⟩
def a342 : Obj := ⟨(T "type"), none, (.cls ⟨(Str.ofString "Negation"), [(T "object")], [(R 342), (T "object")], 341, (Str.ofString "Negation"), true, [], [], false, none, false⟩), #[none, none, (some (V "Negation" 907)), (some (V "Negation" 915)), (some (U "object.__new__")), (some (B true))]⟩
def a343 : Obj := ⟨(T "getset_descriptor"), none, (.fields #[(V "__dict__" 959), (R 342), (U "function.__dict__"), (U "function.__dict__#set")]), #[]⟩
def a344 : Obj := ⟨(T "getset_descriptor"), none, (.fields #[(V "__weakref__" 961), (R 342), (U "ExceptionGroup.__weakref__"), N]), #[]⟩
def a345 : Obj := ⟨(T "super"), none, (.fields #[(R 342), (R 342), (R 342)]), #[]⟩
def a346 : Obj := ⟨(T "builtin_function_or_method"), none, (.fields #[(U "object.__init_subclass__"), (R 342)]), #[]⟩
def a347 : Obj := ⟨(T "tuple"), none, (.seq #[] 0), #[]⟩
def a348 : Obj := ⟨N, none, (.fields #[]), #[]⟩
def a349 : Obj := ⟨(T "tuple"), none, (.seq #[(V "combinator" 969)] 0), #[]⟩
def a350 : Obj := ⟨(T "tuple"), none, (.seq #[] 0), #[]⟩
def a351 : Obj := ⟨N, none, (.func (fd (st 16) (Str.ofString "_combinator_prefix") 0 [] N N N N none N N 0)), #[]⟩
def a352 : Obj := ⟨(T "code"), none, (.fields #[(V "_combinator_prefix" 966), (V "_combinator_prefix" 967), (V "/claim/cut.py" 968), (I 143 0), (I 1 0), (I 0 0), (I 0 0), (I 3 0), (R 347), (B true), (I 276 0), (R 348), N, (R 349), (R 350), (R 351), (I 970 0), (I 143 0), (V "/claim/cut.py" 971)]), #[]⟩
def a353 : Obj := ⟨(T "function"), none, (.func (fd (st 16) (Str.ofString "_combinator_prefix") 3 [] N N N (V "cssselect.parser" 296) none (R 352) N 0)), #[]⟩
def T16 (P : Params) : BT := (n (a0 P) (n (a1 P) (n (a3v8 P) (n a7 (n a15 (n a31 (n a63 (n a127 (n a255 z z) z) (n a191 (n a319 z z) z)) (n a95 (n a159 (n a287 z z) z) (n a223 (n a351 z z) z))) (n a47 (n a79 (n a143 (n a271 z z) z) (n a207 (n a335 z z) z)) (n a111 (n a175 (n a303 z z) z) (n a239 z z)))) (n a23 (n a39 (n a71 (n a135 (n a263 z z) z) (n a199 (n a327 z z) z)) (n a103 (n a167 (n a295 z z) z) (n a231 z z))) (n a55 (n a87 (n a151 (n a279 z z) z) (n a215 (n a343 z z) z)) (n a119 (n a183 (n a311 z z) z) (n a247 z z))))) (n (a11 P) (n a19 (n a35 (n a67 (n a131 (n a259 z z) z) (n a195 (n a323 z z) z)) (n a99 (n a163 (n a291 z z) z) (n a227 z z))) (n a51 (n a83 (n a147 (n a275 z z) z) (n a211 (n a339 z z) z)) (n a115 (n a179 (n (a307 P) z z) z) (n a243 z z)))) (n a27 (n a43 (n a75 (n a139 (n a267 z z) z) (n a203 (n a331 z z) z)) (n a107 (n a171 (n (a299 P) z z) z) (n a235 z z))) (n a59 (n (a91 P) (n a155 (n a283 z z) z) (n a219 (n a347 z z) z)) (n a123 (n a187 (n a315 z z) z) (n a251 z z)))))) (n a5 (n a9 (n a17 (n a33 (n a65 (n a129 (n (a257 P) z z) z) (n a193 (n a321 z z) z)) (n (a97 P) (n a161 (n a289 z z) z) (n a225 (n a353 z z) z))) (n a49 (n a81 (n a145 (n a273 z z) z) (n a209 (n a337 z z) z)) (n a113 (n a177 (n a305 z z) z) (n a241 z z)))) (n a25 (n a41 (n a73 (n a137 (n (a265 P) z z) z) (n a201 (n a329 z z) z)) (n a105 (n a169 (n a297 z z) z) (n a233 z z))) (n a57 (n a89 (n a153 (n a281 z z) z) (n a217 (n a345 z z) z)) (n a121 (n a185 (n a313 z z) z) (n a249 z z))))) (n (a13 P) (n (a21 P) (n a37 (n a69 (n a133 (n a261 z z) z) (n a197 (n a325 z z) z)) (n a101 (n a165 (n a293 z z) z) (n a229 z z))) (n a53 (n (a85 P) (n a149 (n a277 z z) z) (n a213 (n (a341 P) z z) z)) (n a117 (n a181 (n a309 z z) z) (n a245 z z)))) (n a29v8 (n a45 (n a77 (n a141 (n a269 z z) z) (n a205 (n a333 z z) z)) (n a109 (n a173 (n a301 z z) z) (n a237 z z))) (n a61 (n a93 (n a157 (n a285 z z) z) (n a221 (n a349 z z) z)) (n a125 (n a189 (n a317 z z) z) (n a253 z z))))))) (n (a2v1 P) (n a4 (n a8 (n a16 (n a32 (n a64 (n a128 (n a256 z z) z) (n a192 (n a320 z z) z)) (n a96 (n a160 (n a288 z z) z) (n a224 (n a352 z z) z))) (n a48 (n a80 (n a144 (n a272 z z) z) (n a208 (n a336 z z) z)) (n a112 (n a176 (n a304 z z) z) (n a240 z z)))) (n a24 (n a40 (n (a72 P) (n a136 (n a264 z z) z) (n a200 (n a328 z z) z)) (n a104 (n a168 (n a296 z z) z) (n a232 z z))) (n a56 (n a88 (n a152 (n a280 z z) z) (n a216 (n a344 z z) z)) (n a120 (n a184 (n a312 z z) z) (n a248 z z))))) (n a12 (n (a20 P) (n a36 (n a68 (n (a132 P) (n a260 z z) z) (n a196 (n a324 z z) z)) (n a100 (n a164 (n a292 z z) z) (n a228 z z))) (n a52 (n a84 (n a148 (n a276 z z) z) (n (a212 P) (n a340 z z) z)) (n a116 (n a180 (n a308 z z) z) (n a244 z z)))) (n a28 (n a44 (n a76 (n (a140 P) (n a268 z z) z) (n a204 (n a332 z z) z)) (n a108 (n a172 (n a300 z z) z) (n a236 z z))) (n a60 (n a92 (n a156 (n a284 z z) z) (n (a220 P) (n a348 z z) z)) (n a124 (n a188 (n a316 z z) z) (n a252 z z)))))) (n a6 (n a10 (n a18 (n a34 (n a66 (n a130 (n a258 z z) z) (n a194 (n a322 z z) z)) (n a98 (n a162 (n a290 z z) z) (n a226 z z))) (n a50 (n a82 (n a146 (n a274 z z) z) (n a210 (n a338 z z) z)) (n a114 (n a178 (n a306 z z) z) (n a242 z z)))) (n a26 (n a42 (n a74 (n a138 (n a266 z z) z) (n a202 (n a330 z z) z)) (n a106 (n a170 (n a298 z z) z) (n a234 z z))) (n a58 (n a90 (n a154 (n a282 z z) z) (n a218 (n a346 z z) z)) (n a122 (n a186 (n a314 z z) z) (n a250 z z))))) (n a14 (n a22 (n a38 (n a70 (n a134 (n a262 z z) z) (n a198 (n a326 z z) z)) (n a102 (n a166 (n a294 z z) z) (n a230 z z))) (n a54 (n a86 (n a150 (n a278 z z) z) (n a214 (n a342 z z) z)) (n a118 (n (a182 P) (n a310 z z) z) (n a246 z z)))) (n a30 (n a46 (n (a78 P) (n a142 (n a270 z z) z) (n a206 (n a334 z z) z)) (n a110 (n (a174 P) (n a302 z z) z) (n a238 z z))) (n a62 (n a94 (n a158 (n a286 z z) z) (n a222 (n a350 z z) z)) (n a126 (n a190 (n a318 z z) z) (n a254 z z))))))))
def a3v9 (P : Params) : Obj := grow (a3v8 P) #[E P "Relation" 1032 (R 391)] 26
def a29v9 : Obj := ⟨N, none, (.fields #[(I 2 0), (I 0 0), (R 37), (I 5 0), (I 0 0), (R 44), (I 12 0), (I 0 0), (R 61), (I 14 0), (I 0 0), (R 68), (I 16 0), (I 0 0), (R 75), (I 18 0), (I 0 0), (R 88), (I 20 0), (I 0 0), (R 100), (I 54 0), (I 0 0), (R 143), (I 70 0), (I 0 0), (R 185), (I 86 0), (I 0 0), (R 223), (I 108 0), (I 0 0), (R 268), (I 124 0), (I 0 0), (R 310), (I 143 0), (I 0 0), (R 352), (I 147 0), (I 0 0), (R 359)]), #[]⟩
def a354 : Obj := ⟨(T "tuple"), none, (.seq #[] 0), #[]⟩
def a355 : Obj := ⟨(T "builtin_function_or_method"), none, (.fields #[(U "type.__prepare__"), (T "type")]), #[]⟩
def a356 (P : Params) : Obj := ⟨(T "dict"), none, (.dict #[E P "__module__" 980 (V "cssselect.parser" 296), E P "__qualname__" 982 (V "Relation" 981), E P "__firstlineno__" 984 (I 147 983), E P "__init__" 993 (R 367), E P "__repr__" 1001 (R 374), E P "canonical" 1009 (R 381), E P "specificity" 1022 (R 388), E P "__static_attributes__" 1025 (R 389)] 8), #[]⟩
def a357 : Obj := ⟨(T "tuple"), none, (.seq #[] 0), #[]⟩
def a358 : Obj := ⟨N, none, (.fields #[(I 149 0), (I 4 0), (R 366), (I 153 0), (I 4 0), (R 373), (I 157 0), (I 4 0), (R 380), (I 161 0), (I 4 0), (R 387)]), #[]⟩
def a359 : Obj := ⟨(T "code"), none, (.fields #[(V "Relation" 975), (V "Relation" 976), (V "/claim/cut.py" 977), (I 147 0), (I 0 0), (I 0 0), (I 0 0), (I 0 0), (R 357), (B false), (I 276 0), (R 358), N, N, N, N, (I 978 0), (I 147 0), (V "/claim/cut.py" 979)]), #[]⟩
def a360 : Obj := ⟨(T "frame"), none, .plain, #[(some (R 359)), (some (R 3)), (some (R 356)), none, (some (V "cssselect.parser" 296)), none, (some (R 0))]⟩
def a361 : Obj := ⟨(T "tuple"), none, (.seq #[] 0), #[]⟩
def a362 : Obj := ⟨N, none, (.fields #[]), #[]⟩
def a363 : Obj := ⟨(T "tuple"), none, (.seq #[(V "self" 988), (V "selector" 989), (V "arguments" 990)] 0), #[]⟩
def a364 : Obj := ⟨(T "tuple"), none, (.seq #[] 0), #[]⟩
def a365 : Obj := ⟨N, none, (.func (fd (kd (st 17) 0) (Str.ofString "Relation.__init__") 0 [] N N N N none N N 0)), #[]⟩
def a366 : Obj := ⟨(T "code"), none, (.fields #[(V "__init__" 985), (V "Relation.__init__" 986), (V "/claim/cut.py" 987), (I 149 0), (I 3 0), (I 0 0), (I 0 0), (I 3 0), (R 361), (B true), (I 276 0), (R 362), N, (R 363), (R 364), (R 365), (I 991 0), (I 149 0), (V "/claim/cut.py" 992)]), #[]⟩
def a367 : Obj := ⟨(T "function"), none, (.func (fd (kd (st 17) 0) (Str.ofString "Relation.__init__") 3 [] N N N (V "cssselect.parser" 296) none (R 366) N 0)), #[]⟩
def a368 : Obj := ⟨(T "tuple"), none, (.seq #[] 0), #[]⟩
def a369 : Obj := ⟨N, none, (.fields #[]), #[]⟩
def a370 : Obj := ⟨(T "tuple"), none, (.seq #[(V "self" 997), (V "args_str" 998)] 0), #[]⟩
def a371 : Obj := ⟨(T "tuple"), none, (.seq #[] 0), #[]⟩
def a372 : Obj := ⟨N, none, (.func (fd (kd (st 17) 1) (Str.ofString "Relation.__repr__") 0 [] N N N N none N N 0)), #[]⟩
def a373 : Obj := ⟨(T "code"), none, (.fields #[(V "__repr__" 994), (V "Relation.__repr__" 995), (V "/claim/cut.py" 996), (I 153 0), (I 1 0), (I 0 0), (I 0 0), (I 3 0), (R 368), (B true), (I 276 0), (R 369), N, (R 370), (R 371), (R 372), (I 999 0), (I 153 0), (V "/claim/cut.py" 1000)]), #[]⟩
def a374 : Obj := ⟨(T "function"), none, (.func (fd (kd (st 17) 1) (Str.ofString "Relation.__repr__") 3 [] N N N (V "cssselect.parser" 296) none (R 373) N 0)), #[]⟩
def a375 : Obj := ⟨(T "tuple"), none, (.seq #[] 0), #[]⟩
def a376 : Obj := ⟨N, none, (.fields #[]), #[]⟩
def a377 : Obj := ⟨(T "tuple"), none, (.seq #[(V "self" 1005), (V "args_str" 1006)] 0), #[]⟩
def a378 : Obj := ⟨(T "tuple"), none, (.seq #[] 0), #[]⟩
def a379 : Obj := ⟨N, none, (.func (fd (kd (st 17) 2) (Str.ofString "Relation.canonical") 0 [] N N N N none N N 0)), #[]⟩
def a380 : Obj := ⟨(T "code"), none, (.fields #[(V "canonical" 1002), (V "Relation.canonical" 1003), (V "/claim/cut.py" 1004), (I 157 0), (I 1 0), (I 0 0), (I 0 0), (I 3 0), (R 375), (B true), (I 276 0), (R 376), N, (R 377), (R 378), (R 379), (I 1007 0), (I 157 0), (V "/claim/cut.py" 1008)]), #[]⟩
def a381 : Obj := ⟨(T "function"), none, (.func (fd (kd (st 17) 2) (Str.ofString "Relation.canonical") 3 [] N N N (V "cssselect.parser" 296) none (R 380) N 0)), #[]⟩
def a382 : Obj := ⟨(T "tuple"), none, (.seq #[] 0), #[]⟩
def a383 : Obj := ⟨N, none, (.fields #[]), #[]⟩
def a384 : Obj := ⟨(T "tuple"), none, (.seq #[(V "self" 1013), (V "a1" 1014), (V "b1" 1015), (V "c1" 1016), (V "a2" 1017), (V "b2" 1018), (V "c2" 1019)] 0), #[]⟩
def a385 : Obj := ⟨(T "tuple"), none, (.seq #[] 0), #[]⟩
def a386 : Obj := ⟨N, none, (.func (fd (kd (st 17) 3) (Str.ofString "Relation.specificity") 0 [] N N N N none N N 0)), #[]⟩
def a387 : Obj := ⟨(T "code"), none, (.fields #[(V "specificity" 1010), (V "Relation.specificity" 1011), (V "/claim/cut.py" 1012), (I 161 0), (I 1 0), (I 0 0), (I 0 0), (I 3 0), (R 382), (B true), (I 276 0), (R 383), N, (R 384), (R 385), (R 386), (I 1020 0), (I 161 0), (V "/claim/cut.py" 1021)]), #[]⟩
def a388 : Obj := ⟨(T "function"), none, (.func (fd (kd (st 17) 3) (Str.ofString "Relation.specificity") 3 [] N N N (V "cssselect.parser" 296) none (R 387) N 0)), #[]⟩
def a389 : Obj := ⟨(T "tuple"), none, (.seq #[(V "arguments" 1023), (V "selector" 1024)] 0), #[]⟩
def a390 (P : Params) : Obj := ⟨(T "dict"), none, (.dict #[E P "__module__" 980 (V "cssselect.parser" 296), E P "__firstlineno__" 984 (I 147 983), E P "__init__" 993 (R 367), E P "__repr__" 1001 (R 374), E P "canonical" 1009 (R 381), E P "specificity" 1022 (R 388), E P "__static_attributes__" 1025 (R 389), E P "__dict__" 1027 (R 392), E P "__weakref__" 1029 (R 393), E P "__doc__" 1030 N] 4), #[]⟩
def a391 : Obj := ⟨(T "type"), none, (.cls ⟨(Str.ofString "Relation"), [(T "object")], [(R 391), (T "object")], 390, (Str.ofString "Relation"), true, [], [], false, none, false⟩), #[none, none, (some (V "Relation" 973)), (some (V "Relation" 981)), (some (U "object.__new__")), (some (B true))]⟩
def a392 : Obj := ⟨(T "getset_descriptor"), none, (.fields #[(V "__dict__" 1026), (R 391), (U "function.__dict__"), (U "function.__dict__#set")]), #[]⟩
def a393 : Obj := ⟨(T "getset_descriptor"), none, (.fields #[(V "__weakref__" 1028), (R 391), (U "ExceptionGroup.__weakref__"), N]), #[]⟩
def a394 : Obj := ⟨(T "super"), none, (.fields #[(R 391), (R 391), (R 391)]), #[]⟩
def a395 : Obj := ⟨(T "builtin_function_or_method"), none, (.fields #[(U "object.__init_subclass__"), (R 391)]), #[]⟩
def T17 (P : Params) : BT := (n (a0 P) (n (a1 P) (n (a3v9 P) (n a7 (n a15 (n a31 (n a63 (n a127 (n a255 z z) (n a383 z z)) (n a191 (n a319 z z) z)) (n a95 (n a159 (n a287 z z) z) (n a223 (n a351 z z) z))) (n a47 (n a79 (n a143 (n a271 z z) z) (n a207 (n a335 z z) z)) (n a111 (n a175 (n a303 z z) z) (n a239 (n a367 z z) z)))) (n a23 (n a39 (n a71 (n a135 (n a263 z z) (n a391 z z)) (n a199 (n a327 z z) z)) (n a103 (n a167 (n a295 z z) z) (n a231 (n a359 z z) z))) (n a55 (n a87 (n a151 (n a279 z z) z) (n a215 (n a343 z z) z)) (n a119 (n a183 (n a311 z z) z) (n a247 (n a375 z z) z))))) (n (a11 P) (n a19 (n a35 (n a67 (n a131 (n a259 z z) (n a387 z z)) (n a195 (n a323 z z) z)) (n a99 (n a163 (n a291 z z) z) (n a227 (n a355 z z) z))) (n a51 (n a83 (n a147 (n a275 z z) z) (n a211 (n a339 z z) z)) (n a115 (n a179 (n (a307 P) z z) z) (n a243 (n a371 z z) z)))) (n a27 (n a43 (n a75 (n a139 (n a267 z z) (n a395 z z)) (n a203 (n a331 z z) z)) (n a107 (n a171 (n (a299 P) z z) z) (n a235 (n a363 z z) z))) (n a59 (n (a91 P) (n a155 (n a283 z z) z) (n a219 (n a347 z z) z)) (n a123 (n a187 (n a315 z z) z) (n a251 (n a379 z z) z)))))) (n a5 (n a9 (n a17 (n a33 (n a65 (n a129 (n (a257 P) z z) (n a385 z z)) (n a193 (n a321 z z) z)) (n (a97 P) (n a161 (n a289 z z) z) (n a225 (n a353 z z) z))) (n a49 (n a81 (n a145 (n a273 z z) z) (n a209 (n a337 z z) z)) (n a113 (n a177 (n a305 z z) z) (n a241 (n a369 z z) z)))) (n a25 (n a41 (n a73 (n a137 (n (a265 P) z z) (n a393 z z)) (n a201 (n a329 z z) z)) (n a105 (n a169 (n a297 z z) z) (n a233 (n a361 z z) z))) (n a57 (n a89 (n a153 (n a281 z z) z) (n a217 (n a345 z z) z)) (n a121 (n a185 (n a313 z z) z) (n a249 (n a377 z z) z))))) (n (a13 P) (n (a21 P) (n a37 (n a69 (n a133 (n a261 z z) (n a389 z z)) (n a197 (n a325 z z) z)) (n a101 (n a165 (n a293 z z) z) (n a229 (n a357 z z) z))) (n a53 (n (a85 P) (n a149 (n a277 z z) z) (n a213 (n (a341 P) z z) z)) (n a117 (n a181 (n a309 z z) z) (n a245 (n a373 z z) z)))) (n a29v9 (n a45 (n a77 (n a141 (n a269 z z) z) (n a205 (n a333 z z) z)) (n a109 (n a173 (n a301 z z) z) (n a237 (n a365 z z) z))) (n a61 (n a93 (n a157 (n a285 z z) z) (n a221 (n a349 z z) z)) (n a125 (n a189 (n a317 z z) z) (n a253 (n a381 z z) z))))))) (n (a2v1 P) (n a4 (n a8 (n a16 (n a32 (n a64 (n a128 (n a256 z z) (n a384 z z)) (n a192 (n a320 z z) z)) (n a96 (n a160 (n a288 z z) z) (n a224 (n a352 z z) z))) (n a48 (n a80 (n a144 (n a272 z z) z) (n a208 (n a336 z z) z)) (n a112 (n a176 (n a304 z z) z) (n a240 (n a368 z z) z)))) (n a24 (n a40 (n (a72 P) (n a136 (n a264 z z) (n a392 z z)) (n a200 (n a328 z z) z)) (n a104 (n a168 (n a296 z z) z) (n a232 (n a360 z z) z))) (n a56 (n a88 (n a152 (n a280 z z) z) (n a216 (n a344 z z) z)) (n a120 (n a184 (n a312 z z) z) (n a248 (n a376 z z) z))))) (n a12 (n (a20 P) (n a36 (n a68 (n (a132 P) (n a260 z z) (n a388 z z)) (n a196 (n a324 z z) z)) (n a100 (n a164 (n a292 z z) z) (n a228 (n (a356 P) z z) z))) (n a52 (n a84 (n a148 (n a276 z z) z) (n (a212 P) (n a340 z z) z)) (n a116 (n a180 (n a308 z z) z) (n a244 (n a372 z z) z)))) (n a28 (n a44 (n a76 (n (a140 P) (n a268 z z) z) (n a204 (n a332 z z) z)) (n a108 (n a172 (n a300 z z) z) (n a236 (n a364 z z) z))) (n a60 (n a92 (n a156 (n a284 z z) z) (n (a220 P) (n a348 z z) z)) (n a124 (n a188 (n a316 z z) z) (n a252 (n a380 z z) z)))))) (n a6 (n a10 (n a18 (n a34 (n a66 (n a130 (n a258 z z) (n a386 z z)) (n a194 (n a322 z z) z)) (n a98 (n a162 (n a290 z z) z) (n a226 (n a354 z z) z))) (n a50 (n a82 (n a146 (n a274 z z) z) (n a210 (n a338 z z) z)) (n a114 (n a178 (n a306 z z) z) (n a242 (n a370 z z) z)))) (n a26 (n a42 (n a74 (n a138 (n a266 z z) (n a394 z z)) (n a202 (n a330 z z) z)) (n a106 (n a170 (n a298 z z) z) (n a234 (n a362 z z) z))) (n a58 (n a90 (n a154 (n a282 z z) z) (n a218 (n a346 z z) z)) (n a122 (n a186 (n a314 z z) z) (n a250 (n a378 z z) z))))) (n a14 (n a22 (n a38 (n a70 (n a134 (n a262 z z) (n (a390 P) z z)) (n a198 (n a326 z z) z)) (n a102 (n a166 (n a294 z z) z) (n a230 (n a358 z z) z))) (n a54 (n a86 (n a150 (n a278 z z) z) (n a214 (n a342 z z) z)) (n a118 (n (a182 P) (n a310 z z) z) (n a246 (n a374 z z) z)))) (n a30 (n a46 (n (a78 P) (n a142 (n a270 z z) z) (n a206 (n a334 z z) z)) (n a110 (n (a174 P) (n a302 z z) z) (n a238 (n a366 z z) z))) (n a62 (n a94 (n a158 (n a286 z z) z) (n a222 (n a350 z z) z)) (n a126 (n a190 (n a318 z z) z) (n a254 (n a382 z z) z))))))))
def a3v10 (P : Params) : Obj := grow (a3v9 P) #[E P "Matching" 1095 (R 433)] 27
def a29v10 : Obj := ⟨N, none, (.fields #[(I 2 0), (I 0 0), (R 37), (I 5 0), (I 0 0), (R 44), (I 12 0), (I 0 0), (R 61), (I 14 0), (I 0 0), (R 68), (I 16 0), (I 0 0), (R 75), (I 18 0), (I 0 0), (R 88), (I 20 0), (I 0 0), (R 100), (I 54 0), (I 0 0), (R 143), (I 70 0), (I 0 0), (R 185), (I 86 0), (I 0 0), (R 223), (I 108 0), (I 0 0), (R 268), (I 124 0), (I 0 0), (R 310), (I 143 0), (I 0 0), (R 352), (I 147 0), (I 0 0), (R 359), (I 165 0), (I 0 0), (R 401)]), #[]⟩
def a396 : Obj := ⟨(T "tuple"), none, (.seq #[] 0), #[]⟩
def a397 : Obj := ⟨(T "builtin_function_or_method"), none, (.fields #[(U "type.__prepare__"), (T "type")]), #[]⟩
def a398 (P : Params) : Obj := ⟨(T "dict"), none, (.dict #[E P "__module__" 1040 (V "cssselect.parser" 296), E P "__qualname__" 1042 (V "Matching" 1041), E P "__firstlineno__" 1044 (I 165 1043), E P "__init__" 1053 (R 409), E P "__repr__" 1061 (R 416), E P "canonical" 1072 (R 423), E P "specificity" 1085 (R 430), E P "__static_attributes__" 1088 (R 431)] 8), #[]⟩
def a399 : Obj := ⟨(T "tuple"), none, (.seq #[] 0), #[]⟩
def a400 : Obj := ⟨N, none, (.fields #[(I 167 0), (I 4 0), (R 408), (I 171 0), (I 4 0), (R 415), (I 175 0), (I 4 0), (R 422), (I 185 0), (I 4 0), (R 429)]), #[]⟩
def a401 : Obj := ⟨(T "code"), none, (.fields #[(V "Matching" 1035), (V "Matching" 1036), (V "/claim/cut.py" 1037), (I 165 0), (I 0 0), (I 0 0), (I 0 0), (I 0 0), (R 399), (B false), (I 276 0), (R 400), N, N, N, N, (I 1038 0), (I 165 0), (V "/claim/cut.py" 1039)]), #[]⟩
def a402 : Obj := ⟨(T "frame"), none, .plain, #[(some (R 401)), (some (R 3)), (some (R 398)), none, (some (V "cssselect.parser" 296)), none, (some (R 0))]⟩
def a403 : Obj := ⟨(T "tuple"), none, (.seq #[] 0), #[]⟩
def a404 : Obj := ⟨N, none, (.fields #[]), #[]⟩
def a405 : Obj := ⟨(T "tuple"), none, (.seq #[(V "self" 1048), (V "selector" 1049), (V "selector_list" 1050)] 0), #[]⟩
def a406 : Obj := ⟨(T "tuple"), none, (.seq #[] 0), #[]⟩
def a407 : Obj := ⟨N, none, (.func (fd (kd (st 18) 0) (Str.ofString "Matching.__init__") 0 [] N N N N none N N 0)), #[]⟩
def a408 : Obj := ⟨(T "code"), none, (.fields #[(V "__init__" 1045), (V "Matching.__init__" 1046), (V "/claim/cut.py" 1047), (I 167 0), (I 3 0), (I 0 0), (I 0 0), (I 3 0), (R 403), (B true), (I 276 0), (R 404), N, (R 405), (R 406), (R 407), (I 1051 0), (I 167 0), (V "/claim/cut.py" 1052)]), #[]⟩
def a409 : Obj := ⟨(T "function"), none, (.func (fd (kd (st 18) 0) (Str.ofString "Matching.__init__") 3 [] N N N (V "cssselect.parser" 296) none (R 408) N 0)), #[]⟩
def a410 : Obj := ⟨(T "tuple"), none, (.seq #[] 0), #[]⟩
def a411 : Obj := ⟨N, none, (.fields #[]), #[]⟩
def a412 : Obj := ⟨(T "tuple"), none, (.seq #[(V "self" 1057), (V "args_str" 1058)] 0), #[]⟩
def a413 : Obj := ⟨(T "tuple"), none, (.seq #[] 0), #[]⟩
def a414 : Obj := ⟨N, none, (.func (fd (kd (st 18) 1) (Str.ofString "Matching.__repr__") 0 [] N N N N none N N 0)), #[]⟩
def a415 : Obj := ⟨(T "code"), none, (.fields #[(V "__repr__" 1054), (V "Matching.__repr__" 1055), (V "/claim/cut.py" 1056), (I 171 0), (I 1 0), (I 0 0), (I 0 0), (I 3 0), (R 410), (B true), (I 276 0), (R 411), N, (R 412), (R 413), (R 414), (I 1059 0), (I 171 0), (V "/claim/cut.py" 1060)]), #[]⟩
def a416 : Obj := ⟨(T "function"), none, (.func (fd (kd (st 18) 1) (Str.ofString "Matching.__repr__") 3 [] N N N (V "cssselect.parser" 296) none (R 415) N 0)), #[]⟩
def a417 : Obj := ⟨(T "tuple"), none, (.seq #[] 0), #[]⟩
def a418 : Obj := ⟨N, none, (.fields #[]), #[]⟩
def a419 : Obj := ⟨(T "tuple"), none, (.seq #[(V "self" 1065), (V "selector_arguments" 1066), (V "s" 1067), (V "selarg" 1068), (V "args_str" 1069)] 0), #[]⟩
def a420 : Obj := ⟨(T "tuple"), none, (.seq #[] 0), #[]⟩
def a421 : Obj := ⟨N, none, (.func (fd (kd (st 18) 2) (Str.ofString "Matching.canonical") 0 [] N N N N none N N 0)), #[]⟩
def a422 : Obj := ⟨(T "code"), none, (.fields #[(V "canonical" 1062), (V "Matching.canonical" 1063), (V "/claim/cut.py" 1064), (I 175 0), (I 1 0), (I 0 0), (I 0 0), (I 3 0), (R 417), (B true), (I 276 0), (R 418), N, (R 419), (R 420), (R 421), (I 1070 0), (I 175 0), (V "/claim/cut.py" 1071)]), #[]⟩
def a423 : Obj := ⟨(T "function"), none, (.func (fd (kd (st 18) 2) (Str.ofString "Matching.canonical") 3 [] N N N (V "cssselect.parser" 296) none (R 422) N 0)), #[]⟩
def a424 : Obj := ⟨(T "tuple"), none, (.seq #[] 0), #[]⟩
def a425 : Obj := ⟨N, none, (.fields #[]), #[]⟩
def a426 : Obj := ⟨(T "tuple"), none, (.seq #[(V "self" 1076), (V "a1" 1077), (V "b1" 1078), (V "c1" 1079), (V "a2" 1080), (V "b2" 1081), (V "c2" 1082)] 0), #[]⟩
def a427 : Obj := ⟨(T "tuple"), none, (.seq #[] 0), #[]⟩
def a428 : Obj := ⟨N, none, (.func (fd (kd (st 18) 3) (Str.ofString "Matching.specificity") 0 [] N N N N none N N 0)), #[]⟩
def a429 : Obj := ⟨(T "code"), none, (.fields #[(V "specificity" 1073), (V "Matching.specificity" 1074), (V "/claim/cut.py" 1075), (I 185 0), (I 1 0), (I 0 0), (I 0 0), (I 3 0), (R 424), (B true), (I 276 0), (R 425), N, (R 426), (R 427), (R 428), (I 1083 0), (I 185 0), (V "/claim/cut.py" 1084)]), #[]⟩
def a430 : Obj := ⟨(T "function"), none, (.func (fd (kd (st 18) 3) (Str.ofString "Matching.specificity") 3 [] N N N (V "cssselect.parser" 296) none (R 429) N 0)), #[]⟩
def a431 : Obj := ⟨(T "tuple"), none, (.seq #[(V "selector" 1086), (V "selector_list" 1087)] 0), #[]⟩
def a432 (P : Params) : Obj := ⟨(T "dict"), none, (.dict #[E P "__module__" 1040 (V "cssselect.parser" 296), E P "__firstlineno__" 1044 (I 165 1043), E P "__init__" 1053 (R 409), E P "__repr__" 1061 (R 416), E P "canonical" 1072 (R 423), E P "specificity" 1085 (R 430), E P "__static_attributes__" 1088 (R 431), E P "__dict__" 1090 (R 434), E P "__weakref__" 1092 (R 435), E P "__doc__" 1093 N] 4), #[]⟩
def a433 : Obj := ⟨(T "type"), none, (.cls ⟨(Str.ofString "Matching"), [(T "object")], [(R 433), (T "object")], 432, (Str.ofString "Matching"), true, [], [], false, none, false⟩), #[none, none, (some (V "Matching" 1033)), (some (V "Matching" 1041)), (some (U "object.__new__")), (some (B true))]⟩
def a434 : Obj := ⟨(T "getset_descriptor"), none, (.fields #[(V "__dict__" 1089), (R 433), (U "function.__dict__"), (U "function.__dict__#set")]), #[]⟩
def a435 : Obj := ⟨(T "getset_descriptor"), none, (.fields #[(V "__weakref__" 1091), (R 433), (U "ExceptionGroup.__weakref__"), N]), #[]⟩
def a436 : Obj := ⟨(T "super"), none, (.fields #[(R 433), (R 433), (R 433)]), #[]⟩
def a437 : Obj := ⟨(T "builtin_function_or_method"), none, (.fields #[(U "object.__init_subclass__"), (R 433)]), #[]⟩
def T18 (P : Params) : BT := (n (a0 P) (n (a1 P) (n (a3v10 P) (n a7 (n a15 (n a31 (n a63 (n a127 (n a255 z z) (n a383 z z)) (n a191 (n a319 z z) z)) (n a95 (n a159 (n a287 z z) (n a415 z z)) (n a223 (n a351 z z) z))) (n a47 (n a79 (n a143 (n a271 z z) (n a399 z z)) (n a207 (n a335 z z) z)) (n a111 (n a175 (n a303 z z) (n a431 z z)) (n a239 (n a367 z z) z)))) (n a23 (n a39 (n a71 (n a135 (n a263 z z) (n a391 z z)) (n a199 (n a327 z z) z)) (n a103 (n a167 (n a295 z z) (n a423 z z)) (n a231 (n a359 z z) z))) (n a55 (n a87 (n a151 (n a279 z z) (n a407 z z)) (n a215 (n a343 z z) z)) (n a119 (n a183 (n a311 z z) z) (n a247 (n a375 z z) z))))) (n (a11 P) (n a19 (n a35 (n a67 (n a131 (n a259 z z) (n a387 z z)) (n a195 (n a323 z z) z)) (n a99 (n a163 (n a291 z z) (n a419 z z)) (n a227 (n a355 z z) z))) (n a51 (n a83 (n a147 (n a275 z z) (n a403 z z)) (n a211 (n a339 z z) z)) (n a115 (n a179 (n (a307 P) z z) (n a435 z z)) (n a243 (n a371 z z) z)))) (n a27 (n a43 (n a75 (n a139 (n a267 z z) (n a395 z z)) (n a203 (n a331 z z) z)) (n a107 (n a171 (n (a299 P) z z) (n a427 z z)) (n a235 (n a363 z z) z))) (n a59 (n (a91 P) (n a155 (n a283 z z) (n a411 z z)) (n a219 (n a347 z z) z)) (n a123 (n a187 (n a315 z z) z) (n a251 (n a379 z z) z)))))) (n a5 (n a9 (n a17 (n a33 (n a65 (n a129 (n (a257 P) z z) (n a385 z z)) (n a193 (n a321 z z) z)) (n (a97 P) (n a161 (n a289 z z) (n a417 z z)) (n a225 (n a353 z z) z))) (n a49 (n a81 (n a145 (n a273 z z) (n a401 z z)) (n a209 (n a337 z z) z)) (n a113 (n a177 (n a305 z z) (n a433 z z)) (n a241 (n a369 z z) z)))) (n a25 (n a41 (n a73 (n a137 (n (a265 P) z z) (n a393 z z)) (n a201 (n a329 z z) z)) (n a105 (n a169 (n a297 z z) (n a425 z z)) (n a233 (n a361 z z) z))) (n a57 (n a89 (n a153 (n a281 z z) (n a409 z z)) (n a217 (n a345 z z) z)) (n a121 (n a185 (n a313 z z) z) (n a249 (n a377 z z) z))))) (n (a13 P) (n (a21 P) (n a37 (n a69 (n a133 (n a261 z z) (n a389 z z)) (n a197 (n a325 z z) z)) (n a101 (n a165 (n a293 z z) (n a421 z z)) (n a229 (n a357 z z) z))) (n a53 (n (a85 P) (n a149 (n a277 z z) (n a405 z z)) (n a213 (n (a341 P) z z) z)) (n a117 (n a181 (n a309 z z) (n a437 z z)) (n a245 (n a373 z z) z)))) (n a29v10 (n a45 (n a77 (n a141 (n a269 z z) (n a397 z z)) (n a205 (n a333 z z) z)) (n a109 (n a173 (n a301 z z) (n a429 z z)) (n a237 (n a365 z z) z))) (n a61 (n a93 (n a157 (n a285 z z) (n a413 z z)) (n a221 (n a349 z z) z)) (n a125 (n a189 (n a317 z z) z) (n a253 (n a381 z z) z))))))) (n (a2v1 P) (n a4 (n a8 (n a16 (n a32 (n a64 (n a128 (n a256 z z) (n a384 z z)) (n a192 (n a320 z z) z)) (n a96 (n a160 (n a288 z z) (n a416 z z)) (n a224 (n a352 z z) z))) (n a48 (n a80 (n a144 (n a272 z z) (n a400 z z)) (n a208 (n a336 z z) z)) (n a112 (n a176 (n a304 z z) (n (a432 P) z z)) (n a240 (n a368 z z) z)))) (n a24 (n a40 (n (a72 P) (n a136 (n a264 z z) (n a392 z z)) (n a200 (n a328 z z) z)) (n a104 (n a168 (n a296 z z) (n a424 z z)) (n a232 (n a360 z z) z))) (n a56 (n a88 (n a152 (n a280 z z) (n a408 z z)) (n a216 (n a344 z z) z)) (n a120 (n a184 (n a312 z z) z) (n a248 (n a376 z z) z))))) (n a12 (n (a20 P) (n a36 (n a68 (n (a132 P) (n a260 z z) (n a388 z z)) (n a196 (n a324 z z) z)) (n a100 (n a164 (n a292 z z) (n a420 z z)) (n a228 (n (a356 P) z z) z))) (n a52 (n a84 (n a148 (n a276 z z) (n a404 z z)) (n (a212 P) (n a340 z z) z)) (n a116 (n a180 (n a308 z z) (n a436 z z)) (n a244 (n a372 z z) z)))) (n a28 (n a44 (n a76 (n (a140 P) (n a268 z z) (n a396 z z)) (n a204 (n a332 z z) z)) (n a108 (n a172 (n a300 z z) (n a428 z z)) (n a236 (n a364 z z) z))) (n a60 (n a92 (n a156 (n a284 z z) (n a412 z z)) (n (a220 P) (n a348 z z) z)) (n a124 (n a188 (n a316 z z) z) (n a252 (n a380 z z) z)))))) (n a6 (n a10 (n a18 (n a34 (n a66 (n a130 (n a258 z z) (n a386 z z)) (n a194 (n a322 z z) z)) (n a98 (n a162 (n a290 z z) (n a418 z z)) (n a226 (n a354 z z) z))) (n a50 (n a82 (n a146 (n a274 z z) (n a402 z z)) (n a210 (n a338 z z) z)) (n a114 (n a178 (n a306 z z) (n a434 z z)) (n a242 (n a370 z z) z)))) (n a26 (n a42 (n a74 (n a138 (n a266 z z) (n a394 z z)) (n a202 (n a330 z z) z)) (n a106 (n a170 (n a298 z z) (n a426 z z)) (n a234 (n a362 z z) z))) (n a58 (n a90 (n a154 (n a282 z z) (n a410 z z)) (n a218 (n a346 z z) z)) (n a122 (n a186 (n a314 z z) z) (n a250 (n a378 z z) z))))) (n a14 (n a22 (n a38 (n a70 (n a134 (n a262 z z) (n (a390 P) z z)) (n a198 (n a326 z z) z)) (n a102 (n a166 (n a294 z z) (n a422 z z)) (n a230 (n a358 z z) z))) (n a54 (n a86 (n a150 (n a278 z z) (n a406 z z)) (n a214 (n a342 z z) z)) (n a118 (n (a182 P) (n a310 z z) z) (n a246 (n a374 z z) z)))) (n a30 (n a46 (n (a78 P) (n a142 (n a270 z z) (n (a398 P) z z)) (n a206 (n a334 z z) z)) (n a110 (n (a174 P) (n a302 z z) (n a430 z z)) (n a238 (n a366 z z) z))) (n a62 (n a94 (n a158 (n a286 z z) (n a414 z z)) (n a222 (n a350 z z) z)) (n a126 (n a190 (n a318 z z) z) (n a254 (n a382 z z) z))))))))
def a3v11 (P : Params) : Obj := grow (a3v10 P) #[E P "SpecificityAdjustment" 1152 (R 475)] 28
def a29v11 : Obj := ⟨N, none, (.fields #[(I 2 0), (I 0 0), (R 37), (I 5 0), (I 0 0), (R 44), (I 12 0), (I 0 0), (R 61), (I 14 0), (I 0 0), (R 68), (I 16 0), (I 0 0), (R 75), (I 18 0), (I 0 0), (R 88), (I 20 0), (I 0 0), (R 100), (I 54 0), (I 0 0), (R 143), (I 70 0), (I 0 0), (R 185), (I 86 0), (I 0 0), (R 223), (I 108 0), (I 0 0), (R 268), (I 124 0), (I 0 0), (R 310), (I 143 0), (I 0 0), (R 352), (I 147 0), (I 0 0), (R 359), (I 165 0), (I 0 0), (R 401), (I 189 0), (I 0 0), (R 443)]), #[]⟩
def a438 : Obj := ⟨(T "tuple"), none, (.seq #[] 0), #[]⟩
def a439 : Obj := ⟨(T "builtin_function_or_method"), none, (.fields #[(U "type.__prepare__"), (T "type")]), #[]⟩
def a440 (P : Params) : Obj := ⟨(T "dict"), none, (.dict #[E P "__module__" 1103 (V "cssselect.parser" 296), E P "__qualname__" 1105 (V "SpecificityAdjustment" 1104), E P "__firstlineno__" 1107 (I 189 1106), E P "__init__" 1116 (R 451), E P "__repr__" 1124 (R 458), E P "canonical" 1135 (R 465), E P "specificity" 1142 (R 472), E P "__static_attributes__" 1145 (R 473)] 8), #[]⟩
def a441 : Obj := ⟨(T "tuple"), none, (.seq #[] 0), #[]⟩
def a442 : Obj := ⟨N, none, (.fields #[(I 191 0), (I 4 0), (R 450), (I 195 0), (I 4 0), (R 457), (I 199 0), (I 4 0), (R 464), (I 209 0), (I 4 0), (R 471)]), #[]⟩
def a443 : Obj := ⟨(T "code"), none, (.fields #[(V "SpecificityAdjustment" 1098), (V "SpecificityAdjustment" 1099), (V "/claim/cut.py" 1100), (I 189 0), (I 0 0), (I 0 0), (I 0 0), (I 0 0), (R 441), (B false), (I 276 0), (R 442), N, N, N, N, (I 1101 0), (I 189 0), (V "/claim/cut.py" 1102)]), #[]⟩
def a444 : Obj := ⟨(T "frame"), none, .plain, #[(some (R 443)), (some (R 3)), (some (R 440)), none, (some (V "cssselect.parser" 296)), none, (some (R 0))]⟩
def a445 : Obj := ⟨(T "tuple"), none, (.seq #[] 0), #[]⟩
def a446 : Obj := ⟨N, none, (.fields #[]), #[]⟩
def a447 : Obj := ⟨(T "tuple"), none, (.seq #[(V "self" 1111), (V "selector" 1112), (V "selector_list" 1113)] 0), #[]⟩
def a448 : Obj := ⟨(T "tuple"), none, (.seq #[] 0), #[]⟩
def a449 : Obj := ⟨N, none, (.func (fd (kd (st 19) 0) (Str.ofString "SpecificityAdjustment.__init__") 0 [] N N N N none N N 0)), #[]⟩
def a450 : Obj := ⟨(T "code"), none, (.fields #[(V "__init__" 1108), (V "SpecificityAdjustment.__init__" 1109), (V "/claim/cut.py" 1110), (I 191 0), (I 3 0), (I 0 0), (I 0 0), (I 3 0), (R 445), (B true), (I 276 0), (R 446), N, (R 447), (R 448), (R 449), (I 1114 0), (I 191 0), (V "/claim/cut.py" 1115)]), #[]⟩
def a451 : Obj := ⟨(T "function"), none, (.func (fd (kd (st 19) 0) (Str.ofString "SpecificityAdjustment.__init__") 3 [] N N N (V "cssselect.parser" 296) none (R 450) N 0)), #[]⟩
def a452 : Obj := ⟨(T "tuple"), none, (.seq #[] 0), #[]⟩
def a453 : Obj := ⟨N, none, (.fields #[]), #[]⟩
def a454 : Obj := ⟨(T "tuple"), none, (.seq #[(V "self" 1120), (V "args_str" 1121)] 0), #[]⟩
def a455 : Obj := ⟨(T "tuple"), none, (.seq #[] 0), #[]⟩
def a456 : Obj := ⟨N, none, (.func (fd (kd (st 19) 1) (Str.ofString "SpecificityAdjustment.__repr__") 0 [] N N N N none N N 0)), #[]⟩
def a457 : Obj := ⟨(T "code"), none, (.fields #[(V "__repr__" 1117), (V "SpecificityAdjustment.__repr__" 1118), (V "/claim/cut.py" 1119), (I 195 0), (I 1 0), (I 0 0), (I 0 0), (I 3 0), (R 452), (B true), (I 276 0), (R 453), N, (R 454), (R 455), (R 456), (I 1122 0), (I 195 0), (V "/claim/cut.py" 1123)]), #[]⟩
def a458 : Obj := ⟨(T "function"), none, (.func (fd (kd (st 19) 1) (Str.ofString "SpecificityAdjustment.__repr__") 3 [] N N N (V "cssselect.parser" 296) none (R 457) N 0)), #[]⟩
def a459 : Obj := ⟨(T "tuple"), none, (.seq #[] 0), #[]⟩
def a460 : Obj := ⟨N, none, (.fields #[]), #[]⟩
def a461 : Obj := ⟨(T "tuple"), none, (.seq #[(V "self" 1128), (V "selector_arguments" 1129), (V "s" 1130), (V "selarg" 1131), (V "args_str" 1132)] 0), #[]⟩
def a462 : Obj := ⟨(T "tuple"), none, (.seq #[] 0), #[]⟩
def a463 : Obj := ⟨N, none, (.func (fd (kd (st 19) 2) (Str.ofString "SpecificityAdjustment.canonical") 0 [] N N N N none N N 0)), #[]⟩
def a464 : Obj := ⟨(T "code"), none, (.fields #[(V "canonical" 1125), (V "SpecificityAdjustment.canonical" 1126), (V "/claim/cut.py" 1127), (I 199 0), (I 1 0), (I 0 0), (I 0 0), (I 3 0), (R 459), (B true), (I 276 0), (R 460), N, (R 461), (R 462), (R 463), (I 1133 0), (I 199 0), (V "/claim/cut.py" 1134)]), #[]⟩
def a465 : Obj := ⟨(T "function"), none, (.func (fd (kd (st 19) 2) (Str.ofString "SpecificityAdjustment.canonical") 3 [] N N N (V "cssselect.parser" 296) none (R 464) N 0)), #[]⟩
def a466 : Obj := ⟨(T "tuple"), none, (.seq #[] 0), #[]⟩
def a467 : Obj := ⟨N, none, (.fields #[]), #[]⟩
def a468 : Obj := ⟨(T "tuple"), none, (.seq #[(V "self" 1139)] 0), #[]⟩
def a469 : Obj := ⟨(T "tuple"), none, (.seq #[] 0), #[]⟩
def a470 : Obj := ⟨N, none, (.func (fd (kd (st 19) 3) (Str.ofString "SpecificityAdjustment.specificity") 0 [] N N N N none N N 0)), #[]⟩
def a471 : Obj := ⟨(T "code"), none, (.fields #[(V "specificity" 1136), (V "SpecificityAdjustment.specificity" 1137), (V "/claim/cut.py" 1138), (I 209 0), (I 1 0), (I 0 0), (I 0 0), (I 3 0), (R 466), (B true), (I 276 0), (R 467), N, (R 468), (R 469), (R 470), (I 1140 0), (I 209 0), (V "/claim/cut.py" 1141)]), #[]⟩
def a472 : Obj := ⟨(T "function"), none, (.func (fd (kd (st 19) 3) (Str.ofString "SpecificityAdjustment.specificity") 3 [] N N N (V "cssselect.parser" 296) none (R 471) N 0)), #[]⟩
def a473 : Obj := ⟨(T "tuple"), none, (.seq #[(V "selector" 1143), (V "selector_list" 1144)] 0), #[]⟩
def a474 (P : Params) : Obj := ⟨(T "dict"), none, (.dict #[E P "__module__" 1103 (V "cssselect.parser" 296), E P "__firstlineno__" 1107 (I 189 1106), E P "__init__" 1116 (R 451), E P "__repr__" 1124 (R 458), E P "canonical" 1135 (R 465), E P "specificity" 1142 (R 472), E P "__static_attributes__" 1145 (R 473), E P "__dict__" 1147 (R 476), E P "__weakref__" 1149 (R 477), E P "__doc__" 1150 N] 4), #[]⟩
def a475 : Obj := ⟨(T "type"), none, (.cls ⟨(Str.ofString "SpecificityAdjustment"), [(T "object")], [(R 475), (T "object")], 474, (Str.ofString "SpecificityAdjustment"), true, [], [], false, none, false⟩), #[none, none, (some (V "SpecificityAdjustment" 1096)), (some (V "SpecificityAdjustment" 1104)), (some (U "object.__new__")), (some (B true))]⟩
def a476 : Obj := ⟨(T "getset_descriptor"), none, (.fields #[(V "__dict__" 1146), (R 475), (U "function.__dict__"), (U "function.__dict__#set")]), #[]⟩
def a477 : Obj := ⟨(T "getset_descriptor"), none, (.fields #[(V "__weakref__" 1148), (R 475), (U "ExceptionGroup.__weakref__"), N]), #[]⟩
def a478 : Obj := ⟨(T "super"), none, (.fields #[(R 475), (R 475), (R 475)]), #[]⟩
def a479 : Obj := ⟨(T "builtin_function_or_method"), none, (.fields #[(U "object.__init_subclass__"), (R 475)]), #[]⟩
def T19 (P : Params) : BT := (n (a0 P) (n (a1 P) (n (a3v11 P) (n a7 (n a15 (n a31 (n a63 (n a127 (n a255 z z) (n a383 z z)) (n a191 (n a319 z z) (n a447 z z))) (n a95 (n a159 (n a287 z z) (n a415 z z)) (n a223 (n a351 z z) (n a479 z z)))) (n a47 (n a79 (n a143 (n a271 z z) (n a399 z z)) (n a207 (n a335 z z) (n a463 z z))) (n a111 (n a175 (n a303 z z) (n a431 z z)) (n a239 (n a367 z z) z)))) (n a23 (n a39 (n a71 (n a135 (n a263 z z) (n a391 z z)) (n a199 (n a327 z z) (n a455 z z))) (n a103 (n a167 (n a295 z z) (n a423 z z)) (n a231 (n a359 z z) z))) (n a55 (n a87 (n a151 (n a279 z z) (n a407 z z)) (n a215 (n a343 z z) (n a471 z z))) (n a119 (n a183 (n a311 z z) (n a439 z z)) (n a247 (n a375 z z) z))))) (n (a11 P) (n a19 (n a35 (n a67 (n a131 (n a259 z z) (n a387 z z)) (n a195 (n a323 z z) (n a451 z z))) (n a99 (n a163 (n a291 z z) (n a419 z z)) (n a227 (n a355 z z) z))) (n a51 (n a83 (n a147 (n a275 z z) (n a403 z z)) (n a211 (n a339 z z) (n a467 z z))) (n a115 (n a179 (n (a307 P) z z) (n a435 z z)) (n a243 (n a371 z z) z)))) (n a27 (n a43 (n a75 (n a139 (n a267 z z) (n a395 z z)) (n a203 (n a331 z z) (n a459 z z))) (n a107 (n a171 (n (a299 P) z z) (n a427 z z)) (n a235 (n a363 z z) z))) (n a59 (n (a91 P) (n a155 (n a283 z z) (n a411 z z)) (n a219 (n a347 z z) (n a475 z z))) (n a123 (n a187 (n a315 z z) (n a443 z z)) (n a251 (n a379 z z) z)))))) (n a5 (n a9 (n a17 (n a33 (n a65 (n a129 (n (a257 P) z z) (n a385 z z)) (n a193 (n a321 z z) (n a449 z z))) (n (a97 P) (n a161 (n a289 z z) (n a417 z z)) (n a225 (n a353 z z) z))) (n a49 (n a81 (n a145 (n a273 z z) (n a401 z z)) (n a209 (n a337 z z) (n a465 z z))) (n a113 (n a177 (n a305 z z) (n a433 z z)) (n a241 (n a369 z z) z)))) (n a25 (n a41 (n a73 (n a137 (n (a265 P) z z) (n a393 z z)) (n a201 (n a329 z z) (n a457 z z))) (n a105 (n a169 (n a297 z z) (n a425 z z)) (n a233 (n a361 z z) z))) (n a57 (n a89 (n a153 (n a281 z z) (n a409 z z)) (n a217 (n a345 z z) (n a473 z z))) (n a121 (n a185 (n a313 z z) (n a441 z z)) (n a249 (n a377 z z) z))))) (n (a13 P) (n (a21 P) (n a37 (n a69 (n a133 (n a261 z z) (n a389 z z)) (n a197 (n a325 z z) (n a453 z z))) (n a101 (n a165 (n a293 z z) (n a421 z z)) (n a229 (n a357 z z) z))) (n a53 (n (a85 P) (n a149 (n a277 z z) (n a405 z z)) (n a213 (n (a341 P) z z) (n a469 z z))) (n a117 (n a181 (n a309 z z) (n a437 z z)) (n a245 (n a373 z z) z)))) (n a29v11 (n a45 (n a77 (n a141 (n a269 z z) (n a397 z z)) (n a205 (n a333 z z) (n a461 z z))) (n a109 (n a173 (n a301 z z) (n a429 z z)) (n a237 (n a365 z z) z))) (n a61 (n a93 (n a157 (n a285 z z) (n a413 z z)) (n a221 (n a349 z z) (n a477 z z))) (n a125 (n a189 (n a317 z z) (n a445 z z)) (n a253 (n a381 z z) z))))))) (n (a2v1 P) (n a4 (n a8 (n a16 (n a32 (n a64 (n a128 (n a256 z z) (n a384 z z)) (n a192 (n a320 z z) (n a448 z z))) (n a96 (n a160 (n a288 z z) (n a416 z z)) (n a224 (n a352 z z) z))) (n a48 (n a80 (n a144 (n a272 z z) (n a400 z z)) (n a208 (n a336 z z) (n a464 z z))) (n a112 (n a176 (n a304 z z) (n (a432 P) z z)) (n a240 (n a368 z z) z)))) (n a24 (n a40 (n (a72 P) (n a136 (n a264 z z) (n a392 z z)) (n a200 (n a328 z z) (n a456 z z))) (n a104 (n a168 (n a296 z z) (n a424 z z)) (n a232 (n a360 z z) z))) (n a56 (n a88 (n a152 (n a280 z z) (n a408 z z)) (n a216 (n a344 z z) (n a472 z z))) (n a120 (n a184 (n a312 z z) (n (a440 P) z z)) (n a248 (n a376 z z) z))))) (n a12 (n (a20 P) (n a36 (n a68 (n (a132 P) (n a260 z z) (n a388 z z)) (n a196 (n a324 z z) (n a452 z z))) (n a100 (n a164 (n a292 z z) (n a420 z z)) (n a228 (n (a356 P) z z) z))) (n a52 (n a84 (n a148 (n a276 z z) (n a404 z z)) (n (a212 P) (n a340 z z) (n a468 z z))) (n a116 (n a180 (n a308 z z) (n a436 z z)) (n a244 (n a372 z z) z)))) (n a28 (n a44 (n a76 (n (a140 P) (n a268 z z) (n a396 z z)) (n a204 (n a332 z z) (n a460 z z))) (n a108 (n a172 (n a300 z z) (n a428 z z)) (n a236 (n a364 z z) z))) (n a60 (n a92 (n a156 (n a284 z z) (n a412 z z)) (n (a220 P) (n a348 z z) (n a476 z z))) (n a124 (n a188 (n a316 z z) (n a444 z z)) (n a252 (n a380 z z) z)))))) (n a6 (n a10 (n a18 (n a34 (n a66 (n a130 (n a258 z z) (n a386 z z)) (n a194 (n a322 z z) (n a450 z z))) (n a98 (n a162 (n a290 z z) (n a418 z z)) (n a226 (n a354 z z) z))) (n a50 (n a82 (n a146 (n a274 z z) (n a402 z z)) (n a210 (n a338 z z) (n a466 z z))) (n a114 (n a178 (n a306 z z) (n a434 z z)) (n a242 (n a370 z z) z)))) (n a26 (n a42 (n a74 (n a138 (n a266 z z) (n a394 z z)) (n a202 (n a330 z z) (n a458 z z))) (n a106 (n a170 (n a298 z z) (n a426 z z)) (n a234 (n a362 z z) z))) (n a58 (n a90 (n a154 (n a282 z z) (n a410 z z)) (n a218 (n a346 z z) (n (a474 P) z z))) (n a122 (n a186 (n a314 z z) (n a442 z z)) (n a250 (n a378 z z) z))))) (n a14 (n a22 (n a38 (n a70 (n a134 (n a262 z z) (n (a390 P) z z)) (n a198 (n a326 z z) (n a454 z z))) (n a102 (n a166 (n a294 z z) (n a422 z z)) (n a230 (n a358 z z) z))) (n a54 (n a86 (n a150 (n a278 z z) (n a406 z z)) (n a214 (n a342 z z) (n a470 z z))) (n a118 (n (a182 P) (n a310 z z) (n a438 z z)) (n a246 (n a374 z z) z)))) (n a30 (n a46 (n (a78 P) (n a142 (n a270 z z) (n (a398 P) z z)) (n a206 (n a334 z z) (n a462 z z))) (n a110 (n (a174 P) (n a302 z z) (n a430 z z)) (n a238 (n a366 z z) z))) (n a62 (n a94 (n a158 (n a286 z z) (n a414 z z)) (n a222 (n a350 z z) (n a478 z z))) (n a126 (n a190 (n a318 z z) (n a446 z z)) (n a254 (n a382 z z) z))))))))
def a3v12 (P : Params) : Obj := grow (a3v11 P) #[E P "Attrib" 1221 (R 518)] 29
def a29v12 : Obj := ⟨N, none, (.fields #[(I 2 0), (I 0 0), (R 37), (I 5 0), (I 0 0), (R 44), (I 12 0), (I 0 0), (R 61), (I 14 0), (I 0 0), (R 68), (I 16 0), (I 0 0), (R 75), (I 18 0), (I 0 0), (R 88), (I 20 0), (I 0 0), (R 100), (I 54 0), (I 0 0), (R 143), (I 70 0), (I 0 0), (R 185), (I 86 0), (I 0 0), (R 223), (I 108 0), (I 0 0), (R 268), (I 124 0), (I 0 0), (R 310), (I 143 0), (I 0 0), (R 352), (I 147 0), (I 0 0), (R 359), (I 165 0), (I 0 0), (R 401), (I 189 0), (I 0 0), (R 443), (I 211 0), (I 0 0), (R 485)]), #[]⟩
def a480 : Obj := ⟨(T "tuple"), none, (.seq #[] 0), #[]⟩
def a481 : Obj := ⟨(T "builtin_function_or_method"), none, (.fields #[(U "type.__prepare__"), (T "type")]), #[]⟩
def a482 (P : Params) : Obj := ⟨(T "dict"), none, (.dict #[E P "__module__" 1160 (V "cssselect.parser" 296), E P "__qualname__" 1162 (V "Attrib" 1161), E P "__firstlineno__" 1164 (I 211 1163), E P "__init__" 1177 (R 494), E P "__repr__" 1186 (R 501), E P "canonical" 1197 (R 508), E P "specificity" 1207 (R 515), E P "__static_attributes__" 1214 (R 516)] 8), #[]⟩
def a483 : Obj := ⟨(T "tuple"), none, (.seq #[] 0), #[]⟩
def a484 : Obj := ⟨N, none, (.fields #[(I 213 0), (I 4 0), (R 493), (I 221 0), (I 4 0), (R 500), (I 229 0), (I 4 0), (R 507), (I 242 0), (I 4 0), (R 514)]), #[]⟩
def a485 : Obj := ⟨(T "code"), none, (.fields #[(V "Attrib" 1155), (V "Attrib" 1156), (V "/claim/cut.py" 1157), (I 211 0), (I 0 0), (I 0 0), (I 0 0), (I 0 0), (R 483), (B false), (I 276 0), (R 484), N, N, N, N, (I 1158 0), (I 211 0), (V "/claim/cut.py" 1159)]), #[]⟩
def a486 : Obj := ⟨(T "frame"), none, .plain, #[(some (R 485)), (some (R 3)), (some (R 482)), none, (some (V "cssselect.parser" 296)), none, (some (R 0))]⟩
def a487 : Obj := ⟨(T "tuple"), none, (.seq #[N] 0), #[]⟩
def a488 : Obj := ⟨(T "tuple"), none, (.seq #[] 0), #[]⟩
def a489 : Obj := ⟨N, none, (.fields #[]), #[]⟩
def a490 : Obj := ⟨(T "tuple"), none, (.seq #[(V "self" 1168), (V "selector" 1169), (V "namespace" 1170), (V "attrib" 1171), (V "operator" 1172), (V "value" 1173), (V "flag" 1174)] 0), #[]⟩
def a491 : Obj := ⟨(T "tuple"), none, (.seq #[] 0), #[]⟩
def a492 : Obj := ⟨N, none, (.func (fd (kd (st 20) 0) (Str.ofString "Attrib.__init__") 0 [] N N N N none N N 0)), #[]⟩
def a493 : Obj := ⟨(T "code"), none, (.fields #[(V "__init__" 1165), (V "Attrib.__init__" 1166), (V "/claim/cut.py" 1167), (I 213 0), (I 7 0), (I 0 0), (I 0 0), (I 3 0), (R 488), (B true), (I 276 0), (R 489), N, (R 490), (R 491), (R 492), (I 1175 0), (I 213 0), (V "/claim/cut.py" 1176)]), #[]⟩
def a494 : Obj := ⟨(T "function"), none, (.func (fd (kd (st 20) 0) (Str.ofString "Attrib.__init__") 3 [] (R 487) N N (V "cssselect.parser" 296) none (R 493) N 0)), #[]⟩
def a495 : Obj := ⟨(T "tuple"), none, (.seq #[] 0), #[]⟩
def a496 : Obj := ⟨N, none, (.fields #[]), #[]⟩
def a497 : Obj := ⟨(T "tuple"), none, (.seq #[(V "self" 1181), (V "attrib" 1182), (V "flag" 1183)] 0), #[]⟩
def a498 : Obj := ⟨(T "tuple"), none, (.seq #[] 0), #[]⟩
def a499 : Obj := ⟨N, none, (.func (fd (kd (st 20) 1) (Str.ofString "Attrib.__repr__") 0 [] N N N N none N N 0)), #[]⟩
def a500 : Obj := ⟨(T "code"), none, (.fields #[(V "__repr__" 1178), (V "Attrib.__repr__" 1179), (V "/claim/cut.py" 1180), (I 221 0), (I 1 0), (I 0 0), (I 0 0), (I 3 0), (R 495), (B true), (I 276 0), (R 496), N, (R 497), (R 498), (R 499), (I 1184 0), (I 221 0), (V "/claim/cut.py" 1185)]), #[]⟩
def a501 : Obj := ⟨(T "function"), none, (.func (fd (kd (st 20) 1) (Str.ofString "Attrib.__repr__") 3 [] N N N (V "cssselect.parser" 296) none (R 500) N 0)), #[]⟩
def a502 : Obj := ⟨(T "tuple"), none, (.seq #[] 0), #[]⟩
def a503 : Obj := ⟨N, none, (.fields #[]), #[]⟩
def a504 : Obj := ⟨(T "tuple"), none, (.seq #[(V "self" 1190), (V "attrib" 1191), (V "namespace" 1192), (V "op" 1193), (V "flag" 1194)] 0), #[]⟩
def a505 : Obj := ⟨(T "tuple"), none, (.seq #[] 0), #[]⟩
def a506 : Obj := ⟨N, none, (.func (fd (kd (st 20) 2) (Str.ofString "Attrib.canonical") 0 [] N N N N none N N 0)), #[]⟩
def a507 : Obj := ⟨(T "code"), none, (.fields #[(V "canonical" 1187), (V "Attrib.canonical" 1188), (V "/claim/cut.py" 1189), (I 229 0), (I 1 0), (I 0 0), (I 0 0), (I 3 0), (R 502), (B true), (I 276 0), (R 503), N, (R 504), (R 505), (R 506), (I 1195 0), (I 229 0), (V "/claim/cut.py" 1196)]), #[]⟩
def a508 : Obj := ⟨(T "function"), none, (.func (fd (kd (st 20) 2) (Str.ofString "Attrib.canonical") 3 [] N N N (V "cssselect.parser" 296) none (R 507) N 0)), #[]⟩
def a509 : Obj := ⟨(T "tuple"), none, (.seq #[] 0), #[]⟩
def a510 : Obj := ⟨N, none, (.fields #[]), #[]⟩
def a511 : Obj := ⟨(T "tuple"), none, (.seq #[(V "self" 1201), (V "a" 1202), (V "b" 1203), (V "c" 1204)] 0), #[]⟩
def a512 : Obj := ⟨(T "tuple"), none, (.seq #[] 0), #[]⟩
def a513 : Obj := ⟨N, none, (.func (fd (kd (st 20) 3) (Str.ofString "Attrib.specificity") 0 [] N N N N none N N 0)), #[]⟩
def a514 : Obj := ⟨(T "code"), none, (.fields #[(V "specificity" 1198), (V "Attrib.specificity" 1199), (V "/claim/cut.py" 1200), (I 242 0), (I 1 0), (I 0 0), (I 0 0), (I 3 0), (R 509), (B true), (I 276 0), (R 510), N, (R 511), (R 512), (R 513), (I 1205 0), (I 242 0), (V "/claim/cut.py" 1206)]), #[]⟩
def a515 : Obj := ⟨(T "function"), none, (.func (fd (kd (st 20) 3) (Str.ofString "Attrib.specificity") 3 [] N N N (V "cssselect.parser" 296) none (R 514) N 0)), #[]⟩
def a516 : Obj := ⟨(T "tuple"), none, (.seq #[(V "attrib" 1208), (V "flag" 1209), (V "namespace" 1210), (V "operator" 1211), (V "selector" 1212), (V "value" 1213)] 0), #[]⟩
def a517 (P : Params) : Obj := ⟨(T "dict"), none, (.dict #[E P "__module__" 1160 (V "cssselect.parser" 296), E P "__firstlineno__" 1164 (I 211 1163), E P "__init__" 1177 (R 494), E P "__repr__" 1186 (R 501), E P "canonical" 1197 (R 508), E P "specificity" 1207 (R 515), E P "__static_attributes__" 1214 (R 516), E P "__dict__" 1216 (R 519), E P "__weakref__" 1218 (R 520), E P "__doc__" 1219 N] 4), #[]⟩
def a518 : Obj := ⟨(T "type"), none, (.cls ⟨(Str.ofString "Attrib"), [(T "object")], [(R 518), (T "object")], 517, (Str.ofString "Attrib"), true, [], [], false, none, false⟩), #[none, none, (some (V "Attrib" 1153)), (some (V "Attrib" 1161)), (some (U "object.__new__")), (some (B true))]⟩
def a519 : Obj := ⟨(T "getset_descriptor"), none, (.fields #[(V "__dict__" 1215), (R 518), (U "function.__dict__"), (U "function.__dict__#set")]), #[]⟩
def a520 : Obj := ⟨(T "getset_descriptor"), none, (.fields #[(V "__weakref__" 1217), (R 518), (U "ExceptionGroup.__weakref__"), N]), #[]⟩
def a521 : Obj := ⟨(T "super"), none, (.fields #[(R 518), (R 518), (R 518)]), #[]⟩
def a522 : Obj := ⟨(T "builtin_function_or_method"), none, (.fields #[(U "object.__init_subclass__"), (R 518)]), #[]⟩
def T20 (P : Params) : BT := (n (a0 P) (n (a1 P) (n (a3v12 P) (n a7 (n a15 (n a31 (n a63 (n a127 (n a255 (n a511 z z) z) (n a383 z z)) (n a191 (n a319 z z) (n a447 z z))) (n a95 (n a159 (n a287 z z) (n a415 z z)) (n a223 (n a351 z z) (n a479 z z)))) (n a47 (n a79 (n a143 (n a271 z z) (n a399 z z)) (n a207 (n a335 z z) (n a463 z z))) (n a111 (n a175 (n a303 z z) (n a431 z z)) (n a239 (n a367 z z) (n a495 z z))))) (n a23 (n a39 (n a71 (n a135 (n a263 (n a519 z z) z) (n a391 z z)) (n a199 (n a327 z z) (n a455 z z))) (n a103 (n a167 (n a295 z z) (n a423 z z)) (n a231 (n a359 z z) (n a487 z z)))) (n a55 (n a87 (n a151 (n a279 z z) (n a407 z z)) (n a215 (n a343 z z) (n a471 z z))) (n a119 (n a183 (n a311 z z) (n a439 z z)) (n a247 (n a375 z z) (n a503 z z)))))) (n (a11 P) (n a19 (n a35 (n a67 (n a131 (n a259 (n a515 z z) z) (n a387 z z)) (n a195 (n a323 z z) (n a451 z z))) (n a99 (n a163 (n a291 z z) (n a419 z z)) (n a227 (n a355 z z) (n a483 z z)))) (n a51 (n a83 (n a147 (n a275 z z) (n a403 z z)) (n a211 (n a339 z z) (n a467 z z))) (n a115 (n a179 (n (a307 P) z z) (n a435 z z)) (n a243 (n a371 z z) (n a499 z z))))) (n a27 (n a43 (n a75 (n a139 (n a267 z z) (n a395 z z)) (n a203 (n a331 z z) (n a459 z z))) (n a107 (n a171 (n (a299 P) z z) (n a427 z z)) (n a235 (n a363 z z) (n a491 z z)))) (n a59 (n (a91 P) (n a155 (n a283 z z) (n a411 z z)) (n a219 (n a347 z z) (n a475 z z))) (n a123 (n a187 (n a315 z z) (n a443 z z)) (n a251 (n a379 z z) (n a507 z z))))))) (n a5 (n a9 (n a17 (n a33 (n a65 (n a129 (n (a257 P) (n a513 z z) z) (n a385 z z)) (n a193 (n a321 z z) (n a449 z z))) (n (a97 P) (n a161 (n a289 z z) (n a417 z z)) (n a225 (n a353 z z) (n a481 z z)))) (n a49 (n a81 (n a145 (n a273 z z) (n a401 z z)) (n a209 (n a337 z z) (n a465 z z))) (n a113 (n a177 (n a305 z z) (n a433 z z)) (n a241 (n a369 z z) (n a497 z z))))) (n a25 (n a41 (n a73 (n a137 (n (a265 P) (n a521 z z) z) (n a393 z z)) (n a201 (n a329 z z) (n a457 z z))) (n a105 (n a169 (n a297 z z) (n a425 z z)) (n a233 (n a361 z z) (n a489 z z)))) (n a57 (n a89 (n a153 (n a281 z z) (n a409 z z)) (n a217 (n a345 z z) (n a473 z z))) (n a121 (n a185 (n a313 z z) (n a441 z z)) (n a249 (n a377 z z) (n a505 z z)))))) (n (a13 P) (n (a21 P) (n a37 (n a69 (n a133 (n a261 (n (a517 P) z z) z) (n a389 z z)) (n a197 (n a325 z z) (n a453 z z))) (n a101 (n a165 (n a293 z z) (n a421 z z)) (n a229 (n a357 z z) (n a485 z z)))) (n a53 (n (a85 P) (n a149 (n a277 z z) (n a405 z z)) (n a213 (n (a341 P) z z) (n a469 z z))) (n a117 (n a181 (n a309 z z) (n a437 z z)) (n a245 (n a373 z z) (n a501 z z))))) (n a29v12 (n a45 (n a77 (n a141 (n a269 z z) (n a397 z z)) (n a205 (n a333 z z) (n a461 z z))) (n a109 (n a173 (n a301 z z) (n a429 z z)) (n a237 (n a365 z z) (n a493 z z)))) (n a61 (n a93 (n a157 (n a285 z z) (n a413 z z)) (n a221 (n a349 z z) (n a477 z z))) (n a125 (n a189 (n a317 z z) (n a445 z z)) (n a253 (n a381 z z) (n a509 z z)))))))) (n (a2v1 P) (n a4 (n a8 (n a16 (n a32 (n a64 (n a128 (n a256 (n a512 z z) z) (n a384 z z)) (n a192 (n a320 z z) (n a448 z z))) (n a96 (n a160 (n a288 z z) (n a416 z z)) (n a224 (n a352 z z) (n a480 z z)))) (n a48 (n a80 (n a144 (n a272 z z) (n a400 z z)) (n a208 (n a336 z z) (n a464 z z))) (n a112 (n a176 (n a304 z z) (n (a432 P) z z)) (n a240 (n a368 z z) (n a496 z z))))) (n a24 (n a40 (n (a72 P) (n a136 (n a264 (n a520 z z) z) (n a392 z z)) (n a200 (n a328 z z) (n a456 z z))) (n a104 (n a168 (n a296 z z) (n a424 z z)) (n a232 (n a360 z z) (n a488 z z)))) (n a56 (n a88 (n a152 (n a280 z z) (n a408 z z)) (n a216 (n a344 z z) (n a472 z z))) (n a120 (n a184 (n a312 z z) (n (a440 P) z z)) (n a248 (n a376 z z) (n a504 z z)))))) (n a12 (n (a20 P) (n a36 (n a68 (n (a132 P) (n a260 (n a516 z z) z) (n a388 z z)) (n a196 (n a324 z z) (n a452 z z))) (n a100 (n a164 (n a292 z z) (n a420 z z)) (n a228 (n (a356 P) z z) (n a484 z z)))) (n a52 (n a84 (n a148 (n a276 z z) (n a404 z z)) (n (a212 P) (n a340 z z) (n a468 z z))) (n a116 (n a180 (n a308 z z) (n a436 z z)) (n a244 (n a372 z z) (n a500 z z))))) (n a28 (n a44 (n a76 (n (a140 P) (n a268 z z) (n a396 z z)) (n a204 (n a332 z z) (n a460 z z))) (n a108 (n a172 (n a300 z z) (n a428 z z)) (n a236 (n a364 z z) (n a492 z z)))) (n a60 (n a92 (n a156 (n a284 z z) (n a412 z z)) (n (a220 P) (n a348 z z) (n a476 z z))) (n a124 (n a188 (n a316 z z) (n a444 z z)) (n a252 (n a380 z z) (n a508 z z))))))) (n a6 (n a10 (n a18 (n a34 (n a66 (n a130 (n a258 (n a514 z z) z) (n a386 z z)) (n a194 (n a322 z z) (n a450 z z))) (n a98 (n a162 (n a290 z z) (n a418 z z)) (n a226 (n a354 z z) (n (a482 P) z z)))) (n a50 (n a82 (n a146 (n a274 z z) (n a402 z z)) (n a210 (n a338 z z) (n a466 z z))) (n a114 (n a178 (n a306 z z) (n a434 z z)) (n a242 (n a370 z z) (n a498 z z))))) (n a26 (n a42 (n a74 (n a138 (n a266 (n a522 z z) z) (n a394 z z)) (n a202 (n a330 z z) (n a458 z z))) (n a106 (n a170 (n a298 z z) (n a426 z z)) (n a234 (n a362 z z) (n a490 z z)))) (n a58 (n a90 (n a154 (n a282 z z) (n a410 z z)) (n a218 (n a346 z z) (n (a474 P) z z))) (n a122 (n a186 (n a314 z z) (n a442 z z)) (n a250 (n a378 z z) (n a506 z z)))))) (n a14 (n a22 (n a38 (n a70 (n a134 (n a262 (n a518 z z) z) (n (a390 P) z z)) (n a198 (n a326 z z) (n a454 z z))) (n a102 (n a166 (n a294 z z) (n a422 z z)) (n a230 (n a358 z z) (n a486 z z)))) (n a54 (n a86 (n a150 (n a278 z z) (n a406 z z)) (n a214 (n a342 z z) (n a470 z z))) (n a118 (n (a182 P) (n a310 z z) (n a438 z z)) (n a246 (n a374 z z) (n a502 z z))))) (n a30 (n a46 (n (a78 P) (n a142 (n a270 z z) (n (a398 P) z z)) (n a206 (n a334 z z) (n a462 z z))) (n a110 (n (a174 P) (n a302 z z) (n a430 z z)) (n a238 (n a366 z z) (n a494 z z)))) (n a62 (n a94 (n a158 (n a286 z z) (n a414 z z)) (n a222 (n a350 z z) (n a478 z z))) (n a126 (n a190 (n a318 z z) (n a446 z z)) (n a254 (n a382 z z) (n a510 z z)))))))))
def a3v13 (P : Params) : Obj := grow (a3v12 P) #[E P "Element" 1275 (R 561)] 30
def a29v13 : Obj := ⟨N, none, (.fields #[(I 2 0), (I 0 0), (R 37), (I 5 0), (I 0 0), (R 44), (I 12 0), (I 0 0), (R 61), (I 14 0), (I 0 0), (R 68), (I 16 0), (I 0 0), (R 75), (I 18 0), (I 0 0), (R 88), (I 20 0), (I 0 0), (R 100), (I 54 0), (I 0 0), (R 143), (I 70 0), (I 0 0), (R 185), (I 86 0), (I 0 0), (R 223), (I 108 0), (I 0 0), (R 268), (I 124 0), (I 0 0), (R 310), (I 143 0), (I 0 0), (R 352), (I 147 0), (I 0 0), (R 359), (I 165 0), (I 0 0), (R 401), (I 189 0), (I 0 0), (R 443), (I 211 0), (I 0 0), (R 485), (I 246 0), (I 0 0), (R 528)]), #[]⟩
def a523 : Obj := ⟨(T "tuple"), none, (.seq #[] 0), #[]⟩
def a524 : Obj := ⟨(T "builtin_function_or_method"), none, (.fields #[(U "type.__prepare__"), (T "type")]), #[]⟩
def a525 (P : Params) : Obj := ⟨(T "dict"), none, (.dict #[E P "__module__" 1229 (V "cssselect.parser" 296), E P "__qualname__" 1231 (V "Element" 1230), E P "__firstlineno__" 1233 (I 246 1232), E P "__init__" 1242 (R 537), E P "__repr__" 1249 (R 544), E P "canonical" 1258 (R 551), E P "specificity" 1265 (R 558), E P "__static_attributes__" 1268 (R 559)] 8), #[]⟩
def a526 : Obj := ⟨(T "tuple"), none, (.seq #[] 0), #[]⟩
def a527 : Obj := ⟨N, none, (.fields #[(I 248 0), (I 4 0), (R 536), (I 252 0), (I 4 0), (R 543), (I 255 0), (I 4 0), (R 550), (I 262 0), (I 4 0), (R 557)]), #[]⟩
def a528 : Obj := ⟨(T "code"), none, (.fields #[(V "Element" 1224), (V "Element" 1225), (V "/claim/cut.py" 1226), (I 246 0), (I 0 0), (I 0 0), (I 0 0), (I 0 0), (R 526), (B false), (I 276 0), (R 527), N, N, N, N, (I 1227 0), (I 246 0), (V "/claim/cut.py" 1228)]), #[]⟩
def a529 : Obj := ⟨(T "frame"), none, .plain, #[(some (R 528)), (some (R 3)), (some (R 525)), none, (some (V "cssselect.parser" 296)), none, (some (R 0))]⟩
def a530 : Obj := ⟨(T "tuple"), none, (.seq #[N, N] 0), #[]⟩
def a531 : Obj := ⟨(T "tuple"), none, (.seq #[] 0), #[]⟩
def a532 : Obj := ⟨N, none, (.fields #[]), #[]⟩
def a533 : Obj := ⟨(T "tuple"), none, (.seq #[(V "self" 1237), (V "namespace" 1238), (V "element" 1239)] 0), #[]⟩
def a534 : Obj := ⟨(T "tuple"), none, (.seq #[] 0), #[]⟩
def a535 : Obj := ⟨N, none, (.func (fd (kd (st 21) 0) (Str.ofString "Element.__init__") 0 [] N N N N none N N 0)), #[]⟩
def a536 : Obj := ⟨(T "code"), none, (.fields #[(V "__init__" 1234), (V "Element.__init__" 1235), (V "/claim/cut.py" 1236), (I 248 0), (I 3 0), (I 0 0), (I 0 0), (I 3 0), (R 531), (B true), (I 276 0), (R 532), N, (R 533), (R 534), (R 535), (I 1240 0), (I 248 0), (V "/claim/cut.py" 1241)]), #[]⟩
def a537 : Obj := ⟨(T "function"), none, (.func (fd (kd (st 21) 0) (Str.ofString "Element.__init__") 3 [] (R 530) N N (V "cssselect.parser" 296) none (R 536) N 0)), #[]⟩
def a538 : Obj := ⟨(T "tuple"), none, (.seq #[] 0), #[]⟩
def a539 : Obj := ⟨N, none, (.fields #[]), #[]⟩
def a540 : Obj := ⟨(T "tuple"), none, (.seq #[(V "self" 1246)] 0), #[]⟩
def a541 : Obj := ⟨(T "tuple"), none, (.seq #[] 0), #[]⟩
def a542 : Obj := ⟨N, none, (.func (fd (kd (st 21) 1) (Str.ofString "Element.__repr__") 0 [] N N N N none N N 0)), #[]⟩
def a543 : Obj := ⟨(T "code"), none, (.fields #[(V "__repr__" 1243), (V "Element.__repr__" 1244), (V "/claim/cut.py" 1245), (I 252 0), (I 1 0), (I 0 0), (I 0 0), (I 3 0), (R 538), (B true), (I 276 0), (R 539), N, (R 540), (R 541), (R 542), (I 1247 0), (I 252 0), (V "/claim/cut.py" 1248)]), #[]⟩
def a544 : Obj := ⟨(T "function"), none, (.func (fd (kd (st 21) 1) (Str.ofString "Element.__repr__") 3 [] N N N (V "cssselect.parser" 296) none (R 543) N 0)), #[]⟩
def a545 : Obj := ⟨(T "tuple"), none, (.seq #[] 0), #[]⟩
def a546 : Obj := ⟨N, none, (.fields #[]), #[]⟩
def a547 : Obj := ⟨(T "tuple"), none, (.seq #[(V "self" 1253), (V "element" 1254), (V "namespace" 1255)] 0), #[]⟩
def a548 : Obj := ⟨(T "tuple"), none, (.seq #[] 0), #[]⟩
def a549 : Obj := ⟨N, none, (.func (fd (kd (st 21) 2) (Str.ofString "Element.canonical") 0 [] N N N N none N N 0)), #[]⟩
def a550 : Obj := ⟨(T "code"), none, (.fields #[(V "canonical" 1250), (V "Element.canonical" 1251), (V "/claim/cut.py" 1252), (I 255 0), (I 1 0), (I 0 0), (I 0 0), (I 3 0), (R 545), (B true), (I 276 0), (R 546), N, (R 547), (R 548), (R 549), (I 1256 0), (I 255 0), (V "/claim/cut.py" 1257)]), #[]⟩
def a551 : Obj := ⟨(T "function"), none, (.func (fd (kd (st 21) 2) (Str.ofString "Element.canonical") 3 [] N N N (V "cssselect.parser" 296) none (R 550) N 0)), #[]⟩
def a552 : Obj := ⟨(T "tuple"), none, (.seq #[] 0), #[]⟩
def a553 : Obj := ⟨N, none, (.fields #[]), #[]⟩
def a554 : Obj := ⟨(T "tuple"), none, (.seq #[(V "self" 1262)] 0), #[]⟩
def a555 : Obj := ⟨(T "tuple"), none, (.seq #[] 0), #[]⟩
def a556 : Obj := ⟨N, none, (.func (fd (kd (st 21) 3) (Str.ofString "Element.specificity") 0 [] N N N N none N N 0)), #[]⟩
def a557 : Obj := ⟨(T "code"), none, (.fields #[(V "specificity" 1259), (V "Element.specificity" 1260), (V "/claim/cut.py" 1261), (I 262 0), (I 1 0), (I 0 0), (I 0 0), (I 3 0), (R 552), (B true), (I 276 0), (R 553), N, (R 554), (R 555), (R 556), (I 1263 0), (I 262 0), (V "/claim/cut.py" 1264)]), #[]⟩
def a558 : Obj := ⟨(T "function"), none, (.func (fd (kd (st 21) 3) (Str.ofString "Element.specificity") 3 [] N N N (V "cssselect.parser" 296) none (R 557) N 0)), #[]⟩
def a559 : Obj := ⟨(T "tuple"), none, (.seq #[(V "element" 1266), (V "namespace" 1267)] 0), #[]⟩
def a560 (P : Params) : Obj := ⟨(T "dict"), none, (.dict #[E P "__module__" 1229 (V "cssselect.parser" 296), E P "__firstlineno__" 1233 (I 246 1232), E P "__init__" 1242 (R 537), E P "__repr__" 1249 (R 544), E P "canonical" 1258 (R 551), E P "specificity" 1265 (R 558), E P "__static_attributes__" 1268 (R 559), E P "__dict__" 1270 (R 562), E P "__weakref__" 1272 (R 563), E P "__doc__" 1273 N] 4), #[]⟩
def a561 : Obj := ⟨(T "type"), none, (.cls ⟨(Str.ofString "Element"), [(T "object")], [(R 561), (T "object")], 560, (Str.ofString "Element"), true, [], [], false, none, false⟩), #[none, none, (some (V "Element" 1222)), (some (V "Element" 1230)), (some (U "object.__new__")), (some (B true))]⟩
def a562 : Obj := ⟨(T "getset_descriptor"), none, (.fields #[(V "__dict__" 1269), (R 561), (U "function.__dict__"), (U "function.__dict__#set")]), #[]⟩
def a563 : Obj := ⟨(T "getset_descriptor"), none, (.fields #[(V "__weakref__" 1271), (R 561), (U "ExceptionGroup.__weakref__"), N]), #[]⟩
def a564 : Obj := ⟨(T "super"), none, (.fields #[(R 561), (R 561), (R 561)]), #[]⟩
def a565 : Obj := ⟨(T "builtin_function_or_method"), none, (.fields #[(U "object.__init_subclass__"), (R 561)]), #[]⟩
def T21 (P : Params) : BT := (n (a0 P) (n (a1 P) (n (a3v13 P) (n a7 (n a15 (n a31 (n a63 (n a127 (n a255 (n a511 z z) z) (n a383 z z)) (n a191 (n a319 z z) (n a447 z z))) (n a95 (n a159 (n a287 (n a543 z z) z) (n a415 z z)) (n a223 (n a351 z z) (n a479 z z)))) (n a47 (n a79 (n a143 (n a271 (n a527 z z) z) (n a399 z z)) (n a207 (n a335 z z) (n a463 z z))) (n a111 (n a175 (n a303 (n a559 z z) z) (n a431 z z)) (n a239 (n a367 z z) (n a495 z z))))) (n a23 (n a39 (n a71 (n a135 (n a263 (n a519 z z) z) (n a391 z z)) (n a199 (n a327 z z) (n a455 z z))) (n a103 (n a167 (n a295 (n a551 z z) z) (n a423 z z)) (n a231 (n a359 z z) (n a487 z z)))) (n a55 (n a87 (n a151 (n a279 (n a535 z z) z) (n a407 z z)) (n a215 (n a343 z z) (n a471 z z))) (n a119 (n a183 (n a311 z z) (n a439 z z)) (n a247 (n a375 z z) (n a503 z z)))))) (n (a11 P) (n a19 (n a35 (n a67 (n a131 (n a259 (n a515 z z) z) (n a387 z z)) (n a195 (n a323 z z) (n a451 z z))) (n a99 (n a163 (n a291 (n a547 z z) z) (n a419 z z)) (n a227 (n a355 z z) (n a483 z z)))) (n a51 (n a83 (n a147 (n a275 (n a531 z z) z) (n a403 z z)) (n a211 (n a339 z z) (n a467 z z))) (n a115 (n a179 (n (a307 P) (n a563 z z) z) (n a435 z z)) (n a243 (n a371 z z) (n a499 z z))))) (n a27 (n a43 (n a75 (n a139 (n a267 (n a523 z z) z) (n a395 z z)) (n a203 (n a331 z z) (n a459 z z))) (n a107 (n a171 (n (a299 P) (n a555 z z) z) (n a427 z z)) (n a235 (n a363 z z) (n a491 z z)))) (n a59 (n (a91 P) (n a155 (n a283 (n a539 z z) z) (n a411 z z)) (n a219 (n a347 z z) (n a475 z z))) (n a123 (n a187 (n a315 z z) (n a443 z z)) (n a251 (n a379 z z) (n a507 z z))))))) (n a5 (n a9 (n a17 (n a33 (n a65 (n a129 (n (a257 P) (n a513 z z) z) (n a385 z z)) (n a193 (n a321 z z) (n a449 z z))) (n (a97 P) (n a161 (n a289 (n a545 z z) z) (n a417 z z)) (n a225 (n a353 z z) (n a481 z z)))) (n a49 (n a81 (n a145 (n a273 (n a529 z z) z) (n a401 z z)) (n a209 (n a337 z z) (n a465 z z))) (n a113 (n a177 (n a305 (n a561 z z) z) (n a433 z z)) (n a241 (n a369 z z) (n a497 z z))))) (n a25 (n a41 (n a73 (n a137 (n (a265 P) (n a521 z z) z) (n a393 z z)) (n a201 (n a329 z z) (n a457 z z))) (n a105 (n a169 (n a297 (n a553 z z) z) (n a425 z z)) (n a233 (n a361 z z) (n a489 z z)))) (n a57 (n a89 (n a153 (n a281 (n a537 z z) z) (n a409 z z)) (n a217 (n a345 z z) (n a473 z z))) (n a121 (n a185 (n a313 z z) (n a441 z z)) (n a249 (n a377 z z) (n a505 z z)))))) (n (a13 P) (n (a21 P) (n a37 (n a69 (n a133 (n a261 (n (a517 P) z z) z) (n a389 z z)) (n a197 (n a325 z z) (n a453 z z))) (n a101 (n a165 (n a293 (n a549 z z) z) (n a421 z z)) (n a229 (n a357 z z) (n a485 z z)))) (n a53 (n (a85 P) (n a149 (n a277 (n a533 z z) z) (n a405 z z)) (n a213 (n (a341 P) z z) (n a469 z z))) (n a117 (n a181 (n a309 (n a565 z z) z) (n a437 z z)) (n a245 (n a373 z z) (n a501 z z))))) (n a29v13 (n a45 (n a77 (n a141 (n a269 (n (a525 P) z z) z) (n a397 z z)) (n a205 (n a333 z z) (n a461 z z))) (n a109 (n a173 (n a301 (n a557 z z) z) (n a429 z z)) (n a237 (n a365 z z) (n a493 z z)))) (n a61 (n a93 (n a157 (n a285 (n a541 z z) z) (n a413 z z)) (n a221 (n a349 z z) (n a477 z z))) (n a125 (n a189 (n a317 z z) (n a445 z z)) (n a253 (n a381 z z) (n a509 z z)))))))) (n (a2v1 P) (n a4 (n a8 (n a16 (n a32 (n a64 (n a128 (n a256 (n a512 z z) z) (n a384 z z)) (n a192 (n a320 z z) (n a448 z z))) (n a96 (n a160 (n a288 (n a544 z z) z) (n a416 z z)) (n a224 (n a352 z z) (n a480 z z)))) (n a48 (n a80 (n a144 (n a272 (n a528 z z) z) (n a400 z z)) (n a208 (n a336 z z) (n a464 z z))) (n a112 (n a176 (n a304 (n (a560 P) z z) z) (n (a432 P) z z)) (n a240 (n a368 z z) (n a496 z z))))) (n a24 (n a40 (n (a72 P) (n a136 (n a264 (n a520 z z) z) (n a392 z z)) (n a200 (n a328 z z) (n a456 z z))) (n a104 (n a168 (n a296 (n a552 z z) z) (n a424 z z)) (n a232 (n a360 z z) (n a488 z z)))) (n a56 (n a88 (n a152 (n a280 (n a536 z z) z) (n a408 z z)) (n a216 (n a344 z z) (n a472 z z))) (n a120 (n a184 (n a312 z z) (n (a440 P) z z)) (n a248 (n a376 z z) (n a504 z z)))))) (n a12 (n (a20 P) (n a36 (n a68 (n (a132 P) (n a260 (n a516 z z) z) (n a388 z z)) (n a196 (n a324 z z) (n a452 z z))) (n a100 (n a164 (n a292 (n a548 z z) z) (n a420 z z)) (n a228 (n (a356 P) z z) (n a484 z z)))) (n a52 (n a84 (n a148 (n a276 (n a532 z z) z) (n a404 z z)) (n (a212 P) (n a340 z z) (n a468 z z))) (n a116 (n a180 (n a308 (n a564 z z) z) (n a436 z z)) (n a244 (n a372 z z) (n a500 z z))))) (n a28 (n a44 (n a76 (n (a140 P) (n a268 (n a524 z z) z) (n a396 z z)) (n a204 (n a332 z z) (n a460 z z))) (n a108 (n a172 (n a300 (n a556 z z) z) (n a428 z z)) (n a236 (n a364 z z) (n a492 z z)))) (n a60 (n a92 (n a156 (n a284 (n a540 z z) z) (n a412 z z)) (n (a220 P) (n a348 z z) (n a476 z z))) (n a124 (n a188 (n a316 z z) (n a444 z z)) (n a252 (n a380 z z) (n a508 z z))))))) (n a6 (n a10 (n a18 (n a34 (n a66 (n a130 (n a258 (n a514 z z) z) (n a386 z z)) (n a194 (n a322 z z) (n a450 z z))) (n a98 (n a162 (n a290 (n a546 z z) z) (n a418 z z)) (n a226 (n a354 z z) (n (a482 P) z z)))) (n a50 (n a82 (n a146 (n a274 (n a530 z z) z) (n a402 z z)) (n a210 (n a338 z z) (n a466 z z))) (n a114 (n a178 (n a306 (n a562 z z) z) (n a434 z z)) (n a242 (n a370 z z) (n a498 z z))))) (n a26 (n a42 (n a74 (n a138 (n a266 (n a522 z z) z) (n a394 z z)) (n a202 (n a330 z z) (n a458 z z))) (n a106 (n a170 (n a298 (n a554 z z) z) (n a426 z z)) (n a234 (n a362 z z) (n a490 z z)))) (n a58 (n a90 (n a154 (n a282 (n a538 z z) z) (n a410 z z)) (n a218 (n a346 z z) (n (a474 P) z z))) (n a122 (n a186 (n a314 z z) (n a442 z z)) (n a250 (n a378 z z) (n a506 z z)))))) (n a14 (n a22 (n a38 (n a70 (n a134 (n a262 (n a518 z z) z) (n (a390 P) z z)) (n a198 (n a326 z z) (n a454 z z))) (n a102 (n a166 (n a294 (n a550 z z) z) (n a422 z z)) (n a230 (n a358 z z) (n a486 z z)))) (n a54 (n a86 (n a150 (n a278 (n a534 z z) z) (n a406 z z)) (n a214 (n a342 z z) (n a470 z z))) (n a118 (n (a182 P) (n a310 z z) (n a438 z z)) (n a246 (n a374 z z) (n a502 z z))))) (n a30 (n a46 (n (a78 P) (n a142 (n a270 (n a526 z z) z) (n (a398 P) z z)) (n a206 (n a334 z z) (n a462 z z))) (n a110 (n (a174 P) (n a302 (n a558 z z) z) (n a430 z z)) (n a238 (n a366 z z) (n a494 z z)))) (n a62 (n a94 (n a158 (n a286 (n a542 z z) z) (n a414 z z)) (n a222 (n a350 z z) (n a478 z z))) (n a126 (n a190 (n a318 z z) (n a446 z z)) (n a254 (n a382 z z) (n a510 z z)))))))))
def a3v14 (P : Params) : Obj := grow (a3v13 P) #[E P "Hash" 1330 (R 603)] 31
def a29v14 : Obj := ⟨N, none, (.fields #[(I 2 0), (I 0 0), (R 37), (I 5 0), (I 0 0), (R 44), (I 12 0), (I 0 0), (R 61), (I 14 0), (I 0 0), (R 68), (I 16 0), (I 0 0), (R 75), (I 18 0), (I 0 0), (R 88), (I 20 0), (I 0 0), (R 100), (I 54 0), (I 0 0), (R 143), (I 70 0), (I 0 0), (R 185), (I 86 0), (I 0 0), (R 223), (I 108 0), (I 0 0), (R 268), (I 124 0), (I 0 0), (R 310), (I 143 0), (I 0 0), (R 352), (I 147 0), (I 0 0), (R 359), (I 165 0), (I 0 0), (R 401), (I 189 0), (I 0 0), (R 443), (I 211 0), (I 0 0), (R 485), (I 246 0), (I 0 0), (R 528), (I 266 0), (I 0 0), (R 571)]), #[]⟩
def a566 : Obj := ⟨(T "tuple"), none, (.seq #[] 0), #[]⟩
def a567 : Obj := ⟨(T "builtin_function_or_method"), none, (.fields #[(U "type.__prepare__"), (T "type")]), #[]⟩
def a568 (P : Params) : Obj := ⟨(T "dict"), none, (.dict #[E P "__module__" 1283 (V "cssselect.parser" 296), E P "__qualname__" 1285 (V "Hash" 1284), E P "__firstlineno__" 1287 (I 266 1286), E P "__init__" 1296 (R 579), E P "__repr__" 1303 (R 586), E P "canonical" 1310 (R 593), E P "specificity" 1320 (R 600), E P "__static_attributes__" 1323 (R 601)] 8), #[]⟩
def a569 : Obj := ⟨(T "tuple"), none, (.seq #[] 0), #[]⟩
def a570 : Obj := ⟨N, none, (.fields #[(I 268 0), (I 4 0), (R 578), (I 272 0), (I 4 0), (R 585), (I 275 0), (I 4 0), (R 592), (I 278 0), (I 4 0), (R 599)]), #[]⟩
def a571 : Obj := ⟨(T "code"), none, (.fields #[(V "Hash" 1278), (V "Hash" 1279), (V "/claim/cut.py" 1280), (I 266 0), (I 0 0), (I 0 0), (I 0 0), (I 0 0), (R 569), (B false), (I 276 0), (R 570), N, N, N, N, (I 1281 0), (I 266 0), (V "/claim/cut.py" 1282)]), #[]⟩
def a572 : Obj := ⟨(T "frame"), none, .plain, #[(some (R 571)), (some (R 3)), (some (R 568)), none, (some (V "cssselect.parser" 296)), none, (some (R 0))]⟩
def a573 : Obj := ⟨(T "tuple"), none, (.seq #[] 0), #[]⟩
def a574 : Obj := ⟨N, none, (.fields #[]), #[]⟩
def a575 : Obj := ⟨(T "tuple"), none, (.seq #[(V "self" 1291), (V "selector" 1292), (V "id" 1293)] 0), #[]⟩
def a576 : Obj := ⟨(T "tuple"), none, (.seq #[] 0), #[]⟩
def a577 : Obj := ⟨N, none, (.func (fd (kd (st 22) 0) (Str.ofString "Hash.__init__") 0 [] N N N N none N N 0)), #[]⟩
def a578 : Obj := ⟨(T "code"), none, (.fields #[(V "__init__" 1288), (V "Hash.__init__" 1289), (V "/claim/cut.py" 1290), (I 268 0), (I 3 0), (I 0 0), (I 0 0), (I 3 0), (R 573), (B true), (I 276 0), (R 574), N, (R 575), (R 576), (R 577), (I 1294 0), (I 268 0), (V "/claim/cut.py" 1295)]), #[]⟩
def a579 : Obj := ⟨(T "function"), none, (.func (fd (kd (st 22) 0) (Str.ofString "Hash.__init__") 3 [] N N N (V "cssselect.parser" 296) none (R 578) N 0)), #[]⟩
def a580 : Obj := ⟨(T "tuple"), none, (.seq #[] 0), #[]⟩
def a581 : Obj := ⟨N, none, (.fields #[]), #[]⟩
def a582 : Obj := ⟨(T "tuple"), none, (.seq #[(V "self" 1300)] 0), #[]⟩
def a583 : Obj := ⟨(T "tuple"), none, (.seq #[] 0), #[]⟩
def a584 : Obj := ⟨N, none, (.func (fd (kd (st 22) 1) (Str.ofString "Hash.__repr__") 0 [] N N N N none N N 0)), #[]⟩
def a585 : Obj := ⟨(T "code"), none, (.fields #[(V "__repr__" 1297), (V "Hash.__repr__" 1298), (V "/claim/cut.py" 1299), (I 272 0), (I 1 0), (I 0 0), (I 0 0), (I 3 0), (R 580), (B true), (I 276 0), (R 581), N, (R 582), (R 583), (R 584), (I 1301 0), (I 272 0), (V "/claim/cut.py" 1302)]), #[]⟩
def a586 : Obj := ⟨(T "function"), none, (.func (fd (kd (st 22) 1) (Str.ofString "Hash.__repr__") 3 [] N N N (V "cssselect.parser" 296) none (R 585) N 0)), #[]⟩
def a587 : Obj := ⟨(T "tuple"), none, (.seq #[] 0), #[]⟩
def a588 : Obj := ⟨N, none, (.fields #[]), #[]⟩
def a589 : Obj := ⟨(T "tuple"), none, (.seq #[(V "self" 1307)] 0), #[]⟩
def a590 : Obj := ⟨(T "tuple"), none, (.seq #[] 0), #[]⟩
def a591 : Obj := ⟨N, none, (.func (fd (kd (st 22) 2) (Str.ofString "Hash.canonical") 0 [] N N N N none N N 0)), #[]⟩
def a592 : Obj := ⟨(T "code"), none, (.fields #[(V "canonical" 1304), (V "Hash.canonical" 1305), (V "/claim/cut.py" 1306), (I 275 0), (I 1 0), (I 0 0), (I 0 0), (I 3 0), (R 587), (B true), (I 276 0), (R 588), N, (R 589), (R 590), (R 591), (I 1308 0), (I 275 0), (V "/claim/cut.py" 1309)]), #[]⟩
def a593 : Obj := ⟨(T "function"), none, (.func (fd (kd (st 22) 2) (Str.ofString "Hash.canonical") 3 [] N N N (V "cssselect.parser" 296) none (R 592) N 0)), #[]⟩
def a594 : Obj := ⟨(T "tuple"), none, (.seq #[] 0), #[]⟩
def a595 : Obj := ⟨N, none, (.fields #[]), #[]⟩
def a596 : Obj := ⟨(T "tuple"), none, (.seq #[(V "self" 1314), (V "a" 1315), (V "b" 1316), (V "c" 1317)] 0), #[]⟩
def a597 : Obj := ⟨(T "tuple"), none, (.seq #[] 0), #[]⟩
def a598 : Obj := ⟨N, none, (.func (fd (kd (st 22) 3) (Str.ofString "Hash.specificity") 0 [] N N N N none N N 0)), #[]⟩
def a599 : Obj := ⟨(T "code"), none, (.fields #[(V "specificity" 1311), (V "Hash.specificity" 1312), (V "/claim/cut.py" 1313), (I 278 0), (I 1 0), (I 0 0), (I 0 0), (I 3 0), (R 594), (B true), (I 276 0), (R 595), N, (R 596), (R 597), (R 598), (I 1318 0), (I 278 0), (V "/claim/cut.py" 1319)]), #[]⟩
def a600 : Obj := ⟨(T "function"), none, (.func (fd (kd (st 22) 3) (Str.ofString "Hash.specificity") 3 [] N N N (V "cssselect.parser" 296) none (R 599) N 0)), #[]⟩
def a601 : Obj := ⟨(T "tuple"), none, (.seq #[(V "id" 1321), (V "selector" 1322)] 0), #[]⟩
def a602 (P : Params) : Obj := ⟨(T "dict"), none, (.dict #[E P "__module__" 1283 (V "cssselect.parser" 296), E P "__firstlineno__" 1287 (I 266 1286), E P "__init__" 1296 (R 579), E P "__repr__" 1303 (R 586), E P "canonical" 1310 (R 593), E P "specificity" 1320 (R 600), E P "__static_attributes__" 1323 (R 601), E P "__dict__" 1325 (R 604), E P "__weakref__" 1327 (R 605), E P "__doc__" 1328 N] 4), #[]⟩
def a603 : Obj := ⟨(T "type"), none, (.cls ⟨(Str.ofString "Hash"), [(T "object")], [(R 603), (T "object")], 602, (Str.ofString "Hash"), true, [], [], false, none, false⟩), #[none, none, (some (V "Hash" 1276)), (some (V "Hash" 1284)), (some (U "object.__new__")), (some (B true))]⟩
def a604 : Obj := ⟨(T "getset_descriptor"), none, (.fields #[(V "__dict__" 1324), (R 603), (U "function.__dict__"), (U "function.__dict__#set")]), #[]⟩
def a605 : Obj := ⟨(T "getset_descriptor"), none, (.fields #[(V "__weakref__" 1326), (R 603), (U "ExceptionGroup.__weakref__"), N]), #[]⟩
def a606 : Obj := ⟨(T "super"), none, (.fields #[(R 603), (R 603), (R 603)]), #[]⟩
def a607 : Obj := ⟨(T "builtin_function_or_method"), none, (.fields #[(U "object.__init_subclass__"), (R 603)]), #[]⟩
def T22 (P : Params) : BT := (n (a0 P) (n (a1 P) (n (a3v14 P) (n a7 (n a15 (n a31 (n a63 (n a127 (n a255 (n a511 z z) z) (n a383 z z)) (n a191 (n a319 (n a575 z z) z) (n a447 z z))) (n a95 (n a159 (n a287 (n a543 z z) z) (n a415 z z)) (n a223 (n a351 (n a607 z z) z) (n a479 z z)))) (n a47 (n a79 (n a143 (n a271 (n a527 z z) z) (n a399 z z)) (n a207 (n a335 (n a591 z z) z) (n a463 z z))) (n a111 (n a175 (n a303 (n a559 z z) z) (n a431 z z)) (n a239 (n a367 z z) (n a495 z z))))) (n a23 (n a39 (n a71 (n a135 (n a263 (n a519 z z) z) (n a391 z z)) (n a199 (n a327 (n a583 z z) z) (n a455 z z))) (n a103 (n a167 (n a295 (n a551 z z) z) (n a423 z z)) (n a231 (n a359 z z) (n a487 z z)))) (n a55 (n a87 (n a151 (n a279 (n a535 z z) z) (n a407 z z)) (n a215 (n a343 (n a599 z z) z) (n a471 z z))) (n a119 (n a183 (n a311 (n a567 z z) z) (n a439 z z)) (n a247 (n a375 z z) (n a503 z z)))))) (n (a11 P) (n a19 (n a35 (n a67 (n a131 (n a259 (n a515 z z) z) (n a387 z z)) (n a195 (n a323 (n a579 z z) z) (n a451 z z))) (n a99 (n a163 (n a291 (n a547 z z) z) (n a419 z z)) (n a227 (n a355 z z) (n a483 z z)))) (n a51 (n a83 (n a147 (n a275 (n a531 z z) z) (n a403 z z)) (n a211 (n a339 (n a595 z z) z) (n a467 z z))) (n a115 (n a179 (n (a307 P) (n a563 z z) z) (n a435 z z)) (n a243 (n a371 z z) (n a499 z z))))) (n a27 (n a43 (n a75 (n a139 (n a267 (n a523 z z) z) (n a395 z z)) (n a203 (n a331 (n a587 z z) z) (n a459 z z))) (n a107 (n a171 (n (a299 P) (n a555 z z) z) (n a427 z z)) (n a235 (n a363 z z) (n a491 z z)))) (n a59 (n (a91 P) (n a155 (n a283 (n a539 z z) z) (n a411 z z)) (n a219 (n a347 (n a603 z z) z) (n a475 z z))) (n a123 (n a187 (n a315 (n a571 z z) z) (n a443 z z)) (n a251 (n a379 z z) (n a507 z z))))))) (n a5 (n a9 (n a17 (n a33 (n a65 (n a129 (n (a257 P) (n a513 z z) z) (n a385 z z)) (n a193 (n a321 (n a577 z z) z) (n a449 z z))) (n (a97 P) (n a161 (n a289 (n a545 z z) z) (n a417 z z)) (n a225 (n a353 z z) (n a481 z z)))) (n a49 (n a81 (n a145 (n a273 (n a529 z z) z) (n a401 z z)) (n a209 (n a337 (n a593 z z) z) (n a465 z z))) (n a113 (n a177 (n a305 (n a561 z z) z) (n a433 z z)) (n a241 (n a369 z z) (n a497 z z))))) (n a25 (n a41 (n a73 (n a137 (n (a265 P) (n a521 z z) z) (n a393 z z)) (n a201 (n a329 (n a585 z z) z) (n a457 z z))) (n a105 (n a169 (n a297 (n a553 z z) z) (n a425 z z)) (n a233 (n a361 z z) (n a489 z z)))) (n a57 (n a89 (n a153 (n a281 (n a537 z z) z) (n a409 z z)) (n a217 (n a345 (n a601 z z) z) (n a473 z z))) (n a121 (n a185 (n a313 (n a569 z z) z) (n a441 z z)) (n a249 (n a377 z z) (n a505 z z)))))) (n (a13 P) (n (a21 P) (n a37 (n a69 (n a133 (n a261 (n (a517 P) z z) z) (n a389 z z)) (n a197 (n a325 (n a581 z z) z) (n a453 z z))) (n a101 (n a165 (n a293 (n a549 z z) z) (n a421 z z)) (n a229 (n a357 z z) (n a485 z z)))) (n a53 (n (a85 P) (n a149 (n a277 (n a533 z z) z) (n a405 z z)) (n a213 (n (a341 P) (n a597 z z) z) (n a469 z z))) (n a117 (n a181 (n a309 (n a565 z z) z) (n a437 z z)) (n a245 (n a373 z z) (n a501 z z))))) (n a29v14 (n a45 (n a77 (n a141 (n a269 (n (a525 P) z z) z) (n a397 z z)) (n a205 (n a333 (n a589 z z) z) (n a461 z z))) (n a109 (n a173 (n a301 (n a557 z z) z) (n a429 z z)) (n a237 (n a365 z z) (n a493 z z)))) (n a61 (n a93 (n a157 (n a285 (n a541 z z) z) (n a413 z z)) (n a221 (n a349 (n a605 z z) z) (n a477 z z))) (n a125 (n a189 (n a317 (n a573 z z) z) (n a445 z z)) (n a253 (n a381 z z) (n a509 z z)))))))) (n (a2v1 P) (n a4 (n a8 (n a16 (n a32 (n a64 (n a128 (n a256 (n a512 z z) z) (n a384 z z)) (n a192 (n a320 (n a576 z z) z) (n a448 z z))) (n a96 (n a160 (n a288 (n a544 z z) z) (n a416 z z)) (n a224 (n a352 z z) (n a480 z z)))) (n a48 (n a80 (n a144 (n a272 (n a528 z z) z) (n a400 z z)) (n a208 (n a336 (n a592 z z) z) (n a464 z z))) (n a112 (n a176 (n a304 (n (a560 P) z z) z) (n (a432 P) z z)) (n a240 (n a368 z z) (n a496 z z))))) (n a24 (n a40 (n (a72 P) (n a136 (n a264 (n a520 z z) z) (n a392 z z)) (n a200 (n a328 (n a584 z z) z) (n a456 z z))) (n a104 (n a168 (n a296 (n a552 z z) z) (n a424 z z)) (n a232 (n a360 z z) (n a488 z z)))) (n a56 (n a88 (n a152 (n a280 (n a536 z z) z) (n a408 z z)) (n a216 (n a344 (n a600 z z) z) (n a472 z z))) (n a120 (n a184 (n a312 (n (a568 P) z z) z) (n (a440 P) z z)) (n a248 (n a376 z z) (n a504 z z)))))) (n a12 (n (a20 P) (n a36 (n a68 (n (a132 P) (n a260 (n a516 z z) z) (n a388 z z)) (n a196 (n a324 (n a580 z z) z) (n a452 z z))) (n a100 (n a164 (n a292 (n a548 z z) z) (n a420 z z)) (n a228 (n (a356 P) z z) (n a484 z z)))) (n a52 (n a84 (n a148 (n a276 (n a532 z z) z) (n a404 z z)) (n (a212 P) (n a340 (n a596 z z) z) (n a468 z z))) (n a116 (n a180 (n a308 (n a564 z z) z) (n a436 z z)) (n a244 (n a372 z z) (n a500 z z))))) (n a28 (n a44 (n a76 (n (a140 P) (n a268 (n a524 z z) z) (n a396 z z)) (n a204 (n a332 (n a588 z z) z) (n a460 z z))) (n a108 (n a172 (n a300 (n a556 z z) z) (n a428 z z)) (n a236 (n a364 z z) (n a492 z z)))) (n a60 (n a92 (n a156 (n a284 (n a540 z z) z) (n a412 z z)) (n (a220 P) (n a348 (n a604 z z) z) (n a476 z z))) (n a124 (n a188 (n a316 (n a572 z z) z) (n a444 z z)) (n a252 (n a380 z z) (n a508 z z))))))) (n a6 (n a10 (n a18 (n a34 (n a66 (n a130 (n a258 (n a514 z z) z) (n a386 z z)) (n a194 (n a322 (n a578 z z) z) (n a450 z z))) (n a98 (n a162 (n a290 (n a546 z z) z) (n a418 z z)) (n a226 (n a354 z z) (n (a482 P) z z)))) (n a50 (n a82 (n a146 (n a274 (n a530 z z) z) (n a402 z z)) (n a210 (n a338 (n a594 z z) z) (n a466 z z))) (n a114 (n a178 (n a306 (n a562 z z) z) (n a434 z z)) (n a242 (n a370 z z) (n a498 z z))))) (n a26 (n a42 (n a74 (n a138 (n a266 (n a522 z z) z) (n a394 z z)) (n a202 (n a330 (n a586 z z) z) (n a458 z z))) (n a106 (n a170 (n a298 (n a554 z z) z) (n a426 z z)) (n a234 (n a362 z z) (n a490 z z)))) (n a58 (n a90 (n a154 (n a282 (n a538 z z) z) (n a410 z z)) (n a218 (n a346 (n (a602 P) z z) z) (n (a474 P) z z))) (n a122 (n a186 (n a314 (n a570 z z) z) (n a442 z z)) (n a250 (n a378 z z) (n a506 z z)))))) (n a14 (n a22 (n a38 (n a70 (n a134 (n a262 (n a518 z z) z) (n (a390 P) z z)) (n a198 (n a326 (n a582 z z) z) (n a454 z z))) (n a102 (n a166 (n a294 (n a550 z z) z) (n a422 z z)) (n a230 (n a358 z z) (n a486 z z)))) (n a54 (n a86 (n a150 (n a278 (n a534 z z) z) (n a406 z z)) (n a214 (n a342 (n a598 z z) z) (n a470 z z))) (n a118 (n (a182 P) (n a310 (n a566 z z) z) (n a438 z z)) (n a246 (n a374 z z) (n a502 z z))))) (n a30 (n a46 (n (a78 P) (n a142 (n a270 (n a526 z z) z) (n (a398 P) z z)) (n a206 (n a334 (n a590 z z) z) (n a462 z z))) (n a110 (n (a174 P) (n a302 (n a558 z z) z) (n a430 z z)) (n a238 (n a366 z z) (n a494 z z)))) (n a62 (n a94 (n a158 (n a286 (n a542 z z) z) (n a414 z z)) (n a222 (n a350 (n a606 z z) z) (n a478 z z))) (n a126 (n a190 (n a318 (n a574 z z) z) (n a446 z z)) (n a254 (n a382 z z) (n a510 z z)))))))))
def a3v15 (P : Params) : Obj := grow (a3v14 P) #[E P "CombinedSelector" 1393 (R 645), E P "_el_re" 1461 (R 654)] 33
def a29v15 : Obj := ⟨N, none, (.fields #[(I 2 0), (I 0 0), (R 37), (I 5 0), (I 0 0), (R 44), (I 12 0), (I 0 0), (R 61), (I 14 0), (I 0 0), (R 68), (I 16 0), (I 0 0), (R 75), (I 18 0), (I 0 0), (R 88), (I 20 0), (I 0 0), (R 100), (I 54 0), (I 0 0), (R 143), (I 70 0), (I 0 0), (R 185), (I 86 0), (I 0 0), (R 223), (I 108 0), (I 0 0), (R 268), (I 124 0), (I 0 0), (R 310), (I 143 0), (I 0 0), (R 352), (I 147 0), (I 0 0), (R 359), (I 165 0), (I 0 0), (R 401), (I 189 0), (I 0 0), (R 443), (I 211 0), (I 0 0), (R 485), (I 246 0), (I 0 0), (R 528), (I 266 0), (I 0 0), (R 571), (I 282 0), (I 0 0), (R 613)]), #[]⟩
def a608 : Obj := ⟨(T "tuple"), none, (.seq #[] 0), #[]⟩
def a609 : Obj := ⟨(T "builtin_function_or_method"), none, (.fields #[(U "type.__prepare__"), (T "type")]), #[]⟩
def a610 (P : Params) : Obj := ⟨(T "dict"), none, (.dict #[E P "__module__" 1338 (V "cssselect.parser" 296), E P "__qualname__" 1340 (V "CombinedSelector" 1339), E P "__firstlineno__" 1342 (I 282 1341), E P "__init__" 1352 (R 621), E P "__repr__" 1360 (R 628), E P "canonical" 1369 (R 635), E P "specificity" 1382 (R 642), E P "__static_attributes__" 1386 (R 643)] 8), #[]⟩
def a611 : Obj := ⟨(T "tuple"), none, (.seq #[] 0), #[]⟩
def a612 : Obj := ⟨N, none, (.fields #[(I 284 0), (I 4 0), (R 620), (I 290 0), (I 4 0), (R 627), (I 294 0), (I 4 0), (R 634), (I 301 0), (I 4 0), (R 641)]), #[]⟩
def a613 : Obj := ⟨(T "code"), none, (.fields #[(V "CombinedSelector" 1333), (V "CombinedSelector" 1334), (V "/claim/cut.py" 1335), (I 282 0), (I 0 0), (I 0 0), (I 0 0), (I 0 0), (R 611), (B false), (I 276 0), (R 612), N, N, N, N, (I 1336 0), (I 282 0), (V "/claim/cut.py" 1337)]), #[]⟩
def a614 : Obj := ⟨(T "frame"), none, .plain, #[(some (R 613)), (some (R 3)), (some (R 610)), none, (some (V "cssselect.parser" 296)), none, (some (R 0))]⟩
def a615 : Obj := ⟨(T "tuple"), none, (.seq #[] 0), #[]⟩
def a616 : Obj := ⟨N, none, (.fields #[]), #[]⟩
def a617 : Obj := ⟨(T "tuple"), none, (.seq #[(V "self" 1346), (V "selector" 1347), (V "combinator" 1348), (V "subselector" 1349)] 0), #[]⟩
def a618 : Obj := ⟨(T "tuple"), none, (.seq #[] 0), #[]⟩
def a619 : Obj := ⟨N, none, (.func (fd (kd (st 23) 0) (Str.ofString "CombinedSelector.__init__") 0 [] N N N N none N N 0)), #[]⟩
def a620 : Obj := ⟨(T "code"), none, (.fields #[(V "__init__" 1343), (V "CombinedSelector.__init__" 1344), (V "/claim/cut.py" 1345), (I 284 0), (I 4 0), (I 0 0), (I 0 0), (I 3 0), (R 615), (B true), (I 276 0), (R 616), N, (R 617), (R 618), (R 619), (I 1350 0), (I 284 0), (V "/claim/cut.py" 1351)]), #[]⟩
def a621 : Obj := ⟨(T "function"), none, (.func (fd (kd (st 23) 0) (Str.ofString "CombinedSelector.__init__") 3 [] N N N (V "cssselect.parser" 296) none (R 620) N 0)), #[]⟩
def a622 : Obj := ⟨(T "tuple"), none, (.seq #[] 0), #[]⟩
def a623 : Obj := ⟨N, none, (.fields #[]), #[]⟩
def a624 : Obj := ⟨(T "tuple"), none, (.seq #[(V "self" 1356), (V "comb" 1357)] 0), #[]⟩
def a625 : Obj := ⟨(T "tuple"), none, (.seq #[] 0), #[]⟩
def a626 : Obj := ⟨N, none, (.func (fd (kd (st 23) 1) (Str.ofString "CombinedSelector.__repr__") 0 [] N N N N none N N 0)), #[]⟩
def a627 : Obj := ⟨(T "code"), none, (.fields #[(V "__repr__" 1353), (V "CombinedSelector.__repr__" 1354), (V "/claim/cut.py" 1355), (I 290 0), (I 1 0), (I 0 0), (I 0 0), (I 3 0), (R 622), (B true), (I 276 0), (R 623), N, (R 624), (R 625), (R 626), (I 1358 0), (I 290 0), (V "/claim/cut.py" 1359)]), #[]⟩
def a628 : Obj := ⟨(T "function"), none, (.func (fd (kd (st 23) 1) (Str.ofString "CombinedSelector.__repr__") 3 [] N N N (V "cssselect.parser" 296) none (R 627) N 0)), #[]⟩
def a629 : Obj := ⟨(T "tuple"), none, (.seq #[] 0), #[]⟩
def a630 : Obj := ⟨N, none, (.fields #[]), #[]⟩
def a631 : Obj := ⟨(T "tuple"), none, (.seq #[(V "self" 1364), (V "subsel" 1365), (V "combinator" 1366)] 0), #[]⟩
def a632 : Obj := ⟨(T "tuple"), none, (.seq #[] 0), #[]⟩
def a633 : Obj := ⟨N, none, (.func (fd (kd (st 23) 2) (Str.ofString "CombinedSelector.canonical") 0 [] N N N N none N N 0)), #[]⟩
def a634 : Obj := ⟨(T "code"), none, (.fields #[(V "canonical" 1361), (V "CombinedSelector.canonical" 1362), (V "/claim/cut.py" 1363), (I 294 0), (I 1 0), (I 0 0), (I 0 0), (I 3 0), (R 629), (B true), (I 276 0), (R 630), N, (R 631), (R 632), (R 633), (I 1367 0), (I 294 0), (V "/claim/cut.py" 1368)]), #[]⟩
def a635 : Obj := ⟨(T "function"), none, (.func (fd (kd (st 23) 2) (Str.ofString "CombinedSelector.canonical") 3 [] N N N (V "cssselect.parser" 296) none (R 634) N 0)), #[]⟩
def a636 : Obj := ⟨(T "tuple"), none, (.seq #[] 0), #[]⟩
def a637 : Obj := ⟨N, none, (.fields #[]), #[]⟩
def a638 : Obj := ⟨(T "tuple"), none, (.seq #[(V "self" 1373), (V "a1" 1374), (V "b1" 1375), (V "c1" 1376), (V "a2" 1377), (V "b2" 1378), (V "c2" 1379)] 0), #[]⟩
def a639 : Obj := ⟨(T "tuple"), none, (.seq #[] 0), #[]⟩
def a640 : Obj := ⟨N, none, (.func (fd (kd (st 23) 3) (Str.ofString "CombinedSelector.specificity") 0 [] N N N N none N N 0)), #[]⟩
def a641 : Obj := ⟨(T "code"), none, (.fields #[(V "specificity" 1370), (V "CombinedSelector.specificity" 1371), (V "/claim/cut.py" 1372), (I 301 0), (I 1 0), (I 0 0), (I 0 0), (I 3 0), (R 636), (B true), (I 276 0), (R 637), N, (R 638), (R 639), (R 640), (I 1380 0), (I 301 0), (V "/claim/cut.py" 1381)]), #[]⟩
def a642 : Obj := ⟨(T "function"), none, (.func (fd (kd (st 23) 3) (Str.ofString "CombinedSelector.specificity") 3 [] N N N (V "cssselect.parser" 296) none (R 641) N 0)), #[]⟩
def a643 : Obj := ⟨(T "tuple"), none, (.seq #[(V "combinator" 1383), (V "selector" 1384), (V "subselector" 1385)] 0), #[]⟩
def a644 (P : Params) : Obj := ⟨(T "dict"), none, (.dict #[E P "__module__" 1338 (V "cssselect.parser" 296), E P "__firstlineno__" 1342 (I 282 1341), E P "__init__" 1352 (R 621), E P "__repr__" 1360 (R 628), E P "canonical" 1369 (R 635), E P "specificity" 1382 (R 642), E P "__static_attributes__" 1386 (R 643), E P "__dict__" 1388 (R 646), E P "__weakref__" 1390 (R 647), E P "__doc__" 1391 N] 4), #[]⟩
def a645 : Obj := ⟨(T "type"), none, (.cls ⟨(Str.ofString "CombinedSelector"), [(T "object")], [(R 645), (T "object")], 644, (Str.ofString "CombinedSelector"), true, [], [], false, none, false⟩), #[none, none, (some (V "CombinedSelector" 1331)), (some (V "CombinedSelector" 1339)), (some (U "object.__new__")), (some (B true))]⟩
def a646 : Obj := ⟨(T "getset_descriptor"), none, (.fields #[(V "__dict__" 1387), (R 645), (U "function.__dict__"), (U "function.__dict__#set")]), #[]⟩
def a647 : Obj := ⟨(T "getset_descriptor"), none, (.fields #[(V "__weakref__" 1389), (R 645), (U "ExceptionGroup.__weakref__"), N]), #[]⟩
def a648 : Obj := ⟨(T "super"), none, (.fields #[(R 645), (R 645), (R 645)]), #[]⟩
def a649 : Obj := ⟨(T "builtin_function_or_method"), none, (.fields #[(U "object.__init_subclass__"), (R 645)]), #[]⟩
def a650 : Obj := ⟨(T "list"), none, (.seq #[(I 14 1397), (I 4 1398), (I 0 1399), (I 1 1400), (I 4294967295 1401), (I 6 1402), (I 0 1403), (I 24 1404), (I 16 1405), (I 0 1406), (I 4294967295 1407), (I 13 1408), (I 11 1409), (I 9 1410), (I 13824 1411), (I 1 1412), (I 0 1413), (I 0 1414), (I 0 1415), (I 0 1416), (I 0 1417), (I 0 1418), (I 0 1419), (I 1 1420), (I 17 1421), (I 0 1422), (I 24 1423), (I 13 1424), (I 1 1425), (I 4294967295 1426), (I 13 1427), (I 8 1428), (I 22 1429), (I 97 1430), (I 122 1431), (I 22 1432), (I 65 1433), (I 90 1434), (I 0 1435), (I 1 1436), (I 17 1437), (I 1 1438), (I 24 1439), (I 16 1440), (I 0 1441), (I 4294967295 1442), (I 13 1443), (I 11 1444), (I 9 1445), (I 13824 1446), (I 1 1447), (I 0 1448), (I 0 1449), (I 0 1450), (I 0 1451), (I 0 1452), (I 0 1453), (I 0 1454), (I 1 1455), (I 6 1456), (I 5 1457), (I 1 1458)] 0), #[]⟩
def a651 : Obj := ⟨(T "dict"), none, (.dict #[] 0), #[]⟩
def a652 : Obj := ⟨(T "tuple"), none, (.seq #[N, N] 0), #[]⟩
def a653 : Obj := ⟨(T "tuple"), none, (.seq #[(I 14 0), (I 4 0), (I 0 0), (I 1 0), (I 4294967295 0), (I 6 0), (I 0 0), (I 24 0), (I 16 0), (I 0 0), (I 4294967295 0), (I 13 0), (I 11 0), (I 9 0), (I 13824 0), (I 1 0), (I 0 0), (I 0 0), (I 0 0), (I 0 0), (I 0 0), (I 0 0), (I 0 0), (I 1 0), (I 17 0), (I 0 0), (I 24 0), (I 13 0), (I 1 0), (I 4294967295 0), (I 13 0), (I 8 0), (I 22 0), (I 97 0), (I 122 0), (I 22 0), (I 65 0), (I 90 0), (I 0 0), (I 1 0), (I 17 0), (I 1 0), (I 24 0), (I 16 0), (I 0 0), (I 4294967295 0), (I 13 0), (I 11 0), (I 9 0), (I 13824 0), (I 1 0), (I 0 0), (I 0 0), (I 0 0), (I 0 0), (I 0 0), (I 0 0), (I 0 0), (I 1 0), (I 6 0), (I 5 0), (I 1 0)] 0), #[]⟩
def a654 : Obj := ⟨(T "re.Pattern"), none, (.fields #[(V "^[ \\t\\r\\n\\f]*([a-zA-Z]+)[ \\t\\r\\n\\f]*$" 1395), (I 32 1460), (I 1 0), N, N, (R 653), (I 0 0)]), #[]⟩
def T24 (P : Params) : BT := (n (a0 P) (n (a1 P) (n (a3v15 P) (n a7 (n a15 (n a31 (n a63 (n a127 (n a255 (n a511 z z) z) (n a383 (n a639 z z) z)) (n a191 (n a319 (n a575 z z) z) (n a447 z z))) (n a95 (n a159 (n a287 (n a543 z z) z) (n a415 z z)) (n a223 (n a351 (n a607 z z) z) (n a479 z z)))) (n a47 (n a79 (n a143 (n a271 (n a527 z z) z) (n a399 z z)) (n a207 (n a335 (n a591 z z) z) (n a463 z z))) (n a111 (n a175 (n a303 (n a559 z z) z) (n a431 z z)) (n a239 (n a367 (n a623 z z) z) (n a495 z z))))) (n a23 (n a39 (n a71 (n a135 (n a263 (n a519 z z) z) (n a391 (n a647 z z) z)) (n a199 (n a327 (n a583 z z) z) (n a455 z z))) (n a103 (n a167 (n a295 (n a551 z z) z) (n a423 z z)) (n a231 (n a359 (n a615 z z) z) (n a487 z z)))) (n a55 (n a87 (n a151 (n a279 (n a535 z z) z) (n a407 z z)) (n a215 (n a343 (n a599 z z) z) (n a471 z z))) (n a119 (n a183 (n a311 (n a567 z z) z) (n a439 z z)) (n a247 (n a375 (n a631 z z) z) (n a503 z z)))))) (n (a11 P) (n a19 (n a35 (n a67 (n a131 (n a259 (n a515 z z) z) (n a387 (n a643 z z) z)) (n a195 (n a323 (n a579 z z) z) (n a451 z z))) (n a99 (n a163 (n a291 (n a547 z z) z) (n a419 z z)) (n a227 (n a355 (n a611 z z) z) (n a483 z z)))) (n a51 (n a83 (n a147 (n a275 (n a531 z z) z) (n a403 z z)) (n a211 (n a339 (n a595 z z) z) (n a467 z z))) (n a115 (n a179 (n (a307 P) (n a563 z z) z) (n a435 z z)) (n a243 (n a371 (n a627 z z) z) (n a499 z z))))) (n a27 (n a43 (n a75 (n a139 (n a267 (n a523 z z) z) (n a395 (n a651 z z) z)) (n a203 (n a331 (n a587 z z) z) (n a459 z z))) (n a107 (n a171 (n (a299 P) (n a555 z z) z) (n a427 z z)) (n a235 (n a363 (n a619 z z) z) (n a491 z z)))) (n a59 (n (a91 P) (n a155 (n a283 (n a539 z z) z) (n a411 z z)) (n a219 (n a347 (n a603 z z) z) (n a475 z z))) (n a123 (n a187 (n a315 (n a571 z z) z) (n a443 z z)) (n a251 (n a379 (n a635 z z) z) (n a507 z z))))))) (n a5 (n a9 (n a17 (n a33 (n a65 (n a129 (n (a257 P) (n a513 z z) z) (n a385 (n a641 z z) z)) (n a193 (n a321 (n a577 z z) z) (n a449 z z))) (n (a97 P) (n a161 (n a289 (n a545 z z) z) (n a417 z z)) (n a225 (n a353 (n a609 z z) z) (n a481 z z)))) (n a49 (n a81 (n a145 (n a273 (n a529 z z) z) (n a401 z z)) (n a209 (n a337 (n a593 z z) z) (n a465 z z))) (n a113 (n a177 (n a305 (n a561 z z) z) (n a433 z z)) (n a241 (n a369 (n a625 z z) z) (n a497 z z))))) (n a25 (n a41 (n a73 (n a137 (n (a265 P) (n a521 z z) z) (n a393 (n a649 z z) z)) (n a201 (n a329 (n a585 z z) z) (n a457 z z))) (n a105 (n a169 (n a297 (n a553 z z) z) (n a425 z z)) (n a233 (n a361 (n a617 z z) z) (n a489 z z)))) (n a57 (n a89 (n a153 (n a281 (n a537 z z) z) (n a409 z z)) (n a217 (n a345 (n a601 z z) z) (n a473 z z))) (n a121 (n a185 (n a313 (n a569 z z) z) (n a441 z z)) (n a249 (n a377 (n a633 z z) z) (n a505 z z)))))) (n (a13 P) (n (a21 P) (n a37 (n a69 (n a133 (n a261 (n (a517 P) z z) z) (n a389 (n a645 z z) z)) (n a197 (n a325 (n a581 z z) z) (n a453 z z))) (n a101 (n a165 (n a293 (n a549 z z) z) (n a421 z z)) (n a229 (n a357 (n a613 z z) z) (n a485 z z)))) (n a53 (n (a85 P) (n a149 (n a277 (n a533 z z) z) (n a405 z z)) (n a213 (n (a341 P) (n a597 z z) z) (n a469 z z))) (n a117 (n a181 (n a309 (n a565 z z) z) (n a437 z z)) (n a245 (n a373 (n a629 z z) z) (n a501 z z))))) (n a29v15 (n a45 (n a77 (n a141 (n a269 (n (a525 P) z z) z) (n a397 (n a653 z z) z)) (n a205 (n a333 (n a589 z z) z) (n a461 z z))) (n a109 (n a173 (n a301 (n a557 z z) z) (n a429 z z)) (n a237 (n a365 (n a621 z z) z) (n a493 z z)))) (n a61 (n a93 (n a157 (n a285 (n a541 z z) z) (n a413 z z)) (n a221 (n a349 (n a605 z z) z) (n a477 z z))) (n a125 (n a189 (n a317 (n a573 z z) z) (n a445 z z)) (n a253 (n a381 (n a637 z z) z) (n a509 z z)))))))) (n (a2v1 P) (n a4 (n a8 (n a16 (n a32 (n a64 (n a128 (n a256 (n a512 z z) z) (n a384 (n a640 z z) z)) (n a192 (n a320 (n a576 z z) z) (n a448 z z))) (n a96 (n a160 (n a288 (n a544 z z) z) (n a416 z z)) (n a224 (n a352 (n a608 z z) z) (n a480 z z)))) (n a48 (n a80 (n a144 (n a272 (n a528 z z) z) (n a400 z z)) (n a208 (n a336 (n a592 z z) z) (n a464 z z))) (n a112 (n a176 (n a304 (n (a560 P) z z) z) (n (a432 P) z z)) (n a240 (n a368 (n a624 z z) z) (n a496 z z))))) (n a24 (n a40 (n (a72 P) (n a136 (n a264 (n a520 z z) z) (n a392 (n a648 z z) z)) (n a200 (n a328 (n a584 z z) z) (n a456 z z))) (n a104 (n a168 (n a296 (n a552 z z) z) (n a424 z z)) (n a232 (n a360 (n a616 z z) z) (n a488 z z)))) (n a56 (n a88 (n a152 (n a280 (n a536 z z) z) (n a408 z z)) (n a216 (n a344 (n a600 z z) z) (n a472 z z))) (n a120 (n a184 (n a312 (n (a568 P) z z) z) (n (a440 P) z z)) (n a248 (n a376 (n a632 z z) z) (n a504 z z)))))) (n a12 (n (a20 P) (n a36 (n a68 (n (a132 P) (n a260 (n a516 z z) z) (n a388 (n (a644 P) z z) z)) (n a196 (n a324 (n a580 z z) z) (n a452 z z))) (n a100 (n a164 (n a292 (n a548 z z) z) (n a420 z z)) (n a228 (n (a356 P) (n a612 z z) z) (n a484 z z)))) (n a52 (n a84 (n a148 (n a276 (n a532 z z) z) (n a404 z z)) (n (a212 P) (n a340 (n a596 z z) z) (n a468 z z))) (n a116 (n a180 (n a308 (n a564 z z) z) (n a436 z z)) (n a244 (n a372 (n a628 z z) z) (n a500 z z))))) (n a28 (n a44 (n a76 (n (a140 P) (n a268 (n a524 z z) z) (n a396 (n a652 z z) z)) (n a204 (n a332 (n a588 z z) z) (n a460 z z))) (n a108 (n a172 (n a300 (n a556 z z) z) (n a428 z z)) (n a236 (n a364 (n a620 z z) z) (n a492 z z)))) (n a60 (n a92 (n a156 (n a284 (n a540 z z) z) (n a412 z z)) (n (a220 P) (n a348 (n a604 z z) z) (n a476 z z))) (n a124 (n a188 (n a316 (n a572 z z) z) (n a444 z z)) (n a252 (n a380 (n a636 z z) z) (n a508 z z))))))) (n a6 (n a10 (n a18 (n a34 (n a66 (n a130 (n a258 (n a514 z z) z) (n a386 (n a642 z z) z)) (n a194 (n a322 (n a578 z z) z) (n a450 z z))) (n a98 (n a162 (n a290 (n a546 z z) z) (n a418 z z)) (n a226 (n a354 (n (a610 P) z z) z) (n (a482 P) z z)))) (n a50 (n a82 (n a146 (n a274 (n a530 z z) z) (n a402 z z)) (n a210 (n a338 (n a594 z z) z) (n a466 z z))) (n a114 (n a178 (n a306 (n a562 z z) z) (n a434 z z)) (n a242 (n a370 (n a626 z z) z) (n a498 z z))))) (n a26 (n a42 (n a74 (n a138 (n a266 (n a522 z z) z) (n a394 (n a650 z z) z)) (n a202 (n a330 (n a586 z z) z) (n a458 z z))) (n a106 (n a170 (n a298 (n a554 z z) z) (n a426 z z)) (n a234 (n a362 (n a618 z z) z) (n a490 z z)))) (n a58 (n a90 (n a154 (n a282 (n a538 z z) z) (n a410 z z)) (n a218 (n a346 (n (a602 P) z z) z) (n (a474 P) z z))) (n a122 (n a186 (n a314 (n a570 z z) z) (n a442 z z)) (n a250 (n a378 (n a634 z z) z) (n a506 z z)))))) (n a14 (n a22 (n a38 (n a70 (n a134 (n a262 (n a518 z z) z) (n (a390 P) (n a646 z z) z)) (n a198 (n a326 (n a582 z z) z) (n a454 z z))) (n a102 (n a166 (n a294 (n a550 z z) z) (n a422 z z)) (n a230 (n a358 (n a614 z z) z) (n a486 z z)))) (n a54 (n a86 (n a150 (n a278 (n a534 z z) z) (n a406 z z)) (n a214 (n a342 (n a598 z z) z) (n a470 z z))) (n a118 (n (a182 P) (n a310 (n a566 z z) z) (n a438 z z)) (n a246 (n a374 (n a630 z z) z) (n a502 z z))))) (n a30 (n a46 (n (a78 P) (n a142 (n a270 (n a526 z z) z) (n (a398 P) (n a654 z z) z)) (n a206 (n a334 (n a590 z z) z) (n a462 z z))) (n a110 (n (a174 P) (n a302 (n a558 z z) z) (n a430 z z)) (n a238 (n a366 (n a622 z z) z) (n a494 z z)))) (n a62 (n a94 (n a158 (n a286 (n a542 z z) z) (n a414 z z)) (n a222 (n a350 (n a606 z z) z) (n a478 z z))) (n a126 (n a190 (n a318 (n a574 z z) z) (n a446 z z)) (n a254 (n a382 (n a638 z z) z) (n a510 z z)))))))))
def a3v16 (P : Params) : Obj := grow (a3v15 P) #[E P "_id_re" 1552 (R 659), E P "_class_re" 1652 (R 664), E P "parse" 1661 (R 671), E P "parse_selector_group" 1668 (R 678), E P "parse_selector" 1680 (R 685), E P "parse_simple_selector" 1702 (R 693), E P "parse_arguments" 1711 (R 700), E P "parse_relative_selector" 1725 (R 707)] 41
def a29v16 : Obj := ⟨N, none, (.fields #[(I 2 0), (I 0 0), (R 37), (I 5 0), (I 0 0), (R 44), (I 12 0), (I 0 0), (R 61), (I 14 0), (I 0 0), (R 68), (I 16 0), (I 0 0), (R 75), (I 18 0), (I 0 0), (R 88), (I 20 0), (I 0 0), (R 100), (I 54 0), (I 0 0), (R 143), (I 70 0), (I 0 0), (R 185), (I 86 0), (I 0 0), (R 223), (I 108 0), (I 0 0), (R 268), (I 124 0), (I 0 0), (R 310), (I 143 0), (I 0 0), (R 352), (I 147 0), (I 0 0), (R 359), (I 165 0), (I 0 0), (R 401), (I 189 0), (I 0 0), (R 443), (I 211 0), (I 0 0), (R 485), (I 246 0), (I 0 0), (R 528), (I 266 0), (I 0 0), (R 571), (I 282 0), (I 0 0), (R 613), (I 308 0), (I 0 0), (R 670), (I 321 0), (I 0 0), (R 677), (I 330 0), (I 0 0), (R 684), (I 347 0), (I 0 0), (R 692), (I 449 0), (I 0 0), (R 699), (I 460 0), (I 0 0), (R 706)]), #[]⟩
def a655 : Obj := ⟨(T "list"), none, (.seq #[(I 14 1465), (I 4 1466), (I 0 1467), (I 2 1468), (I 4294967295 1469), (I 6 1470), (I 0 1471), (I 24 1472), (I 16 1473), (I 0 1474), (I 4294967295 1475), (I 13 1476), (I 11 1477), (I 9 1478), (I 13824 1479), (I 1 1480), (I 0 1481), (I 0 1482), (I 0 1483), (I 0 1484), (I 0 1485), (I 0 1486), (I 0 1487), (I 1 1488), (I 17 1489), (I 0 1490), (I 24 1491), (I 13 1492), (I 0 1493), (I 4294967295 1494), (I 13 1495), (I 8 1496), (I 22 1497), (I 97 1498), (I 122 1499), (I 22 1500), (I 65 1501), (I 90 1502), (I 0 1503), (I 1 1504), (I 17 1505), (I 1 1506), (I 16 1507), (I 35 1508), (I 17 1509), (I 2 1510), (I 24 1511), (I 16 1512), (I 1 1513), (I 4294967295 1514), (I 13 1515), (I 11 1516), (I 9 1517), (I 0 1518), (I 67051520 1519), (I 2281701374 1520), (I 134217726 1521), (I 0 1522), (I 0 1523), (I 0 1524), (I 0 1525), (I 0 1526), (I 1 1527), (I 17 1528), (I 3 1529), (I 24 1530), (I 16 1531), (I 0 1532), (I 4294967295 1533), (I 13 1534), (I 11 1535), (I 9 1536), (I 13824 1537), (I 1 1538), (I 0 1539), (I 0 1540), (I 0 1541), (I 0 1542), (I 0 1543), (I 0 1544), (I 0 1545), (I 1 1546), (I 6 1547), (I 5 1548), (I 1 1549)] 0), #[]⟩
def a656 : Obj := ⟨(T "dict"), none, (.dict #[] 0), #[]⟩
def a657 : Obj := ⟨(T "tuple"), none, (.seq #[N, N, N] 0), #[]⟩
def a658 : Obj := ⟨(T "tuple"), none, (.seq #[(I 14 0), (I 4 0), (I 0 0), (I 2 0), (I 4294967295 0), (I 6 0), (I 0 0), (I 24 0), (I 16 0), (I 0 0), (I 4294967295 0), (I 13 0), (I 11 0), (I 9 0), (I 13824 0), (I 1 0), (I 0 0), (I 0 0), (I 0 0), (I 0 0), (I 0 0), (I 0 0), (I 0 0), (I 1 0), (I 17 0), (I 0 0), (I 24 0), (I 13 0), (I 0 0), (I 4294967295 0), (I 13 0), (I 8 0), (I 22 0), (I 97 0), (I 122 0), (I 22 0), (I 65 0), (I 90 0), (I 0 0), (I 1 0), (I 17 0), (I 1 0), (I 16 0), (I 35 0), (I 17 0), (I 2 0), (I 24 0), (I 16 0), (I 1 0), (I 4294967295 0), (I 13 0), (I 11 0), (I 9 0), (I 0 0), (I 67051520 0), (I 2281701374 0), (I 134217726 0), (I 0 0), (I 0 0), (I 0 0), (I 0 0), (I 0 0), (I 1 0), (I 17 0), (I 3 0), (I 24 0), (I 16 0), (I 0 0), (I 4294967295 0), (I 13 0), (I 11 0), (I 9 0), (I 13824 0), (I 1 0), (I 0 0), (I 0 0), (I 0 0), (I 0 0), (I 0 0), (I 0 0), (I 0 0), (I 1 0), (I 6 0), (I 5 0), (I 1 0)] 0), #[]⟩
def a659 : Obj := ⟨(T "re.Pattern"), none, (.fields #[(V "^[ \\t\\r\\n\\f]*([a-zA-Z]*)#([a-zA-Z0-9_-]+)[ \\t\\r\\n\\f]*$" 1463), (I 32 1551), (I 2 0), N, N, (R 658), (I 0 0)]), #[]⟩
def a660 : Obj := ⟨(T "list"), none, (.seq #[(I 14 1556), (I 4 1557), (I 0 1558), (I 2 1559), (I 4294967295 1560), (I 6 1561), (I 0 1562), (I 24 1563), (I 16 1564), (I 0 1565), (I 4294967295 1566), (I 13 1567), (I 11 1568), (I 9 1569), (I 13824 1570), (I 1 1571), (I 0 1572), (I 0 1573), (I 0 1574), (I 0 1575), (I 0 1576), (I 0 1577), (I 0 1578), (I 1 1579), (I 17 1580), (I 0 1581), (I 24 1582), (I 13 1583), (I 0 1584), (I 4294967295 1585), (I 13 1586), (I 8 1587), (I 22 1588), (I 97 1589), (I 122 1590), (I 22 1591), (I 65 1592), (I 90 1593), (I 0 1594), (I 1 1595), (I 17 1596), (I 1 1597), (I 16 1598), (I 46 1599), (I 17 1600), (I 2 1601), (I 13 1602), (I 8 1603), (I 22 1604), (I 97 1605), (I 122 1606), (I 22 1607), (I 65 1608), (I 90 1609), (I 0 1610), (I 24 1611), (I 16 1612), (I 0 1613), (I 4294967295 1614), (I 13 1615), (I 11 1616), (I 9 1617), (I 0 1618), (I 67051520 1619), (I 2281701374 1620), (I 134217726 1621), (I 0 1622), (I 0 1623), (I 0 1624), (I 0 1625), (I 0 1626), (I 1 1627), (I 17 1628), (I 3 1629), (I 24 1630), (I 16 1631), (I 0 1632), (I 4294967295 1633), (I 13 1634), (I 11 1635), (I 9 1636), (I 13824 1637), (I 1 1638), (I 0 1639), (I 0 1640), (I 0 1641), (I 0 1642), (I 0 1643), (I 0 1644), (I 0 1645), (I 1 1646), (I 6 1647), (I 5 1648), (I 1 1649)] 0), #[]⟩
def a661 : Obj := ⟨(T "dict"), none, (.dict #[] 0), #[]⟩
def a662 : Obj := ⟨(T "tuple"), none, (.seq #[N, N, N] 0), #[]⟩
def a663 : Obj := ⟨(T "tuple"), none, (.seq #[(I 14 0), (I 4 0), (I 0 0), (I 2 0), (I 4294967295 0), (I 6 0), (I 0 0), (I 24 0), (I 16 0), (I 0 0), (I 4294967295 0), (I 13 0), (I 11 0), (I 9 0), (I 13824 0), (I 1 0), (I 0 0), (I 0 0), (I 0 0), (I 0 0), (I 0 0), (I 0 0), (I 0 0), (I 1 0), (I 17 0), (I 0 0), (I 24 0), (I 13 0), (I 0 0), (I 4294967295 0), (I 13 0), (I 8 0), (I 22 0), (I 97 0), (I 122 0), (I 22 0), (I 65 0), (I 90 0), (I 0 0), (I 1 0), (I 17 0), (I 1 0), (I 16 0), (I 46 0), (I 17 0), (I 2 0), (I 13 0), (I 8 0), (I 22 0), (I 97 0), (I 122 0), (I 22 0), (I 65 0), (I 90 0), (I 0 0), (I 24 0), (I 16 0), (I 0 0), (I 4294967295 0), (I 13 0), (I 11 0), (I 9 0), (I 0 0), (I 67051520 0), (I 2281701374 0), (I 134217726 0), (I 0 0), (I 0 0), (I 0 0), (I 0 0), (I 0 0), (I 1 0), (I 17 0), (I 3 0), (I 24 0), (I 16 0), (I 0 0), (I 4294967295 0), (I 13 0), (I 11 0), (I 9 0), (I 13824 0), (I 1 0), (I 0 0), (I 0 0), (I 0 0), (I 0 0), (I 0 0), (I 0 0), (I 0 0), (I 1 0), (I 6 0), (I 5 0), (I 1 0)] 0), #[]⟩
def a664 : Obj := ⟨(T "re.Pattern"), none, (.fields #[(V "^[ \\t\\r\\n\\f]*([a-zA-Z]*)\\.([a-zA-Z][a-zA-Z0-9_-]*)[ \\t\\r\\n\\f]*$" 1554), (I 32 1651), (I 2 0), N, N, (R 663), (I 0 0)]), #[]⟩
def a665 : Obj := ⟨(T "tuple"), none, (.seq #[] 0), #[]⟩
def a666 : Obj := ⟨N, none, (.fields #[]), #[]⟩
def a667 : Obj := ⟨(T "tuple"), none, (.seq #[(V "css" 1656), (V "match" 1657), (V "stream" 1658)] 0), #[]⟩
def a668 : Obj := ⟨(T "tuple"), none, (.seq #[] 0), #[]⟩
def a669 : Obj := ⟨N, none, (.func (fd (st 27) (Str.ofString "parse") 0 [] N N N N none N N 0)), #[]⟩
def a670 : Obj := ⟨(T "code"), none, (.fields #[(V "parse" 1653), (V "parse" 1654), (V "/claim/cut.py" 1655), (I 308 0), (I 1 0), (I 0 0), (I 0 0), (I 3 0), (R 665), (B true), (I 276 0), (R 666), N, (R 667), (R 668), (R 669), (I 1659 0), (I 308 0), (V "/claim/cut.py" 1660)]), #[]⟩
def a671 : Obj := ⟨(T "function"), none, (.func (fd (st 27) (Str.ofString "parse") 3 [] N N N (V "cssselect.parser" 296) none (R 670) N 0)), #[]⟩
def a672 : Obj := ⟨(T "tuple"), none, (.seq #[] 0), #[]⟩
def a673 : Obj := ⟨N, none, (.fields #[]), #[]⟩
def a674 : Obj := ⟨(T "tuple"), none, (.seq #[(V "stream" 1665)] 0), #[]⟩
def a675 : Obj := ⟨(T "tuple"), none, (.seq #[] 0), #[]⟩
def a676 : Obj := ⟨N, none, (.func (fd (st 28) (Str.ofString "parse_selector_group") 0 [] N N N N none N N 0)), #[]⟩
def a677 : Obj := ⟨(T "code"), none, (.fields #[(V "parse_selector_group" 1662), (V "parse_selector_group" 1663), (V "/claim/cut.py" 1664), (I 321 0), (I 1 0), (I 0 0), (I 0 0), (I 35 0), (R 672), (B true), (I 276 0), (R 673), N, (R 674), (R 675), (R 676), (I 1666 0), (I 321 0), (V "/claim/cut.py" 1667)]), #[]⟩
def a678 : Obj := ⟨(T "function"), none, (.func (fd (st 28) (Str.ofString "parse_selector_group") 3 [] N N N (V "cssselect.parser" 296) none (R 677) N 0)), #[]⟩
def a679 : Obj := ⟨(T "tuple"), none, (.seq #[] 0), #[]⟩
def a680 : Obj := ⟨N, none, (.fields #[]), #[]⟩
def a681 : Obj := ⟨(T "tuple"), none, (.seq #[(V "stream" 1672), (V "result" 1673), (V "pseudo_element" 1674), (V "peek" 1675), (V "combinator" 1676), (V "next_selector" 1677)] 0), #[]⟩
def a682 : Obj := ⟨(T "tuple"), none, (.seq #[] 0), #[]⟩
def a683 : Obj := ⟨N, none, (.func (fd (st 29) (Str.ofString "parse_selector") 0 [] N N N N none N N 0)), #[]⟩
def a684 : Obj := ⟨(T "code"), none, (.fields #[(V "parse_selector" 1669), (V "parse_selector" 1670), (V "/claim/cut.py" 1671), (I 330 0), (I 1 0), (I 0 0), (I 0 0), (I 3 0), (R 679), (B true), (I 276 0), (R 680), N, (R 681), (R 682), (R 683), (I 1678 0), (I 330 0), (V "/claim/cut.py" 1679)]), #[]⟩
def a685 : Obj := ⟨(T "function"), none, (.func (fd (st 29) (Str.ofString "parse_selector") 3 [] N N N (V "cssselect.parser" 296) none (R 684) N 0)), #[]⟩
def a686 : Obj := ⟨(T "tuple"), none, (.seq #[(B false), (B false)] 0), #[]⟩
def a687 : Obj := ⟨(T "tuple"), none, (.seq #[] 0), #[]⟩
def a688 : Obj := ⟨N, none, (.fields #[]), #[]⟩
def a689 : Obj := ⟨(T "tuple"), none, (.seq #[(V "stream" 1684), (V "inside_negation" 1685), (V "inside_selector_list" 1686), (V "selector_start" 1687), (V "peek" 1688), (V "namespace" 1689), (V "element" 1690), (V "result" 1691), (V "pseudo_element" 1692), (V "ident" 1693), (V "preceding" 1694), (V "argument" 1695), (V "argument_pseudo_element" 1696), (V "argument_combinator" 1697), (V "next_selector" 1698), (V "selectors" 1699)] 0), #[]⟩
def a690 : Obj := ⟨(T "tuple"), none, (.seq #[] 0), #[]⟩
def a691 : Obj := ⟨N, none, (.func (fd (st 30) (Str.ofString "parse_simple_selector") 0 [] N N N N none N N 0)), #[]⟩
def a692 : Obj := ⟨(T "code"), none, (.fields #[(V "parse_simple_selector" 1681), (V "parse_simple_selector" 1682), (V "/claim/cut.py" 1683), (I 347 0), (I 3 0), (I 0 0), (I 0 0), (I 3 0), (R 687), (B true), (I 276 0), (R 688), N, (R 689), (R 690), (R 691), (I 1700 0), (I 347 0), (V "/claim/cut.py" 1701)]), #[]⟩
def a693 : Obj := ⟨(T "function"), none, (.func (fd (st 30) (Str.ofString "parse_simple_selector") 3 [] (R 686) N N (V "cssselect.parser" 296) none (R 692) N 0)), #[]⟩
def a694 : Obj := ⟨(T "tuple"), none, (.seq #[] 0), #[]⟩
def a695 : Obj := ⟨N, none, (.fields #[]), #[]⟩
def a696 : Obj := ⟨(T "tuple"), none, (.seq #[(V "stream" 1706), (V "arguments" 1707), (V "next_" 1708)] 0), #[]⟩
def a697 : Obj := ⟨(T "tuple"), none, (.seq #[] 0), #[]⟩
def a698 : Obj := ⟨N, none, (.func (fd (st 31) (Str.ofString "parse_arguments") 0 [] N N N N none N N 0)), #[]⟩
def a699 : Obj := ⟨(T "code"), none, (.fields #[(V "parse_arguments" 1703), (V "parse_arguments" 1704), (V "/claim/cut.py" 1705), (I 449 0), (I 1 0), (I 0 0), (I 0 0), (I 3 0), (R 694), (B true), (I 276 0), (R 695), N, (R 696), (R 697), (R 698), (I 1709 0), (I 449 0), (V "/claim/cut.py" 1710)]), #[]⟩
def a700 : Obj := ⟨(T "function"), none, (.func (fd (st 31) (Str.ofString "parse_arguments") 3 [] N N N (V "cssselect.parser" 296) none (R 699) N 0)), #[]⟩
def a701 : Obj := ⟨(T "tuple"), none, (.seq #[] 0), #[]⟩
def a702 : Obj := ⟨N, none, (.fields #[]), #[]⟩
def a703 : Obj := ⟨(T "tuple"), none, (.seq #[(V "stream" 1715), (V "arguments" 1716), (V "peek" 1717), (V "combinator" 1718), (V "result" 1719), (V "pseudo_element" 1720), (V "argument_combinator" 1721), (V "next_selector" 1722)] 0), #[]⟩
def a704 : Obj := ⟨(T "tuple"), none, (.seq #[] 0), #[]⟩
def a705 : Obj := ⟨N, none, (.func (fd (st 32) (Str.ofString "parse_relative_selector") 0 [] N N N N none N N 0)), #[]⟩
def a706 : Obj := ⟨(T "code"), none, (.fields #[(V "parse_relative_selector" 1712), (V "parse_relative_selector" 1713), (V "/claim/cut.py" 1714), (I 460 0), (I 1 0), (I 0 0), (I 0 0), (I 3 0), (R 701), (B true), (I 276 0), (R 702), N, (R 703), (R 704), (R 705), (I 1723 0), (I 460 0), (V "/claim/cut.py" 1724)]), #[]⟩
def a707 : Obj := ⟨(T "function"), none, (.func (fd (st 32) (Str.ofString "parse_relative_selector") 3 [] N N N (V "cssselect.parser" 296) none (R 706) N 0)), #[]⟩
def T32 (P : Params) : BT := (n (a0 P) (n (a1 P) (n (a3v16 P) (n a7 (n a15 (n a31 (n a63 (n a127 (n a255 (n a511 z z) z) (n a383 (n a639 z z) z)) (n a191 (n a319 (n a575 z z) z) (n a447 (n a703 z z) z))) (n a95 (n a159 (n a287 (n a543 z z) z) (n a415 (n a671 z z) z)) (n a223 (n a351 (n a607 z z) z) (n a479 z z)))) (n a47 (n a79 (n a143 (n a271 (n a527 z z) z) (n a399 (n a655 z z) z)) (n a207 (n a335 (n a591 z z) z) (n a463 z z))) (n a111 (n a175 (n a303 (n a559 z z) z) (n a431 (n a687 z z) z)) (n a239 (n a367 (n a623 z z) z) (n a495 z z))))) (n a23 (n a39 (n a71 (n a135 (n a263 (n a519 z z) z) (n a391 (n a647 z z) z)) (n a199 (n a327 (n a583 z z) z) (n a455 z z))) (n a103 (n a167 (n a295 (n a551 z z) z) (n a423 (n a679 z z) z)) (n a231 (n a359 (n a615 z z) z) (n a487 z z)))) (n a55 (n a87 (n a151 (n a279 (n a535 z z) z) (n a407 (n a663 z z) z)) (n a215 (n a343 (n a599 z z) z) (n a471 z z))) (n a119 (n a183 (n a311 (n a567 z z) z) (n a439 (n a695 z z) z)) (n a247 (n a375 (n a631 z z) z) (n a503 z z)))))) (n (a11 P) (n a19 (n a35 (n a67 (n a131 (n a259 (n a515 z z) z) (n a387 (n a643 z z) z)) (n a195 (n a323 (n a579 z z) z) (n a451 (n a707 z z) z))) (n a99 (n a163 (n a291 (n a547 z z) z) (n a419 (n a675 z z) z)) (n a227 (n a355 (n a611 z z) z) (n a483 z z)))) (n a51 (n a83 (n a147 (n a275 (n a531 z z) z) (n a403 (n a659 z z) z)) (n a211 (n a339 (n a595 z z) z) (n a467 z z))) (n a115 (n a179 (n (a307 P) (n a563 z z) z) (n a435 (n a691 z z) z)) (n a243 (n a371 (n a627 z z) z) (n a499 z z))))) (n a27 (n a43 (n a75 (n a139 (n a267 (n a523 z z) z) (n a395 (n a651 z z) z)) (n a203 (n a331 (n a587 z z) z) (n a459 z z))) (n a107 (n a171 (n (a299 P) (n a555 z z) z) (n a427 (n a683 z z) z)) (n a235 (n a363 (n a619 z z) z) (n a491 z z)))) (n a59 (n (a91 P) (n a155 (n a283 (n a539 z z) z) (n a411 (n a667 z z) z)) (n a219 (n a347 (n a603 z z) z) (n a475 z z))) (n a123 (n a187 (n a315 (n a571 z z) z) (n a443 (n a699 z z) z)) (n a251 (n a379 (n a635 z z) z) (n a507 z z))))))) (n a5 (n a9 (n a17 (n a33 (n a65 (n a129 (n (a257 P) (n a513 z z) z) (n a385 (n a641 z z) z)) (n a193 (n a321 (n a577 z z) z) (n a449 (n a705 z z) z))) (n (a97 P) (n a161 (n a289 (n a545 z z) z) (n a417 (n a673 z z) z)) (n a225 (n a353 (n a609 z z) z) (n a481 z z)))) (n a49 (n a81 (n a145 (n a273 (n a529 z z) z) (n a401 (n a657 z z) z)) (n a209 (n a337 (n a593 z z) z) (n a465 z z))) (n a113 (n a177 (n a305 (n a561 z z) z) (n a433 (n a689 z z) z)) (n a241 (n a369 (n a625 z z) z) (n a497 z z))))) (n a25 (n a41 (n a73 (n a137 (n (a265 P) (n a521 z z) z) (n a393 (n a649 z z) z)) (n a201 (n a329 (n a585 z z) z) (n a457 z z))) (n a105 (n a169 (n a297 (n a553 z z) z) (n a425 (n a681 z z) z)) (n a233 (n a361 (n a617 z z) z) (n a489 z z)))) (n a57 (n a89 (n a153 (n a281 (n a537 z z) z) (n a409 (n a665 z z) z)) (n a217 (n a345 (n a601 z z) z) (n a473 z z))) (n a121 (n a185 (n a313 (n a569 z z) z) (n a441 (n a697 z z) z)) (n a249 (n a377 (n a633 z z) z) (n a505 z z)))))) (n (a13 P) (n (a21 P) (n a37 (n a69 (n a133 (n a261 (n (a517 P) z z) z) (n a389 (n a645 z z) z)) (n a197 (n a325 (n a581 z z) z) (n a453 z z))) (n a101 (n a165 (n a293 (n a549 z z) z) (n a421 (n a677 z z) z)) (n a229 (n a357 (n a613 z z) z) (n a485 z z)))) (n a53 (n (a85 P) (n a149 (n a277 (n a533 z z) z) (n a405 (n a661 z z) z)) (n a213 (n (a341 P) (n a597 z z) z) (n a469 z z))) (n a117 (n a181 (n a309 (n a565 z z) z) (n a437 (n a693 z z) z)) (n a245 (n a373 (n a629 z z) z) (n a501 z z))))) (n a29v16 (n a45 (n a77 (n a141 (n a269 (n (a525 P) z z) z) (n a397 (n a653 z z) z)) (n a205 (n a333 (n a589 z z) z) (n a461 z z))) (n a109 (n a173 (n a301 (n a557 z z) z) (n a429 (n a685 z z) z)) (n a237 (n a365 (n a621 z z) z) (n a493 z z)))) (n a61 (n a93 (n a157 (n a285 (n a541 z z) z) (n a413 (n a669 z z) z)) (n a221 (n a349 (n a605 z z) z) (n a477 z z))) (n a125 (n a189 (n a317 (n a573 z z) z) (n a445 (n a701 z z) z)) (n a253 (n a381 (n a637 z z) z) (n a509 z z)))))))) (n (a2v1 P) (n a4 (n a8 (n a16 (n a32 (n a64 (n a128 (n a256 (n a512 z z) z) (n a384 (n a640 z z) z)) (n a192 (n a320 (n a576 z z) z) (n a448 (n a704 z z) z))) (n a96 (n a160 (n a288 (n a544 z z) z) (n a416 (n a672 z z) z)) (n a224 (n a352 (n a608 z z) z) (n a480 z z)))) (n a48 (n a80 (n a144 (n a272 (n a528 z z) z) (n a400 (n a656 z z) z)) (n a208 (n a336 (n a592 z z) z) (n a464 z z))) (n a112 (n a176 (n a304 (n (a560 P) z z) z) (n (a432 P) (n a688 z z) z)) (n a240 (n a368 (n a624 z z) z) (n a496 z z))))) (n a24 (n a40 (n (a72 P) (n a136 (n a264 (n a520 z z) z) (n a392 (n a648 z z) z)) (n a200 (n a328 (n a584 z z) z) (n a456 z z))) (n a104 (n a168 (n a296 (n a552 z z) z) (n a424 (n a680 z z) z)) (n a232 (n a360 (n a616 z z) z) (n a488 z z)))) (n a56 (n a88 (n a152 (n a280 (n a536 z z) z) (n a408 (n a664 z z) z)) (n a216 (n a344 (n a600 z z) z) (n a472 z z))) (n a120 (n a184 (n a312 (n (a568 P) z z) z) (n (a440 P) (n a696 z z) z)) (n a248 (n a376 (n a632 z z) z) (n a504 z z)))))) (n a12 (n (a20 P) (n a36 (n a68 (n (a132 P) (n a260 (n a516 z z) z) (n a388 (n (a644 P) z z) z)) (n a196 (n a324 (n a580 z z) z) (n a452 z z))) (n a100 (n a164 (n a292 (n a548 z z) z) (n a420 (n a676 z z) z)) (n a228 (n (a356 P) (n a612 z z) z) (n a484 z z)))) (n a52 (n a84 (n a148 (n a276 (n a532 z z) z) (n a404 (n a660 z z) z)) (n (a212 P) (n a340 (n a596 z z) z) (n a468 z z))) (n a116 (n a180 (n a308 (n a564 z z) z) (n a436 (n a692 z z) z)) (n a244 (n a372 (n a628 z z) z) (n a500 z z))))) (n a28 (n a44 (n a76 (n (a140 P) (n a268 (n a524 z z) z) (n a396 (n a652 z z) z)) (n a204 (n a332 (n a588 z z) z) (n a460 z z))) (n a108 (n a172 (n a300 (n a556 z z) z) (n a428 (n a684 z z) z)) (n a236 (n a364 (n a620 z z) z) (n a492 z z)))) (n a60 (n a92 (n a156 (n a284 (n a540 z z) z) (n a412 (n a668 z z) z)) (n (a220 P) (n a348 (n a604 z z) z) (n a476 z z))) (n a124 (n a188 (n a316 (n a572 z z) z) (n a444 (n a700 z z) z)) (n a252 (n a380 (n a636 z z) z) (n a508 z z))))))) (n a6 (n a10 (n a18 (n a34 (n a66 (n a130 (n a258 (n a514 z z) z) (n a386 (n a642 z z) z)) (n a194 (n a322 (n a578 z z) z) (n a450 (n a706 z z) z))) (n a98 (n a162 (n a290 (n a546 z z) z) (n a418 (n a674 z z) z)) (n a226 (n a354 (n (a610 P) z z) z) (n (a482 P) z z)))) (n a50 (n a82 (n a146 (n a274 (n a530 z z) z) (n a402 (n a658 z z) z)) (n a210 (n a338 (n a594 z z) z) (n a466 z z))) (n a114 (n a178 (n a306 (n a562 z z) z) (n a434 (n a690 z z) z)) (n a242 (n a370 (n a626 z z) z) (n a498 z z))))) (n a26 (n a42 (n a74 (n a138 (n a266 (n a522 z z) z) (n a394 (n a650 z z) z)) (n a202 (n a330 (n a586 z z) z) (n a458 z z))) (n a106 (n a170 (n a298 (n a554 z z) z) (n a426 (n a682 z z) z)) (n a234 (n a362 (n a618 z z) z) (n a490 z z)))) (n a58 (n a90 (n a154 (n a282 (n a538 z z) z) (n a410 (n a666 z z) z)) (n a218 (n a346 (n (a602 P) z z) z) (n (a474 P) z z))) (n a122 (n a186 (n a314 (n a570 z z) z) (n a442 (n a698 z z) z)) (n a250 (n a378 (n a634 z z) z) (n a506 z z)))))) (n a14 (n a22 (n a38 (n a70 (n a134 (n a262 (n a518 z z) z) (n (a390 P) (n a646 z z) z)) (n a198 (n a326 (n a582 z z) z) (n a454 z z))) (n a102 (n a166 (n a294 (n a550 z z) z) (n a422 (n a678 z z) z)) (n a230 (n a358 (n a614 z z) z) (n a486 z z)))) (n a54 (n a86 (n a150 (n a278 (n a534 z z) z) (n a406 (n a662 z z) z)) (n a214 (n a342 (n a598 z z) z) (n a470 z z))) (n a118 (n (a182 P) (n a310 (n a566 z z) z) (n a438 (n a694 z z) z)) (n a246 (n a374 (n a630 z z) z) (n a502 z z))))) (n a30 (n a46 (n (a78 P) (n a142 (n a270 (n a526 z z) z) (n (a398 P) (n a654 z z) z)) (n a206 (n a334 (n a590 z z) z) (n a462 z z))) (n a110 (n (a174 P) (n a302 (n a558 z z) z) (n a430 (n a686 z z) z)) (n a238 (n a366 (n a622 z z) z) (n a494 z z)))) (n a62 (n a94 (n a158 (n a286 (n a542 z z) z) (n a414 (n a670 z z) z)) (n a222 (n a350 (n a606 z z) z) (n a478 z z))) (n a126 (n a190 (n a318 (n a574 z z) z) (n a446 (n a702 z z) z)) (n a254 (n a382 (n a638 z z) z) (n a510 z z)))))))))
def a3v17 (P : Params) : Obj := grow (a3v16 P) #[E P "parse_simple_selector_arguments" 1736 (R 714), E P "parse_attrib" 1750 (R 721), E P "parse_series" 1763 (R 728)] 44
def a29v17 : Obj := ⟨N, none, (.fields #[(I 2 0), (I 0 0), (R 37), (I 5 0), (I 0 0), (R 44), (I 12 0), (I 0 0), (R 61), (I 14 0), (I 0 0), (R 68), (I 16 0), (I 0 0), (R 75), (I 18 0), (I 0 0), (R 88), (I 20 0), (I 0 0), (R 100), (I 54 0), (I 0 0), (R 143), (I 70 0), (I 0 0), (R 185), (I 86 0), (I 0 0), (R 223), (I 108 0), (I 0 0), (R 268), (I 124 0), (I 0 0), (R 310), (I 143 0), (I 0 0), (R 352), (I 147 0), (I 0 0), (R 359), (I 165 0), (I 0 0), (R 401), (I 189 0), (I 0 0), (R 443), (I 211 0), (I 0 0), (R 485), (I 246 0), (I 0 0), (R 528), (I 266 0), (I 0 0), (R 571), (I 282 0), (I 0 0), (R 613), (I 308 0), (I 0 0), (R 670), (I 321 0), (I 0 0), (R 677), (I 330 0), (I 0 0), (R 684), (I 347 0), (I 0 0), (R 692), (I 449 0), (I 0 0), (R 699), (I 460 0), (I 0 0), (R 706), (I 491 0), (I 0 0), (R 713), (I 508 0), (I 0 0), (R 720), (I 562 0), (I 0 0), (R 727)]), #[]⟩
def a708 : Obj := ⟨(T "tuple"), none, (.seq #[] 0), #[]⟩
def a709 : Obj := ⟨N, none, (.fields #[]), #[]⟩
def a710 : Obj := ⟨(T "tuple"), none, (.seq #[(V "stream" 1729), (V "arguments" 1730), (V "result" 1731), (V "pseudo_element" 1732), (V "next_" 1733)] 0), #[]⟩
def a711 : Obj := ⟨(T "tuple"), none, (.seq #[] 0), #[]⟩
def a712 : Obj := ⟨N, none, (.func (fd (st 33) (Str.ofString "parse_simple_selector_arguments") 0 [] N N N N none N N 0)), #[]⟩
def a713 : Obj := ⟨(T "code"), none, (.fields #[(V "parse_simple_selector_arguments" 1726), (V "parse_simple_selector_arguments" 1727), (V "/claim/cut.py" 1728), (I 491 0), (I 1 0), (I 0 0), (I 0 0), (I 3 0), (R 708), (B true), (I 276 0), (R 709), N, (R 710), (R 711), (R 712), (I 1734 0), (I 491 0), (V "/claim/cut.py" 1735)]), #[]⟩
def a714 : Obj := ⟨(T "function"), none, (.func (fd (st 33) (Str.ofString "parse_simple_selector_arguments") 3 [] N N N (V "cssselect.parser" 296) none (R 713) N 0)), #[]⟩
def a715 : Obj := ⟨(T "tuple"), none, (.seq #[] 0), #[]⟩
def a716 : Obj := ⟨N, none, (.fields #[]), #[]⟩
def a717 : Obj := ⟨(T "tuple"), none, (.seq #[(V "selector" 1740), (V "stream" 1741), (V "namespace" 1742), (V "attrib" 1743), (V "op" 1744), (V "next_" 1745), (V "value" 1746), (V "flag" 1747)] 0), #[]⟩
def a718 : Obj := ⟨(T "tuple"), none, (.seq #[] 0), #[]⟩
def a719 : Obj := ⟨N, none, (.func (fd (st 34) (Str.ofString "parse_attrib") 0 [] N N N N none N N 0)), #[]⟩
def a720 : Obj := ⟨(T "code"), none, (.fields #[(V "parse_attrib" 1737), (V "parse_attrib" 1738), (V "/claim/cut.py" 1739), (I 508 0), (I 2 0), (I 0 0), (I 0 0), (I 3 0), (R 715), (B true), (I 276 0), (R 716), N, (R 717), (R 718), (R 719), (I 1748 0), (I 508 0), (V "/claim/cut.py" 1749)]), #[]⟩
def a721 : Obj := ⟨(T "function"), none, (.func (fd (st 34) (Str.ofString "parse_attrib") 3 [] N N N (V "cssselect.parser" 296) none (R 720) N 0)), #[]⟩
def a722 : Obj := ⟨(T "tuple"), none, (.seq #[] 0), #[]⟩
def a723 : Obj := ⟨N, none, (.fields #[]), #[]⟩
def a724 : Obj := ⟨(T "tuple"), none, (.seq #[(V "tokens" 1754), (V "token" 1755), (V "s" 1756), (V "a" 1757), (V "b" 1758), (V "a_as_int" 1759), (V "b_as_int" 1760)] 0), #[]⟩
def a725 : Obj := ⟨(T "tuple"), none, (.seq #[] 0), #[]⟩
def a726 : Obj := ⟨N, none, (.func (fd (st 35) (Str.ofString "parse_series") 0 [] N N N N none N N 0)), #[]⟩
def a727 : Obj := ⟨(T "code"), none, (.fields #[(V "parse_series" 1751), (V "parse_series" 1752), (V "/claim/cut.py" 1753), (I 562 0), (I 1 0), (I 0 0), (I 0 0), (I 3 0), (R 722), (B true), (I 276 0), (R 723), N, (R 724), (R 725), (R 726), (I 1761 0), (I 562 0), (V "/claim/cut.py" 1762)]), #[]⟩
def a728 : Obj := ⟨(T "function"), none, (.func (fd (st 35) (Str.ofString "parse_series") 3 [] N N N (V "cssselect.parser" 296) none (R 727) N 0)), #[]⟩
def T35 (P : Params) : BT := (n (a0 P) (n (a1 P) (n (a3v17 P) (n a7 (n a15 (n a31 (n a63 (n a127 (n a255 (n a511 z z) z) (n a383 (n a639 z z) z)) (n a191 (n a319 (n a575 z z) z) (n a447 (n a703 z z) z))) (n a95 (n a159 (n a287 (n a543 z z) z) (n a415 (n a671 z z) z)) (n a223 (n a351 (n a607 z z) z) (n a479 z z)))) (n a47 (n a79 (n a143 (n a271 (n a527 z z) z) (n a399 (n a655 z z) z)) (n a207 (n a335 (n a591 z z) z) (n a463 (n a719 z z) z))) (n a111 (n a175 (n a303 (n a559 z z) z) (n a431 (n a687 z z) z)) (n a239 (n a367 (n a623 z z) z) (n a495 z z))))) (n a23 (n a39 (n a71 (n a135 (n a263 (n a519 z z) z) (n a391 (n a647 z z) z)) (n a199 (n a327 (n a583 z z) z) (n a455 (n a711 z z) z))) (n a103 (n a167 (n a295 (n a551 z z) z) (n a423 (n a679 z z) z)) (n a231 (n a359 (n a615 z z) z) (n a487 z z)))) (n a55 (n a87 (n a151 (n a279 (n a535 z z) z) (n a407 (n a663 z z) z)) (n a215 (n a343 (n a599 z z) z) (n a471 (n a727 z z) z))) (n a119 (n a183 (n a311 (n a567 z z) z) (n a439 (n a695 z z) z)) (n a247 (n a375 (n a631 z z) z) (n a503 z z)))))) (n (a11 P) (n a19 (n a35 (n a67 (n a131 (n a259 (n a515 z z) z) (n a387 (n a643 z z) z)) (n a195 (n a323 (n a579 z z) z) (n a451 (n a707 z z) z))) (n a99 (n a163 (n a291 (n a547 z z) z) (n a419 (n a675 z z) z)) (n a227 (n a355 (n a611 z z) z) (n a483 z z)))) (n a51 (n a83 (n a147 (n a275 (n a531 z z) z) (n a403 (n a659 z z) z)) (n a211 (n a339 (n a595 z z) z) (n a467 (n a723 z z) z))) (n a115 (n a179 (n (a307 P) (n a563 z z) z) (n a435 (n a691 z z) z)) (n a243 (n a371 (n a627 z z) z) (n a499 z z))))) (n a27 (n a43 (n a75 (n a139 (n a267 (n a523 z z) z) (n a395 (n a651 z z) z)) (n a203 (n a331 (n a587 z z) z) (n a459 (n a715 z z) z))) (n a107 (n a171 (n (a299 P) (n a555 z z) z) (n a427 (n a683 z z) z)) (n a235 (n a363 (n a619 z z) z) (n a491 z z)))) (n a59 (n (a91 P) (n a155 (n a283 (n a539 z z) z) (n a411 (n a667 z z) z)) (n a219 (n a347 (n a603 z z) z) (n a475 z z))) (n a123 (n a187 (n a315 (n a571 z z) z) (n a443 (n a699 z z) z)) (n a251 (n a379 (n a635 z z) z) (n a507 z z))))))) (n a5 (n a9 (n a17 (n a33 (n a65 (n a129 (n (a257 P) (n a513 z z) z) (n a385 (n a641 z z) z)) (n a193 (n a321 (n a577 z z) z) (n a449 (n a705 z z) z))) (n (a97 P) (n a161 (n a289 (n a545 z z) z) (n a417 (n a673 z z) z)) (n a225 (n a353 (n a609 z z) z) (n a481 z z)))) (n a49 (n a81 (n a145 (n a273 (n a529 z z) z) (n a401 (n a657 z z) z)) (n a209 (n a337 (n a593 z z) z) (n a465 (n a721 z z) z))) (n a113 (n a177 (n a305 (n a561 z z) z) (n a433 (n a689 z z) z)) (n a241 (n a369 (n a625 z z) z) (n a497 z z))))) (n a25 (n a41 (n a73 (n a137 (n (a265 P) (n a521 z z) z) (n a393 (n a649 z z) z)) (n a201 (n a329 (n a585 z z) z) (n a457 (n a713 z z) z))) (n a105 (n a169 (n a297 (n a553 z z) z) (n a425 (n a681 z z) z)) (n a233 (n a361 (n a617 z z) z) (n a489 z z)))) (n a57 (n a89 (n a153 (n a281 (n a537 z z) z) (n a409 (n a665 z z) z)) (n a217 (n a345 (n a601 z z) z) (n a473 z z))) (n a121 (n a185 (n a313 (n a569 z z) z) (n a441 (n a697 z z) z)) (n a249 (n a377 (n a633 z z) z) (n a505 z z)))))) (n (a13 P) (n (a21 P) (n a37 (n a69 (n a133 (n a261 (n (a517 P) z z) z) (n a389 (n a645 z z) z)) (n a197 (n a325 (n a581 z z) z) (n a453 (n a709 z z) z))) (n a101 (n a165 (n a293 (n a549 z z) z) (n a421 (n a677 z z) z)) (n a229 (n a357 (n a613 z z) z) (n a485 z z)))) (n a53 (n (a85 P) (n a149 (n a277 (n a533 z z) z) (n a405 (n a661 z z) z)) (n a213 (n (a341 P) (n a597 z z) z) (n a469 (n a725 z z) z))) (n a117 (n a181 (n a309 (n a565 z z) z) (n a437 (n a693 z z) z)) (n a245 (n a373 (n a629 z z) z) (n a501 z z))))) (n a29v17 (n a45 (n a77 (n a141 (n a269 (n (a525 P) z z) z) (n a397 (n a653 z z) z)) (n a205 (n a333 (n a589 z z) z) (n a461 (n a717 z z) z))) (n a109 (n a173 (n a301 (n a557 z z) z) (n a429 (n a685 z z) z)) (n a237 (n a365 (n a621 z z) z) (n a493 z z)))) (n a61 (n a93 (n a157 (n a285 (n a541 z z) z) (n a413 (n a669 z z) z)) (n a221 (n a349 (n a605 z z) z) (n a477 z z))) (n a125 (n a189 (n a317 (n a573 z z) z) (n a445 (n a701 z z) z)) (n a253 (n a381 (n a637 z z) z) (n a509 z z)))))))) (n (a2v1 P) (n a4 (n a8 (n a16 (n a32 (n a64 (n a128 (n a256 (n a512 z z) z) (n a384 (n a640 z z) z)) (n a192 (n a320 (n a576 z z) z) (n a448 (n a704 z z) z))) (n a96 (n a160 (n a288 (n a544 z z) z) (n a416 (n a672 z z) z)) (n a224 (n a352 (n a608 z z) z) (n a480 z z)))) (n a48 (n a80 (n a144 (n a272 (n a528 z z) z) (n a400 (n a656 z z) z)) (n a208 (n a336 (n a592 z z) z) (n a464 (n a720 z z) z))) (n a112 (n a176 (n a304 (n (a560 P) z z) z) (n (a432 P) (n a688 z z) z)) (n a240 (n a368 (n a624 z z) z) (n a496 z z))))) (n a24 (n a40 (n (a72 P) (n a136 (n a264 (n a520 z z) z) (n a392 (n a648 z z) z)) (n a200 (n a328 (n a584 z z) z) (n a456 (n a712 z z) z))) (n a104 (n a168 (n a296 (n a552 z z) z) (n a424 (n a680 z z) z)) (n a232 (n a360 (n a616 z z) z) (n a488 z z)))) (n a56 (n a88 (n a152 (n a280 (n a536 z z) z) (n a408 (n a664 z z) z)) (n a216 (n a344 (n a600 z z) z) (n a472 (n a728 z z) z))) (n a120 (n a184 (n a312 (n (a568 P) z z) z) (n (a440 P) (n a696 z z) z)) (n a248 (n a376 (n a632 z z) z) (n a504 z z)))))) (n a12 (n (a20 P) (n a36 (n a68 (n (a132 P) (n a260 (n a516 z z) z) (n a388 (n (a644 P) z z) z)) (n a196 (n a324 (n a580 z z) z) (n a452 (n a708 z z) z))) (n a100 (n a164 (n a292 (n a548 z z) z) (n a420 (n a676 z z) z)) (n a228 (n (a356 P) (n a612 z z) z) (n a484 z z)))) (n a52 (n a84 (n a148 (n a276 (n a532 z z) z) (n a404 (n a660 z z) z)) (n (a212 P) (n a340 (n a596 z z) z) (n a468 (n a724 z z) z))) (n a116 (n a180 (n a308 (n a564 z z) z) (n a436 (n a692 z z) z)) (n a244 (n a372 (n a628 z z) z) (n a500 z z))))) (n a28 (n a44 (n a76 (n (a140 P) (n a268 (n a524 z z) z) (n a396 (n a652 z z) z)) (n a204 (n a332 (n a588 z z) z) (n a460 (n a716 z z) z))) (n a108 (n a172 (n a300 (n a556 z z) z) (n a428 (n a684 z z) z)) (n a236 (n a364 (n a620 z z) z) (n a492 z z)))) (n a60 (n a92 (n a156 (n a284 (n a540 z z) z) (n a412 (n a668 z z) z)) (n (a220 P) (n a348 (n a604 z z) z) (n a476 z z))) (n a124 (n a188 (n a316 (n a572 z z) z) (n a444 (n a700 z z) z)) (n a252 (n a380 (n a636 z z) z) (n a508 z z))))))) (n a6 (n a10 (n a18 (n a34 (n a66 (n a130 (n a258 (n a514 z z) z) (n a386 (n a642 z z) z)) (n a194 (n a322 (n a578 z z) z) (n a450 (n a706 z z) z))) (n a98 (n a162 (n a290 (n a546 z z) z) (n a418 (n a674 z z) z)) (n a226 (n a354 (n (a610 P) z z) z) (n (a482 P) z z)))) (n a50 (n a82 (n a146 (n a274 (n a530 z z) z) (n a402 (n a658 z z) z)) (n a210 (n a338 (n a594 z z) z) (n a466 (n a722 z z) z))) (n a114 (n a178 (n a306 (n a562 z z) z) (n a434 (n a690 z z) z)) (n a242 (n a370 (n a626 z z) z) (n a498 z z))))) (n a26 (n a42 (n a74 (n a138 (n a266 (n a522 z z) z) (n a394 (n a650 z z) z)) (n a202 (n a330 (n a586 z z) z) (n a458 (n a714 z z) z))) (n a106 (n a170 (n a298 (n a554 z z) z) (n a426 (n a682 z z) z)) (n a234 (n a362 (n a618 z z) z) (n a490 z z)))) (n a58 (n a90 (n a154 (n a282 (n a538 z z) z) (n a410 (n a666 z z) z)) (n a218 (n a346 (n (a602 P) z z) z) (n (a474 P) z z))) (n a122 (n a186 (n a314 (n a570 z z) z) (n a442 (n a698 z z) z)) (n a250 (n a378 (n a634 z z) z) (n a506 z z)))))) (n a14 (n a22 (n a38 (n a70 (n a134 (n a262 (n a518 z z) z) (n (a390 P) (n a646 z z) z)) (n a198 (n a326 (n a582 z z) z) (n a454 (n a710 z z) z))) (n a102 (n a166 (n a294 (n a550 z z) z) (n a422 (n a678 z z) z)) (n a230 (n a358 (n a614 z z) z) (n a486 z z)))) (n a54 (n a86 (n a150 (n a278 (n a534 z z) z) (n a406 (n a662 z z) z)) (n a214 (n a342 (n a598 z z) z) (n a470 (n a726 z z) z))) (n a118 (n (a182 P) (n a310 (n a566 z z) z) (n a438 (n a694 z z) z)) (n a246 (n a374 (n a630 z z) z) (n a502 z z))))) (n a30 (n a46 (n (a78 P) (n a142 (n a270 (n a526 z z) z) (n (a398 P) (n a654 z z) z)) (n a206 (n a334 (n a590 z z) z) (n a462 (n a718 z z) z))) (n a110 (n (a174 P) (n a302 (n a558 z z) z) (n a430 (n a686 z z) z)) (n a238 (n a366 (n a622 z z) z) (n a494 z z)))) (n a62 (n a94 (n a158 (n a286 (n a542 z z) z) (n a414 (n a670 z z) z)) (n a222 (n a350 (n a606 z z) z) (n a478 z z))) (n a126 (n a190 (n a318 (n a574 z z) z) (n a446 (n a702 z z) z)) (n a254 (n a382 (n a638 z z) z) (n a510 z z)))))))))
def a3v18 (P : Params) : Obj := grow (a3v17 P) #[E P "Token" 1832 (R 782)] 45
def a29v18 : Obj := ⟨N, none, (.fields #[(I 2 0), (I 0 0), (R 37), (I 5 0), (I 0 0), (R 44), (I 12 0), (I 0 0), (R 61), (I 14 0), (I 0 0), (R 68), (I 16 0), (I 0 0), (R 75), (I 18 0), (I 0 0), (R 88), (I 20 0), (I 0 0), (R 100), (I 54 0), (I 0 0), (R 143), (I 70 0), (I 0 0), (R 185), (I 86 0), (I 0 0), (R 223), (I 108 0), (I 0 0), (R 268), (I 124 0), (I 0 0), (R 310), (I 143 0), (I 0 0), (R 352), (I 147 0), (I 0 0), (R 359), (I 165 0), (I 0 0), (R 401), (I 189 0), (I 0 0), (R 443), (I 211 0), (I 0 0), (R 485), (I 246 0), (I 0 0), (R 528), (I 266 0), (I 0 0), (R 571), (I 282 0), (I 0 0), (R 613), (I 308 0), (I 0 0), (R 670), (I 321 0), (I 0 0), (R 677), (I 330 0), (I 0 0), (R 684), (I 347 0), (I 0 0), (R 692), (I 449 0), (I 0 0), (R 699), (I 460 0), (I 0 0), (R 706), (I 491 0), (I 0 0), (R 713), (I 508 0), (I 0 0), (R 720), (I 562 0), (I 0 0), (R 727), (I 585 0), (I 0 0), (R 734)]), #[]⟩
def a729 : Obj := ⟨(T "tuple"), none, (.seq #[(T "tuple")] 0), #[]⟩
def a730 : Obj := ⟨(T "builtin_function_or_method"), none, (.fields #[(U "type.__prepare__"), (T "type")]), #[]⟩
def a731 (P : Params) : Obj := ⟨(T "dict"), none, (.dict #[E P "__module__" 1771 (V "cssselect.parser" 296), E P "__qualname__" 1773 (V "Token" 1772), E P "__firstlineno__" 1775 (I 585 1774), E P "__new__" 1786 (R 742), E P "__repr__" 1793 (R 749), E P "is_delim" 1801 (R 756), E P "type" 1809 (R 764), E P "value" 1817 (R 772), E P "css" 1825 (R 779), E P "__static_attributes__" 1826 (R 780)] 10), #[]⟩
def a732 : Obj := ⟨(T "tuple"), none, (.seq #[] 0), #[]⟩
def a733 : Obj := ⟨N, none, (.fields #[(I 587 0), (I 4 0), (R 741), (I 592 0), (I 4 0), (R 748), (I 595 0), (I 4 0), (R 755), (I 599 0), (I 4 0), (R 762), (I 603 0), (I 4 0), (R 770), (I 606 0), (I 4 0), (R 778)]), #[]⟩
def a734 : Obj := ⟨(T "code"), none, (.fields #[(V "Token" 1766), (V "Token" 1767), (V "/claim/cut.py" 1768), (I 585 0), (I 0 0), (I 0 0), (I 0 0), (I 0 0), (R 732), (B false), (I 276 0), (R 733), N, N, N, N, (I 1769 0), (I 585 0), (V "/claim/cut.py" 1770)]), #[]⟩
def a735 : Obj := ⟨(T "frame"), none, .plain, #[(some (R 734)), (some (R 3)), (some (R 731)), none, (some (V "cssselect.parser" 296)), none, (some (R 0))]⟩
def a736 : Obj := ⟨(T "tuple"), none, (.seq #[] 0), #[]⟩
def a737 : Obj := ⟨N, none, (.fields #[]), #[]⟩
def a738 : Obj := ⟨(T "tuple"), none, (.seq #[(V "cls" 1779), (V "type_" 1780), (V "value" 1781), (V "pos" 1782), (V "obj" 1783)] 0), #[]⟩
def a739 : Obj := ⟨(T "tuple"), none, (.seq #[] 0), #[]⟩
def a740 : Obj := ⟨N, none, (.func (fd (kd (st 36) 0) (Str.ofString "Token.__new__") 0 [] N N N N none N N 0)), #[]⟩
def a741 : Obj := ⟨(T "code"), none, (.fields #[(V "__new__" 1776), (V "Token.__new__" 1777), (V "/claim/cut.py" 1778), (I 587 0), (I 4 0), (I 0 0), (I 0 0), (I 3 0), (R 736), (B true), (I 276 0), (R 737), N, (R 738), (R 739), (R 740), (I 1784 0), (I 587 0), (V "/claim/cut.py" 1785)]), #[]⟩
def a742 : Obj := ⟨(T "function"), none, (.func (fd (kd (st 36) 0) (Str.ofString "Token.__new__") 3 [] N N N (V "cssselect.parser" 296) none (R 741) N 0)), #[]⟩
def a743 : Obj := ⟨(T "tuple"), none, (.seq #[] 0), #[]⟩
def a744 : Obj := ⟨N, none, (.fields #[]), #[]⟩
def a745 : Obj := ⟨(T "tuple"), none, (.seq #[(V "self" 1790)] 0), #[]⟩
def a746 : Obj := ⟨(T "tuple"), none, (.seq #[] 0), #[]⟩
def a747 : Obj := ⟨N, none, (.func (fd (kd (st 36) 1) (Str.ofString "Token.__repr__") 0 [] N N N N none N N 0)), #[]⟩
def a748 : Obj := ⟨(T "code"), none, (.fields #[(V "__repr__" 1787), (V "Token.__repr__" 1788), (V "/claim/cut.py" 1789), (I 592 0), (I 1 0), (I 0 0), (I 0 0), (I 3 0), (R 743), (B true), (I 276 0), (R 744), N, (R 745), (R 746), (R 747), (I 1791 0), (I 592 0), (V "/claim/cut.py" 1792)]), #[]⟩
def a749 : Obj := ⟨(T "function"), none, (.func (fd (kd (st 36) 1) (Str.ofString "Token.__repr__") 3 [] N N N (V "cssselect.parser" 296) none (R 748) N 0)), #[]⟩
def a750 : Obj := ⟨(T "tuple"), none, (.seq #[] 0), #[]⟩
def a751 : Obj := ⟨N, none, (.fields #[]), #[]⟩
def a752 : Obj := ⟨(T "tuple"), none, (.seq #[(V "self" 1797), (V "values" 1798)] 0), #[]⟩
def a753 : Obj := ⟨(T "tuple"), none, (.seq #[] 0), #[]⟩
def a754 : Obj := ⟨N, none, (.func (fd (kd (st 36) 2) (Str.ofString "Token.is_delim") 0 [] N N N N none N N 0)), #[]⟩
def a755 : Obj := ⟨(T "code"), none, (.fields #[(V "is_delim" 1794), (V "Token.is_delim" 1795), (V "/claim/cut.py" 1796), (I 595 0), (I 1 0), (I 0 0), (I 0 0), (I 7 0), (R 750), (B true), (I 276 0), (R 751), N, (R 752), (R 753), (R 754), (I 1799 0), (I 595 0), (V "/claim/cut.py" 1800)]), #[]⟩
def a756 : Obj := ⟨(T "function"), none, (.func (fd (kd (st 36) 2) (Str.ofString "Token.is_delim") 3 [] N N N (V "cssselect.parser" 296) none (R 755) N 0)), #[]⟩
def a757 : Obj := ⟨(T "tuple"), none, (.seq #[] 0), #[]⟩
def a758 : Obj := ⟨N, none, (.fields #[]), #[]⟩
def a759 : Obj := ⟨(T "tuple"), none, (.seq #[(V "self" 1805)] 0), #[]⟩
def a760 : Obj := ⟨(T "tuple"), none, (.seq #[] 0), #[]⟩
def a761 : Obj := ⟨N, none, (.func (fd (kd (st 36) 3) (Str.ofString "Token.type") 0 [] N N N N none N N 0)), #[]⟩
def a762 : Obj := ⟨(T "code"), none, (.fields #[(V "type" 1802), (V "Token.type" 1803), (V "/claim/cut.py" 1804), (I 598 0), (I 1 0), (I 0 0), (I 0 0), (I 3 0), (R 757), (B true), (I 276 0), (R 758), N, (R 759), (R 760), (R 761), (I 1806 0), (I 598 0), (V "/claim/cut.py" 1807)]), #[]⟩
def a763 : Obj := ⟨(T "function"), none, (.func (fd (kd (st 36) 3) (Str.ofString "Token.type") 3 [] N N N (V "cssselect.parser" 296) none (R 762) N 0)), #[]⟩
def a764 : Obj := ⟨(T "property"), none, (.fields #[(R 763), N, N, N, (V "type" 1809), (B false)]), #[]⟩
def a765 : Obj := ⟨(T "tuple"), none, (.seq #[] 0), #[]⟩
def a766 : Obj := ⟨N, none, (.fields #[]), #[]⟩
def a767 : Obj := ⟨(T "tuple"), none, (.seq #[(V "self" 1813)] 0), #[]⟩
def a768 : Obj := ⟨(T "tuple"), none, (.seq #[] 0), #[]⟩
def a769 : Obj := ⟨N, none, (.func (fd (kd (st 36) 4) (Str.ofString "Token.value") 0 [] N N N N none N N 0)), #[]⟩
def a770 : Obj := ⟨(T "code"), none, (.fields #[(V "value" 1810), (V "Token.value" 1811), (V "/claim/cut.py" 1812), (I 602 0), (I 1 0), (I 0 0), (I 0 0), (I 3 0), (R 765), (B true), (I 276 0), (R 766), N, (R 767), (R 768), (R 769), (I 1814 0), (I 602 0), (V "/claim/cut.py" 1815)]), #[]⟩
def a771 : Obj := ⟨(T "function"), none, (.func (fd (kd (st 36) 4) (Str.ofString "Token.value") 3 [] N N N (V "cssselect.parser" 296) none (R 770) N 0)), #[]⟩
def a772 : Obj := ⟨(T "property"), none, (.fields #[(R 771), N, N, N, (V "value" 1817), (B false)]), #[]⟩
def a773 : Obj := ⟨(T "tuple"), none, (.seq #[] 0), #[]⟩
def a774 : Obj := ⟨N, none, (.fields #[]), #[]⟩
def a775 : Obj := ⟨(T "tuple"), none, (.seq #[(V "self" 1821), (V "escaped" 1822)] 0), #[]⟩
def a776 : Obj := ⟨(T "tuple"), none, (.seq #[] 0), #[]⟩
def a777 : Obj := ⟨N, none, (.func (fd (kd (st 36) 5) (Str.ofString "Token.css") 0 [] N N N N none N N 0)), #[]⟩
def a778 : Obj := ⟨(T "code"), none, (.fields #[(V "css" 1818), (V "Token.css" 1819), (V "/claim/cut.py" 1820), (I 606 0), (I 1 0), (I 0 0), (I 0 0), (I 3 0), (R 773), (B true), (I 276 0), (R 774), N, (R 775), (R 776), (R 777), (I 1823 0), (I 606 0), (V "/claim/cut.py" 1824)]), #[]⟩
def a779 : Obj := ⟨(T "function"), none, (.func (fd (kd (st 36) 5) (Str.ofString "Token.css") 3 [] N N N (V "cssselect.parser" 296) none (R 778) N 0)), #[]⟩
def a780 : Obj := ⟨(T "tuple"), none, (.seq #[] 0), #[]⟩
def a781 (P : Params) : Obj := ⟨(T "dict"), none, (.dict #[E P "__module__" 1771 (V "cssselect.parser" 296), E P "__firstlineno__" 1775 (I 585 1774), E P "__new__" 1786 (R 783), E P "__repr__" 1793 (R 749), E P "is_delim" 1801 (R 756), E P "type" 1809 (R 764), E P "value" 1817 (R 772), E P "css" 1825 (R 779), E P "__static_attributes__" 1826 (R 780), E P "__dict__" 1829 (R 784), E P "__doc__" 1830 N] 3), #[]⟩
def a782 : Obj := ⟨(T "type"), none, (.cls ⟨(Str.ofString "Token"), [(T "tuple")], [(R 782), (T "tuple"), (T "object")], 781, (Str.ofString "Token"), true, [], [], false, none, false⟩), #[(some (R 729)), none, (some (V "Token" 1764)), (some (V "Token" 1772)), (some N), (some (B false))]⟩
def a783 : Obj := ⟨(T "staticmethod"), none, (.fields #[(R 742)]), #[]⟩
def a784 : Obj := ⟨(T "getset_descriptor"), none, (.fields #[(V "__dict__" 1828), (R 782), (U "function.__dict__"), (U "function.__dict__#set")]), #[]⟩
def a785 : Obj := ⟨(T "super"), none, (.fields #[(R 782), (R 782), (R 782)]), #[]⟩
def a786 : Obj := ⟨(T "builtin_function_or_method"), none, (.fields #[(U "object.__init_subclass__"), (R 782)]), #[]⟩
def T36 (P : Params) : BT := (n (a0 P) (n (a1 P) (n (a3v18 P) (n a7 (n a15 (n a31 (n a63 (n a127 (n a255 (n a511 z z) (n a767 z z)) (n a383 (n a639 z z) z)) (n a191 (n a319 (n a575 z z) z) (n a447 (n a703 z z) z))) (n a95 (n a159 (n a287 (n a543 z z) z) (n a415 (n a671 z z) z)) (n a223 (n a351 (n a607 z z) z) (n a479 (n a735 z z) z)))) (n a47 (n a79 (n a143 (n a271 (n a527 z z) (n a783 z z)) (n a399 (n a655 z z) z)) (n a207 (n a335 (n a591 z z) z) (n a463 (n a719 z z) z))) (n a111 (n a175 (n a303 (n a559 z z) z) (n a431 (n a687 z z) z)) (n a239 (n a367 (n a623 z z) z) (n a495 (n a751 z z) z))))) (n a23 (n a39 (n a71 (n a135 (n a263 (n a519 z z) (n a775 z z)) (n a391 (n a647 z z) z)) (n a199 (n a327 (n a583 z z) z) (n a455 (n a711 z z) z))) (n a103 (n a167 (n a295 (n a551 z z) z) (n a423 (n a679 z z) z)) (n a231 (n a359 (n a615 z z) z) (n a487 (n a743 z z) z)))) (n a55 (n a87 (n a151 (n a279 (n a535 z z) z) (n a407 (n a663 z z) z)) (n a215 (n a343 (n a599 z z) z) (n a471 (n a727 z z) z))) (n a119 (n a183 (n a311 (n a567 z z) z) (n a439 (n a695 z z) z)) (n a247 (n a375 (n a631 z z) z) (n a503 (n a759 z z) z)))))) (n (a11 P) (n a19 (n a35 (n a67 (n a131 (n a259 (n a515 z z) (n a771 z z)) (n a387 (n a643 z z) z)) (n a195 (n a323 (n a579 z z) z) (n a451 (n a707 z z) z))) (n a99 (n a163 (n a291 (n a547 z z) z) (n a419 (n a675 z z) z)) (n a227 (n a355 (n a611 z z) z) (n a483 (n a739 z z) z)))) (n a51 (n a83 (n a147 (n a275 (n a531 z z) z) (n a403 (n a659 z z) z)) (n a211 (n a339 (n a595 z z) z) (n a467 (n a723 z z) z))) (n a115 (n a179 (n (a307 P) (n a563 z z) z) (n a435 (n a691 z z) z)) (n a243 (n a371 (n a627 z z) z) (n a499 (n a755 z z) z))))) (n a27 (n a43 (n a75 (n a139 (n a267 (n a523 z z) (n a779 z z)) (n a395 (n a651 z z) z)) (n a203 (n a331 (n a587 z z) z) (n a459 (n a715 z z) z))) (n a107 (n a171 (n (a299 P) (n a555 z z) z) (n a427 (n a683 z z) z)) (n a235 (n a363 (n a619 z z) z) (n a491 (n a747 z z) z)))) (n a59 (n (a91 P) (n a155 (n a283 (n a539 z z) z) (n a411 (n a667 z z) z)) (n a219 (n a347 (n a603 z z) z) (n a475 (n (a731 P) z z) z))) (n a123 (n a187 (n a315 (n a571 z z) z) (n a443 (n a699 z z) z)) (n a251 (n a379 (n a635 z z) z) (n a507 (n a763 z z) z))))))) (n a5 (n a9 (n a17 (n a33 (n a65 (n a129 (n (a257 P) (n a513 z z) (n a769 z z)) (n a385 (n a641 z z) z)) (n a193 (n a321 (n a577 z z) z) (n a449 (n a705 z z) z))) (n (a97 P) (n a161 (n a289 (n a545 z z) z) (n a417 (n a673 z z) z)) (n a225 (n a353 (n a609 z z) z) (n a481 (n a737 z z) z)))) (n a49 (n a81 (n a145 (n a273 (n a529 z z) (n a785 z z)) (n a401 (n a657 z z) z)) (n a209 (n a337 (n a593 z z) z) (n a465 (n a721 z z) z))) (n a113 (n a177 (n a305 (n a561 z z) z) (n a433 (n a689 z z) z)) (n a241 (n a369 (n a625 z z) z) (n a497 (n a753 z z) z))))) (n a25 (n a41 (n a73 (n a137 (n (a265 P) (n a521 z z) (n a777 z z)) (n a393 (n a649 z z) z)) (n a201 (n a329 (n a585 z z) z) (n a457 (n a713 z z) z))) (n a105 (n a169 (n a297 (n a553 z z) z) (n a425 (n a681 z z) z)) (n a233 (n a361 (n a617 z z) z) (n a489 (n a745 z z) z)))) (n a57 (n a89 (n a153 (n a281 (n a537 z z) z) (n a409 (n a665 z z) z)) (n a217 (n a345 (n a601 z z) z) (n a473 (n a729 z z) z))) (n a121 (n a185 (n a313 (n a569 z z) z) (n a441 (n a697 z z) z)) (n a249 (n a377 (n a633 z z) z) (n a505 (n a761 z z) z)))))) (n (a13 P) (n (a21 P) (n a37 (n a69 (n a133 (n a261 (n (a517 P) z z) (n a773 z z)) (n a389 (n a645 z z) z)) (n a197 (n a325 (n a581 z z) z) (n a453 (n a709 z z) z))) (n a101 (n a165 (n a293 (n a549 z z) z) (n a421 (n a677 z z) z)) (n a229 (n a357 (n a613 z z) z) (n a485 (n a741 z z) z)))) (n a53 (n (a85 P) (n a149 (n a277 (n a533 z z) z) (n a405 (n a661 z z) z)) (n a213 (n (a341 P) (n a597 z z) z) (n a469 (n a725 z z) z))) (n a117 (n a181 (n a309 (n a565 z z) z) (n a437 (n a693 z z) z)) (n a245 (n a373 (n a629 z z) z) (n a501 (n a757 z z) z))))) (n a29v18 (n a45 (n a77 (n a141 (n a269 (n (a525 P) z z) (n (a781 P) z z)) (n a397 (n a653 z z) z)) (n a205 (n a333 (n a589 z z) z) (n a461 (n a717 z z) z))) (n a109 (n a173 (n a301 (n a557 z z) z) (n a429 (n a685 z z) z)) (n a237 (n a365 (n a621 z z) z) (n a493 (n a749 z z) z)))) (n a61 (n a93 (n a157 (n a285 (n a541 z z) z) (n a413 (n a669 z z) z)) (n a221 (n a349 (n a605 z z) z) (n a477 (n a733 z z) z))) (n a125 (n a189 (n a317 (n a573 z z) z) (n a445 (n a701 z z) z)) (n a253 (n a381 (n a637 z z) z) (n a509 (n a765 z z) z)))))))) (n (a2v1 P) (n a4 (n a8 (n a16 (n a32 (n a64 (n a128 (n a256 (n a512 z z) (n a768 z z)) (n a384 (n a640 z z) z)) (n a192 (n a320 (n a576 z z) z) (n a448 (n a704 z z) z))) (n a96 (n a160 (n a288 (n a544 z z) z) (n a416 (n a672 z z) z)) (n a224 (n a352 (n a608 z z) z) (n a480 (n a736 z z) z)))) (n a48 (n a80 (n a144 (n a272 (n a528 z z) (n a784 z z)) (n a400 (n a656 z z) z)) (n a208 (n a336 (n a592 z z) z) (n a464 (n a720 z z) z))) (n a112 (n a176 (n a304 (n (a560 P) z z) z) (n (a432 P) (n a688 z z) z)) (n a240 (n a368 (n a624 z z) z) (n a496 (n a752 z z) z))))) (n a24 (n a40 (n (a72 P) (n a136 (n a264 (n a520 z z) (n a776 z z)) (n a392 (n a648 z z) z)) (n a200 (n a328 (n a584 z z) z) (n a456 (n a712 z z) z))) (n a104 (n a168 (n a296 (n a552 z z) z) (n a424 (n a680 z z) z)) (n a232 (n a360 (n a616 z z) z) (n a488 (n a744 z z) z)))) (n a56 (n a88 (n a152 (n a280 (n a536 z z) z) (n a408 (n a664 z z) z)) (n a216 (n a344 (n a600 z z) z) (n a472 (n a728 z z) z))) (n a120 (n a184 (n a312 (n (a568 P) z z) z) (n (a440 P) (n a696 z z) z)) (n a248 (n a376 (n a632 z z) z) (n a504 (n a760 z z) z)))))) (n a12 (n (a20 P) (n a36 (n a68 (n (a132 P) (n a260 (n a516 z z) (n a772 z z)) (n a388 (n (a644 P) z z) z)) (n a196 (n a324 (n a580 z z) z) (n a452 (n a708 z z) z))) (n a100 (n a164 (n a292 (n a548 z z) z) (n a420 (n a676 z z) z)) (n a228 (n (a356 P) (n a612 z z) z) (n a484 (n a740 z z) z)))) (n a52 (n a84 (n a148 (n a276 (n a532 z z) z) (n a404 (n a660 z z) z)) (n (a212 P) (n a340 (n a596 z z) z) (n a468 (n a724 z z) z))) (n a116 (n a180 (n a308 (n a564 z z) z) (n a436 (n a692 z z) z)) (n a244 (n a372 (n a628 z z) z) (n a500 (n a756 z z) z))))) (n a28 (n a44 (n a76 (n (a140 P) (n a268 (n a524 z z) (n a780 z z)) (n a396 (n a652 z z) z)) (n a204 (n a332 (n a588 z z) z) (n a460 (n a716 z z) z))) (n a108 (n a172 (n a300 (n a556 z z) z) (n a428 (n a684 z z) z)) (n a236 (n a364 (n a620 z z) z) (n a492 (n a748 z z) z)))) (n a60 (n a92 (n a156 (n a284 (n a540 z z) z) (n a412 (n a668 z z) z)) (n (a220 P) (n a348 (n a604 z z) z) (n a476 (n a732 z z) z))) (n a124 (n a188 (n a316 (n a572 z z) z) (n a444 (n a700 z z) z)) (n a252 (n a380 (n a636 z z) z) (n a508 (n a764 z z) z))))))) (n a6 (n a10 (n a18 (n a34 (n a66 (n a130 (n a258 (n a514 z z) (n a770 z z)) (n a386 (n a642 z z) z)) (n a194 (n a322 (n a578 z z) z) (n a450 (n a706 z z) z))) (n a98 (n a162 (n a290 (n a546 z z) z) (n a418 (n a674 z z) z)) (n a226 (n a354 (n (a610 P) z z) z) (n (a482 P) (n a738 z z) z)))) (n a50 (n a82 (n a146 (n a274 (n a530 z z) (n a786 z z)) (n a402 (n a658 z z) z)) (n a210 (n a338 (n a594 z z) z) (n a466 (n a722 z z) z))) (n a114 (n a178 (n a306 (n a562 z z) z) (n a434 (n a690 z z) z)) (n a242 (n a370 (n a626 z z) z) (n a498 (n a754 z z) z))))) (n a26 (n a42 (n a74 (n a138 (n a266 (n a522 z z) (n a778 z z)) (n a394 (n a650 z z) z)) (n a202 (n a330 (n a586 z z) z) (n a458 (n a714 z z) z))) (n a106 (n a170 (n a298 (n a554 z z) z) (n a426 (n a682 z z) z)) (n a234 (n a362 (n a618 z z) z) (n a490 (n a746 z z) z)))) (n a58 (n a90 (n a154 (n a282 (n a538 z z) z) (n a410 (n a666 z z) z)) (n a218 (n a346 (n (a602 P) z z) z) (n (a474 P) (n a730 z z) z))) (n a122 (n a186 (n a314 (n a570 z z) z) (n a442 (n a698 z z) z)) (n a250 (n a378 (n a634 z z) z) (n a506 (n a762 z z) z)))))) (n a14 (n a22 (n a38 (n a70 (n a134 (n a262 (n a518 z z) (n a774 z z)) (n (a390 P) (n a646 z z) z)) (n a198 (n a326 (n a582 z z) z) (n a454 (n a710 z z) z))) (n a102 (n a166 (n a294 (n a550 z z) z) (n a422 (n a678 z z) z)) (n a230 (n a358 (n a614 z z) z) (n a486 (n a742 z z) z)))) (n a54 (n a86 (n a150 (n a278 (n a534 z z) z) (n a406 (n a662 z z) z)) (n a214 (n a342 (n a598 z z) z) (n a470 (n a726 z z) z))) (n a118 (n (a182 P) (n a310 (n a566 z z) z) (n a438 (n a694 z z) z)) (n a246 (n a374 (n a630 z z) z) (n a502 (n a758 z z) z))))) (n a30 (n a46 (n (a78 P) (n a142 (n a270 (n a526 z z) (n a782 z z)) (n (a398 P) (n a654 z z) z)) (n a206 (n a334 (n a590 z z) z) (n a462 (n a718 z z) z))) (n a110 (n (a174 P) (n a302 (n a558 z z) z) (n a430 (n a686 z z) z)) (n a238 (n a366 (n a622 z z) z) (n a494 (n a750 z z) z)))) (n a62 (n a94 (n a158 (n a286 (n a542 z z) z) (n a414 (n a670 z z) z)) (n a222 (n a350 (n a606 z z) z) (n a478 (n a734 z z) z))) (n a126 (n a190 (n a318 (n a574 z z) z) (n a446 (n a702 z z) z)) (n a254 (n a382 (n a638 z z) z) (n a510 (n a766 z z) z)))))))))
def a3v19 (P : Params) : Obj := grow (a3v18 P) #[E P "EOFToken" 1864 (R 810), E P "_match_whitespace" 1893 (R 818), E P "_match_number" 1960 (R 823)] 48
def a29v19 : Obj := ⟨N, none, (.fields #[(I 2 0), (I 0 0), (R 37), (I 5 0), (I 0 0), (R 44), (I 12 0), (I 0 0), (R 61), (I 14 0), (I 0 0), (R 68), (I 16 0), (I 0 0), (R 75), (I 18 0), (I 0 0), (R 88), (I 20 0), (I 0 0), (R 100), (I 54 0), (I 0 0), (R 143), (I 70 0), (I 0 0), (R 185), (I 86 0), (I 0 0), (R 223), (I 108 0), (I 0 0), (R 268), (I 124 0), (I 0 0), (R 310), (I 143 0), (I 0 0), (R 352), (I 147 0), (I 0 0), (R 359), (I 165 0), (I 0 0), (R 401), (I 189 0), (I 0 0), (R 443), (I 211 0), (I 0 0), (R 485), (I 246 0), (I 0 0), (R 528), (I 266 0), (I 0 0), (R 571), (I 282 0), (I 0 0), (R 613), (I 308 0), (I 0 0), (R 670), (I 321 0), (I 0 0), (R 677), (I 330 0), (I 0 0), (R 684), (I 347 0), (I 0 0), (R 692), (I 449 0), (I 0 0), (R 699), (I 460 0), (I 0 0), (R 706), (I 491 0), (I 0 0), (R 713), (I 508 0), (I 0 0), (R 720), (I 562 0), (I 0 0), (R 727), (I 585 0), (I 0 0), (R 734), (I 614 0), (I 0 0), (R 792)]), #[]⟩
def a782v1 : Obj := ⟨(T "type"), none, (.cls ⟨(Str.ofString "Token"), [(T "tuple")], [(R 782), (T "tuple"), (T "object")], 781, (Str.ofString "Token"), true, [], [(R 810)], false, none, false⟩), #[(some (R 729)), none, (some (V "Token" 1764)), (some (V "Token" 1772)), (some N), (some (B false))]⟩
def a787 : Obj := ⟨(T "tuple"), none, (.seq #[(R 782)] 0), #[]⟩
def a788 : Obj := ⟨(T "builtin_function_or_method"), none, (.fields #[(U "type.__prepare__"), (T "type")]), #[]⟩
def a789 (P : Params) : Obj := ⟨(T "dict"), none, (.dict #[E P "__module__" 1840 (V "cssselect.parser" 296), E P "__qualname__" 1842 (V "EOFToken" 1841), E P "__firstlineno__" 1844 (I 614 1843), E P "__new__" 1852 (R 800), E P "__repr__" 1859 (R 807), E P "__static_attributes__" 1860 (R 808)] 6), #[]⟩
def a790 : Obj := ⟨(T "tuple"), none, (.seq #[] 0), #[]⟩
def a791 : Obj := ⟨N, none, (.fields #[(I 616 0), (I 4 0), (R 799), (I 619 0), (I 4 0), (R 806)]), #[]⟩
def a792 : Obj := ⟨(T "code"), none, (.fields #[(V "EOFToken" 1835), (V "EOFToken" 1836), (V "/claim/cut.py" 1837), (I 614 0), (I 0 0), (I 0 0), (I 0 0), (I 0 0), (R 790), (B false), (I 276 0), (R 791), N, N, N, N, (I 1838 0), (I 614 0), (V "/claim/cut.py" 1839)]), #[]⟩
def a793 : Obj := ⟨(T "frame"), none, .plain, #[(some (R 792)), (some (R 3)), (some (R 789)), none, (some (V "cssselect.parser" 296)), none, (some (R 0))]⟩
def a794 : Obj := ⟨(T "tuple"), none, (.seq #[] 0), #[]⟩
def a795 : Obj := ⟨N, none, (.fields #[]), #[]⟩
def a796 : Obj := ⟨(T "tuple"), none, (.seq #[(V "cls" 1848), (V "pos" 1849)] 0), #[]⟩
def a797 : Obj := ⟨(T "tuple"), none, (.seq #[] 0), #[]⟩
def a798 : Obj := ⟨N, none, (.func (fd (kd (st 37) 0) (Str.ofString "EOFToken.__new__") 0 [] N N N N none N N 0)), #[]⟩
def a799 : Obj := ⟨(T "code"), none, (.fields #[(V "__new__" 1845), (V "EOFToken.__new__" 1846), (V "/claim/cut.py" 1847), (I 616 0), (I 2 0), (I 0 0), (I 0 0), (I 3 0), (R 794), (B true), (I 276 0), (R 795), N, (R 796), (R 797), (R 798), (I 1850 0), (I 616 0), (V "/claim/cut.py" 1851)]), #[]⟩
def a800 : Obj := ⟨(T "function"), none, (.func (fd (kd (st 37) 0) (Str.ofString "EOFToken.__new__") 3 [] N N N (V "cssselect.parser" 296) none (R 799) N 0)), #[]⟩
def a801 : Obj := ⟨(T "tuple"), none, (.seq #[] 0), #[]⟩
def a802 : Obj := ⟨N, none, (.fields #[]), #[]⟩
def a803 : Obj := ⟨(T "tuple"), none, (.seq #[(V "self" 1856)] 0), #[]⟩
def a804 : Obj := ⟨(T "tuple"), none, (.seq #[] 0), #[]⟩
def a805 : Obj := ⟨N, none, (.func (fd (kd (st 37) 1) (Str.ofString "EOFToken.__repr__") 0 [] N N N N none N N 0)), #[]⟩
def a806 : Obj := ⟨(T "code"), none, (.fields #[(V "__repr__" 1853), (V "EOFToken.__repr__" 1854), (V "/claim/cut.py" 1855), (I 619 0), (I 1 0), (I 0 0), (I 0 0), (I 3 0), (R 801), (B true), (I 276 0), (R 802), N, (R 803), (R 804), (R 805), (I 1857 0), (I 619 0), (V "/claim/cut.py" 1858)]), #[]⟩
def a807 : Obj := ⟨(T "function"), none, (.func (fd (kd (st 37) 1) (Str.ofString "EOFToken.__repr__") 3 [] N N N (V "cssselect.parser" 296) none (R 806) N 0)), #[]⟩
def a808 : Obj := ⟨(T "tuple"), none, (.seq #[] 0), #[]⟩
def a809 (P : Params) : Obj := ⟨(T "dict"), none, (.dict #[E P "__module__" 1840 (V "cssselect.parser" 296), E P "__firstlineno__" 1844 (I 614 1843), E P "__new__" 1852 (R 811), E P "__repr__" 1859 (R 807), E P "__static_attributes__" 1860 (R 808), E P "__doc__" 1862 N] 2), #[]⟩
def a810 : Obj := ⟨(T "type"), none, (.cls ⟨(Str.ofString "EOFToken"), [(R 782)], [(R 810), (R 782), (T "tuple"), (T "object")], 809, (Str.ofString "EOFToken"), true, [], [], false, none, false⟩), #[(some (R 787)), none, (some (V "EOFToken" 1833)), (some (V "EOFToken" 1841)), (some N), (some (B false))]⟩
def a811 : Obj := ⟨(T "staticmethod"), none, (.fields #[(R 800)]), #[]⟩
def a812 : Obj := ⟨(T "super"), none, (.fields #[(R 810), (R 810), (R 810)]), #[]⟩
def a813 : Obj := ⟨(T "builtin_function_or_method"), none, (.fields #[(U "object.__init_subclass__"), (R 810)]), #[]⟩
def a814 : Obj := ⟨(T "list"), none, (.seq #[(I 14 1868), (I 4 1869), (I 0 1870), (I 1 1871), (I 4294967295 1872), (I 24 1873), (I 16 1874), (I 1 1875), (I 4294967295 1876), (I 13 1877), (I 11 1878), (I 9 1879), (I 13824 1880), (I 1 1881), (I 0 1882), (I 0 1883), (I 0 1884), (I 0 1885), (I 0 1886), (I 0 1887), (I 0 1888), (I 1 1889), (I 1 1890)] 0), #[]⟩
def a815 : Obj := ⟨(T "dict"), none, (.dict #[] 0), #[]⟩
def a816 : Obj := ⟨(T "tuple"), none, (.seq #[N] 0), #[]⟩
def a817 : Obj := ⟨(T "tuple"), none, (.seq #[(I 14 0), (I 4 0), (I 0 0), (I 1 0), (I 4294967295 0), (I 24 0), (I 16 0), (I 1 0), (I 4294967295 0), (I 13 0), (I 11 0), (I 9 0), (I 13824 0), (I 1 0), (I 0 0), (I 0 0), (I 0 0), (I 0 0), (I 0 0), (I 0 0), (I 0 0), (I 1 0), (I 1 0)] 0), #[]⟩
def a818 : Obj := ⟨(T "re.Pattern"), none, (.fields #[(V "[ \\t\\r\\n\\f]+" 1866), (I 32 1892), (I 0 0), N, N, (R 817), (I 0 0)]), #[]⟩
def a819 : Obj := ⟨(T "list"), none, (.seq #[(I 14 1897), (I 4 1898), (I 0 1899), (I 1 1900), (I 4294967295 1901), (I 24 1902), (I 11 1903), (I 0 1904), (I 1 1905), (I 13 1906), (I 6 1907), (I 16 1908), (I 43 1909), (I 16 1910), (I 45 1911), (I 0 1912), (I 1 1913), (I 7 1914), (I 27 1915), (I 24 1916), (I 10 1917), (I 0 1918), (I 4294967295 1919), (I 13 1920), (I 5 1921), (I 22 1922), (I 48 1923), (I 57 1924), (I 0 1925), (I 1 1926), (I 16 1927), (I 46 1928), (I 24 1929), (I 10 1930), (I 1 1931), (I 4294967295 1932), (I 13 1933), (I 5 1934), (I 22 1935), (I 48 1936), (I 57 1937), (I 0 1938), (I 1 1939), (I 15 1940), (I 16 1941), (I 14 1942), (I 24 1943), (I 10 1944), (I 1 1945), (I 4294967295 1946), (I 13 1947), (I 5 1948), (I 22 1949), (I 48 1950), (I 57 1951), (I 0 1952), (I 1 1953), (I 15 1954), (I 2 1955), (I 0 1956), (I 1 1957)] 0), #[]⟩
def a820 : Obj := ⟨(T "dict"), none, (.dict #[] 0), #[]⟩
def a821 : Obj := ⟨(T "tuple"), none, (.seq #[N] 0), #[]⟩
def a822 : Obj := ⟨(T "tuple"), none, (.seq #[(I 14 0), (I 4 0), (I 0 0), (I 1 0), (I 4294967295 0), (I 24 0), (I 11 0), (I 0 0), (I 1 0), (I 13 0), (I 6 0), (I 16 0), (I 43 0), (I 16 0), (I 45 0), (I 0 0), (I 1 0), (I 7 0), (I 27 0), (I 24 0), (I 10 0), (I 0 0), (I 4294967295 0), (I 13 0), (I 5 0), (I 22 0), (I 48 0), (I 57 0), (I 0 0), (I 1 0), (I 16 0), (I 46 0), (I 24 0), (I 10 0), (I 1 0), (I 4294967295 0), (I 13 0), (I 5 0), (I 22 0), (I 48 0), (I 57 0), (I 0 0), (I 1 0), (I 15 0), (I 16 0), (I 14 0), (I 24 0), (I 10 0), (I 1 0), (I 4294967295 0), (I 13 0), (I 5 0), (I 22 0), (I 48 0), (I 57 0), (I 0 0), (I 1 0), (I 15 0), (I 2 0), (I 0 0), (I 1 0)] 0), #[]⟩
def a823 : Obj := ⟨(T "re.Pattern"), none, (.fields #[(V "[+-]?(?:[0-9]*\\.[0-9]+|[0-9]+)" 1895), (I 32 1959), (I 0 0), N, N, (R 822), (I 0 0)]), #[]⟩
def T39 (P : Params) : BT := (n (a0 P) (n (a1 P) (n (a3v19 P) (n a7 (n a15 (n a31 (n a63 (n a127 (n a255 (n a511 z z) (n a767 z z)) (n a383 (n a639 z z) z)) (n a191 (n a319 (n a575 z z) z) (n a447 (n a703 z z) z))) (n a95 (n a159 (n a287 (n a543 z z) (n a799 z z)) (n a415 (n a671 z z) z)) (n a223 (n a351 (n a607 z z) z) (n a479 (n a735 z z) z)))) (n a47 (n a79 (n a143 (n a271 (n a527 z z) (n a783 z z)) (n a399 (n a655 z z) z)) (n a207 (n a335 (n a591 z z) z) (n a463 (n a719 z z) z))) (n a111 (n a175 (n a303 (n a559 z z) (n a815 z z)) (n a431 (n a687 z z) z)) (n a239 (n a367 (n a623 z z) z) (n a495 (n a751 z z) z))))) (n a23 (n a39 (n a71 (n a135 (n a263 (n a519 z z) (n a775 z z)) (n a391 (n a647 z z) z)) (n a199 (n a327 (n a583 z z) z) (n a455 (n a711 z z) z))) (n a103 (n a167 (n a295 (n a551 z z) (n a807 z z)) (n a423 (n a679 z z) z)) (n a231 (n a359 (n a615 z z) z) (n a487 (n a743 z z) z)))) (n a55 (n a87 (n a151 (n a279 (n a535 z z) (n a791 z z)) (n a407 (n a663 z z) z)) (n a215 (n a343 (n a599 z z) z) (n a471 (n a727 z z) z))) (n a119 (n a183 (n a311 (n a567 z z) (n a823 z z)) (n a439 (n a695 z z) z)) (n a247 (n a375 (n a631 z z) z) (n a503 (n a759 z z) z)))))) (n (a11 P) (n a19 (n a35 (n a67 (n a131 (n a259 (n a515 z z) (n a771 z z)) (n a387 (n a643 z z) z)) (n a195 (n a323 (n a579 z z) z) (n a451 (n a707 z z) z))) (n a99 (n a163 (n a291 (n a547 z z) (n a803 z z)) (n a419 (n a675 z z) z)) (n a227 (n a355 (n a611 z z) z) (n a483 (n a739 z z) z)))) (n a51 (n a83 (n a147 (n a275 (n a531 z z) (n a787 z z)) (n a403 (n a659 z z) z)) (n a211 (n a339 (n a595 z z) z) (n a467 (n a723 z z) z))) (n a115 (n a179 (n (a307 P) (n a563 z z) (n a819 z z)) (n a435 (n a691 z z) z)) (n a243 (n a371 (n a627 z z) z) (n a499 (n a755 z z) z))))) (n a27 (n a43 (n a75 (n a139 (n a267 (n a523 z z) (n a779 z z)) (n a395 (n a651 z z) z)) (n a203 (n a331 (n a587 z z) z) (n a459 (n a715 z z) z))) (n a107 (n a171 (n (a299 P) (n a555 z z) (n a811 z z)) (n a427 (n a683 z z) z)) (n a235 (n a363 (n a619 z z) z) (n a491 (n a747 z z) z)))) (n a59 (n (a91 P) (n a155 (n a283 (n a539 z z) (n a795 z z)) (n a411 (n a667 z z) z)) (n a219 (n a347 (n a603 z z) z) (n a475 (n (a731 P) z z) z))) (n a123 (n a187 (n a315 (n a571 z z) z) (n a443 (n a699 z z) z)) (n a251 (n a379 (n a635 z z) z) (n a507 (n a763 z z) z))))))) (n a5 (n a9 (n a17 (n a33 (n a65 (n a129 (n (a257 P) (n a513 z z) (n a769 z z)) (n a385 (n a641 z z) z)) (n a193 (n a321 (n a577 z z) z) (n a449 (n a705 z z) z))) (n (a97 P) (n a161 (n a289 (n a545 z z) (n a801 z z)) (n a417 (n a673 z z) z)) (n a225 (n a353 (n a609 z z) z) (n a481 (n a737 z z) z)))) (n a49 (n a81 (n a145 (n a273 (n a529 z z) (n a785 z z)) (n a401 (n a657 z z) z)) (n a209 (n a337 (n a593 z z) z) (n a465 (n a721 z z) z))) (n a113 (n a177 (n a305 (n a561 z z) (n a817 z z)) (n a433 (n a689 z z) z)) (n a241 (n a369 (n a625 z z) z) (n a497 (n a753 z z) z))))) (n a25 (n a41 (n a73 (n a137 (n (a265 P) (n a521 z z) (n a777 z z)) (n a393 (n a649 z z) z)) (n a201 (n a329 (n a585 z z) z) (n a457 (n a713 z z) z))) (n a105 (n a169 (n a297 (n a553 z z) (n (a809 P) z z)) (n a425 (n a681 z z) z)) (n a233 (n a361 (n a617 z z) z) (n a489 (n a745 z z) z)))) (n a57 (n a89 (n a153 (n a281 (n a537 z z) (n a793 z z)) (n a409 (n a665 z z) z)) (n a217 (n a345 (n a601 z z) z) (n a473 (n a729 z z) z))) (n a121 (n a185 (n a313 (n a569 z z) z) (n a441 (n a697 z z) z)) (n a249 (n a377 (n a633 z z) z) (n a505 (n a761 z z) z)))))) (n (a13 P) (n (a21 P) (n a37 (n a69 (n a133 (n a261 (n (a517 P) z z) (n a773 z z)) (n a389 (n a645 z z) z)) (n a197 (n a325 (n a581 z z) z) (n a453 (n a709 z z) z))) (n a101 (n a165 (n a293 (n a549 z z) (n a805 z z)) (n a421 (n a677 z z) z)) (n a229 (n a357 (n a613 z z) z) (n a485 (n a741 z z) z)))) (n a53 (n (a85 P) (n a149 (n a277 (n a533 z z) (n (a789 P) z z)) (n a405 (n a661 z z) z)) (n a213 (n (a341 P) (n a597 z z) z) (n a469 (n a725 z z) z))) (n a117 (n a181 (n a309 (n a565 z z) (n a821 z z)) (n a437 (n a693 z z) z)) (n a245 (n a373 (n a629 z z) z) (n a501 (n a757 z z) z))))) (n a29v19 (n a45 (n a77 (n a141 (n a269 (n (a525 P) z z) (n (a781 P) z z)) (n a397 (n a653 z z) z)) (n a205 (n a333 (n a589 z z) z) (n a461 (n a717 z z) z))) (n a109 (n a173 (n a301 (n a557 z z) (n a813 z z)) (n a429 (n a685 z z) z)) (n a237 (n a365 (n a621 z z) z) (n a493 (n a749 z z) z)))) (n a61 (n a93 (n a157 (n a285 (n a541 z z) (n a797 z z)) (n a413 (n a669 z z) z)) (n a221 (n a349 (n a605 z z) z) (n a477 (n a733 z z) z))) (n a125 (n a189 (n a317 (n a573 z z) z) (n a445 (n a701 z z) z)) (n a253 (n a381 (n a637 z z) z) (n a509 (n a765 z z) z)))))))) (n (a2v1 P) (n a4 (n a8 (n a16 (n a32 (n a64 (n a128 (n a256 (n a512 z z) (n a768 z z)) (n a384 (n a640 z z) z)) (n a192 (n a320 (n a576 z z) z) (n a448 (n a704 z z) z))) (n a96 (n a160 (n a288 (n a544 z z) (n a800 z z)) (n a416 (n a672 z z) z)) (n a224 (n a352 (n a608 z z) z) (n a480 (n a736 z z) z)))) (n a48 (n a80 (n a144 (n a272 (n a528 z z) (n a784 z z)) (n a400 (n a656 z z) z)) (n a208 (n a336 (n a592 z z) z) (n a464 (n a720 z z) z))) (n a112 (n a176 (n a304 (n (a560 P) z z) (n a816 z z)) (n (a432 P) (n a688 z z) z)) (n a240 (n a368 (n a624 z z) z) (n a496 (n a752 z z) z))))) (n a24 (n a40 (n (a72 P) (n a136 (n a264 (n a520 z z) (n a776 z z)) (n a392 (n a648 z z) z)) (n a200 (n a328 (n a584 z z) z) (n a456 (n a712 z z) z))) (n a104 (n a168 (n a296 (n a552 z z) (n a808 z z)) (n a424 (n a680 z z) z)) (n a232 (n a360 (n a616 z z) z) (n a488 (n a744 z z) z)))) (n a56 (n a88 (n a152 (n a280 (n a536 z z) (n a792 z z)) (n a408 (n a664 z z) z)) (n a216 (n a344 (n a600 z z) z) (n a472 (n a728 z z) z))) (n a120 (n a184 (n a312 (n (a568 P) z z) z) (n (a440 P) (n a696 z z) z)) (n a248 (n a376 (n a632 z z) z) (n a504 (n a760 z z) z)))))) (n a12 (n (a20 P) (n a36 (n a68 (n (a132 P) (n a260 (n a516 z z) (n a772 z z)) (n a388 (n (a644 P) z z) z)) (n a196 (n a324 (n a580 z z) z) (n a452 (n a708 z z) z))) (n a100 (n a164 (n a292 (n a548 z z) (n a804 z z)) (n a420 (n a676 z z) z)) (n a228 (n (a356 P) (n a612 z z) z) (n a484 (n a740 z z) z)))) (n a52 (n a84 (n a148 (n a276 (n a532 z z) (n a788 z z)) (n a404 (n a660 z z) z)) (n (a212 P) (n a340 (n a596 z z) z) (n a468 (n a724 z z) z))) (n a116 (n a180 (n a308 (n a564 z z) (n a820 z z)) (n a436 (n a692 z z) z)) (n a244 (n a372 (n a628 z z) z) (n a500 (n a756 z z) z))))) (n a28 (n a44 (n a76 (n (a140 P) (n a268 (n a524 z z) (n a780 z z)) (n a396 (n a652 z z) z)) (n a204 (n a332 (n a588 z z) z) (n a460 (n a716 z z) z))) (n a108 (n a172 (n a300 (n a556 z z) (n a812 z z)) (n a428 (n a684 z z) z)) (n a236 (n a364 (n a620 z z) z) (n a492 (n a748 z z) z)))) (n a60 (n a92 (n a156 (n a284 (n a540 z z) (n a796 z z)) (n a412 (n a668 z z) z)) (n (a220 P) (n a348 (n a604 z z) z) (n a476 (n a732 z z) z))) (n a124 (n a188 (n a316 (n a572 z z) z) (n a444 (n a700 z z) z)) (n a252 (n a380 (n a636 z z) z) (n a508 (n a764 z z) z))))))) (n a6 (n a10 (n a18 (n a34 (n a66 (n a130 (n a258 (n a514 z z) (n a770 z z)) (n a386 (n a642 z z) z)) (n a194 (n a322 (n a578 z z) z) (n a450 (n a706 z z) z))) (n a98 (n a162 (n a290 (n a546 z z) (n a802 z z)) (n a418 (n a674 z z) z)) (n a226 (n a354 (n (a610 P) z z) z) (n (a482 P) (n a738 z z) z)))) (n a50 (n a82 (n a146 (n a274 (n a530 z z) (n a786 z z)) (n a402 (n a658 z z) z)) (n a210 (n a338 (n a594 z z) z) (n a466 (n a722 z z) z))) (n a114 (n a178 (n a306 (n a562 z z) (n a818 z z)) (n a434 (n a690 z z) z)) (n a242 (n a370 (n a626 z z) z) (n a498 (n a754 z z) z))))) (n a26 (n a42 (n a74 (n a138 (n a266 (n a522 z z) (n a778 z z)) (n a394 (n a650 z z) z)) (n a202 (n a330 (n a586 z z) z) (n a458 (n a714 z z) z))) (n a106 (n a170 (n a298 (n a554 z z) (n a810 z z)) (n a426 (n a682 z z) z)) (n a234 (n a362 (n a618 z z) z) (n a490 (n a746 z z) z)))) (n a58 (n a90 (n a154 (n a282 (n a538 z z) (n a794 z z)) (n a410 (n a666 z z) z)) (n a218 (n a346 (n (a602 P) z z) z) (n (a474 P) (n a730 z z) z))) (n a122 (n a186 (n a314 (n a570 z z) z) (n a442 (n a698 z z) z)) (n a250 (n a378 (n a634 z z) z) (n a506 (n a762 z z) z)))))) (n a14 (n a22 (n a38 (n a70 (n a134 (n a262 (n a518 z z) (n a774 z z)) (n (a390 P) (n a646 z z) z)) (n a198 (n a326 (n a582 z z) z) (n a454 (n a710 z z) z))) (n a102 (n a166 (n a294 (n a550 z z) (n a806 z z)) (n a422 (n a678 z z) z)) (n a230 (n a358 (n a614 z z) z) (n a486 (n a742 z z) z)))) (n a54 (n a86 (n a150 (n a278 (n a534 z z) (n a790 z z)) (n a406 (n a662 z z) z)) (n a214 (n a342 (n a598 z z) z) (n a470 (n a726 z z) z))) (n a118 (n (a182 P) (n a310 (n a566 z z) (n a822 z z)) (n a438 (n a694 z z) z)) (n a246 (n a374 (n a630 z z) z) (n a502 (n a758 z z) z))))) (n a30 (n a46 (n (a78 P) (n a142 (n a270 (n a526 z z) (n a782v1 z z)) (n (a398 P) (n a654 z z) z)) (n a206 (n a334 (n a590 z z) z) (n a462 (n a718 z z) z))) (n a110 (n (a174 P) (n a302 (n a558 z z) (n a814 z z)) (n a430 (n a686 z z) z)) (n a238 (n a366 (n a622 z z) z) (n a494 (n a750 z z) z)))) (n a62 (n a94 (n a158 (n a286 (n a542 z z) (n a798 z z)) (n a414 (n a670 z z) z)) (n a222 (n a350 (n a606 z z) z) (n a478 (n a734 z z) z))) (n a126 (n a190 (n a318 (n a574 z z) z) (n a446 (n a702 z z) z)) (n a254 (n a382 (n a638 z z) z) (n a510 (n a766 z z) z)))))))))
def a3v20 (P : Params) : Obj := grow (a3v19 P) #[E P "_match_hash" 2248 (R 828)] 49
def a824 : Obj := ⟨(T "list"), none, (.seq #[(I 14 1964), (I 8 1965), (I 1 1966), (I 2 1967), (I 4294967295 1968), (I 1 1969), (I 1 1970), (I 35 1971), (I 0 1972), (I 16 1973), (I 35 1974), (I 23 1975), (I 268 1976), (I 1 1977), (I 4294967295 1978), (I 7 1979), (I 96 1980), (I 39 1981), (I 92 1982), (I 10 1983), (I 3 1984), (I 33685760 1985), (I 33686018 1986), (I 33686018 1987), (I 33686018 1988), (I 33686018 1989), (I 33686018 1990), (I 33686018 1991), (I 33686018 1992), (I 33686018 1993), (I 33686018 1994), (I 33686018 1995), (I 33686018 1996), (I 33686018 1997), (I 33686018 1998), (I 33686018 1999), (I 33686018 2000), (I 33686018 2001), (I 33686018 2002), (I 33686018 2003), (I 33686018 2004), (I 33686018 2005), (I 33686018 2006), (I 33686018 2007), (I 33686018 2008), (I 33686018 2009), (I 33686018 2010), (I 33686018 2011), (I 33686018 2012), (I 33686018 2013), (I 33686018 2014), (I 33686018 2015), (I 33686018 2016), (I 33686018 2017), (I 33686018 2018), (I 33686018 2019), (I 33686018 2020), (I 33686018 2021), (I 33686018 2022), (I 33686018 2023), (I 33686018 2024), (I 33686018 2025), (I 33686018 2026), (I 33686018 2027), (I 33686018 2028), (I 33686018 2029), (I 33686018 2030), (I 33686018 2031), (I 33686018 2032), (I 33686018 2033), (I 33686018 2034), (I 33686018 2035), (I 33686018 2036), (I 33686018 2037), (I 33686018 2038), (I 33686018 2039), (I 33686018 2040), (I 33686018 2041), (I 33686018 2042), (I 33686018 2043), (I 33686018 2044), (I 33686018 2045), (I 33686018 2046), (I 33686018 2047), (I 33686018 2048), (I 0 2049), (I 67051520 2050), (I 2147483648 2051), (I 134217726 2052), (I 0 2053), (I 0 2054), (I 0 2055), (I 0 2056), (I 0 2057), (I 131072 2058), (I 0 2059), (I 2147483648 2060), (I 0 2061), (I 0 2062), (I 0 2063), (I 0 2064), (I 0 2065), (I 0 2066), (I 0 2067), (I 0 2068), (I 0 2069), (I 0 2070), (I 0 2071), (I 0 2072), (I 0 2073), (I 15 2074), (I 169 2075), (I 52 2076), (I 16 2077), (I 92 2078), (I 17 2079), (I 0 2080), (I 24 2081), (I 13 2082), (I 1 2083), (I 6 2084), (I 39 2085), (I 8 2086), (I 22 2087), (I 48 2088), (I 57 2089), (I 22 2090), (I 97 2091), (I 102 2092), (I 0 2093), (I 1 2094), (I 17 2095), (I 1 2096), (I 23 2097), (I 27 2098), (I 0 2099), (I 1 2100), (I 7 2101), (I 7 2102), (I 16 2103), (I 13 2104), (I 16 2105), (I 10 2106), (I 15 2107), (I 17 2108), (I 15 2109), (I 13 2110), (I 11 2111), (I 9 2112), (I 13824 2113), (I 1 2114), (I 0 2115), (I 0 2116), (I 0 2117), (I 0 2118), (I 0 2119), (I 0 2120), (I 0 2121), (I 15 2122), (I 2 2123), (I 0 2124), (I 18 2125), (I 15 2126), (I 117 2127), (I 18 2128), (I 16 2129), (I 92 2130), (I 39 2131), (I 12 2132), (I 21 2133), (I 9 2134), (I 13312 2135), (I 67043328 2136), (I 0 2137), (I 126 2138), (I 0 2139), (I 0 2140), (I 0 2141), (I 0 2142), (I 0 2143), (I 15 2144), (I 99 2145), (I 97 2146), (I 39 2147), (I 93 2148), (I 21 2149), (I 10 2150), (I 3 2151), (I 33685760 2152), (I 33686018 2153), (I 33686018 2154), (I 33686018 2155), (I 33686018 2156), (I 33686018 2157), (I 33686018 2158), (I 33686018 2159), (I 33686018 2160), (I 33686018 2161), (I 33686018 2162), (I 33686018 2163), (I 33686018 2164), (I 33686018 2165), (I 33686018 2166), (I 33686018 2167), (I 33686018 2168), (I 33686018 2169), (I 33686018 2170), (I 33686018 2171), (I 33686018 2172), (I 33686018 2173), (I 33686018 2174), (I 33686018 2175), (I 33686018 2176), (I 33686018 2177), (I 33686018 2178), (I 33686018 2179), (I 33686018 2180), (I 33686018 2181), (I 33686018 2182), (I 33686018 2183), (I 33686018 2184), (I 33686018 2185), (I 33686018 2186), (I 33686018 2187), (I 33686018 2188), (I 33686018 2189), (I 33686018 2190), (I 33686018 2191), (I 33686018 2192), (I 33686018 2193), (I 33686018 2194), (I 33686018 2195), (I 33686018 2196), (I 33686018 2197), (I 33686018 2198), (I 33686018 2199), (I 33686018 2200), (I 33686018 2201), (I 33686018 2202), (I 33686018 2203), (I 33686018 2204), (I 33686018 2205), (I 33686018 2206), (I 33686018 2207), (I 33686018 2208), (I 33686018 2209), (I 33686018 2210), (I 33686018 2211), (I 33686018 2212), (I 33686018 2213), (I 33686018 2214), (I 33686018 2215), (I 4294967295 2216), (I 4294967295 2217), (I 4160749569 2218), (I 4294967295 2219), (I 0 2220), (I 0 2221), (I 0 2222), (I 0 2223), (I 0 2224), (I 131072 2225), (I 0 2226), (I 2147483648 2227), (I 0 2228), (I 0 2229), (I 0 2230), (I 0 2231), (I 0 2232), (I 0 2233), (I 0 2234), (I 0 2235), (I 0 2236), (I 0 2237), (I 0 2238), (I 0 2239), (I 0 2240), (I 15 2241), (I 2 2242), (I 0 2243), (I 18 2244), (I 1 2245)] 0), #[]⟩
def a825 : Obj := ⟨(T "dict"), none, (.dict #[] 0), #[]⟩
def a826 : Obj := ⟨(T "tuple"), none, (.seq #[N, N] 0), #[]⟩
def a827 : Obj := ⟨(T "tuple"), none, (.seq #[(I 14 0), (I 8 0), (I 1 0), (I 2 0), (I 4294967295 0), (I 1 0), (I 1 0), (I 35 0), (I 0 0), (I 16 0), (I 35 0), (I 23 0), (I 268 0), (I 1 0), (I 4294967295 0), (I 7 0), (I 96 0), (I 39 0), (I 92 0), (I 10 0), (I 3 0), (I 33685760 0), (I 33686018 0), (I 33686018 0), (I 33686018 0), (I 33686018 0), (I 33686018 0), (I 33686018 0), (I 33686018 0), (I 33686018 0), (I 33686018 0), (I 33686018 0), (I 33686018 0), (I 33686018 0), (I 33686018 0), (I 33686018 0), (I 33686018 0), (I 33686018 0), (I 33686018 0), (I 33686018 0), (I 33686018 0), (I 33686018 0), (I 33686018 0), (I 33686018 0), (I 33686018 0), (I 33686018 0), (I 33686018 0), (I 33686018 0), (I 33686018 0), (I 33686018 0), (I 33686018 0), (I 33686018 0), (I 33686018 0), (I 33686018 0), (I 33686018 0), (I 33686018 0), (I 33686018 0), (I 33686018 0), (I 33686018 0), (I 33686018 0), (I 33686018 0), (I 33686018 0), (I 33686018 0), (I 33686018 0), (I 33686018 0), (I 33686018 0), (I 33686018 0), (I 33686018 0), (I 33686018 0), (I 33686018 0), (I 33686018 0), (I 33686018 0), (I 33686018 0), (I 33686018 0), (I 33686018 0), (I 33686018 0), (I 33686018 0), (I 33686018 0), (I 33686018 0), (I 33686018 0), (I 33686018 0), (I 33686018 0), (I 33686018 0), (I 33686018 0), (I 33686018 0), (I 0 0), (I 67051520 0), (I 2147483648 0), (I 134217726 0), (I 0 0), (I 0 0), (I 0 0), (I 0 0), (I 0 0), (I 131072 0), (I 0 0), (I 2147483648 0), (I 0 0), (I 0 0), (I 0 0), (I 0 0), (I 0 0), (I 0 0), (I 0 0), (I 0 0), (I 0 0), (I 0 0), (I 0 0), (I 0 0), (I 0 0), (I 15 0), (I 169 0), (I 52 0), (I 16 0), (I 92 0), (I 17 0), (I 0 0), (I 24 0), (I 13 0), (I 1 0), (I 6 0), (I 39 0), (I 8 0), (I 22 0), (I 48 0), (I 57 0), (I 22 0), (I 97 0), (I 102 0), (I 0 0), (I 1 0), (I 17 0), (I 1 0), (I 23 0), (I 27 0), (I 0 0), (I 1 0), (I 7 0), (I 7 0), (I 16 0), (I 13 0), (I 16 0), (I 10 0), (I 15 0), (I 17 0), (I 15 0), (I 13 0), (I 11 0), (I 9 0), (I 13824 0), (I 1 0), (I 0 0), (I 0 0), (I 0 0), (I 0 0), (I 0 0), (I 0 0), (I 0 0), (I 15 0), (I 2 0), (I 0 0), (I 18 0), (I 15 0), (I 117 0), (I 18 0), (I 16 0), (I 92 0), (I 39 0), (I 12 0), (I 21 0), (I 9 0), (I 13312 0), (I 67043328 0), (I 0 0), (I 126 0), (I 0 0), (I 0 0), (I 0 0), (I 0 0), (I 0 0), (I 15 0), (I 99 0), (I 97 0), (I 39 0), (I 93 0), (I 21 0), (I 10 0), (I 3 0), (I 33685760 0), (I 33686018 0), (I 33686018 0), (I 33686018 0), (I 33686018 0), (I 33686018 0), (I 33686018 0), (I 33686018 0), (I 33686018 0), (I 33686018 0), (I 33686018 0), (I 33686018 0), (I 33686018 0), (I 33686018 0), (I 33686018 0), (I 33686018 0), (I 33686018 0), (I 33686018 0), (I 33686018 0), (I 33686018 0), (I 33686018 0), (I 33686018 0), (I 33686018 0), (I 33686018 0), (I 33686018 0), (I 33686018 0), (I 33686018 0), (I 33686018 0), (I 33686018 0), (I 33686018 0), (I 33686018 0), (I 33686018 0), (I 33686018 0), (I 33686018 0), (I 33686018 0), (I 33686018 0), (I 33686018 0), (I 33686018 0), (I 33686018 0), (I 33686018 0), (I 33686018 0), (I 33686018 0), (I 33686018 0), (I 33686018 0), (I 33686018 0), (I 33686018 0), (I 33686018 0), (I 33686018 0), (I 33686018 0), (I 33686018 0), (I 33686018 0), (I 33686018 0), (I 33686018 0), (I 33686018 0), (I 33686018 0), (I 33686018 0), (I 33686018 0), (I 33686018 0), (I 33686018 0), (I 33686018 0), (I 33686018 0), (I 33686018 0), (I 33686018 0), (I 33686018 0), (I 4294967295 0), (I 4294967295 0), (I 4160749569 0), (I 4294967295 0), (I 0 0), (I 0 0), (I 0 0), (I 0 0), (I 0 0), (I 131072 0), (I 0 0), (I 2147483648 0), (I 0 0), (I 0 0), (I 0 0), (I 0 0), (I 0 0), (I 0 0), (I 0 0), (I 0 0), (I 0 0), (I 0 0), (I 0 0), (I 0 0), (I 0 0), (I 15 0), (I 2 0), (I 0 0), (I 18 0), (I 1 0)] 0), #[]⟩
def a828 : Obj := ⟨(T "re.Pattern"), none, (.fields #[(V "#(?:[_a-z0-9-]|\\\\([0-9a-f]{1,6})(?:\\r\\n|[ \\n\\r\\t\\f])?|\\\\[^\\n\\r\\f0-9a-f]|[^\\0-\\177])+" 1962), (I 34 2247), (I 1 0), N, N, (R 827), (I 0 0)]), #[]⟩
def T40 (P : Params) : BT := (n (a0 P) (n (a1 P) (n (a3v20 P) (n a7 (n a15 (n a31 (n a63 (n a127 (n a255 (n a511 z z) (n a767 z z)) (n a383 (n a639 z z) z)) (n a191 (n a319 (n a575 z z) z) (n a447 (n a703 z z) z))) (n a95 (n a159 (n a287 (n a543 z z) (n a799 z z)) (n a415 (n a671 z z) z)) (n a223 (n a351 (n a607 z z) z) (n a479 (n a735 z z) z)))) (n a47 (n a79 (n a143 (n a271 (n a527 z z) (n a783 z z)) (n a399 (n a655 z z) z)) (n a207 (n a335 (n a591 z z) z) (n a463 (n a719 z z) z))) (n a111 (n a175 (n a303 (n a559 z z) (n a815 z z)) (n a431 (n a687 z z) z)) (n a239 (n a367 (n a623 z z) z) (n a495 (n a751 z z) z))))) (n a23 (n a39 (n a71 (n a135 (n a263 (n a519 z z) (n a775 z z)) (n a391 (n a647 z z) z)) (n a199 (n a327 (n a583 z z) z) (n a455 (n a711 z z) z))) (n a103 (n a167 (n a295 (n a551 z z) (n a807 z z)) (n a423 (n a679 z z) z)) (n a231 (n a359 (n a615 z z) z) (n a487 (n a743 z z) z)))) (n a55 (n a87 (n a151 (n a279 (n a535 z z) (n a791 z z)) (n a407 (n a663 z z) z)) (n a215 (n a343 (n a599 z z) z) (n a471 (n a727 z z) z))) (n a119 (n a183 (n a311 (n a567 z z) (n a823 z z)) (n a439 (n a695 z z) z)) (n a247 (n a375 (n a631 z z) z) (n a503 (n a759 z z) z)))))) (n (a11 P) (n a19 (n a35 (n a67 (n a131 (n a259 (n a515 z z) (n a771 z z)) (n a387 (n a643 z z) z)) (n a195 (n a323 (n a579 z z) z) (n a451 (n a707 z z) z))) (n a99 (n a163 (n a291 (n a547 z z) (n a803 z z)) (n a419 (n a675 z z) z)) (n a227 (n a355 (n a611 z z) z) (n a483 (n a739 z z) z)))) (n a51 (n a83 (n a147 (n a275 (n a531 z z) (n a787 z z)) (n a403 (n a659 z z) z)) (n a211 (n a339 (n a595 z z) z) (n a467 (n a723 z z) z))) (n a115 (n a179 (n (a307 P) (n a563 z z) (n a819 z z)) (n a435 (n a691 z z) z)) (n a243 (n a371 (n a627 z z) z) (n a499 (n a755 z z) z))))) (n a27 (n a43 (n a75 (n a139 (n a267 (n a523 z z) (n a779 z z)) (n a395 (n a651 z z) z)) (n a203 (n a331 (n a587 z z) z) (n a459 (n a715 z z) z))) (n a107 (n a171 (n (a299 P) (n a555 z z) (n a811 z z)) (n a427 (n a683 z z) z)) (n a235 (n a363 (n a619 z z) z) (n a491 (n a747 z z) z)))) (n a59 (n (a91 P) (n a155 (n a283 (n a539 z z) (n a795 z z)) (n a411 (n a667 z z) z)) (n a219 (n a347 (n a603 z z) z) (n a475 (n (a731 P) z z) z))) (n a123 (n a187 (n a315 (n a571 z z) (n a827 z z)) (n a443 (n a699 z z) z)) (n a251 (n a379 (n a635 z z) z) (n a507 (n a763 z z) z))))))) (n a5 (n a9 (n a17 (n a33 (n a65 (n a129 (n (a257 P) (n a513 z z) (n a769 z z)) (n a385 (n a641 z z) z)) (n a193 (n a321 (n a577 z z) z) (n a449 (n a705 z z) z))) (n (a97 P) (n a161 (n a289 (n a545 z z) (n a801 z z)) (n a417 (n a673 z z) z)) (n a225 (n a353 (n a609 z z) z) (n a481 (n a737 z z) z)))) (n a49 (n a81 (n a145 (n a273 (n a529 z z) (n a785 z z)) (n a401 (n a657 z z) z)) (n a209 (n a337 (n a593 z z) z) (n a465 (n a721 z z) z))) (n a113 (n a177 (n a305 (n a561 z z) (n a817 z z)) (n a433 (n a689 z z) z)) (n a241 (n a369 (n a625 z z) z) (n a497 (n a753 z z) z))))) (n a25 (n a41 (n a73 (n a137 (n (a265 P) (n a521 z z) (n a777 z z)) (n a393 (n a649 z z) z)) (n a201 (n a329 (n a585 z z) z) (n a457 (n a713 z z) z))) (n a105 (n a169 (n a297 (n a553 z z) (n (a809 P) z z)) (n a425 (n a681 z z) z)) (n a233 (n a361 (n a617 z z) z) (n a489 (n a745 z z) z)))) (n a57 (n a89 (n a153 (n a281 (n a537 z z) (n a793 z z)) (n a409 (n a665 z z) z)) (n a217 (n a345 (n a601 z z) z) (n a473 (n a729 z z) z))) (n a121 (n a185 (n a313 (n a569 z z) (n a825 z z)) (n a441 (n a697 z z) z)) (n a249 (n a377 (n a633 z z) z) (n a505 (n a761 z z) z)))))) (n (a13 P) (n (a21 P) (n a37 (n a69 (n a133 (n a261 (n (a517 P) z z) (n a773 z z)) (n a389 (n a645 z z) z)) (n a197 (n a325 (n a581 z z) z) (n a453 (n a709 z z) z))) (n a101 (n a165 (n a293 (n a549 z z) (n a805 z z)) (n a421 (n a677 z z) z)) (n a229 (n a357 (n a613 z z) z) (n a485 (n a741 z z) z)))) (n a53 (n (a85 P) (n a149 (n a277 (n a533 z z) (n (a789 P) z z)) (n a405 (n a661 z z) z)) (n a213 (n (a341 P) (n a597 z z) z) (n a469 (n a725 z z) z))) (n a117 (n a181 (n a309 (n a565 z z) (n a821 z z)) (n a437 (n a693 z z) z)) (n a245 (n a373 (n a629 z z) z) (n a501 (n a757 z z) z))))) (n a29v19 (n a45 (n a77 (n a141 (n a269 (n (a525 P) z z) (n (a781 P) z z)) (n a397 (n a653 z z) z)) (n a205 (n a333 (n a589 z z) z) (n a461 (n a717 z z) z))) (n a109 (n a173 (n a301 (n a557 z z) (n a813 z z)) (n a429 (n a685 z z) z)) (n a237 (n a365 (n a621 z z) z) (n a493 (n a749 z z) z)))) (n a61 (n a93 (n a157 (n a285 (n a541 z z) (n a797 z z)) (n a413 (n a669 z z) z)) (n a221 (n a349 (n a605 z z) z) (n a477 (n a733 z z) z))) (n a125 (n a189 (n a317 (n a573 z z) z) (n a445 (n a701 z z) z)) (n a253 (n a381 (n a637 z z) z) (n a509 (n a765 z z) z)))))))) (n (a2v1 P) (n a4 (n a8 (n a16 (n a32 (n a64 (n a128 (n a256 (n a512 z z) (n a768 z z)) (n a384 (n a640 z z) z)) (n a192 (n a320 (n a576 z z) z) (n a448 (n a704 z z) z))) (n a96 (n a160 (n a288 (n a544 z z) (n a800 z z)) (n a416 (n a672 z z) z)) (n a224 (n a352 (n a608 z z) z) (n a480 (n a736 z z) z)))) (n a48 (n a80 (n a144 (n a272 (n a528 z z) (n a784 z z)) (n a400 (n a656 z z) z)) (n a208 (n a336 (n a592 z z) z) (n a464 (n a720 z z) z))) (n a112 (n a176 (n a304 (n (a560 P) z z) (n a816 z z)) (n (a432 P) (n a688 z z) z)) (n a240 (n a368 (n a624 z z) z) (n a496 (n a752 z z) z))))) (n a24 (n a40 (n (a72 P) (n a136 (n a264 (n a520 z z) (n a776 z z)) (n a392 (n a648 z z) z)) (n a200 (n a328 (n a584 z z) z) (n a456 (n a712 z z) z))) (n a104 (n a168 (n a296 (n a552 z z) (n a808 z z)) (n a424 (n a680 z z) z)) (n a232 (n a360 (n a616 z z) z) (n a488 (n a744 z z) z)))) (n a56 (n a88 (n a152 (n a280 (n a536 z z) (n a792 z z)) (n a408 (n a664 z z) z)) (n a216 (n a344 (n a600 z z) z) (n a472 (n a728 z z) z))) (n a120 (n a184 (n a312 (n (a568 P) z z) (n a824 z z)) (n (a440 P) (n a696 z z) z)) (n a248 (n a376 (n a632 z z) z) (n a504 (n a760 z z) z)))))) (n a12 (n (a20 P) (n a36 (n a68 (n (a132 P) (n a260 (n a516 z z) (n a772 z z)) (n a388 (n (a644 P) z z) z)) (n a196 (n a324 (n a580 z z) z) (n a452 (n a708 z z) z))) (n a100 (n a164 (n a292 (n a548 z z) (n a804 z z)) (n a420 (n a676 z z) z)) (n a228 (n (a356 P) (n a612 z z) z) (n a484 (n a740 z z) z)))) (n a52 (n a84 (n a148 (n a276 (n a532 z z) (n a788 z z)) (n a404 (n a660 z z) z)) (n (a212 P) (n a340 (n a596 z z) z) (n a468 (n a724 z z) z))) (n a116 (n a180 (n a308 (n a564 z z) (n a820 z z)) (n a436 (n a692 z z) z)) (n a244 (n a372 (n a628 z z) z) (n a500 (n a756 z z) z))))) (n a28 (n a44 (n a76 (n (a140 P) (n a268 (n a524 z z) (n a780 z z)) (n a396 (n a652 z z) z)) (n a204 (n a332 (n a588 z z) z) (n a460 (n a716 z z) z))) (n a108 (n a172 (n a300 (n a556 z z) (n a812 z z)) (n a428 (n a684 z z) z)) (n a236 (n a364 (n a620 z z) z) (n a492 (n a748 z z) z)))) (n a60 (n a92 (n a156 (n a284 (n a540 z z) (n a796 z z)) (n a412 (n a668 z z) z)) (n (a220 P) (n a348 (n a604 z z) z) (n a476 (n a732 z z) z))) (n a124 (n a188 (n a316 (n a572 z z) (n a828 z z)) (n a444 (n a700 z z) z)) (n a252 (n a380 (n a636 z z) z) (n a508 (n a764 z z) z))))))) (n a6 (n a10 (n a18 (n a34 (n a66 (n a130 (n a258 (n a514 z z) (n a770 z z)) (n a386 (n a642 z z) z)) (n a194 (n a322 (n a578 z z) z) (n a450 (n a706 z z) z))) (n a98 (n a162 (n a290 (n a546 z z) (n a802 z z)) (n a418 (n a674 z z) z)) (n a226 (n a354 (n (a610 P) z z) z) (n (a482 P) (n a738 z z) z)))) (n a50 (n a82 (n a146 (n a274 (n a530 z z) (n a786 z z)) (n a402 (n a658 z z) z)) (n a210 (n a338 (n a594 z z) z) (n a466 (n a722 z z) z))) (n a114 (n a178 (n a306 (n a562 z z) (n a818 z z)) (n a434 (n a690 z z) z)) (n a242 (n a370 (n a626 z z) z) (n a498 (n a754 z z) z))))) (n a26 (n a42 (n a74 (n a138 (n a266 (n a522 z z) (n a778 z z)) (n a394 (n a650 z z) z)) (n a202 (n a330 (n a586 z z) z) (n a458 (n a714 z z) z))) (n a106 (n a170 (n a298 (n a554 z z) (n a810 z z)) (n a426 (n a682 z z) z)) (n a234 (n a362 (n a618 z z) z) (n a490 (n a746 z z) z)))) (n a58 (n a90 (n a154 (n a282 (n a538 z z) (n a794 z z)) (n a410 (n a666 z z) z)) (n a218 (n a346 (n (a602 P) z z) z) (n (a474 P) (n a730 z z) z))) (n a122 (n a186 (n a314 (n a570 z z) (n a826 z z)) (n a442 (n a698 z z) z)) (n a250 (n a378 (n a634 z z) z) (n a506 (n a762 z z) z)))))) (n a14 (n a22 (n a38 (n a70 (n a134 (n a262 (n a518 z z) (n a774 z z)) (n (a390 P) (n a646 z z) z)) (n a198 (n a326 (n a582 z z) z) (n a454 (n a710 z z) z))) (n a102 (n a166 (n a294 (n a550 z z) (n a806 z z)) (n a422 (n a678 z z) z)) (n a230 (n a358 (n a614 z z) z) (n a486 (n a742 z z) z)))) (n a54 (n a86 (n a150 (n a278 (n a534 z z) (n a790 z z)) (n a406 (n a662 z z) z)) (n a214 (n a342 (n a598 z z) z) (n a470 (n a726 z z) z))) (n a118 (n (a182 P) (n a310 (n a566 z z) (n a822 z z)) (n a438 (n a694 z z) z)) (n a246 (n a374 (n a630 z z) z) (n a502 (n a758 z z) z))))) (n a30 (n a46 (n (a78 P) (n a142 (n a270 (n a526 z z) (n a782v1 z z)) (n (a398 P) (n a654 z z) z)) (n a206 (n a334 (n a590 z z) z) (n a462 (n a718 z z) z))) (n a110 (n (a174 P) (n a302 (n a558 z z) (n a814 z z)) (n a430 (n a686 z z) z)) (n a238 (n a366 (n a622 z z) z) (n a494 (n a750 z z) z)))) (n a62 (n a94 (n a158 (n a286 (n a542 z z) (n a798 z z)) (n a414 (n a670 z z) z)) (n a222 (n a350 (n a606 z z) z) (n a478 (n a734 z z) z))) (n a126 (n a190 (n a318 (n a574 z z) z) (n a446 (n a702 z z) z)) (n a254 (n a382 (n a638 z z) z) (n a510 (n a766 z z) z)))))))))
def a3v21 (P : Params) : Obj := grow (a3v20 P) #[E P "_match_ident" 2802 (R 833)] 50
def a829 : Obj := ⟨(T "list"), none, (.seq #[(I 14 2252), (I 4 2253), (I 0 2254), (I 1 2255), (I 4294967295 2256), (I 24 2257), (I 6 2258), (I 0 2259), (I 1 2260), (I 16 2261), (I 45 2262), (I 1 2263), (I 7 2264), (I 96 2265), (I 39 2266), (I 92 2267), (I 10 2268), (I 3 2269), (I 33685760 2270), (I 33686018 2271), (I 33686018 2272), (I 33686018 2273), (I 33686018 2274), (I 33686018 2275), (I 33686018 2276), (I 33686018 2277), (I 33686018 2278), (I 33686018 2279), (I 33686018 2280), (I 33686018 2281), (I 33686018 2282), (I 33686018 2283), (I 33686018 2284), (I 33686018 2285), (I 33686018 2286), (I 33686018 2287), (I 33686018 2288), (I 33686018 2289), (I 33686018 2290), (I 33686018 2291), (I 33686018 2292), (I 33686018 2293), (I 33686018 2294), (I 33686018 2295), (I 33686018 2296), (I 33686018 2297), (I 33686018 2298), (I 33686018 2299), (I 33686018 2300), (I 33686018 2301), (I 33686018 2302), (I 33686018 2303), (I 33686018 2304), (I 33686018 2305), (I 33686018 2306), (I 33686018 2307), (I 33686018 2308), (I 33686018 2309), (I 33686018 2310), (I 33686018 2311), (I 33686018 2312), (I 33686018 2313), (I 33686018 2314), (I 33686018 2315), (I 33686018 2316), (I 33686018 2317), (I 33686018 2318), (I 33686018 2319), (I 33686018 2320), (I 33686018 2321), (I 33686018 2322), (I 33686018 2323), (I 33686018 2324), (I 33686018 2325), (I 33686018 2326), (I 33686018 2327), (I 33686018 2328), (I 33686018 2329), (I 33686018 2330), (I 33686018 2331), (I 33686018 2332), (I 33686018 2333), (I 0 2334), (I 0 2335), (I 2147483648 2336), (I 134217726 2337), (I 0 2338), (I 0 2339), (I 0 2340), (I 0 2341), (I 0 2342), (I 131072 2343), (I 0 2344), (I 2147483648 2345), (I 0 2346), (I 0 2347), (I 0 2348), (I 0 2349), (I 0 2350), (I 0 2351), (I 0 2352), (I 0 2353), (I 0 2354), (I 0 2355), (I 0 2356), (I 0 2357), (I 0 2358), (I 15 2359), (I 169 2360), (I 52 2361), (I 16 2362), (I 92 2363), (I 17 2364), (I 0 2365), (I 24 2366), (I 13 2367), (I 1 2368), (I 6 2369), (I 39 2370), (I 8 2371), (I 22 2372), (I 48 2373), (I 57 2374), (I 22 2375), (I 97 2376), (I 102 2377), (I 0 2378), (I 1 2379), (I 17 2380), (I 1 2381), (I 23 2382), (I 27 2383), (I 0 2384), (I 1 2385), (I 7 2386), (I 7 2387), (I 16 2388), (I 13 2389), (I 16 2390), (I 10 2391), (I 15 2392), (I 17 2393), (I 15 2394), (I 13 2395), (I 11 2396), (I 9 2397), (I 13824 2398), (I 1 2399), (I 0 2400), (I 0 2401), (I 0 2402), (I 0 2403), (I 0 2404), (I 0 2405), (I 0 2406), (I 15 2407), (I 2 2408), (I 0 2409), (I 18 2410), (I 15 2411), (I 117 2412), (I 18 2413), (I 16 2414), (I 92 2415), (I 39 2416), (I 12 2417), (I 21 2418), (I 9 2419), (I 13312 2420), (I 67043328 2421), (I 0 2422), (I 126 2423), (I 0 2424), (I 0 2425), (I 0 2426), (I 0 2427), (I 0 2428), (I 15 2429), (I 99 2430), (I 97 2431), (I 39 2432), (I 93 2433), (I 21 2434), (I 10 2435), (I 3 2436), (I 33685760 2437), (I 33686018 2438), (I 33686018 2439), (I 33686018 2440), (I 33686018 2441), (I 33686018 2442), (I 33686018 2443), (I 33686018 2444), (I 33686018 2445), (I 33686018 2446), (I 33686018 2447), (I 33686018 2448), (I 33686018 2449), (I 33686018 2450), (I 33686018 2451), (I 33686018 2452), (I 33686018 2453), (I 33686018 2454), (I 33686018 2455), (I 33686018 2456), (I 33686018 2457), (I 33686018 2458), (I 33686018 2459), (I 33686018 2460), (I 33686018 2461), (I 33686018 2462), (I 33686018 2463), (I 33686018 2464), (I 33686018 2465), (I 33686018 2466), (I 33686018 2467), (I 33686018 2468), (I 33686018 2469), (I 33686018 2470), (I 33686018 2471), (I 33686018 2472), (I 33686018 2473), (I 33686018 2474), (I 33686018 2475), (I 33686018 2476), (I 33686018 2477), (I 33686018 2478), (I 33686018 2479), (I 33686018 2480), (I 33686018 2481), (I 33686018 2482), (I 33686018 2483), (I 33686018 2484), (I 33686018 2485), (I 33686018 2486), (I 33686018 2487), (I 33686018 2488), (I 33686018 2489), (I 33686018 2490), (I 33686018 2491), (I 33686018 2492), (I 33686018 2493), (I 33686018 2494), (I 33686018 2495), (I 33686018 2496), (I 33686018 2497), (I 33686018 2498), (I 33686018 2499), (I 33686018 2500), (I 4294967295 2501), (I 4294967295 2502), (I 4160749569 2503), (I 4294967295 2504), (I 0 2505), (I 0 2506), (I 0 2507), (I 0 2508), (I 0 2509), (I 131072 2510), (I 0 2511), (I 2147483648 2512), (I 0 2513), (I 0 2514), (I 0 2515), (I 0 2516), (I 0 2517), (I 0 2518), (I 0 2519), (I 0 2520), (I 0 2521), (I 0 2522), (I 0 2523), (I 0 2524), (I 0 2525), (I 15 2526), (I 2 2527), (I 0 2528), (I 23 2529), (I 268 2530), (I 0 2531), (I 4294967295 2532), (I 7 2533), (I 96 2534), (I 39 2535), (I 92 2536), (I 10 2537), (I 3 2538), (I 33685760 2539), (I 33686018 2540), (I 33686018 2541), (I 33686018 2542), (I 33686018 2543), (I 33686018 2544), (I 33686018 2545), (I 33686018 2546), (I 33686018 2547), (I 33686018 2548), (I 33686018 2549), (I 33686018 2550), (I 33686018 2551), (I 33686018 2552), (I 33686018 2553), (I 33686018 2554), (I 33686018 2555), (I 33686018 2556), (I 33686018 2557), (I 33686018 2558), (I 33686018 2559), (I 33686018 2560), (I 33686018 2561), (I 33686018 2562), (I 33686018 2563), (I 33686018 2564), (I 33686018 2565), (I 33686018 2566), (I 33686018 2567), (I 33686018 2568), (I 33686018 2569), (I 33686018 2570), (I 33686018 2571), (I 33686018 2572), (I 33686018 2573), (I 33686018 2574), (I 33686018 2575), (I 33686018 2576), (I 33686018 2577), (I 33686018 2578), (I 33686018 2579), (I 33686018 2580), (I 33686018 2581), (I 33686018 2582), (I 33686018 2583), (I 33686018 2584), (I 33686018 2585), (I 33686018 2586), (I 33686018 2587), (I 33686018 2588), (I 33686018 2589), (I 33686018 2590), (I 33686018 2591), (I 33686018 2592), (I 33686018 2593), (I 33686018 2594), (I 33686018 2595), (I 33686018 2596), (I 33686018 2597), (I 33686018 2598), (I 33686018 2599), (I 33686018 2600), (I 33686018 2601), (I 33686018 2602), (I 0 2603), (I 67051520 2604), (I 2147483648 2605), (I 134217726 2606), (I 0 2607), (I 0 2608), (I 0 2609), (I 0 2610), (I 0 2611), (I 131072 2612), (I 0 2613), (I 2147483648 2614), (I 0 2615), (I 0 2616), (I 0 2617), (I 0 2618), (I 0 2619), (I 0 2620), (I 0 2621), (I 0 2622), (I 0 2623), (I 0 2624), (I 0 2625), (I 0 2626), (I 0 2627), (I 15 2628), (I 169 2629), (I 52 2630), (I 16 2631), (I 92 2632), (I 17 2633), (I 2 2634), (I 24 2635), (I 13 2636), (I 1 2637), (I 6 2638), (I 39 2639), (I 8 2640), (I 22 2641), (I 48 2642), (I 57 2643), (I 22 2644), (I 97 2645), (I 102 2646), (I 0 2647), (I 1 2648), (I 17 2649), (I 3 2650), (I 23 2651), (I 27 2652), (I 0 2653), (I 1 2654), (I 7 2655), (I 7 2656), (I 16 2657), (I 13 2658), (I 16 2659), (I 10 2660), (I 15 2661), (I 17 2662), (I 15 2663), (I 13 2664), (I 11 2665), (I 9 2666), (I 13824 2667), (I 1 2668), (I 0 2669), (I 0 2670), (I 0 2671), (I 0 2672), (I 0 2673), (I 0 2674), (I 0 2675), (I 15 2676), (I 2 2677), (I 0 2678), (I 18 2679), (I 15 2680), (I 117 2681), (I 18 2682), (I 16 2683), (I 92 2684), (I 39 2685), (I 12 2686), (I 21 2687), (I 9 2688), (I 13312 2689), (I 67043328 2690), (I 0 2691), (I 126 2692), (I 0 2693), (I 0 2694), (I 0 2695), (I 0 2696), (I 0 2697), (I 15 2698), (I 99 2699), (I 97 2700), (I 39 2701), (I 93 2702), (I 21 2703), (I 10 2704), (I 3 2705), (I 33685760 2706), (I 33686018 2707), (I 33686018 2708), (I 33686018 2709), (I 33686018 2710), (I 33686018 2711), (I 33686018 2712), (I 33686018 2713), (I 33686018 2714), (I 33686018 2715), (I 33686018 2716), (I 33686018 2717), (I 33686018 2718), (I 33686018 2719), (I 33686018 2720), (I 33686018 2721), (I 33686018 2722), (I 33686018 2723), (I 33686018 2724), (I 33686018 2725), (I 33686018 2726), (I 33686018 2727), (I 33686018 2728), (I 33686018 2729), (I 33686018 2730), (I 33686018 2731), (I 33686018 2732), (I 33686018 2733), (I 33686018 2734), (I 33686018 2735), (I 33686018 2736), (I 33686018 2737), (I 33686018 2738), (I 33686018 2739), (I 33686018 2740), (I 33686018 2741), (I 33686018 2742), (I 33686018 2743), (I 33686018 2744), (I 33686018 2745), (I 33686018 2746), (I 33686018 2747), (I 33686018 2748), (I 33686018 2749), (I 33686018 2750), (I 33686018 2751), (I 33686018 2752), (I 33686018 2753), (I 33686018 2754), (I 33686018 2755), (I 33686018 2756), (I 33686018 2757), (I 33686018 2758), (I 33686018 2759), (I 33686018 2760), (I 33686018 2761), (I 33686018 2762), (I 33686018 2763), (I 33686018 2764), (I 33686018 2765), (I 33686018 2766), (I 33686018 2767), (I 33686018 2768), (I 33686018 2769), (I 4294967295 2770), (I 4294967295 2771), (I 4160749569 2772), (I 4294967295 2773), (I 0 2774), (I 0 2775), (I 0 2776), (I 0 2777), (I 0 2778), (I 131072 2779), (I 0 2780), (I 2147483648 2781), (I 0 2782), (I 0 2783), (I 0 2784), (I 0 2785), (I 0 2786), (I 0 2787), (I 0 2788), (I 0 2789), (I 0 2790), (I 0 2791), (I 0 2792), (I 0 2793), (I 0 2794), (I 15 2795), (I 2 2796), (I 0 2797), (I 18 2798), (I 1 2799)] 0), #[]⟩
def a830 : Obj := ⟨(T "dict"), none, (.dict #[] 0), #[]⟩
def a831 : Obj := ⟨(T "tuple"), none, (.seq #[N, N, N] 0), #[]⟩
def a832 : Obj := ⟨(T "tuple"), none, (.seq #[(I 14 0), (I 4 0), (I 0 0), (I 1 0), (I 4294967295 0), (I 24 0), (I 6 0), (I 0 0), (I 1 0), (I 16 0), (I 45 0), (I 1 0), (I 7 0), (I 96 0), (I 39 0), (I 92 0), (I 10 0), (I 3 0), (I 33685760 0), (I 33686018 0), (I 33686018 0), (I 33686018 0), (I 33686018 0), (I 33686018 0), (I 33686018 0), (I 33686018 0), (I 33686018 0), (I 33686018 0), (I 33686018 0), (I 33686018 0), (I 33686018 0), (I 33686018 0), (I 33686018 0), (I 33686018 0), (I 33686018 0), (I 33686018 0), (I 33686018 0), (I 33686018 0), (I 33686018 0), (I 33686018 0), (I 33686018 0), (I 33686018 0), (I 33686018 0), (I 33686018 0), (I 33686018 0), (I 33686018 0), (I 33686018 0), (I 33686018 0), (I 33686018 0), (I 33686018 0), (I 33686018 0), (I 33686018 0), (I 33686018 0), (I 33686018 0), (I 33686018 0), (I 33686018 0), (I 33686018 0), (I 33686018 0), (I 33686018 0), (I 33686018 0), (I 33686018 0), (I 33686018 0), (I 33686018 0), (I 33686018 0), (I 33686018 0), (I 33686018 0), (I 33686018 0), (I 33686018 0), (I 33686018 0), (I 33686018 0), (I 33686018 0), (I 33686018 0), (I 33686018 0), (I 33686018 0), (I 33686018 0), (I 33686018 0), (I 33686018 0), (I 33686018 0), (I 33686018 0), (I 33686018 0), (I 33686018 0), (I 33686018 0), (I 0 0), (I 0 0), (I 2147483648 0), (I 134217726 0), (I 0 0), (I 0 0), (I 0 0), (I 0 0), (I 0 0), (I 131072 0), (I 0 0), (I 2147483648 0), (I 0 0), (I 0 0), (I 0 0), (I 0 0), (I 0 0), (I 0 0), (I 0 0), (I 0 0), (I 0 0), (I 0 0), (I 0 0), (I 0 0), (I 0 0), (I 15 0), (I 169 0), (I 52 0), (I 16 0), (I 92 0), (I 17 0), (I 0 0), (I 24 0), (I 13 0), (I 1 0), (I 6 0), (I 39 0), (I 8 0), (I 22 0), (I 48 0), (I 57 0), (I 22 0), (I 97 0), (I 102 0), (I 0 0), (I 1 0), (I 17 0), (I 1 0), (I 23 0), (I 27 0), (I 0 0), (I 1 0), (I 7 0), (I 7 0), (I 16 0), (I 13 0), (I 16 0), (I 10 0), (I 15 0), (I 17 0), (I 15 0), (I 13 0), (I 11 0), (I 9 0), (I 13824 0), (I 1 0), (I 0 0), (I 0 0), (I 0 0), (I 0 0), (I 0 0), (I 0 0), (I 0 0), (I 15 0), (I 2 0), (I 0 0), (I 18 0), (I 15 0), (I 117 0), (I 18 0), (I 16 0), (I 92 0), (I 39 0), (I 12 0), (I 21 0), (I 9 0), (I 13312 0), (I 67043328 0), (I 0 0), (I 126 0), (I 0 0), (I 0 0), (I 0 0), (I 0 0), (I 0 0), (I 15 0), (I 99 0), (I 97 0), (I 39 0), (I 93 0), (I 21 0), (I 10 0), (I 3 0), (I 33685760 0), (I 33686018 0), (I 33686018 0), (I 33686018 0), (I 33686018 0), (I 33686018 0), (I 33686018 0), (I 33686018 0), (I 33686018 0), (I 33686018 0), (I 33686018 0), (I 33686018 0), (I 33686018 0), (I 33686018 0), (I 33686018 0), (I 33686018 0), (I 33686018 0), (I 33686018 0), (I 33686018 0), (I 33686018 0), (I 33686018 0), (I 33686018 0), (I 33686018 0), (I 33686018 0), (I 33686018 0), (I 33686018 0), (I 33686018 0), (I 33686018 0), (I 33686018 0), (I 33686018 0), (I 33686018 0), (I 33686018 0), (I 33686018 0), (I 33686018 0), (I 33686018 0), (I 33686018 0), (I 33686018 0), (I 33686018 0), (I 33686018 0), (I 33686018 0), (I 33686018 0), (I 33686018 0), (I 33686018 0), (I 33686018 0), (I 33686018 0), (I 33686018 0), (I 33686018 0), (I 33686018 0), (I 33686018 0), (I 33686018 0), (I 33686018 0), (I 33686018 0), (I 33686018 0), (I 33686018 0), (I 33686018 0), (I 33686018 0), (I 33686018 0), (I 33686018 0), (I 33686018 0), (I 33686018 0), (I 33686018 0), (I 33686018 0), (I 33686018 0), (I 33686018 0), (I 4294967295 0), (I 4294967295 0), (I 4160749569 0), (I 4294967295 0), (I 0 0), (I 0 0), (I 0 0), (I 0 0), (I 0 0), (I 131072 0), (I 0 0), (I 2147483648 0), (I 0 0), (I 0 0), (I 0 0), (I 0 0), (I 0 0), (I 0 0), (I 0 0), (I 0 0), (I 0 0), (I 0 0), (I 0 0), (I 0 0), (I 0 0), (I 15 0), (I 2 0), (I 0 0), (I 23 0), (I 268 0), (I 0 0), (I 4294967295 0), (I 7 0), (I 96 0), (I 39 0), (I 92 0), (I 10 0), (I 3 0), (I 33685760 0), (I 33686018 0), (I 33686018 0), (I 33686018 0), (I 33686018 0), (I 33686018 0), (I 33686018 0), (I 33686018 0), (I 33686018 0), (I 33686018 0), (I 33686018 0), (I 33686018 0), (I 33686018 0), (I 33686018 0), (I 33686018 0), (I 33686018 0), (I 33686018 0), (I 33686018 0), (I 33686018 0), (I 33686018 0), (I 33686018 0), (I 33686018 0), (I 33686018 0), (I 33686018 0), (I 33686018 0), (I 33686018 0), (I 33686018 0), (I 33686018 0), (I 33686018 0), (I 33686018 0), (I 33686018 0), (I 33686018 0), (I 33686018 0), (I 33686018 0), (I 33686018 0), (I 33686018 0), (I 33686018 0), (I 33686018 0), (I 33686018 0), (I 33686018 0), (I 33686018 0), (I 33686018 0), (I 33686018 0), (I 33686018 0), (I 33686018 0), (I 33686018 0), (I 33686018 0), (I 33686018 0), (I 33686018 0), (I 33686018 0), (I 33686018 0), (I 33686018 0), (I 33686018 0), (I 33686018 0), (I 33686018 0), (I 33686018 0), (I 33686018 0), (I 33686018 0), (I 33686018 0), (I 33686018 0), (I 33686018 0), (I 33686018 0), (I 33686018 0), (I 33686018 0), (I 0 0), (I 67051520 0), (I 2147483648 0), (I 134217726 0), (I 0 0), (I 0 0), (I 0 0), (I 0 0), (I 0 0), (I 131072 0), (I 0 0), (I 2147483648 0), (I 0 0), (I 0 0), (I 0 0), (I 0 0), (I 0 0), (I 0 0), (I 0 0), (I 0 0), (I 0 0), (I 0 0), (I 0 0), (I 0 0), (I 0 0), (I 15 0), (I 169 0), (I 52 0), (I 16 0), (I 92 0), (I 17 0), (I 2 0), (I 24 0), (I 13 0), (I 1 0), (I 6 0), (I 39 0), (I 8 0), (I 22 0), (I 48 0), (I 57 0), (I 22 0), (I 97 0), (I 102 0), (I 0 0), (I 1 0), (I 17 0), (I 3 0), (I 23 0), (I 27 0), (I 0 0), (I 1 0), (I 7 0), (I 7 0), (I 16 0), (I 13 0), (I 16 0), (I 10 0), (I 15 0), (I 17 0), (I 15 0), (I 13 0), (I 11 0), (I 9 0), (I 13824 0), (I 1 0), (I 0 0), (I 0 0), (I 0 0), (I 0 0), (I 0 0), (I 0 0), (I 0 0), (I 15 0), (I 2 0), (I 0 0), (I 18 0), (I 15 0), (I 117 0), (I 18 0), (I 16 0), (I 92 0), (I 39 0), (I 12 0), (I 21 0), (I 9 0), (I 13312 0), (I 67043328 0), (I 0 0), (I 126 0), (I 0 0), (I 0 0), (I 0 0), (I 0 0), (I 0 0), (I 15 0), (I 99 0), (I 97 0), (I 39 0), (I 93 0), (I 21 0), (I 10 0), (I 3 0), (I 33685760 0), (I 33686018 0), (I 33686018 0), (I 33686018 0), (I 33686018 0), (I 33686018 0), (I 33686018 0), (I 33686018 0), (I 33686018 0), (I 33686018 0), (I 33686018 0), (I 33686018 0), (I 33686018 0), (I 33686018 0), (I 33686018 0), (I 33686018 0), (I 33686018 0), (I 33686018 0), (I 33686018 0), (I 33686018 0), (I 33686018 0), (I 33686018 0), (I 33686018 0), (I 33686018 0), (I 33686018 0), (I 33686018 0), (I 33686018 0), (I 33686018 0), (I 33686018 0), (I 33686018 0), (I 33686018 0), (I 33686018 0), (I 33686018 0), (I 33686018 0), (I 33686018 0), (I 33686018 0), (I 33686018 0), (I 33686018 0), (I 33686018 0), (I 33686018 0), (I 33686018 0), (I 33686018 0), (I 33686018 0), (I 33686018 0), (I 33686018 0), (I 33686018 0), (I 33686018 0), (I 33686018 0), (I 33686018 0), (I 33686018 0), (I 33686018 0), (I 33686018 0), (I 33686018 0), (I 33686018 0), (I 33686018 0), (I 33686018 0), (I 33686018 0), (I 33686018 0), (I 33686018 0), (I 33686018 0), (I 33686018 0), (I 33686018 0), (I 33686018 0), (I 33686018 0), (I 4294967295 0), (I 4294967295 0), (I 4160749569 0), (I 4294967295 0), (I 0 0), (I 0 0), (I 0 0), (I 0 0), (I 0 0), (I 131072 0), (I 0 0), (I 2147483648 0), (I 0 0), (I 0 0), (I 0 0), (I 0 0), (I 0 0), (I 0 0), (I 0 0), (I 0 0), (I 0 0), (I 0 0), (I 0 0), (I 0 0), (I 0 0), (I 15 0), (I 2 0), (I 0 0), (I 18 0), (I 1 0)] 0), #[]⟩
def a833 : Obj := ⟨(T "re.Pattern"), none, (.fields #[(V "-?(?:[_a-z]|\\\\([0-9a-f]{1,6})(?:\\r\\n|[ \\n\\r\\t\\f])?|\\\\[^\\n\\r\\f0-9a-f]|[^\\0-\\177])(?:[_a-z0-9-]|\\\\([0-9a-f]{1,6})(?:\\r\\n|[ \\n\\r\\t\\f])?|\\\\[^\\n\\r\\f0-9a-f]|[^\\0-\\177])*" 2250), (I 34 2801), (I 2 0), N, N, (R 832), (I 0 0)]), #[]⟩
def T41 (P : Params) : BT := (n (a0 P) (n (a1 P) (n (a3v21 P) (n a7 (n a15 (n a31 (n a63 (n a127 (n a255 (n a511 z z) (n a767 z z)) (n a383 (n a639 z z) z)) (n a191 (n a319 (n a575 z z) (n a831 z z)) (n a447 (n a703 z z) z))) (n a95 (n a159 (n a287 (n a543 z z) (n a799 z z)) (n a415 (n a671 z z) z)) (n a223 (n a351 (n a607 z z) z) (n a479 (n a735 z z) z)))) (n a47 (n a79 (n a143 (n a271 (n a527 z z) (n a783 z z)) (n a399 (n a655 z z) z)) (n a207 (n a335 (n a591 z z) z) (n a463 (n a719 z z) z))) (n a111 (n a175 (n a303 (n a559 z z) (n a815 z z)) (n a431 (n a687 z z) z)) (n a239 (n a367 (n a623 z z) z) (n a495 (n a751 z z) z))))) (n a23 (n a39 (n a71 (n a135 (n a263 (n a519 z z) (n a775 z z)) (n a391 (n a647 z z) z)) (n a199 (n a327 (n a583 z z) z) (n a455 (n a711 z z) z))) (n a103 (n a167 (n a295 (n a551 z z) (n a807 z z)) (n a423 (n a679 z z) z)) (n a231 (n a359 (n a615 z z) z) (n a487 (n a743 z z) z)))) (n a55 (n a87 (n a151 (n a279 (n a535 z z) (n a791 z z)) (n a407 (n a663 z z) z)) (n a215 (n a343 (n a599 z z) z) (n a471 (n a727 z z) z))) (n a119 (n a183 (n a311 (n a567 z z) (n a823 z z)) (n a439 (n a695 z z) z)) (n a247 (n a375 (n a631 z z) z) (n a503 (n a759 z z) z)))))) (n (a11 P) (n a19 (n a35 (n a67 (n a131 (n a259 (n a515 z z) (n a771 z z)) (n a387 (n a643 z z) z)) (n a195 (n a323 (n a579 z z) z) (n a451 (n a707 z z) z))) (n a99 (n a163 (n a291 (n a547 z z) (n a803 z z)) (n a419 (n a675 z z) z)) (n a227 (n a355 (n a611 z z) z) (n a483 (n a739 z z) z)))) (n a51 (n a83 (n a147 (n a275 (n a531 z z) (n a787 z z)) (n a403 (n a659 z z) z)) (n a211 (n a339 (n a595 z z) z) (n a467 (n a723 z z) z))) (n a115 (n a179 (n (a307 P) (n a563 z z) (n a819 z z)) (n a435 (n a691 z z) z)) (n a243 (n a371 (n a627 z z) z) (n a499 (n a755 z z) z))))) (n a27 (n a43 (n a75 (n a139 (n a267 (n a523 z z) (n a779 z z)) (n a395 (n a651 z z) z)) (n a203 (n a331 (n a587 z z) z) (n a459 (n a715 z z) z))) (n a107 (n a171 (n (a299 P) (n a555 z z) (n a811 z z)) (n a427 (n a683 z z) z)) (n a235 (n a363 (n a619 z z) z) (n a491 (n a747 z z) z)))) (n a59 (n (a91 P) (n a155 (n a283 (n a539 z z) (n a795 z z)) (n a411 (n a667 z z) z)) (n a219 (n a347 (n a603 z z) z) (n a475 (n (a731 P) z z) z))) (n a123 (n a187 (n a315 (n a571 z z) (n a827 z z)) (n a443 (n a699 z z) z)) (n a251 (n a379 (n a635 z z) z) (n a507 (n a763 z z) z))))))) (n a5 (n a9 (n a17 (n a33 (n a65 (n a129 (n (a257 P) (n a513 z z) (n a769 z z)) (n a385 (n a641 z z) z)) (n a193 (n a321 (n a577 z z) (n a833 z z)) (n a449 (n a705 z z) z))) (n (a97 P) (n a161 (n a289 (n a545 z z) (n a801 z z)) (n a417 (n a673 z z) z)) (n a225 (n a353 (n a609 z z) z) (n a481 (n a737 z z) z)))) (n a49 (n a81 (n a145 (n a273 (n a529 z z) (n a785 z z)) (n a401 (n a657 z z) z)) (n a209 (n a337 (n a593 z z) z) (n a465 (n a721 z z) z))) (n a113 (n a177 (n a305 (n a561 z z) (n a817 z z)) (n a433 (n a689 z z) z)) (n a241 (n a369 (n a625 z z) z) (n a497 (n a753 z z) z))))) (n a25 (n a41 (n a73 (n a137 (n (a265 P) (n a521 z z) (n a777 z z)) (n a393 (n a649 z z) z)) (n a201 (n a329 (n a585 z z) z) (n a457 (n a713 z z) z))) (n a105 (n a169 (n a297 (n a553 z z) (n (a809 P) z z)) (n a425 (n a681 z z) z)) (n a233 (n a361 (n a617 z z) z) (n a489 (n a745 z z) z)))) (n a57 (n a89 (n a153 (n a281 (n a537 z z) (n a793 z z)) (n a409 (n a665 z z) z)) (n a217 (n a345 (n a601 z z) z) (n a473 (n a729 z z) z))) (n a121 (n a185 (n a313 (n a569 z z) (n a825 z z)) (n a441 (n a697 z z) z)) (n a249 (n a377 (n a633 z z) z) (n a505 (n a761 z z) z)))))) (n (a13 P) (n (a21 P) (n a37 (n a69 (n a133 (n a261 (n (a517 P) z z) (n a773 z z)) (n a389 (n a645 z z) z)) (n a197 (n a325 (n a581 z z) z) (n a453 (n a709 z z) z))) (n a101 (n a165 (n a293 (n a549 z z) (n a805 z z)) (n a421 (n a677 z z) z)) (n a229 (n a357 (n a613 z z) z) (n a485 (n a741 z z) z)))) (n a53 (n (a85 P) (n a149 (n a277 (n a533 z z) (n (a789 P) z z)) (n a405 (n a661 z z) z)) (n a213 (n (a341 P) (n a597 z z) z) (n a469 (n a725 z z) z))) (n a117 (n a181 (n a309 (n a565 z z) (n a821 z z)) (n a437 (n a693 z z) z)) (n a245 (n a373 (n a629 z z) z) (n a501 (n a757 z z) z))))) (n a29v19 (n a45 (n a77 (n a141 (n a269 (n (a525 P) z z) (n (a781 P) z z)) (n a397 (n a653 z z) z)) (n a205 (n a333 (n a589 z z) z) (n a461 (n a717 z z) z))) (n a109 (n a173 (n a301 (n a557 z z) (n a813 z z)) (n a429 (n a685 z z) z)) (n a237 (n a365 (n a621 z z) z) (n a493 (n a749 z z) z)))) (n a61 (n a93 (n a157 (n a285 (n a541 z z) (n a797 z z)) (n a413 (n a669 z z) z)) (n a221 (n a349 (n a605 z z) z) (n a477 (n a733 z z) z))) (n a125 (n a189 (n a317 (n a573 z z) (n a829 z z)) (n a445 (n a701 z z) z)) (n a253 (n a381 (n a637 z z) z) (n a509 (n a765 z z) z)))))))) (n (a2v1 P) (n a4 (n a8 (n a16 (n a32 (n a64 (n a128 (n a256 (n a512 z z) (n a768 z z)) (n a384 (n a640 z z) z)) (n a192 (n a320 (n a576 z z) (n a832 z z)) (n a448 (n a704 z z) z))) (n a96 (n a160 (n a288 (n a544 z z) (n a800 z z)) (n a416 (n a672 z z) z)) (n a224 (n a352 (n a608 z z) z) (n a480 (n a736 z z) z)))) (n a48 (n a80 (n a144 (n a272 (n a528 z z) (n a784 z z)) (n a400 (n a656 z z) z)) (n a208 (n a336 (n a592 z z) z) (n a464 (n a720 z z) z))) (n a112 (n a176 (n a304 (n (a560 P) z z) (n a816 z z)) (n (a432 P) (n a688 z z) z)) (n a240 (n a368 (n a624 z z) z) (n a496 (n a752 z z) z))))) (n a24 (n a40 (n (a72 P) (n a136 (n a264 (n a520 z z) (n a776 z z)) (n a392 (n a648 z z) z)) (n a200 (n a328 (n a584 z z) z) (n a456 (n a712 z z) z))) (n a104 (n a168 (n a296 (n a552 z z) (n a808 z z)) (n a424 (n a680 z z) z)) (n a232 (n a360 (n a616 z z) z) (n a488 (n a744 z z) z)))) (n a56 (n a88 (n a152 (n a280 (n a536 z z) (n a792 z z)) (n a408 (n a664 z z) z)) (n a216 (n a344 (n a600 z z) z) (n a472 (n a728 z z) z))) (n a120 (n a184 (n a312 (n (a568 P) z z) (n a824 z z)) (n (a440 P) (n a696 z z) z)) (n a248 (n a376 (n a632 z z) z) (n a504 (n a760 z z) z)))))) (n a12 (n (a20 P) (n a36 (n a68 (n (a132 P) (n a260 (n a516 z z) (n a772 z z)) (n a388 (n (a644 P) z z) z)) (n a196 (n a324 (n a580 z z) z) (n a452 (n a708 z z) z))) (n a100 (n a164 (n a292 (n a548 z z) (n a804 z z)) (n a420 (n a676 z z) z)) (n a228 (n (a356 P) (n a612 z z) z) (n a484 (n a740 z z) z)))) (n a52 (n a84 (n a148 (n a276 (n a532 z z) (n a788 z z)) (n a404 (n a660 z z) z)) (n (a212 P) (n a340 (n a596 z z) z) (n a468 (n a724 z z) z))) (n a116 (n a180 (n a308 (n a564 z z) (n a820 z z)) (n a436 (n a692 z z) z)) (n a244 (n a372 (n a628 z z) z) (n a500 (n a756 z z) z))))) (n a28 (n a44 (n a76 (n (a140 P) (n a268 (n a524 z z) (n a780 z z)) (n a396 (n a652 z z) z)) (n a204 (n a332 (n a588 z z) z) (n a460 (n a716 z z) z))) (n a108 (n a172 (n a300 (n a556 z z) (n a812 z z)) (n a428 (n a684 z z) z)) (n a236 (n a364 (n a620 z z) z) (n a492 (n a748 z z) z)))) (n a60 (n a92 (n a156 (n a284 (n a540 z z) (n a796 z z)) (n a412 (n a668 z z) z)) (n (a220 P) (n a348 (n a604 z z) z) (n a476 (n a732 z z) z))) (n a124 (n a188 (n a316 (n a572 z z) (n a828 z z)) (n a444 (n a700 z z) z)) (n a252 (n a380 (n a636 z z) z) (n a508 (n a764 z z) z))))))) (n a6 (n a10 (n a18 (n a34 (n a66 (n a130 (n a258 (n a514 z z) (n a770 z z)) (n a386 (n a642 z z) z)) (n a194 (n a322 (n a578 z z) z) (n a450 (n a706 z z) z))) (n a98 (n a162 (n a290 (n a546 z z) (n a802 z z)) (n a418 (n a674 z z) z)) (n a226 (n a354 (n (a610 P) z z) z) (n (a482 P) (n a738 z z) z)))) (n a50 (n a82 (n a146 (n a274 (n a530 z z) (n a786 z z)) (n a402 (n a658 z z) z)) (n a210 (n a338 (n a594 z z) z) (n a466 (n a722 z z) z))) (n a114 (n a178 (n a306 (n a562 z z) (n a818 z z)) (n a434 (n a690 z z) z)) (n a242 (n a370 (n a626 z z) z) (n a498 (n a754 z z) z))))) (n a26 (n a42 (n a74 (n a138 (n a266 (n a522 z z) (n a778 z z)) (n a394 (n a650 z z) z)) (n a202 (n a330 (n a586 z z) z) (n a458 (n a714 z z) z))) (n a106 (n a170 (n a298 (n a554 z z) (n a810 z z)) (n a426 (n a682 z z) z)) (n a234 (n a362 (n a618 z z) z) (n a490 (n a746 z z) z)))) (n a58 (n a90 (n a154 (n a282 (n a538 z z) (n a794 z z)) (n a410 (n a666 z z) z)) (n a218 (n a346 (n (a602 P) z z) z) (n (a474 P) (n a730 z z) z))) (n a122 (n a186 (n a314 (n a570 z z) (n a826 z z)) (n a442 (n a698 z z) z)) (n a250 (n a378 (n a634 z z) z) (n a506 (n a762 z z) z)))))) (n a14 (n a22 (n a38 (n a70 (n a134 (n a262 (n a518 z z) (n a774 z z)) (n (a390 P) (n a646 z z) z)) (n a198 (n a326 (n a582 z z) z) (n a454 (n a710 z z) z))) (n a102 (n a166 (n a294 (n a550 z z) (n a806 z z)) (n a422 (n a678 z z) z)) (n a230 (n a358 (n a614 z z) z) (n a486 (n a742 z z) z)))) (n a54 (n a86 (n a150 (n a278 (n a534 z z) (n a790 z z)) (n a406 (n a662 z z) z)) (n a214 (n a342 (n a598 z z) z) (n a470 (n a726 z z) z))) (n a118 (n (a182 P) (n a310 (n a566 z z) (n a822 z z)) (n a438 (n a694 z z) z)) (n a246 (n a374 (n a630 z z) z) (n a502 (n a758 z z) z))))) (n a30 (n a46 (n (a78 P) (n a142 (n a270 (n a526 z z) (n a782v1 z z)) (n (a398 P) (n a654 z z) z)) (n a206 (n a334 (n a590 z z) z) (n a462 (n a718 z z) z))) (n a110 (n (a174 P) (n a302 (n a558 z z) (n a814 z z)) (n a430 (n a686 z z) z)) (n a238 (n a366 (n a622 z z) z) (n a494 (n a750 z z) z)))) (n a62 (n a94 (n a158 (n a286 (n a542 z z) (n a798 z z)) (n a414 (n a670 z z) z)) (n a222 (n a350 (n a606 z z) z) (n a478 (n a734 z z) z))) (n a126 (n a190 (n a318 (n a574 z z) (n a830 z z)) (n a446 (n a702 z z) z)) (n a254 (n a382 (n a638 z z) z) (n a510 (n a766 z z) z)))))))))
def a3v22 (P : Params) : Obj := grow (a3v21 P) #[E P "_match_string_by_quote" 2807 (R 834)] 51
def a834 (P : Params) : Obj := ⟨(T "dict"), none, (.dict #[E P "'" 2803 (R 50), E P "\"" 2804 (R 55)] 2), #[]⟩
def T42 (P : Params) : BT := (n (a0 P) (n (a1 P) (n (a3v22 P) (n a7 (n a15 (n a31 (n a63 (n a127 (n a255 (n a511 z z) (n a767 z z)) (n a383 (n a639 z z) z)) (n a191 (n a319 (n a575 z z) (n a831 z z)) (n a447 (n a703 z z) z))) (n a95 (n a159 (n a287 (n a543 z z) (n a799 z z)) (n a415 (n a671 z z) z)) (n a223 (n a351 (n a607 z z) z) (n a479 (n a735 z z) z)))) (n a47 (n a79 (n a143 (n a271 (n a527 z z) (n a783 z z)) (n a399 (n a655 z z) z)) (n a207 (n a335 (n a591 z z) z) (n a463 (n a719 z z) z))) (n a111 (n a175 (n a303 (n a559 z z) (n a815 z z)) (n a431 (n a687 z z) z)) (n a239 (n a367 (n a623 z z) z) (n a495 (n a751 z z) z))))) (n a23 (n a39 (n a71 (n a135 (n a263 (n a519 z z) (n a775 z z)) (n a391 (n a647 z z) z)) (n a199 (n a327 (n a583 z z) z) (n a455 (n a711 z z) z))) (n a103 (n a167 (n a295 (n a551 z z) (n a807 z z)) (n a423 (n a679 z z) z)) (n a231 (n a359 (n a615 z z) z) (n a487 (n a743 z z) z)))) (n a55 (n a87 (n a151 (n a279 (n a535 z z) (n a791 z z)) (n a407 (n a663 z z) z)) (n a215 (n a343 (n a599 z z) z) (n a471 (n a727 z z) z))) (n a119 (n a183 (n a311 (n a567 z z) (n a823 z z)) (n a439 (n a695 z z) z)) (n a247 (n a375 (n a631 z z) z) (n a503 (n a759 z z) z)))))) (n (a11 P) (n a19 (n a35 (n a67 (n a131 (n a259 (n a515 z z) (n a771 z z)) (n a387 (n a643 z z) z)) (n a195 (n a323 (n a579 z z) z) (n a451 (n a707 z z) z))) (n a99 (n a163 (n a291 (n a547 z z) (n a803 z z)) (n a419 (n a675 z z) z)) (n a227 (n a355 (n a611 z z) z) (n a483 (n a739 z z) z)))) (n a51 (n a83 (n a147 (n a275 (n a531 z z) (n a787 z z)) (n a403 (n a659 z z) z)) (n a211 (n a339 (n a595 z z) z) (n a467 (n a723 z z) z))) (n a115 (n a179 (n (a307 P) (n a563 z z) (n a819 z z)) (n a435 (n a691 z z) z)) (n a243 (n a371 (n a627 z z) z) (n a499 (n a755 z z) z))))) (n a27 (n a43 (n a75 (n a139 (n a267 (n a523 z z) (n a779 z z)) (n a395 (n a651 z z) z)) (n a203 (n a331 (n a587 z z) z) (n a459 (n a715 z z) z))) (n a107 (n a171 (n (a299 P) (n a555 z z) (n a811 z z)) (n a427 (n a683 z z) z)) (n a235 (n a363 (n a619 z z) z) (n a491 (n a747 z z) z)))) (n a59 (n (a91 P) (n a155 (n a283 (n a539 z z) (n a795 z z)) (n a411 (n a667 z z) z)) (n a219 (n a347 (n a603 z z) z) (n a475 (n (a731 P) z z) z))) (n a123 (n a187 (n a315 (n a571 z z) (n a827 z z)) (n a443 (n a699 z z) z)) (n a251 (n a379 (n a635 z z) z) (n a507 (n a763 z z) z))))))) (n a5 (n a9 (n a17 (n a33 (n a65 (n a129 (n (a257 P) (n a513 z z) (n a769 z z)) (n a385 (n a641 z z) z)) (n a193 (n a321 (n a577 z z) (n a833 z z)) (n a449 (n a705 z z) z))) (n (a97 P) (n a161 (n a289 (n a545 z z) (n a801 z z)) (n a417 (n a673 z z) z)) (n a225 (n a353 (n a609 z z) z) (n a481 (n a737 z z) z)))) (n a49 (n a81 (n a145 (n a273 (n a529 z z) (n a785 z z)) (n a401 (n a657 z z) z)) (n a209 (n a337 (n a593 z z) z) (n a465 (n a721 z z) z))) (n a113 (n a177 (n a305 (n a561 z z) (n a817 z z)) (n a433 (n a689 z z) z)) (n a241 (n a369 (n a625 z z) z) (n a497 (n a753 z z) z))))) (n a25 (n a41 (n a73 (n a137 (n (a265 P) (n a521 z z) (n a777 z z)) (n a393 (n a649 z z) z)) (n a201 (n a329 (n a585 z z) z) (n a457 (n a713 z z) z))) (n a105 (n a169 (n a297 (n a553 z z) (n (a809 P) z z)) (n a425 (n a681 z z) z)) (n a233 (n a361 (n a617 z z) z) (n a489 (n a745 z z) z)))) (n a57 (n a89 (n a153 (n a281 (n a537 z z) (n a793 z z)) (n a409 (n a665 z z) z)) (n a217 (n a345 (n a601 z z) z) (n a473 (n a729 z z) z))) (n a121 (n a185 (n a313 (n a569 z z) (n a825 z z)) (n a441 (n a697 z z) z)) (n a249 (n a377 (n a633 z z) z) (n a505 (n a761 z z) z)))))) (n (a13 P) (n (a21 P) (n a37 (n a69 (n a133 (n a261 (n (a517 P) z z) (n a773 z z)) (n a389 (n a645 z z) z)) (n a197 (n a325 (n a581 z z) z) (n a453 (n a709 z z) z))) (n a101 (n a165 (n a293 (n a549 z z) (n a805 z z)) (n a421 (n a677 z z) z)) (n a229 (n a357 (n a613 z z) z) (n a485 (n a741 z z) z)))) (n a53 (n (a85 P) (n a149 (n a277 (n a533 z z) (n (a789 P) z z)) (n a405 (n a661 z z) z)) (n a213 (n (a341 P) (n a597 z z) z) (n a469 (n a725 z z) z))) (n a117 (n a181 (n a309 (n a565 z z) (n a821 z z)) (n a437 (n a693 z z) z)) (n a245 (n a373 (n a629 z z) z) (n a501 (n a757 z z) z))))) (n a29v19 (n a45 (n a77 (n a141 (n a269 (n (a525 P) z z) (n (a781 P) z z)) (n a397 (n a653 z z) z)) (n a205 (n a333 (n a589 z z) z) (n a461 (n a717 z z) z))) (n a109 (n a173 (n a301 (n a557 z z) (n a813 z z)) (n a429 (n a685 z z) z)) (n a237 (n a365 (n a621 z z) z) (n a493 (n a749 z z) z)))) (n a61 (n a93 (n a157 (n a285 (n a541 z z) (n a797 z z)) (n a413 (n a669 z z) z)) (n a221 (n a349 (n a605 z z) z) (n a477 (n a733 z z) z))) (n a125 (n a189 (n a317 (n a573 z z) (n a829 z z)) (n a445 (n a701 z z) z)) (n a253 (n a381 (n a637 z z) z) (n a509 (n a765 z z) z)))))))) (n (a2v1 P) (n a4 (n a8 (n a16 (n a32 (n a64 (n a128 (n a256 (n a512 z z) (n a768 z z)) (n a384 (n a640 z z) z)) (n a192 (n a320 (n a576 z z) (n a832 z z)) (n a448 (n a704 z z) z))) (n a96 (n a160 (n a288 (n a544 z z) (n a800 z z)) (n a416 (n a672 z z) z)) (n a224 (n a352 (n a608 z z) z) (n a480 (n a736 z z) z)))) (n a48 (n a80 (n a144 (n a272 (n a528 z z) (n a784 z z)) (n a400 (n a656 z z) z)) (n a208 (n a336 (n a592 z z) z) (n a464 (n a720 z z) z))) (n a112 (n a176 (n a304 (n (a560 P) z z) (n a816 z z)) (n (a432 P) (n a688 z z) z)) (n a240 (n a368 (n a624 z z) z) (n a496 (n a752 z z) z))))) (n a24 (n a40 (n (a72 P) (n a136 (n a264 (n a520 z z) (n a776 z z)) (n a392 (n a648 z z) z)) (n a200 (n a328 (n a584 z z) z) (n a456 (n a712 z z) z))) (n a104 (n a168 (n a296 (n a552 z z) (n a808 z z)) (n a424 (n a680 z z) z)) (n a232 (n a360 (n a616 z z) z) (n a488 (n a744 z z) z)))) (n a56 (n a88 (n a152 (n a280 (n a536 z z) (n a792 z z)) (n a408 (n a664 z z) z)) (n a216 (n a344 (n a600 z z) z) (n a472 (n a728 z z) z))) (n a120 (n a184 (n a312 (n (a568 P) z z) (n a824 z z)) (n (a440 P) (n a696 z z) z)) (n a248 (n a376 (n a632 z z) z) (n a504 (n a760 z z) z)))))) (n a12 (n (a20 P) (n a36 (n a68 (n (a132 P) (n a260 (n a516 z z) (n a772 z z)) (n a388 (n (a644 P) z z) z)) (n a196 (n a324 (n a580 z z) z) (n a452 (n a708 z z) z))) (n a100 (n a164 (n a292 (n a548 z z) (n a804 z z)) (n a420 (n a676 z z) z)) (n a228 (n (a356 P) (n a612 z z) z) (n a484 (n a740 z z) z)))) (n a52 (n a84 (n a148 (n a276 (n a532 z z) (n a788 z z)) (n a404 (n a660 z z) z)) (n (a212 P) (n a340 (n a596 z z) z) (n a468 (n a724 z z) z))) (n a116 (n a180 (n a308 (n a564 z z) (n a820 z z)) (n a436 (n a692 z z) z)) (n a244 (n a372 (n a628 z z) z) (n a500 (n a756 z z) z))))) (n a28 (n a44 (n a76 (n (a140 P) (n a268 (n a524 z z) (n a780 z z)) (n a396 (n a652 z z) z)) (n a204 (n a332 (n a588 z z) z) (n a460 (n a716 z z) z))) (n a108 (n a172 (n a300 (n a556 z z) (n a812 z z)) (n a428 (n a684 z z) z)) (n a236 (n a364 (n a620 z z) z) (n a492 (n a748 z z) z)))) (n a60 (n a92 (n a156 (n a284 (n a540 z z) (n a796 z z)) (n a412 (n a668 z z) z)) (n (a220 P) (n a348 (n a604 z z) z) (n a476 (n a732 z z) z))) (n a124 (n a188 (n a316 (n a572 z z) (n a828 z z)) (n a444 (n a700 z z) z)) (n a252 (n a380 (n a636 z z) z) (n a508 (n a764 z z) z))))))) (n a6 (n a10 (n a18 (n a34 (n a66 (n a130 (n a258 (n a514 z z) (n a770 z z)) (n a386 (n a642 z z) z)) (n a194 (n a322 (n a578 z z) (n (a834 P) z z)) (n a450 (n a706 z z) z))) (n a98 (n a162 (n a290 (n a546 z z) (n a802 z z)) (n a418 (n a674 z z) z)) (n a226 (n a354 (n (a610 P) z z) z) (n (a482 P) (n a738 z z) z)))) (n a50 (n a82 (n a146 (n a274 (n a530 z z) (n a786 z z)) (n a402 (n a658 z z) z)) (n a210 (n a338 (n a594 z z) z) (n a466 (n a722 z z) z))) (n a114 (n a178 (n a306 (n a562 z z) (n a818 z z)) (n a434 (n a690 z z) z)) (n a242 (n a370 (n a626 z z) z) (n a498 (n a754 z z) z))))) (n a26 (n a42 (n a74 (n a138 (n a266 (n a522 z z) (n a778 z z)) (n a394 (n a650 z z) z)) (n a202 (n a330 (n a586 z z) z) (n a458 (n a714 z z) z))) (n a106 (n a170 (n a298 (n a554 z z) (n a810 z z)) (n a426 (n a682 z z) z)) (n a234 (n a362 (n a618 z z) z) (n a490 (n a746 z z) z)))) (n a58 (n a90 (n a154 (n a282 (n a538 z z) (n a794 z z)) (n a410 (n a666 z z) z)) (n a218 (n a346 (n (a602 P) z z) z) (n (a474 P) (n a730 z z) z))) (n a122 (n a186 (n a314 (n a570 z z) (n a826 z z)) (n a442 (n a698 z z) z)) (n a250 (n a378 (n a634 z z) z) (n a506 (n a762 z z) z)))))) (n a14 (n a22 (n a38 (n a70 (n a134 (n a262 (n a518 z z) (n a774 z z)) (n (a390 P) (n a646 z z) z)) (n a198 (n a326 (n a582 z z) z) (n a454 (n a710 z z) z))) (n a102 (n a166 (n a294 (n a550 z z) (n a806 z z)) (n a422 (n a678 z z) z)) (n a230 (n a358 (n a614 z z) z) (n a486 (n a742 z z) z)))) (n a54 (n a86 (n a150 (n a278 (n a534 z z) (n a790 z z)) (n a406 (n a662 z z) z)) (n a214 (n a342 (n a598 z z) z) (n a470 (n a726 z z) z))) (n a118 (n (a182 P) (n a310 (n a566 z z) (n a822 z z)) (n a438 (n a694 z z) z)) (n a246 (n a374 (n a630 z z) z) (n a502 (n a758 z z) z))))) (n a30 (n a46 (n (a78 P) (n a142 (n a270 (n a526 z z) (n a782v1 z z)) (n (a398 P) (n a654 z z) z)) (n a206 (n a334 (n a590 z z) z) (n a462 (n a718 z z) z))) (n a110 (n (a174 P) (n a302 (n a558 z z) (n a814 z z)) (n a430 (n a686 z z) z)) (n a238 (n a366 (n a622 z z) z) (n a494 (n a750 z z) z)))) (n a62 (n a94 (n a158 (n a286 (n a542 z z) (n a798 z z)) (n a414 (n a670 z z) z)) (n a222 (n a350 (n a606 z z) z) (n a478 (n a734 z z) z))) (n a126 (n a190 (n a318 (n a574 z z) (n a830 z z)) (n a446 (n a702 z z) z)) (n a254 (n a382 (n a638 z z) z) (n a510 (n a766 z z) z)))))))))
def a3v23 (P : Params) : Obj := grow (a3v22 P) #[E P "_unicode_escape" 2872 (R 839), E P "_newline_escape" 2914 (R 844), E P "_replace_unicode" 2922 (R 851), E P "_sub_unicode_escape" 2932 (R 858), E P "_sub_simple_escape" 2941 (R 865), E P "unescape_ident" 2948 (R 872), E P "_serialize_ident" 2960 (R 879), E P "tokenize" 2974 (R 886)] 59
def a29v20 : Obj := ⟨N, none, (.fields #[(I 2 0), (I 0 0), (R 37), (I 5 0), (I 0 0), (R 44), (I 12 0), (I 0 0), (R 61), (I 14 0), (I 0 0), (R 68), (I 16 0), (I 0 0), (R 75), (I 18 0), (I 0 0), (R 88), (I 20 0), (I 0 0), (R 100), (I 54 0), (I 0 0), (R 143), (I 70 0), (I 0 0), (R 185), (I 86 0), (I 0 0), (R 223), (I 108 0), (I 0 0), (R 268), (I 124 0), (I 0 0), (R 310), (I 143 0), (I 0 0), (R 352), (I 147 0), (I 0 0), (R 359), (I 165 0), (I 0 0), (R 401), (I 189 0), (I 0 0), (R 443), (I 211 0), (I 0 0), (R 485), (I 246 0), (I 0 0), (R 528), (I 266 0), (I 0 0), (R 571), (I 282 0), (I 0 0), (R 613), (I 308 0), (I 0 0), (R 670), (I 321 0), (I 0 0), (R 677), (I 330 0), (I 0 0), (R 684), (I 347 0), (I 0 0), (R 692), (I 449 0), (I 0 0), (R 699), (I 460 0), (I 0 0), (R 706), (I 491 0), (I 0 0), (R 713), (I 508 0), (I 0 0), (R 720), (I 562 0), (I 0 0), (R 727), (I 585 0), (I 0 0), (R 734), (I 614 0), (I 0 0), (R 792), (I 628 0), (I 0 0), (R 850), (I 633 0), (I 0 0), (R 857), (I 640 0), (I 0 0), (R 864), (I 648 0), (I 0 0), (R 871), (I 650 0), (I 0 0), (R 878), (I 669 0), (I 0 0), (R 885)]), #[]⟩
def a835 : Obj := ⟨(T "list"), none, (.seq #[(I 14 2811), (I 8 2812), (I 1 2813), (I 2 2814), (I 9 2815), (I 1 2816), (I 1 2817), (I 92 2818), (I 0 2819), (I 16 2820), (I 92 2821), (I 17 2822), (I 0 2823), (I 24 2824), (I 13 2825), (I 1 2826), (I 6 2827), (I 39 2828), (I 8 2829), (I 22 2830), (I 48 2831), (I 57 2832), (I 22 2833), (I 97 2834), (I 102 2835), (I 0 2836), (I 1 2837), (I 17 2838), (I 1 2839), (I 23 2840), (I 27 2841), (I 0 2842), (I 1 2843), (I 7 2844), (I 7 2845), (I 16 2846), (I 13 2847), (I 16 2848), (I 10 2849), (I 15 2850), (I 17 2851), (I 15 2852), (I 13 2853), (I 11 2854), (I 9 2855), (I 13824 2856), (I 1 2857), (I 0 2858), (I 0 2859), (I 0 2860), (I 0 2861), (I 0 2862), (I 0 2863), (I 0 2864), (I 15 2865), (I 2 2866), (I 0 2867), (I 18 2868), (I 1 2869)] 0), #[]⟩
def a836 : Obj := ⟨(T "dict"), none, (.dict #[] 0), #[]⟩
def a837 : Obj := ⟨(T "tuple"), none, (.seq #[N, N] 0), #[]⟩
def a838 : Obj := ⟨(T "tuple"), none, (.seq #[(I 14 0), (I 8 0), (I 1 0), (I 2 0), (I 9 0), (I 1 0), (I 1 0), (I 92 0), (I 0 0), (I 16 0), (I 92 0), (I 17 0), (I 0 0), (I 24 0), (I 13 0), (I 1 0), (I 6 0), (I 39 0), (I 8 0), (I 22 0), (I 48 0), (I 57 0), (I 22 0), (I 97 0), (I 102 0), (I 0 0), (I 1 0), (I 17 0), (I 1 0), (I 23 0), (I 27 0), (I 0 0), (I 1 0), (I 7 0), (I 7 0), (I 16 0), (I 13 0), (I 16 0), (I 10 0), (I 15 0), (I 17 0), (I 15 0), (I 13 0), (I 11 0), (I 9 0), (I 13824 0), (I 1 0), (I 0 0), (I 0 0), (I 0 0), (I 0 0), (I 0 0), (I 0 0), (I 0 0), (I 15 0), (I 2 0), (I 0 0), (I 18 0), (I 1 0)] 0), #[]⟩
def a839 : Obj := ⟨(T "re.Pattern"), none, (.fields #[(V "\\\\([0-9a-f]{1,6})(?:\\r\\n|[ \\n\\r\\t\\f])?" 2809), (I 34 2871), (I 1 0), N, N, (R 838), (I 0 0)]), #[]⟩
def a840 : Obj := ⟨(T "list"), none, (.seq #[(I 14 2876), (I 8 2877), (I 1 2878), (I 2 2879), (I 3 2880), (I 1 2881), (I 1 2882), (I 92 2883), (I 0 2884), (I 16 2885), (I 92 2886), (I 7 2887), (I 5 2888), (I 16 2889), (I 10 2890), (I 15 2891), (I 19 2892), (I 7 2893), (I 16 2894), (I 13 2895), (I 16 2896), (I 10 2897), (I 15 2898), (I 12 2899), (I 5 2900), (I 16 2901), (I 13 2902), (I 15 2903), (I 7 2904), (I 5 2905), (I 16 2906), (I 12 2907), (I 15 2908), (I 2 2909), (I 0 2910), (I 1 2911)] 0), #[]⟩
def a841 : Obj := ⟨(T "dict"), none, (.dict #[] 0), #[]⟩
def a842 : Obj := ⟨(T "tuple"), none, (.seq #[N] 0), #[]⟩
def a843 : Obj := ⟨(T "tuple"), none, (.seq #[(I 14 0), (I 8 0), (I 1 0), (I 2 0), (I 3 0), (I 1 0), (I 1 0), (I 92 0), (I 0 0), (I 16 0), (I 92 0), (I 7 0), (I 5 0), (I 16 0), (I 10 0), (I 15 0), (I 19 0), (I 7 0), (I 16 0), (I 13 0), (I 16 0), (I 10 0), (I 15 0), (I 12 0), (I 5 0), (I 16 0), (I 13 0), (I 15 0), (I 7 0), (I 5 0), (I 16 0), (I 12 0), (I 15 0), (I 2 0), (I 0 0), (I 1 0)] 0), #[]⟩
def a844 : Obj := ⟨(T "re.Pattern"), none, (.fields #[(V "\\\\(?:\\n|\\r\\n|\\r|\\f)" 2874), (I 32 2913), (I 0 0), N, N, (R 843), (I 0 0)]), #[]⟩
def a845 : Obj := ⟨(T "tuple"), none, (.seq #[] 0), #[]⟩
def a846 : Obj := ⟨N, none, (.fields #[]), #[]⟩
def a847 : Obj := ⟨(T "tuple"), none, (.seq #[(V "match" 2918), (V "codepoint" 2919)] 0), #[]⟩
def a848 : Obj := ⟨(T "tuple"), none, (.seq #[] 0), #[]⟩
def a849 : Obj := ⟨N, none, (.func (fd (st 45) (Str.ofString "_replace_unicode") 0 [] N N N N none N N 0)), #[]⟩
def a850 : Obj := ⟨(T "code"), none, (.fields #[(V "_replace_unicode" 2915), (V "_replace_unicode" 2916), (V "/claim/cut.py" 2917), (I 628 0), (I 1 0), (I 0 0), (I 0 0), (I 3 0), (R 845), (B true), (I 276 0), (R 846), N, (R 847), (R 848), (R 849), (I 2920 0), (I 628 0), (V "/claim/cut.py" 2921)]), #[]⟩
def a851 : Obj := ⟨(T "function"), none, (.func (fd (st 45) (Str.ofString "_replace_unicode") 3 [] N N N (V "cssselect.parser" 296) none (R 850) N 0)), #[]⟩
def a852 : Obj := ⟨(T "tuple"), none, (.seq #[] 0), #[]⟩
def a853 : Obj := ⟨N, none, (.fields #[]), #[]⟩
def a854 : Obj := ⟨(T "tuple"), none, (.seq #[(V "value" 2926), (V "result" 2927), (V "pos" 2928), (V "match" 2929)] 0), #[]⟩
def a855 : Obj := ⟨(T "tuple"), none, (.seq #[] 0), #[]⟩
def a856 : Obj := ⟨N, none, (.func (fd (st 46) (Str.ofString "_sub_unicode_escape") 0 [] N N N N none N N 0)), #[]⟩
def a857 : Obj := ⟨(T "code"), none, (.fields #[(V "_sub_unicode_escape" 2923), (V "_sub_unicode_escape" 2924), (V "/claim/cut.py" 2925), (I 633 0), (I 1 0), (I 0 0), (I 0 0), (I 3 0), (R 852), (B true), (I 276 0), (R 853), N, (R 854), (R 855), (R 856), (I 2930 0), (I 633 0), (V "/claim/cut.py" 2931)]), #[]⟩
def a858 : Obj := ⟨(T "function"), none, (.func (fd (st 46) (Str.ofString "_sub_unicode_escape") 3 [] N N N (V "cssselect.parser" 296) none (R 857) N 0)), #[]⟩
def a859 : Obj := ⟨(T "tuple"), none, (.seq #[] 0), #[]⟩
def a860 : Obj := ⟨N, none, (.fields #[]), #[]⟩
def a861 : Obj := ⟨(T "tuple"), none, (.seq #[(V "value" 2936), (V "result" 2937), (V "pos" 2938)] 0), #[]⟩
def a862 : Obj := ⟨(T "tuple"), none, (.seq #[] 0), #[]⟩
def a863 : Obj := ⟨N, none, (.func (fd (st 47) (Str.ofString "_sub_simple_escape") 0 [] N N N N none N N 0)), #[]⟩
def a864 : Obj := ⟨(T "code"), none, (.fields #[(V "_sub_simple_escape" 2933), (V "_sub_simple_escape" 2934), (V "/claim/cut.py" 2935), (I 640 0), (I 1 0), (I 0 0), (I 0 0), (I 3 0), (R 859), (B true), (I 276 0), (R 860), N, (R 861), (R 862), (R 863), (I 2939 0), (I 640 0), (V "/claim/cut.py" 2940)]), #[]⟩
def a865 : Obj := ⟨(T "function"), none, (.func (fd (st 47) (Str.ofString "_sub_simple_escape") 3 [] N N N (V "cssselect.parser" 296) none (R 864) N 0)), #[]⟩
def a866 : Obj := ⟨(T "tuple"), none, (.seq #[] 0), #[]⟩
def a867 : Obj := ⟨N, none, (.fields #[]), #[]⟩
def a868 : Obj := ⟨(T "tuple"), none, (.seq #[(V "value" 2945)] 0), #[]⟩
def a869 : Obj := ⟨(T "tuple"), none, (.seq #[] 0), #[]⟩
def a870 : Obj := ⟨N, none, (.func (fd (st 48) (Str.ofString "unescape_ident") 0 [] N N N N none N N 0)), #[]⟩
def a871 : Obj := ⟨(T "code"), none, (.fields #[(V "unescape_ident" 2942), (V "unescape_ident" 2943), (V "/claim/cut.py" 2944), (I 648 0), (I 1 0), (I 0 0), (I 0 0), (I 3 0), (R 866), (B true), (I 276 0), (R 867), N, (R 868), (R 869), (R 870), (I 2946 0), (I 648 0), (V "/claim/cut.py" 2947)]), #[]⟩
def a872 : Obj := ⟨(T "function"), none, (.func (fd (st 48) (Str.ofString "unescape_ident") 3 [] N N N (V "cssselect.parser" 296) none (R 871) N 0)), #[]⟩
def a873 : Obj := ⟨(T "tuple"), none, (.seq #[] 0), #[]⟩
def a874 : Obj := ⟨N, none, (.fields #[]), #[]⟩
def a875 : Obj := ⟨(T "tuple"), none, (.seq #[(V "value" 2952), (V "result" 2953), (V "i" 2954), (V "char" 2955), (V "code" 2956), (V "serialized" 2957)] 0), #[]⟩
def a876 : Obj := ⟨(T "tuple"), none, (.seq #[] 0), #[]⟩
def a877 : Obj := ⟨N, none, (.func (fd (st 49) (Str.ofString "_serialize_ident") 0 [] N N N N none N N 0)), #[]⟩
def a878 : Obj := ⟨(T "code"), none, (.fields #[(V "_serialize_ident" 2949), (V "_serialize_ident" 2950), (V "/claim/cut.py" 2951), (I 650 0), (I 1 0), (I 0 0), (I 0 0), (I 3 0), (R 873), (B true), (I 276 0), (R 874), N, (R 875), (R 876), (R 877), (I 2958 0), (I 650 0), (V "/claim/cut.py" 2959)]), #[]⟩
def a879 : Obj := ⟨(T "function"), none, (.func (fd (st 49) (Str.ofString "_serialize_ident") 3 [] N N N (V "cssselect.parser" 296) none (R 878) N 0)), #[]⟩
def a880 : Obj := ⟨(T "tuple"), none, (.seq #[] 0), #[]⟩
def a881 : Obj := ⟨N, none, (.fields #[]), #[]⟩
def a882 : Obj := ⟨(T "tuple"), none, (.seq #[(V "s" 2964), (V "pos" 2965), (V "len_s" 2966), (V "match" 2967), (V "value" 2968), (V "quote" 2969), (V "end_pos" 2970), (V "pos2" 2971)] 0), #[]⟩
def a883 : Obj := ⟨(T "tuple"), none, (.seq #[] 0), #[]⟩
def a884 : Obj := ⟨N, none, (.func (fd (st 50) (Str.ofString "tokenize") 0 [] N N N N none N N 0)), #[]⟩
def a885 : Obj := ⟨(T "code"), none, (.fields #[(V "tokenize" 2961), (V "tokenize" 2962), (V "/claim/cut.py" 2963), (I 669 0), (I 1 0), (I 0 0), (I 0 0), (I 35 0), (R 880), (B true), (I 276 0), (R 881), N, (R 882), (R 883), (R 884), (I 2972 0), (I 669 0), (V "/claim/cut.py" 2973)]), #[]⟩
def a886 : Obj := ⟨(T "function"), none, (.func (fd (st 50) (Str.ofString "tokenize") 3 [] N N N (V "cssselect.parser" 296) none (R 885) N 0)), #[]⟩
def T50 (P : Params) : BT := (n (a0 P) (n (a1 P) (n (a3v23 P) (n a7 (n a15 (n a31 (n a63 (n a127 (n a255 (n a511 z z) (n a767 z z)) (n a383 (n a639 z z) z)) (n a191 (n a319 (n a575 z z) (n a831 z z)) (n a447 (n a703 z z) z))) (n a95 (n a159 (n a287 (n a543 z z) (n a799 z z)) (n a415 (n a671 z z) z)) (n a223 (n a351 (n a607 z z) (n a863 z z)) (n a479 (n a735 z z) z)))) (n a47 (n a79 (n a143 (n a271 (n a527 z z) (n a783 z z)) (n a399 (n a655 z z) z)) (n a207 (n a335 (n a591 z z) (n a847 z z)) (n a463 (n a719 z z) z))) (n a111 (n a175 (n a303 (n a559 z z) (n a815 z z)) (n a431 (n a687 z z) z)) (n a239 (n a367 (n a623 z z) (n a879 z z)) (n a495 (n a751 z z) z))))) (n a23 (n a39 (n a71 (n a135 (n a263 (n a519 z z) (n a775 z z)) (n a391 (n a647 z z) z)) (n a199 (n a327 (n a583 z z) (n a839 z z)) (n a455 (n a711 z z) z))) (n a103 (n a167 (n a295 (n a551 z z) (n a807 z z)) (n a423 (n a679 z z) z)) (n a231 (n a359 (n a615 z z) (n a871 z z)) (n a487 (n a743 z z) z)))) (n a55 (n a87 (n a151 (n a279 (n a535 z z) (n a791 z z)) (n a407 (n a663 z z) z)) (n a215 (n a343 (n a599 z z) (n a855 z z)) (n a471 (n a727 z z) z))) (n a119 (n a183 (n a311 (n a567 z z) (n a823 z z)) (n a439 (n a695 z z) z)) (n a247 (n a375 (n a631 z z) z) (n a503 (n a759 z z) z)))))) (n (a11 P) (n a19 (n a35 (n a67 (n a131 (n a259 (n a515 z z) (n a771 z z)) (n a387 (n a643 z z) z)) (n a195 (n a323 (n a579 z z) (n a835 z z)) (n a451 (n a707 z z) z))) (n a99 (n a163 (n a291 (n a547 z z) (n a803 z z)) (n a419 (n a675 z z) z)) (n a227 (n a355 (n a611 z z) (n a867 z z)) (n a483 (n a739 z z) z)))) (n a51 (n a83 (n a147 (n a275 (n a531 z z) (n a787 z z)) (n a403 (n a659 z z) z)) (n a211 (n a339 (n a595 z z) (n a851 z z)) (n a467 (n a723 z z) z))) (n a115 (n a179 (n (a307 P) (n a563 z z) (n a819 z z)) (n a435 (n a691 z z) z)) (n a243 (n a371 (n a627 z z) (n a883 z z)) (n a499 (n a755 z z) z))))) (n a27 (n a43 (n a75 (n a139 (n a267 (n a523 z z) (n a779 z z)) (n a395 (n a651 z z) z)) (n a203 (n a331 (n a587 z z) (n a843 z z)) (n a459 (n a715 z z) z))) (n a107 (n a171 (n (a299 P) (n a555 z z) (n a811 z z)) (n a427 (n a683 z z) z)) (n a235 (n a363 (n a619 z z) (n a875 z z)) (n a491 (n a747 z z) z)))) (n a59 (n (a91 P) (n a155 (n a283 (n a539 z z) (n a795 z z)) (n a411 (n a667 z z) z)) (n a219 (n a347 (n a603 z z) (n a859 z z)) (n a475 (n (a731 P) z z) z))) (n a123 (n a187 (n a315 (n a571 z z) (n a827 z z)) (n a443 (n a699 z z) z)) (n a251 (n a379 (n a635 z z) z) (n a507 (n a763 z z) z))))))) (n a5 (n a9 (n a17 (n a33 (n a65 (n a129 (n (a257 P) (n a513 z z) (n a769 z z)) (n a385 (n a641 z z) z)) (n a193 (n a321 (n a577 z z) (n a833 z z)) (n a449 (n a705 z z) z))) (n (a97 P) (n a161 (n a289 (n a545 z z) (n a801 z z)) (n a417 (n a673 z z) z)) (n a225 (n a353 (n a609 z z) (n a865 z z)) (n a481 (n a737 z z) z)))) (n a49 (n a81 (n a145 (n a273 (n a529 z z) (n a785 z z)) (n a401 (n a657 z z) z)) (n a209 (n a337 (n a593 z z) (n a849 z z)) (n a465 (n a721 z z) z))) (n a113 (n a177 (n a305 (n a561 z z) (n a817 z z)) (n a433 (n a689 z z) z)) (n a241 (n a369 (n a625 z z) (n a881 z z)) (n a497 (n a753 z z) z))))) (n a25 (n a41 (n a73 (n a137 (n (a265 P) (n a521 z z) (n a777 z z)) (n a393 (n a649 z z) z)) (n a201 (n a329 (n a585 z z) (n a841 z z)) (n a457 (n a713 z z) z))) (n a105 (n a169 (n a297 (n a553 z z) (n (a809 P) z z)) (n a425 (n a681 z z) z)) (n a233 (n a361 (n a617 z z) (n a873 z z)) (n a489 (n a745 z z) z)))) (n a57 (n a89 (n a153 (n a281 (n a537 z z) (n a793 z z)) (n a409 (n a665 z z) z)) (n a217 (n a345 (n a601 z z) (n a857 z z)) (n a473 (n a729 z z) z))) (n a121 (n a185 (n a313 (n a569 z z) (n a825 z z)) (n a441 (n a697 z z) z)) (n a249 (n a377 (n a633 z z) z) (n a505 (n a761 z z) z)))))) (n (a13 P) (n (a21 P) (n a37 (n a69 (n a133 (n a261 (n (a517 P) z z) (n a773 z z)) (n a389 (n a645 z z) z)) (n a197 (n a325 (n a581 z z) (n a837 z z)) (n a453 (n a709 z z) z))) (n a101 (n a165 (n a293 (n a549 z z) (n a805 z z)) (n a421 (n a677 z z) z)) (n a229 (n a357 (n a613 z z) (n a869 z z)) (n a485 (n a741 z z) z)))) (n a53 (n (a85 P) (n a149 (n a277 (n a533 z z) (n (a789 P) z z)) (n a405 (n a661 z z) z)) (n a213 (n (a341 P) (n a597 z z) (n a853 z z)) (n a469 (n a725 z z) z))) (n a117 (n a181 (n a309 (n a565 z z) (n a821 z z)) (n a437 (n a693 z z) z)) (n a245 (n a373 (n a629 z z) (n a885 z z)) (n a501 (n a757 z z) z))))) (n a29v20 (n a45 (n a77 (n a141 (n a269 (n (a525 P) z z) (n (a781 P) z z)) (n a397 (n a653 z z) z)) (n a205 (n a333 (n a589 z z) (n a845 z z)) (n a461 (n a717 z z) z))) (n a109 (n a173 (n a301 (n a557 z z) (n a813 z z)) (n a429 (n a685 z z) z)) (n a237 (n a365 (n a621 z z) (n a877 z z)) (n a493 (n a749 z z) z)))) (n a61 (n a93 (n a157 (n a285 (n a541 z z) (n a797 z z)) (n a413 (n a669 z z) z)) (n a221 (n a349 (n a605 z z) (n a861 z z)) (n a477 (n a733 z z) z))) (n a125 (n a189 (n a317 (n a573 z z) (n a829 z z)) (n a445 (n a701 z z) z)) (n a253 (n a381 (n a637 z z) z) (n a509 (n a765 z z) z)))))))) (n (a2v1 P) (n a4 (n a8 (n a16 (n a32 (n a64 (n a128 (n a256 (n a512 z z) (n a768 z z)) (n a384 (n a640 z z) z)) (n a192 (n a320 (n a576 z z) (n a832 z z)) (n a448 (n a704 z z) z))) (n a96 (n a160 (n a288 (n a544 z z) (n a800 z z)) (n a416 (n a672 z z) z)) (n a224 (n a352 (n a608 z z) (n a864 z z)) (n a480 (n a736 z z) z)))) (n a48 (n a80 (n a144 (n a272 (n a528 z z) (n a784 z z)) (n a400 (n a656 z z) z)) (n a208 (n a336 (n a592 z z) (n a848 z z)) (n a464 (n a720 z z) z))) (n a112 (n a176 (n a304 (n (a560 P) z z) (n a816 z z)) (n (a432 P) (n a688 z z) z)) (n a240 (n a368 (n a624 z z) (n a880 z z)) (n a496 (n a752 z z) z))))) (n a24 (n a40 (n (a72 P) (n a136 (n a264 (n a520 z z) (n a776 z z)) (n a392 (n a648 z z) z)) (n a200 (n a328 (n a584 z z) (n a840 z z)) (n a456 (n a712 z z) z))) (n a104 (n a168 (n a296 (n a552 z z) (n a808 z z)) (n a424 (n a680 z z) z)) (n a232 (n a360 (n a616 z z) (n a872 z z)) (n a488 (n a744 z z) z)))) (n a56 (n a88 (n a152 (n a280 (n a536 z z) (n a792 z z)) (n a408 (n a664 z z) z)) (n a216 (n a344 (n a600 z z) (n a856 z z)) (n a472 (n a728 z z) z))) (n a120 (n a184 (n a312 (n (a568 P) z z) (n a824 z z)) (n (a440 P) (n a696 z z) z)) (n a248 (n a376 (n a632 z z) z) (n a504 (n a760 z z) z)))))) (n a12 (n (a20 P) (n a36 (n a68 (n (a132 P) (n a260 (n a516 z z) (n a772 z z)) (n a388 (n (a644 P) z z) z)) (n a196 (n a324 (n a580 z z) (n a836 z z)) (n a452 (n a708 z z) z))) (n a100 (n a164 (n a292 (n a548 z z) (n a804 z z)) (n a420 (n a676 z z) z)) (n a228 (n (a356 P) (n a612 z z) (n a868 z z)) (n a484 (n a740 z z) z)))) (n a52 (n a84 (n a148 (n a276 (n a532 z z) (n a788 z z)) (n a404 (n a660 z z) z)) (n (a212 P) (n a340 (n a596 z z) (n a852 z z)) (n a468 (n a724 z z) z))) (n a116 (n a180 (n a308 (n a564 z z) (n a820 z z)) (n a436 (n a692 z z) z)) (n a244 (n a372 (n a628 z z) (n a884 z z)) (n a500 (n a756 z z) z))))) (n a28 (n a44 (n a76 (n (a140 P) (n a268 (n a524 z z) (n a780 z z)) (n a396 (n a652 z z) z)) (n a204 (n a332 (n a588 z z) (n a844 z z)) (n a460 (n a716 z z) z))) (n a108 (n a172 (n a300 (n a556 z z) (n a812 z z)) (n a428 (n a684 z z) z)) (n a236 (n a364 (n a620 z z) (n a876 z z)) (n a492 (n a748 z z) z)))) (n a60 (n a92 (n a156 (n a284 (n a540 z z) (n a796 z z)) (n a412 (n a668 z z) z)) (n (a220 P) (n a348 (n a604 z z) (n a860 z z)) (n a476 (n a732 z z) z))) (n a124 (n a188 (n a316 (n a572 z z) (n a828 z z)) (n a444 (n a700 z z) z)) (n a252 (n a380 (n a636 z z) z) (n a508 (n a764 z z) z))))))) (n a6 (n a10 (n a18 (n a34 (n a66 (n a130 (n a258 (n a514 z z) (n a770 z z)) (n a386 (n a642 z z) z)) (n a194 (n a322 (n a578 z z) (n (a834 P) z z)) (n a450 (n a706 z z) z))) (n a98 (n a162 (n a290 (n a546 z z) (n a802 z z)) (n a418 (n a674 z z) z)) (n a226 (n a354 (n (a610 P) z z) (n a866 z z)) (n (a482 P) (n a738 z z) z)))) (n a50 (n a82 (n a146 (n a274 (n a530 z z) (n a786 z z)) (n a402 (n a658 z z) z)) (n a210 (n a338 (n a594 z z) (n a850 z z)) (n a466 (n a722 z z) z))) (n a114 (n a178 (n a306 (n a562 z z) (n a818 z z)) (n a434 (n a690 z z) z)) (n a242 (n a370 (n a626 z z) (n a882 z z)) (n a498 (n a754 z z) z))))) (n a26 (n a42 (n a74 (n a138 (n a266 (n a522 z z) (n a778 z z)) (n a394 (n a650 z z) z)) (n a202 (n a330 (n a586 z z) (n a842 z z)) (n a458 (n a714 z z) z))) (n a106 (n a170 (n a298 (n a554 z z) (n a810 z z)) (n a426 (n a682 z z) z)) (n a234 (n a362 (n a618 z z) (n a874 z z)) (n a490 (n a746 z z) z)))) (n a58 (n a90 (n a154 (n a282 (n a538 z z) (n a794 z z)) (n a410 (n a666 z z) z)) (n a218 (n a346 (n (a602 P) z z) (n a858 z z)) (n (a474 P) (n a730 z z) z))) (n a122 (n a186 (n a314 (n a570 z z) (n a826 z z)) (n a442 (n a698 z z) z)) (n a250 (n a378 (n a634 z z) z) (n a506 (n a762 z z) z)))))) (n a14 (n a22 (n a38 (n a70 (n a134 (n a262 (n a518 z z) (n a774 z z)) (n (a390 P) (n a646 z z) z)) (n a198 (n a326 (n a582 z z) (n a838 z z)) (n a454 (n a710 z z) z))) (n a102 (n a166 (n a294 (n a550 z z) (n a806 z z)) (n a422 (n a678 z z) z)) (n a230 (n a358 (n a614 z z) (n a870 z z)) (n a486 (n a742 z z) z)))) (n a54 (n a86 (n a150 (n a278 (n a534 z z) (n a790 z z)) (n a406 (n a662 z z) z)) (n a214 (n a342 (n a598 z z) (n a854 z z)) (n a470 (n a726 z z) z))) (n a118 (n (a182 P) (n a310 (n a566 z z) (n a822 z z)) (n a438 (n a694 z z) z)) (n a246 (n a374 (n a630 z z) (n a886 z z)) (n a502 (n a758 z z) z))))) (n a30 (n a46 (n (a78 P) (n a142 (n a270 (n a526 z z) (n a782v1 z z)) (n (a398 P) (n a654 z z) z)) (n a206 (n a334 (n a590 z z) (n a846 z z)) (n a462 (n a718 z z) z))) (n a110 (n (a174 P) (n a302 (n a558 z z) (n a814 z z)) (n a430 (n a686 z z) z)) (n a238 (n a366 (n a622 z z) (n a878 z z)) (n a494 (n a750 z z) z)))) (n a62 (n a94 (n a158 (n a286 (n a542 z z) (n a798 z z)) (n a414 (n a670 z z) z)) (n a222 (n a350 (n a606 z z) (n a862 z z)) (n a478 (n a734 z z) z))) (n a126 (n a190 (n a318 (n a574 z z) (n a830 z z)) (n a446 (n a702 z z) z)) (n a254 (n a382 (n a638 z z) z) (n a510 (n a766 z z) z)))))))))
def a3v24 (P : Params) : Obj := ⟨(T "dict"), none, (.dict #[E P "__name__" 165 (V "cssselect.xpath" 3054), E P "__doc__" 166 N, E P "__package__" 167 N, E P "__loader__" 168 (U "__main__.__loader__#opaque"), E P "__spec__" 169 N, E P "__annotations__" 170 (R 6), E P "__builtins__" 171 (R 4), E P "__file__" 173 (V "/claim/cut.py" 172), E P "__cached__" 174 N, E P "_sre" 275 (R 12), E P "_wall" 288 (R 38), E P "_pe_name" 295 (R 45), E P "_twin_re_10" 435 (R 50), E P "_twin_re_11" 573 (R 55), E P "cast" 581 (R 62), E P "ascii_lower" 588 (R 69), E P "SelectorError" 608 (R 79), E P "SelectorSyntaxError" 624 (R 92), E P "Selector" 682 (R 133), E P "Class" 737 (R 175), E P "FunctionalPseudoElement" 788 (R 213), E P "Function" 851 (R 258), E P "Pseudo" 906 (R 300), E P "Negation" 965 (R 342), E P "_combinator_prefix" 972 (R 353), E P "Relation" 1032 (R 391), E P "Matching" 1095 (R 433), E P "SpecificityAdjustment" 1152 (R 475), E P "Attrib" 1221 (R 518), E P "Element" 1275 (R 561), E P "Hash" 1330 (R 603), E P "CombinedSelector" 1393 (R 645), E P "_el_re" 1461 (R 654), E P "_id_re" 1552 (R 659), E P "_class_re" 1652 (R 664), E P "parse" 1661 (R 671), E P "parse_selector_group" 1668 (R 678), E P "parse_selector" 1680 (R 685), E P "parse_simple_selector" 1702 (R 693), E P "parse_arguments" 1711 (R 700), E P "parse_relative_selector" 1725 (R 707), E P "parse_simple_selector_arguments" 1736 (R 714), E P "parse_attrib" 1750 (R 721), E P "parse_series" 1763 (R 728), E P "Token" 1832 (R 782), E P "EOFToken" 1864 (R 810), E P "_match_whitespace" 1893 (R 818), E P "_match_number" 1960 (R 823), E P "_match_hash" 2248 (R 828), E P "_match_ident" 2802 (R 833), E P "_match_string_by_quote" 2807 (R 834), E P "_unicode_escape" 2872 (R 839), E P "_newline_escape" 2914 (R 844), E P "_replace_unicode" 2922 (R 851), E P "_sub_unicode_escape" 2932 (R 858), E P "_sub_simple_escape" 2941 (R 865), E P "unescape_ident" 2948 (R 872), E P "_serialize_ident" 2960 (R 879), E P "tokenize" 2974 (R 886), E P "TokenStream" 3053 (R 946), E P "ascii_lowercase" 3057 (V "abcdefghijklmnopqrstuvwxyz" 3056), E P "ascii_uppercase" 3059 (V "ABCDEFGHIJKLMNOPQRSTUVWXYZ" 3058)] 62), #[]⟩
def a29v21 : Obj := ⟨N, none, (.fields #[(I 2 0), (I 0 0), (R 37), (I 5 0), (I 0 0), (R 44), (I 12 0), (I 0 0), (R 61), (I 14 0), (I 0 0), (R 68), (I 16 0), (I 0 0), (R 75), (I 18 0), (I 0 0), (R 88), (I 20 0), (I 0 0), (R 100), (I 54 0), (I 0 0), (R 143), (I 70 0), (I 0 0), (R 185), (I 86 0), (I 0 0), (R 223), (I 108 0), (I 0 0), (R 268), (I 124 0), (I 0 0), (R 310), (I 143 0), (I 0 0), (R 352), (I 147 0), (I 0 0), (R 359), (I 165 0), (I 0 0), (R 401), (I 189 0), (I 0 0), (R 443), (I 211 0), (I 0 0), (R 485), (I 246 0), (I 0 0), (R 528), (I 266 0), (I 0 0), (R 571), (I 282 0), (I 0 0), (R 613), (I 308 0), (I 0 0), (R 670), (I 321 0), (I 0 0), (R 677), (I 330 0), (I 0 0), (R 684), (I 347 0), (I 0 0), (R 692), (I 449 0), (I 0 0), (R 699), (I 460 0), (I 0 0), (R 706), (I 491 0), (I 0 0), (R 713), (I 508 0), (I 0 0), (R 720), (I 562 0), (I 0 0), (R 727), (I 585 0), (I 0 0), (R 734), (I 614 0), (I 0 0), (R 792), (I 628 0), (I 0 0), (R 850), (I 633 0), (I 0 0), (R 857), (I 640 0), (I 0 0), (R 864), (I 648 0), (I 0 0), (R 871), (I 650 0), (I 0 0), (R 878), (I 669 0), (I 0 0), (R 885), (I 722 0), (I 0 0), (R 892)]), #[]⟩
def a887 : Obj := ⟨(T "tuple"), none, (.seq #[] 0), #[]⟩
def a888 : Obj := ⟨(T "builtin_function_or_method"), none, (.fields #[(U "type.__prepare__"), (T "type")]), #[]⟩
def a889 (P : Params) : Obj := ⟨(T "dict"), none, (.dict #[E P "__module__" 2982 (V "cssselect.parser" 296), E P "__qualname__" 2984 (V "TokenStream" 2983), E P "__firstlineno__" 2986 (I 722 2985), E P "__init__" 2995 (R 901), E P "next_token" 3002 (R 908), E P "next" 3010 (R 915), E P "peek" 3017 (R 922), E P "next_ident" 3025 (R 929), E P "next_ident_or_star" 3033 (R 936), E P "skip_whitespace" 3040 (R 943), E P "__static_attributes__" 3046 (R 944)] 11), #[]⟩
def a890 : Obj := ⟨(T "tuple"), none, (.seq #[] 0), #[]⟩
def a891 : Obj := ⟨N, none, (.fields #[(I 724 0), (I 4 0), (R 900), (I 731 0), (I 4 0), (R 907), (I 734 0), (I 4 0), (R 914), (I 744 0), (I 4 0), (R 921), (I 751 0), (I 4 0), (R 928), (I 757 0), (I 4 0), (R 935), (I 765 0), (I 4 0), (R 942)]), #[]⟩
def a892 : Obj := ⟨(T "code"), none, (.fields #[(V "TokenStream" 2977), (V "TokenStream" 2978), (V "/claim/cut.py" 2979), (I 722 0), (I 0 0), (I 0 0), (I 0 0), (I 0 0), (R 890), (B false), (I 276 0), (R 891), N, N, N, N, (I 2980 0), (I 722 0), (V "/claim/cut.py" 2981)]), #[]⟩
def a893 : Obj := ⟨(T "frame"), none, .plain, #[(some (R 892)), (some (R 3)), (some (R 889)), none, (some (V "cssselect.parser" 296)), none, (some (R 0))]⟩
def a894 : Obj := ⟨(T "tuple"), none, (.seq #[N] 0), #[]⟩
def a895 : Obj := ⟨(T "tuple"), none, (.seq #[] 0), #[]⟩
def a896 : Obj := ⟨N, none, (.fields #[]), #[]⟩
def a897 : Obj := ⟨(T "tuple"), none, (.seq #[(V "self" 2990), (V "tokens" 2991), (V "source" 2992)] 0), #[]⟩
def a898 : Obj := ⟨(T "tuple"), none, (.seq #[] 0), #[]⟩
def a899 : Obj := ⟨N, none, (.func (fd (kd (st 51) 0) (Str.ofString "TokenStream.__init__") 0 [] N N N N none N N 0)), #[]⟩
def a900 : Obj := ⟨(T "code"), none, (.fields #[(V "__init__" 2987), (V "TokenStream.__init__" 2988), (V "/claim/cut.py" 2989), (I 724 0), (I 3 0), (I 0 0), (I 0 0), (I 3 0), (R 895), (B true), (I 276 0), (R 896), N, (R 897), (R 898), (R 899), (I 2993 0), (I 724 0), (V "/claim/cut.py" 2994)]), #[]⟩
def a901 : Obj := ⟨(T "function"), none, (.func (fd (kd (st 51) 0) (Str.ofString "TokenStream.__init__") 3 [] (R 894) N N (V "cssselect.parser" 296) none (R 900) N 0)), #[]⟩
def a902 : Obj := ⟨(T "tuple"), none, (.seq #[] 0), #[]⟩
def a903 : Obj := ⟨N, none, (.fields #[]), #[]⟩
def a904 : Obj := ⟨(T "tuple"), none, (.seq #[(V "self" 2999)] 0), #[]⟩
def a905 : Obj := ⟨(T "tuple"), none, (.seq #[] 0), #[]⟩
def a906 : Obj := ⟨N, none, (.func (fd (kd (st 51) 1) (Str.ofString "TokenStream.next_token") 0 [] N N N N none N N 0)), #[]⟩
def a907 : Obj := ⟨(T "code"), none, (.fields #[(V "next_token" 2996), (V "TokenStream.next_token" 2997), (V "/claim/cut.py" 2998), (I 731 0), (I 1 0), (I 0 0), (I 0 0), (I 3 0), (R 902), (B true), (I 276 0), (R 903), N, (R 904), (R 905), (R 906), (I 3000 0), (I 731 0), (V "/claim/cut.py" 3001)]), #[]⟩
def a908 : Obj := ⟨(T "function"), none, (.func (fd (kd (st 51) 1) (Str.ofString "TokenStream.next_token") 3 [] N N N (V "cssselect.parser" 296) none (R 907) N 0)), #[]⟩
def a909 : Obj := ⟨(T "tuple"), none, (.seq #[] 0), #[]⟩
def a910 : Obj := ⟨N, none, (.fields #[]), #[]⟩
def a911 : Obj := ⟨(T "tuple"), none, (.seq #[(V "self" 3006), (V "next_" 3007)] 0), #[]⟩
def a912 : Obj := ⟨(T "tuple"), none, (.seq #[] 0), #[]⟩
def a913 : Obj := ⟨N, none, (.func (fd (kd (st 51) 2) (Str.ofString "TokenStream.next") 0 [] N N N N none N N 0)), #[]⟩
def a914 : Obj := ⟨(T "code"), none, (.fields #[(V "next" 3003), (V "TokenStream.next" 3004), (V "/claim/cut.py" 3005), (I 734 0), (I 1 0), (I 0 0), (I 0 0), (I 3 0), (R 909), (B true), (I 276 0), (R 910), N, (R 911), (R 912), (R 913), (I 3008 0), (I 734 0), (V "/claim/cut.py" 3009)]), #[]⟩
def a915 : Obj := ⟨(T "function"), none, (.func (fd (kd (st 51) 2) (Str.ofString "TokenStream.next") 3 [] N N N (V "cssselect.parser" 296) none (R 914) N 0)), #[]⟩
def a916 : Obj := ⟨(T "tuple"), none, (.seq #[] 0), #[]⟩
def a917 : Obj := ⟨N, none, (.fields #[]), #[]⟩
def a918 : Obj := ⟨(T "tuple"), none, (.seq #[(V "self" 3014)] 0), #[]⟩
def a919 : Obj := ⟨(T "tuple"), none, (.seq #[] 0), #[]⟩
def a920 : Obj := ⟨N, none, (.func (fd (kd (st 51) 3) (Str.ofString "TokenStream.peek") 0 [] N N N N none N N 0)), #[]⟩
def a921 : Obj := ⟨(T "code"), none, (.fields #[(V "peek" 3011), (V "TokenStream.peek" 3012), (V "/claim/cut.py" 3013), (I 744 0), (I 1 0), (I 0 0), (I 0 0), (I 3 0), (R 916), (B true), (I 276 0), (R 917), N, (R 918), (R 919), (R 920), (I 3015 0), (I 744 0), (V "/claim/cut.py" 3016)]), #[]⟩
def a922 : Obj := ⟨(T "function"), none, (.func (fd (kd (st 51) 3) (Str.ofString "TokenStream.peek") 3 [] N N N (V "cssselect.parser" 296) none (R 921) N 0)), #[]⟩
def a923 : Obj := ⟨(T "tuple"), none, (.seq #[] 0), #[]⟩
def a924 : Obj := ⟨N, none, (.fields #[]), #[]⟩
def a925 : Obj := ⟨(T "tuple"), none, (.seq #[(V "self" 3021), (V "next_" 3022)] 0), #[]⟩
def a926 : Obj := ⟨(T "tuple"), none, (.seq #[] 0), #[]⟩
def a927 : Obj := ⟨N, none, (.func (fd (kd (st 51) 4) (Str.ofString "TokenStream.next_ident") 0 [] N N N N none N N 0)), #[]⟩
def a928 : Obj := ⟨(T "code"), none, (.fields #[(V "next_ident" 3018), (V "TokenStream.next_ident" 3019), (V "/claim/cut.py" 3020), (I 751 0), (I 1 0), (I 0 0), (I 0 0), (I 3 0), (R 923), (B true), (I 276 0), (R 924), N, (R 925), (R 926), (R 927), (I 3023 0), (I 751 0), (V "/claim/cut.py" 3024)]), #[]⟩
def a929 : Obj := ⟨(T "function"), none, (.func (fd (kd (st 51) 4) (Str.ofString "TokenStream.next_ident") 3 [] N N N (V "cssselect.parser" 296) none (R 928) N 0)), #[]⟩
def a930 : Obj := ⟨(T "tuple"), none, (.seq #[] 0), #[]⟩
def a931 : Obj := ⟨N, none, (.fields #[]), #[]⟩
def a932 : Obj := ⟨(T "tuple"), none, (.seq #[(V "self" 3029), (V "next_" 3030)] 0), #[]⟩
def a933 : Obj := ⟨(T "tuple"), none, (.seq #[] 0), #[]⟩
def a934 : Obj := ⟨N, none, (.func (fd (kd (st 51) 5) (Str.ofString "TokenStream.next_ident_or_star") 0 [] N N N N none N N 0)), #[]⟩
def a935 : Obj := ⟨(T "code"), none, (.fields #[(V "next_ident_or_star" 3026), (V "TokenStream.next_ident_or_star" 3027), (V "/claim/cut.py" 3028), (I 757 0), (I 1 0), (I 0 0), (I 0 0), (I 3 0), (R 930), (B true), (I 276 0), (R 931), N, (R 932), (R 933), (R 934), (I 3031 0), (I 757 0), (V "/claim/cut.py" 3032)]), #[]⟩
def a936 : Obj := ⟨(T "function"), none, (.func (fd (kd (st 51) 5) (Str.ofString "TokenStream.next_ident_or_star") 3 [] N N N (V "cssselect.parser" 296) none (R 935) N 0)), #[]⟩
def a937 : Obj := ⟨(T "tuple"), none, (.seq #[] 0), #[]⟩
def a938 : Obj := ⟨N, none, (.fields #[]), #[]⟩
def a939 : Obj := ⟨(T "tuple"), none, (.seq #[(V "self" 3037)] 0), #[]⟩
def a940 : Obj := ⟨(T "tuple"), none, (.seq #[] 0), #[]⟩
def a941 : Obj := ⟨N, none, (.func (fd (kd (st 51) 6) (Str.ofString "TokenStream.skip_whitespace") 0 [] N N N N none N N 0)), #[]⟩
def a942 : Obj := ⟨(T "code"), none, (.fields #[(V "skip_whitespace" 3034), (V "TokenStream.skip_whitespace" 3035), (V "/claim/cut.py" 3036), (I 765 0), (I 1 0), (I 0 0), (I 0 0), (I 3 0), (R 937), (B true), (I 276 0), (R 938), N, (R 939), (R 940), (R 941), (I 3038 0), (I 765 0), (V "/claim/cut.py" 3039)]), #[]⟩
def a943 : Obj := ⟨(T "function"), none, (.func (fd (kd (st 51) 6) (Str.ofString "TokenStream.skip_whitespace") 3 [] N N N (V "cssselect.parser" 296) none (R 942) N 0)), #[]⟩
def a944 : Obj := ⟨(T "tuple"), none, (.seq #[(V "_peeking" 3041), (V "peeked" 3042), (V "source" 3043), (V "tokens" 3044), (V "used" 3045)] 0), #[]⟩
def a945 (P : Params) : Obj := ⟨(T "dict"), none, (.dict #[E P "__module__" 2982 (V "cssselect.parser" 296), E P "__firstlineno__" 2986 (I 722 2985), E P "__init__" 2995 (R 901), E P "next_token" 3002 (R 908), E P "next" 3010 (R 915), E P "peek" 3017 (R 922), E P "next_ident" 3025 (R 929), E P "next_ident_or_star" 3033 (R 936), E P "skip_whitespace" 3040 (R 943), E P "__static_attributes__" 3046 (R 944), E P "__dict__" 3048 (R 947), E P "__weakref__" 3050 (R 948), E P "__doc__" 3051 N] 4), #[]⟩
def a946 : Obj := ⟨(T "type"), none, (.cls ⟨(Str.ofString "TokenStream"), [(T "object")], [(R 946), (T "object")], 945, (Str.ofString "TokenStream"), true, [], [], false, none, false⟩), #[none, none, (some (V "TokenStream" 2975)), (some (V "TokenStream" 2983)), (some (U "object.__new__")), (some (B true))]⟩
def a947 : Obj := ⟨(T "getset_descriptor"), none, (.fields #[(V "__dict__" 3047), (R 946), (U "function.__dict__"), (U "function.__dict__#set")]), #[]⟩
def a948 : Obj := ⟨(T "getset_descriptor"), none, (.fields #[(V "__weakref__" 3049), (R 946), (U "ExceptionGroup.__weakref__"), N]), #[]⟩
def a949 : Obj := ⟨(T "super"), none, (.fields #[(R 946), (R 946), (R 946)]), #[]⟩
def a950 : Obj := ⟨(T "builtin_function_or_method"), none, (.fields #[(U "object.__init_subclass__"), (R 946)]), #[]⟩
def T54 (P : Params) : BT := (n (a0 P) (n (a1 P) (n (a3v24 P) (n a7 (n a15 (n a31 (n a63 (n a127 (n a255 (n a511 z z) (n a767 z z)) (n a383 (n a639 z z) (n a895 z z))) (n a191 (n a319 (n a575 z z) (n a831 z z)) (n a447 (n a703 z z) z))) (n a95 (n a159 (n a287 (n a543 z z) (n a799 z z)) (n a415 (n a671 z z) (n a927 z z))) (n a223 (n a351 (n a607 z z) (n a863 z z)) (n a479 (n a735 z z) z)))) (n a47 (n a79 (n a143 (n a271 (n a527 z z) (n a783 z z)) (n a399 (n a655 z z) (n a911 z z))) (n a207 (n a335 (n a591 z z) (n a847 z z)) (n a463 (n a719 z z) z))) (n a111 (n a175 (n a303 (n a559 z z) (n a815 z z)) (n a431 (n a687 z z) (n a943 z z))) (n a239 (n a367 (n a623 z z) (n a879 z z)) (n a495 (n a751 z z) z))))) (n a23 (n a39 (n a71 (n a135 (n a263 (n a519 z z) (n a775 z z)) (n a391 (n a647 z z) (n a903 z z))) (n a199 (n a327 (n a583 z z) (n a839 z z)) (n a455 (n a711 z z) z))) (n a103 (n a167 (n a295 (n a551 z z) (n a807 z z)) (n a423 (n a679 z z) (n a935 z z))) (n a231 (n a359 (n a615 z z) (n a871 z z)) (n a487 (n a743 z z) z)))) (n a55 (n a87 (n a151 (n a279 (n a535 z z) (n a791 z z)) (n a407 (n a663 z z) (n a919 z z))) (n a215 (n a343 (n a599 z z) (n a855 z z)) (n a471 (n a727 z z) z))) (n a119 (n a183 (n a311 (n a567 z z) (n a823 z z)) (n a439 (n a695 z z) z)) (n a247 (n a375 (n a631 z z) (n a887 z z)) (n a503 (n a759 z z) z)))))) (n (a11 P) (n a19 (n a35 (n a67 (n a131 (n a259 (n a515 z z) (n a771 z z)) (n a387 (n a643 z z) (n a899 z z))) (n a195 (n a323 (n a579 z z) (n a835 z z)) (n a451 (n a707 z z) z))) (n a99 (n a163 (n a291 (n a547 z z) (n a803 z z)) (n a419 (n a675 z z) (n a931 z z))) (n a227 (n a355 (n a611 z z) (n a867 z z)) (n a483 (n a739 z z) z)))) (n a51 (n a83 (n a147 (n a275 (n a531 z z) (n a787 z z)) (n a403 (n a659 z z) (n a915 z z))) (n a211 (n a339 (n a595 z z) (n a851 z z)) (n a467 (n a723 z z) z))) (n a115 (n a179 (n (a307 P) (n a563 z z) (n a819 z z)) (n a435 (n a691 z z) (n a947 z z))) (n a243 (n a371 (n a627 z z) (n a883 z z)) (n a499 (n a755 z z) z))))) (n a27 (n a43 (n a75 (n a139 (n a267 (n a523 z z) (n a779 z z)) (n a395 (n a651 z z) (n a907 z z))) (n a203 (n a331 (n a587 z z) (n a843 z z)) (n a459 (n a715 z z) z))) (n a107 (n a171 (n (a299 P) (n a555 z z) (n a811 z z)) (n a427 (n a683 z z) (n a939 z z))) (n a235 (n a363 (n a619 z z) (n a875 z z)) (n a491 (n a747 z z) z)))) (n a59 (n (a91 P) (n a155 (n a283 (n a539 z z) (n a795 z z)) (n a411 (n a667 z z) (n a923 z z))) (n a219 (n a347 (n a603 z z) (n a859 z z)) (n a475 (n (a731 P) z z) z))) (n a123 (n a187 (n a315 (n a571 z z) (n a827 z z)) (n a443 (n a699 z z) z)) (n a251 (n a379 (n a635 z z) (n a891 z z)) (n a507 (n a763 z z) z))))))) (n a5 (n a9 (n a17 (n a33 (n a65 (n a129 (n (a257 P) (n a513 z z) (n a769 z z)) (n a385 (n a641 z z) (n a897 z z))) (n a193 (n a321 (n a577 z z) (n a833 z z)) (n a449 (n a705 z z) z))) (n (a97 P) (n a161 (n a289 (n a545 z z) (n a801 z z)) (n a417 (n a673 z z) (n a929 z z))) (n a225 (n a353 (n a609 z z) (n a865 z z)) (n a481 (n a737 z z) z)))) (n a49 (n a81 (n a145 (n a273 (n a529 z z) (n a785 z z)) (n a401 (n a657 z z) (n a913 z z))) (n a209 (n a337 (n a593 z z) (n a849 z z)) (n a465 (n a721 z z) z))) (n a113 (n a177 (n a305 (n a561 z z) (n a817 z z)) (n a433 (n a689 z z) (n (a945 P) z z))) (n a241 (n a369 (n a625 z z) (n a881 z z)) (n a497 (n a753 z z) z))))) (n a25 (n a41 (n a73 (n a137 (n (a265 P) (n a521 z z) (n a777 z z)) (n a393 (n a649 z z) (n a905 z z))) (n a201 (n a329 (n a585 z z) (n a841 z z)) (n a457 (n a713 z z) z))) (n a105 (n a169 (n a297 (n a553 z z) (n (a809 P) z z)) (n a425 (n a681 z z) (n a937 z z))) (n a233 (n a361 (n a617 z z) (n a873 z z)) (n a489 (n a745 z z) z)))) (n a57 (n a89 (n a153 (n a281 (n a537 z z) (n a793 z z)) (n a409 (n a665 z z) (n a921 z z))) (n a217 (n a345 (n a601 z z) (n a857 z z)) (n a473 (n a729 z z) z))) (n a121 (n a185 (n a313 (n a569 z z) (n a825 z z)) (n a441 (n a697 z z) z)) (n a249 (n a377 (n a633 z z) (n (a889 P) z z)) (n a505 (n a761 z z) z)))))) (n (a13 P) (n (a21 P) (n a37 (n a69 (n a133 (n a261 (n (a517 P) z z) (n a773 z z)) (n a389 (n a645 z z) (n a901 z z))) (n a197 (n a325 (n a581 z z) (n a837 z z)) (n a453 (n a709 z z) z))) (n a101 (n a165 (n a293 (n a549 z z) (n a805 z z)) (n a421 (n a677 z z) (n a933 z z))) (n a229 (n a357 (n a613 z z) (n a869 z z)) (n a485 (n a741 z z) z)))) (n a53 (n (a85 P) (n a149 (n a277 (n a533 z z) (n (a789 P) z z)) (n a405 (n a661 z z) (n a917 z z))) (n a213 (n (a341 P) (n a597 z z) (n a853 z z)) (n a469 (n a725 z z) z))) (n a117 (n a181 (n a309 (n a565 z z) (n a821 z z)) (n a437 (n a693 z z) (n a949 z z))) (n a245 (n a373 (n a629 z z) (n a885 z z)) (n a501 (n a757 z z) z))))) (n a29v21 (n a45 (n a77 (n a141 (n a269 (n (a525 P) z z) (n (a781 P) z z)) (n a397 (n a653 z z) (n a909 z z))) (n a205 (n a333 (n a589 z z) (n a845 z z)) (n a461 (n a717 z z) z))) (n a109 (n a173 (n a301 (n a557 z z) (n a813 z z)) (n a429 (n a685 z z) (n a941 z z))) (n a237 (n a365 (n a621 z z) (n a877 z z)) (n a493 (n a749 z z) z)))) (n a61 (n a93 (n a157 (n a285 (n a541 z z) (n a797 z z)) (n a413 (n a669 z z) (n a925 z z))) (n a221 (n a349 (n a605 z z) (n a861 z z)) (n a477 (n a733 z z) z))) (n a125 (n a189 (n a317 (n a573 z z) (n a829 z z)) (n a445 (n a701 z z) z)) (n a253 (n a381 (n a637 z z) (n a893 z z)) (n a509 (n a765 z z) z)))))))) (n (a2v1 P) (n a4 (n a8 (n a16 (n a32 (n a64 (n a128 (n a256 (n a512 z z) (n a768 z z)) (n a384 (n a640 z z) (n a896 z z))) (n a192 (n a320 (n a576 z z) (n a832 z z)) (n a448 (n a704 z z) z))) (n a96 (n a160 (n a288 (n a544 z z) (n a800 z z)) (n a416 (n a672 z z) (n a928 z z))) (n a224 (n a352 (n a608 z z) (n a864 z z)) (n a480 (n a736 z z) z)))) (n a48 (n a80 (n a144 (n a272 (n a528 z z) (n a784 z z)) (n a400 (n a656 z z) (n a912 z z))) (n a208 (n a336 (n a592 z z) (n a848 z z)) (n a464 (n a720 z z) z))) (n a112 (n a176 (n a304 (n (a560 P) z z) (n a816 z z)) (n (a432 P) (n a688 z z) (n a944 z z))) (n a240 (n a368 (n a624 z z) (n a880 z z)) (n a496 (n a752 z z) z))))) (n a24 (n a40 (n (a72 P) (n a136 (n a264 (n a520 z z) (n a776 z z)) (n a392 (n a648 z z) (n a904 z z))) (n a200 (n a328 (n a584 z z) (n a840 z z)) (n a456 (n a712 z z) z))) (n a104 (n a168 (n a296 (n a552 z z) (n a808 z z)) (n a424 (n a680 z z) (n a936 z z))) (n a232 (n a360 (n a616 z z) (n a872 z z)) (n a488 (n a744 z z) z)))) (n a56 (n a88 (n a152 (n a280 (n a536 z z) (n a792 z z)) (n a408 (n a664 z z) (n a920 z z))) (n a216 (n a344 (n a600 z z) (n a856 z z)) (n a472 (n a728 z z) z))) (n a120 (n a184 (n a312 (n (a568 P) z z) (n a824 z z)) (n (a440 P) (n a696 z z) z)) (n a248 (n a376 (n a632 z z) (n a888 z z)) (n a504 (n a760 z z) z)))))) (n a12 (n (a20 P) (n a36 (n a68 (n (a132 P) (n a260 (n a516 z z) (n a772 z z)) (n a388 (n (a644 P) z z) (n a900 z z))) (n a196 (n a324 (n a580 z z) (n a836 z z)) (n a452 (n a708 z z) z))) (n a100 (n a164 (n a292 (n a548 z z) (n a804 z z)) (n a420 (n a676 z z) (n a932 z z))) (n a228 (n (a356 P) (n a612 z z) (n a868 z z)) (n a484 (n a740 z z) z)))) (n a52 (n a84 (n a148 (n a276 (n a532 z z) (n a788 z z)) (n a404 (n a660 z z) (n a916 z z))) (n (a212 P) (n a340 (n a596 z z) (n a852 z z)) (n a468 (n a724 z z) z))) (n a116 (n a180 (n a308 (n a564 z z) (n a820 z z)) (n a436 (n a692 z z) (n a948 z z))) (n a244 (n a372 (n a628 z z) (n a884 z z)) (n a500 (n a756 z z) z))))) (n a28 (n a44 (n a76 (n (a140 P) (n a268 (n a524 z z) (n a780 z z)) (n a396 (n a652 z z) (n a908 z z))) (n a204 (n a332 (n a588 z z) (n a844 z z)) (n a460 (n a716 z z) z))) (n a108 (n a172 (n a300 (n a556 z z) (n a812 z z)) (n a428 (n a684 z z) (n a940 z z))) (n a236 (n a364 (n a620 z z) (n a876 z z)) (n a492 (n a748 z z) z)))) (n a60 (n a92 (n a156 (n a284 (n a540 z z) (n a796 z z)) (n a412 (n a668 z z) (n a924 z z))) (n (a220 P) (n a348 (n a604 z z) (n a860 z z)) (n a476 (n a732 z z) z))) (n a124 (n a188 (n a316 (n a572 z z) (n a828 z z)) (n a444 (n a700 z z) z)) (n a252 (n a380 (n a636 z z) (n a892 z z)) (n a508 (n a764 z z) z))))))) (n a6 (n a10 (n a18 (n a34 (n a66 (n a130 (n a258 (n a514 z z) (n a770 z z)) (n a386 (n a642 z z) (n a898 z z))) (n a194 (n a322 (n a578 z z) (n (a834 P) z z)) (n a450 (n a706 z z) z))) (n a98 (n a162 (n a290 (n a546 z z) (n a802 z z)) (n a418 (n a674 z z) (n a930 z z))) (n a226 (n a354 (n (a610 P) z z) (n a866 z z)) (n (a482 P) (n a738 z z) z)))) (n a50 (n a82 (n a146 (n a274 (n a530 z z) (n a786 z z)) (n a402 (n a658 z z) (n a914 z z))) (n a210 (n a338 (n a594 z z) (n a850 z z)) (n a466 (n a722 z z) z))) (n a114 (n a178 (n a306 (n a562 z z) (n a818 z z)) (n a434 (n a690 z z) (n a946 z z))) (n a242 (n a370 (n a626 z z) (n a882 z z)) (n a498 (n a754 z z) z))))) (n a26 (n a42 (n a74 (n a138 (n a266 (n a522 z z) (n a778 z z)) (n a394 (n a650 z z) (n a906 z z))) (n a202 (n a330 (n a586 z z) (n a842 z z)) (n a458 (n a714 z z) z))) (n a106 (n a170 (n a298 (n a554 z z) (n a810 z z)) (n a426 (n a682 z z) (n a938 z z))) (n a234 (n a362 (n a618 z z) (n a874 z z)) (n a490 (n a746 z z) z)))) (n a58 (n a90 (n a154 (n a282 (n a538 z z) (n a794 z z)) (n a410 (n a666 z z) (n a922 z z))) (n a218 (n a346 (n (a602 P) z z) (n a858 z z)) (n (a474 P) (n a730 z z) z))) (n a122 (n a186 (n a314 (n a570 z z) (n a826 z z)) (n a442 (n a698 z z) z)) (n a250 (n a378 (n a634 z z) (n a890 z z)) (n a506 (n a762 z z) z)))))) (n a14 (n a22 (n a38 (n a70 (n a134 (n a262 (n a518 z z) (n a774 z z)) (n (a390 P) (n a646 z z) (n a902 z z))) (n a198 (n a326 (n a582 z z) (n a838 z z)) (n a454 (n a710 z z) z))) (n a102 (n a166 (n a294 (n a550 z z) (n a806 z z)) (n a422 (n a678 z z) (n a934 z z))) (n a230 (n a358 (n a614 z z) (n a870 z z)) (n a486 (n a742 z z) z)))) (n a54 (n a86 (n a150 (n a278 (n a534 z z) (n a790 z z)) (n a406 (n a662 z z) (n a918 z z))) (n a214 (n a342 (n a598 z z) (n a854 z z)) (n a470 (n a726 z z) z))) (n a118 (n (a182 P) (n a310 (n a566 z z) (n a822 z z)) (n a438 (n a694 z z) (n a950 z z))) (n a246 (n a374 (n a630 z z) (n a886 z z)) (n a502 (n a758 z z) z))))) (n a30 (n a46 (n (a78 P) (n a142 (n a270 (n a526 z z) (n a782v1 z z)) (n (a398 P) (n a654 z z) (n a910 z z))) (n a206 (n a334 (n a590 z z) (n a846 z z)) (n a462 (n a718 z z) z))) (n a110 (n (a174 P) (n a302 (n a558 z z) (n a814 z z)) (n a430 (n a686 z z) (n a942 z z))) (n a238 (n a366 (n a622 z z) (n a878 z z)) (n a494 (n a750 z z) z)))) (n a62 (n a94 (n a158 (n a286 (n a542 z z) (n a798 z z)) (n a414 (n a670 z z) (n a926 z z))) (n a222 (n a350 (n a606 z z) (n a862 z z)) (n a478 (n a734 z z) z))) (n a126 (n a190 (n a318 (n a574 z z) (n a830 z z)) (n a446 (n a702 z z) z)) (n a254 (n a382 (n a638 z z) (n a894 z z)) (n a510 (n a766 z z) z)))))))))
def a3v25 (P : Params) : Obj := grow (a3v24 P) #[E P "ExpressionError" 3075 (R 960)] 63
def a29v22 : Obj := ⟨N, none, (.fields #[(I 2 0), (I 0 0), (R 37), (I 5 0), (I 0 0), (R 44), (I 12 0), (I 0 0), (R 61), (I 14 0), (I 0 0), (R 68), (I 16 0), (I 0 0), (R 75), (I 18 0), (I 0 0), (R 88), (I 20 0), (I 0 0), (R 100), (I 54 0), (I 0 0), (R 143), (I 70 0), (I 0 0), (R 185), (I 86 0), (I 0 0), (R 223), (I 108 0), (I 0 0), (R 268), (I 124 0), (I 0 0), (R 310), (I 143 0), (I 0 0), (R 352), (I 147 0), (I 0 0), (R 359), (I 165 0), (I 0 0), (R 401), (I 189 0), (I 0 0), (R 443), (I 211 0), (I 0 0), (R 485), (I 246 0), (I 0 0), (R 528), (I 266 0), (I 0 0), (R 571), (I 282 0), (I 0 0), (R 613), (I 308 0), (I 0 0), (R 670), (I 321 0), (I 0 0), (R 677), (I 330 0), (I 0 0), (R 684), (I 347 0), (I 0 0), (R 692), (I 449 0), (I 0 0), (R 699), (I 460 0), (I 0 0), (R 706), (I 491 0), (I 0 0), (R 713), (I 508 0), (I 0 0), (R 720), (I 562 0), (I 0 0), (R 727), (I 585 0), (I 0 0), (R 734), (I 614 0), (I 0 0), (R 792), (I 628 0), (I 0 0), (R 850), (I 633 0), (I 0 0), (R 857), (I 640 0), (I 0 0), (R 864), (I 648 0), (I 0 0), (R 871), (I 650 0), (I 0 0), (R 878), (I 669 0), (I 0 0), (R 885), (I 722 0), (I 0 0), (R 892), (I 771 0), (I 0 0), (R 956)]), #[]⟩
def a79v1 : Obj := ⟨(T "type"), none, (.cls ⟨(Str.ofString "SelectorError"), [(T "Exception")], [(R 79), (T "Exception"), (T "BaseException"), (T "object")], 78, (Str.ofString "SelectorError"), true, [], [(R 92), (R 960)], false, none, false⟩), #[(some (R 70)), none, (some (V "SelectorError" 589)), (some (V "SelectorError" 597)), (some (U "Exception.__new__")), (some (B true))]⟩
def a951 : Obj := ⟨(T "tuple"), none, (.seq #[(R 79)] 0), #[]⟩
def a952 : Obj := ⟨(T "builtin_function_or_method"), none, (.fields #[(U "type.__prepare__"), (T "type")]), #[]⟩
def a953 (P : Params) : Obj := ⟨(T "dict"), none, (.dict #[E P "__module__" 3067 (V "cssselect.xpath" 3054), E P "__qualname__" 3069 (V "ExpressionError" 3068), E P "__firstlineno__" 3071 (I 771 3070), E P "__static_attributes__" 3072 (R 958)] 4), #[]⟩
def a954 : Obj := ⟨(T "tuple"), none, (.seq #[] 0), #[]⟩
def a955 : Obj := ⟨N, none, (.fields #[]), #[]⟩
def a956 : Obj := ⟨(T "code"), none, (.fields #[(V "ExpressionError" 3062), (V "ExpressionError" 3063), (V "/claim/cut.py" 3064), (I 771 0), (I 0 0), (I 0 0), (I 0 0), (I 0 0), (R 954), (B false), (I 276 0), (R 955), N, N, N, N, (I 3065 0), (I 771 0), (V "/claim/cut.py" 3066)]), #[]⟩
def a957 : Obj := ⟨(T "frame"), none, .plain, #[(some (R 956)), (some (R 3)), (some (R 953)), none, (some (V "cssselect.xpath" 3054)), none, (some (R 0))]⟩
def a958 : Obj := ⟨(T "tuple"), none, (.seq #[] 0), #[]⟩
def a959 (P : Params) : Obj := ⟨(T "dict"), none, (.dict #[E P "__module__" 3067 (V "cssselect.xpath" 3054), E P "__firstlineno__" 3071 (I 771 3070), E P "__static_attributes__" 3072 (R 958), E P "__doc__" 3073 N] 2), #[]⟩
def a960 : Obj := ⟨(T "type"), none, (.cls ⟨(Str.ofString "ExpressionError"), [(R 79)], [(R 960), (R 79), (T "Exception"), (T "BaseException"), (T "object")], 959, (Str.ofString "ExpressionError"), true, [], [], false, none, false⟩), #[(some (R 951)), none, (some (V "ExpressionError" 3060)), (some (V "ExpressionError" 3068)), (some (U "Exception.__new__")), (some (B true))]⟩
def a961 : Obj := ⟨(T "super"), none, (.fields #[(R 960), (R 960), (R 960)]), #[]⟩
def a962 : Obj := ⟨(T "builtin_function_or_method"), none, (.fields #[(U "object.__init_subclass__"), (R 960)]), #[]⟩
def T55 (P : Params) : BT := (n (a0 P) (n (a1 P) (n (a3v25 P) (n a7 (n a15 (n a31 (n a63 (n a127 (n a255 (n a511 z z) (n a767 z z)) (n a383 (n a639 z z) (n a895 z z))) (n a191 (n a319 (n a575 z z) (n a831 z z)) (n a447 (n a703 z z) (n (a959 P) z z)))) (n a95 (n a159 (n a287 (n a543 z z) (n a799 z z)) (n a415 (n a671 z z) (n a927 z z))) (n a223 (n a351 (n a607 z z) (n a863 z z)) (n a479 (n a735 z z) z)))) (n a47 (n a79v1 (n a143 (n a271 (n a527 z z) (n a783 z z)) (n a399 (n a655 z z) (n a911 z z))) (n a207 (n a335 (n a591 z z) (n a847 z z)) (n a463 (n a719 z z) z))) (n a111 (n a175 (n a303 (n a559 z z) (n a815 z z)) (n a431 (n a687 z z) (n a943 z z))) (n a239 (n a367 (n a623 z z) (n a879 z z)) (n a495 (n a751 z z) z))))) (n a23 (n a39 (n a71 (n a135 (n a263 (n a519 z z) (n a775 z z)) (n a391 (n a647 z z) (n a903 z z))) (n a199 (n a327 (n a583 z z) (n a839 z z)) (n a455 (n a711 z z) z))) (n a103 (n a167 (n a295 (n a551 z z) (n a807 z z)) (n a423 (n a679 z z) (n a935 z z))) (n a231 (n a359 (n a615 z z) (n a871 z z)) (n a487 (n a743 z z) z)))) (n a55 (n a87 (n a151 (n a279 (n a535 z z) (n a791 z z)) (n a407 (n a663 z z) (n a919 z z))) (n a215 (n a343 (n a599 z z) (n a855 z z)) (n a471 (n a727 z z) z))) (n a119 (n a183 (n a311 (n a567 z z) (n a823 z z)) (n a439 (n a695 z z) (n a951 z z))) (n a247 (n a375 (n a631 z z) (n a887 z z)) (n a503 (n a759 z z) z)))))) (n (a11 P) (n a19 (n a35 (n a67 (n a131 (n a259 (n a515 z z) (n a771 z z)) (n a387 (n a643 z z) (n a899 z z))) (n a195 (n a323 (n a579 z z) (n a835 z z)) (n a451 (n a707 z z) z))) (n a99 (n a163 (n a291 (n a547 z z) (n a803 z z)) (n a419 (n a675 z z) (n a931 z z))) (n a227 (n a355 (n a611 z z) (n a867 z z)) (n a483 (n a739 z z) z)))) (n a51 (n a83 (n a147 (n a275 (n a531 z z) (n a787 z z)) (n a403 (n a659 z z) (n a915 z z))) (n a211 (n a339 (n a595 z z) (n a851 z z)) (n a467 (n a723 z z) z))) (n a115 (n a179 (n (a307 P) (n a563 z z) (n a819 z z)) (n a435 (n a691 z z) (n a947 z z))) (n a243 (n a371 (n a627 z z) (n a883 z z)) (n a499 (n a755 z z) z))))) (n a27 (n a43 (n a75 (n a139 (n a267 (n a523 z z) (n a779 z z)) (n a395 (n a651 z z) (n a907 z z))) (n a203 (n a331 (n a587 z z) (n a843 z z)) (n a459 (n a715 z z) z))) (n a107 (n a171 (n (a299 P) (n a555 z z) (n a811 z z)) (n a427 (n a683 z z) (n a939 z z))) (n a235 (n a363 (n a619 z z) (n a875 z z)) (n a491 (n a747 z z) z)))) (n a59 (n (a91 P) (n a155 (n a283 (n a539 z z) (n a795 z z)) (n a411 (n a667 z z) (n a923 z z))) (n a219 (n a347 (n a603 z z) (n a859 z z)) (n a475 (n (a731 P) z z) z))) (n a123 (n a187 (n a315 (n a571 z z) (n a827 z z)) (n a443 (n a699 z z) (n a955 z z))) (n a251 (n a379 (n a635 z z) (n a891 z z)) (n a507 (n a763 z z) z))))))) (n a5 (n a9 (n a17 (n a33 (n a65 (n a129 (n (a257 P) (n a513 z z) (n a769 z z)) (n a385 (n a641 z z) (n a897 z z))) (n a193 (n a321 (n a577 z z) (n a833 z z)) (n a449 (n a705 z z) (n a961 z z)))) (n (a97 P) (n a161 (n a289 (n a545 z z) (n a801 z z)) (n a417 (n a673 z z) (n a929 z z))) (n a225 (n a353 (n a609 z z) (n a865 z z)) (n a481 (n a737 z z) z)))) (n a49 (n a81 (n a145 (n a273 (n a529 z z) (n a785 z z)) (n a401 (n a657 z z) (n a913 z z))) (n a209 (n a337 (n a593 z z) (n a849 z z)) (n a465 (n a721 z z) z))) (n a113 (n a177 (n a305 (n a561 z z) (n a817 z z)) (n a433 (n a689 z z) (n (a945 P) z z))) (n a241 (n a369 (n a625 z z) (n a881 z z)) (n a497 (n a753 z z) z))))) (n a25 (n a41 (n a73 (n a137 (n (a265 P) (n a521 z z) (n a777 z z)) (n a393 (n a649 z z) (n a905 z z))) (n a201 (n a329 (n a585 z z) (n a841 z z)) (n a457 (n a713 z z) z))) (n a105 (n a169 (n a297 (n a553 z z) (n (a809 P) z z)) (n a425 (n a681 z z) (n a937 z z))) (n a233 (n a361 (n a617 z z) (n a873 z z)) (n a489 (n a745 z z) z)))) (n a57 (n a89 (n a153 (n a281 (n a537 z z) (n a793 z z)) (n a409 (n a665 z z) (n a921 z z))) (n a217 (n a345 (n a601 z z) (n a857 z z)) (n a473 (n a729 z z) z))) (n a121 (n a185 (n a313 (n a569 z z) (n a825 z z)) (n a441 (n a697 z z) (n (a953 P) z z))) (n a249 (n a377 (n a633 z z) (n (a889 P) z z)) (n a505 (n a761 z z) z)))))) (n (a13 P) (n (a21 P) (n a37 (n a69 (n a133 (n a261 (n (a517 P) z z) (n a773 z z)) (n a389 (n a645 z z) (n a901 z z))) (n a197 (n a325 (n a581 z z) (n a837 z z)) (n a453 (n a709 z z) z))) (n a101 (n a165 (n a293 (n a549 z z) (n a805 z z)) (n a421 (n a677 z z) (n a933 z z))) (n a229 (n a357 (n a613 z z) (n a869 z z)) (n a485 (n a741 z z) z)))) (n a53 (n (a85 P) (n a149 (n a277 (n a533 z z) (n (a789 P) z z)) (n a405 (n a661 z z) (n a917 z z))) (n a213 (n (a341 P) (n a597 z z) (n a853 z z)) (n a469 (n a725 z z) z))) (n a117 (n a181 (n a309 (n a565 z z) (n a821 z z)) (n a437 (n a693 z z) (n a949 z z))) (n a245 (n a373 (n a629 z z) (n a885 z z)) (n a501 (n a757 z z) z))))) (n a29v22 (n a45 (n a77 (n a141 (n a269 (n (a525 P) z z) (n (a781 P) z z)) (n a397 (n a653 z z) (n a909 z z))) (n a205 (n a333 (n a589 z z) (n a845 z z)) (n a461 (n a717 z z) z))) (n a109 (n a173 (n a301 (n a557 z z) (n a813 z z)) (n a429 (n a685 z z) (n a941 z z))) (n a237 (n a365 (n a621 z z) (n a877 z z)) (n a493 (n a749 z z) z)))) (n a61 (n a93 (n a157 (n a285 (n a541 z z) (n a797 z z)) (n a413 (n a669 z z) (n a925 z z))) (n a221 (n a349 (n a605 z z) (n a861 z z)) (n a477 (n a733 z z) z))) (n a125 (n a189 (n a317 (n a573 z z) (n a829 z z)) (n a445 (n a701 z z) (n a957 z z))) (n a253 (n a381 (n a637 z z) (n a893 z z)) (n a509 (n a765 z z) z)))))))) (n (a2v1 P) (n a4 (n a8 (n a16 (n a32 (n a64 (n a128 (n a256 (n a512 z z) (n a768 z z)) (n a384 (n a640 z z) (n a896 z z))) (n a192 (n a320 (n a576 z z) (n a832 z z)) (n a448 (n a704 z z) (n a960 z z)))) (n a96 (n a160 (n a288 (n a544 z z) (n a800 z z)) (n a416 (n a672 z z) (n a928 z z))) (n a224 (n a352 (n a608 z z) (n a864 z z)) (n a480 (n a736 z z) z)))) (n a48 (n a80 (n a144 (n a272 (n a528 z z) (n a784 z z)) (n a400 (n a656 z z) (n a912 z z))) (n a208 (n a336 (n a592 z z) (n a848 z z)) (n a464 (n a720 z z) z))) (n a112 (n a176 (n a304 (n (a560 P) z z) (n a816 z z)) (n (a432 P) (n a688 z z) (n a944 z z))) (n a240 (n a368 (n a624 z z) (n a880 z z)) (n a496 (n a752 z z) z))))) (n a24 (n a40 (n (a72 P) (n a136 (n a264 (n a520 z z) (n a776 z z)) (n a392 (n a648 z z) (n a904 z z))) (n a200 (n a328 (n a584 z z) (n a840 z z)) (n a456 (n a712 z z) z))) (n a104 (n a168 (n a296 (n a552 z z) (n a808 z z)) (n a424 (n a680 z z) (n a936 z z))) (n a232 (n a360 (n a616 z z) (n a872 z z)) (n a488 (n a744 z z) z)))) (n a56 (n a88 (n a152 (n a280 (n a536 z z) (n a792 z z)) (n a408 (n a664 z z) (n a920 z z))) (n a216 (n a344 (n a600 z z) (n a856 z z)) (n a472 (n a728 z z) z))) (n a120 (n a184 (n a312 (n (a568 P) z z) (n a824 z z)) (n (a440 P) (n a696 z z) (n a952 z z))) (n a248 (n a376 (n a632 z z) (n a888 z z)) (n a504 (n a760 z z) z)))))) (n a12 (n (a20 P) (n a36 (n a68 (n (a132 P) (n a260 (n a516 z z) (n a772 z z)) (n a388 (n (a644 P) z z) (n a900 z z))) (n a196 (n a324 (n a580 z z) (n a836 z z)) (n a452 (n a708 z z) z))) (n a100 (n a164 (n a292 (n a548 z z) (n a804 z z)) (n a420 (n a676 z z) (n a932 z z))) (n a228 (n (a356 P) (n a612 z z) (n a868 z z)) (n a484 (n a740 z z) z)))) (n a52 (n a84 (n a148 (n a276 (n a532 z z) (n a788 z z)) (n a404 (n a660 z z) (n a916 z z))) (n (a212 P) (n a340 (n a596 z z) (n a852 z z)) (n a468 (n a724 z z) z))) (n a116 (n a180 (n a308 (n a564 z z) (n a820 z z)) (n a436 (n a692 z z) (n a948 z z))) (n a244 (n a372 (n a628 z z) (n a884 z z)) (n a500 (n a756 z z) z))))) (n a28 (n a44 (n a76 (n (a140 P) (n a268 (n a524 z z) (n a780 z z)) (n a396 (n a652 z z) (n a908 z z))) (n a204 (n a332 (n a588 z z) (n a844 z z)) (n a460 (n a716 z z) z))) (n a108 (n a172 (n a300 (n a556 z z) (n a812 z z)) (n a428 (n a684 z z) (n a940 z z))) (n a236 (n a364 (n a620 z z) (n a876 z z)) (n a492 (n a748 z z) z)))) (n a60 (n a92 (n a156 (n a284 (n a540 z z) (n a796 z z)) (n a412 (n a668 z z) (n a924 z z))) (n (a220 P) (n a348 (n a604 z z) (n a860 z z)) (n a476 (n a732 z z) z))) (n a124 (n a188 (n a316 (n a572 z z) (n a828 z z)) (n a444 (n a700 z z) (n a956 z z))) (n a252 (n a380 (n a636 z z) (n a892 z z)) (n a508 (n a764 z z) z))))))) (n a6 (n a10 (n a18 (n a34 (n a66 (n a130 (n a258 (n a514 z z) (n a770 z z)) (n a386 (n a642 z z) (n a898 z z))) (n a194 (n a322 (n a578 z z) (n (a834 P) z z)) (n a450 (n a706 z z) (n a962 z z)))) (n a98 (n a162 (n a290 (n a546 z z) (n a802 z z)) (n a418 (n a674 z z) (n a930 z z))) (n a226 (n a354 (n (a610 P) z z) (n a866 z z)) (n (a482 P) (n a738 z z) z)))) (n a50 (n a82 (n a146 (n a274 (n a530 z z) (n a786 z z)) (n a402 (n a658 z z) (n a914 z z))) (n a210 (n a338 (n a594 z z) (n a850 z z)) (n a466 (n a722 z z) z))) (n a114 (n a178 (n a306 (n a562 z z) (n a818 z z)) (n a434 (n a690 z z) (n a946 z z))) (n a242 (n a370 (n a626 z z) (n a882 z z)) (n a498 (n a754 z z) z))))) (n a26 (n a42 (n a74 (n a138 (n a266 (n a522 z z) (n a778 z z)) (n a394 (n a650 z z) (n a906 z z))) (n a202 (n a330 (n a586 z z) (n a842 z z)) (n a458 (n a714 z z) z))) (n a106 (n a170 (n a298 (n a554 z z) (n a810 z z)) (n a426 (n a682 z z) (n a938 z z))) (n a234 (n a362 (n a618 z z) (n a874 z z)) (n a490 (n a746 z z) z)))) (n a58 (n a90 (n a154 (n a282 (n a538 z z) (n a794 z z)) (n a410 (n a666 z z) (n a922 z z))) (n a218 (n a346 (n (a602 P) z z) (n a858 z z)) (n (a474 P) (n a730 z z) z))) (n a122 (n a186 (n a314 (n a570 z z) (n a826 z z)) (n a442 (n a698 z z) (n a954 z z))) (n a250 (n a378 (n a634 z z) (n a890 z z)) (n a506 (n a762 z z) z)))))) (n a14 (n a22 (n a38 (n a70 (n a134 (n a262 (n a518 z z) (n a774 z z)) (n (a390 P) (n a646 z z) (n a902 z z))) (n a198 (n a326 (n a582 z z) (n a838 z z)) (n a454 (n a710 z z) z))) (n a102 (n a166 (n a294 (n a550 z z) (n a806 z z)) (n a422 (n a678 z z) (n a934 z z))) (n a230 (n a358 (n a614 z z) (n a870 z z)) (n a486 (n a742 z z) z)))) (n a54 (n a86 (n a150 (n a278 (n a534 z z) (n a790 z z)) (n a406 (n a662 z z) (n a918 z z))) (n a214 (n a342 (n a598 z z) (n a854 z z)) (n a470 (n a726 z z) z))) (n a118 (n (a182 P) (n a310 (n a566 z z) (n a822 z z)) (n a438 (n a694 z z) (n a950 z z))) (n a246 (n a374 (n a630 z z) (n a886 z z)) (n a502 (n a758 z z) z))))) (n a30 (n a46 (n (a78 P) (n a142 (n a270 (n a526 z z) (n a782v1 z z)) (n (a398 P) (n a654 z z) (n a910 z z))) (n a206 (n a334 (n a590 z z) (n a846 z z)) (n a462 (n a718 z z) z))) (n a110 (n (a174 P) (n a302 (n a558 z z) (n a814 z z)) (n a430 (n a686 z z) (n a942 z z))) (n a238 (n a366 (n a622 z z) (n a878 z z)) (n a494 (n a750 z z) z)))) (n a62 (n a94 (n a158 (n a286 (n a542 z z) (n a798 z z)) (n a414 (n a670 z z) (n a926 z z))) (n a222 (n a350 (n a606 z z) (n a862 z z)) (n a478 (n a734 z z) z))) (n a126 (n a190 (n a318 (n a574 z z) (n a830 z z)) (n a446 (n a702 z z) (n a958 z z))) (n a254 (n a382 (n a638 z z) (n a894 z z)) (n a510 (n a766 z z) z)))))))))
def a3v26 (P : Params) : Obj := grow (a3v25 P) #[E P "XPathExpr" 3164 (R 1023), E P "split_at_single_quotes" 3173 (R 1034)] 65
def a29v23 : Obj := ⟨N, none, (.fields #[(I 2 0), (I 0 0), (R 37), (I 5 0), (I 0 0), (R 44), (I 12 0), (I 0 0), (R 61), (I 14 0), (I 0 0), (R 68), (I 16 0), (I 0 0), (R 75), (I 18 0), (I 0 0), (R 88), (I 20 0), (I 0 0), (R 100), (I 54 0), (I 0 0), (R 143), (I 70 0), (I 0 0), (R 185), (I 86 0), (I 0 0), (R 223), (I 108 0), (I 0 0), (R 268), (I 124 0), (I 0 0), (R 310), (I 143 0), (I 0 0), (R 352), (I 147 0), (I 0 0), (R 359), (I 165 0), (I 0 0), (R 401), (I 189 0), (I 0 0), (R 443), (I 211 0), (I 0 0), (R 485), (I 246 0), (I 0 0), (R 528), (I 266 0), (I 0 0), (R 571), (I 282 0), (I 0 0), (R 613), (I 308 0), (I 0 0), (R 670), (I 321 0), (I 0 0), (R 677), (I 330 0), (I 0 0), (R 684), (I 347 0), (I 0 0), (R 692), (I 449 0), (I 0 0), (R 699), (I 460 0), (I 0 0), (R 706), (I 491 0), (I 0 0), (R 713), (I 508 0), (I 0 0), (R 720), (I 562 0), (I 0 0), (R 727), (I 585 0), (I 0 0), (R 734), (I 614 0), (I 0 0), (R 792), (I 628 0), (I 0 0), (R 850), (I 633 0), (I 0 0), (R 857), (I 640 0), (I 0 0), (R 864), (I 648 0), (I 0 0), (R 871), (I 650 0), (I 0 0), (R 878), (I 669 0), (I 0 0), (R 885), (I 722 0), (I 0 0), (R 892), (I 771 0), (I 0 0), (R 956), (I 773 0), (I 0 0), (R 968), (I 817 0), (I 0 0), (R 1033)]), #[]⟩
def a963 : Obj := ⟨(T "tuple"), none, (.seq #[] 0), #[]⟩
def a964 : Obj := ⟨(T "builtin_function_or_method"), none, (.fields #[(U "type.__prepare__"), (T "type")]), #[]⟩
def a965 (P : Params) : Obj := ⟨(T "dict"), none, (.dict #[E P "__module__" 3083 (V "cssselect.xpath" 3054), E P "__qualname__" 3085 (V "XPathExpr" 3084), E P "__firstlineno__" 3087 (I 773 3086), E P "__init__" 3101 (R 977), E P "__str__" 3109 (R 984), E P "__repr__" 3116 (R 991), E P "add_condition" 3126 (R 999), E P "add_name_test" 3136 (R 1006), E P "add_star_prefix" 3143 (R 1013), E P "join" 3153 (R 1020), E P "__static_attributes__" 3157 (R 1021)] 11), #[]⟩
def a966 : Obj := ⟨(T "tuple"), none, (.seq #[] 0), #[]⟩
def a967 : Obj := ⟨N, none, (.fields #[(I 775 0), (I 4 0), (R 976), (I 780 0), (I 4 0), (R 983), (I 786 0), (I 4 0), (R 990), (I 789 0), (I 4 0), (R 998), (I 796 0), (I 4 0), (R 1005), (I 806 0), (I 4 0), (R 1012), (I 809 0), (I 4 0), (R 1019)]), #[]⟩
def a968 : Obj := ⟨(T "code"), none, (.fields #[(V "XPathExpr" 3078), (V "XPathExpr" 3079), (V "/claim/cut.py" 3080), (I 773 0), (I 0 0), (I 0 0), (I 0 0), (I 0 0), (R 966), (B false), (I 276 0), (R 967), N, N, N, N, (I 3081 0), (I 773 0), (V "/claim/cut.py" 3082)]), #[]⟩
def a969 : Obj := ⟨(T "frame"), none, .plain, #[(some (R 968)), (some (R 3)), (some (R 965)), none, (some (V "cssselect.xpath" 3054)), none, (some (R 0))]⟩
def a970 : Obj := ⟨(T "tuple"), none, (.seq #[(V "" 3088), (V "*" 3089), (V "" 3090), (B false)] 0), #[]⟩
def a971 : Obj := ⟨(T "tuple"), none, (.seq #[] 0), #[]⟩
def a972 : Obj := ⟨N, none, (.fields #[]), #[]⟩
def a973 : Obj := ⟨(T "tuple"), none, (.seq #[(V "self" 3094), (V "path" 3095), (V "element" 3096), (V "condition" 3097), (V "star_prefix" 3098)] 0), #[]⟩
def a974 : Obj := ⟨(T "tuple"), none, (.seq #[] 0), #[]⟩
def a975 : Obj := ⟨N, none, (.func (fd (kd (st 56) 0) (Str.ofString "XPathExpr.__init__") 0 [] N N N N none N N 0)), #[]⟩
def a976 : Obj := ⟨(T "code"), none, (.fields #[(V "__init__" 3091), (V "XPathExpr.__init__" 3092), (V "/claim/cut.py" 3093), (I 775 0), (I 5 0), (I 0 0), (I 0 0), (I 3 0), (R 971), (B true), (I 276 0), (R 972), N, (R 973), (R 974), (R 975), (I 3099 0), (I 775 0), (V "/claim/cut.py" 3100)]), #[]⟩
def a977 : Obj := ⟨(T "function"), none, (.func (fd (kd (st 56) 0) (Str.ofString "XPathExpr.__init__") 3 [] (R 970) N N (V "cssselect.xpath" 3054) none (R 976) N 0)), #[]⟩
def a978 : Obj := ⟨(T "tuple"), none, (.seq #[] 0), #[]⟩
def a979 : Obj := ⟨N, none, (.fields #[]), #[]⟩
def a980 : Obj := ⟨(T "tuple"), none, (.seq #[(V "self" 3105), (V "path" 3106)] 0), #[]⟩
def a981 : Obj := ⟨(T "tuple"), none, (.seq #[] 0), #[]⟩
def a982 : Obj := ⟨N, none, (.func (fd (kd (st 56) 1) (Str.ofString "XPathExpr.__str__") 0 [] N N N N none N N 0)), #[]⟩
def a983 : Obj := ⟨(T "code"), none, (.fields #[(V "__str__" 3102), (V "XPathExpr.__str__" 3103), (V "/claim/cut.py" 3104), (I 780 0), (I 1 0), (I 0 0), (I 0 0), (I 3 0), (R 978), (B true), (I 276 0), (R 979), N, (R 980), (R 981), (R 982), (I 3107 0), (I 780 0), (V "/claim/cut.py" 3108)]), #[]⟩
def a984 : Obj := ⟨(T "function"), none, (.func (fd (kd (st 56) 1) (Str.ofString "XPathExpr.__str__") 3 [] N N N (V "cssselect.xpath" 3054) none (R 983) N 0)), #[]⟩
def a985 : Obj := ⟨(T "tuple"), none, (.seq #[] 0), #[]⟩
def a986 : Obj := ⟨N, none, (.fields #[]), #[]⟩
def a987 : Obj := ⟨(T "tuple"), none, (.seq #[(V "self" 3113)] 0), #[]⟩
def a988 : Obj := ⟨(T "tuple"), none, (.seq #[] 0), #[]⟩
def a989 : Obj := ⟨N, none, (.func (fd (kd (st 56) 2) (Str.ofString "XPathExpr.__repr__") 0 [] N N N N none N N 0)), #[]⟩
def a990 : Obj := ⟨(T "code"), none, (.fields #[(V "__repr__" 3110), (V "XPathExpr.__repr__" 3111), (V "/claim/cut.py" 3112), (I 786 0), (I 1 0), (I 0 0), (I 0 0), (I 3 0), (R 985), (B true), (I 276 0), (R 986), N, (R 987), (R 988), (R 989), (I 3114 0), (I 786 0), (V "/claim/cut.py" 3115)]), #[]⟩
def a991 : Obj := ⟨(T "function"), none, (.func (fd (kd (st 56) 2) (Str.ofString "XPathExpr.__repr__") 3 [] N N N (V "cssselect.xpath" 3054) none (R 990) N 0)), #[]⟩
def a992 : Obj := ⟨(T "tuple"), none, (.seq #[(V "and" 3117)] 0), #[]⟩
def a993 : Obj := ⟨(T "tuple"), none, (.seq #[] 0), #[]⟩
def a994 : Obj := ⟨N, none, (.fields #[]), #[]⟩
def a995 : Obj := ⟨(T "tuple"), none, (.seq #[(V "self" 3121), (V "condition" 3122), (V "conjuction" 3123)] 0), #[]⟩
def a996 : Obj := ⟨(T "tuple"), none, (.seq #[] 0), #[]⟩
def a997 : Obj := ⟨N, none, (.func (fd (kd (st 56) 3) (Str.ofString "XPathExpr.add_condition") 0 [] N N N N none N N 0)), #[]⟩
def a998 : Obj := ⟨(T "code"), none, (.fields #[(V "add_condition" 3118), (V "XPathExpr.add_condition" 3119), (V "/claim/cut.py" 3120), (I 789 0), (I 3 0), (I 0 0), (I 0 0), (I 3 0), (R 993), (B true), (I 276 0), (R 994), N, (R 995), (R 996), (R 997), (I 3124 0), (I 789 0), (V "/claim/cut.py" 3125)]), #[]⟩
def a999 : Obj := ⟨(T "function"), none, (.func (fd (kd (st 56) 3) (Str.ofString "XPathExpr.add_condition") 3 [] (R 992) N N (V "cssselect.xpath" 3054) none (R 998) N 0)), #[]⟩
def a1000 : Obj := ⟨(T "tuple"), none, (.seq #[] 0), #[]⟩
def a1001 : Obj := ⟨N, none, (.fields #[]), #[]⟩
def a1002 : Obj := ⟨(T "tuple"), none, (.seq #[(V "self" 3130), (V "prefix" 3131), (V "colon" 3132), (V "local" 3133)] 0), #[]⟩
def a1003 : Obj := ⟨(T "tuple"), none, (.seq #[] 0), #[]⟩
def a1004 : Obj := ⟨N, none, (.func (fd (kd (st 56) 4) (Str.ofString "XPathExpr.add_name_test") 0 [] N N N N none N N 0)), #[]⟩
def a1005 : Obj := ⟨(T "code"), none, (.fields #[(V "add_name_test" 3127), (V "XPathExpr.add_name_test" 3128), (V "/claim/cut.py" 3129), (I 796 0), (I 1 0), (I 0 0), (I 0 0), (I 3 0), (R 1000), (B true), (I 276 0), (R 1001), N, (R 1002), (R 1003), (R 1004), (I 3134 0), (I 796 0), (V "/claim/cut.py" 3135)]), #[]⟩
def a1006 : Obj := ⟨(T "function"), none, (.func (fd (kd (st 56) 4) (Str.ofString "XPathExpr.add_name_test") 3 [] N N N (V "cssselect.xpath" 3054) none (R 1005) N 0)), #[]⟩
def a1007 : Obj := ⟨(T "tuple"), none, (.seq #[] 0), #[]⟩
def a1008 : Obj := ⟨N, none, (.fields #[]), #[]⟩
def a1009 : Obj := ⟨(T "tuple"), none, (.seq #[(V "self" 3140)] 0), #[]⟩
def a1010 : Obj := ⟨(T "tuple"), none, (.seq #[] 0), #[]⟩
def a1011 : Obj := ⟨N, none, (.func (fd (kd (st 56) 5) (Str.ofString "XPathExpr.add_star_prefix") 0 [] N N N N none N N 0)), #[]⟩
def a1012 : Obj := ⟨(T "code"), none, (.fields #[(V "add_star_prefix" 3137), (V "XPathExpr.add_star_prefix" 3138), (V "/claim/cut.py" 3139), (I 806 0), (I 1 0), (I 0 0), (I 0 0), (I 3 0), (R 1007), (B true), (I 276 0), (R 1008), N, (R 1009), (R 1010), (R 1011), (I 3141 0), (I 806 0), (V "/claim/cut.py" 3142)]), #[]⟩
def a1013 : Obj := ⟨(T "function"), none, (.func (fd (kd (st 56) 5) (Str.ofString "XPathExpr.add_star_prefix") 3 [] N N N (V "cssselect.xpath" 3054) none (R 1012) N 0)), #[]⟩
def a1014 : Obj := ⟨(T "tuple"), none, (.seq #[] 0), #[]⟩
def a1015 : Obj := ⟨N, none, (.fields #[]), #[]⟩
def a1016 : Obj := ⟨(T "tuple"), none, (.seq #[(V "self" 3147), (V "combiner" 3148), (V "other" 3149), (V "path" 3150)] 0), #[]⟩
def a1017 : Obj := ⟨(T "tuple"), none, (.seq #[] 0), #[]⟩
def a1018 : Obj := ⟨N, none, (.func (fd (kd (st 56) 6) (Str.ofString "XPathExpr.join") 0 [] N N N N none N N 0)), #[]⟩
def a1019 : Obj := ⟨(T "code"), none, (.fields #[(V "join" 3144), (V "XPathExpr.join" 3145), (V "/claim/cut.py" 3146), (I 809 0), (I 3 0), (I 0 0), (I 0 0), (I 3 0), (R 1014), (B true), (I 276 0), (R 1015), N, (R 1016), (R 1017), (R 1018), (I 3151 0), (I 809 0), (V "/claim/cut.py" 3152)]), #[]⟩
def a1020 : Obj := ⟨(T "function"), none, (.func (fd (kd (st 56) 6) (Str.ofString "XPathExpr.join") 3 [] N N N (V "cssselect.xpath" 3054) none (R 1019) N 0)), #[]⟩
def a1021 : Obj := ⟨(T "tuple"), none, (.seq #[(V "condition" 3154), (V "element" 3155), (V "path" 3156)] 0), #[]⟩
def a1022 (P : Params) : Obj := ⟨(T "dict"), none, (.dict #[E P "__module__" 3083 (V "cssselect.xpath" 3054), E P "__firstlineno__" 3087 (I 773 3086), E P "__init__" 3101 (R 977), E P "__str__" 3109 (R 984), E P "__repr__" 3116 (R 991), E P "add_condition" 3126 (R 999), E P "add_name_test" 3136 (R 1006), E P "add_star_prefix" 3143 (R 1013), E P "join" 3153 (R 1020), E P "__static_attributes__" 3157 (R 1021), E P "__dict__" 3159 (R 1024), E P "__weakref__" 3161 (R 1025), E P "__doc__" 3162 N] 4), #[]⟩
def a1023 : Obj := ⟨(T "type"), none, (.cls ⟨(Str.ofString "XPathExpr"), [(T "object")], [(R 1023), (T "object")], 1022, (Str.ofString "XPathExpr"), true, [], [], false, none, false⟩), #[none, none, (some (V "XPathExpr" 3076)), (some (V "XPathExpr" 3084)), (some (U "object.__new__")), (some (B true))]⟩
def a1024 : Obj := ⟨(T "getset_descriptor"), none, (.fields #[(V "__dict__" 3158), (R 1023), (U "function.__dict__"), (U "function.__dict__#set")]), #[]⟩
def a1025 : Obj := ⟨(T "getset_descriptor"), none, (.fields #[(V "__weakref__" 3160), (R 1023), (U "ExceptionGroup.__weakref__"), N]), #[]⟩
def a1026 : Obj := ⟨(T "super"), none, (.fields #[(R 1023), (R 1023), (R 1023)]), #[]⟩
def a1027 : Obj := ⟨(T "builtin_function_or_method"), none, (.fields #[(U "object.__init_subclass__"), (R 1023)]), #[]⟩
def a1028 : Obj := ⟨(T "tuple"), none, (.seq #[] 0), #[]⟩
def a1029 : Obj := ⟨N, none, (.fields #[]), #[]⟩
def a1030 : Obj := ⟨(T "tuple"), none, (.seq #[(V "s" 3168), (V "parts" 3169), (V "char" 3170)] 0), #[]⟩
def a1031 : Obj := ⟨(T "tuple"), none, (.seq #[] 0), #[]⟩
def a1032 : Obj := ⟨N, none, (.func (fd (st 57) (Str.ofString "split_at_single_quotes") 0 [] N N N N none N N 0)), #[]⟩
def a1033 : Obj := ⟨(T "code"), none, (.fields #[(V "split_at_single_quotes" 3165), (V "split_at_single_quotes" 3166), (V "/claim/cut.py" 3167), (I 817 0), (I 1 0), (I 0 0), (I 0 0), (I 3 0), (R 1028), (B true), (I 276 0), (R 1029), N, (R 1030), (R 1031), (R 1032), (I 3171 0), (I 817 0), (V "/claim/cut.py" 3172)]), #[]⟩
def a1034 : Obj := ⟨(T "function"), none, (.func (fd (st 57) (Str.ofString "split_at_single_quotes") 3 [] N N N (V "cssselect.xpath" 3054) none (R 1033) N 0)), #[]⟩
def T57 (P : Params) : BT := (n (a0 P) (n (a1 P) (n (a3v26 P) (n a7 (n a15 (n a31 (n a63 (n a127 (n a255 (n a511 (n a1023 z z) z) (n a767 z z)) (n a383 (n a639 z z) (n a895 z z))) (n a191 (n a319 (n a575 z z) (n a831 z z)) (n a447 (n a703 z z) (n (a959 P) z z)))) (n a95 (n a159 (n a287 (n a543 z z) (n a799 z z)) (n a415 (n a671 z z) (n a927 z z))) (n a223 (n a351 (n a607 z z) (n a863 z z)) (n a479 (n a735 z z) (n a991 z z))))) (n a47 (n a79v1 (n a143 (n a271 (n a527 z z) (n a783 z z)) (n a399 (n a655 z z) (n a911 z z))) (n a207 (n a335 (n a591 z z) (n a847 z z)) (n a463 (n a719 z z) (n a975 z z)))) (n a111 (n a175 (n a303 (n a559 z z) (n a815 z z)) (n a431 (n a687 z z) (n a943 z z))) (n a239 (n a367 (n a623 z z) (n a879 z z)) (n a495 (n a751 z z) (n a1007 z z)))))) (n a23 (n a39 (n a71 (n a135 (n a263 (n a519 (n a1031 z z) z) (n a775 z z)) (n a391 (n a647 z z) (n a903 z z))) (n a199 (n a327 (n a583 z z) (n a839 z z)) (n a455 (n a711 z z) (n a967 z z)))) (n a103 (n a167 (n a295 (n a551 z z) (n a807 z z)) (n a423 (n a679 z z) (n a935 z z))) (n a231 (n a359 (n a615 z z) (n a871 z z)) (n a487 (n a743 z z) (n a999 z z))))) (n a55 (n a87 (n a151 (n a279 (n a535 z z) (n a791 z z)) (n a407 (n a663 z z) (n a919 z z))) (n a215 (n a343 (n a599 z z) (n a855 z z)) (n a471 (n a727 z z) (n a983 z z)))) (n a119 (n a183 (n a311 (n a567 z z) (n a823 z z)) (n a439 (n a695 z z) (n a951 z z))) (n a247 (n a375 (n a631 z z) (n a887 z z)) (n a503 (n a759 z z) (n a1015 z z))))))) (n (a11 P) (n a19 (n a35 (n a67 (n a131 (n a259 (n a515 (n a1027 z z) z) (n a771 z z)) (n a387 (n a643 z z) (n a899 z z))) (n a195 (n a323 (n a579 z z) (n a835 z z)) (n a451 (n a707 z z) (n a963 z z)))) (n a99 (n a163 (n a291 (n a547 z z) (n a803 z z)) (n a419 (n a675 z z) (n a931 z z))) (n a227 (n a355 (n a611 z z) (n a867 z z)) (n a483 (n a739 z z) (n a995 z z))))) (n a51 (n a83 (n a147 (n a275 (n a531 z z) (n a787 z z)) (n a403 (n a659 z z) (n a915 z z))) (n a211 (n a339 (n a595 z z) (n a851 z z)) (n a467 (n a723 z z) (n a979 z z)))) (n a115 (n a179 (n (a307 P) (n a563 z z) (n a819 z z)) (n a435 (n a691 z z) (n a947 z z))) (n a243 (n a371 (n a627 z z) (n a883 z z)) (n a499 (n a755 z z) (n a1011 z z)))))) (n a27 (n a43 (n a75 (n a139 (n a267 (n a523 z z) (n a779 z z)) (n a395 (n a651 z z) (n a907 z z))) (n a203 (n a331 (n a587 z z) (n a843 z z)) (n a459 (n a715 z z) (n a971 z z)))) (n a107 (n a171 (n (a299 P) (n a555 z z) (n a811 z z)) (n a427 (n a683 z z) (n a939 z z))) (n a235 (n a363 (n a619 z z) (n a875 z z)) (n a491 (n a747 z z) (n a1003 z z))))) (n a59 (n (a91 P) (n a155 (n a283 (n a539 z z) (n a795 z z)) (n a411 (n a667 z z) (n a923 z z))) (n a219 (n a347 (n a603 z z) (n a859 z z)) (n a475 (n (a731 P) z z) (n a987 z z)))) (n a123 (n a187 (n a315 (n a571 z z) (n a827 z z)) (n a443 (n a699 z z) (n a955 z z))) (n a251 (n a379 (n a635 z z) (n a891 z z)) (n a507 (n a763 z z) (n a1019 z z)))))))) (n a5 (n a9 (n a17 (n a33 (n a65 (n a129 (n (a257 P) (n a513 (n a1025 z z) z) (n a769 z z)) (n a385 (n a641 z z) (n a897 z z))) (n a193 (n a321 (n a577 z z) (n a833 z z)) (n a449 (n a705 z z) (n a961 z z)))) (n (a97 P) (n a161 (n a289 (n a545 z z) (n a801 z z)) (n a417 (n a673 z z) (n a929 z z))) (n a225 (n a353 (n a609 z z) (n a865 z z)) (n a481 (n a737 z z) (n a993 z z))))) (n a49 (n a81 (n a145 (n a273 (n a529 z z) (n a785 z z)) (n a401 (n a657 z z) (n a913 z z))) (n a209 (n a337 (n a593 z z) (n a849 z z)) (n a465 (n a721 z z) (n a977 z z)))) (n a113 (n a177 (n a305 (n a561 z z) (n a817 z z)) (n a433 (n a689 z z) (n (a945 P) z z))) (n a241 (n a369 (n a625 z z) (n a881 z z)) (n a497 (n a753 z z) (n a1009 z z)))))) (n a25 (n a41 (n a73 (n a137 (n (a265 P) (n a521 (n a1033 z z) z) (n a777 z z)) (n a393 (n a649 z z) (n a905 z z))) (n a201 (n a329 (n a585 z z) (n a841 z z)) (n a457 (n a713 z z) (n a969 z z)))) (n a105 (n a169 (n a297 (n a553 z z) (n (a809 P) z z)) (n a425 (n a681 z z) (n a937 z z))) (n a233 (n a361 (n a617 z z) (n a873 z z)) (n a489 (n a745 z z) (n a1001 z z))))) (n a57 (n a89 (n a153 (n a281 (n a537 z z) (n a793 z z)) (n a409 (n a665 z z) (n a921 z z))) (n a217 (n a345 (n a601 z z) (n a857 z z)) (n a473 (n a729 z z) (n a985 z z)))) (n a121 (n a185 (n a313 (n a569 z z) (n a825 z z)) (n a441 (n a697 z z) (n (a953 P) z z))) (n a249 (n a377 (n a633 z z) (n (a889 P) z z)) (n a505 (n a761 z z) (n a1017 z z))))))) (n (a13 P) (n (a21 P) (n a37 (n a69 (n a133 (n a261 (n (a517 P) (n a1029 z z) z) (n a773 z z)) (n a389 (n a645 z z) (n a901 z z))) (n a197 (n a325 (n a581 z z) (n a837 z z)) (n a453 (n a709 z z) (n (a965 P) z z)))) (n a101 (n a165 (n a293 (n a549 z z) (n a805 z z)) (n a421 (n a677 z z) (n a933 z z))) (n a229 (n a357 (n a613 z z) (n a869 z z)) (n a485 (n a741 z z) (n a997 z z))))) (n a53 (n (a85 P) (n a149 (n a277 (n a533 z z) (n (a789 P) z z)) (n a405 (n a661 z z) (n a917 z z))) (n a213 (n (a341 P) (n a597 z z) (n a853 z z)) (n a469 (n a725 z z) (n a981 z z)))) (n a117 (n a181 (n a309 (n a565 z z) (n a821 z z)) (n a437 (n a693 z z) (n a949 z z))) (n a245 (n a373 (n a629 z z) (n a885 z z)) (n a501 (n a757 z z) (n a1013 z z)))))) (n a29v23 (n a45 (n a77 (n a141 (n a269 (n (a525 P) z z) (n (a781 P) z z)) (n a397 (n a653 z z) (n a909 z z))) (n a205 (n a333 (n a589 z z) (n a845 z z)) (n a461 (n a717 z z) (n a973 z z)))) (n a109 (n a173 (n a301 (n a557 z z) (n a813 z z)) (n a429 (n a685 z z) (n a941 z z))) (n a237 (n a365 (n a621 z z) (n a877 z z)) (n a493 (n a749 z z) (n a1005 z z))))) (n a61 (n a93 (n a157 (n a285 (n a541 z z) (n a797 z z)) (n a413 (n a669 z z) (n a925 z z))) (n a221 (n a349 (n a605 z z) (n a861 z z)) (n a477 (n a733 z z) (n a989 z z)))) (n a125 (n a189 (n a317 (n a573 z z) (n a829 z z)) (n a445 (n a701 z z) (n a957 z z))) (n a253 (n a381 (n a637 z z) (n a893 z z)) (n a509 (n a765 z z) (n a1021 z z))))))))) (n (a2v1 P) (n a4 (n a8 (n a16 (n a32 (n a64 (n a128 (n a256 (n a512 (n a1024 z z) z) (n a768 z z)) (n a384 (n a640 z z) (n a896 z z))) (n a192 (n a320 (n a576 z z) (n a832 z z)) (n a448 (n a704 z z) (n a960 z z)))) (n a96 (n a160 (n a288 (n a544 z z) (n a800 z z)) (n a416 (n a672 z z) (n a928 z z))) (n a224 (n a352 (n a608 z z) (n a864 z z)) (n a480 (n a736 z z) (n a992 z z))))) (n a48 (n a80 (n a144 (n a272 (n a528 z z) (n a784 z z)) (n a400 (n a656 z z) (n a912 z z))) (n a208 (n a336 (n a592 z z) (n a848 z z)) (n a464 (n a720 z z) (n a976 z z)))) (n a112 (n a176 (n a304 (n (a560 P) z z) (n a816 z z)) (n (a432 P) (n a688 z z) (n a944 z z))) (n a240 (n a368 (n a624 z z) (n a880 z z)) (n a496 (n a752 z z) (n a1008 z z)))))) (n a24 (n a40 (n (a72 P) (n a136 (n a264 (n a520 (n a1032 z z) z) (n a776 z z)) (n a392 (n a648 z z) (n a904 z z))) (n a200 (n a328 (n a584 z z) (n a840 z z)) (n a456 (n a712 z z) (n a968 z z)))) (n a104 (n a168 (n a296 (n a552 z z) (n a808 z z)) (n a424 (n a680 z z) (n a936 z z))) (n a232 (n a360 (n a616 z z) (n a872 z z)) (n a488 (n a744 z z) (n a1000 z z))))) (n a56 (n a88 (n a152 (n a280 (n a536 z z) (n a792 z z)) (n a408 (n a664 z z) (n a920 z z))) (n a216 (n a344 (n a600 z z) (n a856 z z)) (n a472 (n a728 z z) (n a984 z z)))) (n a120 (n a184 (n a312 (n (a568 P) z z) (n a824 z z)) (n (a440 P) (n a696 z z) (n a952 z z))) (n a248 (n a376 (n a632 z z) (n a888 z z)) (n a504 (n a760 z z) (n a1016 z z))))))) (n a12 (n (a20 P) (n a36 (n a68 (n (a132 P) (n a260 (n a516 (n a1028 z z) z) (n a772 z z)) (n a388 (n (a644 P) z z) (n a900 z z))) (n a196 (n a324 (n a580 z z) (n a836 z z)) (n a452 (n a708 z z) (n a964 z z)))) (n a100 (n a164 (n a292 (n a548 z z) (n a804 z z)) (n a420 (n a676 z z) (n a932 z z))) (n a228 (n (a356 P) (n a612 z z) (n a868 z z)) (n a484 (n a740 z z) (n a996 z z))))) (n a52 (n a84 (n a148 (n a276 (n a532 z z) (n a788 z z)) (n a404 (n a660 z z) (n a916 z z))) (n (a212 P) (n a340 (n a596 z z) (n a852 z z)) (n a468 (n a724 z z) (n a980 z z)))) (n a116 (n a180 (n a308 (n a564 z z) (n a820 z z)) (n a436 (n a692 z z) (n a948 z z))) (n a244 (n a372 (n a628 z z) (n a884 z z)) (n a500 (n a756 z z) (n a1012 z z)))))) (n a28 (n a44 (n a76 (n (a140 P) (n a268 (n a524 z z) (n a780 z z)) (n a396 (n a652 z z) (n a908 z z))) (n a204 (n a332 (n a588 z z) (n a844 z z)) (n a460 (n a716 z z) (n a972 z z)))) (n a108 (n a172 (n a300 (n a556 z z) (n a812 z z)) (n a428 (n a684 z z) (n a940 z z))) (n a236 (n a364 (n a620 z z) (n a876 z z)) (n a492 (n a748 z z) (n a1004 z z))))) (n a60 (n a92 (n a156 (n a284 (n a540 z z) (n a796 z z)) (n a412 (n a668 z z) (n a924 z z))) (n (a220 P) (n a348 (n a604 z z) (n a860 z z)) (n a476 (n a732 z z) (n a988 z z)))) (n a124 (n a188 (n a316 (n a572 z z) (n a828 z z)) (n a444 (n a700 z z) (n a956 z z))) (n a252 (n a380 (n a636 z z) (n a892 z z)) (n a508 (n a764 z z) (n a1020 z z)))))))) (n a6 (n a10 (n a18 (n a34 (n a66 (n a130 (n a258 (n a514 (n a1026 z z) z) (n a770 z z)) (n a386 (n a642 z z) (n a898 z z))) (n a194 (n a322 (n a578 z z) (n (a834 P) z z)) (n a450 (n a706 z z) (n a962 z z)))) (n a98 (n a162 (n a290 (n a546 z z) (n a802 z z)) (n a418 (n a674 z z) (n a930 z z))) (n a226 (n a354 (n (a610 P) z z) (n a866 z z)) (n (a482 P) (n a738 z z) (n a994 z z))))) (n a50 (n a82 (n a146 (n a274 (n a530 z z) (n a786 z z)) (n a402 (n a658 z z) (n a914 z z))) (n a210 (n a338 (n a594 z z) (n a850 z z)) (n a466 (n a722 z z) (n a978 z z)))) (n a114 (n a178 (n a306 (n a562 z z) (n a818 z z)) (n a434 (n a690 z z) (n a946 z z))) (n a242 (n a370 (n a626 z z) (n a882 z z)) (n a498 (n a754 z z) (n a1010 z z)))))) (n a26 (n a42 (n a74 (n a138 (n a266 (n a522 (n a1034 z z) z) (n a778 z z)) (n a394 (n a650 z z) (n a906 z z))) (n a202 (n a330 (n a586 z z) (n a842 z z)) (n a458 (n a714 z z) (n a970 z z)))) (n a106 (n a170 (n a298 (n a554 z z) (n a810 z z)) (n a426 (n a682 z z) (n a938 z z))) (n a234 (n a362 (n a618 z z) (n a874 z z)) (n a490 (n a746 z z) (n a1002 z z))))) (n a58 (n a90 (n a154 (n a282 (n a538 z z) (n a794 z z)) (n a410 (n a666 z z) (n a922 z z))) (n a218 (n a346 (n (a602 P) z z) (n a858 z z)) (n (a474 P) (n a730 z z) (n a986 z z)))) (n a122 (n a186 (n a314 (n a570 z z) (n a826 z z)) (n a442 (n a698 z z) (n a954 z z))) (n a250 (n a378 (n a634 z z) (n a890 z z)) (n a506 (n a762 z z) (n a1018 z z))))))) (n a14 (n a22 (n a38 (n a70 (n a134 (n a262 (n a518 (n a1030 z z) z) (n a774 z z)) (n (a390 P) (n a646 z z) (n a902 z z))) (n a198 (n a326 (n a582 z z) (n a838 z z)) (n a454 (n a710 z z) (n a966 z z)))) (n a102 (n a166 (n a294 (n a550 z z) (n a806 z z)) (n a422 (n a678 z z) (n a934 z z))) (n a230 (n a358 (n a614 z z) (n a870 z z)) (n a486 (n a742 z z) (n a998 z z))))) (n a54 (n a86 (n a150 (n a278 (n a534 z z) (n a790 z z)) (n a406 (n a662 z z) (n a918 z z))) (n a214 (n a342 (n a598 z z) (n a854 z z)) (n a470 (n a726 z z) (n a982 z z)))) (n a118 (n (a182 P) (n a310 (n a566 z z) (n a822 z z)) (n a438 (n a694 z z) (n a950 z z))) (n a246 (n a374 (n a630 z z) (n a886 z z)) (n a502 (n a758 z z) (n a1014 z z)))))) (n a30 (n a46 (n (a78 P) (n a142 (n a270 (n a526 z z) (n a782v1 z z)) (n (a398 P) (n a654 z z) (n a910 z z))) (n a206 (n a334 (n a590 z z) (n a846 z z)) (n a462 (n a718 z z) (n a974 z z)))) (n a110 (n (a174 P) (n a302 (n a558 z z) (n a814 z z)) (n a430 (n a686 z z) (n a942 z z))) (n a238 (n a366 (n a622 z z) (n a878 z z)) (n a494 (n a750 z z) (n a1006 z z))))) (n a62 (n a94 (n a158 (n a286 (n a542 z z) (n a798 z z)) (n a414 (n a670 z z) (n a926 z z))) (n a222 (n a350 (n a606 z z) (n a862 z z)) (n a478 (n a734 z z) (n a990 z z)))) (n a126 (n a190 (n a318 (n a574 z z) (n a830 z z)) (n a446 (n a702 z z) (n a958 z z))) (n a254 (n a382 (n a638 z z) (n a894 z z)) (n a510 (n a766 z z) (n (a1022 P) z z))))))))))
def a3v27 (P : Params) : Obj := grow (a3v26 P) #[E P "_safe_name" 3218 (R 1039), E P "is_safe_name" 3225 (R 1046), E P "_non_whitespace" 3259 (R 1051), E P "is_non_whitespace" 3266 (R 1058)] 69
def a29v24 : Obj := ⟨N, none, (.fields #[(I 2 0), (I 0 0), (R 37), (I 5 0), (I 0 0), (R 44), (I 12 0), (I 0 0), (R 61), (I 14 0), (I 0 0), (R 68), (I 16 0), (I 0 0), (R 75), (I 18 0), (I 0 0), (R 88), (I 20 0), (I 0 0), (R 100), (I 54 0), (I 0 0), (R 143), (I 70 0), (I 0 0), (R 185), (I 86 0), (I 0 0), (R 223), (I 108 0), (I 0 0), (R 268), (I 124 0), (I 0 0), (R 310), (I 143 0), (I 0 0), (R 352), (I 147 0), (I 0 0), (R 359), (I 165 0), (I 0 0), (R 401), (I 189 0), (I 0 0), (R 443), (I 211 0), (I 0 0), (R 485), (I 246 0), (I 0 0), (R 528), (I 266 0), (I 0 0), (R 571), (I 282 0), (I 0 0), (R 613), (I 308 0), (I 0 0), (R 670), (I 321 0), (I 0 0), (R 677), (I 330 0), (I 0 0), (R 684), (I 347 0), (I 0 0), (R 692), (I 449 0), (I 0 0), (R 699), (I 460 0), (I 0 0), (R 706), (I 491 0), (I 0 0), (R 713), (I 508 0), (I 0 0), (R 720), (I 562 0), (I 0 0), (R 727), (I 585 0), (I 0 0), (R 734), (I 614 0), (I 0 0), (R 792), (I 628 0), (I 0 0), (R 850), (I 633 0), (I 0 0), (R 857), (I 640 0), (I 0 0), (R 864), (I 648 0), (I 0 0), (R 871), (I 650 0), (I 0 0), (R 878), (I 669 0), (I 0 0), (R 885), (I 722 0), (I 0 0), (R 892), (I 771 0), (I 0 0), (R 956), (I 773 0), (I 0 0), (R 968), (I 817 0), (I 0 0), (R 1033), (I 826 0), (I 0 0), (R 1045), (I 829 0), (I 0 0), (R 1057)]), #[]⟩
def a1035 : Obj := ⟨(T "list"), none, (.seq #[(I 14 3177), (I 4 3178), (I 0 3179), (I 1 3180), (I 4294967295 3181), (I 6 3182), (I 0 3183), (I 13 3184), (I 11 3185), (I 9 3186), (I 0 3187), (I 0 3188), (I 2281701374 3189), (I 134217726 3190), (I 0 3191), (I 0 3192), (I 0 3193), (I 0 3194), (I 0 3195), (I 24 3196), (I 16 3197), (I 0 3198), (I 4294967295 3199), (I 13 3200), (I 11 3201), (I 9 3202), (I 0 3203), (I 67067904 3204), (I 2281701374 3205), (I 134217726 3206), (I 0 3207), (I 0 3208), (I 0 3209), (I 0 3210), (I 0 3211), (I 1 3212), (I 6 3213), (I 5 3214), (I 1 3215)] 0), #[]⟩
def a1036 : Obj := ⟨(T "dict"), none, (.dict #[] 0), #[]⟩
def a1037 : Obj := ⟨(T "tuple"), none, (.seq #[N] 0), #[]⟩
def a1038 : Obj := ⟨(T "tuple"), none, (.seq #[(I 14 0), (I 4 0), (I 0 0), (I 1 0), (I 4294967295 0), (I 6 0), (I 0 0), (I 13 0), (I 11 0), (I 9 0), (I 0 0), (I 0 0), (I 2281701374 0), (I 134217726 0), (I 0 0), (I 0 0), (I 0 0), (I 0 0), (I 0 0), (I 24 0), (I 16 0), (I 0 0), (I 4294967295 0), (I 13 0), (I 11 0), (I 9 0), (I 0 0), (I 67067904 0), (I 2281701374 0), (I 134217726 0), (I 0 0), (I 0 0), (I 0 0), (I 0 0), (I 0 0), (I 1 0), (I 6 0), (I 5 0), (I 1 0)] 0), #[]⟩
def a1039 : Obj := ⟨(T "re.Pattern"), none, (.fields #[(V "^[a-zA-Z_][a-zA-Z0-9_.-]*$" 3175), (I 32 3217), (I 0 0), N, N, (R 1038), (I 0 0)]), #[]⟩
def a1040 : Obj := ⟨(T "tuple"), none, (.seq #[] 0), #[]⟩
def a1041 : Obj := ⟨N, none, (.fields #[]), #[]⟩
def a1042 : Obj := ⟨(T "tuple"), none, (.seq #[(V "s" 3222)] 0), #[]⟩
def a1043 : Obj := ⟨(T "tuple"), none, (.seq #[] 0), #[]⟩
def a1044 : Obj := ⟨N, none, (.func (fd (st 59) (Str.ofString "is_safe_name") 0 [] N N N N none N N 0)), #[]⟩
def a1045 : Obj := ⟨(T "code"), none, (.fields #[(V "is_safe_name" 3219), (V "is_safe_name" 3220), (V "/claim/cut.py" 3221), (I 826 0), (I 1 0), (I 0 0), (I 0 0), (I 3 0), (R 1040), (B true), (I 276 0), (R 1041), N, (R 1042), (R 1043), (R 1044), (I 3223 0), (I 826 0), (V "/claim/cut.py" 3224)]), #[]⟩
def a1046 : Obj := ⟨(T "function"), none, (.func (fd (st 59) (Str.ofString "is_safe_name") 3 [] N N N (V "cssselect.xpath" 3054) none (R 1045) N 0)), #[]⟩
def a1047 : Obj := ⟨(T "list"), none, (.seq #[(I 14 3229), (I 4 3230), (I 0 3231), (I 1 3232), (I 4294967295 3233), (I 6 3234), (I 0 3235), (I 24 3236), (I 17 3237), (I 1 3238), (I 4294967295 3239), (I 13 3240), (I 12 3241), (I 21 3242), (I 9 3243), (I 13824 3244), (I 1 3245), (I 0 3246), (I 0 3247), (I 0 3248), (I 0 3249), (I 0 3250), (I 0 3251), (I 0 3252), (I 1 3253), (I 6 3254), (I 5 3255), (I 1 3256)] 0), #[]⟩
def a1048 : Obj := ⟨(T "dict"), none, (.dict #[] 0), #[]⟩
def a1049 : Obj := ⟨(T "tuple"), none, (.seq #[N] 0), #[]⟩
def a1050 : Obj := ⟨(T "tuple"), none, (.seq #[(I 14 0), (I 4 0), (I 0 0), (I 1 0), (I 4294967295 0), (I 6 0), (I 0 0), (I 24 0), (I 17 0), (I 1 0), (I 4294967295 0), (I 13 0), (I 12 0), (I 21 0), (I 9 0), (I 13824 0), (I 1 0), (I 0 0), (I 0 0), (I 0 0), (I 0 0), (I 0 0), (I 0 0), (I 0 0), (I 1 0), (I 6 0), (I 5 0), (I 1 0)] 0), #[]⟩
def a1051 : Obj := ⟨(T "re.Pattern"), none, (.fields #[(V "^[^ \\t\\r\\n\\f]+$" 3227), (I 32 3258), (I 0 0), N, N, (R 1050), (I 0 0)]), #[]⟩
def a1052 : Obj := ⟨(T "tuple"), none, (.seq #[] 0), #[]⟩
def a1053 : Obj := ⟨N, none, (.fields #[]), #[]⟩
def a1054 : Obj := ⟨(T "tuple"), none, (.seq #[(V "s" 3263)] 0), #[]⟩
def a1055 : Obj := ⟨(T "tuple"), none, (.seq #[] 0), #[]⟩
def a1056 : Obj := ⟨N, none, (.func (fd (st 61) (Str.ofString "is_non_whitespace") 0 [] N N N N none N N 0)), #[]⟩
def a1057 : Obj := ⟨(T "code"), none, (.fields #[(V "is_non_whitespace" 3260), (V "is_non_whitespace" 3261), (V "/claim/cut.py" 3262), (I 829 0), (I 1 0), (I 0 0), (I 0 0), (I 3 0), (R 1052), (B true), (I 276 0), (R 1053), N, (R 1054), (R 1055), (R 1056), (I 3264 0), (I 829 0), (V "/claim/cut.py" 3265)]), #[]⟩
def a1058 : Obj := ⟨(T "function"), none, (.func (fd (st 61) (Str.ofString "is_non_whitespace") 3 [] N N N (V "cssselect.xpath" 3054) none (R 1057) N 0)), #[]⟩
def T61 (P : Params) : BT := (n (a0 P) (n (a1 P) (n (a3v27 P) (n a7 (n a15 (n a31 (n a63 (n a127 (n a255 (n a511 (n a1023 z z) z) (n a767 z z)) (n a383 (n a639 z z) (n a895 z z))) (n a191 (n a319 (n a575 z z) (n a831 z z)) (n a447 (n a703 z z) (n (a959 P) z z)))) (n a95 (n a159 (n a287 (n a543 (n a1055 z z) z) (n a799 z z)) (n a415 (n a671 z z) (n a927 z z))) (n a223 (n a351 (n a607 z z) (n a863 z z)) (n a479 (n a735 z z) (n a991 z z))))) (n a47 (n a79v1 (n a143 (n a271 (n a527 (n a1039 z z) z) (n a783 z z)) (n a399 (n a655 z z) (n a911 z z))) (n a207 (n a335 (n a591 z z) (n a847 z z)) (n a463 (n a719 z z) (n a975 z z)))) (n a111 (n a175 (n a303 (n a559 z z) (n a815 z z)) (n a431 (n a687 z z) (n a943 z z))) (n a239 (n a367 (n a623 z z) (n a879 z z)) (n a495 (n a751 z z) (n a1007 z z)))))) (n a23 (n a39 (n a71 (n a135 (n a263 (n a519 (n a1031 z z) z) (n a775 z z)) (n a391 (n a647 z z) (n a903 z z))) (n a199 (n a327 (n a583 z z) (n a839 z z)) (n a455 (n a711 z z) (n a967 z z)))) (n a103 (n a167 (n a295 (n a551 z z) (n a807 z z)) (n a423 (n a679 z z) (n a935 z z))) (n a231 (n a359 (n a615 z z) (n a871 z z)) (n a487 (n a743 z z) (n a999 z z))))) (n a55 (n a87 (n a151 (n a279 (n a535 (n a1047 z z) z) (n a791 z z)) (n a407 (n a663 z z) (n a919 z z))) (n a215 (n a343 (n a599 z z) (n a855 z z)) (n a471 (n a727 z z) (n a983 z z)))) (n a119 (n a183 (n a311 (n a567 z z) (n a823 z z)) (n a439 (n a695 z z) (n a951 z z))) (n a247 (n a375 (n a631 z z) (n a887 z z)) (n a503 (n a759 z z) (n a1015 z z))))))) (n (a11 P) (n a19 (n a35 (n a67 (n a131 (n a259 (n a515 (n a1027 z z) z) (n a771 z z)) (n a387 (n a643 z z) (n a899 z z))) (n a195 (n a323 (n a579 z z) (n a835 z z)) (n a451 (n a707 z z) (n a963 z z)))) (n a99 (n a163 (n a291 (n a547 z z) (n a803 z z)) (n a419 (n a675 z z) (n a931 z z))) (n a227 (n a355 (n a611 z z) (n a867 z z)) (n a483 (n a739 z z) (n a995 z z))))) (n a51 (n a83 (n a147 (n a275 (n a531 (n a1043 z z) z) (n a787 z z)) (n a403 (n a659 z z) (n a915 z z))) (n a211 (n a339 (n a595 z z) (n a851 z z)) (n a467 (n a723 z z) (n a979 z z)))) (n a115 (n a179 (n (a307 P) (n a563 z z) (n a819 z z)) (n a435 (n a691 z z) (n a947 z z))) (n a243 (n a371 (n a627 z z) (n a883 z z)) (n a499 (n a755 z z) (n a1011 z z)))))) (n a27 (n a43 (n a75 (n a139 (n a267 (n a523 (n a1035 z z) z) (n a779 z z)) (n a395 (n a651 z z) (n a907 z z))) (n a203 (n a331 (n a587 z z) (n a843 z z)) (n a459 (n a715 z z) (n a971 z z)))) (n a107 (n a171 (n (a299 P) (n a555 z z) (n a811 z z)) (n a427 (n a683 z z) (n a939 z z))) (n a235 (n a363 (n a619 z z) (n a875 z z)) (n a491 (n a747 z z) (n a1003 z z))))) (n a59 (n (a91 P) (n a155 (n a283 (n a539 (n a1051 z z) z) (n a795 z z)) (n a411 (n a667 z z) (n a923 z z))) (n a219 (n a347 (n a603 z z) (n a859 z z)) (n a475 (n (a731 P) z z) (n a987 z z)))) (n a123 (n a187 (n a315 (n a571 z z) (n a827 z z)) (n a443 (n a699 z z) (n a955 z z))) (n a251 (n a379 (n a635 z z) (n a891 z z)) (n a507 (n a763 z z) (n a1019 z z)))))))) (n a5 (n a9 (n a17 (n a33 (n a65 (n a129 (n (a257 P) (n a513 (n a1025 z z) z) (n a769 z z)) (n a385 (n a641 z z) (n a897 z z))) (n a193 (n a321 (n a577 z z) (n a833 z z)) (n a449 (n a705 z z) (n a961 z z)))) (n (a97 P) (n a161 (n a289 (n a545 (n a1057 z z) z) (n a801 z z)) (n a417 (n a673 z z) (n a929 z z))) (n a225 (n a353 (n a609 z z) (n a865 z z)) (n a481 (n a737 z z) (n a993 z z))))) (n a49 (n a81 (n a145 (n a273 (n a529 (n a1041 z z) z) (n a785 z z)) (n a401 (n a657 z z) (n a913 z z))) (n a209 (n a337 (n a593 z z) (n a849 z z)) (n a465 (n a721 z z) (n a977 z z)))) (n a113 (n a177 (n a305 (n a561 z z) (n a817 z z)) (n a433 (n a689 z z) (n (a945 P) z z))) (n a241 (n a369 (n a625 z z) (n a881 z z)) (n a497 (n a753 z z) (n a1009 z z)))))) (n a25 (n a41 (n a73 (n a137 (n (a265 P) (n a521 (n a1033 z z) z) (n a777 z z)) (n a393 (n a649 z z) (n a905 z z))) (n a201 (n a329 (n a585 z z) (n a841 z z)) (n a457 (n a713 z z) (n a969 z z)))) (n a105 (n a169 (n a297 (n a553 z z) (n (a809 P) z z)) (n a425 (n a681 z z) (n a937 z z))) (n a233 (n a361 (n a617 z z) (n a873 z z)) (n a489 (n a745 z z) (n a1001 z z))))) (n a57 (n a89 (n a153 (n a281 (n a537 (n a1049 z z) z) (n a793 z z)) (n a409 (n a665 z z) (n a921 z z))) (n a217 (n a345 (n a601 z z) (n a857 z z)) (n a473 (n a729 z z) (n a985 z z)))) (n a121 (n a185 (n a313 (n a569 z z) (n a825 z z)) (n a441 (n a697 z z) (n (a953 P) z z))) (n a249 (n a377 (n a633 z z) (n (a889 P) z z)) (n a505 (n a761 z z) (n a1017 z z))))))) (n (a13 P) (n (a21 P) (n a37 (n a69 (n a133 (n a261 (n (a517 P) (n a1029 z z) z) (n a773 z z)) (n a389 (n a645 z z) (n a901 z z))) (n a197 (n a325 (n a581 z z) (n a837 z z)) (n a453 (n a709 z z) (n (a965 P) z z)))) (n a101 (n a165 (n a293 (n a549 z z) (n a805 z z)) (n a421 (n a677 z z) (n a933 z z))) (n a229 (n a357 (n a613 z z) (n a869 z z)) (n a485 (n a741 z z) (n a997 z z))))) (n a53 (n (a85 P) (n a149 (n a277 (n a533 (n a1045 z z) z) (n (a789 P) z z)) (n a405 (n a661 z z) (n a917 z z))) (n a213 (n (a341 P) (n a597 z z) (n a853 z z)) (n a469 (n a725 z z) (n a981 z z)))) (n a117 (n a181 (n a309 (n a565 z z) (n a821 z z)) (n a437 (n a693 z z) (n a949 z z))) (n a245 (n a373 (n a629 z z) (n a885 z z)) (n a501 (n a757 z z) (n a1013 z z)))))) (n a29v24 (n a45 (n a77 (n a141 (n a269 (n (a525 P) (n a1037 z z) z) (n (a781 P) z z)) (n a397 (n a653 z z) (n a909 z z))) (n a205 (n a333 (n a589 z z) (n a845 z z)) (n a461 (n a717 z z) (n a973 z z)))) (n a109 (n a173 (n a301 (n a557 z z) (n a813 z z)) (n a429 (n a685 z z) (n a941 z z))) (n a237 (n a365 (n a621 z z) (n a877 z z)) (n a493 (n a749 z z) (n a1005 z z))))) (n a61 (n a93 (n a157 (n a285 (n a541 (n a1053 z z) z) (n a797 z z)) (n a413 (n a669 z z) (n a925 z z))) (n a221 (n a349 (n a605 z z) (n a861 z z)) (n a477 (n a733 z z) (n a989 z z)))) (n a125 (n a189 (n a317 (n a573 z z) (n a829 z z)) (n a445 (n a701 z z) (n a957 z z))) (n a253 (n a381 (n a637 z z) (n a893 z z)) (n a509 (n a765 z z) (n a1021 z z))))))))) (n (a2v1 P) (n a4 (n a8 (n a16 (n a32 (n a64 (n a128 (n a256 (n a512 (n a1024 z z) z) (n a768 z z)) (n a384 (n a640 z z) (n a896 z z))) (n a192 (n a320 (n a576 z z) (n a832 z z)) (n a448 (n a704 z z) (n a960 z z)))) (n a96 (n a160 (n a288 (n a544 (n a1056 z z) z) (n a800 z z)) (n a416 (n a672 z z) (n a928 z z))) (n a224 (n a352 (n a608 z z) (n a864 z z)) (n a480 (n a736 z z) (n a992 z z))))) (n a48 (n a80 (n a144 (n a272 (n a528 (n a1040 z z) z) (n a784 z z)) (n a400 (n a656 z z) (n a912 z z))) (n a208 (n a336 (n a592 z z) (n a848 z z)) (n a464 (n a720 z z) (n a976 z z)))) (n a112 (n a176 (n a304 (n (a560 P) z z) (n a816 z z)) (n (a432 P) (n a688 z z) (n a944 z z))) (n a240 (n a368 (n a624 z z) (n a880 z z)) (n a496 (n a752 z z) (n a1008 z z)))))) (n a24 (n a40 (n (a72 P) (n a136 (n a264 (n a520 (n a1032 z z) z) (n a776 z z)) (n a392 (n a648 z z) (n a904 z z))) (n a200 (n a328 (n a584 z z) (n a840 z z)) (n a456 (n a712 z z) (n a968 z z)))) (n a104 (n a168 (n a296 (n a552 z z) (n a808 z z)) (n a424 (n a680 z z) (n a936 z z))) (n a232 (n a360 (n a616 z z) (n a872 z z)) (n a488 (n a744 z z) (n a1000 z z))))) (n a56 (n a88 (n a152 (n a280 (n a536 (n a1048 z z) z) (n a792 z z)) (n a408 (n a664 z z) (n a920 z z))) (n a216 (n a344 (n a600 z z) (n a856 z z)) (n a472 (n a728 z z) (n a984 z z)))) (n a120 (n a184 (n a312 (n (a568 P) z z) (n a824 z z)) (n (a440 P) (n a696 z z) (n a952 z z))) (n a248 (n a376 (n a632 z z) (n a888 z z)) (n a504 (n a760 z z) (n a1016 z z))))))) (n a12 (n (a20 P) (n a36 (n a68 (n (a132 P) (n a260 (n a516 (n a1028 z z) z) (n a772 z z)) (n a388 (n (a644 P) z z) (n a900 z z))) (n a196 (n a324 (n a580 z z) (n a836 z z)) (n a452 (n a708 z z) (n a964 z z)))) (n a100 (n a164 (n a292 (n a548 z z) (n a804 z z)) (n a420 (n a676 z z) (n a932 z z))) (n a228 (n (a356 P) (n a612 z z) (n a868 z z)) (n a484 (n a740 z z) (n a996 z z))))) (n a52 (n a84 (n a148 (n a276 (n a532 (n a1044 z z) z) (n a788 z z)) (n a404 (n a660 z z) (n a916 z z))) (n (a212 P) (n a340 (n a596 z z) (n a852 z z)) (n a468 (n a724 z z) (n a980 z z)))) (n a116 (n a180 (n a308 (n a564 z z) (n a820 z z)) (n a436 (n a692 z z) (n a948 z z))) (n a244 (n a372 (n a628 z z) (n a884 z z)) (n a500 (n a756 z z) (n a1012 z z)))))) (n a28 (n a44 (n a76 (n (a140 P) (n a268 (n a524 (n a1036 z z) z) (n a780 z z)) (n a396 (n a652 z z) (n a908 z z))) (n a204 (n a332 (n a588 z z) (n a844 z z)) (n a460 (n a716 z z) (n a972 z z)))) (n a108 (n a172 (n a300 (n a556 z z) (n a812 z z)) (n a428 (n a684 z z) (n a940 z z))) (n a236 (n a364 (n a620 z z) (n a876 z z)) (n a492 (n a748 z z) (n a1004 z z))))) (n a60 (n a92 (n a156 (n a284 (n a540 (n a1052 z z) z) (n a796 z z)) (n a412 (n a668 z z) (n a924 z z))) (n (a220 P) (n a348 (n a604 z z) (n a860 z z)) (n a476 (n a732 z z) (n a988 z z)))) (n a124 (n a188 (n a316 (n a572 z z) (n a828 z z)) (n a444 (n a700 z z) (n a956 z z))) (n a252 (n a380 (n a636 z z) (n a892 z z)) (n a508 (n a764 z z) (n a1020 z z)))))))) (n a6 (n a10 (n a18 (n a34 (n a66 (n a130 (n a258 (n a514 (n a1026 z z) z) (n a770 z z)) (n a386 (n a642 z z) (n a898 z z))) (n a194 (n a322 (n a578 z z) (n (a834 P) z z)) (n a450 (n a706 z z) (n a962 z z)))) (n a98 (n a162 (n a290 (n a546 (n a1058 z z) z) (n a802 z z)) (n a418 (n a674 z z) (n a930 z z))) (n a226 (n a354 (n (a610 P) z z) (n a866 z z)) (n (a482 P) (n a738 z z) (n a994 z z))))) (n a50 (n a82 (n a146 (n a274 (n a530 (n a1042 z z) z) (n a786 z z)) (n a402 (n a658 z z) (n a914 z z))) (n a210 (n a338 (n a594 z z) (n a850 z z)) (n a466 (n a722 z z) (n a978 z z)))) (n a114 (n a178 (n a306 (n a562 z z) (n a818 z z)) (n a434 (n a690 z z) (n a946 z z))) (n a242 (n a370 (n a626 z z) (n a882 z z)) (n a498 (n a754 z z) (n a1010 z z)))))) (n a26 (n a42 (n a74 (n a138 (n a266 (n a522 (n a1034 z z) z) (n a778 z z)) (n a394 (n a650 z z) (n a906 z z))) (n a202 (n a330 (n a586 z z) (n a842 z z)) (n a458 (n a714 z z) (n a970 z z)))) (n a106 (n a170 (n a298 (n a554 z z) (n a810 z z)) (n a426 (n a682 z z) (n a938 z z))) (n a234 (n a362 (n a618 z z) (n a874 z z)) (n a490 (n a746 z z) (n a1002 z z))))) (n a58 (n a90 (n a154 (n a282 (n a538 (n a1050 z z) z) (n a794 z z)) (n a410 (n a666 z z) (n a922 z z))) (n a218 (n a346 (n (a602 P) z z) (n a858 z z)) (n (a474 P) (n a730 z z) (n a986 z z)))) (n a122 (n a186 (n a314 (n a570 z z) (n a826 z z)) (n a442 (n a698 z z) (n a954 z z))) (n a250 (n a378 (n a634 z z) (n a890 z z)) (n a506 (n a762 z z) (n a1018 z z))))))) (n a14 (n a22 (n a38 (n a70 (n a134 (n a262 (n a518 (n a1030 z z) z) (n a774 z z)) (n (a390 P) (n a646 z z) (n a902 z z))) (n a198 (n a326 (n a582 z z) (n a838 z z)) (n a454 (n a710 z z) (n a966 z z)))) (n a102 (n a166 (n a294 (n a550 z z) (n a806 z z)) (n a422 (n a678 z z) (n a934 z z))) (n a230 (n a358 (n a614 z z) (n a870 z z)) (n a486 (n a742 z z) (n a998 z z))))) (n a54 (n a86 (n a150 (n a278 (n a534 (n a1046 z z) z) (n a790 z z)) (n a406 (n a662 z z) (n a918 z z))) (n a214 (n a342 (n a598 z z) (n a854 z z)) (n a470 (n a726 z z) (n a982 z z)))) (n a118 (n (a182 P) (n a310 (n a566 z z) (n a822 z z)) (n a438 (n a694 z z) (n a950 z z))) (n a246 (n a374 (n a630 z z) (n a886 z z)) (n a502 (n a758 z z) (n a1014 z z)))))) (n a30 (n a46 (n (a78 P) (n a142 (n a270 (n a526 (n a1038 z z) z) (n a782v1 z z)) (n (a398 P) (n a654 z z) (n a910 z z))) (n a206 (n a334 (n a590 z z) (n a846 z z)) (n a462 (n a718 z z) (n a974 z z)))) (n a110 (n (a174 P) (n a302 (n a558 z z) (n a814 z z)) (n a430 (n a686 z z) (n a942 z z))) (n a238 (n a366 (n a622 z z) (n a878 z z)) (n a494 (n a750 z z) (n a1006 z z))))) (n a62 (n a94 (n a158 (n a286 (n a542 (n a1054 z z) z) (n a798 z z)) (n a414 (n a670 z z) (n a926 z z))) (n a222 (n a350 (n a606 z z) (n a862 z z)) (n a478 (n a734 z z) (n a990 z z)))) (n a126 (n a190 (n a318 (n a574 z z) (n a830 z z)) (n a446 (n a702 z z) (n a958 z z))) (n a254 (n a382 (n a638 z z) (n a894 z z)) (n a510 (n a766 z z) (n (a1022 P) z z))))))))))
def a3v28 (P : Params) : Obj := grow (a3v27 P) #[E P "GenericTranslator" 3876 (R 1435)] 70
def a29v25 : Obj := ⟨N, none, (.fields #[(I 2 0), (I 0 0), (R 37), (I 5 0), (I 0 0), (R 44), (I 12 0), (I 0 0), (R 61), (I 14 0), (I 0 0), (R 68), (I 16 0), (I 0 0), (R 75), (I 18 0), (I 0 0), (R 88), (I 20 0), (I 0 0), (R 100), (I 54 0), (I 0 0), (R 143), (I 70 0), (I 0 0), (R 185), (I 86 0), (I 0 0), (R 223), (I 108 0), (I 0 0), (R 268), (I 124 0), (I 0 0), (R 310), (I 143 0), (I 0 0), (R 352), (I 147 0), (I 0 0), (R 359), (I 165 0), (I 0 0), (R 401), (I 189 0), (I 0 0), (R 443), (I 211 0), (I 0 0), (R 485), (I 246 0), (I 0 0), (R 528), (I 266 0), (I 0 0), (R 571), (I 282 0), (I 0 0), (R 613), (I 308 0), (I 0 0), (R 670), (I 321 0), (I 0 0), (R 677), (I 330 0), (I 0 0), (R 684), (I 347 0), (I 0 0), (R 692), (I 449 0), (I 0 0), (R 699), (I 460 0), (I 0 0), (R 706), (I 491 0), (I 0 0), (R 713), (I 508 0), (I 0 0), (R 720), (I 562 0), (I 0 0), (R 727), (I 585 0), (I 0 0), (R 734), (I 614 0), (I 0 0), (R 792), (I 628 0), (I 0 0), (R 850), (I 633 0), (I 0 0), (R 857), (I 640 0), (I 0 0), (R 864), (I 648 0), (I 0 0), (R 871), (I 650 0), (I 0 0), (R 878), (I 669 0), (I 0 0), (R 885), (I 722 0), (I 0 0), (R 892), (I 771 0), (I 0 0), (R 956), (I 773 0), (I 0 0), (R 968), (I 817 0), (I 0 0), (R 1033), (I 826 0), (I 0 0), (R 1045), (I 829 0), (I 0 0), (R 1057), (I 831 0), (I 0 0), (R 1064)]), #[]⟩
def a1059 : Obj := ⟨(T "tuple"), none, (.seq #[] 0), #[]⟩
def a1060 : Obj := ⟨(T "builtin_function_or_method"), none, (.fields #[(U "type.__prepare__"), (T "type")]), #[]⟩
def a1061 (P : Params) : Obj := ⟨(T "dict"), none, (.dict #[E P "__module__" 3274 (V "cssselect.xpath" 3054), E P "__qualname__" 3276 (V "GenericTranslator" 3275), E P "__firstlineno__" 3278 (I 831 3277), E P "combinator_mapping" 3291 (R 1066), E P "_reverse_combinator_mapping" 3304 (R 1067), E P "attribute_operator_mapping" 3329 (R 1068), E P "id_attribute" 3331 (V "id" 3330), E P "lang_attribute" 3333 (V "xml:lang" 3332), E P "lower_case_element_names" 3334 (B false), E P "lower_case_attribute_names" 3335 (B false), E P "lower_case_attribute_values" 3336 (B false), E P "css_to_xpath" 3348 (R 1076), E P "selector_to_xpath" 3361 (R 1084), E P "xpath_pseudo_element" 3370 (R 1091), E P "xpath_literal" 3388 (R 1098), E P "xpath" 3398 (R 1106), E P "xpath_combinedselector" 3408 (R 1113), E P "xpath_negation" 3418 (R 1120), E P "_xpath_match_condition" 3430 (R 1127), E P "xpath_relation" 3443 (R 1134), E P "xpath_matching" 3451 (R 1141), E P "xpath_specificityadjustment" 3459 (R 1148), E P "_xpath_add_selector_list_condition" 3471 (R 1155), E P "xpath_function" 3481 (R 1162), E P "xpath_pseudo" 3491 (R 1169), E P "xpath_attrib" 3505 (R 1176), E P "xpath_class" 3514 (R 1183), E P "xpath_hash" 3523 (R 1190), E P "xpath_element" 3534 (R 1197), E P "xpath_descendant_combinator" 3543 (R 1204), E P "xpath_child_combinator" 3552 (R 1211), E P "xpath_direct_adjacent_combinator" 3562 (R 1218), E P "xpath_indirect_adjacent_combinator" 3571 (R 1225), E P "xpath_relation_descendant_combinator" 3579 (R 1232), E P "xpath_relation_child_combinator" 3587 (R 1239), E P "xpath_relation_direct_adjacent_combinator" 3598 (R 1246), E P "xpath_relation_indirect_adjacent_combinator" 3606 (R 1253), E P "xpath_nth_child_function" 3627 (R 1261), E P "xpath_nth_last_child_function" 3636 (R 1268), E P "_check_of_type_element" 3658 (R 1277), E P "xpath_nth_of_type_function" 3667 (R 1285), E P "xpath_nth_last_of_type_function" 3676 (R 1292), E P "xpath_contains_function" 3686 (R 1299), E P "xpath_lang_function" 3696 (R 1306), E P "xpath_root_pseudo" 3704 (R 1313), E P "xpath_scope_pseudo" 3712 (R 1320), E P "xpath_first_child_pseudo" 3720 (R 1327), E P "xpath_last_child_pseudo" 3728 (R 1334), E P "xpath_first_of_type_pseudo" 3736 (R 1341), E P "xpath_last_of_type_pseudo" 3744 (R 1348), E P "xpath_only_child_pseudo" 3752 (R 1355), E P "xpath_only_of_type_pseudo" 3760 (R 1362), E P "xpath_empty_pseudo" 3768 (R 1369), E P "pseudo_never_matches" 3776 (R 1376), E P "xpath_link_pseudo" 3777 (R 1376), E P "xpath_visited_pseudo" 3778 (R 1376), E P "xpath_hover_pseudo" 3779 (R 1376), E P "xpath_active_pseudo" 3780 (R 1376), E P "xpath_focus_pseudo" 3781 (R 1376), E P "xpath_target_pseudo" 3782 (R 1376), E P "xpath_enabled_pseudo" 3783 (R 1376), E P "xpath_disabled_pseudo" 3784 (R 1376), E P "xpath_checked_pseudo" 3785 (R 1376), E P "xpath_attrib_exists" 3795 (R 1383), E P "xpath_attrib_equals" 3805 (R 1390), E P "xpath_attrib_different" 3815 (R 1397), E P "xpath_attrib_includes" 3826 (R 1404), E P "xpath_attrib_dashmatch" 3838 (R 1411), E P "xpath_attrib_prefixmatch" 3848 (R 1418), E P "xpath_attrib_suffixmatch" 3858 (R 1425), E P "xpath_attrib_substringmatch" 3868 (R 1432), E P "__static_attributes__" 3869 (R 1433)] 72), #[]⟩
def a1062 : Obj := ⟨(T "tuple"), none, (.seq #[] 0), #[]⟩
def a1063 : Obj := ⟨N, none, (.fields #[(I 841 0), (I 4 0), (R 1075), (I 844 0), (I 4 0), (R 1083), (I 854 0), (I 4 0), (R 1090), (I 858 0), (I 4 0), (R 1095), (I 869 0), (I 4 0), (R 1105), (I 876 0), (I 4 0), (R 1112), (I 881 0), (I 4 0), (R 1119), (I 888 0), (I 4 0), (R 1126), (I 900 0), (I 4 0), (R 1133), (I 908 0), (I 4 0), (R 1140), (I 911 0), (I 4 0), (R 1147), (I 914 0), (I 4 0), (R 1154), (I 925 0), (I 4 0), (R 1161), (I 932 0), (I 4 0), (R 1168), (I 939 0), (I 4 0), (R 1175), (I 968 0), (I 4 0), (R 1182), (I 972 0), (I 4 0), (R 1189), (I 976 0), (I 4 0), (R 1196), (I 998 0), (I 4 0), (R 1203), (I 1003 0), (I 4 0), (R 1210), (I 1006 0), (I 4 0), (R 1217), (I 1011 0), (I 4 0), (R 1224), (I 1014 0), (I 4 0), (R 1231), (I 1017 0), (I 4 0), (R 1238), (I 1020 0), (I 4 0), (R 1245), (I 1028 0), (I 4 0), (R 1252), (I 1031 0), (I 4 0), (R 1260), (I 1064 0), (I 4 0), (R 1267), (I 1068 0), (I 4 0), (R 1274), (I 1074 0), (I 4 0), (R 1284), (I 1078 0), (I 4 0), (R 1291), (I 1082 0), (I 4 0), (R 1298), (I 1088 0), (I 4 0), (R 1305), (I 1094 0), (I 4 0), (R 1312), (I 1097 0), (I 4 0), (R 1319), (I 1101 0), (I 4 0), (R 1326), (I 1104 0), (I 4 0), (R 1333), (I 1107 0), (I 4 0), (R 1340), (I 1111 0), (I 4 0), (R 1347), (I 1115 0), (I 4 0), (R 1354), (I 1118 0), (I 4 0), (R 1361), (I 1122 0), (I 4 0), (R 1368), (I 1125 0), (I 4 0), (R 1375), (I 1137 0), (I 4 0), (R 1382), (I 1142 0), (I 4 0), (R 1389), (I 1147 0), (I 4 0), (R 1396), (I 1155 0), (I 4 0), (R 1403), (I 1163 0), (I 4 0), (R 1410), (I 1170 0), (I 4 0), (R 1417), (I 1177 0), (I 4 0), (R 1424), (I 1184 0), (I 4 0), (R 1431)]), #[]⟩
def a1064 : Obj := ⟨(T "code"), none, (.fields #[(V "GenericTranslator" 3269), (V "GenericTranslator" 3270), (V "/claim/cut.py" 3271), (I 831 0), (I 0 0), (I 0 0), (I 0 0), (I 0 0), (R 1062), (B false), (I 276 0), (R 1063), N, N, N, N, (I 3272 0), (I 831 0), (V "/claim/cut.py" 3273)]), #[]⟩
def a1065 : Obj := ⟨(T "frame"), none, .plain, #[(some (R 1064)), (some (R 3)), (some (R 1061)), none, (some (V "cssselect.xpath" 3054)), none, (some (R 0))]⟩
def a1066 (P : Params) : Obj := ⟨(T "dict"), none, (.dict #[E P " " 3279 (V "descendant" 3280), E P ">" 3281 (V "child" 3282), E P "+" 3283 (V "direct_adjacent" 3284), E P "~" 3285 (V "indirect_adjacent" 3286)] 4), #[]⟩
def a1067 (P : Params) : Obj := ⟨(T "dict"), none, (.dict #[E P " " 3292 (V "ancestor::*" 3293), E P ">" 3294 (V "parent::*" 3295), E P "+" 3296 (V "preceding-sibling::*[1]" 3297), E P "~" 3298 (V "preceding-sibling::*" 3299)] 4), #[]⟩
def a1068 (P : Params) : Obj := ⟨(T "dict"), none, (.dict #[E P "exists" 3305 (V "exists" 3306), E P "=" 3307 (V "equals" 3308), E P "~=" 3309 (V "includes" 3310), E P "|=" 3311 (V "dashmatch" 3312), E P "^=" 3313 (V "prefixmatch" 3314), E P "$=" 3315 (V "suffixmatch" 3316), E P "*=" 3317 (V "substringmatch" 3318), E P "!=" 3319 (V "different" 3320)] 8), #[]⟩
def a1069 : Obj := ⟨(T "tuple"), none, (.seq #[(V "descendant-or-self::" 3337)] 0), #[]⟩
def a1070 : Obj := ⟨(T "tuple"), none, (.seq #[] 0), #[]⟩
def a1071 : Obj := ⟨N, none, (.fields #[]), #[]⟩
def a1072 : Obj := ⟨(T "tuple"), none, (.seq #[(V "self" 3341), (V "css" 3342), (V "prefix" 3343)] 0), #[]⟩
def a1073 : Obj := ⟨(T "tuple"), none, (.seq #[(V "self" 3344), (V "prefix" 3345)] 0), #[]⟩
def a1074 : Obj := ⟨N, none, (.func (fd (kd (st 62) 8) (Str.ofString "GenericTranslator.css_to_xpath") 0 [] N N N N none N N 0)), #[]⟩
def a1075 : Obj := ⟨(T "code"), none, (.fields #[(V "css_to_xpath" 3338), (V "GenericTranslator.css_to_xpath" 3339), (V "/claim/cut.py" 3340), (I 841 0), (I 3 0), (I 0 0), (I 0 0), (I 3 0), (R 1070), (B true), (I 276 0), (R 1071), N, (R 1072), (R 1073), (R 1074), (I 3346 0), (I 841 0), (V "/claim/cut.py" 3347)]), #[]⟩
def a1076 : Obj := ⟨(T "function"), none, (.func (fd (kd (st 62) 8) (Str.ofString "GenericTranslator.css_to_xpath") 3 [] (R 1069) N N (V "cssselect.xpath" 3054) none (R 1075) N 0)), #[]⟩
def a1077 : Obj := ⟨(T "tuple"), none, (.seq #[(V "descendant-or-self::" 3349), (B false)] 0), #[]⟩
def a1078 : Obj := ⟨(T "tuple"), none, (.seq #[] 0), #[]⟩
def a1079 : Obj := ⟨N, none, (.fields #[]), #[]⟩
def a1080 : Obj := ⟨(T "tuple"), none, (.seq #[(V "self" 3353), (V "selector" 3354), (V "prefix" 3355), (V "translate_pseudo_elements" 3356), (V "tree" 3357), (V "xpath" 3358)] 0), #[]⟩
def a1081 : Obj := ⟨(T "tuple"), none, (.seq #[] 0), #[]⟩
def a1082 : Obj := ⟨N, none, (.func (fd (kd (st 62) 9) (Str.ofString "GenericTranslator.selector_to_xpath") 0 [] N N N N none N N 0)), #[]⟩
def a1083 : Obj := ⟨(T "code"), none, (.fields #[(V "selector_to_xpath" 3350), (V "GenericTranslator.selector_to_xpath" 3351), (V "/claim/cut.py" 3352), (I 844 0), (I 4 0), (I 0 0), (I 0 0), (I 3 0), (R 1078), (B true), (I 276 0), (R 1079), N, (R 1080), (R 1081), (R 1082), (I 3359 0), (I 844 0), (V "/claim/cut.py" 3360)]), #[]⟩
def a1084 : Obj := ⟨(T "function"), none, (.func (fd (kd (st 62) 9) (Str.ofString "GenericTranslator.selector_to_xpath") 3 [] (R 1077) N N (V "cssselect.xpath" 3054) none (R 1083) N 0)), #[]⟩
def a1085 : Obj := ⟨(T "tuple"), none, (.seq #[] 0), #[]⟩
def a1086 : Obj := ⟨N, none, (.fields #[]), #[]⟩
def a1087 : Obj := ⟨(T "tuple"), none, (.seq #[(V "self" 3365), (V "xpath" 3366), (V "pseudo_element" 3367)] 0), #[]⟩
def a1088 : Obj := ⟨(T "tuple"), none, (.seq #[] 0), #[]⟩
def a1089 : Obj := ⟨N, none, (.func (fd (kd (st 62) 10) (Str.ofString "GenericTranslator.xpath_pseudo_element") 0 [] N N N N none N N 0)), #[]⟩
def a1090 : Obj := ⟨(T "code"), none, (.fields #[(V "xpath_pseudo_element" 3362), (V "GenericTranslator.xpath_pseudo_element" 3363), (V "/claim/cut.py" 3364), (I 854 0), (I 3 0), (I 0 0), (I 0 0), (I 3 0), (R 1085), (B true), (I 276 0), (R 1086), N, (R 1087), (R 1088), (R 1089), (I 3368 0), (I 854 0), (V "/claim/cut.py" 3369)]), #[]⟩
def a1091 : Obj := ⟨(T "function"), none, (.func (fd (kd (st 62) 10) (Str.ofString "GenericTranslator.xpath_pseudo_element") 3 [] N N N (V "cssselect.xpath" 3054) none (R 1090) N 0)), #[]⟩
def a1092 : Obj := ⟨(T "tuple"), none, (.seq #[] 0), #[]⟩
def a1093 : Obj := ⟨N, none, (.fields #[]), #[]⟩
def a1094 : Obj := ⟨N, none, (.func (fd (kd (st 62) 11) (Str.ofString "GenericTranslator.xpath_literal") 0 [] N N N N none N N 0)), #[]⟩
def a1095 : Obj := ⟨(T "code"), none, (.fields #[(V "xpath_literal" 3371), (V "GenericTranslator.xpath_literal" 3372), (V "/claim/cut.py" 3373), (I 857 0), (I 1 0), (I 0 0), (I 0 0), (I 3 0), (R 1092), (B true), (I 276 0), (R 1093), N, N, N, (R 1094), (I 3374 0), (I 857 0), (V "/claim/cut.py" 3375)]), #[]⟩
def a1096 : Obj := ⟨(T "function"), none, (.func (fd (kd (st 62) 11) (Str.ofString "GenericTranslator.xpath_literal") 3 [] N N N (V "cssselect.xpath" 3054) (some 1099) (R 1095) N 0)), #[]⟩
def a1097 (P : Params) : Obj := ⟨(T "dict"), none, (.dict #[E P "__module__" 3377 (V "cssselect.xpath" 3054), E P "__name__" 3380 (V "xpath_literal" 3379), E P "__qualname__" 3383 (V "GenericTranslator.xpath_literal" 3382), E P "__doc__" 3385 N, E P "__annotations__" 3387 (R 1099)] 5), #[]⟩
def a1098 : Obj := ⟨(T "staticmethod"), (some 1097), (.fields #[(R 1096), (B false)]), #[]⟩
def a1099 : Obj := ⟨(T "dict"), none, (.dict #[] 0), #[]⟩
def a1100 : Obj := ⟨(T "tuple"), none, (.seq #[] 0), #[]⟩
def a1101 : Obj := ⟨N, none, (.fields #[]), #[]⟩
def a1102 : Obj := ⟨(T "tuple"), none, (.seq #[(V "self" 3392), (V "parsed_selector" 3393), (V "type_name" 3394), (V "method" 3395)] 0), #[]⟩
def a1103 : Obj := ⟨(T "tuple"), none, (.seq #[] 0), #[]⟩
def a1104 : Obj := ⟨N, none, (.func (fd (kd (st 62) 12) (Str.ofString "GenericTranslator.xpath") 0 [] N N N N none N N 0)), #[]⟩
def a1105 : Obj := ⟨(T "code"), none, (.fields #[(V "xpath" 3389), (V "GenericTranslator.xpath" 3390), (V "/claim/cut.py" 3391), (I 869 0), (I 2 0), (I 0 0), (I 0 0), (I 3 0), (R 1100), (B true), (I 276 0), (R 1101), N, (R 1102), (R 1103), (R 1104), (I 3396 0), (I 869 0), (V "/claim/cut.py" 3397)]), #[]⟩
def a1106 : Obj := ⟨(T "function"), none, (.func (fd (kd (st 62) 12) (Str.ofString "GenericTranslator.xpath") 3 [] N N N (V "cssselect.xpath" 3054) none (R 1105) N 0)), #[]⟩
def a1107 : Obj := ⟨(T "tuple"), none, (.seq #[] 0), #[]⟩
def a1108 : Obj := ⟨N, none, (.fields #[]), #[]⟩
def a1109 : Obj := ⟨(T "tuple"), none, (.seq #[(V "self" 3402), (V "combined" 3403), (V "combinator" 3404), (V "method" 3405)] 0), #[]⟩
def a1110 : Obj := ⟨(T "tuple"), none, (.seq #[] 0), #[]⟩
def a1111 : Obj := ⟨N, none, (.func (fd (kd (st 62) 13) (Str.ofString "GenericTranslator.xpath_combinedselector") 0 [] N N N N none N N 0)), #[]⟩
def a1112 : Obj := ⟨(T "code"), none, (.fields #[(V "xpath_combinedselector" 3399), (V "GenericTranslator.xpath_combinedselector" 3400), (V "/claim/cut.py" 3401), (I 876 0), (I 2 0), (I 0 0), (I 0 0), (I 3 0), (R 1107), (B true), (I 276 0), (R 1108), N, (R 1109), (R 1110), (R 1111), (I 3406 0), (I 876 0), (V "/claim/cut.py" 3407)]), #[]⟩
def a1113 : Obj := ⟨(T "function"), none, (.func (fd (kd (st 62) 13) (Str.ofString "GenericTranslator.xpath_combinedselector") 3 [] N N N (V "cssselect.xpath" 3054) none (R 1112) N 0)), #[]⟩
def a1114 : Obj := ⟨(T "tuple"), none, (.seq #[] 0), #[]⟩
def a1115 : Obj := ⟨N, none, (.fields #[]), #[]⟩
def a1116 : Obj := ⟨(T "tuple"), none, (.seq #[(V "self" 3412), (V "negation" 3413), (V "xpath" 3414), (V "condition" 3415)] 0), #[]⟩
def a1117 : Obj := ⟨(T "tuple"), none, (.seq #[] 0), #[]⟩
def a1118 : Obj := ⟨N, none, (.func (fd (kd (st 62) 14) (Str.ofString "GenericTranslator.xpath_negation") 0 [] N N N N none N N 0)), #[]⟩
def a1119 : Obj := ⟨(T "code"), none, (.fields #[(V "xpath_negation" 3409), (V "GenericTranslator.xpath_negation" 3410), (V "/claim/cut.py" 3411), (I 881 0), (I 2 0), (I 0 0), (I 0 0), (I 3 0), (R 1114), (B true), (I 276 0), (R 1115), N, (R 1116), (R 1117), (R 1118), (I 3416 0), (I 881 0), (V "/claim/cut.py" 3417)]), #[]⟩
def a1120 : Obj := ⟨(T "function"), none, (.func (fd (kd (st 62) 14) (Str.ofString "GenericTranslator.xpath_negation") 3 [] N N N (V "cssselect.xpath" 3054) none (R 1119) N 0)), #[]⟩
def a1121 : Obj := ⟨(T "tuple"), none, (.seq #[] 0), #[]⟩
def a1122 : Obj := ⟨N, none, (.fields #[]), #[]⟩
def a1123 : Obj := ⟨(T "tuple"), none, (.seq #[(V "self" 3422), (V "selector" 3423), (V "axis" 3424), (V "left" 3425), (V "right" 3426), (V "sub_xpath" 3427)] 0), #[]⟩
def a1124 : Obj := ⟨(T "tuple"), none, (.seq #[] 0), #[]⟩
def a1125 : Obj := ⟨N, none, (.func (fd (kd (st 62) 15) (Str.ofString "GenericTranslator._xpath_match_condition") 0 [] N N N N none N N 0)), #[]⟩
def a1126 : Obj := ⟨(T "code"), none, (.fields #[(V "_xpath_match_condition" 3419), (V "GenericTranslator._xpath_match_condition" 3420), (V "/claim/cut.py" 3421), (I 888 0), (I 2 0), (I 0 0), (I 0 0), (I 3 0), (R 1121), (B true), (I 276 0), (R 1122), N, (R 1123), (R 1124), (R 1125), (I 3428 0), (I 888 0), (V "/claim/cut.py" 3429)]), #[]⟩
def a1127 : Obj := ⟨(T "function"), none, (.func (fd (kd (st 62) 15) (Str.ofString "GenericTranslator._xpath_match_condition") 3 [] N N N (V "cssselect.xpath" 3054) none (R 1126) N 0)), #[]⟩
def a1128 : Obj := ⟨(T "tuple"), none, (.seq #[] 0), #[]⟩
def a1129 : Obj := ⟨N, none, (.fields #[]), #[]⟩
def a1130 : Obj := ⟨(T "tuple"), none, (.seq #[(V "self" 3434), (V "relation" 3435), (V "condition" 3436), (V "combinator" 3437), (V "subselector" 3438), (V "method" 3439), (V "argument" 3440)] 0), #[]⟩
def a1131 : Obj := ⟨(T "tuple"), none, (.seq #[] 0), #[]⟩
def a1132 : Obj := ⟨N, none, (.func (fd (kd (st 62) 16) (Str.ofString "GenericTranslator.xpath_relation") 0 [] N N N N none N N 0)), #[]⟩
def a1133 : Obj := ⟨(T "code"), none, (.fields #[(V "xpath_relation" 3431), (V "GenericTranslator.xpath_relation" 3432), (V "/claim/cut.py" 3433), (I 900 0), (I 2 0), (I 0 0), (I 0 0), (I 3 0), (R 1128), (B true), (I 276 0), (R 1129), N, (R 1130), (R 1131), (R 1132), (I 3441 0), (I 900 0), (V "/claim/cut.py" 3442)]), #[]⟩
def a1134 : Obj := ⟨(T "function"), none, (.func (fd (kd (st 62) 16) (Str.ofString "GenericTranslator.xpath_relation") 3 [] N N N (V "cssselect.xpath" 3054) none (R 1133) N 0)), #[]⟩
def a1135 : Obj := ⟨(T "tuple"), none, (.seq #[] 0), #[]⟩
def a1136 : Obj := ⟨N, none, (.fields #[]), #[]⟩
def a1137 : Obj := ⟨(T "tuple"), none, (.seq #[(V "self" 3447), (V "matching" 3448)] 0), #[]⟩
def a1138 : Obj := ⟨(T "tuple"), none, (.seq #[] 0), #[]⟩
def a1139 : Obj := ⟨N, none, (.func (fd (kd (st 62) 17) (Str.ofString "GenericTranslator.xpath_matching") 0 [] N N N N none N N 0)), #[]⟩
def a1140 : Obj := ⟨(T "code"), none, (.fields #[(V "xpath_matching" 3444), (V "GenericTranslator.xpath_matching" 3445), (V "/claim/cut.py" 3446), (I 908 0), (I 2 0), (I 0 0), (I 0 0), (I 3 0), (R 1135), (B true), (I 276 0), (R 1136), N, (R 1137), (R 1138), (R 1139), (I 3449 0), (I 908 0), (V "/claim/cut.py" 3450)]), #[]⟩
def a1141 : Obj := ⟨(T "function"), none, (.func (fd (kd (st 62) 17) (Str.ofString "GenericTranslator.xpath_matching") 3 [] N N N (V "cssselect.xpath" 3054) none (R 1140) N 0)), #[]⟩
def a1142 : Obj := ⟨(T "tuple"), none, (.seq #[] 0), #[]⟩
def a1143 : Obj := ⟨N, none, (.fields #[]), #[]⟩
def a1144 : Obj := ⟨(T "tuple"), none, (.seq #[(V "self" 3455), (V "matching" 3456)] 0), #[]⟩
def a1145 : Obj := ⟨(T "tuple"), none, (.seq #[] 0), #[]⟩
def a1146 : Obj := ⟨N, none, (.func (fd (kd (st 62) 18) (Str.ofString "GenericTranslator.xpath_specificityadjustment") 0 [] N N N N none N N 0)), #[]⟩
def a1147 : Obj := ⟨(T "code"), none, (.fields #[(V "xpath_specificityadjustment" 3452), (V "GenericTranslator.xpath_specificityadjustment" 3453), (V "/claim/cut.py" 3454), (I 911 0), (I 2 0), (I 0 0), (I 0 0), (I 3 0), (R 1142), (B true), (I 276 0), (R 1143), N, (R 1144), (R 1145), (R 1146), (I 3457 0), (I 911 0), (V "/claim/cut.py" 3458)]), #[]⟩
def a1148 : Obj := ⟨(T "function"), none, (.func (fd (kd (st 62) 18) (Str.ofString "GenericTranslator.xpath_specificityadjustment") 3 [] N N N (V "cssselect.xpath" 3054) none (R 1147) N 0)), #[]⟩
def a1149 : Obj := ⟨(T "tuple"), none, (.seq #[] 0), #[]⟩
def a1150 : Obj := ⟨N, none, (.fields #[]), #[]⟩
def a1151 : Obj := ⟨(T "tuple"), none, (.seq #[(V "self" 3463), (V "xpath" 3464), (V "selector_list" 3465), (V "condition" 3466), (V "e" 3467)] 0), #[]⟩
def a1152 : Obj := ⟨(T "tuple"), none, (.seq #[(V "self" 3468)] 0), #[]⟩
def a1153 : Obj := ⟨N, none, (.func (fd (kd (st 62) 19) (Str.ofString "GenericTranslator._xpath_add_selector_list_condition") 0 [] N N N N none N N 0)), #[]⟩
def a1154 : Obj := ⟨(T "code"), none, (.fields #[(V "_xpath_add_selector_list_condition" 3460), (V "GenericTranslator._xpath_add_selector_list_condition" 3461), (V "/claim/cut.py" 3462), (I 914 0), (I 3 0), (I 0 0), (I 0 0), (I 3 0), (R 1149), (B true), (I 276 0), (R 1150), N, (R 1151), (R 1152), (R 1153), (I 3469 0), (I 914 0), (V "/claim/cut.py" 3470)]), #[]⟩
def a1155 : Obj := ⟨(T "function"), none, (.func (fd (kd (st 62) 19) (Str.ofString "GenericTranslator._xpath_add_selector_list_condition") 3 [] N N N (V "cssselect.xpath" 3054) none (R 1154) N 0)), #[]⟩
def a1156 : Obj := ⟨(T "tuple"), none, (.seq #[] 0), #[]⟩
def a1157 : Obj := ⟨N, none, (.fields #[]), #[]⟩
def a1158 : Obj := ⟨(T "tuple"), none, (.seq #[(V "self" 3475), (V "function" 3476), (V "method_name" 3477), (V "method" 3478)] 0), #[]⟩
def a1159 : Obj := ⟨(T "tuple"), none, (.seq #[] 0), #[]⟩
def a1160 : Obj := ⟨N, none, (.func (fd (kd (st 62) 20) (Str.ofString "GenericTranslator.xpath_function") 0 [] N N N N none N N 0)), #[]⟩
def a1161 : Obj := ⟨(T "code"), none, (.fields #[(V "xpath_function" 3472), (V "GenericTranslator.xpath_function" 3473), (V "/claim/cut.py" 3474), (I 925 0), (I 2 0), (I 0 0), (I 0 0), (I 3 0), (R 1156), (B true), (I 276 0), (R 1157), N, (R 1158), (R 1159), (R 1160), (I 3479 0), (I 925 0), (V "/claim/cut.py" 3480)]), #[]⟩
def a1162 : Obj := ⟨(T "function"), none, (.func (fd (kd (st 62) 20) (Str.ofString "GenericTranslator.xpath_function") 3 [] N N N (V "cssselect.xpath" 3054) none (R 1161) N 0)), #[]⟩
def a1163 : Obj := ⟨(T "tuple"), none, (.seq #[] 0), #[]⟩
def a1164 : Obj := ⟨N, none, (.fields #[]), #[]⟩
def a1165 : Obj := ⟨(T "tuple"), none, (.seq #[(V "self" 3485), (V "pseudo" 3486), (V "method_name" 3487), (V "method" 3488)] 0), #[]⟩
def a1166 : Obj := ⟨(T "tuple"), none, (.seq #[] 0), #[]⟩
def a1167 : Obj := ⟨N, none, (.func (fd (kd (st 62) 21) (Str.ofString "GenericTranslator.xpath_pseudo") 0 [] N N N N none N N 0)), #[]⟩
def a1168 : Obj := ⟨(T "code"), none, (.fields #[(V "xpath_pseudo" 3482), (V "GenericTranslator.xpath_pseudo" 3483), (V "/claim/cut.py" 3484), (I 932 0), (I 2 0), (I 0 0), (I 0 0), (I 3 0), (R 1163), (B true), (I 276 0), (R 1164), N, (R 1165), (R 1166), (R 1167), (I 3489 0), (I 932 0), (V "/claim/cut.py" 3490)]), #[]⟩
def a1169 : Obj := ⟨(T "function"), none, (.func (fd (kd (st 62) 21) (Str.ofString "GenericTranslator.xpath_pseudo") 3 [] N N N (V "cssselect.xpath" 3054) none (R 1168) N 0)), #[]⟩
def a1170 : Obj := ⟨(T "tuple"), none, (.seq #[] 0), #[]⟩
def a1171 : Obj := ⟨N, none, (.fields #[]), #[]⟩
def a1172 : Obj := ⟨(T "tuple"), none, (.seq #[(V "self" 3495), (V "selector" 3496), (V "operator" 3497), (V "method" 3498), (V "name" 3499), (V "attrib" 3500), (V "safe" 3501), (V "value" 3502)] 0), #[]⟩
def a1173 : Obj := ⟨(T "tuple"), none, (.seq #[] 0), #[]⟩
def a1174 : Obj := ⟨N, none, (.func (fd (kd (st 62) 22) (Str.ofString "GenericTranslator.xpath_attrib") 0 [] N N N N none N N 0)), #[]⟩
def a1175 : Obj := ⟨(T "code"), none, (.fields #[(V "xpath_attrib" 3492), (V "GenericTranslator.xpath_attrib" 3493), (V "/claim/cut.py" 3494), (I 939 0), (I 2 0), (I 0 0), (I 0 0), (I 3 0), (R 1170), (B true), (I 276 0), (R 1171), N, (R 1172), (R 1173), (R 1174), (I 3503 0), (I 939 0), (V "/claim/cut.py" 3504)]), #[]⟩
def a1176 : Obj := ⟨(T "function"), none, (.func (fd (kd (st 62) 22) (Str.ofString "GenericTranslator.xpath_attrib") 3 [] N N N (V "cssselect.xpath" 3054) none (R 1175) N 0)), #[]⟩
def a1177 : Obj := ⟨(T "tuple"), none, (.seq #[] 0), #[]⟩
def a1178 : Obj := ⟨N, none, (.fields #[]), #[]⟩
def a1179 : Obj := ⟨(T "tuple"), none, (.seq #[(V "self" 3509), (V "class_selector" 3510), (V "xpath" 3511)] 0), #[]⟩
def a1180 : Obj := ⟨(T "tuple"), none, (.seq #[] 0), #[]⟩
def a1181 : Obj := ⟨N, none, (.func (fd (kd (st 62) 23) (Str.ofString "GenericTranslator.xpath_class") 0 [] N N N N none N N 0)), #[]⟩
def a1182 : Obj := ⟨(T "code"), none, (.fields #[(V "xpath_class" 3506), (V "GenericTranslator.xpath_class" 3507), (V "/claim/cut.py" 3508), (I 968 0), (I 2 0), (I 0 0), (I 0 0), (I 3 0), (R 1177), (B true), (I 276 0), (R 1178), N, (R 1179), (R 1180), (R 1181), (I 3512 0), (I 968 0), (V "/claim/cut.py" 3513)]), #[]⟩
def a1183 : Obj := ⟨(T "function"), none, (.func (fd (kd (st 62) 23) (Str.ofString "GenericTranslator.xpath_class") 3 [] N N N (V "cssselect.xpath" 3054) none (R 1182) N 0)), #[]⟩
def a1184 : Obj := ⟨(T "tuple"), none, (.seq #[] 0), #[]⟩
def a1185 : Obj := ⟨N, none, (.fields #[]), #[]⟩
def a1186 : Obj := ⟨(T "tuple"), none, (.seq #[(V "self" 3518), (V "id_selector" 3519), (V "xpath" 3520)] 0), #[]⟩
def a1187 : Obj := ⟨(T "tuple"), none, (.seq #[] 0), #[]⟩
def a1188 : Obj := ⟨N, none, (.func (fd (kd (st 62) 24) (Str.ofString "GenericTranslator.xpath_hash") 0 [] N N N N none N N 0)), #[]⟩
def a1189 : Obj := ⟨(T "code"), none, (.fields #[(V "xpath_hash" 3515), (V "GenericTranslator.xpath_hash" 3516), (V "/claim/cut.py" 3517), (I 972 0), (I 2 0), (I 0 0), (I 0 0), (I 3 0), (R 1184), (B true), (I 276 0), (R 1185), N, (R 1186), (R 1187), (R 1188), (I 3521 0), (I 972 0), (V "/claim/cut.py" 3522)]), #[]⟩
def a1190 : Obj := ⟨(T "function"), none, (.func (fd (kd (st 62) 24) (Str.ofString "GenericTranslator.xpath_hash") 3 [] N N N (V "cssselect.xpath" 3054) none (R 1189) N 0)), #[]⟩
def a1191 : Obj := ⟨(T "tuple"), none, (.seq #[] 0), #[]⟩
def a1192 : Obj := ⟨N, none, (.fields #[]), #[]⟩
def a1193 : Obj := ⟨(T "tuple"), none, (.seq #[(V "self" 3527), (V "selector" 3528), (V "element" 3529), (V "safe" 3530), (V "xpath" 3531)] 0), #[]⟩
def a1194 : Obj := ⟨(T "tuple"), none, (.seq #[] 0), #[]⟩
def a1195 : Obj := ⟨N, none, (.func (fd (kd (st 62) 25) (Str.ofString "GenericTranslator.xpath_element") 0 [] N N N N none N N 0)), #[]⟩
def a1196 : Obj := ⟨(T "code"), none, (.fields #[(V "xpath_element" 3524), (V "GenericTranslator.xpath_element" 3525), (V "/claim/cut.py" 3526), (I 976 0), (I 2 0), (I 0 0), (I 0 0), (I 3 0), (R 1191), (B true), (I 276 0), (R 1192), N, (R 1193), (R 1194), (R 1195), (I 3532 0), (I 976 0), (V "/claim/cut.py" 3533)]), #[]⟩
def a1197 : Obj := ⟨(T "function"), none, (.func (fd (kd (st 62) 25) (Str.ofString "GenericTranslator.xpath_element") 3 [] N N N (V "cssselect.xpath" 3054) none (R 1196) N 0)), #[]⟩
def a1198 : Obj := ⟨(T "tuple"), none, (.seq #[] 0), #[]⟩
def a1199 : Obj := ⟨N, none, (.fields #[]), #[]⟩
def a1200 : Obj := ⟨(T "tuple"), none, (.seq #[(V "self" 3538), (V "left" 3539), (V "right" 3540)] 0), #[]⟩
def a1201 : Obj := ⟨(T "tuple"), none, (.seq #[] 0), #[]⟩
def a1202 : Obj := ⟨N, none, (.func (fd (kd (st 62) 26) (Str.ofString "GenericTranslator.xpath_descendant_combinator") 0 [] N N N N none N N 0)), #[]⟩
def a1203 : Obj := ⟨(T "code"), none, (.fields #[(V "xpath_descendant_combinator" 3535), (V "GenericTranslator.xpath_descendant_combinator" 3536), (V "/claim/cut.py" 3537), (I 998 0), (I 3 0), (I 0 0), (I 0 0), (I 3 0), (R 1198), (B true), (I 276 0), (R 1199), N, (R 1200), (R 1201), (R 1202), (I 3541 0), (I 998 0), (V "/claim/cut.py" 3542)]), #[]⟩
def a1204 : Obj := ⟨(T "function"), none, (.func (fd (kd (st 62) 26) (Str.ofString "GenericTranslator.xpath_descendant_combinator") 3 [] N N N (V "cssselect.xpath" 3054) none (R 1203) N 0)), #[]⟩
def a1205 : Obj := ⟨(T "tuple"), none, (.seq #[] 0), #[]⟩
def a1206 : Obj := ⟨N, none, (.fields #[]), #[]⟩
def a1207 : Obj := ⟨(T "tuple"), none, (.seq #[(V "self" 3547), (V "left" 3548), (V "right" 3549)] 0), #[]⟩
def a1208 : Obj := ⟨(T "tuple"), none, (.seq #[] 0), #[]⟩
def a1209 : Obj := ⟨N, none, (.func (fd (kd (st 62) 27) (Str.ofString "GenericTranslator.xpath_child_combinator") 0 [] N N N N none N N 0)), #[]⟩
def a1210 : Obj := ⟨(T "code"), none, (.fields #[(V "xpath_child_combinator" 3544), (V "GenericTranslator.xpath_child_combinator" 3545), (V "/claim/cut.py" 3546), (I 1003 0), (I 3 0), (I 0 0), (I 0 0), (I 3 0), (R 1205), (B true), (I 276 0), (R 1206), N, (R 1207), (R 1208), (R 1209), (I 3550 0), (I 1003 0), (V "/claim/cut.py" 3551)]), #[]⟩
def a1211 : Obj := ⟨(T "function"), none, (.func (fd (kd (st 62) 27) (Str.ofString "GenericTranslator.xpath_child_combinator") 3 [] N N N (V "cssselect.xpath" 3054) none (R 1210) N 0)), #[]⟩
def a1212 : Obj := ⟨(T "tuple"), none, (.seq #[] 0), #[]⟩
def a1213 : Obj := ⟨N, none, (.fields #[]), #[]⟩
def a1214 : Obj := ⟨(T "tuple"), none, (.seq #[(V "self" 3556), (V "left" 3557), (V "right" 3558), (V "xpath" 3559)] 0), #[]⟩
def a1215 : Obj := ⟨(T "tuple"), none, (.seq #[] 0), #[]⟩
def a1216 : Obj := ⟨N, none, (.func (fd (kd (st 62) 28) (Str.ofString "GenericTranslator.xpath_direct_adjacent_combinator") 0 [] N N N N none N N 0)), #[]⟩
def a1217 : Obj := ⟨(T "code"), none, (.fields #[(V "xpath_direct_adjacent_combinator" 3553), (V "GenericTranslator.xpath_direct_adjacent_combinator" 3554), (V "/claim/cut.py" 3555), (I 1006 0), (I 3 0), (I 0 0), (I 0 0), (I 3 0), (R 1212), (B true), (I 276 0), (R 1213), N, (R 1214), (R 1215), (R 1216), (I 3560 0), (I 1006 0), (V "/claim/cut.py" 3561)]), #[]⟩
def a1218 : Obj := ⟨(T "function"), none, (.func (fd (kd (st 62) 28) (Str.ofString "GenericTranslator.xpath_direct_adjacent_combinator") 3 [] N N N (V "cssselect.xpath" 3054) none (R 1217) N 0)), #[]⟩
def a1219 : Obj := ⟨(T "tuple"), none, (.seq #[] 0), #[]⟩
def a1220 : Obj := ⟨N, none, (.fields #[]), #[]⟩
def a1221 : Obj := ⟨(T "tuple"), none, (.seq #[(V "self" 3566), (V "left" 3567), (V "right" 3568)] 0), #[]⟩
def a1222 : Obj := ⟨(T "tuple"), none, (.seq #[] 0), #[]⟩
def a1223 : Obj := ⟨N, none, (.func (fd (kd (st 62) 29) (Str.ofString "GenericTranslator.xpath_indirect_adjacent_combinator") 0 [] N N N N none N N 0)), #[]⟩
def a1224 : Obj := ⟨(T "code"), none, (.fields #[(V "xpath_indirect_adjacent_combinator" 3563), (V "GenericTranslator.xpath_indirect_adjacent_combinator" 3564), (V "/claim/cut.py" 3565), (I 1011 0), (I 3 0), (I 0 0), (I 0 0), (I 3 0), (R 1219), (B true), (I 276 0), (R 1220), N, (R 1221), (R 1222), (R 1223), (I 3569 0), (I 1011 0), (V "/claim/cut.py" 3570)]), #[]⟩
def a1225 : Obj := ⟨(T "function"), none, (.func (fd (kd (st 62) 29) (Str.ofString "GenericTranslator.xpath_indirect_adjacent_combinator") 3 [] N N N (V "cssselect.xpath" 3054) none (R 1224) N 0)), #[]⟩
def a1226 : Obj := ⟨(T "tuple"), none, (.seq #[] 0), #[]⟩
def a1227 : Obj := ⟨N, none, (.fields #[]), #[]⟩
def a1228 : Obj := ⟨(T "tuple"), none, (.seq #[(V "self" 3575), (V "right" 3576)] 0), #[]⟩
def a1229 : Obj := ⟨(T "tuple"), none, (.seq #[] 0), #[]⟩
def a1230 : Obj := ⟨N, none, (.func (fd (kd (st 62) 30) (Str.ofString "GenericTranslator.xpath_relation_descendant_combinator") 0 [] N N N N none N N 0)), #[]⟩
def a1231 : Obj := ⟨(T "code"), none, (.fields #[(V "xpath_relation_descendant_combinator" 3572), (V "GenericTranslator.xpath_relation_descendant_combinator" 3573), (V "/claim/cut.py" 3574), (I 1014 0), (I 2 0), (I 0 0), (I 0 0), (I 3 0), (R 1226), (B true), (I 276 0), (R 1227), N, (R 1228), (R 1229), (R 1230), (I 3577 0), (I 1014 0), (V "/claim/cut.py" 3578)]), #[]⟩
def a1232 : Obj := ⟨(T "function"), none, (.func (fd (kd (st 62) 30) (Str.ofString "GenericTranslator.xpath_relation_descendant_combinator") 3 [] N N N (V "cssselect.xpath" 3054) none (R 1231) N 0)), #[]⟩
def a1233 : Obj := ⟨(T "tuple"), none, (.seq #[] 0), #[]⟩
def a1234 : Obj := ⟨N, none, (.fields #[]), #[]⟩
def a1235 : Obj := ⟨(T "tuple"), none, (.seq #[(V "self" 3583), (V "right" 3584)] 0), #[]⟩
def a1236 : Obj := ⟨(T "tuple"), none, (.seq #[] 0), #[]⟩
def a1237 : Obj := ⟨N, none, (.func (fd (kd (st 62) 31) (Str.ofString "GenericTranslator.xpath_relation_child_combinator") 0 [] N N N N none N N 0)), #[]⟩
def a1238 : Obj := ⟨(T "code"), none, (.fields #[(V "xpath_relation_child_combinator" 3580), (V "GenericTranslator.xpath_relation_child_combinator" 3581), (V "/claim/cut.py" 3582), (I 1017 0), (I 2 0), (I 0 0), (I 0 0), (I 3 0), (R 1233), (B true), (I 276 0), (R 1234), N, (R 1235), (R 1236), (R 1237), (I 3585 0), (I 1017 0), (V "/claim/cut.py" 3586)]), #[]⟩
def a1239 : Obj := ⟨(T "function"), none, (.func (fd (kd (st 62) 31) (Str.ofString "GenericTranslator.xpath_relation_child_combinator") 3 [] N N N (V "cssselect.xpath" 3054) none (R 1238) N 0)), #[]⟩
def a1240 : Obj := ⟨(T "tuple"), none, (.seq #[] 0), #[]⟩
def a1241 : Obj := ⟨N, none, (.fields #[]), #[]⟩
def a1242 : Obj := ⟨(T "tuple"), none, (.seq #[(V "self" 3591), (V "right" 3592), (V "head" 3593), (V "sep" 3594), (V "tail" 3595)] 0), #[]⟩
def a1243 : Obj := ⟨(T "tuple"), none, (.seq #[] 0), #[]⟩
def a1244 : Obj := ⟨N, none, (.func (fd (kd (st 62) 32) (Str.ofString "GenericTranslator.xpath_relation_direct_adjacent_combinator") 0 [] N N N N none N N 0)), #[]⟩
def a1245 : Obj := ⟨(T "code"), none, (.fields #[(V "xpath_relation_direct_adjacent_combinator" 3588), (V "GenericTranslator.xpath_relation_direct_adjacent_combinator" 3589), (V "/claim/cut.py" 3590), (I 1020 0), (I 2 0), (I 0 0), (I 0 0), (I 3 0), (R 1240), (B true), (I 276 0), (R 1241), N, (R 1242), (R 1243), (R 1244), (I 3596 0), (I 1020 0), (V "/claim/cut.py" 3597)]), #[]⟩
def a1246 : Obj := ⟨(T "function"), none, (.func (fd (kd (st 62) 32) (Str.ofString "GenericTranslator.xpath_relation_direct_adjacent_combinator") 3 [] N N N (V "cssselect.xpath" 3054) none (R 1245) N 0)), #[]⟩
def a1247 : Obj := ⟨(T "tuple"), none, (.seq #[] 0), #[]⟩
def a1248 : Obj := ⟨N, none, (.fields #[]), #[]⟩
def a1249 : Obj := ⟨(T "tuple"), none, (.seq #[(V "self" 3602), (V "right" 3603)] 0), #[]⟩
def a1250 : Obj := ⟨(T "tuple"), none, (.seq #[] 0), #[]⟩
def a1251 : Obj := ⟨N, none, (.func (fd (kd (st 62) 33) (Str.ofString "GenericTranslator.xpath_relation_indirect_adjacent_combinator") 0 [] N N N N none N N 0)), #[]⟩
def a1252 : Obj := ⟨(T "code"), none, (.fields #[(V "xpath_relation_indirect_adjacent_combinator" 3599), (V "GenericTranslator.xpath_relation_indirect_adjacent_combinator" 3600), (V "/claim/cut.py" 3601), (I 1028 0), (I 2 0), (I 0 0), (I 0 0), (I 3 0), (R 1247), (B true), (I 276 0), (R 1248), N, (R 1249), (R 1250), (R 1251), (I 3604 0), (I 1028 0), (V "/claim/cut.py" 3605)]), #[]⟩
def a1253 : Obj := ⟨(T "function"), none, (.func (fd (kd (st 62) 33) (Str.ofString "GenericTranslator.xpath_relation_indirect_adjacent_combinator") 3 [] N N N (V "cssselect.xpath" 3054) none (R 1252) N 0)), #[]⟩
def a1254 : Obj := ⟨(T "tuple"), none, (.seq #[(B false), (B true)] 0), #[]⟩
def a1255 : Obj := ⟨(T "tuple"), none, (.seq #[] 0), #[]⟩
def a1256 : Obj := ⟨N, none, (.fields #[]), #[]⟩
def a1257 : Obj := ⟨(T "tuple"), none, (.seq #[(V "self" 3610), (V "xpath" 3611), (V "function" 3612), (V "last" 3613), (V "add_name_test" 3614), (V "a" 3615), (V "b" 3616), (V "ex" 3617), (V "b_min_1" 3618), (V "nodetest" 3619), (V "siblings_count" 3620), (V "expressions" 3621), (V "left" 3622), (V "b_neg" 3623)] 0), #[]⟩
def a1258 : Obj := ⟨(T "tuple"), none, (.seq #[(V "template" 3624)] 0), #[]⟩
def a1259 : Obj := ⟨N, none, (.func (fd (kd (st 62) 34) (Str.ofString "GenericTranslator.xpath_nth_child_function") 0 [] N N N N none N N 0)), #[]⟩
def a1260 : Obj := ⟨(T "code"), none, (.fields #[(V "xpath_nth_child_function" 3607), (V "GenericTranslator.xpath_nth_child_function" 3608), (V "/claim/cut.py" 3609), (I 1031 0), (I 5 0), (I 0 0), (I 0 0), (I 3 0), (R 1255), (B true), (I 276 0), (R 1256), N, (R 1257), (R 1258), (R 1259), (I 3625 0), (I 1031 0), (V "/claim/cut.py" 3626)]), #[]⟩
def a1261 : Obj := ⟨(T "function"), none, (.func (fd (kd (st 62) 34) (Str.ofString "GenericTranslator.xpath_nth_child_function") 3 [] (R 1254) N N (V "cssselect.xpath" 3054) none (R 1260) N 0)), #[]⟩
def a1262 : Obj := ⟨(T "tuple"), none, (.seq #[] 0), #[]⟩
def a1263 : Obj := ⟨N, none, (.fields #[]), #[]⟩
def a1264 : Obj := ⟨(T "tuple"), none, (.seq #[(V "self" 3631), (V "xpath" 3632), (V "function" 3633)] 0), #[]⟩
def a1265 : Obj := ⟨(T "tuple"), none, (.seq #[] 0), #[]⟩
def a1266 : Obj := ⟨N, none, (.func (fd (kd (st 62) 35) (Str.ofString "GenericTranslator.xpath_nth_last_child_function") 0 [] N N N N none N N 0)), #[]⟩
def a1267 : Obj := ⟨(T "code"), none, (.fields #[(V "xpath_nth_last_child_function" 3628), (V "GenericTranslator.xpath_nth_last_child_function" 3629), (V "/claim/cut.py" 3630), (I 1064 0), (I 3 0), (I 0 0), (I 0 0), (I 3 0), (R 1262), (B true), (I 276 0), (R 1263), N, (R 1264), (R 1265), (R 1266), (I 3634 0), (I 1064 0), (V "/claim/cut.py" 3635)]), #[]⟩
def a1268 : Obj := ⟨(T "function"), none, (.func (fd (kd (st 62) 35) (Str.ofString "GenericTranslator.xpath_nth_last_child_function") 3 [] N N N (V "cssselect.xpath" 3054) none (R 1267) N 0)), #[]⟩
def a1269 : Obj := ⟨(T "tuple"), none, (.seq #[] 0), #[]⟩
def a1270 : Obj := ⟨N, none, (.fields #[]), #[]⟩
def a1271 : Obj := ⟨(T "tuple"), none, (.seq #[(V "xpath" 3640), (V "pseudo" 3641), (V "element" 3642), (V "css_element" 3643)] 0), #[]⟩
def a1272 : Obj := ⟨(T "tuple"), none, (.seq #[] 0), #[]⟩
def a1273 : Obj := ⟨N, none, (.func (fd (kd (st 62) 36) (Str.ofString "GenericTranslator._check_of_type_element") 0 [] N N N N none N N 0)), #[]⟩
def a1274 : Obj := ⟨(T "code"), none, (.fields #[(V "_check_of_type_element" 3637), (V "GenericTranslator._check_of_type_element" 3638), (V "/claim/cut.py" 3639), (I 1067 0), (I 2 0), (I 0 0), (I 0 0), (I 3 0), (R 1269), (B true), (I 276 0), (R 1270), N, (R 1271), (R 1272), (R 1273), (I 3644 0), (I 1067 0), (V "/claim/cut.py" 3645)]), #[]⟩
def a1275 : Obj := ⟨(T "function"), none, (.func (fd (kd (st 62) 36) (Str.ofString "GenericTranslator._check_of_type_element") 3 [] N N N (V "cssselect.xpath" 3054) (some 1278) (R 1274) N 0)), #[]⟩
def a1276 (P : Params) : Obj := ⟨(T "dict"), none, (.dict #[E P "__module__" 3647 (V "cssselect.xpath" 3054), E P "__name__" 3650 (V "_check_of_type_element" 3649), E P "__qualname__" 3653 (V "GenericTranslator._check_of_type_element" 3652), E P "__doc__" 3655 N, E P "__annotations__" 3657 (R 1278)] 5), #[]⟩
def a1277 : Obj := ⟨(T "staticmethod"), (some 1276), (.fields #[(R 1275), (B false)]), #[]⟩
def a1278 : Obj := ⟨(T "dict"), none, (.dict #[] 0), #[]⟩
def a1279 : Obj := ⟨(T "tuple"), none, (.seq #[] 0), #[]⟩
def a1280 : Obj := ⟨N, none, (.fields #[]), #[]⟩
def a1281 : Obj := ⟨(T "tuple"), none, (.seq #[(V "self" 3662), (V "xpath" 3663), (V "function" 3664)] 0), #[]⟩
def a1282 : Obj := ⟨(T "tuple"), none, (.seq #[] 0), #[]⟩
def a1283 : Obj := ⟨N, none, (.func (fd (kd (st 62) 37) (Str.ofString "GenericTranslator.xpath_nth_of_type_function") 0 [] N N N N none N N 0)), #[]⟩
def a1284 : Obj := ⟨(T "code"), none, (.fields #[(V "xpath_nth_of_type_function" 3659), (V "GenericTranslator.xpath_nth_of_type_function" 3660), (V "/claim/cut.py" 3661), (I 1074 0), (I 3 0), (I 0 0), (I 0 0), (I 3 0), (R 1279), (B true), (I 276 0), (R 1280), N, (R 1281), (R 1282), (R 1283), (I 3665 0), (I 1074 0), (V "/claim/cut.py" 3666)]), #[]⟩
def a1285 : Obj := ⟨(T "function"), none, (.func (fd (kd (st 62) 37) (Str.ofString "GenericTranslator.xpath_nth_of_type_function") 3 [] N N N (V "cssselect.xpath" 3054) none (R 1284) N 0)), #[]⟩
def a1286 : Obj := ⟨(T "tuple"), none, (.seq #[] 0), #[]⟩
def a1287 : Obj := ⟨N, none, (.fields #[]), #[]⟩
def a1288 : Obj := ⟨(T "tuple"), none, (.seq #[(V "self" 3671), (V "xpath" 3672), (V "function" 3673)] 0), #[]⟩
def a1289 : Obj := ⟨(T "tuple"), none, (.seq #[] 0), #[]⟩
def a1290 : Obj := ⟨N, none, (.func (fd (kd (st 62) 38) (Str.ofString "GenericTranslator.xpath_nth_last_of_type_function") 0 [] N N N N none N N 0)), #[]⟩
def a1291 : Obj := ⟨(T "code"), none, (.fields #[(V "xpath_nth_last_of_type_function" 3668), (V "GenericTranslator.xpath_nth_last_of_type_function" 3669), (V "/claim/cut.py" 3670), (I 1078 0), (I 3 0), (I 0 0), (I 0 0), (I 3 0), (R 1286), (B true), (I 276 0), (R 1287), N, (R 1288), (R 1289), (R 1290), (I 3674 0), (I 1078 0), (V "/claim/cut.py" 3675)]), #[]⟩
def a1292 : Obj := ⟨(T "function"), none, (.func (fd (kd (st 62) 38) (Str.ofString "GenericTranslator.xpath_nth_last_of_type_function") 3 [] N N N (V "cssselect.xpath" 3054) none (R 1291) N 0)), #[]⟩
def a1293 : Obj := ⟨(T "tuple"), none, (.seq #[] 0), #[]⟩
def a1294 : Obj := ⟨N, none, (.fields #[]), #[]⟩
def a1295 : Obj := ⟨(T "tuple"), none, (.seq #[(V "self" 3680), (V "xpath" 3681), (V "function" 3682), (V "value" 3683)] 0), #[]⟩
def a1296 : Obj := ⟨(T "tuple"), none, (.seq #[] 0), #[]⟩
def a1297 : Obj := ⟨N, none, (.func (fd (kd (st 62) 39) (Str.ofString "GenericTranslator.xpath_contains_function") 0 [] N N N N none N N 0)), #[]⟩
def a1298 : Obj := ⟨(T "code"), none, (.fields #[(V "xpath_contains_function" 3677), (V "GenericTranslator.xpath_contains_function" 3678), (V "/claim/cut.py" 3679), (I 1082 0), (I 3 0), (I 0 0), (I 0 0), (I 3 0), (R 1293), (B true), (I 276 0), (R 1294), N, (R 1295), (R 1296), (R 1297), (I 3684 0), (I 1082 0), (V "/claim/cut.py" 3685)]), #[]⟩
def a1299 : Obj := ⟨(T "function"), none, (.func (fd (kd (st 62) 39) (Str.ofString "GenericTranslator.xpath_contains_function") 3 [] N N N (V "cssselect.xpath" 3054) none (R 1298) N 0)), #[]⟩
def a1300 : Obj := ⟨(T "tuple"), none, (.seq #[] 0), #[]⟩
def a1301 : Obj := ⟨N, none, (.fields #[]), #[]⟩
def a1302 : Obj := ⟨(T "tuple"), none, (.seq #[(V "self" 3690), (V "xpath" 3691), (V "function" 3692), (V "value" 3693)] 0), #[]⟩
def a1303 : Obj := ⟨(T "tuple"), none, (.seq #[] 0), #[]⟩
def a1304 : Obj := ⟨N, none, (.func (fd (kd (st 62) 40) (Str.ofString "GenericTranslator.xpath_lang_function") 0 [] N N N N none N N 0)), #[]⟩
def a1305 : Obj := ⟨(T "code"), none, (.fields #[(V "xpath_lang_function" 3687), (V "GenericTranslator.xpath_lang_function" 3688), (V "/claim/cut.py" 3689), (I 1088 0), (I 3 0), (I 0 0), (I 0 0), (I 3 0), (R 1300), (B true), (I 276 0), (R 1301), N, (R 1302), (R 1303), (R 1304), (I 3694 0), (I 1088 0), (V "/claim/cut.py" 3695)]), #[]⟩
def a1306 : Obj := ⟨(T "function"), none, (.func (fd (kd (st 62) 40) (Str.ofString "GenericTranslator.xpath_lang_function") 3 [] N N N (V "cssselect.xpath" 3054) none (R 1305) N 0)), #[]⟩
def a1307 : Obj := ⟨(T "tuple"), none, (.seq #[] 0), #[]⟩
def a1308 : Obj := ⟨N, none, (.fields #[]), #[]⟩
def a1309 : Obj := ⟨(T "tuple"), none, (.seq #[(V "self" 3700), (V "xpath" 3701)] 0), #[]⟩
def a1310 : Obj := ⟨(T "tuple"), none, (.seq #[] 0), #[]⟩
def a1311 : Obj := ⟨N, none, (.func (fd (kd (st 62) 41) (Str.ofString "GenericTranslator.xpath_root_pseudo") 0 [] N N N N none N N 0)), #[]⟩
def a1312 : Obj := ⟨(T "code"), none, (.fields #[(V "xpath_root_pseudo" 3697), (V "GenericTranslator.xpath_root_pseudo" 3698), (V "/claim/cut.py" 3699), (I 1094 0), (I 2 0), (I 0 0), (I 0 0), (I 3 0), (R 1307), (B true), (I 276 0), (R 1308), N, (R 1309), (R 1310), (R 1311), (I 3702 0), (I 1094 0), (V "/claim/cut.py" 3703)]), #[]⟩
def a1313 : Obj := ⟨(T "function"), none, (.func (fd (kd (st 62) 41) (Str.ofString "GenericTranslator.xpath_root_pseudo") 3 [] N N N (V "cssselect.xpath" 3054) none (R 1312) N 0)), #[]⟩
def a1314 : Obj := ⟨(T "tuple"), none, (.seq #[] 0), #[]⟩
def a1315 : Obj := ⟨N, none, (.fields #[]), #[]⟩
def a1316 : Obj := ⟨(T "tuple"), none, (.seq #[(V "self" 3708), (V "xpath" 3709)] 0), #[]⟩
def a1317 : Obj := ⟨(T "tuple"), none, (.seq #[] 0), #[]⟩
def a1318 : Obj := ⟨N, none, (.func (fd (kd (st 62) 42) (Str.ofString "GenericTranslator.xpath_scope_pseudo") 0 [] N N N N none N N 0)), #[]⟩
def a1319 : Obj := ⟨(T "code"), none, (.fields #[(V "xpath_scope_pseudo" 3705), (V "GenericTranslator.xpath_scope_pseudo" 3706), (V "/claim/cut.py" 3707), (I 1097 0), (I 2 0), (I 0 0), (I 0 0), (I 3 0), (R 1314), (B true), (I 276 0), (R 1315), N, (R 1316), (R 1317), (R 1318), (I 3710 0), (I 1097 0), (V "/claim/cut.py" 3711)]), #[]⟩
def a1320 : Obj := ⟨(T "function"), none, (.func (fd (kd (st 62) 42) (Str.ofString "GenericTranslator.xpath_scope_pseudo") 3 [] N N N (V "cssselect.xpath" 3054) none (R 1319) N 0)), #[]⟩
def a1321 : Obj := ⟨(T "tuple"), none, (.seq #[] 0), #[]⟩
def a1322 : Obj := ⟨N, none, (.fields #[]), #[]⟩
def a1323 : Obj := ⟨(T "tuple"), none, (.seq #[(V "self" 3716), (V "xpath" 3717)] 0), #[]⟩
def a1324 : Obj := ⟨(T "tuple"), none, (.seq #[] 0), #[]⟩
def a1325 : Obj := ⟨N, none, (.func (fd (kd (st 62) 43) (Str.ofString "GenericTranslator.xpath_first_child_pseudo") 0 [] N N N N none N N 0)), #[]⟩
def a1326 : Obj := ⟨(T "code"), none, (.fields #[(V "xpath_first_child_pseudo" 3713), (V "GenericTranslator.xpath_first_child_pseudo" 3714), (V "/claim/cut.py" 3715), (I 1101 0), (I 2 0), (I 0 0), (I 0 0), (I 3 0), (R 1321), (B true), (I 276 0), (R 1322), N, (R 1323), (R 1324), (R 1325), (I 3718 0), (I 1101 0), (V "/claim/cut.py" 3719)]), #[]⟩
def a1327 : Obj := ⟨(T "function"), none, (.func (fd (kd (st 62) 43) (Str.ofString "GenericTranslator.xpath_first_child_pseudo") 3 [] N N N (V "cssselect.xpath" 3054) none (R 1326) N 0)), #[]⟩
def a1328 : Obj := ⟨(T "tuple"), none, (.seq #[] 0), #[]⟩
def a1329 : Obj := ⟨N, none, (.fields #[]), #[]⟩
def a1330 : Obj := ⟨(T "tuple"), none, (.seq #[(V "self" 3724), (V "xpath" 3725)] 0), #[]⟩
def a1331 : Obj := ⟨(T "tuple"), none, (.seq #[] 0), #[]⟩
def a1332 : Obj := ⟨N, none, (.func (fd (kd (st 62) 44) (Str.ofString "GenericTranslator.xpath_last_child_pseudo") 0 [] N N N N none N N 0)), #[]⟩
def a1333 : Obj := ⟨(T "code"), none, (.fields #[(V "xpath_last_child_pseudo" 3721), (V "GenericTranslator.xpath_last_child_pseudo" 3722), (V "/claim/cut.py" 3723), (I 1104 0), (I 2 0), (I 0 0), (I 0 0), (I 3 0), (R 1328), (B true), (I 276 0), (R 1329), N, (R 1330), (R 1331), (R 1332), (I 3726 0), (I 1104 0), (V "/claim/cut.py" 3727)]), #[]⟩
def a1334 : Obj := ⟨(T "function"), none, (.func (fd (kd (st 62) 44) (Str.ofString "GenericTranslator.xpath_last_child_pseudo") 3 [] N N N (V "cssselect.xpath" 3054) none (R 1333) N 0)), #[]⟩
def a1335 : Obj := ⟨(T "tuple"), none, (.seq #[] 0), #[]⟩
def a1336 : Obj := ⟨N, none, (.fields #[]), #[]⟩
def a1337 : Obj := ⟨(T "tuple"), none, (.seq #[(V "self" 3732), (V "xpath" 3733)] 0), #[]⟩
def a1338 : Obj := ⟨(T "tuple"), none, (.seq #[] 0), #[]⟩
def a1339 : Obj := ⟨N, none, (.func (fd (kd (st 62) 45) (Str.ofString "GenericTranslator.xpath_first_of_type_pseudo") 0 [] N N N N none N N 0)), #[]⟩
def a1340 : Obj := ⟨(T "code"), none, (.fields #[(V "xpath_first_of_type_pseudo" 3729), (V "GenericTranslator.xpath_first_of_type_pseudo" 3730), (V "/claim/cut.py" 3731), (I 1107 0), (I 2 0), (I 0 0), (I 0 0), (I 3 0), (R 1335), (B true), (I 276 0), (R 1336), N, (R 1337), (R 1338), (R 1339), (I 3734 0), (I 1107 0), (V "/claim/cut.py" 3735)]), #[]⟩
def a1341 : Obj := ⟨(T "function"), none, (.func (fd (kd (st 62) 45) (Str.ofString "GenericTranslator.xpath_first_of_type_pseudo") 3 [] N N N (V "cssselect.xpath" 3054) none (R 1340) N 0)), #[]⟩
def a1342 : Obj := ⟨(T "tuple"), none, (.seq #[] 0), #[]⟩
def a1343 : Obj := ⟨N, none, (.fields #[]), #[]⟩
def a1344 : Obj := ⟨(T "tuple"), none, (.seq #[(V "self" 3740), (V "xpath" 3741)] 0), #[]⟩
def a1345 : Obj := ⟨(T "tuple"), none, (.seq #[] 0), #[]⟩
def a1346 : Obj := ⟨N, none, (.func (fd (kd (st 62) 46) (Str.ofString "GenericTranslator.xpath_last_of_type_pseudo") 0 [] N N N N none N N 0)), #[]⟩
def a1347 : Obj := ⟨(T "code"), none, (.fields #[(V "xpath_last_of_type_pseudo" 3737), (V "GenericTranslator.xpath_last_of_type_pseudo" 3738), (V "/claim/cut.py" 3739), (I 1111 0), (I 2 0), (I 0 0), (I 0 0), (I 3 0), (R 1342), (B true), (I 276 0), (R 1343), N, (R 1344), (R 1345), (R 1346), (I 3742 0), (I 1111 0), (V "/claim/cut.py" 3743)]), #[]⟩
def a1348 : Obj := ⟨(T "function"), none, (.func (fd (kd (st 62) 46) (Str.ofString "GenericTranslator.xpath_last_of_type_pseudo") 3 [] N N N (V "cssselect.xpath" 3054) none (R 1347) N 0)), #[]⟩
def a1349 : Obj := ⟨(T "tuple"), none, (.seq #[] 0), #[]⟩
def a1350 : Obj := ⟨N, none, (.fields #[]), #[]⟩
def a1351 : Obj := ⟨(T "tuple"), none, (.seq #[(V "self" 3748), (V "xpath" 3749)] 0), #[]⟩
def a1352 : Obj := ⟨(T "tuple"), none, (.seq #[] 0), #[]⟩
def a1353 : Obj := ⟨N, none, (.func (fd (kd (st 62) 47) (Str.ofString "GenericTranslator.xpath_only_child_pseudo") 0 [] N N N N none N N 0)), #[]⟩
def a1354 : Obj := ⟨(T "code"), none, (.fields #[(V "xpath_only_child_pseudo" 3745), (V "GenericTranslator.xpath_only_child_pseudo" 3746), (V "/claim/cut.py" 3747), (I 1115 0), (I 2 0), (I 0 0), (I 0 0), (I 3 0), (R 1349), (B true), (I 276 0), (R 1350), N, (R 1351), (R 1352), (R 1353), (I 3750 0), (I 1115 0), (V "/claim/cut.py" 3751)]), #[]⟩
def a1355 : Obj := ⟨(T "function"), none, (.func (fd (kd (st 62) 47) (Str.ofString "GenericTranslator.xpath_only_child_pseudo") 3 [] N N N (V "cssselect.xpath" 3054) none (R 1354) N 0)), #[]⟩
def a1356 : Obj := ⟨(T "tuple"), none, (.seq #[] 0), #[]⟩
def a1357 : Obj := ⟨N, none, (.fields #[]), #[]⟩
def a1358 : Obj := ⟨(T "tuple"), none, (.seq #[(V "self" 3756), (V "xpath" 3757)] 0), #[]⟩
def a1359 : Obj := ⟨(T "tuple"), none, (.seq #[] 0), #[]⟩
def a1360 : Obj := ⟨N, none, (.func (fd (kd (st 62) 48) (Str.ofString "GenericTranslator.xpath_only_of_type_pseudo") 0 [] N N N N none N N 0)), #[]⟩
def a1361 : Obj := ⟨(T "code"), none, (.fields #[(V "xpath_only_of_type_pseudo" 3753), (V "GenericTranslator.xpath_only_of_type_pseudo" 3754), (V "/claim/cut.py" 3755), (I 1118 0), (I 2 0), (I 0 0), (I 0 0), (I 3 0), (R 1356), (B true), (I 276 0), (R 1357), N, (R 1358), (R 1359), (R 1360), (I 3758 0), (I 1118 0), (V "/claim/cut.py" 3759)]), #[]⟩
def a1362 : Obj := ⟨(T "function"), none, (.func (fd (kd (st 62) 48) (Str.ofString "GenericTranslator.xpath_only_of_type_pseudo") 3 [] N N N (V "cssselect.xpath" 3054) none (R 1361) N 0)), #[]⟩
def a1363 : Obj := ⟨(T "tuple"), none, (.seq #[] 0), #[]⟩
def a1364 : Obj := ⟨N, none, (.fields #[]), #[]⟩
def a1365 : Obj := ⟨(T "tuple"), none, (.seq #[(V "self" 3764), (V "xpath" 3765)] 0), #[]⟩
def a1366 : Obj := ⟨(T "tuple"), none, (.seq #[] 0), #[]⟩
def a1367 : Obj := ⟨N, none, (.func (fd (kd (st 62) 49) (Str.ofString "GenericTranslator.xpath_empty_pseudo") 0 [] N N N N none N N 0)), #[]⟩
def a1368 : Obj := ⟨(T "code"), none, (.fields #[(V "xpath_empty_pseudo" 3761), (V "GenericTranslator.xpath_empty_pseudo" 3762), (V "/claim/cut.py" 3763), (I 1122 0), (I 2 0), (I 0 0), (I 0 0), (I 3 0), (R 1363), (B true), (I 276 0), (R 1364), N, (R 1365), (R 1366), (R 1367), (I 3766 0), (I 1122 0), (V "/claim/cut.py" 3767)]), #[]⟩
def a1369 : Obj := ⟨(T "function"), none, (.func (fd (kd (st 62) 49) (Str.ofString "GenericTranslator.xpath_empty_pseudo") 3 [] N N N (V "cssselect.xpath" 3054) none (R 1368) N 0)), #[]⟩
def a1370 : Obj := ⟨(T "tuple"), none, (.seq #[] 0), #[]⟩
def a1371 : Obj := ⟨N, none, (.fields #[]), #[]⟩
def a1372 : Obj := ⟨(T "tuple"), none, (.seq #[(V "self" 3772), (V "xpath" 3773)] 0), #[]⟩
def a1373 : Obj := ⟨(T "tuple"), none, (.seq #[] 0), #[]⟩
def a1374 : Obj := ⟨N, none, (.func (fd (kd (st 62) 50) (Str.ofString "GenericTranslator.pseudo_never_matches") 0 [] N N N N none N N 0)), #[]⟩
def a1375 : Obj := ⟨(T "code"), none, (.fields #[(V "pseudo_never_matches" 3769), (V "GenericTranslator.pseudo_never_matches" 3770), (V "/claim/cut.py" 3771), (I 1125 0), (I 2 0), (I 0 0), (I 0 0), (I 3 0), (R 1370), (B true), (I 276 0), (R 1371), N, (R 1372), (R 1373), (R 1374), (I 3774 0), (I 1125 0), (V "/claim/cut.py" 3775)]), #[]⟩
def a1376 : Obj := ⟨(T "function"), none, (.func (fd (kd (st 62) 50) (Str.ofString "GenericTranslator.pseudo_never_matches") 3 [] N N N (V "cssselect.xpath" 3054) none (R 1375) N 0)), #[]⟩
def a1377 : Obj := ⟨(T "tuple"), none, (.seq #[] 0), #[]⟩
def a1378 : Obj := ⟨N, none, (.fields #[]), #[]⟩
def a1379 : Obj := ⟨(T "tuple"), none, (.seq #[(V "self" 3789), (V "xpath" 3790), (V "name" 3791), (V "value" 3792)] 0), #[]⟩
def a1380 : Obj := ⟨(T "tuple"), none, (.seq #[] 0), #[]⟩
def a1381 : Obj := ⟨N, none, (.func (fd (kd (st 62) 60) (Str.ofString "GenericTranslator.xpath_attrib_exists") 0 [] N N N N none N N 0)), #[]⟩
def a1382 : Obj := ⟨(T "code"), none, (.fields #[(V "xpath_attrib_exists" 3786), (V "GenericTranslator.xpath_attrib_exists" 3787), (V "/claim/cut.py" 3788), (I 1137 0), (I 4 0), (I 0 0), (I 0 0), (I 3 0), (R 1377), (B true), (I 276 0), (R 1378), N, (R 1379), (R 1380), (R 1381), (I 3793 0), (I 1137 0), (V "/claim/cut.py" 3794)]), #[]⟩
def a1383 : Obj := ⟨(T "function"), none, (.func (fd (kd (st 62) 60) (Str.ofString "GenericTranslator.xpath_attrib_exists") 3 [] N N N (V "cssselect.xpath" 3054) none (R 1382) N 0)), #[]⟩
def a1384 : Obj := ⟨(T "tuple"), none, (.seq #[] 0), #[]⟩
def a1385 : Obj := ⟨N, none, (.fields #[]), #[]⟩
def a1386 : Obj := ⟨(T "tuple"), none, (.seq #[(V "self" 3799), (V "xpath" 3800), (V "name" 3801), (V "value" 3802)] 0), #[]⟩
def a1387 : Obj := ⟨(T "tuple"), none, (.seq #[] 0), #[]⟩
def a1388 : Obj := ⟨N, none, (.func (fd (kd (st 62) 61) (Str.ofString "GenericTranslator.xpath_attrib_equals") 0 [] N N N N none N N 0)), #[]⟩
def a1389 : Obj := ⟨(T "code"), none, (.fields #[(V "xpath_attrib_equals" 3796), (V "GenericTranslator.xpath_attrib_equals" 3797), (V "/claim/cut.py" 3798), (I 1142 0), (I 4 0), (I 0 0), (I 0 0), (I 3 0), (R 1384), (B true), (I 276 0), (R 1385), N, (R 1386), (R 1387), (R 1388), (I 3803 0), (I 1142 0), (V "/claim/cut.py" 3804)]), #[]⟩
def a1390 : Obj := ⟨(T "function"), none, (.func (fd (kd (st 62) 61) (Str.ofString "GenericTranslator.xpath_attrib_equals") 3 [] N N N (V "cssselect.xpath" 3054) none (R 1389) N 0)), #[]⟩
def a1391 : Obj := ⟨(T "tuple"), none, (.seq #[] 0), #[]⟩
def a1392 : Obj := ⟨N, none, (.fields #[]), #[]⟩
def a1393 : Obj := ⟨(T "tuple"), none, (.seq #[(V "self" 3809), (V "xpath" 3810), (V "name" 3811), (V "value" 3812)] 0), #[]⟩
def a1394 : Obj := ⟨(T "tuple"), none, (.seq #[] 0), #[]⟩
def a1395 : Obj := ⟨N, none, (.func (fd (kd (st 62) 62) (Str.ofString "GenericTranslator.xpath_attrib_different") 0 [] N N N N none N N 0)), #[]⟩
def a1396 : Obj := ⟨(T "code"), none, (.fields #[(V "xpath_attrib_different" 3806), (V "GenericTranslator.xpath_attrib_different" 3807), (V "/claim/cut.py" 3808), (I 1147 0), (I 4 0), (I 0 0), (I 0 0), (I 3 0), (R 1391), (B true), (I 276 0), (R 1392), N, (R 1393), (R 1394), (R 1395), (I 3813 0), (I 1147 0), (V "/claim/cut.py" 3814)]), #[]⟩
def a1397 : Obj := ⟨(T "function"), none, (.func (fd (kd (st 62) 62) (Str.ofString "GenericTranslator.xpath_attrib_different") 3 [] N N N (V "cssselect.xpath" 3054) none (R 1396) N 0)), #[]⟩
def a1398 : Obj := ⟨(T "tuple"), none, (.seq #[] 0), #[]⟩
def a1399 : Obj := ⟨N, none, (.fields #[]), #[]⟩
def a1400 : Obj := ⟨(T "tuple"), none, (.seq #[(V "self" 3819), (V "xpath" 3820), (V "name" 3821), (V "value" 3822), (V "arg" 3823)] 0), #[]⟩
def a1401 : Obj := ⟨(T "tuple"), none, (.seq #[] 0), #[]⟩
def a1402 : Obj := ⟨N, none, (.func (fd (kd (st 62) 63) (Str.ofString "GenericTranslator.xpath_attrib_includes") 0 [] N N N N none N N 0)), #[]⟩
def a1403 : Obj := ⟨(T "code"), none, (.fields #[(V "xpath_attrib_includes" 3816), (V "GenericTranslator.xpath_attrib_includes" 3817), (V "/claim/cut.py" 3818), (I 1155 0), (I 4 0), (I 0 0), (I 0 0), (I 3 0), (R 1398), (B true), (I 276 0), (R 1399), N, (R 1400), (R 1401), (R 1402), (I 3824 0), (I 1155 0), (V "/claim/cut.py" 3825)]), #[]⟩
def a1404 : Obj := ⟨(T "function"), none, (.func (fd (kd (st 62) 63) (Str.ofString "GenericTranslator.xpath_attrib_includes") 3 [] N N N (V "cssselect.xpath" 3054) none (R 1403) N 0)), #[]⟩
def a1405 : Obj := ⟨(T "tuple"), none, (.seq #[] 0), #[]⟩
def a1406 : Obj := ⟨N, none, (.fields #[]), #[]⟩
def a1407 : Obj := ⟨(T "tuple"), none, (.seq #[(V "self" 3830), (V "xpath" 3831), (V "name" 3832), (V "value" 3833), (V "arg" 3834), (V "arg_dash" 3835)] 0), #[]⟩
def a1408 : Obj := ⟨(T "tuple"), none, (.seq #[] 0), #[]⟩
def a1409 : Obj := ⟨N, none, (.func (fd (kd (st 62) 64) (Str.ofString "GenericTranslator.xpath_attrib_dashmatch") 0 [] N N N N none N N 0)), #[]⟩
def a1410 : Obj := ⟨(T "code"), none, (.fields #[(V "xpath_attrib_dashmatch" 3827), (V "GenericTranslator.xpath_attrib_dashmatch" 3828), (V "/claim/cut.py" 3829), (I 1163 0), (I 4 0), (I 0 0), (I 0 0), (I 3 0), (R 1405), (B true), (I 276 0), (R 1406), N, (R 1407), (R 1408), (R 1409), (I 3836 0), (I 1163 0), (V "/claim/cut.py" 3837)]), #[]⟩
def a1411 : Obj := ⟨(T "function"), none, (.func (fd (kd (st 62) 64) (Str.ofString "GenericTranslator.xpath_attrib_dashmatch") 3 [] N N N (V "cssselect.xpath" 3054) none (R 1410) N 0)), #[]⟩
def a1412 : Obj := ⟨(T "tuple"), none, (.seq #[] 0), #[]⟩
def a1413 : Obj := ⟨N, none, (.fields #[]), #[]⟩
def a1414 : Obj := ⟨(T "tuple"), none, (.seq #[(V "self" 3842), (V "xpath" 3843), (V "name" 3844), (V "value" 3845)] 0), #[]⟩
def a1415 : Obj := ⟨(T "tuple"), none, (.seq #[] 0), #[]⟩
def a1416 : Obj := ⟨N, none, (.func (fd (kd (st 62) 65) (Str.ofString "GenericTranslator.xpath_attrib_prefixmatch") 0 [] N N N N none N N 0)), #[]⟩
def a1417 : Obj := ⟨(T "code"), none, (.fields #[(V "xpath_attrib_prefixmatch" 3839), (V "GenericTranslator.xpath_attrib_prefixmatch" 3840), (V "/claim/cut.py" 3841), (I 1170 0), (I 4 0), (I 0 0), (I 0 0), (I 3 0), (R 1412), (B true), (I 276 0), (R 1413), N, (R 1414), (R 1415), (R 1416), (I 3846 0), (I 1170 0), (V "/claim/cut.py" 3847)]), #[]⟩
def a1418 : Obj := ⟨(T "function"), none, (.func (fd (kd (st 62) 65) (Str.ofString "GenericTranslator.xpath_attrib_prefixmatch") 3 [] N N N (V "cssselect.xpath" 3054) none (R 1417) N 0)), #[]⟩
def a1419 : Obj := ⟨(T "tuple"), none, (.seq #[] 0), #[]⟩
def a1420 : Obj := ⟨N, none, (.fields #[]), #[]⟩
def a1421 : Obj := ⟨(T "tuple"), none, (.seq #[(V "self" 3852), (V "xpath" 3853), (V "name" 3854), (V "value" 3855)] 0), #[]⟩
def a1422 : Obj := ⟨(T "tuple"), none, (.seq #[] 0), #[]⟩
def a1423 : Obj := ⟨N, none, (.func (fd (kd (st 62) 66) (Str.ofString "GenericTranslator.xpath_attrib_suffixmatch") 0 [] N N N N none N N 0)), #[]⟩
def a1424 : Obj := ⟨(T "code"), none, (.fields #[(V "xpath_attrib_suffixmatch" 3849), (V "GenericTranslator.xpath_attrib_suffixmatch" 3850), (V "/claim/cut.py" 3851), (I 1177 0), (I 4 0), (I 0 0), (I 0 0), (I 3 0), (R 1419), (B true), (I 276 0), (R 1420), N, (R 1421), (R 1422), (R 1423), (I 3856 0), (I 1177 0), (V "/claim/cut.py" 3857)]), #[]⟩
def a1425 : Obj := ⟨(T "function"), none, (.func (fd (kd (st 62) 66) (Str.ofString "GenericTranslator.xpath_attrib_suffixmatch") 3 [] N N N (V "cssselect.xpath" 3054) none (R 1424) N 0)), #[]⟩
def a1426 : Obj := ⟨(T "tuple"), none, (.seq #[] 0), #[]⟩
def a1427 : Obj := ⟨N, none, (.fields #[]), #[]⟩
def a1428 : Obj := ⟨(T "tuple"), none, (.seq #[(V "self" 3862), (V "xpath" 3863), (V "name" 3864), (V "value" 3865)] 0), #[]⟩
def a1429 : Obj := ⟨(T "tuple"), none, (.seq #[] 0), #[]⟩
def a1430 : Obj := ⟨N, none, (.func (fd (kd (st 62) 67) (Str.ofString "GenericTranslator.xpath_attrib_substringmatch") 0 [] N N N N none N N 0)), #[]⟩
def a1431 : Obj := ⟨(T "code"), none, (.fields #[(V "xpath_attrib_substringmatch" 3859), (V "GenericTranslator.xpath_attrib_substringmatch" 3860), (V "/claim/cut.py" 3861), (I 1184 0), (I 4 0), (I 0 0), (I 0 0), (I 3 0), (R 1426), (B true), (I 276 0), (R 1427), N, (R 1428), (R 1429), (R 1430), (I 3866 0), (I 1184 0), (V "/claim/cut.py" 3867)]), #[]⟩
def a1432 : Obj := ⟨(T "function"), none, (.func (fd (kd (st 62) 67) (Str.ofString "GenericTranslator.xpath_attrib_substringmatch") 3 [] N N N (V "cssselect.xpath" 3054) none (R 1431) N 0)), #[]⟩
def a1433 : Obj := ⟨(T "tuple"), none, (.seq #[] 0), #[]⟩
def a1434 (P : Params) : Obj := ⟨(T "dict"), none, (.dict #[E P "__module__" 3274 (V "cssselect.xpath" 3054), E P "__firstlineno__" 3278 (I 831 3277), E P "combinator_mapping" 3291 (R 1066), E P "_reverse_combinator_mapping" 3304 (R 1067), E P "attribute_operator_mapping" 3329 (R 1068), E P "id_attribute" 3331 (V "id" 3330), E P "lang_attribute" 3333 (V "xml:lang" 3332), E P "lower_case_element_names" 3334 (B false), E P "lower_case_attribute_names" 3335 (B false), E P "lower_case_attribute_values" 3336 (B false), E P "css_to_xpath" 3348 (R 1076), E P "selector_to_xpath" 3361 (R 1084), E P "xpath_pseudo_element" 3370 (R 1091), E P "xpath_literal" 3388 (R 1098), E P "xpath" 3398 (R 1106), E P "xpath_combinedselector" 3408 (R 1113), E P "xpath_negation" 3418 (R 1120), E P "_xpath_match_condition" 3430 (R 1127), E P "xpath_relation" 3443 (R 1134), E P "xpath_matching" 3451 (R 1141), E P "xpath_specificityadjustment" 3459 (R 1148), E P "_xpath_add_selector_list_condition" 3471 (R 1155), E P "xpath_function" 3481 (R 1162), E P "xpath_pseudo" 3491 (R 1169), E P "xpath_attrib" 3505 (R 1176), E P "xpath_class" 3514 (R 1183), E P "xpath_hash" 3523 (R 1190), E P "xpath_element" 3534 (R 1197), E P "xpath_descendant_combinator" 3543 (R 1204), E P "xpath_child_combinator" 3552 (R 1211), E P "xpath_direct_adjacent_combinator" 3562 (R 1218), E P "xpath_indirect_adjacent_combinator" 3571 (R 1225), E P "xpath_relation_descendant_combinator" 3579 (R 1232), E P "xpath_relation_child_combinator" 3587 (R 1239), E P "xpath_relation_direct_adjacent_combinator" 3598 (R 1246), E P "xpath_relation_indirect_adjacent_combinator" 3606 (R 1253), E P "xpath_nth_child_function" 3627 (R 1261), E P "xpath_nth_last_child_function" 3636 (R 1268), E P "_check_of_type_element" 3658 (R 1277), E P "xpath_nth_of_type_function" 3667 (R 1285), E P "xpath_nth_last_of_type_function" 3676 (R 1292), E P "xpath_contains_function" 3686 (R 1299), E P "xpath_lang_function" 3696 (R 1306), E P "xpath_root_pseudo" 3704 (R 1313), E P "xpath_scope_pseudo" 3712 (R 1320), E P "xpath_first_child_pseudo" 3720 (R 1327), E P "xpath_last_child_pseudo" 3728 (R 1334), E P "xpath_first_of_type_pseudo" 3736 (R 1341), E P "xpath_last_of_type_pseudo" 3744 (R 1348), E P "xpath_only_child_pseudo" 3752 (R 1355), E P "xpath_only_of_type_pseudo" 3760 (R 1362), E P "xpath_empty_pseudo" 3768 (R 1369), E P "pseudo_never_matches" 3776 (R 1376), E P "xpath_link_pseudo" 3777 (R 1376), E P "xpath_visited_pseudo" 3778 (R 1376), E P "xpath_hover_pseudo" 3779 (R 1376), E P "xpath_active_pseudo" 3780 (R 1376), E P "xpath_focus_pseudo" 3781 (R 1376), E P "xpath_target_pseudo" 3782 (R 1376), E P "xpath_enabled_pseudo" 3783 (R 1376), E P "xpath_disabled_pseudo" 3784 (R 1376), E P "xpath_checked_pseudo" 3785 (R 1376), E P "xpath_attrib_exists" 3795 (R 1383), E P "xpath_attrib_equals" 3805 (R 1390), E P "xpath_attrib_different" 3815 (R 1397), E P "xpath_attrib_includes" 3826 (R 1404), E P "xpath_attrib_dashmatch" 3838 (R 1411), E P "xpath_attrib_prefixmatch" 3848 (R 1418), E P "xpath_attrib_suffixmatch" 3858 (R 1425), E P "xpath_attrib_substringmatch" 3868 (R 1432), E P "__static_attributes__" 3869 (R 1433), E P "__dict__" 3871 (R 1436), E P "__weakref__" 3873 (R 1437), E P "__doc__" 3874 N] 4), #[]⟩
def a1435 : Obj := ⟨(T "type"), none, (.cls ⟨(Str.ofString "GenericTranslator"), [(T "object")], [(R 1435), (T "object")], 1434, (Str.ofString "GenericTranslator"), true, [], [], false, none, false⟩), #[none, none, (some (V "GenericTranslator" 3267)), (some (V "GenericTranslator" 3275)), (some (U "object.__new__")), (some (B true))]⟩
def a1436 : Obj := ⟨(T "getset_descriptor"), none, (.fields #[(V "__dict__" 3870), (R 1435), (U "function.__dict__"), (U "function.__dict__#set")]), #[]⟩
def a1437 : Obj := ⟨(T "getset_descriptor"), none, (.fields #[(V "__weakref__" 3872), (R 1435), (U "ExceptionGroup.__weakref__"), N]), #[]⟩
def a1438 : Obj := ⟨(T "super"), none, (.fields #[(R 1435), (R 1435), (R 1435)]), #[]⟩
def a1439 : Obj := ⟨(T "builtin_function_or_method"), none, (.fields #[(U "object.__init_subclass__"), (R 1435)]), #[]⟩
def T62 (P : Params) : BT := (n (a0 P) (n (a1 P) (n (a3v28 P) (n a7 (n a15 (n a31 (n a63 (n a127 (n a255 (n a511 (n a1023 z z) z) (n a767 (n a1279 z z) z)) (n a383 (n a639 (n a1151 z z) z) (n a895 (n a1407 z z) z))) (n a191 (n a319 (n a575 (n a1087 z z) z) (n a831 (n a1343 z z) z)) (n a447 (n a703 (n a1215 z z) z) (n (a959 P) z z)))) (n a95 (n a159 (n a287 (n a543 (n a1055 z z) z) (n a799 (n a1311 z z) z)) (n a415 (n a671 (n a1183 z z) z) (n a927 (n a1439 z z) z))) (n a223 (n a351 (n a607 (n a1119 z z) z) (n a863 (n a1375 z z) z)) (n a479 (n a735 (n a1247 z z) z) (n a991 z z))))) (n a47 (n a79v1 (n a143 (n a271 (n a527 (n a1039 z z) z) (n a783 (n a1295 z z) z)) (n a399 (n a655 (n a1167 z z) z) (n a911 (n a1423 z z) z))) (n a207 (n a335 (n a591 (n a1103 z z) z) (n a847 (n a1359 z z) z)) (n a463 (n a719 (n a1231 z z) z) (n a975 z z)))) (n a111 (n a175 (n a303 (n a559 (n a1071 z z) z) (n a815 (n a1327 z z) z)) (n a431 (n a687 (n a1199 z z) z) (n a943 z z))) (n a239 (n a367 (n a623 (n a1135 z z) z) (n a879 (n a1391 z z) z)) (n a495 (n a751 (n a1263 z z) z) (n a1007 z z)))))) (n a23 (n a39 (n a71 (n a135 (n a263 (n a519 (n a1031 z z) z) (n a775 (n a1287 z z) z)) (n a391 (n a647 (n a1159 z z) z) (n a903 (n a1415 z z) z))) (n a199 (n a327 (n a583 (n a1095 z z) z) (n a839 (n a1351 z z) z)) (n a455 (n a711 (n a1223 z z) z) (n a967 z z)))) (n a103 (n a167 (n a295 (n a551 (n a1063 z z) z) (n a807 (n a1319 z z) z)) (n a423 (n a679 (n a1191 z z) z) (n a935 z z))) (n a231 (n a359 (n a615 (n a1127 z z) z) (n a871 (n a1383 z z) z)) (n a487 (n a743 (n a1255 z z) z) (n a999 z z))))) (n a55 (n a87 (n a151 (n a279 (n a535 (n a1047 z z) z) (n a791 (n a1303 z z) z)) (n a407 (n a663 (n a1175 z z) z) (n a919 (n a1431 z z) z))) (n a215 (n a343 (n a599 (n a1111 z z) z) (n a855 (n a1367 z z) z)) (n a471 (n a727 (n a1239 z z) z) (n a983 z z)))) (n a119 (n a183 (n a311 (n a567 (n a1079 z z) z) (n a823 (n a1335 z z) z)) (n a439 (n a695 (n a1207 z z) z) (n a951 z z))) (n a247 (n a375 (n a631 (n a1143 z z) z) (n a887 (n a1399 z z) z)) (n a503 (n a759 (n a1271 z z) z) (n a1015 z z))))))) (n (a11 P) (n a19 (n a35 (n a67 (n a131 (n a259 (n a515 (n a1027 z z) z) (n a771 (n a1283 z z) z)) (n a387 (n a643 (n a1155 z z) z) (n a899 (n a1411 z z) z))) (n a195 (n a323 (n a579 (n a1091 z z) z) (n a835 (n a1347 z z) z)) (n a451 (n a707 (n a1219 z z) z) (n a963 z z)))) (n a99 (n a163 (n a291 (n a547 (n a1059 z z) z) (n a803 (n a1315 z z) z)) (n a419 (n a675 (n a1187 z z) z) (n a931 z z))) (n a227 (n a355 (n a611 (n a1123 z z) z) (n a867 (n a1379 z z) z)) (n a483 (n a739 (n a1251 z z) z) (n a995 z z))))) (n a51 (n a83 (n a147 (n a275 (n a531 (n a1043 z z) z) (n a787 (n a1299 z z) z)) (n a403 (n a659 (n a1171 z z) z) (n a915 (n a1427 z z) z))) (n a211 (n a339 (n a595 (n a1107 z z) z) (n a851 (n a1363 z z) z)) (n a467 (n a723 (n a1235 z z) z) (n a979 z z)))) (n a115 (n a179 (n (a307 P) (n a563 (n a1075 z z) z) (n a819 (n a1331 z z) z)) (n a435 (n a691 (n a1203 z z) z) (n a947 z z))) (n a243 (n a371 (n a627 (n a1139 z z) z) (n a883 (n a1395 z z) z)) (n a499 (n a755 (n a1267 z z) z) (n a1011 z z)))))) (n a27 (n a43 (n a75 (n a139 (n a267 (n a523 (n a1035 z z) z) (n a779 (n a1291 z z) z)) (n a395 (n a651 (n a1163 z z) z) (n a907 (n a1419 z z) z))) (n a203 (n a331 (n a587 (n a1099 z z) z) (n a843 (n a1355 z z) z)) (n a459 (n a715 (n a1227 z z) z) (n a971 z z)))) (n a107 (n a171 (n (a299 P) (n a555 (n (a1067 P) z z) z) (n a811 (n a1323 z z) z)) (n a427 (n a683 (n a1195 z z) z) (n a939 z z))) (n a235 (n a363 (n a619 (n a1131 z z) z) (n a875 (n a1387 z z) z)) (n a491 (n a747 (n a1259 z z) z) (n a1003 z z))))) (n a59 (n (a91 P) (n a155 (n a283 (n a539 (n a1051 z z) z) (n a795 (n a1307 z z) z)) (n a411 (n a667 (n a1179 z z) z) (n a923 (n a1435 z z) z))) (n a219 (n a347 (n a603 (n a1115 z z) z) (n a859 (n a1371 z z) z)) (n a475 (n (a731 P) (n a1243 z z) z) (n a987 z z)))) (n a123 (n a187 (n a315 (n a571 (n a1083 z z) z) (n a827 (n a1339 z z) z)) (n a443 (n a699 (n a1211 z z) z) (n a955 z z))) (n a251 (n a379 (n a635 (n a1147 z z) z) (n a891 (n a1403 z z) z)) (n a507 (n a763 (n a1275 z z) z) (n a1019 z z)))))))) (n a5 (n a9 (n a17 (n a33 (n a65 (n a129 (n (a257 P) (n a513 (n a1025 z z) z) (n a769 (n a1281 z z) z)) (n a385 (n a641 (n a1153 z z) z) (n a897 (n a1409 z z) z))) (n a193 (n a321 (n a577 (n a1089 z z) z) (n a833 (n a1345 z z) z)) (n a449 (n a705 (n a1217 z z) z) (n a961 z z)))) (n (a97 P) (n a161 (n a289 (n a545 (n a1057 z z) z) (n a801 (n a1313 z z) z)) (n a417 (n a673 (n a1185 z z) z) (n a929 z z))) (n a225 (n a353 (n a609 (n a1121 z z) z) (n a865 (n a1377 z z) z)) (n a481 (n a737 (n a1249 z z) z) (n a993 z z))))) (n a49 (n a81 (n a145 (n a273 (n a529 (n a1041 z z) z) (n a785 (n a1297 z z) z)) (n a401 (n a657 (n a1169 z z) z) (n a913 (n a1425 z z) z))) (n a209 (n a337 (n a593 (n a1105 z z) z) (n a849 (n a1361 z z) z)) (n a465 (n a721 (n a1233 z z) z) (n a977 z z)))) (n a113 (n a177 (n a305 (n a561 (n a1073 z z) z) (n a817 (n a1329 z z) z)) (n a433 (n a689 (n a1201 z z) z) (n (a945 P) z z))) (n a241 (n a369 (n a625 (n a1137 z z) z) (n a881 (n a1393 z z) z)) (n a497 (n a753 (n a1265 z z) z) (n a1009 z z)))))) (n a25 (n a41 (n a73 (n a137 (n (a265 P) (n a521 (n a1033 z z) z) (n a777 (n a1289 z z) z)) (n a393 (n a649 (n a1161 z z) z) (n a905 (n a1417 z z) z))) (n a201 (n a329 (n a585 (n (a1097 P) z z) z) (n a841 (n a1353 z z) z)) (n a457 (n a713 (n a1225 z z) z) (n a969 z z)))) (n a105 (n a169 (n a297 (n a553 (n a1065 z z) z) (n (a809 P) (n a1321 z z) z)) (n a425 (n a681 (n a1193 z z) z) (n a937 z z))) (n a233 (n a361 (n a617 (n a1129 z z) z) (n a873 (n a1385 z z) z)) (n a489 (n a745 (n a1257 z z) z) (n a1001 z z))))) (n a57 (n a89 (n a153 (n a281 (n a537 (n a1049 z z) z) (n a793 (n a1305 z z) z)) (n a409 (n a665 (n a1177 z z) z) (n a921 (n a1433 z z) z))) (n a217 (n a345 (n a601 (n a1113 z z) z) (n a857 (n a1369 z z) z)) (n a473 (n a729 (n a1241 z z) z) (n a985 z z)))) (n a121 (n a185 (n a313 (n a569 (n a1081 z z) z) (n a825 (n a1337 z z) z)) (n a441 (n a697 (n a1209 z z) z) (n (a953 P) z z))) (n a249 (n a377 (n a633 (n a1145 z z) z) (n (a889 P) (n a1401 z z) z)) (n a505 (n a761 (n a1273 z z) z) (n a1017 z z))))))) (n (a13 P) (n (a21 P) (n a37 (n a69 (n a133 (n a261 (n (a517 P) (n a1029 z z) z) (n a773 (n a1285 z z) z)) (n a389 (n a645 (n a1157 z z) z) (n a901 (n a1413 z z) z))) (n a197 (n a325 (n a581 (n a1093 z z) z) (n a837 (n a1349 z z) z)) (n a453 (n a709 (n a1221 z z) z) (n (a965 P) z z)))) (n a101 (n a165 (n a293 (n a549 (n (a1061 P) z z) z) (n a805 (n a1317 z z) z)) (n a421 (n a677 (n a1189 z z) z) (n a933 z z))) (n a229 (n a357 (n a613 (n a1125 z z) z) (n a869 (n a1381 z z) z)) (n a485 (n a741 (n a1253 z z) z) (n a997 z z))))) (n a53 (n (a85 P) (n a149 (n a277 (n a533 (n a1045 z z) z) (n (a789 P) (n a1301 z z) z)) (n a405 (n a661 (n a1173 z z) z) (n a917 (n a1429 z z) z))) (n a213 (n (a341 P) (n a597 (n a1109 z z) z) (n a853 (n a1365 z z) z)) (n a469 (n a725 (n a1237 z z) z) (n a981 z z)))) (n a117 (n a181 (n a309 (n a565 (n a1077 z z) z) (n a821 (n a1333 z z) z)) (n a437 (n a693 (n a1205 z z) z) (n a949 z z))) (n a245 (n a373 (n a629 (n a1141 z z) z) (n a885 (n a1397 z z) z)) (n a501 (n a757 (n a1269 z z) z) (n a1013 z z)))))) (n a29v25 (n a45 (n a77 (n a141 (n a269 (n (a525 P) (n a1037 z z) z) (n (a781 P) (n a1293 z z) z)) (n a397 (n a653 (n a1165 z z) z) (n a909 (n a1421 z z) z))) (n a205 (n a333 (n a589 (n a1101 z z) z) (n a845 (n a1357 z z) z)) (n a461 (n a717 (n a1229 z z) z) (n a973 z z)))) (n a109 (n a173 (n a301 (n a557 (n a1069 z z) z) (n a813 (n a1325 z z) z)) (n a429 (n a685 (n a1197 z z) z) (n a941 z z))) (n a237 (n a365 (n a621 (n a1133 z z) z) (n a877 (n a1389 z z) z)) (n a493 (n a749 (n a1261 z z) z) (n a1005 z z))))) (n a61 (n a93 (n a157 (n a285 (n a541 (n a1053 z z) z) (n a797 (n a1309 z z) z)) (n a413 (n a669 (n a1181 z z) z) (n a925 (n a1437 z z) z))) (n a221 (n a349 (n a605 (n a1117 z z) z) (n a861 (n a1373 z z) z)) (n a477 (n a733 (n a1245 z z) z) (n a989 z z)))) (n a125 (n a189 (n a317 (n a573 (n a1085 z z) z) (n a829 (n a1341 z z) z)) (n a445 (n a701 (n a1213 z z) z) (n a957 z z))) (n a253 (n a381 (n a637 (n a1149 z z) z) (n a893 (n a1405 z z) z)) (n a509 (n a765 (n a1277 z z) z) (n a1021 z z))))))))) (n (a2v1 P) (n a4 (n a8 (n a16 (n a32 (n a64 (n a128 (n a256 (n a512 (n a1024 z z) z) (n a768 (n a1280 z z) z)) (n a384 (n a640 (n a1152 z z) z) (n a896 (n a1408 z z) z))) (n a192 (n a320 (n a576 (n a1088 z z) z) (n a832 (n a1344 z z) z)) (n a448 (n a704 (n a1216 z z) z) (n a960 z z)))) (n a96 (n a160 (n a288 (n a544 (n a1056 z z) z) (n a800 (n a1312 z z) z)) (n a416 (n a672 (n a1184 z z) z) (n a928 z z))) (n a224 (n a352 (n a608 (n a1120 z z) z) (n a864 (n a1376 z z) z)) (n a480 (n a736 (n a1248 z z) z) (n a992 z z))))) (n a48 (n a80 (n a144 (n a272 (n a528 (n a1040 z z) z) (n a784 (n a1296 z z) z)) (n a400 (n a656 (n a1168 z z) z) (n a912 (n a1424 z z) z))) (n a208 (n a336 (n a592 (n a1104 z z) z) (n a848 (n a1360 z z) z)) (n a464 (n a720 (n a1232 z z) z) (n a976 z z)))) (n a112 (n a176 (n a304 (n (a560 P) (n a1072 z z) z) (n a816 (n a1328 z z) z)) (n (a432 P) (n a688 (n a1200 z z) z) (n a944 z z))) (n a240 (n a368 (n a624 (n a1136 z z) z) (n a880 (n a1392 z z) z)) (n a496 (n a752 (n a1264 z z) z) (n a1008 z z)))))) (n a24 (n a40 (n (a72 P) (n a136 (n a264 (n a520 (n a1032 z z) z) (n a776 (n a1288 z z) z)) (n a392 (n a648 (n a1160 z z) z) (n a904 (n a1416 z z) z))) (n a200 (n a328 (n a584 (n a1096 z z) z) (n a840 (n a1352 z z) z)) (n a456 (n a712 (n a1224 z z) z) (n a968 z z)))) (n a104 (n a168 (n a296 (n a552 (n a1064 z z) z) (n a808 (n a1320 z z) z)) (n a424 (n a680 (n a1192 z z) z) (n a936 z z))) (n a232 (n a360 (n a616 (n a1128 z z) z) (n a872 (n a1384 z z) z)) (n a488 (n a744 (n a1256 z z) z) (n a1000 z z))))) (n a56 (n a88 (n a152 (n a280 (n a536 (n a1048 z z) z) (n a792 (n a1304 z z) z)) (n a408 (n a664 (n a1176 z z) z) (n a920 (n a1432 z z) z))) (n a216 (n a344 (n a600 (n a1112 z z) z) (n a856 (n a1368 z z) z)) (n a472 (n a728 (n a1240 z z) z) (n a984 z z)))) (n a120 (n a184 (n a312 (n (a568 P) (n a1080 z z) z) (n a824 (n a1336 z z) z)) (n (a440 P) (n a696 (n a1208 z z) z) (n a952 z z))) (n a248 (n a376 (n a632 (n a1144 z z) z) (n a888 (n a1400 z z) z)) (n a504 (n a760 (n a1272 z z) z) (n a1016 z z))))))) (n a12 (n (a20 P) (n a36 (n a68 (n (a132 P) (n a260 (n a516 (n a1028 z z) z) (n a772 (n a1284 z z) z)) (n a388 (n (a644 P) (n a1156 z z) z) (n a900 (n a1412 z z) z))) (n a196 (n a324 (n a580 (n a1092 z z) z) (n a836 (n a1348 z z) z)) (n a452 (n a708 (n a1220 z z) z) (n a964 z z)))) (n a100 (n a164 (n a292 (n a548 (n a1060 z z) z) (n a804 (n a1316 z z) z)) (n a420 (n a676 (n a1188 z z) z) (n a932 z z))) (n a228 (n (a356 P) (n a612 (n a1124 z z) z) (n a868 (n a1380 z z) z)) (n a484 (n a740 (n a1252 z z) z) (n a996 z z))))) (n a52 (n a84 (n a148 (n a276 (n a532 (n a1044 z z) z) (n a788 (n a1300 z z) z)) (n a404 (n a660 (n a1172 z z) z) (n a916 (n a1428 z z) z))) (n (a212 P) (n a340 (n a596 (n a1108 z z) z) (n a852 (n a1364 z z) z)) (n a468 (n a724 (n a1236 z z) z) (n a980 z z)))) (n a116 (n a180 (n a308 (n a564 (n a1076 z z) z) (n a820 (n a1332 z z) z)) (n a436 (n a692 (n a1204 z z) z) (n a948 z z))) (n a244 (n a372 (n a628 (n a1140 z z) z) (n a884 (n a1396 z z) z)) (n a500 (n a756 (n a1268 z z) z) (n a1012 z z)))))) (n a28 (n a44 (n a76 (n (a140 P) (n a268 (n a524 (n a1036 z z) z) (n a780 (n a1292 z z) z)) (n a396 (n a652 (n a1164 z z) z) (n a908 (n a1420 z z) z))) (n a204 (n a332 (n a588 (n a1100 z z) z) (n a844 (n a1356 z z) z)) (n a460 (n a716 (n a1228 z z) z) (n a972 z z)))) (n a108 (n a172 (n a300 (n a556 (n (a1068 P) z z) z) (n a812 (n a1324 z z) z)) (n a428 (n a684 (n a1196 z z) z) (n a940 z z))) (n a236 (n a364 (n a620 (n a1132 z z) z) (n a876 (n a1388 z z) z)) (n a492 (n a748 (n a1260 z z) z) (n a1004 z z))))) (n a60 (n a92 (n a156 (n a284 (n a540 (n a1052 z z) z) (n a796 (n a1308 z z) z)) (n a412 (n a668 (n a1180 z z) z) (n a924 (n a1436 z z) z))) (n (a220 P) (n a348 (n a604 (n a1116 z z) z) (n a860 (n a1372 z z) z)) (n a476 (n a732 (n a1244 z z) z) (n a988 z z)))) (n a124 (n a188 (n a316 (n a572 (n a1084 z z) z) (n a828 (n a1340 z z) z)) (n a444 (n a700 (n a1212 z z) z) (n a956 z z))) (n a252 (n a380 (n a636 (n a1148 z z) z) (n a892 (n a1404 z z) z)) (n a508 (n a764 (n (a1276 P) z z) z) (n a1020 z z)))))))) (n a6 (n a10 (n a18 (n a34 (n a66 (n a130 (n a258 (n a514 (n a1026 z z) z) (n a770 (n a1282 z z) z)) (n a386 (n a642 (n a1154 z z) z) (n a898 (n a1410 z z) z))) (n a194 (n a322 (n a578 (n a1090 z z) z) (n (a834 P) (n a1346 z z) z)) (n a450 (n a706 (n a1218 z z) z) (n a962 z z)))) (n a98 (n a162 (n a290 (n a546 (n a1058 z z) z) (n a802 (n a1314 z z) z)) (n a418 (n a674 (n a1186 z z) z) (n a930 z z))) (n a226 (n a354 (n (a610 P) (n a1122 z z) z) (n a866 (n a1378 z z) z)) (n (a482 P) (n a738 (n a1250 z z) z) (n a994 z z))))) (n a50 (n a82 (n a146 (n a274 (n a530 (n a1042 z z) z) (n a786 (n a1298 z z) z)) (n a402 (n a658 (n a1170 z z) z) (n a914 (n a1426 z z) z))) (n a210 (n a338 (n a594 (n a1106 z z) z) (n a850 (n a1362 z z) z)) (n a466 (n a722 (n a1234 z z) z) (n a978 z z)))) (n a114 (n a178 (n a306 (n a562 (n a1074 z z) z) (n a818 (n a1330 z z) z)) (n a434 (n a690 (n a1202 z z) z) (n a946 z z))) (n a242 (n a370 (n a626 (n a1138 z z) z) (n a882 (n a1394 z z) z)) (n a498 (n a754 (n a1266 z z) z) (n a1010 z z)))))) (n a26 (n a42 (n a74 (n a138 (n a266 (n a522 (n a1034 z z) z) (n a778 (n a1290 z z) z)) (n a394 (n a650 (n a1162 z z) z) (n a906 (n a1418 z z) z))) (n a202 (n a330 (n a586 (n a1098 z z) z) (n a842 (n a1354 z z) z)) (n a458 (n a714 (n a1226 z z) z) (n a970 z z)))) (n a106 (n a170 (n a298 (n a554 (n (a1066 P) z z) z) (n a810 (n a1322 z z) z)) (n a426 (n a682 (n a1194 z z) z) (n a938 z z))) (n a234 (n a362 (n a618 (n a1130 z z) z) (n a874 (n a1386 z z) z)) (n a490 (n a746 (n a1258 z z) z) (n a1002 z z))))) (n a58 (n a90 (n a154 (n a282 (n a538 (n a1050 z z) z) (n a794 (n a1306 z z) z)) (n a410 (n a666 (n a1178 z z) z) (n a922 (n (a1434 P) z z) z))) (n a218 (n a346 (n (a602 P) (n a1114 z z) z) (n a858 (n a1370 z z) z)) (n (a474 P) (n a730 (n a1242 z z) z) (n a986 z z)))) (n a122 (n a186 (n a314 (n a570 (n a1082 z z) z) (n a826 (n a1338 z z) z)) (n a442 (n a698 (n a1210 z z) z) (n a954 z z))) (n a250 (n a378 (n a634 (n a1146 z z) z) (n a890 (n a1402 z z) z)) (n a506 (n a762 (n a1274 z z) z) (n a1018 z z))))))) (n a14 (n a22 (n a38 (n a70 (n a134 (n a262 (n a518 (n a1030 z z) z) (n a774 (n a1286 z z) z)) (n (a390 P) (n a646 (n a1158 z z) z) (n a902 (n a1414 z z) z))) (n a198 (n a326 (n a582 (n a1094 z z) z) (n a838 (n a1350 z z) z)) (n a454 (n a710 (n a1222 z z) z) (n a966 z z)))) (n a102 (n a166 (n a294 (n a550 (n a1062 z z) z) (n a806 (n a1318 z z) z)) (n a422 (n a678 (n a1190 z z) z) (n a934 z z))) (n a230 (n a358 (n a614 (n a1126 z z) z) (n a870 (n a1382 z z) z)) (n a486 (n a742 (n a1254 z z) z) (n a998 z z))))) (n a54 (n a86 (n a150 (n a278 (n a534 (n a1046 z z) z) (n a790 (n a1302 z z) z)) (n a406 (n a662 (n a1174 z z) z) (n a918 (n a1430 z z) z))) (n a214 (n a342 (n a598 (n a1110 z z) z) (n a854 (n a1366 z z) z)) (n a470 (n a726 (n a1238 z z) z) (n a982 z z)))) (n a118 (n (a182 P) (n a310 (n a566 (n a1078 z z) z) (n a822 (n a1334 z z) z)) (n a438 (n a694 (n a1206 z z) z) (n a950 z z))) (n a246 (n a374 (n a630 (n a1142 z z) z) (n a886 (n a1398 z z) z)) (n a502 (n a758 (n a1270 z z) z) (n a1014 z z)))))) (n a30 (n a46 (n (a78 P) (n a142 (n a270 (n a526 (n a1038 z z) z) (n a782v1 (n a1294 z z) z)) (n (a398 P) (n a654 (n a1166 z z) z) (n a910 (n a1422 z z) z))) (n a206 (n a334 (n a590 (n a1102 z z) z) (n a846 (n a1358 z z) z)) (n a462 (n a718 (n a1230 z z) z) (n a974 z z)))) (n a110 (n (a174 P) (n a302 (n a558 (n a1070 z z) z) (n a814 (n a1326 z z) z)) (n a430 (n a686 (n a1198 z z) z) (n a942 z z))) (n a238 (n a366 (n a622 (n a1134 z z) z) (n a878 (n a1390 z z) z)) (n a494 (n a750 (n a1262 z z) z) (n a1006 z z))))) (n a62 (n a94 (n a158 (n a286 (n a542 (n a1054 z z) z) (n a798 (n a1310 z z) z)) (n a414 (n a670 (n a1182 z z) z) (n a926 (n a1438 z z) z))) (n a222 (n a350 (n a606 (n a1118 z z) z) (n a862 (n a1374 z z) z)) (n a478 (n a734 (n a1246 z z) z) (n a990 z z)))) (n a126 (n a190 (n a318 (n a574 (n a1086 z z) z) (n a830 (n a1342 z z) z)) (n a446 (n a702 (n a1214 z z) z) (n a958 z z))) (n a254 (n a382 (n a638 (n a1150 z z) z) (n a894 (n a1406 z z) z)) (n a510 (n a766 (n a1278 z z) z) (n (a1022 P) z z))))))))))
def a3v29 (P : Params) : Obj := ⟨(T "dict"), none, (.dict #[E P "__name__" 165 (V "law_ad5043_01" 3877), E P "__doc__" 166 N, E P "__package__" 167 N, E P "__loader__" 168 (U "__main__.__loader__#opaque"), E P "__spec__" 169 N, E P "__annotations__" 170 (R 6), E P "__builtins__" 171 (R 4), E P "__file__" 173 (V "/claim/cut.py" 172), E P "__cached__" 174 N, E P "_sre" 275 (R 12), E P "_wall" 288 (R 38), E P "_pe_name" 295 (R 45), E P "_twin_re_10" 435 (R 50), E P "_twin_re_11" 573 (R 55), E P "cast" 581 (R 62), E P "ascii_lower" 588 (R 69), E P "SelectorError" 608 (R 79), E P "SelectorSyntaxError" 624 (R 92), E P "Selector" 682 (R 133), E P "Class" 737 (R 175), E P "FunctionalPseudoElement" 788 (R 213), E P "Function" 851 (R 258), E P "Pseudo" 906 (R 300), E P "Negation" 965 (R 342), E P "_combinator_prefix" 972 (R 353), E P "Relation" 1032 (R 391), E P "Matching" 1095 (R 433), E P "SpecificityAdjustment" 1152 (R 475), E P "Attrib" 1221 (R 518), E P "Element" 1275 (R 561), E P "Hash" 1330 (R 603), E P "CombinedSelector" 1393 (R 645), E P "_el_re" 1461 (R 654), E P "_id_re" 1552 (R 659), E P "_class_re" 1652 (R 664), E P "parse" 1661 (R 671), E P "parse_selector_group" 1668 (R 678), E P "parse_selector" 1680 (R 685), E P "parse_simple_selector" 1702 (R 693), E P "parse_arguments" 1711 (R 700), E P "parse_relative_selector" 1725 (R 707), E P "parse_simple_selector_arguments" 1736 (R 714), E P "parse_attrib" 1750 (R 721), E P "parse_series" 1763 (R 728), E P "Token" 1832 (R 782), E P "EOFToken" 1864 (R 810), E P "_match_whitespace" 1893 (R 818), E P "_match_number" 1960 (R 823), E P "_match_hash" 2248 (R 828), E P "_match_ident" 2802 (R 833), E P "_match_string_by_quote" 2807 (R 834), E P "_unicode_escape" 2872 (R 839), E P "_newline_escape" 2914 (R 844), E P "_replace_unicode" 2922 (R 851), E P "_sub_unicode_escape" 2932 (R 858), E P "_sub_simple_escape" 2941 (R 865), E P "unescape_ident" 2948 (R 872), E P "_serialize_ident" 2960 (R 879), E P "tokenize" 2974 (R 886), E P "TokenStream" 3053 (R 946), E P "ascii_lowercase" 3057 (V "abcdefghijklmnopqrstuvwxyz" 3056), E P "ascii_uppercase" 3059 (V "ABCDEFGHIJKLMNOPQRSTUVWXYZ" 3058), E P "ExpressionError" 3075 (R 960), E P "XPathExpr" 3164 (R 1023), E P "split_at_single_quotes" 3173 (R 1034), E P "_safe_name" 3218 (R 1039), E P "is_safe_name" 3225 (R 1046), E P "_non_whitespace" 3259 (R 1051), E P "is_non_whitespace" 3266 (R 1058), E P "GenericTranslator" 3876 (R 1435), E P "_law_marks" 3885 (R 1440), E P "_law_names" 3891 (R 1447), E P "_law_tests" 3897 (R 1454), E P "_law_combiners" 3903 (R 1461), E P "_law_cell" 3911 (R 1468), E P "_law_end" 3921 (R 1475), E P "_law_holds" 3935 (R 1482), E P "_law_truth" 3947 (R 1489), E P "_law_is" 3953 (R 1494), E P "_law_added" 3964 (R 1501), E P "_law_tested" 3974 (R 1508), E P "law" 3992 (R 1515)] 82), #[]⟩
def a29v26 : Obj := ⟨N, none, (.fields #[(I 2 0), (I 0 0), (R 37), (I 5 0), (I 0 0), (R 44), (I 12 0), (I 0 0), (R 61), (I 14 0), (I 0 0), (R 68), (I 16 0), (I 0 0), (R 75), (I 18 0), (I 0 0), (R 88), (I 20 0), (I 0 0), (R 100), (I 54 0), (I 0 0), (R 143), (I 70 0), (I 0 0), (R 185), (I 86 0), (I 0 0), (R 223), (I 108 0), (I 0 0), (R 268), (I 124 0), (I 0 0), (R 310), (I 143 0), (I 0 0), (R 352), (I 147 0), (I 0 0), (R 359), (I 165 0), (I 0 0), (R 401), (I 189 0), (I 0 0), (R 443), (I 211 0), (I 0 0), (R 485), (I 246 0), (I 0 0), (R 528), (I 266 0), (I 0 0), (R 571), (I 282 0), (I 0 0), (R 613), (I 308 0), (I 0 0), (R 670), (I 321 0), (I 0 0), (R 677), (I 330 0), (I 0 0), (R 684), (I 347 0), (I 0 0), (R 692), (I 449 0), (I 0 0), (R 699), (I 460 0), (I 0 0), (R 706), (I 491 0), (I 0 0), (R 713), (I 508 0), (I 0 0), (R 720), (I 562 0), (I 0 0), (R 727), (I 585 0), (I 0 0), (R 734), (I 614 0), (I 0 0), (R 792), (I 628 0), (I 0 0), (R 850), (I 633 0), (I 0 0), (R 857), (I 640 0), (I 0 0), (R 864), (I 648 0), (I 0 0), (R 871), (I 650 0), (I 0 0), (R 878), (I 669 0), (I 0 0), (R 885), (I 722 0), (I 0 0), (R 892), (I 771 0), (I 0 0), (R 956), (I 773 0), (I 0 0), (R 968), (I 817 0), (I 0 0), (R 1033), (I 826 0), (I 0 0), (R 1045), (I 829 0), (I 0 0), (R 1057), (I 831 0), (I 0 0), (R 1064), (I 1192 0), (I 0 0), (R 1446), (I 1194 0), (I 0 0), (R 1453), (I 1196 0), (I 0 0), (R 1460), (I 1198 0), (I 0 0), (R 1467), (I 1200 0), (I 0 0), (R 1474), (I 1207 0), (I 0 0), (R 1481), (I 1222 0), (I 0 0), (R 1488), (I 1228 0), (I 0 0), (R 1493), (I 1241 0), (I 0 0), (R 1500), (I 1248 0), (I 0 0), (R 1507), (I 1252 0), (I 0 0), (R 1514)]), #[]⟩
def a1440 : Obj := ⟨(T "list"), none, (.seq #[(V "p" 3879), (V "q" 3880), (V "r" 3881), (V "s" 3882), (V "t" 3883), (V "u" 3884)] 0), #[]⟩
def a1441 : Obj := ⟨(T "tuple"), none, (.seq #[] 0), #[]⟩
def a1442 : Obj := ⟨N, none, (.fields #[]), #[]⟩
def a1443 : Obj := ⟨(T "tuple"), none, (.seq #[] 0), #[]⟩
def a1444 : Obj := ⟨(T "tuple"), none, (.seq #[] 0), #[]⟩
def a1445 : Obj := ⟨N, none, (.func (fd (st 65) (Str.ofString "_law_names") 0 [] N N N N none N N 0)), #[]⟩
def a1446 : Obj := ⟨(T "code"), none, (.fields #[(V "_law_names" 3886), (V "_law_names" 3887), (V "/claim/cut.py" 3888), (I 1192 0), (I 0 0), (I 0 0), (I 0 0), (I 3 0), (R 1441), (B true), (I 276 0), (R 1442), N, (R 1443), (R 1444), (R 1445), (I 3889 0), (I 1192 0), (V "/claim/cut.py" 3890)]), #[]⟩
def a1447 : Obj := ⟨(T "function"), none, (.func (fd (st 65) (Str.ofString "_law_names") 3 [] N N N (V "law_ad5043_01" 3877) none (R 1446) N 0)), #[]⟩
def a1448 : Obj := ⟨(T "tuple"), none, (.seq #[] 0), #[]⟩
def a1449 : Obj := ⟨N, none, (.fields #[]), #[]⟩
def a1450 : Obj := ⟨(T "tuple"), none, (.seq #[] 0), #[]⟩
def a1451 : Obj := ⟨(T "tuple"), none, (.seq #[] 0), #[]⟩
def a1452 : Obj := ⟨N, none, (.func (fd (st 66) (Str.ofString "_law_tests") 0 [] N N N N none N N 0)), #[]⟩
def a1453 : Obj := ⟨(T "code"), none, (.fields #[(V "_law_tests" 3892), (V "_law_tests" 3893), (V "/claim/cut.py" 3894), (I 1194 0), (I 0 0), (I 0 0), (I 0 0), (I 3 0), (R 1448), (B true), (I 276 0), (R 1449), N, (R 1450), (R 1451), (R 1452), (I 3895 0), (I 1194 0), (V "/claim/cut.py" 3896)]), #[]⟩
def a1454 : Obj := ⟨(T "function"), none, (.func (fd (st 66) (Str.ofString "_law_tests") 3 [] N N N (V "law_ad5043_01" 3877) none (R 1453) N 0)), #[]⟩
def a1455 : Obj := ⟨(T "tuple"), none, (.seq #[] 0), #[]⟩
def a1456 : Obj := ⟨N, none, (.fields #[]), #[]⟩
def a1457 : Obj := ⟨(T "tuple"), none, (.seq #[] 0), #[]⟩
def a1458 : Obj := ⟨(T "tuple"), none, (.seq #[] 0), #[]⟩
def a1459 : Obj := ⟨N, none, (.func (fd (st 67) (Str.ofString "_law_combiners") 0 [] N N N N none N N 0)), #[]⟩
def a1460 : Obj := ⟨(T "code"), none, (.fields #[(V "_law_combiners" 3898), (V "_law_combiners" 3899), (V "/claim/cut.py" 3900), (I 1196 0), (I 0 0), (I 0 0), (I 0 0), (I 3 0), (R 1455), (B true), (I 276 0), (R 1456), N, (R 1457), (R 1458), (R 1459), (I 3901 0), (I 1196 0), (V "/claim/cut.py" 3902)]), #[]⟩
def a1461 : Obj := ⟨(T "function"), none, (.func (fd (st 67) (Str.ofString "_law_combiners") 3 [] N N N (V "law_ad5043_01" 3877) none (R 1460) N 0)), #[]⟩
def a1462 : Obj := ⟨(T "tuple"), none, (.seq #[] 0), #[]⟩
def a1463 : Obj := ⟨N, none, (.fields #[]), #[]⟩
def a1464 : Obj := ⟨(T "tuple"), none, (.seq #[(V "script" 3907), (V "at" 3908)] 0), #[]⟩
def a1465 : Obj := ⟨(T "tuple"), none, (.seq #[] 0), #[]⟩
def a1466 : Obj := ⟨N, none, (.func (fd (st 68) (Str.ofString "_law_cell") 0 [] N N N N none N N 0)), #[]⟩
def a1467 : Obj := ⟨(T "code"), none, (.fields #[(V "_law_cell" 3904), (V "_law_cell" 3905), (V "/claim/cut.py" 3906), (I 1198 0), (I 2 0), (I 0 0), (I 0 0), (I 3 0), (R 1462), (B true), (I 276 0), (R 1463), N, (R 1464), (R 1465), (R 1466), (I 3909 0), (I 1198 0), (V "/claim/cut.py" 3910)]), #[]⟩
def a1468 : Obj := ⟨(T "function"), none, (.func (fd (st 68) (Str.ofString "_law_cell") 3 [] N N N (V "law_ad5043_01" 3877) none (R 1467) N 0)), #[]⟩
def a1469 : Obj := ⟨(T "tuple"), none, (.seq #[] 0), #[]⟩
def a1470 : Obj := ⟨N, none, (.fields #[]), #[]⟩
def a1471 : Obj := ⟨(T "tuple"), none, (.seq #[(V "text" 3915), (V "deep" 3916), (V "at" 3917), (V "sign" 3918)] 0), #[]⟩
def a1472 : Obj := ⟨(T "tuple"), none, (.seq #[] 0), #[]⟩
def a1473 : Obj := ⟨N, none, (.func (fd (st 69) (Str.ofString "_law_end") 0 [] N N N N none N N 0)), #[]⟩
def a1474 : Obj := ⟨(T "code"), none, (.fields #[(V "_law_end" 3912), (V "_law_end" 3913), (V "/claim/cut.py" 3914), (I 1200 0), (I 1 0), (I 0 0), (I 0 0), (I 3 0), (R 1469), (B true), (I 276 0), (R 1470), N, (R 1471), (R 1472), (R 1473), (I 3919 0), (I 1200 0), (V "/claim/cut.py" 3920)]), #[]⟩
def a1475 : Obj := ⟨(T "function"), none, (.func (fd (st 69) (Str.ofString "_law_end") 3 [] N N N (V "law_ad5043_01" 3877) none (R 1474) N 0)), #[]⟩
def a1476 : Obj := ⟨(T "tuple"), none, (.seq #[] 0), #[]⟩
def a1477 : Obj := ⟨N, none, (.fields #[]), #[]⟩
def a1478 : Obj := ⟨(T "tuple"), none, (.seq #[(V "text" 3925), (V "facts" 3926), (V "end" 3927), (V "left" 3928), (V "rest" 3929), (V "word" 3930), (V "more" 3931), (V "right" 3932)] 0), #[]⟩
def a1479 : Obj := ⟨(T "tuple"), none, (.seq #[] 0), #[]⟩
def a1480 : Obj := ⟨N, none, (.func (fd (st 70) (Str.ofString "_law_holds") 0 [] N N N N none N N 0)), #[]⟩
def a1481 : Obj := ⟨(T "code"), none, (.fields #[(V "_law_holds" 3922), (V "_law_holds" 3923), (V "/claim/cut.py" 3924), (I 1207 0), (I 2 0), (I 0 0), (I 0 0), (I 3 0), (R 1476), (B true), (I 276 0), (R 1477), N, (R 1478), (R 1479), (R 1480), (I 3933 0), (I 1207 0), (V "/claim/cut.py" 3934)]), #[]⟩
def a1482 : Obj := ⟨(T "function"), none, (.func (fd (st 70) (Str.ofString "_law_holds") 3 [] N N N (V "law_ad5043_01" 3877) none (R 1481) N 0)), #[]⟩
def a1483 : Obj := ⟨(T "tuple"), none, (.seq #[] 0), #[]⟩
def a1484 : Obj := ⟨N, none, (.fields #[]), #[]⟩
def a1485 : Obj := ⟨(T "tuple"), none, (.seq #[(V "added" 3939), (V "facts" 3940), (V "found" 3941), (V "word" 3942), (V "mark" 3943), (V "held" 3944)] 0), #[]⟩
def a1486 : Obj := ⟨(T "tuple"), none, (.seq #[] 0), #[]⟩
def a1487 : Obj := ⟨N, none, (.func (fd (st 71) (Str.ofString "_law_truth") 0 [] N N N N none N N 0)), #[]⟩
def a1488 : Obj := ⟨(T "code"), none, (.fields #[(V "_law_truth" 3936), (V "_law_truth" 3937), (V "/claim/cut.py" 3938), (I 1222 0), (I 2 0), (I 0 0), (I 0 0), (I 3 0), (R 1483), (B true), (I 276 0), (R 1484), N, (R 1485), (R 1486), (R 1487), (I 3945 0), (I 1222 0), (V "/claim/cut.py" 3946)]), #[]⟩
def a1489 : Obj := ⟨(T "function"), none, (.func (fd (st 71) (Str.ofString "_law_truth") 3 [] N N N (V "law_ad5043_01" 3877) none (R 1488) N 0)), #[]⟩
def a1490 : Obj := ⟨(T "tuple"), none, (.seq #[] 0), #[]⟩
def a1491 : Obj := ⟨N, none, (.fields #[]), #[]⟩
def a1492 : Obj := ⟨N, none, (.func (fd (st 72) (Str.ofString "_law_is") 0 [] N N N N none N N 0)), #[]⟩
def a1493 : Obj := ⟨(T "code"), none, (.fields #[(V "_law_is" 3948), (V "_law_is" 3949), (V "/claim/cut.py" 3950), (I 1228 0), (I 4 0), (I 0 0), (I 0 0), (I 3 0), (R 1490), (B true), (I 276 0), (R 1491), N, N, N, (R 1492), (I 3951 0), (I 1228 0), (V "/claim/cut.py" 3952)]), #[]⟩
def a1494 : Obj := ⟨(T "function"), none, (.func (fd (st 72) (Str.ofString "_law_is") 3 [] N N N (V "law_ad5043_01" 3877) none (R 1493) N 0)), #[]⟩
def a1495 : Obj := ⟨(T "tuple"), none, (.seq #[] 0), #[]⟩
def a1496 : Obj := ⟨N, none, (.fields #[]), #[]⟩
def a1497 : Obj := ⟨(T "tuple"), none, (.seq #[(V "told" 3957), (V "added" 3958), (V "cell" 3959), (V "mark" 3960), (V "way" 3961)] 0), #[]⟩
def a1498 : Obj := ⟨(T "tuple"), none, (.seq #[] 0), #[]⟩
def a1499 : Obj := ⟨N, none, (.func (fd (st 73) (Str.ofString "_law_added") 0 [] N N N N none N N 0)), #[]⟩
def a1500 : Obj := ⟨(T "code"), none, (.fields #[(V "_law_added" 3954), (V "_law_added" 3955), (V "/claim/cut.py" 3956), (I 1241 0), (I 3 0), (I 0 0), (I 0 0), (I 3 0), (R 1495), (B true), (I 276 0), (R 1496), N, (R 1497), (R 1498), (R 1499), (I 3962 0), (I 1241 0), (V "/claim/cut.py" 3963)]), #[]⟩
def a1501 : Obj := ⟨(T "function"), none, (.func (fd (st 73) (Str.ofString "_law_added") 3 [] N N N (V "law_ad5043_01" 3877) none (R 1500) N 0)), #[]⟩
def a1502 : Obj := ⟨(T "tuple"), none, (.seq #[] 0), #[]⟩
def a1503 : Obj := ⟨N, none, (.fields #[]), #[]⟩
def a1504 : Obj := ⟨(T "tuple"), none, (.seq #[(V "told" 3968), (V "name" 3969), (V "added" 3970), (V "test" 3971)] 0), #[]⟩
def a1505 : Obj := ⟨(T "tuple"), none, (.seq #[] 0), #[]⟩
def a1506 : Obj := ⟨N, none, (.func (fd (st 74) (Str.ofString "_law_tested") 0 [] N N N N none N N 0)), #[]⟩
def a1507 : Obj := ⟨(T "code"), none, (.fields #[(V "_law_tested" 3965), (V "_law_tested" 3966), (V "/claim/cut.py" 3967), (I 1248 0), (I 3 0), (I 0 0), (I 0 0), (I 3 0), (R 1502), (B true), (I 276 0), (R 1503), N, (R 1504), (R 1505), (R 1506), (I 3972 0), (I 1248 0), (V "/claim/cut.py" 3973)]), #[]⟩
def a1508 : Obj := ⟨(T "function"), none, (.func (fd (st 74) (Str.ofString "_law_tested") 3 [] N N N (V "law_ad5043_01" 3877) none (R 1507) N 0)), #[]⟩
def a1509 : Obj := ⟨(T "tuple"), none, (.seq #[] 0), #[]⟩
def a1510 : Obj := ⟨N, none, (.fields #[]), #[]⟩
def a1511 : Obj := ⟨(T "tuple"), none, (.seq #[(V "script" 3978), (V "cell" 3979), (V "path" 3980), (V "name" 3981), (V "added" 3982), (V "told" 3983), (V "turn" 3984), (V "way" 3985), (V "other" 3986), (V "more" 3987), (V "ahead" 3988), (V "combiner" 3989)] 0), #[]⟩
def a1512 : Obj := ⟨(T "tuple"), none, (.seq #[] 0), #[]⟩
def a1513 : Obj := ⟨N, none, (.func (fd (st 75) (Str.ofString "law") 0 [] N N N N none N N 0)), #[]⟩
def a1514 : Obj := ⟨(T "code"), none, (.fields #[(V "law" 3975), (V "law" 3976), (V "/claim/cut.py" 3977), (I 1252 0), (I 1 0), (I 0 0), (I 0 0), (I 3 0), (R 1509), (B true), (I 276 0), (R 1510), N, (R 1511), (R 1512), (R 1513), (I 3990 0), (I 1252 0), (V "/claim/cut.py" 3991)]), #[]⟩
def a1515 : Obj := ⟨(T "function"), none, (.func (fd (st 75) (Str.ofString "law") 3 [] N N N (V "law_ad5043_01" 3877) none (R 1514) N 0)), #[]⟩
def T75 (P : Params) : BT := (n (a0 P) (n (a1 P) (n (a3v29 P) (n a7 (n a15 (n a31 (n a63 (n a127 (n a255 (n a511 (n a1023 z z) z) (n a767 (n a1279 z z) z)) (n a383 (n a639 (n a1151 z z) z) (n a895 (n a1407 z z) z))) (n a191 (n a319 (n a575 (n a1087 z z) z) (n a831 (n a1343 z z) z)) (n a447 (n a703 (n a1215 z z) z) (n (a959 P) (n a1471 z z) z)))) (n a95 (n a159 (n a287 (n a543 (n a1055 z z) z) (n a799 (n a1311 z z) z)) (n a415 (n a671 (n a1183 z z) z) (n a927 (n a1439 z z) z))) (n a223 (n a351 (n a607 (n a1119 z z) z) (n a863 (n a1375 z z) z)) (n a479 (n a735 (n a1247 z z) z) (n a991 (n a1503 z z) z))))) (n a47 (n a79v1 (n a143 (n a271 (n a527 (n a1039 z z) z) (n a783 (n a1295 z z) z)) (n a399 (n a655 (n a1167 z z) z) (n a911 (n a1423 z z) z))) (n a207 (n a335 (n a591 (n a1103 z z) z) (n a847 (n a1359 z z) z)) (n a463 (n a719 (n a1231 z z) z) (n a975 (n a1487 z z) z)))) (n a111 (n a175 (n a303 (n a559 (n a1071 z z) z) (n a815 (n a1327 z z) z)) (n a431 (n a687 (n a1199 z z) z) (n a943 (n a1455 z z) z))) (n a239 (n a367 (n a623 (n a1135 z z) z) (n a879 (n a1391 z z) z)) (n a495 (n a751 (n a1263 z z) z) (n a1007 z z)))))) (n a23 (n a39 (n a71 (n a135 (n a263 (n a519 (n a1031 z z) z) (n a775 (n a1287 z z) z)) (n a391 (n a647 (n a1159 z z) z) (n a903 (n a1415 z z) z))) (n a199 (n a327 (n a583 (n a1095 z z) z) (n a839 (n a1351 z z) z)) (n a455 (n a711 (n a1223 z z) z) (n a967 (n a1479 z z) z)))) (n a103 (n a167 (n a295 (n a551 (n a1063 z z) z) (n a807 (n a1319 z z) z)) (n a423 (n a679 (n a1191 z z) z) (n a935 (n a1447 z z) z))) (n a231 (n a359 (n a615 (n a1127 z z) z) (n a871 (n a1383 z z) z)) (n a487 (n a743 (n a1255 z z) z) (n a999 (n a1511 z z) z))))) (n a55 (n a87 (n a151 (n a279 (n a535 (n a1047 z z) z) (n a791 (n a1303 z z) z)) (n a407 (n a663 (n a1175 z z) z) (n a919 (n a1431 z z) z))) (n a215 (n a343 (n a599 (n a1111 z z) z) (n a855 (n a1367 z z) z)) (n a471 (n a727 (n a1239 z z) z) (n a983 (n a1495 z z) z)))) (n a119 (n a183 (n a311 (n a567 (n a1079 z z) z) (n a823 (n a1335 z z) z)) (n a439 (n a695 (n a1207 z z) z) (n a951 (n a1463 z z) z))) (n a247 (n a375 (n a631 (n a1143 z z) z) (n a887 (n a1399 z z) z)) (n a503 (n a759 (n a1271 z z) z) (n a1015 z z))))))) (n (a11 P) (n a19 (n a35 (n a67 (n a131 (n a259 (n a515 (n a1027 z z) z) (n a771 (n a1283 z z) z)) (n a387 (n a643 (n a1155 z z) z) (n a899 (n a1411 z z) z))) (n a195 (n a323 (n a579 (n a1091 z z) z) (n a835 (n a1347 z z) z)) (n a451 (n a707 (n a1219 z z) z) (n a963 (n a1475 z z) z)))) (n a99 (n a163 (n a291 (n a547 (n a1059 z z) z) (n a803 (n a1315 z z) z)) (n a419 (n a675 (n a1187 z z) z) (n a931 (n a1443 z z) z))) (n a227 (n a355 (n a611 (n a1123 z z) z) (n a867 (n a1379 z z) z)) (n a483 (n a739 (n a1251 z z) z) (n a995 (n a1507 z z) z))))) (n a51 (n a83 (n a147 (n a275 (n a531 (n a1043 z z) z) (n a787 (n a1299 z z) z)) (n a403 (n a659 (n a1171 z z) z) (n a915 (n a1427 z z) z))) (n a211 (n a339 (n a595 (n a1107 z z) z) (n a851 (n a1363 z z) z)) (n a467 (n a723 (n a1235 z z) z) (n a979 (n a1491 z z) z)))) (n a115 (n a179 (n (a307 P) (n a563 (n a1075 z z) z) (n a819 (n a1331 z z) z)) (n a435 (n a691 (n a1203 z z) z) (n a947 (n a1459 z z) z))) (n a243 (n a371 (n a627 (n a1139 z z) z) (n a883 (n a1395 z z) z)) (n a499 (n a755 (n a1267 z z) z) (n a1011 z z)))))) (n a27 (n a43 (n a75 (n a139 (n a267 (n a523 (n a1035 z z) z) (n a779 (n a1291 z z) z)) (n a395 (n a651 (n a1163 z z) z) (n a907 (n a1419 z z) z))) (n a203 (n a331 (n a587 (n a1099 z z) z) (n a843 (n a1355 z z) z)) (n a459 (n a715 (n a1227 z z) z) (n a971 (n a1483 z z) z)))) (n a107 (n a171 (n (a299 P) (n a555 (n (a1067 P) z z) z) (n a811 (n a1323 z z) z)) (n a427 (n a683 (n a1195 z z) z) (n a939 (n a1451 z z) z))) (n a235 (n a363 (n a619 (n a1131 z z) z) (n a875 (n a1387 z z) z)) (n a491 (n a747 (n a1259 z z) z) (n a1003 (n a1515 z z) z))))) (n a59 (n (a91 P) (n a155 (n a283 (n a539 (n a1051 z z) z) (n a795 (n a1307 z z) z)) (n a411 (n a667 (n a1179 z z) z) (n a923 (n a1435 z z) z))) (n a219 (n a347 (n a603 (n a1115 z z) z) (n a859 (n a1371 z z) z)) (n a475 (n (a731 P) (n a1243 z z) z) (n a987 (n a1499 z z) z)))) (n a123 (n a187 (n a315 (n a571 (n a1083 z z) z) (n a827 (n a1339 z z) z)) (n a443 (n a699 (n a1211 z z) z) (n a955 (n a1467 z z) z))) (n a251 (n a379 (n a635 (n a1147 z z) z) (n a891 (n a1403 z z) z)) (n a507 (n a763 (n a1275 z z) z) (n a1019 z z)))))))) (n a5 (n a9 (n a17 (n a33 (n a65 (n a129 (n (a257 P) (n a513 (n a1025 z z) z) (n a769 (n a1281 z z) z)) (n a385 (n a641 (n a1153 z z) z) (n a897 (n a1409 z z) z))) (n a193 (n a321 (n a577 (n a1089 z z) z) (n a833 (n a1345 z z) z)) (n a449 (n a705 (n a1217 z z) z) (n a961 (n a1473 z z) z)))) (n (a97 P) (n a161 (n a289 (n a545 (n a1057 z z) z) (n a801 (n a1313 z z) z)) (n a417 (n a673 (n a1185 z z) z) (n a929 (n a1441 z z) z))) (n a225 (n a353 (n a609 (n a1121 z z) z) (n a865 (n a1377 z z) z)) (n a481 (n a737 (n a1249 z z) z) (n a993 (n a1505 z z) z))))) (n a49 (n a81 (n a145 (n a273 (n a529 (n a1041 z z) z) (n a785 (n a1297 z z) z)) (n a401 (n a657 (n a1169 z z) z) (n a913 (n a1425 z z) z))) (n a209 (n a337 (n a593 (n a1105 z z) z) (n a849 (n a1361 z z) z)) (n a465 (n a721 (n a1233 z z) z) (n a977 (n a1489 z z) z)))) (n a113 (n a177 (n a305 (n a561 (n a1073 z z) z) (n a817 (n a1329 z z) z)) (n a433 (n a689 (n a1201 z z) z) (n (a945 P) (n a1457 z z) z))) (n a241 (n a369 (n a625 (n a1137 z z) z) (n a881 (n a1393 z z) z)) (n a497 (n a753 (n a1265 z z) z) (n a1009 z z)))))) (n a25 (n a41 (n a73 (n a137 (n (a265 P) (n a521 (n a1033 z z) z) (n a777 (n a1289 z z) z)) (n a393 (n a649 (n a1161 z z) z) (n a905 (n a1417 z z) z))) (n a201 (n a329 (n a585 (n (a1097 P) z z) z) (n a841 (n a1353 z z) z)) (n a457 (n a713 (n a1225 z z) z) (n a969 (n a1481 z z) z)))) (n a105 (n a169 (n a297 (n a553 (n a1065 z z) z) (n (a809 P) (n a1321 z z) z)) (n a425 (n a681 (n a1193 z z) z) (n a937 (n a1449 z z) z))) (n a233 (n a361 (n a617 (n a1129 z z) z) (n a873 (n a1385 z z) z)) (n a489 (n a745 (n a1257 z z) z) (n a1001 (n a1513 z z) z))))) (n a57 (n a89 (n a153 (n a281 (n a537 (n a1049 z z) z) (n a793 (n a1305 z z) z)) (n a409 (n a665 (n a1177 z z) z) (n a921 (n a1433 z z) z))) (n a217 (n a345 (n a601 (n a1113 z z) z) (n a857 (n a1369 z z) z)) (n a473 (n a729 (n a1241 z z) z) (n a985 (n a1497 z z) z)))) (n a121 (n a185 (n a313 (n a569 (n a1081 z z) z) (n a825 (n a1337 z z) z)) (n a441 (n a697 (n a1209 z z) z) (n (a953 P) (n a1465 z z) z))) (n a249 (n a377 (n a633 (n a1145 z z) z) (n (a889 P) (n a1401 z z) z)) (n a505 (n a761 (n a1273 z z) z) (n a1017 z z))))))) (n (a13 P) (n (a21 P) (n a37 (n a69 (n a133 (n a261 (n (a517 P) (n a1029 z z) z) (n a773 (n a1285 z z) z)) (n a389 (n a645 (n a1157 z z) z) (n a901 (n a1413 z z) z))) (n a197 (n a325 (n a581 (n a1093 z z) z) (n a837 (n a1349 z z) z)) (n a453 (n a709 (n a1221 z z) z) (n (a965 P) (n a1477 z z) z)))) (n a101 (n a165 (n a293 (n a549 (n (a1061 P) z z) z) (n a805 (n a1317 z z) z)) (n a421 (n a677 (n a1189 z z) z) (n a933 (n a1445 z z) z))) (n a229 (n a357 (n a613 (n a1125 z z) z) (n a869 (n a1381 z z) z)) (n a485 (n a741 (n a1253 z z) z) (n a997 (n a1509 z z) z))))) (n a53 (n (a85 P) (n a149 (n a277 (n a533 (n a1045 z z) z) (n (a789 P) (n a1301 z z) z)) (n a405 (n a661 (n a1173 z z) z) (n a917 (n a1429 z z) z))) (n a213 (n (a341 P) (n a597 (n a1109 z z) z) (n a853 (n a1365 z z) z)) (n a469 (n a725 (n a1237 z z) z) (n a981 (n a1493 z z) z)))) (n a117 (n a181 (n a309 (n a565 (n a1077 z z) z) (n a821 (n a1333 z z) z)) (n a437 (n a693 (n a1205 z z) z) (n a949 (n a1461 z z) z))) (n a245 (n a373 (n a629 (n a1141 z z) z) (n a885 (n a1397 z z) z)) (n a501 (n a757 (n a1269 z z) z) (n a1013 z z)))))) (n a29v26 (n a45 (n a77 (n a141 (n a269 (n (a525 P) (n a1037 z z) z) (n (a781 P) (n a1293 z z) z)) (n a397 (n a653 (n a1165 z z) z) (n a909 (n a1421 z z) z))) (n a205 (n a333 (n a589 (n a1101 z z) z) (n a845 (n a1357 z z) z)) (n a461 (n a717 (n a1229 z z) z) (n a973 (n a1485 z z) z)))) (n a109 (n a173 (n a301 (n a557 (n a1069 z z) z) (n a813 (n a1325 z z) z)) (n a429 (n a685 (n a1197 z z) z) (n a941 (n a1453 z z) z))) (n a237 (n a365 (n a621 (n a1133 z z) z) (n a877 (n a1389 z z) z)) (n a493 (n a749 (n a1261 z z) z) (n a1005 z z))))) (n a61 (n a93 (n a157 (n a285 (n a541 (n a1053 z z) z) (n a797 (n a1309 z z) z)) (n a413 (n a669 (n a1181 z z) z) (n a925 (n a1437 z z) z))) (n a221 (n a349 (n a605 (n a1117 z z) z) (n a861 (n a1373 z z) z)) (n a477 (n a733 (n a1245 z z) z) (n a989 (n a1501 z z) z)))) (n a125 (n a189 (n a317 (n a573 (n a1085 z z) z) (n a829 (n a1341 z z) z)) (n a445 (n a701 (n a1213 z z) z) (n a957 (n a1469 z z) z))) (n a253 (n a381 (n a637 (n a1149 z z) z) (n a893 (n a1405 z z) z)) (n a509 (n a765 (n a1277 z z) z) (n a1021 z z))))))))) (n (a2v1 P) (n a4 (n a8 (n a16 (n a32 (n a64 (n a128 (n a256 (n a512 (n a1024 z z) z) (n a768 (n a1280 z z) z)) (n a384 (n a640 (n a1152 z z) z) (n a896 (n a1408 z z) z))) (n a192 (n a320 (n a576 (n a1088 z z) z) (n a832 (n a1344 z z) z)) (n a448 (n a704 (n a1216 z z) z) (n a960 (n a1472 z z) z)))) (n a96 (n a160 (n a288 (n a544 (n a1056 z z) z) (n a800 (n a1312 z z) z)) (n a416 (n a672 (n a1184 z z) z) (n a928 (n a1440 z z) z))) (n a224 (n a352 (n a608 (n a1120 z z) z) (n a864 (n a1376 z z) z)) (n a480 (n a736 (n a1248 z z) z) (n a992 (n a1504 z z) z))))) (n a48 (n a80 (n a144 (n a272 (n a528 (n a1040 z z) z) (n a784 (n a1296 z z) z)) (n a400 (n a656 (n a1168 z z) z) (n a912 (n a1424 z z) z))) (n a208 (n a336 (n a592 (n a1104 z z) z) (n a848 (n a1360 z z) z)) (n a464 (n a720 (n a1232 z z) z) (n a976 (n a1488 z z) z)))) (n a112 (n a176 (n a304 (n (a560 P) (n a1072 z z) z) (n a816 (n a1328 z z) z)) (n (a432 P) (n a688 (n a1200 z z) z) (n a944 (n a1456 z z) z))) (n a240 (n a368 (n a624 (n a1136 z z) z) (n a880 (n a1392 z z) z)) (n a496 (n a752 (n a1264 z z) z) (n a1008 z z)))))) (n a24 (n a40 (n (a72 P) (n a136 (n a264 (n a520 (n a1032 z z) z) (n a776 (n a1288 z z) z)) (n a392 (n a648 (n a1160 z z) z) (n a904 (n a1416 z z) z))) (n a200 (n a328 (n a584 (n a1096 z z) z) (n a840 (n a1352 z z) z)) (n a456 (n a712 (n a1224 z z) z) (n a968 (n a1480 z z) z)))) (n a104 (n a168 (n a296 (n a552 (n a1064 z z) z) (n a808 (n a1320 z z) z)) (n a424 (n a680 (n a1192 z z) z) (n a936 (n a1448 z z) z))) (n a232 (n a360 (n a616 (n a1128 z z) z) (n a872 (n a1384 z z) z)) (n a488 (n a744 (n a1256 z z) z) (n a1000 (n a1512 z z) z))))) (n a56 (n a88 (n a152 (n a280 (n a536 (n a1048 z z) z) (n a792 (n a1304 z z) z)) (n a408 (n a664 (n a1176 z z) z) (n a920 (n a1432 z z) z))) (n a216 (n a344 (n a600 (n a1112 z z) z) (n a856 (n a1368 z z) z)) (n a472 (n a728 (n a1240 z z) z) (n a984 (n a1496 z z) z)))) (n a120 (n a184 (n a312 (n (a568 P) (n a1080 z z) z) (n a824 (n a1336 z z) z)) (n (a440 P) (n a696 (n a1208 z z) z) (n a952 (n a1464 z z) z))) (n a248 (n a376 (n a632 (n a1144 z z) z) (n a888 (n a1400 z z) z)) (n a504 (n a760 (n a1272 z z) z) (n a1016 z z))))))) (n a12 (n (a20 P) (n a36 (n a68 (n (a132 P) (n a260 (n a516 (n a1028 z z) z) (n a772 (n a1284 z z) z)) (n a388 (n (a644 P) (n a1156 z z) z) (n a900 (n a1412 z z) z))) (n a196 (n a324 (n a580 (n a1092 z z) z) (n a836 (n a1348 z z) z)) (n a452 (n a708 (n a1220 z z) z) (n a964 (n a1476 z z) z)))) (n a100 (n a164 (n a292 (n a548 (n a1060 z z) z) (n a804 (n a1316 z z) z)) (n a420 (n a676 (n a1188 z z) z) (n a932 (n a1444 z z) z))) (n a228 (n (a356 P) (n a612 (n a1124 z z) z) (n a868 (n a1380 z z) z)) (n a484 (n a740 (n a1252 z z) z) (n a996 (n a1508 z z) z))))) (n a52 (n a84 (n a148 (n a276 (n a532 (n a1044 z z) z) (n a788 (n a1300 z z) z)) (n a404 (n a660 (n a1172 z z) z) (n a916 (n a1428 z z) z))) (n (a212 P) (n a340 (n a596 (n a1108 z z) z) (n a852 (n a1364 z z) z)) (n a468 (n a724 (n a1236 z z) z) (n a980 (n a1492 z z) z)))) (n a116 (n a180 (n a308 (n a564 (n a1076 z z) z) (n a820 (n a1332 z z) z)) (n a436 (n a692 (n a1204 z z) z) (n a948 (n a1460 z z) z))) (n a244 (n a372 (n a628 (n a1140 z z) z) (n a884 (n a1396 z z) z)) (n a500 (n a756 (n a1268 z z) z) (n a1012 z z)))))) (n a28 (n a44 (n a76 (n (a140 P) (n a268 (n a524 (n a1036 z z) z) (n a780 (n a1292 z z) z)) (n a396 (n a652 (n a1164 z z) z) (n a908 (n a1420 z z) z))) (n a204 (n a332 (n a588 (n a1100 z z) z) (n a844 (n a1356 z z) z)) (n a460 (n a716 (n a1228 z z) z) (n a972 (n a1484 z z) z)))) (n a108 (n a172 (n a300 (n a556 (n (a1068 P) z z) z) (n a812 (n a1324 z z) z)) (n a428 (n a684 (n a1196 z z) z) (n a940 (n a1452 z z) z))) (n a236 (n a364 (n a620 (n a1132 z z) z) (n a876 (n a1388 z z) z)) (n a492 (n a748 (n a1260 z z) z) (n a1004 z z))))) (n a60 (n a92 (n a156 (n a284 (n a540 (n a1052 z z) z) (n a796 (n a1308 z z) z)) (n a412 (n a668 (n a1180 z z) z) (n a924 (n a1436 z z) z))) (n (a220 P) (n a348 (n a604 (n a1116 z z) z) (n a860 (n a1372 z z) z)) (n a476 (n a732 (n a1244 z z) z) (n a988 (n a1500 z z) z)))) (n a124 (n a188 (n a316 (n a572 (n a1084 z z) z) (n a828 (n a1340 z z) z)) (n a444 (n a700 (n a1212 z z) z) (n a956 (n a1468 z z) z))) (n a252 (n a380 (n a636 (n a1148 z z) z) (n a892 (n a1404 z z) z)) (n a508 (n a764 (n (a1276 P) z z) z) (n a1020 z z)))))))) (n a6 (n a10 (n a18 (n a34 (n a66 (n a130 (n a258 (n a514 (n a1026 z z) z) (n a770 (n a1282 z z) z)) (n a386 (n a642 (n a1154 z z) z) (n a898 (n a1410 z z) z))) (n a194 (n a322 (n a578 (n a1090 z z) z) (n (a834 P) (n a1346 z z) z)) (n a450 (n a706 (n a1218 z z) z) (n a962 (n a1474 z z) z)))) (n a98 (n a162 (n a290 (n a546 (n a1058 z z) z) (n a802 (n a1314 z z) z)) (n a418 (n a674 (n a1186 z z) z) (n a930 (n a1442 z z) z))) (n a226 (n a354 (n (a610 P) (n a1122 z z) z) (n a866 (n a1378 z z) z)) (n (a482 P) (n a738 (n a1250 z z) z) (n a994 (n a1506 z z) z))))) (n a50 (n a82 (n a146 (n a274 (n a530 (n a1042 z z) z) (n a786 (n a1298 z z) z)) (n a402 (n a658 (n a1170 z z) z) (n a914 (n a1426 z z) z))) (n a210 (n a338 (n a594 (n a1106 z z) z) (n a850 (n a1362 z z) z)) (n a466 (n a722 (n a1234 z z) z) (n a978 (n a1490 z z) z)))) (n a114 (n a178 (n a306 (n a562 (n a1074 z z) z) (n a818 (n a1330 z z) z)) (n a434 (n a690 (n a1202 z z) z) (n a946 (n a1458 z z) z))) (n a242 (n a370 (n a626 (n a1138 z z) z) (n a882 (n a1394 z z) z)) (n a498 (n a754 (n a1266 z z) z) (n a1010 z z)))))) (n a26 (n a42 (n a74 (n a138 (n a266 (n a522 (n a1034 z z) z) (n a778 (n a1290 z z) z)) (n a394 (n a650 (n a1162 z z) z) (n a906 (n a1418 z z) z))) (n a202 (n a330 (n a586 (n a1098 z z) z) (n a842 (n a1354 z z) z)) (n a458 (n a714 (n a1226 z z) z) (n a970 (n a1482 z z) z)))) (n a106 (n a170 (n a298 (n a554 (n (a1066 P) z z) z) (n a810 (n a1322 z z) z)) (n a426 (n a682 (n a1194 z z) z) (n a938 (n a1450 z z) z))) (n a234 (n a362 (n a618 (n a1130 z z) z) (n a874 (n a1386 z z) z)) (n a490 (n a746 (n a1258 z z) z) (n a1002 (n a1514 z z) z))))) (n a58 (n a90 (n a154 (n a282 (n a538 (n a1050 z z) z) (n a794 (n a1306 z z) z)) (n a410 (n a666 (n a1178 z z) z) (n a922 (n (a1434 P) z z) z))) (n a218 (n a346 (n (a602 P) (n a1114 z z) z) (n a858 (n a1370 z z) z)) (n (a474 P) (n a730 (n a1242 z z) z) (n a986 (n a1498 z z) z)))) (n a122 (n a186 (n a314 (n a570 (n a1082 z z) z) (n a826 (n a1338 z z) z)) (n a442 (n a698 (n a1210 z z) z) (n a954 (n a1466 z z) z))) (n a250 (n a378 (n a634 (n a1146 z z) z) (n a890 (n a1402 z z) z)) (n a506 (n a762 (n a1274 z z) z) (n a1018 z z))))))) (n a14 (n a22 (n a38 (n a70 (n a134 (n a262 (n a518 (n a1030 z z) z) (n a774 (n a1286 z z) z)) (n (a390 P) (n a646 (n a1158 z z) z) (n a902 (n a1414 z z) z))) (n a198 (n a326 (n a582 (n a1094 z z) z) (n a838 (n a1350 z z) z)) (n a454 (n a710 (n a1222 z z) z) (n a966 (n a1478 z z) z)))) (n a102 (n a166 (n a294 (n a550 (n a1062 z z) z) (n a806 (n a1318 z z) z)) (n a422 (n a678 (n a1190 z z) z) (n a934 (n a1446 z z) z))) (n a230 (n a358 (n a614 (n a1126 z z) z) (n a870 (n a1382 z z) z)) (n a486 (n a742 (n a1254 z z) z) (n a998 (n a1510 z z) z))))) (n a54 (n a86 (n a150 (n a278 (n a534 (n a1046 z z) z) (n a790 (n a1302 z z) z)) (n a406 (n a662 (n a1174 z z) z) (n a918 (n a1430 z z) z))) (n a214 (n a342 (n a598 (n a1110 z z) z) (n a854 (n a1366 z z) z)) (n a470 (n a726 (n a1238 z z) z) (n a982 (n a1494 z z) z)))) (n a118 (n (a182 P) (n a310 (n a566 (n a1078 z z) z) (n a822 (n a1334 z z) z)) (n a438 (n a694 (n a1206 z z) z) (n a950 (n a1462 z z) z))) (n a246 (n a374 (n a630 (n a1142 z z) z) (n a886 (n a1398 z z) z)) (n a502 (n a758 (n a1270 z z) z) (n a1014 z z)))))) (n a30 (n a46 (n (a78 P) (n a142 (n a270 (n a526 (n a1038 z z) z) (n a782v1 (n a1294 z z) z)) (n (a398 P) (n a654 (n a1166 z z) z) (n a910 (n a1422 z z) z))) (n a206 (n a334 (n a590 (n a1102 z z) z) (n a846 (n a1358 z z) z)) (n a462 (n a718 (n a1230 z z) z) (n a974 (n a1486 z z) z)))) (n a110 (n (a174 P) (n a302 (n a558 (n a1070 z z) z) (n a814 (n a1326 z z) z)) (n a430 (n a686 (n a1198 z z) z) (n a942 (n a1454 z z) z))) (n a238 (n a366 (n a622 (n a1134 z z) z) (n a878 (n a1390 z z) z)) (n a494 (n a750 (n a1262 z z) z) (n a1006 z z))))) (n a62 (n a94 (n a158 (n a286 (n a542 (n a1054 z z) z) (n a798 (n a1310 z z) z)) (n a414 (n a670 (n a1182 z z) z) (n a926 (n a1438 z z) z))) (n a222 (n a350 (n a606 (n a1118 z z) z) (n a862 (n a1374 z z) z)) (n a478 (n a734 (n a1246 z z) z) (n a990 (n a1502 z z) z)))) (n a126 (n a190 (n a318 (n a574 (n a1086 z z) z) (n a830 (n a1342 z z) z)) (n a446 (n a702 (n a1214 z z) z) (n a958 (n a1470 z z) z))) (n a254 (n a382 (n a638 (n a1150 z z) z) (n a894 (n a1406 z z) z)) (n a510 (n a766 (n a1278 z z) z) (n (a1022 P) z z))))))))))
def a11e (P : Params) : Obj := ⟨(T "dict"), none, (.dict #[E P "__name__" 247 (V "_sre" 246), E P "__doc__" 248 N, E P "__package__" 250 (V "" 249), E P "__loader__" 251 (R 14), E P "__spec__" 252 (R 26), E P "compile" 253 (U "_sre.compile"), E P "template" 254 (U "_sre.template"), E P "getcodesize" 255 (U "_sre.getcodesize"), E P "ascii_iscased" 256 (U "_sre.ascii_iscased"), E P "unicode_iscased" 257 (U "_sre.unicode_iscased"), E P "ascii_tolower" 258 (U "_sre.ascii_tolower"), E P "unicode_tolower" 259 (U "_sre.unicode_tolower"), E P "MAGIC" 261 (I 20230612 260), E P "CODESIZE" 263 (I 4 262), E P "MAXREPEAT" 265 (I 4294967295 264), E P "MAXGROUPS" 267 (I 1073741823 266), E P "copyright" 269 (V " SRE 2.2.2 Copyright (c) 1997-2002 by Secret Labs AB " 268)] 17), #[]⟩
def Te (P : Params) : BT := (n (a0 P) (n (a1 P) (n (a3 P) (n a7 (n a15 z z) (n a23 z z)) (n (a11e P) (n a19 z z) (n a27 z z))) (n a5 (n a9 (n a17 z z) (n a25 z z)) (n (a13 P) (n (a21 P) z z) z))) (n (a2 P) (n a4 (n a8 (n a16 z z) (n a24 z z)) (n a12 (n (a20 P) z z) z)) (n a6 (n a10 (n a18 z z) (n a26 z z)) (n a14 (n a22 z z) z))))
end Mine.H
namespace Mine.H
open PySem PySem.W PyProof.Rows
/-- the code lists of the text's compiled patterns are well formed -/
def w0 : List Nat := [14, 4, 0, 0, 4294967295, 23, 124, 0, 4294967295, 17, 0, 7, 16, 13, 12, 21, 9, 13312, 128, 268435456, 0, 0, 0, 0, 0, 0, 15, 101, 29, 16, 92, 7, 5, 16, 10, 15, 19, 7, 16, 13, 16, 10, 15, 12, 5, 16, 13, 15, 7, 5, 16, 12, 15, 2, 0, 15, 72, 52, 16, 92, 17, 2, 24, 13, 1, 6, 39, 8, 22, 48, 57, 22, 97, 102, 0, 1, 17, 3, 23, 27, 0, 1, 7, 7, 16, 13, 16, 10, 15, 17, 15, 13, 11, 9, 13824, 1, 0, 0, 0, 0, 0, 0, 0, 15, 2, 0, 18, 15, 20, 18, 16, 92, 39, 12, 21, 9, 13312, 67043328, 0, 126, 0, 0, 0, 0, 0, 15, 2, 0, 17, 1, 18, 1]
def w1 : List Nat := [14, 4, 0, 0, 4294967295, 23, 124, 0, 4294967295, 17, 0, 7, 16, 13, 12, 21, 9, 13312, 4, 268435456, 0, 0, 0, 0, 0, 0, 15, 101, 29, 16, 92, 7, 5, 16, 10, 15, 19, 7, 16, 13, 16, 10, 15, 12, 5, 16, 13, 15, 7, 5, 16, 12, 15, 2, 0, 15, 72, 52, 16, 92, 17, 2, 24, 13, 1, 6, 39, 8, 22, 48, 57, 22, 97, 102, 0, 1, 17, 3, 23, 27, 0, 1, 7, 7, 16, 13, 16, 10, 15, 17, 15, 13, 11, 9, 13824, 1, 0, 0, 0, 0, 0, 0, 0, 15, 2, 0, 18, 15, 20, 18, 16, 92, 39, 12, 21, 9, 13312, 67043328, 0, 126, 0, 0, 0, 0, 0, 15, 2, 0, 17, 1, 18, 1]
def w2 : List Nat := [14, 4, 0, 1, 4294967295, 6, 0, 24, 16, 0, 4294967295, 13, 11, 9, 13824, 1, 0, 0, 0, 0, 0, 0, 0, 1, 17, 0, 24, 13, 1, 4294967295, 13, 8, 22, 97, 122, 22, 65, 90, 0, 1, 17, 1, 24, 16, 0, 4294967295, 13, 11, 9, 13824, 1, 0, 0, 0, 0, 0, 0, 0, 1, 6, 5, 1]
def w3 : List Nat := [14, 4, 0, 2, 4294967295, 6, 0, 24, 16, 0, 4294967295, 13, 11, 9, 13824, 1, 0, 0, 0, 0, 0, 0, 0, 1, 17, 0, 24, 13, 0, 4294967295, 13, 8, 22, 97, 122, 22, 65, 90, 0, 1, 17, 1, 16, 35, 17, 2, 24, 16, 1, 4294967295, 13, 11, 9, 0, 67051520, 2281701374, 134217726, 0, 0, 0, 0, 0, 1, 17, 3, 24, 16, 0, 4294967295, 13, 11, 9, 13824, 1, 0, 0, 0, 0, 0, 0, 0, 1, 6, 5, 1]
def w4 : List Nat := [14, 4, 0, 2, 4294967295, 6, 0, 24, 16, 0, 4294967295, 13, 11, 9, 13824, 1, 0, 0, 0, 0, 0, 0, 0, 1, 17, 0, 24, 13, 0, 4294967295, 13, 8, 22, 97, 122, 22, 65, 90, 0, 1, 17, 1, 16, 46, 17, 2, 13, 8, 22, 97, 122, 22, 65, 90, 0, 24, 16, 0, 4294967295, 13, 11, 9, 0, 67051520, 2281701374, 134217726, 0, 0, 0, 0, 0, 1, 17, 3, 24, 16, 0, 4294967295, 13, 11, 9, 13824, 1, 0, 0, 0, 0, 0, 0, 0, 1, 6, 5, 1]
def w5 : List Nat := [14, 4, 0, 1, 4294967295, 24, 16, 1, 4294967295, 13, 11, 9, 13824, 1, 0, 0, 0, 0, 0, 0, 0, 1, 1]
def w6 : List Nat := [14, 4, 0, 1, 4294967295, 24, 11, 0, 1, 13, 6, 16, 43, 16, 45, 0, 1, 7, 27, 24, 10, 0, 4294967295, 13, 5, 22, 48, 57, 0, 1, 16, 46, 24, 10, 1, 4294967295, 13, 5, 22, 48, 57, 0, 1, 15, 16, 14, 24, 10, 1, 4294967295, 13, 5, 22, 48, 57, 0, 1, 15, 2, 0, 1]
def w7 : List Nat := [14, 8, 1, 2, 4294967295, 1, 1, 35, 0, 16, 35, 23, 268, 1, 4294967295, 7, 96, 39, 92, 10, 3, 33685760, 33686018, 33686018, 33686018, 33686018, 33686018, 33686018, 33686018, 33686018, 33686018, 33686018, 33686018, 33686018, 33686018, 33686018, 33686018, 33686018, 33686018, 33686018, 33686018, 33686018, 33686018, 33686018, 33686018, 33686018, 33686018, 33686018, 33686018, 33686018, 33686018, 33686018, 33686018, 33686018, 33686018, 33686018, 33686018, 33686018, 33686018, 33686018, 33686018, 33686018, 33686018, 33686018, 33686018, 33686018, 33686018, 33686018, 33686018, 33686018, 33686018, 33686018, 33686018, 33686018, 33686018, 33686018, 33686018, 33686018, 33686018, 33686018, 33686018, 33686018, 33686018, 33686018, 33686018, 0, 67051520, 2147483648, 134217726, 0, 0, 0, 0, 0, 131072, 0, 2147483648, 0, 0, 0, 0, 0, 0, 0, 0, 0, 0, 0, 0, 0, 15, 169, 52, 16, 92, 17, 0, 24, 13, 1, 6, 39, 8, 22, 48, 57, 22, 97, 102, 0, 1, 17, 1, 23, 27, 0, 1, 7, 7, 16, 13, 16, 10, 15, 17, 15, 13, 11, 9, 13824, 1, 0, 0, 0, 0, 0, 0, 0, 15, 2, 0, 18, 15, 117, 18, 16, 92, 39, 12, 21, 9, 13312, 67043328, 0, 126, 0, 0, 0, 0, 0, 15, 99, 97, 39, 93, 21, 10, 3, 33685760, 33686018, 33686018, 33686018, 33686018, 33686018, 33686018, 33686018, 33686018, 33686018, 33686018, 33686018, 33686018, 33686018, 33686018, 33686018, 33686018, 33686018, 33686018, 33686018, 33686018, 33686018, 33686018, 33686018, 33686018, 33686018, 33686018, 33686018, 33686018, 33686018, 33686018, 33686018, 33686018, 33686018, 33686018, 33686018, 33686018, 33686018, 33686018, 33686018, 33686018, 33686018, 33686018, 33686018, 33686018, 33686018, 33686018, 33686018, 33686018, 33686018, 33686018, 33686018, 33686018, 33686018, 33686018, 33686018, 33686018, 33686018, 33686018, 33686018, 33686018, 33686018, 33686018, 33686018, 4294967295, 4294967295, 4160749569, 4294967295, 0, 0, 0, 0, 0, 131072, 0, 2147483648, 0, 0, 0, 0, 0, 0, 0, 0, 0, 0, 0, 0, 0, 15, 2, 0, 18, 1]
def w8 : List Nat := [14, 4, 0, 1, 4294967295, 24, 6, 0, 1, 16, 45, 1, 7, 96, 39, 92, 10, 3, 33685760, 33686018, 33686018, 33686018, 33686018, 33686018, 33686018, 33686018, 33686018, 33686018, 33686018, 33686018, 33686018, 33686018, 33686018, 33686018, 33686018, 33686018, 33686018, 33686018, 33686018, 33686018, 33686018, 33686018, 33686018, 33686018, 33686018, 33686018, 33686018, 33686018, 33686018, 33686018, 33686018, 33686018, 33686018, 33686018, 33686018, 33686018, 33686018, 33686018, 33686018, 33686018, 33686018, 33686018, 33686018, 33686018, 33686018, 33686018, 33686018, 33686018, 33686018, 33686018, 33686018, 33686018, 33686018, 33686018, 33686018, 33686018, 33686018, 33686018, 33686018, 33686018, 33686018, 33686018, 0, 0, 2147483648, 134217726, 0, 0, 0, 0, 0, 131072, 0, 2147483648, 0, 0, 0, 0, 0, 0, 0, 0, 0, 0, 0, 0, 0, 15, 169, 52, 16, 92, 17, 0, 24, 13, 1, 6, 39, 8, 22, 48, 57, 22, 97, 102, 0, 1, 17, 1, 23, 27, 0, 1, 7, 7, 16, 13, 16, 10, 15, 17, 15, 13, 11, 9, 13824, 1, 0, 0, 0, 0, 0, 0, 0, 15, 2, 0, 18, 15, 117, 18, 16, 92, 39, 12, 21, 9, 13312, 67043328, 0, 126, 0, 0, 0, 0, 0, 15, 99, 97, 39, 93, 21, 10, 3, 33685760, 33686018, 33686018, 33686018, 33686018, 33686018, 33686018, 33686018, 33686018, 33686018, 33686018, 33686018, 33686018, 33686018, 33686018, 33686018, 33686018, 33686018, 33686018, 33686018, 33686018, 33686018, 33686018, 33686018, 33686018, 33686018, 33686018, 33686018, 33686018, 33686018, 33686018, 33686018, 33686018, 33686018, 33686018, 33686018, 33686018, 33686018, 33686018, 33686018, 33686018, 33686018, 33686018, 33686018, 33686018, 33686018, 33686018, 33686018, 33686018, 33686018, 33686018, 33686018, 33686018, 33686018, 33686018, 33686018, 33686018, 33686018, 33686018, 33686018, 33686018, 33686018, 33686018, 33686018, 4294967295, 4294967295, 4160749569, 4294967295, 0, 0, 0, 0, 0, 131072, 0, 2147483648, 0, 0, 0, 0, 0, 0, 0, 0, 0, 0, 0, 0, 0, 15, 2, 0, 23, 268, 0, 4294967295, 7, 96, 39, 92, 10, 3, 33685760, 33686018, 33686018, 33686018, 33686018, 33686018, 33686018, 33686018, 33686018, 33686018, 33686018, 33686018, 33686018, 33686018, 33686018, 33686018, 33686018, 33686018, 33686018, 33686018, 33686018, 33686018, 33686018, 33686018, 33686018, 33686018, 33686018, 33686018, 33686018, 33686018, 33686018, 33686018, 33686018, 33686018, 33686018, 33686018, 33686018, 33686018, 33686018, 33686018, 33686018, 33686018, 33686018, 33686018, 33686018, 33686018, 33686018, 33686018, 33686018, 33686018, 33686018, 33686018, 33686018, 33686018, 33686018, 33686018, 33686018, 33686018, 33686018, 33686018, 33686018, 33686018, 33686018, 33686018, 0, 67051520, 2147483648, 134217726, 0, 0, 0, 0, 0, 131072, 0, 2147483648, 0, 0, 0, 0, 0, 0, 0, 0, 0, 0, 0, 0, 0, 15, 169, 52, 16, 92, 17, 2, 24, 13, 1, 6, 39, 8, 22, 48, 57, 22, 97, 102, 0, 1, 17, 3, 23, 27, 0, 1, 7, 7, 16, 13, 16, 10, 15, 17, 15, 13, 11, 9, 13824, 1, 0, 0, 0, 0, 0, 0, 0, 15, 2, 0, 18, 15, 117, 18, 16, 92, 39, 12, 21, 9, 13312, 67043328, 0, 126, 0, 0, 0, 0, 0, 15, 99, 97, 39, 93, 21, 10, 3, 33685760, 33686018, 33686018, 33686018, 33686018, 33686018, 33686018, 33686018, 33686018, 33686018, 33686018, 33686018, 33686018, 33686018, 33686018, 33686018, 33686018, 33686018, 33686018, 33686018, 33686018, 33686018, 33686018, 33686018, 33686018, 33686018, 33686018, 33686018, 33686018, 33686018, 33686018, 33686018, 33686018, 33686018, 33686018, 33686018, 33686018, 33686018, 33686018, 33686018, 33686018, 33686018, 33686018, 33686018, 33686018, 33686018, 33686018, 33686018, 33686018, 33686018, 33686018, 33686018, 33686018, 33686018, 33686018, 33686018, 33686018, 33686018, 33686018, 33686018, 33686018, 33686018, 33686018, 33686018, 4294967295, 4294967295, 4160749569, 4294967295, 0, 0, 0, 0, 0, 131072, 0, 2147483648, 0, 0, 0, 0, 0, 0, 0, 0, 0, 0, 0, 0, 0, 15, 2, 0, 18, 1]
def w9 : List Nat := [14, 8, 1, 2, 9, 1, 1, 92, 0, 16, 92, 17, 0, 24, 13, 1, 6, 39, 8, 22, 48, 57, 22, 97, 102, 0, 1, 17, 1, 23, 27, 0, 1, 7, 7, 16, 13, 16, 10, 15, 17, 15, 13, 11, 9, 13824, 1, 0, 0, 0, 0, 0, 0, 0, 15, 2, 0, 18, 1]
def w10 : List Nat := [14, 8, 1, 2, 3, 1, 1, 92, 0, 16, 92, 7, 5, 16, 10, 15, 19, 7, 16, 13, 16, 10, 15, 12, 5, 16, 13, 15, 7, 5, 16, 12, 15, 2, 0, 1]
def w11 : List Nat := [14, 4, 0, 1, 4294967295, 6, 0, 13, 11, 9, 0, 0, 2281701374, 134217726, 0, 0, 0, 0, 0, 24, 16, 0, 4294967295, 13, 11, 9, 0, 67067904, 2281701374, 134217726, 0, 0, 0, 0, 0, 1, 6, 5, 1]
def w12 : List Nat := [14, 4, 0, 1, 4294967295, 6, 0, 24, 17, 1, 4294967295, 13, 12, 21, 9, 13824, 1, 0, 0, 0, 0, 0, 0, 0, 1, 6, 5, 1]
theorem wf0 : Sre.wellFormed w0.toArray 2 = true := by decide +kernel
theorem wf1 : Sre.wellFormed w1.toArray 2 = true := by decide +kernel
theorem wf2 : Sre.wellFormed w2.toArray 1 = true := by decide +kernel
theorem wf3 : Sre.wellFormed w3.toArray 2 = true := by decide +kernel
theorem wf4 : Sre.wellFormed w4.toArray 2 = true := by decide +kernel
theorem wf5 : Sre.wellFormed w5.toArray 0 = true := by decide +kernel
theorem wf6 : Sre.wellFormed w6.toArray 0 = true := by decide +kernel
theorem wf7 : Sre.wellFormed w7.toArray 1 = true := by decide +kernel
theorem wf8 : Sre.wellFormed w8.toArray 2 = true := by decide +kernel
theorem wf9 : Sre.wellFormed w9.toArray 1 = true := by decide +kernel
theorem wf10 : Sre.wellFormed w10.toArray 0 = true := by decide +kernel
theorem wf11 : Sre.wellFormed w11.toArray 0 = true := by decide +kernel
theorem wf12 : Sre.wellFormed w12.toArray 0 = true := by decide +kernel
noncomputable def known (l : List Nat) (g : Nat) : Bool := (Nat.beq g 2 && Fast.lEq l w0) || (Nat.beq g 2 && Fast.lEq l w1) || (Nat.beq g 1 && Fast.lEq l w2) || (Nat.beq g 2 && Fast.lEq l w3) || (Nat.beq g 2 && Fast.lEq l w4) || (Nat.beq g 0 && Fast.lEq l w5) || (Nat.beq g 0 && Fast.lEq l w6) || (Nat.beq g 1 && Fast.lEq l w7) || (Nat.beq g 2 && Fast.lEq l w8) || (Nat.beq g 1 && Fast.lEq l w9) || (Nat.beq g 0 && Fast.lEq l w10) || (Nat.beq g 0 && Fast.lEq l w11) || (Nat.beq g 0 && Fast.lEq l w12)
theorem beqN {a b : Nat} : (Nat.beq a b = true) = (a = b) := propext ⟨Nat.eq_of_beq_eq_true, fun h => by subst h; exact Nat.beq_refl a⟩
theorem known_ok {l : List Nat} {g : Nat} (h : known l g = true) : Sre.wellFormed l.toArray g = true := by
  unfold known at h
  simp only [Bool.or_eq_true, Bool.and_eq_true, beqN, Fast.lEq_iff] at h
  rcases h with ((((((((((((⟨rfl, rfl⟩) | ⟨rfl, rfl⟩) | ⟨rfl, rfl⟩) | ⟨rfl, rfl⟩) | ⟨rfl, rfl⟩) | ⟨rfl, rfl⟩) | ⟨rfl, rfl⟩) | ⟨rfl, rfl⟩) | ⟨rfl, rfl⟩) | ⟨rfl, rfl⟩) | ⟨rfl, rfl⟩) | ⟨rfl, rfl⟩) | ⟨rfl, rfl⟩
  · exact wf0
  · exact wf1
  · exact wf2
  · exact wf3
  · exact wf4
  · exact wf5
  · exact wf6
  · exact wf7
  · exact wf8
  · exact wf9
  · exact wf10
  · exact wf11
  · exact wf12
noncomputable def wfk (code : Array Nat) (g : Nat) : Bool := match known code.toList g with
  | true => true
  | false => PySem.W.Fast.tw3018943357349503271 code g
theorem wfk_eq : wfk = PySem.W.Fast.tw3018943357349503271 := by
  funext code g
  unfold wfk
  cases h : known code.toList g with
  | false => rfl
  | true =>
    have := known_ok h
    rw [Array.toArray_toList, PySem.W.Fast.te3018943357349503271] at this
    exact this.symm
noncomputable def cmk : { b : Builtin // b = PySem.W.Fast.tw17745834655568101797 } := by
  refine ⟨?b, ?h⟩
  rotate_left
  · unfold PySem.W.Fast.tw17745834655568101797
    rw [← wfk_eq]
noncomputable def tbk (id : String) : Option Builtin := match id == "_sre.compile" with
  | true => some cmk.1
  | false => PySem.W.Fast.tw14364793385576792824 id
theorem tbk_eq : tbk = PySem.W.Fast.tw14364793385576792824 := by
  funext id
  unfold tbk
  cases h : id == "_sre.compile" with
  | false => rfl
  | true =>
    rw [eq_of_beq h]
    show some cmk.1 = _
    rw [cmk.2]
    kernel_rfl
end Mine.H
namespace Mine.H
open PySem PySem.W
def okV : Value → Bool
  | .int (.ofNat n) _ => Nat.blt n 4294967296
  | _ => false
def toN : Value → Nat
  | .int (.ofNat n) _ => n
  | _ => 0
def okI : List Value → Bool
  | [] => true
  | v :: l => match okV v with
    | true => okI l
    | false => false
def wordsK (body : Value → Array Nat → Sem (ForInStep (Array Nat))) (init : Array Nat) (arr : Array Value) : Sem (Array Nat) :=
  match okI arr.toList with
  | true => pure (init.toList ++ arr.toList.map toN).toArray
  | false => forIn arr init body
theorem words_go {body : Value → Array Nat → Sem (ForInStep (Array Nat))} (hb : ∀ v acc, okV v = true → body v acc = pure (.yield (acc.push (toN v)))) :
    ∀ (l : List Value) (init : Array Nat), okI l = true → forIn l init body = pure (init.toList ++ l.map toN).toArray
  | [], init, _ => by simp
  | v :: l, init, h => by
    cases hv : okV v with
    | false => simp only [okI, hv] at h; cases h
    | true =>
      simp only [okI, hv] at h
      rw [List.forIn_cons, hb v init hv]
      show forIn l (init.push (toN v)) body = _
      rw [words_go hb l _ h]
      simp
theorem words_eq {body : Value → Array Nat → Sem (ForInStep (Array Nat))} (init : Array Nat) (arr : Array Value) (hb : ∀ v acc, okV v = true → body v acc = pure (.yield (acc.push (toN v)))) :
    forIn arr init body = wordsK body init arr := by
  unfold wordsK
  cases h : okI arr.toList with
  | false => rfl
  | true => rw [← Array.forIn_toList, words_go hb _ _ h]
theorem okV_inv {v : Value} (h : okV v = true) : ∃ (n t : Nat), v = .int (.ofNat n) t ∧ n < 4294967296 := by
  cases v with
  | int i t =>
    cases i with
    | ofNat n => exact ⟨n, t, rfl, Nat.le_of_ble_eq_true h⟩
    | negSucc n => cases h
  | _ => cases h
theorem inst_eq {m n : Monad Sem} (e : m = n) {body : Value → Array Nat → Sem (ForInStep (Array Nat))} (init : Array Nat) (arr : Array Value) :
    @forIn Sem (Array Value) Value (@instForInOfForIn' Sem (Array Value) Value (inferInstanceAs (Membership Value (Array Value))) (@Array.instForIn'InferInstanceMembershipOfMonad Value Sem m)) (Array Nat) arr init body
    = @forIn Sem (Array Value) Value (@instForInOfForIn' Sem (Array Value) Value (inferInstanceAs (Membership Value (Array Value))) (@Array.instForIn'InferInstanceMembershipOfMonad Value Sem n)) (Array Nat) arr init body := by subst e; rfl
theorem words_eqT {body : Value → Array Nat → Sem (ForInStep (Array Nat))} (init : Array Nat) (arr : Array Value) (hb : ∀ v acc, okV v = true → body v acc = pure (.yield (acc.push (toN v)))) :
    @forIn Sem (Array Value) Value (@instForInOfForIn' Sem (Array Value) Value (inferInstanceAs (Membership Value (Array Value))) (@Array.instForIn'InferInstanceMembershipOfMonad Value Sem PySem.W.Fast.tw12456147031677567982)) (Array Nat) arr init body = wordsK body init arr :=
  (inst_eq PySem.W.Fast.te12456147031677567982.symm init arr).trans (words_eq init arr hb)
theorem lt1 {n : Nat} : ¬ (Int.ofNat n < 0) := by intro h; exact absurd h (by simp)
theorem lt2 {n k : Nat} (h : n < 2 ^ k) : ¬ (Int.ofNat n ≥ 2 ^ k) := by
  intro q
  have : ((2 : Int) ^ k) = ((2 ^ k : Nat) : Int) := by simp
  rw [ge_iff_le, this] at q
  have := Int.ofNat_le.1 q
  omega
noncomputable def cmk2 : { b : Builtin // b = PySem.W.Fast.tw17745834655568101797 } := by
  refine ⟨?b, ?h⟩
  rotate_left
  · unfold PySem.W.Fast.tw17745834655568101797
    rewrite [← wfk_eq]
    simp (config := { zeta := false, zetaHave := false }) (disch := (
      first | (intro v acc h; obtain ⟨n, t, rfl, hn⟩ := okV_inv h) | fail
      simp only [← PySem.W.Fast.te2398297429280069960, ← PySem.W.Fast.te14601397120926442100]
      rw [← PySem.W.Fast.te12456147031677567982]
      rw [show asInt? (Value.int (Int.ofNat n) t) = pure (some (Int.ofNat n)) from rfl]
      rw [pure_bind]
      exact (if_neg lt1).trans ((if_neg (lt2 (k := 64) (Nat.lt_trans hn (by decide : 4294967296 < 2 ^ 64)))).trans (if_neg (lt2 (k := 32) hn))))) only [words_eqT]
    exact rfl
noncomputable def tbk2 (id : String) : Option Builtin := match id == "_sre.compile" with
  | true => some cmk2.1
  | false => PySem.W.Fast.tw14364793385576792824 id
theorem tbk2_eq : tbk2 = PySem.W.Fast.tw14364793385576792824 := by
  funext id
  unfold tbk2
  cases h : id == "_sre.compile" with
  | false => rfl
  | true =>
    rw [eq_of_beq h]
    show some cmk2.1 = _
    rw [cmk2.2]
    kernel_rfl
end Mine.H
namespace Mine
open PySem PySem.W PyProof.Rows
/-- runs the plain signs of a tree -/
def ev {α : Type} : Nat → Sem α → Option α
  | 0, _ => none
  | n + 1, t => match t with
    | .pure a => some a
    | .rule _ k => ev n (k ())
    | _ => none
theorem ev_ok {α : Type} {M : Model} {A : Around} {Q : α → Shared → Prop} {E : Value → Shared → Prop} {s : Shared} : ∀ {n : Nat} {t : Sem α} {a : α}, ev n t = some a → Q a s → wpAny M A t Q E s
  | 0, _, _, h, _ => by cases h
  | n + 1, t, a, h, q => by
    cases t with
    | pure b => cases h; exact wpAny_pure q
    | rule x k => exact fun Γ p hΓ => ev_ok (n := n) (t := k ()) h q Γ p hΓ
    | _ => cases h
end Mine
namespace Mine
open PySem PySem.W PyProof.Rows PySem.Builtin.Re
def run0 (t : Str) : Option (Option Sre.M) := ev 400 (reRunToEnd (Sre.forMatch H.w11.toArray t.cps 0 0 t.cps.size false false))
theorem m_a : (run0 (Str.ofString "a")).map Option.isSome = some true := by kernel_rfl
theorem m_n : (run0 (Str.ofString "n")).map Option.isSome = some true := by kernel_rfl
theorem m_b : (run0 (Str.ofString "b")).map Option.isSome = some true := by kernel_rfl
theorem m_c : (run0 (Str.ofString "c d")).map Option.isSome = some false := by kernel_rfl
theorem m_i : (run0 (Str.ofString "it's")).map Option.isSome = some false := by kernel_rfl
end Mine
namespace Mine
open PySem PySem.W PyProof.Rows PySem.Builtin.Re PySem.Calls
theorem slot_match : Slot "re.Pattern" "match" "re.Pattern.match" :=
  .of (owner := "re.Pattern") (n := "match") (by rw [typeLookup_type, builtinLookup_eq_fast]; kernel_rfl) (by decide +kernel) (by decide +kernel) (by decide +kernel)
    (by first | exact .inl (by decide +kernel) | exact .inr (by decide +kernel)) (by rw [isSubtype_type]; kernel_rfl)
theorem type_match : typeOf (.builtin "re.Pattern.match") = pure (.type "method_descriptor") := by show builtinType _ = _; rw [builtinType_eq_fast]; kernel_rfl
theorem entry_match : entryFor table "re.Pattern.match" = some Builtin.«re.Pattern.match» := entryFor_of_tree (by kernel_rfl)
theorem args_match (a b : Value) : argsOk "re.Pattern.match" ⟨[a, b], []⟩ := by
  unfold argsOk; kernel_rfl
theorem plain_pat : PlainAttrs "re.Pattern" :=
  ⟨⟨"object.__getattribute__", by rw [typeLookup_type, builtinLookup_eq_fast]; kernel_rfl, by decide +kernel⟩, by rw [typeLookup_type, builtinLookup_eq_fast]; kernel_rfl⟩
abbrev patO (v1 v2 : Value) : Obj := { cls := .type "re.Pattern", data := .fields #[v1, v2, .int 0 0, .none, .none, .ref 1038, .int 0 0] }
abbrev codeO : Obj := { cls := .type "tuple", data := .seq (H.w11.map fun n => Value.int (Int.ofNat n) 0).toArray }
def patT (x : Str) (t : Tok) : ReTarget := ⟨.ref 1039, .str x t, H.w11.toArray, x.cps, 0, 0, 0, x.cps.size⟩
theorem target_wp {M : Model} {A : Around} {s : Shared} {x : Str} {t : Tok} {v1 v2 : Value} {E : Value → Shared → Prop} (hx : x.cps.size ≤ 1000) (h1 : s.heap.get? 1039 = some (patO v1 v2)) (h2 : s.heap.get? 1038 = some codeO) :
    wpAny M A (reTarget "re.Pattern.match" "match" ⟨[.ref 1039, .str x t], []⟩) (fun T s' => T = patT x t ∧ s' = s) E s := by
  unfold reTarget
  repeat wp_step
  refine ⟨?_, rfl⟩
  unfold patT
  have e1 : min (((2 : Int) ^ 63 - 1).toNat) x.cps.size = x.cps.size := by
    have e0 : (((2 : Int) ^ 63 - 1).toNat : Nat) = 9223372036854775807 := by decide +kernel
    rw [e0]
    omega
  have e2 : Array.map (fun x : Int => x.toNat) (Array.map reRawOf ((some (List.map (fun n => Value.int (Int.ofNat n) 0) H.w11).toArray).getD #[])) = H.w11.toArray := by decide +kernel
  dsimp only
  rw [e1, e2]
  rfl
theorem answer_none {M : Model} {A : Around} {s : Shared} {T : ReTarget} {m : Sre.M} {Q : PySem.Fin → Shared → Prop} {E : Value → Shared → Prop} (h : (ev 400 (reRunToEnd m)).map Option.isSome = some false) (q : Q (.done (.ret .none)) s) : wpAny M A (reAnswer T m) Q E s := by
  obtain ⟨r, hr, hs⟩ := Option.map_eq_some_iff.mp h
  cases r with
  | some r => cases hs
  | none => exact wpAny_bind (ev_ok hr (wpAny_pure q))
theorem answer_some {M : Model} {A : Around} {s : Shared} {T : ReTarget} {m : Sre.M} {Q : PySem.Fin → Shared → Prop} {E : Value → Shared → Prop} (h : (ev 400 (reRunToEnd m)).map Option.isSome = some true) (hg : T.groups = 0)
    (q : ∀ o1 o2 : Obj, o1.isFreed = false → o2.isFreed = false → o2.cls = .type "re.Match" → Q (.done (.ret (.ref (s.heap.push o1).objs.size))) { s with heap := (s.heap.push o1).push o2 }) : wpAny M A (reAnswer T m) Q E s := by
  obtain ⟨r, hr, hs⟩ := Option.map_eq_some_iff.mp h
  cases r with
  | none => cases hs
  | some r =>
    refine wpAny_bind (ev_ok hr ?_)
    show wpAny _ _ (reNewMatch _ _ _ _ _ _ >>= _) _ _ _
    rw [hg]
    unfold reNewMatch
    repeat wp_step
    exact q _ _ rfl rfl rfl
theorem lim_eq (x : Str) (t : Tok) : Sre.forMatch (patT x t).code (patT x t).text (patT x t).groups (patT x t).pos (patT x t).lim false false = Sre.forMatch H.w11.toArray x.cps 0 0 x.cps.size false false := rfl
theorem match_no {M : Model} {A : Around} {s : Shared} {x : Str} {t : Tok} {v1 v2 : Value} {Q : PySem.Fin → Shared → Prop} {E : Value → Shared → Prop} (hx : x.cps.size ≤ 1000) (h1 : s.heap.get? 1039 = some (patO v1 v2)) (h2 : s.heap.get? 1038 = some codeO)
    (hr : (run0 x).map Option.isSome = some false) (q : Q (.done (.ret .none)) s) : wpAny M A (Builtin.«re.Pattern.match» ⟨[.ref 1039, .str x t], []⟩) Q E s := by
  unfold Builtin.«re.Pattern.match»
  refine wpAny_bind (wpAny_mono (target_wp hx h1 h2) ?_ fun _ _ e => e)
  rintro T s' ⟨rfl, rfl⟩
  exact answer_none hr q
theorem match_yes {M : Model} {A : Around} {s : Shared} {x : Str} {t : Tok} {v1 v2 : Value} {Q : PySem.Fin → Shared → Prop} {E : Value → Shared → Prop} (hx : x.cps.size ≤ 1000) (h1 : s.heap.get? 1039 = some (patO v1 v2)) (h2 : s.heap.get? 1038 = some codeO)
    (hr : (run0 x).map Option.isSome = some true) (q : ∀ o1 o2 : Obj, o1.isFreed = false → o2.isFreed = false → o2.cls = .type "re.Match" → Q (.done (.ret (.ref (s.heap.push o1).objs.size))) { s with heap := (s.heap.push o1).push o2 }) : wpAny M A (Builtin.«re.Pattern.match» ⟨[.ref 1039, .str x t], []⟩) Q E s := by
  unfold Builtin.«re.Pattern.match»
  refine wpAny_bind (wpAny_mono (target_wp hx h1 h2) ?_ fun _ _ e => e)
  rintro T s' ⟨rfl, rfl⟩
  exact answer_some hr rfl q
end Mine
namespace Mine.H
open PySem PySem.W PyProof.Rows

abbrev pw : Program := PySem.Challenge.pw_ad5043_01
abbrev sh (t : BT) (n : Nat) (k : Nat) (os : OsState) : SharedT := ⟨t, n, {}, #[], {}, k, os⟩
noncomputable def endT (stp : SharedT → Thread → Option (SharedT × Thread)) (n : Nat) : SharedT → Thread → Option SharedT :=
  @Nat.rec (fun _ => SharedT → Thread → Option SharedT) (fun _ _ => none) (fun _ ih s t => match t.atExitBegin with
    | some [] => some s
    | some (_ :: _) => none
    | none => match stp s t with
      | some (s', t') => ih s' t'
      | none => none) n
theorem endT_of {tb : String → Option Builtin} {p : Program} {w : World} : ∀ {n : Nat} {s s' : SharedT} {t : Thread}, endT (stepT (denote tb) p w) n s t = some s' → importEnds tb p w n s.abs t = some s'.abs
  | 0, _, _, _, h => by cases h
  | n + 1, s, s', t, h => by
    have h' : (match t.atExitBegin with
      | some [] => some s
      | some (_ :: _) => none
      | none => match stepT (denote tb) p w s t with
        | some (s', t') => endT (stepT (denote tb) p w) n s' t'
        | none => none) = some s' := h
    unfold importEnds
    cases he : t.atExitBegin with
    | some x => rw [he] at h'; cases x with
      | nil => cases h'; rfl
      | cons => cases h'
    | none =>
      rw [he] at h'
      cases hs : stepT (denote tb) p w s t with
      | none => rw [hs] at h'; cases h'
      | some r => obtain ⟨s₂, t₂⟩ := r; rw [hs] at h'; dsimp only; rw [stepT_spec hs]; exact endT_of h'
theorem opensT (w : World) (os : OsState) : endT (stepT (denote treeTable) (opening pw) w) 800 (sh BT.nil 0 1 os) (start (opening pw)).2 = some (sh (Te w.params) 28 276 os) := by
  rw [PySem.W.Fast.te10156331382660048174, PySem.W.Fast.te11892475500146522536, PySem.W.Fast.te14364793385576792824]
  kernel_rfl
theorem fences (w : World) (os : OsState) : (fenceModules? pw ⟨absHeap (Te w.params) 28 {}, #[], {}, 276, os⟩).map (fun s => (s.heap, s.gens, s.drawn, s.toks)) = some (absHeap (Tz w.params) 28 {}, #[], {}, 276) := by
  rw [PySem.W.Fast.te14289696077712309145]
  kernel_rfl
theorem start_abs : (start (opening pw)).1 = (sh BT.nil 0 1 (start (opening pw)).1.os).abs := by kernel_rfl
theorem open_ : ∀ w : World, (fencedOpening treeTable pw w 25116).map (fun s => (s.heap, s.gens, s.drawn, s.toks)) = some (absHeap (Tz w.params) 28 {}, #[], {}, 276) :=
  open_cut (M := 800) (He := fun P => absHeap (Te P) 28 {}) (H₀ := fun P => absHeap (Tz P) 28 {}) (fun w => by
    have := endT_of (opensT w (start (opening pw)).1.os)
    rw [← start_abs] at this
    exact this) (by decide) (fun w => funext fun os => fences w os)
end Mine.H
namespace Mine.H
open PySem PySem.W PyProof.Rows
def env : Env := { scope := PySem.Challenge.pw_ad5043_01.main.scope, locals := mainNs, globals := mainNs, cells := [], code := .ref 30, frame := some 31 }
def bd : List Stmt := behindTheImports PySem.Challenge.pw_ad5043_01
def cut (a k : Nat) : List Stmt := (bd.drop a).take k
abbrev cE : Code := .body bd env
abbrev qp : Pos := ⟨0, 0, 0, 0⟩
abbrev Piece (N : Nat) (t t' : Params → BT) (n n' k k' : Nat) (l : List Stmt) (p p' : Pos) : Prop :=
  ∀ (w : World) (os : OsState), segRunT treeTable PySem.Challenge.pw_ad5043_01 w 28 (some (.ref 6)) 1 N (sh (t w.params) n k os) ⟨(execs l env).wrap doneF deadEnd id id, cE, p, [topFrame qp]⟩ = some (.next, sh (t' w.params) n' k' os, cE, p')
theorem p0 : Piece 489 Tb T7 32 70 282 589 (cut 0 7) ⟨0, 0, 0, 0⟩ ⟨14, 0, 15, 55⟩ := by
  intro w os
  rw [PySem.W.Fast.te12563942051412417395, PySem.W.Fast.te10110043849684766642, PySem.W.Fast.te14364793385576792824, ← tbk2_eq]
  kernel_rfl
theorem p7 : Piece 410 T7 T9 70 95 589 625 (cut 7 2) ⟨14, 0, 15, 55⟩ ⟨18, 0, 19, 8⟩ := by
  intro w os
  rw [PySem.W.Fast.te12563942051412417395, PySem.W.Fast.te10110043849684766642, PySem.W.Fast.te14364793385576792824]
  kernel_rfl
theorem p9 : Piece 325 T9 T10 95 138 625 683 (cut 9 1) ⟨18, 0, 19, 8⟩ ⟨20, 0, 53, 24⟩ := by
  intro w os
  rw [PySem.W.Fast.te12563942051412417395, PySem.W.Fast.te10110043849684766642, PySem.W.Fast.te14364793385576792824]
  kernel_rfl
theorem p10 : Piece 321 T10 T11 138 180 683 738 (cut 10 1) ⟨20, 0, 53, 24⟩ ⟨54, 0, 69, 24⟩ := by
  intro w os
  rw [PySem.W.Fast.te12563942051412417395, PySem.W.Fast.te10110043849684766642, PySem.W.Fast.te14364793385576792824]
  kernel_rfl
theorem p11 : Piece 313 T11 T12 180 218 738 789 (cut 11 1) ⟨54, 0, 69, 24⟩ ⟨70, 0, 85, 55⟩ := by
  intro w os
  rw [PySem.W.Fast.te12563942051412417395, PySem.W.Fast.te10110043849684766642, PySem.W.Fast.te14364793385576792824]
  kernel_rfl
theorem p12 : Piece 349 T12 T13 218 263 789 852 (cut 12 1) ⟨70, 0, 85, 55⟩ ⟨86, 0, 107, 24⟩ := by
  intro w os
  rw [PySem.W.Fast.te12563942051412417395, PySem.W.Fast.te10110043849684766642, PySem.W.Fast.te14364793385576792824]
  kernel_rfl
theorem p13 : Piece 321 T13 T14 263 305 852 907 (cut 13 1) ⟨86, 0, 107, 24⟩ ⟨108, 0, 123, 24⟩ := by
  intro w os
  rw [PySem.W.Fast.te12563942051412417395, PySem.W.Fast.te10110043849684766642, PySem.W.Fast.te14364793385576792824]
  kernel_rfl
theorem p14 : Piece 354 T14 T16 305 354 907 973 (cut 14 2) ⟨108, 0, 123, 24⟩ ⟨143, 0, 146, 33⟩ := by
  intro w os
  rw [PySem.W.Fast.te12563942051412417395, PySem.W.Fast.te10110043849684766642, PySem.W.Fast.te14364793385576792824]
  kernel_rfl
theorem p16 : Piece 326 T16 T17 354 396 973 1033 (cut 16 1) ⟨143, 0, 146, 33⟩ ⟨147, 0, 164, 42⟩ := by
  intro w os
  rw [PySem.W.Fast.te12563942051412417395, PySem.W.Fast.te10110043849684766642, PySem.W.Fast.te14364793385576792824]
  kernel_rfl
theorem p17 : Piece 329 T17 T18 396 438 1033 1096 (cut 17 1) ⟨147, 0, 164, 42⟩ ⟨165, 0, 188, 42⟩ := by
  intro w os
  rw [PySem.W.Fast.te12563942051412417395, PySem.W.Fast.te10110043849684766642, PySem.W.Fast.te14364793385576792824]
  kernel_rfl
theorem p18 : Piece 323 T18 T19 438 480 1096 1153 (cut 18 1) ⟨165, 0, 188, 42⟩ ⟨189, 0, 210, 42⟩ := by
  intro w os
  rw [PySem.W.Fast.te12563942051412417395, PySem.W.Fast.te10110043849684766642, PySem.W.Fast.te14364793385576792824]
  kernel_rfl
theorem p19 : Piece 336 T19 T20 480 523 1153 1222 (cut 19 1) ⟨189, 0, 210, 42⟩ ⟨211, 0, 245, 24⟩ := by
  intro w os
  rw [PySem.W.Fast.te12563942051412417395, PySem.W.Fast.te10110043849684766642, PySem.W.Fast.te14364793385576792824]
  kernel_rfl
theorem p20 : Piece 321 T20 T21 523 566 1222 1276 (cut 20 1) ⟨211, 0, 245, 24⟩ ⟨246, 0, 265, 24⟩ := by
  intro w os
  rw [PySem.W.Fast.te12563942051412417395, PySem.W.Fast.te10110043849684766642, PySem.W.Fast.te14364793385576792824]
  kernel_rfl
theorem p21 : Piece 321 T21 T22 566 608 1276 1331 (cut 21 1) ⟨246, 0, 265, 24⟩ ⟨266, 0, 281, 24⟩ := by
  intro w os
  rw [PySem.W.Fast.te12563942051412417395, PySem.W.Fast.te10110043849684766642, PySem.W.Fast.te14364793385576792824]
  kernel_rfl
theorem p22 : Piece 440 T22 T24 608 655 1331 1462 (cut 22 2) ⟨266, 0, 281, 24⟩ ⟨305, 0, 305, 6⟩ := by
  intro w os
  rw [PySem.W.Fast.te12563942051412417395, PySem.W.Fast.te10110043849684766642, PySem.W.Fast.te14364793385576792824, ← tbk2_eq]
  kernel_rfl
theorem p24 : Piece 484 T24 T32 655 708 1462 1726 (cut 24 8) ⟨305, 0, 305, 6⟩ ⟨460, 0, 490, 20⟩ := by
  intro w os
  rw [PySem.W.Fast.te12563942051412417395, PySem.W.Fast.te10110043849684766642, PySem.W.Fast.te14364793385576792824, ← tbk2_eq]
  kernel_rfl
theorem p32 : Piece 105 T32 T35 708 729 1726 1764 (cut 32 3) ⟨460, 0, 490, 20⟩ ⟨562, 0, 584, 31⟩ := by
  intro w os
  rw [PySem.W.Fast.te12563942051412417395, PySem.W.Fast.te10110043849684766642, PySem.W.Fast.te14364793385576792824]
  kernel_rfl
theorem p35 : Piece 501 T35 T36 729 787 1764 1833 (cut 35 1) ⟨562, 0, 584, 31⟩ ⟨585, 0, 613, 38⟩ := by
  intro w os
  rw [PySem.W.Fast.te12563942051412417395, PySem.W.Fast.te10110043849684766642, PySem.W.Fast.te14364793385576792824]
  kernel_rfl
theorem p36 : Piece 463 T36 T39 787 824 1833 1961 (cut 36 3) ⟨585, 0, 613, 38⟩ ⟨622, 0, 622, 13⟩ := by
  intro w os
  rw [PySem.W.Fast.te12563942051412417395, PySem.W.Fast.te10110043849684766642, PySem.W.Fast.te14364793385576792824, ← tbk2_eq]
  kernel_rfl
theorem p39 : Piece 332 T39 T40 824 829 1961 2249 (cut 39 1) ⟨622, 0, 622, 13⟩ ⟨623, 0, 623, 11⟩ := by
  intro w os
  rw [PySem.W.Fast.te12563942051412417395, PySem.W.Fast.te10110043849684766642, PySem.W.Fast.te14364793385576792824, ← tbk2_eq]
  kernel_rfl
theorem p40 : Piece 598 T40 T41 829 834 2249 2803 (cut 40 1) ⟨623, 0, 623, 11⟩ ⟨624, 0, 624, 12⟩ := by
  intro w os
  rw [PySem.W.Fast.te12563942051412417395, PySem.W.Fast.te10110043849684766642, PySem.W.Fast.te14364793385576792824, ← tbk2_eq]
  kernel_rfl
theorem p41 : Piece 43 T41 T42 834 835 2803 2808 (cut 41 1) ⟨624, 0, 624, 12⟩ ⟨625, 0, 625, 22⟩ := by
  intro w os
  refine byRow2 "special-get-raises" (P := fun w => segRunT treeTable PySem.Challenge.pw_ad5043_01 w 28 (some (.ref 6)) 1 43 (sh (T41 w.params) 834 2803 os) ⟨(execs (cut 41 1) env).wrap doneF deadEnd id id, cE, ⟨624, 0, 624, 12⟩, [topFrame qp]⟩ = some (.next, sh (T42 w.params) 835 2808 os, cE, ⟨625, 0, 625, 22⟩)) ?_ ?_ w
  · intro w
    rw [PySem.W.Fast.te12563942051412417395, PySem.W.Fast.te10110043849684766642, PySem.W.Fast.te14364793385576792824]
    kernel_rfl
  · intro w
    rw [PySem.W.Fast.te12563942051412417395, PySem.W.Fast.te10110043849684766642, PySem.W.Fast.te14364793385576792824]
    kernel_rfl
theorem p42 : Piece 386 T42 T50 835 887 2808 2975 (cut 42 8) ⟨625, 0, 625, 22⟩ ⟨669, 0, 721, 23⟩ := by
  intro w os
  rw [PySem.W.Fast.te12563942051412417395, PySem.W.Fast.te10110043849684766642, PySem.W.Fast.te14364793385576792824, ← tbk2_eq]
  kernel_rfl
theorem p50 : Piece 445 T50 T54 887 951 2975 3060 (cut 50 4) ⟨669, 0, 721, 23⟩ ⟨770, 0, 770, 15⟩ := by
  intro w os
  rw [PySem.W.Fast.te12563942051412417395, PySem.W.Fast.te10110043849684766642, PySem.W.Fast.te14364793385576792824]
  kernel_rfl
theorem p54 : Piece 214 T54 T55 951 963 3060 3076 (cut 54 1) ⟨770, 0, 770, 15⟩ ⟨771, 0, 772, 8⟩ := by
  intro w os
  rw [PySem.W.Fast.te12563942051412417395, PySem.W.Fast.te10110043849684766642, PySem.W.Fast.te14364793385576792824]
  kernel_rfl
theorem p55 : Piece 460 T55 T57 963 1035 3076 3174 (cut 55 2) ⟨771, 0, 772, 8⟩ ⟨817, 0, 824, 16⟩ := by
  intro w os
  rw [PySem.W.Fast.te12563942051412417395, PySem.W.Fast.te10110043849684766642, PySem.W.Fast.te14364793385576792824]
  kernel_rfl
theorem p57 : Piece 224 T57 T61 1035 1059 3174 3267 (cut 57 4) ⟨817, 0, 824, 16⟩ ⟨829, 0, 830, 35⟩ := by
  intro w os
  rw [PySem.W.Fast.te12563942051412417395, PySem.W.Fast.te10110043849684766642, PySem.W.Fast.te14364793385576792824, ← tbk2_eq]
  kernel_rfl
theorem p61 : Piece 2618 T61 T62 1059 1440 3267 3877 (cut 61 1) ⟨829, 0, 830, 35⟩ ⟨831, 0, 1189, 20⟩ := by
  intro w os
  refine byRow2 "special-get-raises" (P := fun w => segRunT treeTable PySem.Challenge.pw_ad5043_01 w 28 (some (.ref 6)) 1 2618 (sh (T61 w.params) 1059 3267 os) ⟨(execs (cut 61 1) env).wrap doneF deadEnd id id, cE, ⟨829, 0, 830, 35⟩, [topFrame qp]⟩ = some (.next, sh (T62 w.params) 1440 3877 os, cE, ⟨831, 0, 1189, 20⟩)) ?_ ?_ w
  · intro w
    rw [PySem.W.Fast.te12563942051412417395, PySem.W.Fast.te10110043849684766642, PySem.W.Fast.te14364793385576792824]
    kernel_rfl
  · intro w
    rw [PySem.W.Fast.te12563942051412417395, PySem.W.Fast.te10110043849684766642, PySem.W.Fast.te14364793385576792824]
    kernel_rfl
theorem p62 : Piece 373 T62 T75 1440 1516 3877 3993 (cut 62 13) ⟨831, 0, 1189, 20⟩ ⟨1252, 0, 1276, 15⟩ := by
  intro w os
  rw [PySem.W.Fast.te12563942051412417395, PySem.W.Fast.te10110043849684766642, PySem.W.Fast.te14364793385576792824]
  kernel_rfl
end Mine.H
namespace Mine.H
open PySem PySem.W PyProof.Rows
def goT (tb : String → Option Builtin) (p : Program) (w : World) (n₀ : Nat) (ann : Option Value) : Nat → SharedT → Thread → Option (SharedT × Thread)
  | 0, s, t => some (s, t)
  | n + 1, s, t => match through t with
    | true => none
    | false => match stepOk n₀ ann t with
      | false => none
      | true => match stepT (denote tb) p w s t with
        | some (s', t') => goT tb p w n₀ ann n s' t'
        | none => none
theorem goT_of {tb : String → Option Builtin} {p : Program} {w : World} {n₀ : Nat} {ann : Option Value} : ∀ {n : Nat} {s s' : SharedT} {t t' : Thread}, goT tb p w n₀ ann n s t = some (s', t') → topGo tb p w n₀ ann n s.abs t = some (s'.abs, t')
  | 0, _, _, _, _, h => by cases h; rfl
  | n + 1, s, s', t, t', h => by
    unfold goT at h
    unfold topGo
    cases ht : through t with
    | true => rw [ht] at h; cases h
    | false =>
      rw [ht] at h
      cases hk : stepOk n₀ ann t with
      | false => rw [hk] at h; cases h
      | true =>
        rw [hk] at h
        cases hs : stepT (denote tb) p w s t with
        | none => rw [hs] at h; cases h
        | some r => obtain ⟨s₂, t₂⟩ := r; rw [hs] at h; dsimp only; rw [stepT_spec hs]; exact goT_of h
abbrev ab (t : Params → BT) (n k : Nat) (w : World) (os : OsState) : Shared := ⟨absHeap (t w.params) n {}, #[], {}, k, os⟩
theorem pre (w : World) (os : OsState) : goT treeTable pw w 28 (some (.ref 6)) 12 (sh (Tz w.params) 28 276 os) (topStub pw) = some (sh (Ta w.params) 32 282 os, ⟨denote treeTable cE, cE, qp, [topFrame qp]⟩) := by
  kernel_rfl
theorem block (w : World) (os : OsState) : segRunT treeTable pw w 28 (some (.ref 6)) 1 1 (sh (Ta w.params) 32 282 os) (blockOf bd env cE qp [topFrame qp]) = some (.next, sh (Tb w.params) 32 282 os, cE, qp) := by
  kernel_rfl
theorem fin (w : World) (os : OsState) (p : Pos) : topRun treeTable pw w 28 (some (.ref 6)) 2 (ab T75 1516 3993 w os) ⟨doneF .next, cE, p, [topFrame qp]⟩ = some (ab T75 1516 3993 w os) := rfl
theorem bd_end : bd.drop 75 = [] := by kernel_rfl
theorem stepP {t t' : Params → BT} {n n' k k' m N a b : Nat} {w : World} {os : OsState} {p p' : Pos} {r : Shared} (h : Piece m t t' n n' k k' (cut a b) p p')
    (q : topRun treeTable pw w 28 (some (.ref 6)) N (ab t' n' k' w os) (restOf (bd.drop (a + b)) env cE p' [topFrame qp]) = some r) :
    topRun treeTable pw w 28 (some (.ref 6)) (m + N) (ab t n k w os) (restOf (bd.drop a) env cE p [topFrame qp]) = some r := by
  have := piece_app (rest := bd.drop (a + b)) (segRun_of (h w os)) q
  rwa [show cut a b ++ bd.drop (a + b) = bd.drop a from by unfold cut; rw [← List.drop_drop]; exact List.take_append_drop ..] at this
theorem last (w : World) (os : OsState) (p : Pos) : topRun treeTable pw w 28 (some (.ref 6)) 2 (ab T75 1516 3993 w os) (restOf (bd.drop 75) env cE p [topFrame qp]) = some (ab T75 1516 3993 w os) := by
  rw [bd_end]
  exact piece_nil (fin w os p)
theorem run (w : World) (os : OsState) : topRun treeTable pw w 28 (some (.ref 6)) (12 + (1 + 12526)) (ab Tz 28 276 w os) (topStub pw) = some (ab T75 1516 3993 w os) := by
  refine go_top (goT_of (pre w os)) (piece_block (segRun_of (block w os)) ?_)
  exact stepP p0 (stepP p7 (stepP p9 (stepP p10 (stepP p11 (stepP p12 (stepP p13 (stepP p14 (stepP p16 (stepP p17 (stepP p18 (stepP p19 (stepP p20 (stepP p21 (stepP p22 (stepP p24 (stepP p32 (stepP p35 (stepP p36 (stepP p39 (stepP p40 (stepP p41 (stepP p42 (stepP p50 (stepP p54 (stepP p55 (stepP p57 (stepP p61 (stepP p62 (last w os _)))))))))))))))))))))))))))))
end Mine.H
namespace Mine
open PySem PySem.W PyProof.Rows
def tx : List Stmt := PySem.Challenge.pw_ad5043_01.main.body
def st (i : Nat) : Stmt := tx.getD i (.Pass ⟨0, 0, 0, 0⟩)
def kd (s : Stmt) (i : Nat) : Stmt := match s with
  | .ClassDef _ _ _ b _ _ _ _ _ _ _ => b.getD i s
  | .FunctionDef _ _ b _ _ _ _ _ _ _ => b.getD i s
  | _ => s
abbrev fnO {x1 : Str} {x2 : Arguments} {x3 : List Stmt} {x4 : List PySem.Expr} {x5 x6 x8 x9 x10} {x7 : Scope} (s : Stmt) (h : s = .FunctionDef x1 x2 x3 x4 x5 x6 x7 x8 x9 x10) (qn : Str) (g : Nat) (cl : List (Str × Addr)) (d k doc pm : Value) (an : Option Addr) (cd ct : Value) (bi : Addr) (sl : Array (Option Value)) : Obj :=
  ⟨.type "function", none, .func ⟨x1, qn, x2, .stmts x3, x7, g, cl, d, k, doc, pm, an, cd, ct, bi⟩, sl⟩
noncomputable def hd.heap_1 (P : Params) : Frag :=
  ((nat_lit 0, ⟨(.type "dict"), none, (.dict #[⟨PyData.keyHash P (Str.ofString "__name__"), .str (Str.ofString "__name__") 1, (.str (Str.ofString "builtins") 160)⟩, ⟨PyData.keyHash P (Str.ofString "__doc__"), .str (Str.ofString "__doc__") 2, (.builtin "builtins.__doc__:str#opaque")⟩, ⟨PyData.keyHash P (Str.ofString "__package__"), .str (Str.ofString "__package__") 3, (.builtin "builtins.__package__:str#opaque")⟩, ⟨PyData.keyHash P (Str.ofString "__loader__"), .str (Str.ofString "__loader__") 4, (.builtin "builtins.__loader__:shared#opaque")⟩, ⟨PyData.keyHash P (Str.ofString "__spec__"), .str (Str.ofString "__spec__") 5, (.builtin "builtins.__spec__#opaque")⟩, ⟨PyData.keyHash P (Str.ofString "__build_class__"), .str (Str.ofString "__build_class__") 6, (.builtin "__build_class__")⟩, ⟨PyData.keyHash P (Str.ofString "__import__"), .str (Str.ofString "__import__") 7, (.builtin "__import__")⟩, ⟨PyData.keyHash P (Str.ofString "abs"), .str (Str.ofString "abs") 8, (.builtin "abs")⟩, ⟨PyData.keyHash P (Str.ofString "all"), .str (Str.ofString "all") 9, (.builtin "all")⟩, ⟨PyData.keyHash P (Str.ofString "any"), .str (Str.ofString "any") 10, (.builtin "any")⟩, ⟨PyData.keyHash P (Str.ofString "ascii"), .str (Str.ofString "ascii") 11, (.builtin "ascii")⟩, ⟨PyData.keyHash P (Str.ofString "bin"), .str (Str.ofString "bin") 12, (.builtin "bin")⟩, ⟨PyData.keyHash P (Str.ofString "breakpoint"), .str (Str.ofString "breakpoint") 13, (.builtin "breakpoint")⟩, ⟨PyData.keyHash P (Str.ofString "callable"), .str (Str.ofString "callable") 14, (.builtin "callable")⟩, ⟨PyData.keyHash P (Str.ofString "chr"), .str (Str.ofString "chr") 15, (.builtin "chr")⟩, ⟨PyData.keyHash P (Str.ofString "compile"), .str (Str.ofString "compile") 16, (.builtin "compile")⟩, ⟨PyData.keyHash P (Str.ofString "delattr"), .str (Str.ofString "delattr") 17, (.builtin "delattr")⟩, ⟨PyData.keyHash P (Str.ofString "dir"), .str (Str.ofString "dir") 18, (.builtin "dir")⟩, ⟨PyData.keyHash P (Str.ofString "divmod"), .str (Str.ofString "divmod") 19, (.builtin "divmod")⟩, ⟨PyData.keyHash P (Str.ofString "eval"), .str (Str.ofString "eval") 20, (.builtin "eval")⟩, ⟨PyData.keyHash P (Str.ofString "exec"), .str (Str.ofString "exec") 21, (.builtin "exec")⟩, ⟨PyData.keyHash P (Str.ofString "format"), .str (Str.ofString "format") 22, (.builtin "format")⟩, ⟨PyData.keyHash P (Str.ofString "getattr"), .str (Str.ofString "getattr") 23, (.builtin "getattr")⟩, ⟨PyData.keyHash P (Str.ofString "globals"), .str (Str.ofString "globals") 24, (.builtin "globals")⟩, ⟨PyData.keyHash P (Str.ofString "hasattr"), .str (Str.ofString "hasattr") 25, (.builtin "hasattr")⟩, ⟨PyData.keyHash P (Str.ofString "hash"), .str (Str.ofString "hash") 26, (.builtin "hash")⟩, ⟨PyData.keyHash P (Str.ofString "hex"), .str (Str.ofString "hex") 27, (.builtin "hex")⟩, ⟨PyData.keyHash P (Str.ofString "id"), .str (Str.ofString "id") 28, (.builtin "id")⟩, ⟨PyData.keyHash P (Str.ofString "input"), .str (Str.ofString "input") 29, (.builtin "input")⟩, ⟨PyData.keyHash P (Str.ofString "isinstance"), .str (Str.ofString "isinstance") 30, (.builtin "isinstance")⟩, ⟨PyData.keyHash P (Str.ofString "issubclass"), .str (Str.ofString "issubclass") 31, (.builtin "issubclass")⟩, ⟨PyData.keyHash P (Str.ofString "iter"), .str (Str.ofString "iter") 32, (.builtin "iter")⟩, ⟨PyData.keyHash P (Str.ofString "aiter"), .str (Str.ofString "aiter") 33, (.builtin "aiter")⟩, ⟨PyData.keyHash P (Str.ofString "len"), .str (Str.ofString "len") 34, (.builtin "len")⟩, ⟨PyData.keyHash P (Str.ofString "locals"), .str (Str.ofString "locals") 35, (.builtin "locals")⟩, ⟨PyData.keyHash P (Str.ofString "max"), .str (Str.ofString "max") 36, (.builtin "max")⟩, ⟨PyData.keyHash P (Str.ofString "min"), .str (Str.ofString "min") 37, (.builtin "min")⟩, ⟨PyData.keyHash P (Str.ofString "next"), .str (Str.ofString "next") 38, (.builtin "next")⟩, ⟨PyData.keyHash P (Str.ofString "anext"), .str (Str.ofString "anext") 39, (.builtin "anext")⟩, ⟨PyData.keyHash P (Str.ofString "oct"), .str (Str.ofString "oct") 40, (.builtin "oct")⟩, ⟨PyData.keyHash P (Str.ofString "ord"), .str (Str.ofString "ord") 41, (.builtin "ord")⟩, ⟨PyData.keyHash P (Str.ofString "pow"), .str (Str.ofString "pow") 42, (.builtin "pow")⟩, ⟨PyData.keyHash P (Str.ofString "print"), .str (Str.ofString "print") 43, (.builtin "print")⟩, ⟨PyData.keyHash P (Str.ofString "repr"), .str (Str.ofString "repr") 44, (.builtin "repr")⟩, ⟨PyData.keyHash P (Str.ofString "round"), .str (Str.ofString "round") 45, (.builtin "round")⟩, ⟨PyData.keyHash P (Str.ofString "setattr"), .str (Str.ofString "setattr") 46, (.builtin "setattr")⟩, ⟨PyData.keyHash P (Str.ofString "sorted"), .str (Str.ofString "sorted") 47, (.builtin "sorted")⟩, ⟨PyData.keyHash P (Str.ofString "sum"), .str (Str.ofString "sum") 48, (.builtin "sum")⟩, ⟨PyData.keyHash P (Str.ofString "vars"), .str (Str.ofString "vars") 49, (.builtin "vars")⟩, ⟨PyData.keyHash P (Str.ofString "None"), .str (Str.ofString "None") 50, .none⟩, ⟨PyData.keyHash P (Str.ofString "Ellipsis"), .str (Str.ofString "Ellipsis") 51, .ellipsis⟩, ⟨PyData.keyHash P (Str.ofString "NotImplemented"), .str (Str.ofString "NotImplemented") 52, .notImplemented⟩, ⟨PyData.keyHash P (Str.ofString "False"), .str (Str.ofString "False") 53, (.bool false)⟩, ⟨PyData.keyHash P (Str.ofString "True"), .str (Str.ofString "True") 54, (.bool true)⟩, ⟨PyData.keyHash P (Str.ofString "bool"), .str (Str.ofString "bool") 55, (.type "bool")⟩, ⟨PyData.keyHash P (Str.ofString "memoryview"), .str (Str.ofString "memoryview") 56, (.type "memoryview")⟩, ⟨PyData.keyHash P (Str.ofString "bytearray"), .str (Str.ofString "bytearray") 57, (.type "bytearray")⟩, ⟨PyData.keyHash P (Str.ofString "bytes"), .str (Str.ofString "bytes") 58, (.type "bytes")⟩, ⟨PyData.keyHash P (Str.ofString "classmethod"), .str (Str.ofString "classmethod") 59, (.type "classmethod")⟩, ⟨PyData.keyHash P (Str.ofString "complex"), .str (Str.ofString "complex") 60, (.type "complex")⟩, ⟨PyData.keyHash P (Str.ofString "dict"), .str (Str.ofString "dict") 61, (.type "dict")⟩, ⟨PyData.keyHash P (Str.ofString "enumerate"), .str (Str.ofString "enumerate") 62, (.type "enumerate")⟩, ⟨PyData.keyHash P (Str.ofString "filter"), .str (Str.ofString "filter") 63, (.type "filter")⟩, ⟨PyData.keyHash P (Str.ofString "float"), .str (Str.ofString "float") 64, (.type "float")⟩, ⟨PyData.keyHash P (Str.ofString "frozenset"), .str (Str.ofString "frozenset") 65, (.type "frozenset")⟩, ⟨PyData.keyHash P (Str.ofString "property"), .str (Str.ofString "property") 66, (.type "property")⟩, ⟨PyData.keyHash P (Str.ofString "int"), .str (Str.ofString "int") 67, (.type "int")⟩, ⟨PyData.keyHash P (Str.ofString "list"), .str (Str.ofString "list") 68, (.type "list")⟩, ⟨PyData.keyHash P (Str.ofString "map"), .str (Str.ofString "map") 69, (.type "map")⟩, ⟨PyData.keyHash P (Str.ofString "object"), .str (Str.ofString "object") 70, (.type "object")⟩, ⟨PyData.keyHash P (Str.ofString "range"), .str (Str.ofString "range") 71, (.type "range")⟩, ⟨PyData.keyHash P (Str.ofString "reversed"), .str (Str.ofString "reversed") 72, (.type "reversed")⟩, ⟨PyData.keyHash P (Str.ofString "set"), .str (Str.ofString "set") 73, (.type "set")⟩, ⟨PyData.keyHash P (Str.ofString "slice"), .str (Str.ofString "slice") 74, (.type "slice")⟩, ⟨PyData.keyHash P (Str.ofString "staticmethod"), .str (Str.ofString "staticmethod") 75, (.type "staticmethod")⟩, ⟨PyData.keyHash P (Str.ofString "str"), .str (Str.ofString "str") 76, (.type "str")⟩, ⟨PyData.keyHash P (Str.ofString "super"), .str (Str.ofString "super") 77, (.type "super")⟩, ⟨PyData.keyHash P (Str.ofString "tuple"), .str (Str.ofString "tuple") 78, (.type "tuple")⟩, ⟨PyData.keyHash P (Str.ofString "type"), .str (Str.ofString "type") 79, (.type "type")⟩, ⟨PyData.keyHash P (Str.ofString "zip"), .str (Str.ofString "zip") 80, (.type "zip")⟩, ⟨PyData.keyHash P (Str.ofString "__debug__"), .str (Str.ofString "__debug__") 81, (.bool true)⟩, ⟨PyData.keyHash P (Str.ofString "BaseException"), .str (Str.ofString "BaseException") 82, (.type "BaseException")⟩, ⟨PyData.keyHash P (Str.ofString "BaseExceptionGroup"), .str (Str.ofString "BaseExceptionGroup") 83, (.type "BaseExceptionGroup")⟩, ⟨PyData.keyHash P (Str.ofString "Exception"), .str (Str.ofString "Exception") 84, (.type "Exception")⟩, ⟨PyData.keyHash P (Str.ofString "GeneratorExit"), .str (Str.ofString "GeneratorExit") 85, (.type "GeneratorExit")⟩, ⟨PyData.keyHash P (Str.ofString "KeyboardInterrupt"), .str (Str.ofString "KeyboardInterrupt") 86, (.type "KeyboardInterrupt")⟩, ⟨PyData.keyHash P (Str.ofString "SystemExit"), .str (Str.ofString "SystemExit") 87, (.type "SystemExit")⟩, ⟨PyData.keyHash P (Str.ofString "ArithmeticError"), .str (Str.ofString "ArithmeticError") 88, (.type "ArithmeticError")⟩, ⟨PyData.keyHash P (Str.ofString "AssertionError"), .str (Str.ofString "AssertionError") 89, (.type "AssertionError")⟩, ⟨PyData.keyHash P (Str.ofString "AttributeError"), .str (Str.ofString "AttributeError") 90, (.type "AttributeError")⟩, ⟨PyData.keyHash P (Str.ofString "BufferError"), .str (Str.ofString "BufferError") 91, (.type "BufferError")⟩, ⟨PyData.keyHash P (Str.ofString "EOFError"), .str (Str.ofString "EOFError") 92, (.type "EOFError")⟩, ⟨PyData.keyHash P (Str.ofString "ImportError"), .str (Str.ofString "ImportError") 93, (.type "ImportError")⟩, ⟨PyData.keyHash P (Str.ofString "LookupError"), .str (Str.ofString "LookupError") 94, (.type "LookupError")⟩, ⟨PyData.keyHash P (Str.ofString "MemoryError"), .str (Str.ofString "MemoryError") 95, (.type "MemoryError")⟩, ⟨PyData.keyHash P (Str.ofString "NameError"), .str (Str.ofString "NameError") 96, (.type "NameError")⟩, ⟨PyData.keyHash P (Str.ofString "OSError"), .str (Str.ofString "OSError") 97, (.type "OSError")⟩, ⟨PyData.keyHash P (Str.ofString "ReferenceError"), .str (Str.ofString "ReferenceError") 98, (.type "ReferenceError")⟩, ⟨PyData.keyHash P (Str.ofString "RuntimeError"), .str (Str.ofString "RuntimeError") 99, (.type "RuntimeError")⟩, ⟨PyData.keyHash P (Str.ofString "StopAsyncIteration"), .str (Str.ofString "StopAsyncIteration") 100, (.type "StopAsyncIteration")⟩, ⟨PyData.keyHash P (Str.ofString "StopIteration"), .str (Str.ofString "StopIteration") 101, (.type "StopIteration")⟩, ⟨PyData.keyHash P (Str.ofString "SyntaxError"), .str (Str.ofString "SyntaxError") 102, (.type "SyntaxError")⟩, ⟨PyData.keyHash P (Str.ofString "SystemError"), .str (Str.ofString "SystemError") 103, (.type "SystemError")⟩, ⟨PyData.keyHash P (Str.ofString "TypeError"), .str (Str.ofString "TypeError") 104, (.type "TypeError")⟩, ⟨PyData.keyHash P (Str.ofString "ValueError"), .str (Str.ofString "ValueError") 105, (.type "ValueError")⟩, ⟨PyData.keyHash P (Str.ofString "Warning"), .str (Str.ofString "Warning") 106, (.type "Warning")⟩, ⟨PyData.keyHash P (Str.ofString "FloatingPointError"), .str (Str.ofString "FloatingPointError") 107, (.type "FloatingPointError")⟩, ⟨PyData.keyHash P (Str.ofString "OverflowError"), .str (Str.ofString "OverflowError") 108, (.type "OverflowError")⟩, ⟨PyData.keyHash P (Str.ofString "ZeroDivisionError"), .str (Str.ofString "ZeroDivisionError") 109, (.type "ZeroDivisionError")⟩, ⟨PyData.keyHash P (Str.ofString "BytesWarning"), .str (Str.ofString "BytesWarning") 110, (.type "BytesWarning")⟩, ⟨PyData.keyHash P (Str.ofString "DeprecationWarning"), .str (Str.ofString "DeprecationWarning") 111, (.type "DeprecationWarning")⟩, ⟨PyData.keyHash P (Str.ofString "EncodingWarning"), .str (Str.ofString "EncodingWarning") 112, (.type "EncodingWarning")⟩, ⟨PyData.keyHash P (Str.ofString "FutureWarning"), .str (Str.ofString "FutureWarning") 113, (.type "FutureWarning")⟩, ⟨PyData.keyHash P (Str.ofString "ImportWarning"), .str (Str.ofString "ImportWarning") 114, (.type "ImportWarning")⟩, ⟨PyData.keyHash P (Str.ofString "PendingDeprecationWarning"), .str (Str.ofString "PendingDeprecationWarning") 115, (.type "PendingDeprecationWarning")⟩, ⟨PyData.keyHash P (Str.ofString "ResourceWarning"), .str (Str.ofString "ResourceWarning") 116, (.type "ResourceWarning")⟩, ⟨PyData.keyHash P (Str.ofString "RuntimeWarning"), .str (Str.ofString "RuntimeWarning") 117, (.type "RuntimeWarning")⟩, ⟨PyData.keyHash P (Str.ofString "SyntaxWarning"), .str (Str.ofString "SyntaxWarning") 118, (.type "SyntaxWarning")⟩, ⟨PyData.keyHash P (Str.ofString "UnicodeWarning"), .str (Str.ofString "UnicodeWarning") 119, (.type "UnicodeWarning")⟩, ⟨PyData.keyHash P (Str.ofString "UserWarning"), .str (Str.ofString "UserWarning") 120, (.type "UserWarning")⟩, ⟨PyData.keyHash P (Str.ofString "BlockingIOError"), .str (Str.ofString "BlockingIOError") 121, (.type "BlockingIOError")⟩, ⟨PyData.keyHash P (Str.ofString "ChildProcessError"), .str (Str.ofString "ChildProcessError") 122, (.type "ChildProcessError")⟩, ⟨PyData.keyHash P (Str.ofString "ConnectionError"), .str (Str.ofString "ConnectionError") 123, (.type "ConnectionError")⟩, ⟨PyData.keyHash P (Str.ofString "FileExistsError"), .str (Str.ofString "FileExistsError") 124, (.type "FileExistsError")⟩, ⟨PyData.keyHash P (Str.ofString "FileNotFoundError"), .str (Str.ofString "FileNotFoundError") 125, (.type "FileNotFoundError")⟩, ⟨PyData.keyHash P (Str.ofString "InterruptedError"), .str (Str.ofString "InterruptedError") 126, (.type "InterruptedError")⟩, ⟨PyData.keyHash P (Str.ofString "IsADirectoryError"), .str (Str.ofString "IsADirectoryError") 127, (.type "IsADirectoryError")⟩, ⟨PyData.keyHash P (Str.ofString "NotADirectoryError"), .str (Str.ofString "NotADirectoryError") 128, (.type "NotADirectoryError")⟩, ⟨PyData.keyHash P (Str.ofString "PermissionError"), .str (Str.ofString "PermissionError") 129, (.type "PermissionError")⟩, ⟨PyData.keyHash P (Str.ofString "ProcessLookupError"), .str (Str.ofString "ProcessLookupError") 130, (.type "ProcessLookupError")⟩, ⟨PyData.keyHash P (Str.ofString "TimeoutError"), .str (Str.ofString "TimeoutError") 131, (.type "TimeoutError")⟩, ⟨PyData.keyHash P (Str.ofString "IndentationError"), .str (Str.ofString "IndentationError") 132, (.type "IndentationError")⟩, ⟨PyData.keyHash P (Str.ofString "_IncompleteInputError"), .str (Str.ofString "_IncompleteInputError") 133, (.type "_IncompleteInputError")⟩, ⟨PyData.keyHash P (Str.ofString "IndexError"), .str (Str.ofString "IndexError") 134, (.type "IndexError")⟩, ⟨PyData.keyHash P (Str.ofString "KeyError"), .str (Str.ofString "KeyError") 135, (.type "KeyError")⟩, ⟨PyData.keyHash P (Str.ofString "ModuleNotFoundError"), .str (Str.ofString "ModuleNotFoundError") 136, (.type "ModuleNotFoundError")⟩, ⟨PyData.keyHash P (Str.ofString "NotImplementedError"), .str (Str.ofString "NotImplementedError") 137, (.type "NotImplementedError")⟩, ⟨PyData.keyHash P (Str.ofString "PythonFinalizationError"), .str (Str.ofString "PythonFinalizationError") 138, (.type "PythonFinalizationError")⟩, ⟨PyData.keyHash P (Str.ofString "RecursionError"), .str (Str.ofString "RecursionError") 139, (.type "RecursionError")⟩, ⟨PyData.keyHash P (Str.ofString "UnboundLocalError"), .str (Str.ofString "UnboundLocalError") 140, (.type "UnboundLocalError")⟩, ⟨PyData.keyHash P (Str.ofString "UnicodeError"), .str (Str.ofString "UnicodeError") 141, (.type "UnicodeError")⟩, ⟨PyData.keyHash P (Str.ofString "BrokenPipeError"), .str (Str.ofString "BrokenPipeError") 142, (.type "BrokenPipeError")⟩, ⟨PyData.keyHash P (Str.ofString "ConnectionAbortedError"), .str (Str.ofString "ConnectionAbortedError") 143, (.type "ConnectionAbortedError")⟩, ⟨PyData.keyHash P (Str.ofString "ConnectionRefusedError"), .str (Str.ofString "ConnectionRefusedError") 144, (.type "ConnectionRefusedError")⟩, ⟨PyData.keyHash P (Str.ofString "ConnectionResetError"), .str (Str.ofString "ConnectionResetError") 145, (.type "ConnectionResetError")⟩, ⟨PyData.keyHash P (Str.ofString "TabError"), .str (Str.ofString "TabError") 146, (.type "TabError")⟩, ⟨PyData.keyHash P (Str.ofString "UnicodeDecodeError"), .str (Str.ofString "UnicodeDecodeError") 147, (.type "UnicodeDecodeError")⟩, ⟨PyData.keyHash P (Str.ofString "UnicodeEncodeError"), .str (Str.ofString "UnicodeEncodeError") 148, (.type "UnicodeEncodeError")⟩, ⟨PyData.keyHash P (Str.ofString "UnicodeTranslateError"), .str (Str.ofString "UnicodeTranslateError") 149, (.type "UnicodeTranslateError")⟩, ⟨PyData.keyHash P (Str.ofString "ExceptionGroup"), .str (Str.ofString "ExceptionGroup") 150, (.type "ExceptionGroup")⟩, ⟨PyData.keyHash P (Str.ofString "EnvironmentError"), .str (Str.ofString "EnvironmentError") 151, (.type "OSError")⟩, ⟨PyData.keyHash P (Str.ofString "IOError"), .str (Str.ofString "IOError") 152, (.type "OSError")⟩, ⟨PyData.keyHash P (Str.ofString "open"), .str (Str.ofString "open") 153, (.builtin "open")⟩, ⟨PyData.keyHash P (Str.ofString "quit"), .str (Str.ofString "quit") 154, (.builtin "builtins.quit#opaque")⟩, ⟨PyData.keyHash P (Str.ofString "exit"), .str (Str.ofString "exit") 155, (.builtin "builtins.exit#opaque")⟩, ⟨PyData.keyHash P (Str.ofString "copyright"), .str (Str.ofString "copyright") 156, (.builtin "builtins.copyright#opaque")⟩, ⟨PyData.keyHash P (Str.ofString "credits"), .str (Str.ofString "credits") 157, (.builtin "builtins.credits#opaque")⟩, ⟨PyData.keyHash P (Str.ofString "license"), .str (Str.ofString "license") 158, (.builtin "builtins.license#opaque")⟩, ⟨PyData.keyHash P (Str.ofString "help"), .str (Str.ofString "help") 159, (.builtin "builtins.help#opaque")⟩] 159), #[]⟩) : Nat × Obj) ::
  ((nat_lit 1, ⟨(.type "dict"), none, (.dict #[⟨PyData.keyHash P (Str.ofString "builtins"), .str (Str.ofString "builtins") 162, (.ref 4)⟩, ⟨PyData.keyHash P (Str.ofString "__main__"), .str (Str.ofString "__main__") 163, (.ref 5)⟩, ⟨PyData.keyHash P (Str.ofString "_sre"), .str (Str.ofString "_sre") 244, (.ref 12)⟩] 3), #[]⟩) : Nat × Obj) ::
  ((nat_lit 2, ⟨.none, none, (.dict #[⟨PyData.keyHash P (Str.ofString "\x69mport.loaded._sre"), .str (Str.ofString "\x69mport.loaded._sre") 183, (.bool true)⟩, ⟨PyData.keyHash P (Str.ofString "class._frozen_importlib.BuiltinImporter"), .str (Str.ofString "class._frozen_importlib.BuiltinImporter") 185, (.ref 14)⟩, ⟨PyData.keyHash P (Str.ofString "watched.\x69mport"), .str (Str.ofString "watched.\x69mport") 206, (.ref 18)⟩, ⟨PyData.keyHash P (Str.ofString "class._frozen_importlib.ModuleSpec"), .str (Str.ofString "class._frozen_importlib.ModuleSpec") 216, (.ref 22)⟩, ⟨PyData.keyHash P (Str.ofString "sys.modules.booked-epoch"), .str (Str.ofString "sys.modules.booked-epoch") 245, (.int 3 0)⟩, ⟨PyData.keyHash P (Str.ofString "\x69mport.later-laid._sre"), .str (Str.ofString "\x69mport.later-laid._sre") 270, (.bool true)⟩, ⟨PyData.keyHash P (Str.ofString "watched.library"), .str (Str.ofString "watched.library") 272, (.ref 27)⟩, ⟨PyData.keyHash P (Str.ofString "watched.library-objects"), .str (Str.ofString "watched.library-objects") 0, (.str (Str.ofString "\x0c") 0)⟩, ⟨PyData.keyHash P (Str.ofString "watched.library-deep._sre"), .str (Str.ofString "watched.library-deep._sre") 273, (.str (Str.ofString "\x04\x00\x00\x0b\x04\x00\x00\x0b\x04\x00\x00\x03\x04\x00\x00\x0b\x08\x04dict\x02") 0)⟩, ⟨PyData.keyHash P (Str.ofString "type.__subclasses__.Exception.0"), .str (Str.ofString "type.__subclasses__.Exception.0") 605, (.int 79 0)⟩, ⟨PyData.keyHash P (Str.ofString "type.__subclasses__.Exception.n"), .str (Str.ofString "type.__subclasses__.Exception.n") 606, (.int 1 0)⟩] 11), #[]⟩) : Nat × Obj) ::
  ((nat_lit 3, ⟨(.type "dict"), none, (.dict #[⟨PyData.keyHash P (Str.ofString "__name__"), .str (Str.ofString "__name__") 165, (.str (Str.ofString "law_ad5043_01") 3877)⟩, ⟨PyData.keyHash P (Str.ofString "__doc__"), .str (Str.ofString "__doc__") 166, .none⟩, ⟨PyData.keyHash P (Str.ofString "__package__"), .str (Str.ofString "__package__") 167, .none⟩, ⟨PyData.keyHash P (Str.ofString "__loader__"), .str (Str.ofString "__loader__") 168, (.builtin "__main__.__loader__#opaque")⟩, ⟨PyData.keyHash P (Str.ofString "__spec__"), .str (Str.ofString "__spec__") 169, .none⟩, ⟨PyData.keyHash P (Str.ofString "__annotations__"), .str (Str.ofString "__annotations__") 170, (.ref 6)⟩, ⟨PyData.keyHash P (Str.ofString "__builtins__"), .str (Str.ofString "__builtins__") 171, (.ref 4)⟩, ⟨PyData.keyHash P (Str.ofString "__file__"), .str (Str.ofString "__file__") 173, (.str (Str.ofString "/claim/cut.py") 172)⟩, ⟨PyData.keyHash P (Str.ofString "__cached__"), .str (Str.ofString "__cached__") 174, .none⟩, ⟨PyData.keyHash P (Str.ofString "_sre"), .str (Str.ofString "_sre") 275, (.ref 12)⟩, ⟨PyData.keyHash P (Str.ofString "_wall"), .str (Str.ofString "_wall") 288, (.ref 38)⟩, ⟨PyData.keyHash P (Str.ofString "_pe_name"), .str (Str.ofString "_pe_name") 295, (.ref 45)⟩, ⟨PyData.keyHash P (Str.ofString "_twin_re_10"), .str (Str.ofString "_twin_re_10") 435, (.ref 50)⟩, ⟨PyData.keyHash P (Str.ofString "_twin_re_11"), .str (Str.ofString "_twin_re_11") 573, (.ref 55)⟩, ⟨PyData.keyHash P (Str.ofString "cast"), .str (Str.ofString "cast") 581, (.ref 62)⟩, ⟨PyData.keyHash P (Str.ofString "ascii_lower"), .str (Str.ofString "ascii_lower") 588, (.ref 69)⟩, ⟨PyData.keyHash P (Str.ofString "SelectorError"), .str (Str.ofString "SelectorError") 608, (.ref 79)⟩, ⟨PyData.keyHash P (Str.ofString "SelectorSyntaxError"), .str (Str.ofString "SelectorSyntaxError") 624, (.ref 92)⟩, ⟨PyData.keyHash P (Str.ofString "Selector"), .str (Str.ofString "Selector") 682, (.ref 133)⟩, ⟨PyData.keyHash P (Str.ofString "Class"), .str (Str.ofString "Class") 737, (.ref 175)⟩, ⟨PyData.keyHash P (Str.ofString "FunctionalPseudoElement"), .str (Str.ofString "FunctionalPseudoElement") 788, (.ref 213)⟩, ⟨PyData.keyHash P (Str.ofString "Function"), .str (Str.ofString "Function") 851, (.ref 258)⟩, ⟨PyData.keyHash P (Str.ofString "Pseudo"), .str (Str.ofString "Pseudo") 906, (.ref 300)⟩, ⟨PyData.keyHash P (Str.ofString "Negation"), .str (Str.ofString "Negation") 965, (.ref 342)⟩, ⟨PyData.keyHash P (Str.ofString "_combinator_prefix"), .str (Str.ofString "_combinator_prefix") 972, (.ref 353)⟩, ⟨PyData.keyHash P (Str.ofString "Relation"), .str (Str.ofString "Relation") 1032, (.ref 391)⟩, ⟨PyData.keyHash P (Str.ofString "Matching"), .str (Str.ofString "Matching") 1095, (.ref 433)⟩, ⟨PyData.keyHash P (Str.ofString "SpecificityAdjustment"), .str (Str.ofString "SpecificityAdjustment") 1152, (.ref 475)⟩, ⟨PyData.keyHash P (Str.ofString "Attrib"), .str (Str.ofString "Attrib") 1221, (.ref 518)⟩, ⟨PyData.keyHash P (Str.ofString "Element"), .str (Str.ofString "Element") 1275, (.ref 561)⟩, ⟨PyData.keyHash P (Str.ofString "Hash"), .str (Str.ofString "Hash") 1330, (.ref 603)⟩, ⟨PyData.keyHash P (Str.ofString "CombinedSelector"), .str (Str.ofString "CombinedSelector") 1393, (.ref 645)⟩, ⟨PyData.keyHash P (Str.ofString "_el_re"), .str (Str.ofString "_el_re") 1461, (.ref 654)⟩, ⟨PyData.keyHash P (Str.ofString "_id_re"), .str (Str.ofString "_id_re") 1552, (.ref 659)⟩, ⟨PyData.keyHash P (Str.ofString "_class_re"), .str (Str.ofString "_class_re") 1652, (.ref 664)⟩, ⟨PyData.keyHash P (Str.ofString "parse"), .str (Str.ofString "parse") 1661, (.ref 671)⟩, ⟨PyData.keyHash P (Str.ofString "parse_selector_group"), .str (Str.ofString "parse_selector_group") 1668, (.ref 678)⟩, ⟨PyData.keyHash P (Str.ofString "parse_selector"), .str (Str.ofString "parse_selector") 1680, (.ref 685)⟩, ⟨PyData.keyHash P (Str.ofString "parse_simple_selector"), .str (Str.ofString "parse_simple_selector") 1702, (.ref 693)⟩, ⟨PyData.keyHash P (Str.ofString "parse_arguments"), .str (Str.ofString "parse_arguments") 1711, (.ref 700)⟩, ⟨PyData.keyHash P (Str.ofString "parse_relative_selector"), .str (Str.ofString "parse_relative_selector") 1725, (.ref 707)⟩, ⟨PyData.keyHash P (Str.ofString "parse_simple_selector_arguments"), .str (Str.ofString "parse_simple_selector_arguments") 1736, (.ref 714)⟩, ⟨PyData.keyHash P (Str.ofString "parse_attrib"), .str (Str.ofString "parse_attrib") 1750, (.ref 721)⟩, ⟨PyData.keyHash P (Str.ofString "parse_series"), .str (Str.ofString "parse_series") 1763, (.ref 728)⟩, ⟨PyData.keyHash P (Str.ofString "Token"), .str (Str.ofString "Token") 1832, (.ref 782)⟩, ⟨PyData.keyHash P (Str.ofString "EOFToken"), .str (Str.ofString "EOFToken") 1864, (.ref 810)⟩, ⟨PyData.keyHash P (Str.ofString "_match_whitespace"), .str (Str.ofString "_match_whitespace") 1893, (.ref 818)⟩, ⟨PyData.keyHash P (Str.ofString "_match_number"), .str (Str.ofString "_match_number") 1960, (.ref 823)⟩, ⟨PyData.keyHash P (Str.ofString "_match_hash"), .str (Str.ofString "_match_hash") 2248, (.ref 828)⟩, ⟨PyData.keyHash P (Str.ofString "_match_ident"), .str (Str.ofString "_match_ident") 2802, (.ref 833)⟩, ⟨PyData.keyHash P (Str.ofString "_match_string_by_quote"), .str (Str.ofString "_match_string_by_quote") 2807, (.ref 834)⟩, ⟨PyData.keyHash P (Str.ofString "_unicode_escape"), .str (Str.ofString "_unicode_escape") 2872, (.ref 839)⟩, ⟨PyData.keyHash P (Str.ofString "_newline_escape"), .str (Str.ofString "_newline_escape") 2914, (.ref 844)⟩, ⟨PyData.keyHash P (Str.ofString "_replace_unicode"), .str (Str.ofString "_replace_unicode") 2922, (.ref 851)⟩, ⟨PyData.keyHash P (Str.ofString "_sub_unicode_escape"), .str (Str.ofString "_sub_unicode_escape") 2932, (.ref 858)⟩, ⟨PyData.keyHash P (Str.ofString "_sub_simple_escape"), .str (Str.ofString "_sub_simple_escape") 2941, (.ref 865)⟩, ⟨PyData.keyHash P (Str.ofString "unescape_ident"), .str (Str.ofString "unescape_ident") 2948, (.ref 872)⟩, ⟨PyData.keyHash P (Str.ofString "_serialize_ident"), .str (Str.ofString "_serialize_ident") 2960, (.ref 879)⟩, ⟨PyData.keyHash P (Str.ofString "tokenize"), .str (Str.ofString "tokenize") 2974, (.ref 886)⟩, ⟨PyData.keyHash P (Str.ofString "TokenStream"), .str (Str.ofString "TokenStream") 3053, (.ref 946)⟩, ⟨PyData.keyHash P (Str.ofString "ascii_lowercase"), .str (Str.ofString "ascii_lowercase") 3057, (.str (Str.ofString "abcdefghijklmnopqrstuvwxyz") 3056)⟩, ⟨PyData.keyHash P (Str.ofString "ascii_uppercase"), .str (Str.ofString "ascii_uppercase") 3059, (.str (Str.ofString "ABCDEFGHIJKLMNOPQRSTUVWXYZ") 3058)⟩, ⟨PyData.keyHash P (Str.ofString "ExpressionError"), .str (Str.ofString "ExpressionError") 3075, (.ref 960)⟩, ⟨PyData.keyHash P (Str.ofString "XPathExpr"), .str (Str.ofString "XPathExpr") 3164, (.ref 1023)⟩, ⟨PyData.keyHash P (Str.ofString "split_at_single_quotes"), .str (Str.ofString "split_at_single_quotes") 3173, (.ref 1034)⟩, ⟨PyData.keyHash P (Str.ofString "_safe_name"), .str (Str.ofString "_safe_name") 3218, (.ref 1039)⟩, ⟨PyData.keyHash P (Str.ofString "is_safe_name"), .str (Str.ofString "is_safe_name") 3225, (.ref 1046)⟩, ⟨PyData.keyHash P (Str.ofString "_non_whitespace"), .str (Str.ofString "_non_whitespace") 3259, (.ref 1051)⟩, ⟨PyData.keyHash P (Str.ofString "is_non_whitespace"), .str (Str.ofString "is_non_whitespace") 3266, (.ref 1058)⟩, ⟨PyData.keyHash P (Str.ofString "GenericTranslator"), .str (Str.ofString "GenericTranslator") 3876, (.ref 1435)⟩, ⟨PyData.keyHash P (Str.ofString "_law_marks"), .str (Str.ofString "_law_marks") 3885, (.ref 1440)⟩, ⟨PyData.keyHash P (Str.ofString "_law_names"), .str (Str.ofString "_law_names") 3891, (.ref 1447)⟩, ⟨PyData.keyHash P (Str.ofString "_law_tests"), .str (Str.ofString "_law_tests") 3897, (.ref 1454)⟩, ⟨PyData.keyHash P (Str.ofString "_law_combiners"), .str (Str.ofString "_law_combiners") 3903, (.ref 1461)⟩, ⟨PyData.keyHash P (Str.ofString "_law_cell"), .str (Str.ofString "_law_cell") 3911, (.ref 1468)⟩, ⟨PyData.keyHash P (Str.ofString "_law_end"), .str (Str.ofString "_law_end") 3921, (.ref 1475)⟩, ⟨PyData.keyHash P (Str.ofString "_law_holds"), .str (Str.ofString "_law_holds") 3935, (.ref 1482)⟩, ⟨PyData.keyHash P (Str.ofString "_law_truth"), .str (Str.ofString "_law_truth") 3947, (.ref 1489)⟩, ⟨PyData.keyHash P (Str.ofString "_law_is"), .str (Str.ofString "_law_is") 3953, (.ref 1494)⟩, ⟨PyData.keyHash P (Str.ofString "_law_added"), .str (Str.ofString "_law_added") 3964, (.ref 1501)⟩, ⟨PyData.keyHash P (Str.ofString "_law_tested"), .str (Str.ofString "_law_tested") 3974, (.ref 1508)⟩, ⟨PyData.keyHash P (Str.ofString "law"), .str (Str.ofString "law") 3992, (.ref 1515)⟩] 82), #[]⟩) : Nat × Obj) ::
  ((nat_lit 4, ⟨(.type "module"), (some 0), .plain, #[]⟩) : Nat × Obj) ::
  ((nat_lit 5, ⟨(.type "module"), (some 3), .plain, #[]⟩) : Nat × Obj) ::
  ((nat_lit 6, ⟨(.type "dict"), none, (.dict #[] 0), #[]⟩) : Nat × Obj) ::
  ((nat_lit 7, ⟨(.type "tuple"), none, (.seq #[] 0), #[]⟩) : Nat × Obj) ::
  ((nat_lit 9, ⟨(.type "code"), none, (.fields #[(.str (Str.ofString "<module>") 176), (.str (Str.ofString "<module>") 177), (.str (Str.ofString "/claim/cut.py") 178), (.int 1 0), (.int 0 0), (.int 0 0), (.int 0 0), (.int 0 0), (.ref 7), (.bool false), (.int 175 0), (.ref 8), .none, .none, .none, .none, (.int 179 0), (.int 1 0), (.str (Str.ofString "/claim/cut.py") 180)]), #[]⟩) : Nat × Obj) ::
  ((nat_lit 10, ⟨(.type "frame"), none, .plain, #[(some (.ref 9)), (some (.ref 3)), (some (.ref 3)), none, (some (.str (Str.ofString "__main__") 164)), none, (some (.ref 0))]⟩) : Nat × Obj) ::
  ((nat_lit 11, ⟨(.type "dict"), none, (.dict #[⟨PyData.keyHash P (Str.ofString "__name__"), .str (Str.ofString "__name__") 247, (.str (Str.ofString "_sre") 246)⟩, ⟨PyData.keyHash P (Str.ofString "__doc__"), .str (Str.ofString "__doc__") 248, .none⟩, ⟨PyData.keyHash P (Str.ofString "__package__"), .str (Str.ofString "__package__") 250, (.str (Str.ofString "") 249)⟩, ⟨PyData.keyHash P (Str.ofString "__loader__"), .str (Str.ofString "__loader__") 251, (.builtin "off-the-table:_sre.__loader__:shared#opaque")⟩, ⟨PyData.keyHash P (Str.ofString "__spec__"), .str (Str.ofString "__spec__") 252, (.builtin "off-the-table:_sre.__spec__:shared#opaque")⟩, ⟨PyData.keyHash P (Str.ofString "compile"), .str (Str.ofString "compile") 253, (.builtin "_sre.compile")⟩, ⟨PyData.keyHash P (Str.ofString "template"), .str (Str.ofString "template") 254, (.builtin "off-the-table:_sre.template:shared#opaque")⟩, ⟨PyData.keyHash P (Str.ofString "getcodesize"), .str (Str.ofString "getcodesize") 255, (.builtin "off-the-table:_sre.getcodesize:shared#opaque")⟩, ⟨PyData.keyHash P (Str.ofString "ascii_iscased"), .str (Str.ofString "ascii_iscased") 256, (.builtin "off-the-table:_sre.ascii_iscased:shared#opaque")⟩, ⟨PyData.keyHash P (Str.ofString "unicode_iscased"), .str (Str.ofString "unicode_iscased") 257, (.builtin "off-the-table:_sre.unicode_iscased:shared#opaque")⟩, ⟨PyData.keyHash P (Str.ofString "ascii_tolower"), .str (Str.ofString "ascii_tolower") 258, (.builtin "off-the-table:_sre.ascii_tolower:shared#opaque")⟩, ⟨PyData.keyHash P (Str.ofString "unicode_tolower"), .str (Str.ofString "unicode_tolower") 259, (.builtin "off-the-table:_sre.unicode_tolower:shared#opaque")⟩, ⟨PyData.keyHash P (Str.ofString "MAGIC"), .str (Str.ofString "MAGIC") 261, (.int 20230612 260)⟩, ⟨PyData.keyHash P (Str.ofString "CODESIZE"), .str (Str.ofString "CODESIZE") 263, (.int 4 262)⟩, ⟨PyData.keyHash P (Str.ofString "MAXREPEAT"), .str (Str.ofString "MAXREPEAT") 265, (.int 4294967295 264)⟩, ⟨PyData.keyHash P (Str.ofString "MAXGROUPS"), .str (Str.ofString "MAXGROUPS") 267, (.int 1073741823 266)⟩, ⟨PyData.keyHash P (Str.ofString "copyright"), .str (Str.ofString "copyright") 269, (.str (Str.ofString " SRE 2.2.2 Copyright (c) 1997-2002 by Secret Labs AB ") 268)⟩] 17), #[]⟩) : Nat × Obj) ::
  ((nat_lit 12, ⟨(.type "module"), (some 11), .plain, #[]⟩) : Nat × Obj) ::
  ((nat_lit 13, ⟨(.type "dict"), none, (.dict #[⟨PyData.keyHash P (Str.ofString "__module__"), .str (Str.ofString "__module__") 189, (.str (Str.ofString "_frozen_importlib") 186)⟩, ⟨PyData.keyHash P (Str.ofString "__firstlineno__"), .str (Str.ofString "__firstlineno__") 190, (.int 971 187)⟩, ⟨PyData.keyHash P (Str.ofString "__doc__"), .str (Str.ofString "__doc__") 191, (.builtin "_frozen_importlib.BuiltinImporter.__doc__:str#opaque")⟩, ⟨PyData.keyHash P (Str.ofString "_ORIGIN"), .str (Str.ofString "_ORIGIN") 192, (.str (Str.ofString "built-in") 188)⟩, ⟨PyData.keyHash P (Str.ofString "find_spec"), .str (Str.ofString "find_spec") 193, (.builtin "_frozen_importlib.BuiltinImporter.find_spec#opaque")⟩, ⟨PyData.keyHash P (Str.ofString "create_module"), .str (Str.ofString "create_module") 194, (.builtin "_frozen_importlib.BuiltinImporter.create_module#opaque")⟩, ⟨PyData.keyHash P (Str.ofString "exec_module"), .str (Str.ofString "exec_module") 195, (.builtin "_frozen_importlib.BuiltinImporter.exec_module#opaque")⟩, ⟨PyData.keyHash P (Str.ofString "get_code"), .str (Str.ofString "get_code") 196, (.builtin "_frozen_importlib.BuiltinImporter.get_code#opaque")⟩, ⟨PyData.keyHash P (Str.ofString "get_source"), .str (Str.ofString "get_source") 197, (.builtin "_frozen_importlib.BuiltinImporter.get_source#opaque")⟩, ⟨PyData.keyHash P (Str.ofString "is_package"), .str (Str.ofString "is_package") 198, (.builtin "_frozen_importlib.BuiltinImporter.is_package#opaque")⟩, ⟨PyData.keyHash P (Str.ofString "load_module"), .str (Str.ofString "load_module") 199, (.builtin "_frozen_importlib.BuiltinImporter.load_module#opaque")⟩, ⟨PyData.keyHash P (Str.ofString "__static_attributes__"), .str (Str.ofString "__static_attributes__") 200, (.ref 15)⟩, ⟨PyData.keyHash P (Str.ofString "__dict__"), .str (Str.ofString "__dict__") 202, (.ref 16)⟩, ⟨PyData.keyHash P (Str.ofString "__weakref__"), .str (Str.ofString "__weakref__") 204, (.ref 17)⟩] 14), #[]⟩) : Nat × Obj) ::
  ((nat_lit 14, ⟨(.type "type"), none, (.cls ⟨(Str.ofString "BuiltinImporter"), [(.type "object")], [(.ref 14), (.type "object")], 13, (Str.ofString "BuiltinImporter"), true, [], [], false, none, false⟩), #[]⟩) : Nat × Obj) ::
  ((nat_lit 15, ⟨(.type "tuple"), none, (.seq #[] 0), #[]⟩) : Nat × Obj) ::
  ((nat_lit 16, ⟨(.type "getset_descriptor"), none, (.fields #[(.str (Str.ofString "__dict__") 201), (.ref 14), (.builtin "function.__dict__"), (.builtin "function.__dict__#set")]), #[]⟩) : Nat × Obj) ::
  ((nat_lit 17, ⟨(.type "getset_descriptor"), none, (.fields #[(.str (Str.ofString "__weakref__") 203), (.ref 14), (.builtin "ExceptionGroup.__weakref__"), .none]), #[]⟩) : Nat × Obj) ::
  ((nat_lit 19, ⟨(.type "list"), none, (.seq #[] 0), #[]⟩) : Nat × Obj) ::
  ((nat_lit 20, ⟨(.type "dict"), none, (.dict #[⟨PyData.keyHash P (Str.ofString "name"), .str (Str.ofString "name") 208, (.str (Str.ofString "_sre") 207)⟩, ⟨PyData.keyHash P (Str.ofString "loader"), .str (Str.ofString "loader") 209, (.ref 14)⟩, ⟨PyData.keyHash P (Str.ofString "origin"), .str (Str.ofString "origin") 210, (.str (Str.ofString "built-in") 184)⟩, ⟨PyData.keyHash P (Str.ofString "loader_state"), .str (Str.ofString "loader_state") 211, .none⟩, ⟨PyData.keyHash P (Str.ofString "submodule_search_locations"), .str (Str.ofString "submodule_search_locations") 212, .none⟩, ⟨PyData.keyHash P (Str.ofString "_uninitialized_submodules"), .str (Str.ofString "_uninitialized_submodules") 213, (.ref 19)⟩, ⟨PyData.keyHash P (Str.ofString "_set_fileattr"), .str (Str.ofString "_set_fileattr") 214, (.bool false)⟩, ⟨PyData.keyHash P (Str.ofString "_cached"), .str (Str.ofString "_cached") 215, .none⟩, ⟨PyData.keyHash P (Str.ofString "_initializing"), .str (Str.ofString "_initializing") 243, (.bool false)⟩] 9), #[]⟩) : Nat × Obj) ::
  ((nat_lit 21, ⟨(.type "dict"), none, (.dict #[⟨PyData.keyHash P (Str.ofString "__module__"), .str (Str.ofString "__module__") 227, (.str (Str.ofString "_frozen_importlib") 217)⟩, ⟨PyData.keyHash P (Str.ofString "__firstlineno__"), .str (Str.ofString "__firstlineno__") 228, (.int 562 218)⟩, ⟨PyData.keyHash P (Str.ofString "__doc__"), .str (Str.ofString "__doc__") 229, (.builtin "_frozen_importlib.ModuleSpec.__doc__:str#opaque")⟩, ⟨PyData.keyHash P (Str.ofString "__init__"), .str (Str.ofString "__init__") 230, (.builtin "_frozen_importlib.ModuleSpec.__init__#opaque")⟩, ⟨PyData.keyHash P (Str.ofString "__repr__"), .str (Str.ofString "__repr__") 231, (.builtin "_frozen_importlib.ModuleSpec.__repr__#opaque")⟩, ⟨PyData.keyHash P (Str.ofString "__eq__"), .str (Str.ofString "__eq__") 232, (.builtin "_frozen_importlib.ModuleSpec.__eq__#opaque")⟩, ⟨PyData.keyHash P (Str.ofString "cached"), .str (Str.ofString "cached") 233, (.builtin "_frozen_importlib.ModuleSpec.cached#opaque")⟩, ⟨PyData.keyHash P (Str.ofString "parent"), .str (Str.ofString "parent") 234, (.builtin "_frozen_importlib.ModuleSpec.parent#opaque")⟩, ⟨PyData.keyHash P (Str.ofString "has_location"), .str (Str.ofString "has_location") 235, (.builtin "_frozen_importlib.ModuleSpec.has_location#opaque")⟩, ⟨PyData.keyHash P (Str.ofString "__static_attributes__"), .str (Str.ofString "__static_attributes__") 236, (.ref 23)⟩, ⟨PyData.keyHash P (Str.ofString "__dict__"), .str (Str.ofString "__dict__") 238, (.ref 24)⟩, ⟨PyData.keyHash P (Str.ofString "__weakref__"), .str (Str.ofString "__weakref__") 240, (.ref 25)⟩, ⟨PyData.keyHash P (Str.ofString "__hash__"), .str (Str.ofString "__hash__") 241, .none⟩] 13), #[]⟩) : Nat × Obj) ::
  ((nat_lit 22, ⟨(.type "type"), none, (.cls ⟨(Str.ofString "ModuleSpec"), [(.type "object")], [(.ref 22), (.type "object")], 21, (Str.ofString "ModuleSpec"), true, [], [], false, none, false⟩), #[]⟩) : Nat × Obj) ::
  ((nat_lit 23, ⟨(.type "tuple"), none, (.seq #[(.str (Str.ofString "_cached") 219), (.str (Str.ofString "_set_fileattr") 220), (.str (Str.ofString "_uninitialized_submodules") 221), (.str (Str.ofString "loader") 222), (.str (Str.ofString "loader_state") 223), (.str (Str.ofString "name") 224), (.str (Str.ofString "origin") 225), (.str (Str.ofString "submodule_search_locations") 226)] 0), #[]⟩) : Nat × Obj) ::
  ((nat_lit 24, ⟨(.type "getset_descriptor"), none, (.fields #[(.str (Str.ofString "__dict__") 237), (.ref 22), (.builtin "function.__dict__"), (.builtin "function.__dict__#set")]), #[]⟩) : Nat × Obj) ::
  ((nat_lit 25, ⟨(.type "getset_descriptor"), none, (.fields #[(.str (Str.ofString "__weakref__") 239), (.ref 22), (.builtin "ExceptionGroup.__weakref__"), .none]), #[]⟩) : Nat × Obj) ::
  ((nat_lit 26, ⟨(.ref 22), (some 20), .plain, #[]⟩) : Nat × Obj) ::
  ((nat_lit 28, ⟨(.type "tuple"), none, (.seq #[] 0), #[]⟩) : Nat × Obj) ::
  ((nat_lit 30, ⟨(.type "code"), none, (.fields #[(.str (Str.ofString "<module>") 277), (.str (Str.ofString "<module>") 278), (.str (Str.ofString "/claim/cut.py") 279), (.int 1 0), (.int 0 0), (.int 0 0), (.int 0 0), (.int 0 0), (.ref 28), (.bool false), (.int 276 0), (.ref 29), .none, .none, .none, .none, (.int 280 0), (.int 1 0), (.str (Str.ofString "/claim/cut.py") 281)]), #[]⟩) : Nat × Obj) ::
  ((nat_lit 31, ⟨(.type "frame"), none, .plain, #[(some (.ref 30)), (some (.ref 3)), (some (.ref 3)), none, (some (.str (Str.ofString "__main__") 164)), none, (some (.ref 0))]⟩) : Nat × Obj) ::
  ((nat_lit 963, ⟨(.type "tuple"), none, (.seq #[] 0), #[]⟩) : Nat × Obj) ::
  ((nat_lit 964, ⟨(.type "builtin_function_or_method"), none, (.fields #[(.builtin "type.__prepare__"), (.type "type")]), #[]⟩) : Nat × Obj) ::
  ((nat_lit 965, ⟨(.type "dict"), none, (.dict #[⟨PyData.keyHash P (Str.ofString "__module__"), .str (Str.ofString "__module__") 3083, (.str (Str.ofString "cssselect.xpath") 3054)⟩, ⟨PyData.keyHash P (Str.ofString "__qualname__"), .str (Str.ofString "__qualname__") 3085, (.str (Str.ofString "XPathExpr") 3084)⟩, ⟨PyData.keyHash P (Str.ofString "__firstlineno__"), .str (Str.ofString "__firstlineno__") 3087, (.int 773 3086)⟩, ⟨PyData.keyHash P (Str.ofString "__init__"), .str (Str.ofString "__init__") 3101, (.ref 977)⟩, ⟨PyData.keyHash P (Str.ofString "__str__"), .str (Str.ofString "__str__") 3109, (.ref 984)⟩, ⟨PyData.keyHash P (Str.ofString "__repr__"), .str (Str.ofString "__repr__") 3116, (.ref 991)⟩, ⟨PyData.keyHash P (Str.ofString "add_condition"), .str (Str.ofString "add_condition") 3126, (.ref 999)⟩, ⟨PyData.keyHash P (Str.ofString "add_name_test"), .str (Str.ofString "add_name_test") 3136, (.ref 1006)⟩, ⟨PyData.keyHash P (Str.ofString "add_star_prefix"), .str (Str.ofString "add_star_prefix") 3143, (.ref 1013)⟩, ⟨PyData.keyHash P (Str.ofString "join"), .str (Str.ofString "join") 3153, (.ref 1020)⟩, ⟨PyData.keyHash P (Str.ofString "__static_attributes__"), .str (Str.ofString "__static_attributes__") 3157, (.ref 1021)⟩] 11), #[]⟩) : Nat × Obj) ::
  ((nat_lit 966, ⟨(.type "tuple"), none, (.seq #[] 0), #[]⟩) : Nat × Obj) ::
  ((nat_lit 968, ⟨(.type "code"), none, (.fields #[(.str (Str.ofString "XPathExpr") 3078), (.str (Str.ofString "XPathExpr") 3079), (.str (Str.ofString "/claim/cut.py") 3080), (.int 773 0), (.int 0 0), (.int 0 0), (.int 0 0), (.int 0 0), (.ref 966), (.bool false), (.int 276 0), (.ref 967), .none, .none, .none, .none, (.int 3081 0), (.int 773 0), (.str (Str.ofString "/claim/cut.py") 3082)]), #[]⟩) : Nat × Obj) ::
  ((nat_lit 969, ⟨(.type "frame"), none, .plain, #[(some (.ref 968)), (some (.ref 3)), (some (.ref 965)), none, (some (.str (Str.ofString "cssselect.xpath") 3054)), none, (some (.ref 0))]⟩) : Nat × Obj) ::
  ((nat_lit 970, ⟨(.type "tuple"), none, (.seq #[(.str (Str.ofString "") 3088), (.str (Str.ofString "*") 3089), (.str (Str.ofString "") 3090), (.bool false)] 0), #[]⟩) : Nat × Obj) ::
  ((nat_lit 971, ⟨(.type "tuple"), none, (.seq #[] 0), #[]⟩) : Nat × Obj) ::
  ((nat_lit 973, ⟨(.type "tuple"), none, (.seq #[(.str (Str.ofString "self") 3094), (.str (Str.ofString "path") 3095), (.str (Str.ofString "element") 3096), (.str (Str.ofString "condition") 3097), (.str (Str.ofString "star_prefix") 3098)] 0), #[]⟩) : Nat × Obj) ::
  ((nat_lit 974, ⟨(.type "tuple"), none, (.seq #[] 0), #[]⟩) : Nat × Obj) ::
  ((nat_lit 976, ⟨(.type "code"), none, (.fields #[(.str (Str.ofString "__init__") 3091), (.str (Str.ofString "XPathExpr.__init__") 3092), (.str (Str.ofString "/claim/cut.py") 3093), (.int 775 0), (.int 5 0), (.int 0 0), (.int 0 0), (.int 3 0), (.ref 971), (.bool true), (.int 276 0), (.ref 972), .none, (.ref 973), (.ref 974), (.ref 975), (.int 3099 0), (.int 775 0), (.str (Str.ofString "/claim/cut.py") 3100)]), #[]⟩) : Nat × Obj) ::
  ((nat_lit 977, fnO (kd (st 56) 0) rfl (Str.ofString "XPathExpr.__init__") 3 [] (.ref 970) .none .none (.str (Str.ofString "cssselect.xpath") 3054) none (.ref 976) .none 0 #[]) : Nat × Obj) ::
  ((nat_lit 978, ⟨(.type "tuple"), none, (.seq #[] 0), #[]⟩) : Nat × Obj) ::
  ((nat_lit 980, ⟨(.type "tuple"), none, (.seq #[(.str (Str.ofString "self") 3105), (.str (Str.ofString "path") 3106)] 0), #[]⟩) : Nat × Obj) ::
  ((nat_lit 981, ⟨(.type "tuple"), none, (.seq #[] 0), #[]⟩) : Nat × Obj) ::
  ((nat_lit 983, ⟨(.type "code"), none, (.fields #[(.str (Str.ofString "__str__") 3102), (.str (Str.ofString "XPathExpr.__str__") 3103), (.str (Str.ofString "/claim/cut.py") 3104), (.int 780 0), (.int 1 0), (.int 0 0), (.int 0 0), (.int 3 0), (.ref 978), (.bool true), (.int 276 0), (.ref 979), .none, (.ref 980), (.ref 981), (.ref 982), (.int 3107 0), (.int 780 0), (.str (Str.ofString "/claim/cut.py") 3108)]), #[]⟩) : Nat × Obj) ::
  ((nat_lit 984, fnO (kd (st 56) 1) rfl (Str.ofString "XPathExpr.__str__") 3 [] .none .none .none (.str (Str.ofString "cssselect.xpath") 3054) none (.ref 983) .none 0 #[]) : Nat × Obj) ::
  ((nat_lit 985, ⟨(.type "tuple"), none, (.seq #[] 0), #[]⟩) : Nat × Obj) ::
  ((nat_lit 987, ⟨(.type "tuple"), none, (.seq #[(.str (Str.ofString "self") 3113)] 0), #[]⟩) : Nat × Obj) ::
  ((nat_lit 988, ⟨(.type "tuple"), none, (.seq #[] 0), #[]⟩) : Nat × Obj) ::
  ((nat_lit 990, ⟨(.type "code"), none, (.fields #[(.str (Str.ofString "__repr__") 3110), (.str (Str.ofString "XPathExpr.__repr__") 3111), (.str (Str.ofString "/claim/cut.py") 3112), (.int 786 0), (.int 1 0), (.int 0 0), (.int 0 0), (.int 3 0), (.ref 985), (.bool true), (.int 276 0), (.ref 986), .none, (.ref 987), (.ref 988), (.ref 989), (.int 3114 0), (.int 786 0), (.str (Str.ofString "/claim/cut.py") 3115)]), #[]⟩) : Nat × Obj) ::
  ((nat_lit 992, ⟨(.type "tuple"), none, (.seq #[(.str (Str.ofString "and") 3117)] 0), #[]⟩) : Nat × Obj) ::
  ((nat_lit 993, ⟨(.type "tuple"), none, (.seq #[] 0), #[]⟩) : Nat × Obj) ::
  ((nat_lit 995, ⟨(.type "tuple"), none, (.seq #[(.str (Str.ofString "self") 3121), (.str (Str.ofString "condition") 3122), (.str (Str.ofString "conjuction") 3123)] 0), #[]⟩) : Nat × Obj) ::
  ((nat_lit 996, ⟨(.type "tuple"), none, (.seq #[] 0), #[]⟩) : Nat × Obj) ::
  ((nat_lit 998, ⟨(.type "code"), none, (.fields #[(.str (Str.ofString "add_condition") 3118), (.str (Str.ofString "XPathExpr.add_condition") 3119), (.str (Str.ofString "/claim/cut.py") 3120), (.int 789 0), (.int 3 0), (.int 0 0), (.int 0 0), (.int 3 0), (.ref 993), (.bool true), (.int 276 0), (.ref 994), .none, (.ref 995), (.ref 996), (.ref 997), (.int 3124 0), (.int 789 0), (.str (Str.ofString "/claim/cut.py") 3125)]), #[]⟩) : Nat × Obj) ::
  ((nat_lit 999, fnO (kd (st 56) 3) rfl (Str.ofString "XPathExpr.add_condition") 3 [] (.ref 992) .none .none (.str (Str.ofString "cssselect.xpath") 3054) none (.ref 998) .none 0 #[]) : Nat × Obj) ::
  ((nat_lit 1000, ⟨(.type "tuple"), none, (.seq #[] 0), #[]⟩) : Nat × Obj) ::
  ((nat_lit 1002, ⟨(.type "tuple"), none, (.seq #[(.str (Str.ofString "self") 3130), (.str (Str.ofString "prefix") 3131), (.str (Str.ofString "colon") 3132), (.str (Str.ofString "local") 3133)] 0), #[]⟩) : Nat × Obj) ::
  ((nat_lit 1003, ⟨(.type "tuple"), none, (.seq #[] 0), #[]⟩) : Nat × Obj) ::
  ((nat_lit 1005, ⟨(.type "code"), none, (.fields #[(.str (Str.ofString "add_name_test") 3127), (.str (Str.ofString "XPathExpr.add_name_test") 3128), (.str (Str.ofString "/claim/cut.py") 3129), (.int 796 0), (.int 1 0), (.int 0 0), (.int 0 0), (.int 3 0), (.ref 1000), (.bool true), (.int 276 0), (.ref 1001), .none, (.ref 1002), (.ref 1003), (.ref 1004), (.int 3134 0), (.int 796 0), (.str (Str.ofString "/claim/cut.py") 3135)]), #[]⟩) : Nat × Obj) ::
  ((nat_lit 1006, fnO (kd (st 56) 4) rfl (Str.ofString "XPathExpr.add_name_test") 3 [] .none .none .none (.str (Str.ofString "cssselect.xpath") 3054) none (.ref 1005) .none 0 #[]) : Nat × Obj) ::
  ((nat_lit 1007, ⟨(.type "tuple"), none, (.seq #[] 0), #[]⟩) : Nat × Obj) ::
  ((nat_lit 1009, ⟨(.type "tuple"), none, (.seq #[(.str (Str.ofString "self") 3140)] 0), #[]⟩) : Nat × Obj) ::
  ((nat_lit 1010, ⟨(.type "tuple"), none, (.seq #[] 0), #[]⟩) : Nat × Obj) ::
  ((nat_lit 1012, ⟨(.type "code"), none, (.fields #[(.str (Str.ofString "add_star_prefix") 3137), (.str (Str.ofString "XPathExpr.add_star_prefix") 3138), (.str (Str.ofString "/claim/cut.py") 3139), (.int 806 0), (.int 1 0), (.int 0 0), (.int 0 0), (.int 3 0), (.ref 1007), (.bool true), (.int 276 0), (.ref 1008), .none, (.ref 1009), (.ref 1010), (.ref 1011), (.int 3141 0), (.int 806 0), (.str (Str.ofString "/claim/cut.py") 3142)]), #[]⟩) : Nat × Obj) ::
  ((nat_lit 1013, fnO (kd (st 56) 5) rfl (Str.ofString "XPathExpr.add_star_prefix") 3 [] .none .none .none (.str (Str.ofString "cssselect.xpath") 3054) none (.ref 1012) .none 0 #[]) : Nat × Obj) ::
  ((nat_lit 1014, ⟨(.type "tuple"), none, (.seq #[] 0), #[]⟩) : Nat × Obj) ::
  ((nat_lit 1016, ⟨(.type "tuple"), none, (.seq #[(.str (Str.ofString "self") 3147), (.str (Str.ofString "combiner") 3148), (.str (Str.ofString "other") 3149), (.str (Str.ofString "path") 3150)] 0), #[]⟩) : Nat × Obj) ::
  ((nat_lit 1017, ⟨(.type "tuple"), none, (.seq #[] 0), #[]⟩) : Nat × Obj) ::
  ((nat_lit 1019, ⟨(.type "code"), none, (.fields #[(.str (Str.ofString "join") 3144), (.str (Str.ofString "XPathExpr.join") 3145), (.str (Str.ofString "/claim/cut.py") 3146), (.int 809 0), (.int 3 0), (.int 0 0), (.int 0 0), (.int 3 0), (.ref 1014), (.bool true), (.int 276 0), (.ref 1015), .none, (.ref 1016), (.ref 1017), (.ref 1018), (.int 3151 0), (.int 809 0), (.str (Str.ofString "/claim/cut.py") 3152)]), #[]⟩) : Nat × Obj) ::
  ((nat_lit 1020, fnO (kd (st 56) 6) rfl (Str.ofString "XPathExpr.join") 3 [] .none .none .none (.str (Str.ofString "cssselect.xpath") 3054) none (.ref 1019) .none 0 #[]) : Nat × Obj) ::
  ((nat_lit 1021, ⟨(.type "tuple"), none, (.seq #[(.str (Str.ofString "condition") 3154), (.str (Str.ofString "element") 3155), (.str (Str.ofString "path") 3156)] 0), #[]⟩) : Nat × Obj) ::
  ((nat_lit 1022, ⟨(.type "dict"), none, (.dict #[⟨PyData.keyHash P (Str.ofString "__module__"), .str (Str.ofString "__module__") 3083, (.str (Str.ofString "cssselect.xpath") 3054)⟩, ⟨PyData.keyHash P (Str.ofString "__firstlineno__"), .str (Str.ofString "__firstlineno__") 3087, (.int 773 3086)⟩, ⟨PyData.keyHash P (Str.ofString "__init__"), .str (Str.ofString "__init__") 3101, (.ref 977)⟩, ⟨PyData.keyHash P (Str.ofString "__str__"), .str (Str.ofString "__str__") 3109, (.ref 984)⟩, ⟨PyData.keyHash P (Str.ofString "__repr__"), .str (Str.ofString "__repr__") 3116, (.ref 991)⟩, ⟨PyData.keyHash P (Str.ofString "add_condition"), .str (Str.ofString "add_condition") 3126, (.ref 999)⟩, ⟨PyData.keyHash P (Str.ofString "add_name_test"), .str (Str.ofString "add_name_test") 3136, (.ref 1006)⟩, ⟨PyData.keyHash P (Str.ofString "add_star_prefix"), .str (Str.ofString "add_star_prefix") 3143, (.ref 1013)⟩, ⟨PyData.keyHash P (Str.ofString "join"), .str (Str.ofString "join") 3153, (.ref 1020)⟩, ⟨PyData.keyHash P (Str.ofString "__static_attributes__"), .str (Str.ofString "__static_attributes__") 3157, (.ref 1021)⟩, ⟨PyData.keyHash P (Str.ofString "__dict__"), .str (Str.ofString "__dict__") 3159, (.ref 1024)⟩, ⟨PyData.keyHash P (Str.ofString "__weakref__"), .str (Str.ofString "__weakref__") 3161, (.ref 1025)⟩, ⟨PyData.keyHash P (Str.ofString "__doc__"), .str (Str.ofString "__doc__") 3162, .none⟩] 4), #[]⟩) : Nat × Obj) ::
  ((nat_lit 1023, ⟨(.type "type"), none, (.cls ⟨(Str.ofString "XPathExpr"), [(.type "object")], [(.ref 1023), (.type "object")], 1022, (Str.ofString "XPathExpr"), true, [], [], false, none, false⟩), #[none, none, (some (.str (Str.ofString "XPathExpr") 3076)), (some (.str (Str.ofString "XPathExpr") 3084)), (some (.builtin "object.__new__")), (some (.bool true))]⟩) : Nat × Obj) ::
  ((nat_lit 1024, ⟨(.type "getset_descriptor"), none, (.fields #[(.str (Str.ofString "__dict__") 3158), (.ref 1023), (.builtin "function.__dict__"), (.builtin "function.__dict__#set")]), #[]⟩) : Nat × Obj) ::
  ((nat_lit 1025, ⟨(.type "getset_descriptor"), none, (.fields #[(.str (Str.ofString "__weakref__") 3160), (.ref 1023), (.builtin "ExceptionGroup.__weakref__"), .none]), #[]⟩) : Nat × Obj) ::
  ((nat_lit 1035, ⟨(.type "list"), none, (.seq #[(.int 14 3177), (.int 4 3178), (.int 0 3179), (.int 1 3180), (.int 4294967295 3181), (.int 6 3182), (.int 0 3183), (.int 13 3184), (.int 11 3185), (.int 9 3186), (.int 0 3187), (.int 0 3188), (.int 2281701374 3189), (.int 134217726 3190), (.int 0 3191), (.int 0 3192), (.int 0 3193), (.int 0 3194), (.int 0 3195), (.int 24 3196), (.int 16 3197), (.int 0 3198), (.int 4294967295 3199), (.int 13 3200), (.int 11 3201), (.int 9 3202), (.int 0 3203), (.int 67067904 3204), (.int 2281701374 3205), (.int 134217726 3206), (.int 0 3207), (.int 0 3208), (.int 0 3209), (.int 0 3210), (.int 0 3211), (.int 1 3212), (.int 6 3213), (.int 5 3214), (.int 1 3215)] 0), #[]⟩) : Nat × Obj) ::
  ((nat_lit 1036, ⟨(.type "dict"), none, (.dict #[] 0), #[]⟩) : Nat × Obj) ::
  ((nat_lit 1037, ⟨(.type "tuple"), none, (.seq #[.none] 0), #[]⟩) : Nat × Obj) ::
  ((nat_lit 1038, ⟨(.type "tuple"), none, (.seq #[(.int 14 0), (.int 4 0), (.int 0 0), (.int 1 0), (.int 4294967295 0), (.int 6 0), (.int 0 0), (.int 13 0), (.int 11 0), (.int 9 0), (.int 0 0), (.int 0 0), (.int 2281701374 0), (.int 134217726 0), (.int 0 0), (.int 0 0), (.int 0 0), (.int 0 0), (.int 0 0), (.int 24 0), (.int 16 0), (.int 0 0), (.int 4294967295 0), (.int 13 0), (.int 11 0), (.int 9 0), (.int 0 0), (.int 67067904 0), (.int 2281701374 0), (.int 134217726 0), (.int 0 0), (.int 0 0), (.int 0 0), (.int 0 0), (.int 0 0), (.int 1 0), (.int 6 0), (.int 5 0), (.int 1 0)] 0), #[]⟩) : Nat × Obj) ::
  ((nat_lit 1039, ⟨(.type "re.Pattern"), none, (.fields #[(.str (Str.ofString "^[a-zA-Z_][a-zA-Z0-9_.-]*$") 3175), (.int 32 3217), (.int 0 0), .none, .none, (.ref 1038), (.int 0 0)]), #[]⟩) : Nat × Obj) ::
  ((nat_lit 1040, ⟨(.type "tuple"), none, (.seq #[] 0), #[]⟩) : Nat × Obj) ::
  ((nat_lit 1042, ⟨(.type "tuple"), none, (.seq #[(.str (Str.ofString "s") 3222)] 0), #[]⟩) : Nat × Obj) ::
  ((nat_lit 1043, ⟨(.type "tuple"), none, (.seq #[] 0), #[]⟩) : Nat × Obj) ::
  ((nat_lit 1045, ⟨(.type "code"), none, (.fields #[(.str (Str.ofString "is_safe_name") 3219), (.str (Str.ofString "is_safe_name") 3220), (.str (Str.ofString "/claim/cut.py") 3221), (.int 826 0), (.int 1 0), (.int 0 0), (.int 0 0), (.int 3 0), (.ref 1040), (.bool true), (.int 276 0), (.ref 1041), .none, (.ref 1042), (.ref 1043), (.ref 1044), (.int 3223 0), (.int 826 0), (.str (Str.ofString "/claim/cut.py") 3224)]), #[]⟩) : Nat × Obj) ::
  ((nat_lit 1046, fnO (st 59) rfl (Str.ofString "is_safe_name") 3 [] .none .none .none (.str (Str.ofString "cssselect.xpath") 3054) none (.ref 1045) .none 0 #[]) : Nat × Obj) ::
  ((nat_lit 1088, ⟨(.type "tuple"), none, (.seq #[] 0), #[]⟩) : Nat × Obj) ::
  ((nat_lit 1090, ⟨(.type "code"), none, (.fields #[(.str (Str.ofString "xpath_pseudo_element") 3362), (.str (Str.ofString "GenericTranslator.xpath_pseudo_element") 3363), (.str (Str.ofString "/claim/cut.py") 3364), (.int 854 0), (.int 3 0), (.int 0 0), (.int 0 0), (.int 3 0), (.ref 1085), (.bool true), (.int 276 0), (.ref 1086), .none, (.ref 1087), (.ref 1088), (.ref 1089), (.int 3368 0), (.int 854 0), (.str (Str.ofString "/claim/cut.py") 3369)]), #[]⟩) : Nat × Obj) ::
  ((nat_lit 1091, fnO (kd (st 62) 10) rfl (Str.ofString "GenericTranslator.xpath_pseudo_element") 3 [] .none .none .none (.str (Str.ofString "cssselect.xpath") 3054) none (.ref 1090) .none 0 #[]) : Nat × Obj) ::
  ((nat_lit 1092, ⟨(.type "tuple"), none, (.seq #[] 0), #[]⟩) : Nat × Obj) ::
  ((nat_lit 1095, ⟨(.type "code"), none, (.fields #[(.str (Str.ofString "xpath_literal") 3371), (.str (Str.ofString "GenericTranslator.xpath_literal") 3372), (.str (Str.ofString "/claim/cut.py") 3373), (.int 857 0), (.int 1 0), (.int 0 0), (.int 0 0), (.int 3 0), (.ref 1092), (.bool true), (.int 276 0), (.ref 1093), .none, .none, .none, (.ref 1094), (.int 3374 0), (.int 857 0), (.str (Str.ofString "/claim/cut.py") 3375)]), #[]⟩) : Nat × Obj) ::
  ((nat_lit 1096, fnO (kd (st 62) 11) rfl (Str.ofString "GenericTranslator.xpath_literal") 3 [] .none .none .none (.str (Str.ofString "cssselect.xpath") 3054) (some 1099) (.ref 1095) .none 0 #[]) : Nat × Obj) ::
  ((nat_lit 1097, ⟨(.type "dict"), none, (.dict #[⟨PyData.keyHash P (Str.ofString "__module__"), .str (Str.ofString "__module__") 3377, (.str (Str.ofString "cssselect.xpath") 3054)⟩, ⟨PyData.keyHash P (Str.ofString "__name__"), .str (Str.ofString "__name__") 3380, (.str (Str.ofString "xpath_literal") 3379)⟩, ⟨PyData.keyHash P (Str.ofString "__qualname__"), .str (Str.ofString "__qualname__") 3383, (.str (Str.ofString "GenericTranslator.xpath_literal") 3382)⟩, ⟨PyData.keyHash P (Str.ofString "__doc__"), .str (Str.ofString "__doc__") 3385, .none⟩, ⟨PyData.keyHash P (Str.ofString "__annotations__"), .str (Str.ofString "__annotations__") 3387, (.ref 1099)⟩] 5), #[]⟩) : Nat × Obj) ::
  ((nat_lit 1098, ⟨(.type "staticmethod"), (some 1097), (.fields #[(.ref 1096), (.bool false)]), #[]⟩) : Nat × Obj) ::
  ((nat_lit 1099, ⟨(.type "dict"), none, (.dict #[] 0), #[]⟩) : Nat × Obj) ::
  ((nat_lit 1434, ⟨(.type "dict"), none, (.dict #[⟨PyData.keyHash P (Str.ofString "__module__"), .str (Str.ofString "__module__") 3274, (.str (Str.ofString "cssselect.xpath") 3054)⟩, ⟨PyData.keyHash P (Str.ofString "__firstlineno__"), .str (Str.ofString "__firstlineno__") 3278, (.int 831 3277)⟩, ⟨PyData.keyHash P (Str.ofString "combinator_mapping"), .str (Str.ofString "combinator_mapping") 3291, (.ref 1066)⟩, ⟨PyData.keyHash P (Str.ofString "_reverse_combinator_mapping"), .str (Str.ofString "_reverse_combinator_mapping") 3304, (.ref 1067)⟩, ⟨PyData.keyHash P (Str.ofString "attribute_operator_mapping"), .str (Str.ofString "attribute_operator_mapping") 3329, (.ref 1068)⟩, ⟨PyData.keyHash P (Str.ofString "id_attribute"), .str (Str.ofString "id_attribute") 3331, (.str (Str.ofString "id") 3330)⟩, ⟨PyData.keyHash P (Str.ofString "lang_attribute"), .str (Str.ofString "lang_attribute") 3333, (.str (Str.ofString "xml:lang") 3332)⟩, ⟨PyData.keyHash P (Str.ofString "lower_case_element_names"), .str (Str.ofString "lower_case_element_names") 3334, (.bool false)⟩, ⟨PyData.keyHash P (Str.ofString "lower_case_attribute_names"), .str (Str.ofString "lower_case_attribute_names") 3335, (.bool false)⟩, ⟨PyData.keyHash P (Str.ofString "lower_case_attribute_values"), .str (Str.ofString "lower_case_attribute_values") 3336, (.bool false)⟩, ⟨PyData.keyHash P (Str.ofString "css_to_xpath"), .str (Str.ofString "css_to_xpath") 3348, (.ref 1076)⟩, ⟨PyData.keyHash P (Str.ofString "selector_to_xpath"), .str (Str.ofString "selector_to_xpath") 3361, (.ref 1084)⟩, ⟨PyData.keyHash P (Str.ofString "xpath_pseudo_element"), .str (Str.ofString "xpath_pseudo_element") 3370, (.ref 1091)⟩, ⟨PyData.keyHash P (Str.ofString "xpath_literal"), .str (Str.ofString "xpath_literal") 3388, (.ref 1098)⟩, ⟨PyData.keyHash P (Str.ofString "xpath"), .str (Str.ofString "xpath") 3398, (.ref 1106)⟩, ⟨PyData.keyHash P (Str.ofString "xpath_combinedselector"), .str (Str.ofString "xpath_combinedselector") 3408, (.ref 1113)⟩, ⟨PyData.keyHash P (Str.ofString "xpath_negation"), .str (Str.ofString "xpath_negation") 3418, (.ref 1120)⟩, ⟨PyData.keyHash P (Str.ofString "_xpath_match_condition"), .str (Str.ofString "_xpath_match_condition") 3430, (.ref 1127)⟩, ⟨PyData.keyHash P (Str.ofString "xpath_relation"), .str (Str.ofString "xpath_relation") 3443, (.ref 1134)⟩, ⟨PyData.keyHash P (Str.ofString "xpath_matching"), .str (Str.ofString "xpath_matching") 3451, (.ref 1141)⟩, ⟨PyData.keyHash P (Str.ofString "xpath_specificityadjustment"), .str (Str.ofString "xpath_specificityadjustment") 3459, (.ref 1148)⟩, ⟨PyData.keyHash P (Str.ofString "_xpath_add_selector_list_condition"), .str (Str.ofString "_xpath_add_selector_list_condition") 3471, (.ref 1155)⟩, ⟨PyData.keyHash P (Str.ofString "xpath_function"), .str (Str.ofString "xpath_function") 3481, (.ref 1162)⟩, ⟨PyData.keyHash P (Str.ofString "xpath_pseudo"), .str (Str.ofString "xpath_pseudo") 3491, (.ref 1169)⟩, ⟨PyData.keyHash P (Str.ofString "xpath_attrib"), .str (Str.ofString "xpath_attrib") 3505, (.ref 1176)⟩, ⟨PyData.keyHash P (Str.ofString "xpath_class"), .str (Str.ofString "xpath_class") 3514, (.ref 1183)⟩, ⟨PyData.keyHash P (Str.ofString "xpath_hash"), .str (Str.ofString "xpath_hash") 3523, (.ref 1190)⟩, ⟨PyData.keyHash P (Str.ofString "xpath_element"), .str (Str.ofString "xpath_element") 3534, (.ref 1197)⟩, ⟨PyData.keyHash P (Str.ofString "xpath_descendant_combinator"), .str (Str.ofString "xpath_descendant_combinator") 3543, (.ref 1204)⟩, ⟨PyData.keyHash P (Str.ofString "xpath_child_combinator"), .str (Str.ofString "xpath_child_combinator") 3552, (.ref 1211)⟩, ⟨PyData.keyHash P (Str.ofString "xpath_direct_adjacent_combinator"), .str (Str.ofString "xpath_direct_adjacent_combinator") 3562, (.ref 1218)⟩, ⟨PyData.keyHash P (Str.ofString "xpath_indirect_adjacent_combinator"), .str (Str.ofString "xpath_indirect_adjacent_combinator") 3571, (.ref 1225)⟩, ⟨PyData.keyHash P (Str.ofString "xpath_relation_descendant_combinator"), .str (Str.ofString "xpath_relation_descendant_combinator") 3579, (.ref 1232)⟩, ⟨PyData.keyHash P (Str.ofString "xpath_relation_child_combinator"), .str (Str.ofString "xpath_relation_child_combinator") 3587, (.ref 1239)⟩, ⟨PyData.keyHash P (Str.ofString "xpath_relation_direct_adjacent_combinator"), .str (Str.ofString "xpath_relation_direct_adjacent_combinator") 3598, (.ref 1246)⟩, ⟨PyData.keyHash P (Str.ofString "xpath_relation_indirect_adjacent_combinator"), .str (Str.ofString "xpath_relation_indirect_adjacent_combinator") 3606, (.ref 1253)⟩, ⟨PyData.keyHash P (Str.ofString "xpath_nth_child_function"), .str (Str.ofString "xpath_nth_child_function") 3627, (.ref 1261)⟩, ⟨PyData.keyHash P (Str.ofString "xpath_nth_last_child_function"), .str (Str.ofString "xpath_nth_last_child_function") 3636, (.ref 1268)⟩, ⟨PyData.keyHash P (Str.ofString "_check_of_type_element"), .str (Str.ofString "_check_of_type_element") 3658, (.ref 1277)⟩, ⟨PyData.keyHash P (Str.ofString "xpath_nth_of_type_function"), .str (Str.ofString "xpath_nth_of_type_function") 3667, (.ref 1285)⟩, ⟨PyData.keyHash P (Str.ofString "xpath_nth_last_of_type_function"), .str (Str.ofString "xpath_nth_last_of_type_function") 3676, (.ref 1292)⟩, ⟨PyData.keyHash P (Str.ofString "xpath_contains_function"), .str (Str.ofString "xpath_contains_function") 3686, (.ref 1299)⟩, ⟨PyData.keyHash P (Str.ofString "xpath_lang_function"), .str (Str.ofString "xpath_lang_function") 3696, (.ref 1306)⟩, ⟨PyData.keyHash P (Str.ofString "xpath_root_pseudo"), .str (Str.ofString "xpath_root_pseudo") 3704, (.ref 1313)⟩, ⟨PyData.keyHash P (Str.ofString "xpath_scope_pseudo"), .str (Str.ofString "xpath_scope_pseudo") 3712, (.ref 1320)⟩, ⟨PyData.keyHash P (Str.ofString "xpath_first_child_pseudo"), .str (Str.ofString "xpath_first_child_pseudo") 3720, (.ref 1327)⟩, ⟨PyData.keyHash P (Str.ofString "xpath_last_child_pseudo"), .str (Str.ofString "xpath_last_child_pseudo") 3728, (.ref 1334)⟩, ⟨PyData.keyHash P (Str.ofString "xpath_first_of_type_pseudo"), .str (Str.ofString "xpath_first_of_type_pseudo") 3736, (.ref 1341)⟩, ⟨PyData.keyHash P (Str.ofString "xpath_last_of_type_pseudo"), .str (Str.ofString "xpath_last_of_type_pseudo") 3744, (.ref 1348)⟩, ⟨PyData.keyHash P (Str.ofString "xpath_only_child_pseudo"), .str (Str.ofString "xpath_only_child_pseudo") 3752, (.ref 1355)⟩, ⟨PyData.keyHash P (Str.ofString "xpath_only_of_type_pseudo"), .str (Str.ofString "xpath_only_of_type_pseudo") 3760, (.ref 1362)⟩, ⟨PyData.keyHash P (Str.ofString "xpath_empty_pseudo"), .str (Str.ofString "xpath_empty_pseudo") 3768, (.ref 1369)⟩, ⟨PyData.keyHash P (Str.ofString "pseudo_never_matches"), .str (Str.ofString "pseudo_never_matches") 3776, (.ref 1376)⟩, ⟨PyData.keyHash P (Str.ofString "xpath_link_pseudo"), .str (Str.ofString "xpath_link_pseudo") 3777, (.ref 1376)⟩, ⟨PyData.keyHash P (Str.ofString "xpath_visited_pseudo"), .str (Str.ofString "xpath_visited_pseudo") 3778, (.ref 1376)⟩, ⟨PyData.keyHash P (Str.ofString "xpath_hover_pseudo"), .str (Str.ofString "xpath_hover_pseudo") 3779, (.ref 1376)⟩, ⟨PyData.keyHash P (Str.ofString "xpath_active_pseudo"), .str (Str.ofString "xpath_active_pseudo") 3780, (.ref 1376)⟩, ⟨PyData.keyHash P (Str.ofString "xpath_focus_pseudo"), .str (Str.ofString "xpath_focus_pseudo") 3781, (.ref 1376)⟩, ⟨PyData.keyHash P (Str.ofString "xpath_target_pseudo"), .str (Str.ofString "xpath_target_pseudo") 3782, (.ref 1376)⟩, ⟨PyData.keyHash P (Str.ofString "xpath_enabled_pseudo"), .str (Str.ofString "xpath_enabled_pseudo") 3783, (.ref 1376)⟩, ⟨PyData.keyHash P (Str.ofString "xpath_disabled_pseudo"), .str (Str.ofString "xpath_disabled_pseudo") 3784, (.ref 1376)⟩, ⟨PyData.keyHash P (Str.ofString "xpath_checked_pseudo"), .str (Str.ofString "xpath_checked_pseudo") 3785, (.ref 1376)⟩, ⟨PyData.keyHash P (Str.ofString "xpath_attrib_exists"), .str (Str.ofString "xpath_attrib_exists") 3795, (.ref 1383)⟩, ⟨PyData.keyHash P (Str.ofString "xpath_attrib_equals"), .str (Str.ofString "xpath_attrib_equals") 3805, (.ref 1390)⟩, ⟨PyData.keyHash P (Str.ofString "xpath_attrib_different"), .str (Str.ofString "xpath_attrib_different") 3815, (.ref 1397)⟩, ⟨PyData.keyHash P (Str.ofString "xpath_attrib_includes"), .str (Str.ofString "xpath_attrib_includes") 3826, (.ref 1404)⟩, ⟨PyData.keyHash P (Str.ofString "xpath_attrib_dashmatch"), .str (Str.ofString "xpath_attrib_dashmatch") 3838, (.ref 1411)⟩, ⟨PyData.keyHash P (Str.ofString "xpath_attrib_prefixmatch"), .str (Str.ofString "xpath_attrib_prefixmatch") 3848, (.ref 1418)⟩, ⟨PyData.keyHash P (Str.ofString "xpath_attrib_suffixmatch"), .str (Str.ofString "xpath_attrib_suffixmatch") 3858, (.ref 1425)⟩, ⟨PyData.keyHash P (Str.ofString "xpath_attrib_substringmatch"), .str (Str.ofString "xpath_attrib_substringmatch") 3868, (.ref 1432)⟩, ⟨PyData.keyHash P (Str.ofString "__static_attributes__"), .str (Str.ofString "__static_attributes__") 3869, (.ref 1433)⟩, ⟨PyData.keyHash P (Str.ofString "__dict__"), .str (Str.ofString "__dict__") 3871, (.ref 1436)⟩, ⟨PyData.keyHash P (Str.ofString "__weakref__"), .str (Str.ofString "__weakref__") 3873, (.ref 1437)⟩, ⟨PyData.keyHash P (Str.ofString "__doc__"), .str (Str.ofString "__doc__") 3874, .none⟩] 4), #[]⟩) : Nat × Obj) ::
  ((nat_lit 1435, ⟨(.type "type"), none, (.cls ⟨(Str.ofString "GenericTranslator"), [(.type "object")], [(.ref 1435), (.type "object")], 1434, (Str.ofString "GenericTranslator"), true, [], [], false, none, false⟩), #[none, none, (some (.str (Str.ofString "GenericTranslator") 3267)), (some (.str (Str.ofString "GenericTranslator") 3275)), (some (.builtin "object.__new__")), (some (.bool true))]⟩) : Nat × Obj) ::
  ((nat_lit 1436, ⟨(.type "getset_descriptor"), none, (.fields #[(.str (Str.ofString "__dict__") 3870), (.ref 1435), (.builtin "function.__dict__"), (.builtin "function.__dict__#set")]), #[]⟩) : Nat × Obj) ::
  ((nat_lit 1437, ⟨(.type "getset_descriptor"), none, (.fields #[(.str (Str.ofString "__weakref__") 3872), (.ref 1435), (.builtin "ExceptionGroup.__weakref__"), .none]), #[]⟩) : Nat × Obj) ::
  ((nat_lit 1438, ⟨(.type "super"), none, (.fields #[(.ref 1435), (.ref 1435), (.ref 1435)]), #[]⟩) : Nat × Obj) ::
  ((nat_lit 1439, ⟨(.type "builtin_function_or_method"), none, (.fields #[(.builtin "object.__init_subclass__"), (.ref 1435)]), #[]⟩) : Nat × Obj) ::
  ((nat_lit 1440, ⟨(.type "list"), none, (.seq #[(.str (Str.ofString "p") 3879), (.str (Str.ofString "q") 3880), (.str (Str.ofString "r") 3881), (.str (Str.ofString "s") 3882), (.str (Str.ofString "t") 3883), (.str (Str.ofString "u") 3884)] 0), #[]⟩) : Nat × Obj) ::
  ((nat_lit 1441, ⟨(.type "tuple"), none, (.seq #[] 0), #[]⟩) : Nat × Obj) ::
  ((nat_lit 1443, ⟨(.type "tuple"), none, (.seq #[] 0), #[]⟩) : Nat × Obj) ::
  ((nat_lit 1444, ⟨(.type "tuple"), none, (.seq #[] 0), #[]⟩) : Nat × Obj) ::
  ((nat_lit 1446, ⟨(.type "code"), none, (.fields #[(.str (Str.ofString "_law_names") 3886), (.str (Str.ofString "_law_names") 3887), (.str (Str.ofString "/claim/cut.py") 3888), (.int 1192 0), (.int 0 0), (.int 0 0), (.int 0 0), (.int 3 0), (.ref 1441), (.bool true), (.int 276 0), (.ref 1442), .none, (.ref 1443), (.ref 1444), (.ref 1445), (.int 3889 0), (.int 1192 0), (.str (Str.ofString "/claim/cut.py") 3890)]), #[]⟩) : Nat × Obj) ::
  ((nat_lit 1447, fnO (st 65) rfl (Str.ofString "_law_names") 3 [] .none .none .none (.str (Str.ofString "law_ad5043_01") 3877) none (.ref 1446) .none 0 #[]) : Nat × Obj) ::
  ((nat_lit 1448, ⟨(.type "tuple"), none, (.seq #[] 0), #[]⟩) : Nat × Obj) ::
  ((nat_lit 1450, ⟨(.type "tuple"), none, (.seq #[] 0), #[]⟩) : Nat × Obj) ::
  ((nat_lit 1451, ⟨(.type "tuple"), none, (.seq #[] 0), #[]⟩) : Nat × Obj) ::
  ((nat_lit 1453, ⟨(.type "code"), none, (.fields #[(.str (Str.ofString "_law_tests") 3892), (.str (Str.ofString "_law_tests") 3893), (.str (Str.ofString "/claim/cut.py") 3894), (.int 1194 0), (.int 0 0), (.int 0 0), (.int 0 0), (.int 3 0), (.ref 1448), (.bool true), (.int 276 0), (.ref 1449), .none, (.ref 1450), (.ref 1451), (.ref 1452), (.int 3895 0), (.int 1194 0), (.str (Str.ofString "/claim/cut.py") 3896)]), #[]⟩) : Nat × Obj) ::
  ((nat_lit 1454, fnO (st 66) rfl (Str.ofString "_law_tests") 3 [] .none .none .none (.str (Str.ofString "law_ad5043_01") 3877) none (.ref 1453) .none 0 #[]) : Nat × Obj) ::
  ((nat_lit 1455, ⟨(.type "tuple"), none, (.seq #[] 0), #[]⟩) : Nat × Obj) ::
  ((nat_lit 1457, ⟨(.type "tuple"), none, (.seq #[] 0), #[]⟩) : Nat × Obj) ::
  ((nat_lit 1458, ⟨(.type "tuple"), none, (.seq #[] 0), #[]⟩) : Nat × Obj) ::
  ((nat_lit 1460, ⟨(.type "code"), none, (.fields #[(.str (Str.ofString "_law_combiners") 3898), (.str (Str.ofString "_law_combiners") 3899), (.str (Str.ofString "/claim/cut.py") 3900), (.int 1196 0), (.int 0 0), (.int 0 0), (.int 0 0), (.int 3 0), (.ref 1455), (.bool true), (.int 276 0), (.ref 1456), .none, (.ref 1457), (.ref 1458), (.ref 1459), (.int 3901 0), (.int 1196 0), (.str (Str.ofString "/claim/cut.py") 3902)]), #[]⟩) : Nat × Obj) ::
  ((nat_lit 1461, fnO (st 67) rfl (Str.ofString "_law_combiners") 3 [] .none .none .none (.str (Str.ofString "law_ad5043_01") 3877) none (.ref 1460) .none 0 #[]) : Nat × Obj) ::
  ((nat_lit 1462, ⟨(.type "tuple"), none, (.seq #[] 0), #[]⟩) : Nat × Obj) ::
  ((nat_lit 1464, ⟨(.type "tuple"), none, (.seq #[(.str (Str.ofString "script") 3907), (.str (Str.ofString "at") 3908)] 0), #[]⟩) : Nat × Obj) ::
  ((nat_lit 1465, ⟨(.type "tuple"), none, (.seq #[] 0), #[]⟩) : Nat × Obj) ::
  ((nat_lit 1467, ⟨(.type "code"), none, (.fields #[(.str (Str.ofString "_law_cell") 3904), (.str (Str.ofString "_law_cell") 3905), (.str (Str.ofString "/claim/cut.py") 3906), (.int 1198 0), (.int 2 0), (.int 0 0), (.int 0 0), (.int 3 0), (.ref 1462), (.bool true), (.int 276 0), (.ref 1463), .none, (.ref 1464), (.ref 1465), (.ref 1466), (.int 3909 0), (.int 1198 0), (.str (Str.ofString "/claim/cut.py") 3910)]), #[]⟩) : Nat × Obj) ::
  ((nat_lit 1468, fnO (st 68) rfl (Str.ofString "_law_cell") 3 [] .none .none .none (.str (Str.ofString "law_ad5043_01") 3877) none (.ref 1467) .none 0 #[]) : Nat × Obj) ::
  ((nat_lit 1469, ⟨(.type "tuple"), none, (.seq #[] 0), #[]⟩) : Nat × Obj) ::
  ((nat_lit 1471, ⟨(.type "tuple"), none, (.seq #[(.str (Str.ofString "text") 3915), (.str (Str.ofString "deep") 3916), (.str (Str.ofString "at") 3917), (.str (Str.ofString "sign") 3918)] 0), #[]⟩) : Nat × Obj) ::
  ((nat_lit 1472, ⟨(.type "tuple"), none, (.seq #[] 0), #[]⟩) : Nat × Obj) ::
  ((nat_lit 1474, ⟨(.type "code"), none, (.fields #[(.str (Str.ofString "_law_end") 3912), (.str (Str.ofString "_law_end") 3913), (.str (Str.ofString "/claim/cut.py") 3914), (.int 1200 0), (.int 1 0), (.int 0 0), (.int 0 0), (.int 3 0), (.ref 1469), (.bool true), (.int 276 0), (.ref 1470), .none, (.ref 1471), (.ref 1472), (.ref 1473), (.int 3919 0), (.int 1200 0), (.str (Str.ofString "/claim/cut.py") 3920)]), #[]⟩) : Nat × Obj) ::
  ((nat_lit 1475, fnO (st 69) rfl (Str.ofString "_law_end") 3 [] .none .none .none (.str (Str.ofString "law_ad5043_01") 3877) none (.ref 1474) .none 0 #[]) : Nat × Obj) ::
  ((nat_lit 1476, ⟨(.type "tuple"), none, (.seq #[] 0), #[]⟩) : Nat × Obj) ::
  ((nat_lit 1478, ⟨(.type "tuple"), none, (.seq #[(.str (Str.ofString "text") 3925), (.str (Str.ofString "facts") 3926), (.str (Str.ofString "end") 3927), (.str (Str.ofString "left") 3928), (.str (Str.ofString "rest") 3929), (.str (Str.ofString "word") 3930), (.str (Str.ofString "more") 3931), (.str (Str.ofString "right") 3932)] 0), #[]⟩) : Nat × Obj) ::
  ((nat_lit 1479, ⟨(.type "tuple"), none, (.seq #[] 0), #[]⟩) : Nat × Obj) ::
  ((nat_lit 1481, ⟨(.type "code"), none, (.fields #[(.str (Str.ofString "_law_holds") 3922), (.str (Str.ofString "_law_holds") 3923), (.str (Str.ofString "/claim/cut.py") 3924), (.int 1207 0), (.int 2 0), (.int 0 0), (.int 0 0), (.int 3 0), (.ref 1476), (.bool true), (.int 276 0), (.ref 1477), .none, (.ref 1478), (.ref 1479), (.ref 1480), (.int 3933 0), (.int 1207 0), (.str (Str.ofString "/claim/cut.py") 3934)]), #[]⟩) : Nat × Obj) ::
  ((nat_lit 1482, fnO (st 70) rfl (Str.ofString "_law_holds") 3 [] .none .none .none (.str (Str.ofString "law_ad5043_01") 3877) none (.ref 1481) .none 0 #[]) : Nat × Obj) ::
  ((nat_lit 1483, ⟨(.type "tuple"), none, (.seq #[] 0), #[]⟩) : Nat × Obj) ::
  ((nat_lit 1485, ⟨(.type "tuple"), none, (.seq #[(.str (Str.ofString "added") 3939), (.str (Str.ofString "facts") 3940), (.str (Str.ofString "found") 3941), (.str (Str.ofString "word") 3942), (.str (Str.ofString "mark") 3943), (.str (Str.ofString "held") 3944)] 0), #[]⟩) : Nat × Obj) ::
  ((nat_lit 1486, ⟨(.type "tuple"), none, (.seq #[] 0), #[]⟩) : Nat × Obj) ::
  ((nat_lit 1488, ⟨(.type "code"), none, (.fields #[(.str (Str.ofString "_law_truth") 3936), (.str (Str.ofString "_law_truth") 3937), (.str (Str.ofString "/claim/cut.py") 3938), (.int 1222 0), (.int 2 0), (.int 0 0), (.int 0 0), (.int 3 0), (.ref 1483), (.bool true), (.int 276 0), (.ref 1484), .none, (.ref 1485), (.ref 1486), (.ref 1487), (.int 3945 0), (.int 1222 0), (.str (Str.ofString "/claim/cut.py") 3946)]), #[]⟩) : Nat × Obj) ::
  ((nat_lit 1489, fnO (st 71) rfl (Str.ofString "_law_truth") 3 [] .none .none .none (.str (Str.ofString "law_ad5043_01") 3877) none (.ref 1488) .none 0 #[]) : Nat × Obj) ::
  ((nat_lit 1490, ⟨(.type "tuple"), none, (.seq #[] 0), #[]⟩) : Nat × Obj) ::
  ((nat_lit 1493, ⟨(.type "code"), none, (.fields #[(.str (Str.ofString "_law_is") 3948), (.str (Str.ofString "_law_is") 3949), (.str (Str.ofString "/claim/cut.py") 3950), (.int 1228 0), (.int 4 0), (.int 0 0), (.int 0 0), (.int 3 0), (.ref 1490), (.bool true), (.int 276 0), (.ref 1491), .none, .none, .none, (.ref 1492), (.int 3951 0), (.int 1228 0), (.str (Str.ofString "/claim/cut.py") 3952)]), #[]⟩) : Nat × Obj) ::
  ((nat_lit 1494, fnO (st 72) rfl (Str.ofString "_law_is") 3 [] .none .none .none (.str (Str.ofString "law_ad5043_01") 3877) none (.ref 1493) .none 0 #[]) : Nat × Obj) ::
  ((nat_lit 1495, ⟨(.type "tuple"), none, (.seq #[] 0), #[]⟩) : Nat × Obj) ::
  ((nat_lit 1497, ⟨(.type "tuple"), none, (.seq #[(.str (Str.ofString "told") 3957), (.str (Str.ofString "added") 3958), (.str (Str.ofString "cell") 3959), (.str (Str.ofString "mark") 3960), (.str (Str.ofString "way") 3961)] 0), #[]⟩) : Nat × Obj) ::
  ((nat_lit 1498, ⟨(.type "tuple"), none, (.seq #[] 0), #[]⟩) : Nat × Obj) ::
  ((nat_lit 1500, ⟨(.type "code"), none, (.fields #[(.str (Str.ofString "_law_added") 3954), (.str (Str.ofString "_law_added") 3955), (.str (Str.ofString "/claim/cut.py") 3956), (.int 1241 0), (.int 3 0), (.int 0 0), (.int 0 0), (.int 3 0), (.ref 1495), (.bool true), (.int 276 0), (.ref 1496), .none, (.ref 1497), (.ref 1498), (.ref 1499), (.int 3962 0), (.int 1241 0), (.str (Str.ofString "/claim/cut.py") 3963)]), #[]⟩) : Nat × Obj) ::
  ((nat_lit 1501, fnO (st 73) rfl (Str.ofString "_law_added") 3 [] .none .none .none (.str (Str.ofString "law_ad5043_01") 3877) none (.ref 1500) .none 0 #[]) : Nat × Obj) ::
  ((nat_lit 1502, ⟨(.type "tuple"), none, (.seq #[] 0), #[]⟩) : Nat × Obj) ::
  ((nat_lit 1504, ⟨(.type "tuple"), none, (.seq #[(.str (Str.ofString "told") 3968), (.str (Str.ofString "name") 3969), (.str (Str.ofString "added") 3970), (.str (Str.ofString "test") 3971)] 0), #[]⟩) : Nat × Obj) ::
  ((nat_lit 1505, ⟨(.type "tuple"), none, (.seq #[] 0), #[]⟩) : Nat × Obj) ::
  ((nat_lit 1507, ⟨(.type "code"), none, (.fields #[(.str (Str.ofString "_law_tested") 3965), (.str (Str.ofString "_law_tested") 3966), (.str (Str.ofString "/claim/cut.py") 3967), (.int 1248 0), (.int 3 0), (.int 0 0), (.int 0 0), (.int 3 0), (.ref 1502), (.bool true), (.int 276 0), (.ref 1503), .none, (.ref 1504), (.ref 1505), (.ref 1506), (.int 3972 0), (.int 1248 0), (.str (Str.ofString "/claim/cut.py") 3973)]), #[]⟩) : Nat × Obj) ::
  ((nat_lit 1508, fnO (st 74) rfl (Str.ofString "_law_tested") 3 [] .none .none .none (.str (Str.ofString "law_ad5043_01") 3877) none (.ref 1507) .none 0 #[]) : Nat × Obj) ::
  ((nat_lit 1509, ⟨(.type "tuple"), none, (.seq #[] 0), #[]⟩) : Nat × Obj) ::
  ((nat_lit 1511, ⟨(.type "tuple"), none, (.seq #[(.str (Str.ofString "script") 3978), (.str (Str.ofString "cell") 3979), (.str (Str.ofString "path") 3980), (.str (Str.ofString "name") 3981), (.str (Str.ofString "added") 3982), (.str (Str.ofString "told") 3983), (.str (Str.ofString "turn") 3984), (.str (Str.ofString "way") 3985), (.str (Str.ofString "other") 3986), (.str (Str.ofString "more") 3987), (.str (Str.ofString "ahead") 3988), (.str (Str.ofString "combiner") 3989)] 0), #[]⟩) : Nat × Obj) ::
  ((nat_lit 1512, ⟨(.type "tuple"), none, (.seq #[] 0), #[]⟩) : Nat × Obj) ::
  ((nat_lit 1514, ⟨(.type "code"), none, (.fields #[(.str (Str.ofString "law") 3975), (.str (Str.ofString "law") 3976), (.str (Str.ofString "/claim/cut.py") 3977), (.int 1252 0), (.int 1 0), (.int 0 0), (.int 0 0), (.int 3 0), (.ref 1509), (.bool true), (.int 276 0), (.ref 1510), .none, (.ref 1511), (.ref 1512), (.ref 1513), (.int 3990 0), (.int 1252 0), (.str (Str.ofString "/claim/cut.py") 3991)]), #[]⟩) : Nat × Obj) ::
  ((nat_lit 1515, fnO (st 75) rfl (Str.ofString "law") 3 [] .none .none .none (.str (Str.ofString "law_ad5043_01") 3877) none (.ref 1514) .none 0 #[]) : Nat × Obj) :: []
end Mine
namespace Mine
open PySem

/-- the scan of `_law_end`: place, depth, the signs left -/
def endScan : Nat → Int → List Nat → Int
  | _, _, [] => -1
  | i, d, c :: r => if d + (if c = 40 then 1 else if c = 41 then -1 else 0) = 0 then (i : Int) else endScan (i + 1) (d + (if c = 40 then 1 else if c = 41 then -1 else 0)) r
theorem endScan_cons (i : Nat) (d : Int) (c : Nat) (r : List Nat) : endScan i d (c :: r) =
    if d + (if c = 40 then 1 else if c = 41 then -1 else 0) = 0 then (i : Int) else endScan (i + 1) (d + (if c = 40 then 1 else if c = 41 then -1 else 0)) r := rfl
def lawEnd (x : Str) : Int := endScan 0 0 x.cps.toList

def Bal (l : List Nat) : Prop := ∀ (d : Int) (i : Nat) (r : List Nat), 1 ≤ d → endScan i d (l ++ r) = endScan (i + l.length) d r
theorem Bal.nil : Bal [] := fun _ _ _ _ => rfl
theorem Bal.one {c : Nat} (h1 : c ≠ 40) (h2 : c ≠ 41) : Bal [c] := fun d i r hd => by
  show endScan i d (c :: r) = _
  rw [endScan_cons, if_neg h1, if_neg h2, if_neg (by omega), Int.add_zero]; rfl
theorem Bal.app {a b : List Nat} (ha : Bal a) (hb : Bal b) : Bal (a ++ b) := fun d i r hd => by
  rw [List.append_assoc, ha d i _ hd, hb d _ r hd, List.length_append, Nat.add_assoc]
theorem Bal.cons {c : Nat} {b : List Nat} (h1 : c ≠ 40) (h2 : c ≠ 41) (hb : Bal b) : Bal (c :: b) := Bal.app (a := [c]) (Bal.one h1 h2) hb
theorem Bal.par {a : List Nat} (ha : Bal a) : Bal (40 :: (a ++ [41])) := fun d i r hd => by
  show endScan i d (40 :: ((a ++ [41]) ++ r)) = _
  rw [List.append_assoc, endScan_cons, if_pos rfl, if_neg (by omega), ha (d + 1) (i + 1) _ (by omega)]
  show endScan _ _ (41 :: r) = _
  rw [endScan_cons, if_neg (by decide : ¬ (41 : Nat) = 40), if_pos rfl, if_neg (by omega)]
  have e : d + 1 + -1 = d := by omega
  have e2 : i + 1 + a.length + 1 = i + (40 :: (a ++ [41])).length := by simp; omega
  rw [e, e2]
theorem end_par {a r : List Nat} (ha : Bal a) : endScan 0 0 (40 :: (a ++ 41 :: r)) = ((a.length + 1 : Nat) : Int) := by
  rw [endScan_cons, if_pos rfl, if_neg (by omega), ha _ _ _ (by omega), endScan_cons, if_neg (by decide : ¬ (41 : Nat) = 40), if_pos rfl, if_pos (by omega)]
  congr 1
  omega

abbrev S (x : String) : Str := Str.ofString x
def marks : List Str := [S "p", S "q", S "r", S "s", S "t", S "u", S "self::a", S "self::n:b", S "name() = 'c d'", S "name() = \"it's\""]
def wordS (o : Bool) : Str := if o then S "or" else S "and"

/-- the condition's text; the newest stands first in the list -/
def cond : List (Bool × Str) → Str
  | [] => S ""
  | (o, m) :: l => match l with
    | [] => m
    | q :: l => ⟨((40 :: (cond (q :: l)).cps.toList) ++ ((41 :: 32 :: (wordS o).cps.toList) ++ (32 :: 40 :: (m.cps.toList ++ [41])))).toArray⟩

def truth (f : Str → Bool) : List (Bool × Str) → Bool
  | [] => false
  | (o, m) :: l => match l with
    | [] => f m
    | q :: l => if o then truth f (q :: l) || f m else truth f (q :: l) && f m

theorem cps_mk (l : List Nat) : (Str.mk l.toArray).cps.toList = l := by simp
theorem S_list (x : String) (l : List Nat) (h : Str.ofString x = Str.mk l.toArray := by decide +kernel) : (S x).cps.toList = l := by rw [S, h]

theorem marks_bal : ∀ m ∈ marks, Bal m.cps.toList := by
  have key : ∀ m ∈ marks, (∀ c ∈ m.cps.toList, c ≠ 40 ∧ c ≠ 41) ∨ ∃ b, m.cps.toList = [110, 97, 109, 101] ++ ((40 :: ([] ++ [41])) ++ b) ∧ ∀ c ∈ b, c ≠ 40 ∧ c ≠ 41 := by
    intro m hm
    simp only [marks, List.mem_cons, List.not_mem_nil, or_false] at hm
    rcases hm with rfl | rfl | rfl | rfl | rfl | rfl | rfl | rfl | rfl | rfl
    all_goals first
      | (left; decide +kernel)
      | (right; exact ⟨_, (by decide +kernel : (S "name() = 'c d'").cps.toList = [110, 97, 109, 101] ++ ((40 :: ([] ++ [41])) ++ [32, 61, 32, 39, 99, 32, 100, 39])), by decide⟩)
      | (right; exact ⟨_, (by decide +kernel : (S "name() = \"it's\"").cps.toList = [110, 97, 109, 101] ++ ((40 :: ([] ++ [41])) ++ [32, 61, 32, 34, 105, 116, 39, 115, 34])), by decide⟩)
  have plain : ∀ l : List Nat, (∀ c ∈ l, c ≠ 40 ∧ c ≠ 41) → Bal l := by
    intro l
    induction l with
    | nil => exact fun _ => Bal.nil
    | cons c l ih => exact fun h => Bal.cons (h c (by simp)).1 (h c (by simp)).2 (ih fun c' hc => h c' (by simp [hc]))
  intro m hm
  rcases key m hm with h | ⟨b, e, h⟩
  · exact plain _ h
  · rw [e]
    exact Bal.app (plain _ (by decide)) (Bal.app (Bal.par Bal.nil) (plain _ h))

theorem wordS_bal (o : Bool) : Bal (wordS o).cps.toList := by
  cases o
  · rw [show (wordS false).cps.toList = [97, 110, 100] by decide +kernel]
    exact Bal.cons (by decide) (by decide) (Bal.cons (by decide) (by decide) (Bal.one (by decide) (by decide)))
  · rw [show (wordS true).cps.toList = [111, 114] by decide +kernel]
    exact Bal.cons (by decide) (by decide) (Bal.one (by decide) (by decide))

/-- what may stand in the list -/
def Good (l : List (Bool × Str)) : Prop := ∀ q ∈ l, q.2 ∈ marks
theorem Good.tail {q : Bool × Str} {l : List (Bool × Str)} (h : Good (q :: l)) : Good l := fun p hp => h p (List.mem_cons_of_mem _ hp)
theorem Good.head {o : Bool} {m : Str} {l : List (Bool × Str)} (h : Good ((o, m) :: l)) : m ∈ marks := h (o, m) (List.mem_cons_self ..)

theorem cond_two (o : Bool) (m : Str) (q : Bool × Str) (l : List (Bool × Str)) :
    cond ((o, m) :: q :: l) = ⟨((40 :: (cond (q :: l)).cps.toList) ++ ((41 :: 32 :: (wordS o).cps.toList) ++ (32 :: 40 :: (m.cps.toList ++ [41])))).toArray⟩ := rfl
theorem cond_two_list (o : Bool) (m : Str) (q : Bool × Str) (l : List (Bool × Str)) :
    (cond ((o, m) :: q :: l)).cps.toList = (40 :: (cond (q :: l)).cps.toList) ++ ((41 :: 32 :: (wordS o).cps.toList) ++ (32 :: 40 :: (m.cps.toList ++ [41]))) := by rw [cond_two]
theorem cond_bal : ∀ l, Good l → Bal (cond l).cps.toList
  | [], _ => by
    rw [show (cond []).cps.toList = [] by decide +kernel]
    exact Bal.nil
  | [(o, m)], h => marks_bal m h.head
  | (o, m) :: q :: l, h => by
    rw [cond_two_list]
    have h1 := cond_bal (q :: l) h.tail
    have h2 := marks_bal m h.head
    have e : (40 :: (cond (q :: l)).cps.toList) ++ ((41 :: 32 :: (wordS o).cps.toList) ++ (32 :: 40 :: (m.cps.toList ++ [41])))
      = (40 :: ((cond (q :: l)).cps.toList ++ [41])) ++ ([32] ++ ((wordS o).cps.toList ++ ([32] ++ (40 :: (m.cps.toList ++ [41]))))) := by simp
    rw [e]
    exact Bal.app (Bal.par h1) (Bal.app (Bal.one (by decide) (by decide)) (Bal.app (wordS_bal o) (Bal.app (Bal.one (by decide) (by decide)) (Bal.par h2))))

/-- `_law_end` of such a text: the sign that closes the first one -/
theorem lawEnd_cond (o : Bool) (m : Str) (q : Bool × Str) (l : List (Bool × Str)) (h : Good ((o, m) :: q :: l)) :
    lawEnd (cond ((o, m) :: q :: l)) = (((cond (q :: l)).length + 1 : Nat) : Int) := by
  unfold lawEnd
  rw [cond_two_list]
  have e : (40 :: (cond (q :: l)).cps.toList) ++ ((41 :: 32 :: (wordS o).cps.toList) ++ (32 :: 40 :: (m.cps.toList ++ [41])))
      = 40 :: ((cond (q :: l)).cps.toList ++ 41 :: (32 :: (wordS o).cps.toList ++ (32 :: 40 :: (m.cps.toList ++ [41])))) := by simp
  rw [e, end_par (cond_bal _ h.tail)]
  simp [Str.length]
theorem lawEnd_par (m : Str) (h : m ∈ marks) : lawEnd ⟨(40 :: (m.cps.toList ++ [41])).toArray⟩ = ((m.length + 1 : Nat) : Int) := by
  unfold lawEnd
  rw [cps_mk, end_par (marks_bal m h)]
  simp [Str.length]

theorem marks_pos : ∀ m ∈ marks, 1 ≤ m.length ∧ m.length ≤ 15 := by decide +kernel
theorem cond_pos : ∀ l, l ≠ [] → Good l → 1 ≤ (cond l).length
  | [], h, _ => absurd rfl h
  | [(o, m)], _, h => (marks_pos m h.head).1
  | (o, m) :: q :: l, _, h => by
    have := cond_two_list o m q l
    show 1 ≤ (cond ((o, m) :: q :: l)).cps.size
    rw [← Array.length_toList, this]
    simp
theorem cond_len : ∀ l, Good l → (cond l).length ≤ 25 * l.length
  | [], _ => by decide
  | [(o, m)], h => by
    have := (marks_pos m h.head).2
    show m.length ≤ _
    simp; omega
  | (o, m) :: q :: l, h => by
    have h1 := cond_len (q :: l) h.tail
    have h2 := (marks_pos m h.head).2
    have h3 : (wordS o).cps.size ≤ 3 := by cases o <;> decide
    show (cond ((o, m) :: q :: l)).cps.size ≤ _
    rw [← Array.length_toList, cond_two_list]
    unfold Str.length at h1 h2
    simp only [List.length_append, List.length_cons, List.length_nil, Array.length_toList] at h1 ⊢
    omega
theorem cond_not_mark (o : Bool) (m : Str) (q : Bool × Str) (l : List (Bool × Str)) : cond ((o, m) :: q :: l) ∉ marks := by
  have key : ∀ m ∈ marks, m.cps.toList.head? ≠ some 40 := by decide +kernel
  intro h
  refine key _ h ?_
  rw [cond_two_list]
  rfl
end Mine
namespace Mine
open PySem PyProof.Rows PySem.Builtin PySem.Builtin.Str
def rest (o : Bool) (m : Str) : Str := ⟨(32 :: (wordS o).cps.toList ++ (32 :: 40 :: (m.cps.toList ++ [41]))).toArray⟩
def more (m : Str) : Str := ⟨(40 :: (m.cps.toList ++ [41])).toArray⟩

theorem str_ext {a b : Str} (h : a.cps.toList = b.cps.toList) : a = b := Str.ext' (Array.toList_inj.mp h)
theorem len_list (x : Str) : x.length = x.cps.toList.length := by simp [Str.length]
theorem slice_ss {x y : Str} {i j : Int} (h0 : 0 ≤ i) (h1 : i ≤ j) (h2 : j ≤ x.length) (e : (x.cps.toList.drop i.toNat).take (j - i).toNat = y.cps.toList) : Txt.slice x (some i) (some j) = y :=
  (eq_of_beq (slice_closesL h0 h1 h2)).trans (str_ext (by rw [cps_mk, e]))
theorem slice_ns {x y : Str} {j : Int} (h0 : 0 ≤ j) (h2 : j ≤ x.length) (e : x.cps.toList.take j.toNat = y.cps.toList) : Txt.slice x none (some j) = y :=
  (eq_of_beq (slice_closes_toL h0 h2)).trans (str_ext (by rw [cps_mk, ← e]; simp))
theorem slice_sn {x y : Str} {i : Int} (h0 : 0 ≤ i) (h2 : i ≤ x.length) (e : x.cps.toList.drop i.toNat = y.cps.toList) : Txt.slice x (some i) none = y :=
  (eq_of_beq (slice_closes_fromL h0 h2 rfl)).trans (str_ext (by
    rw [cps_mk, ← e]
    refine List.take_of_length_le ?_
    rw [List.length_drop, ← len_list]
    omega))

theorem len_more (m : Str) : (more m).length = m.length + 2 := by
  unfold more
  simp [Str.length]
theorem len_rest (o : Bool) (m : Str) : (rest o m).length = (wordS o).length + m.length + 4 := by
  unfold rest
  simp [Str.length]
  omega
theorem len_word (o : Bool) : (wordS o).length = if o then 2 else 3 := by cases o <;> decide
theorem len_cond (o : Bool) (m : Str) (q : Bool × Str) (l : List (Bool × Str)) : (cond ((o, m) :: q :: l)).length = (cond (q :: l)).length + (wordS o).length + m.length + 6 := by
  rw [len_list, cond_two_list]
  simp [Str.length]
  omega
theorem slice_one (o : Bool) (m : Str) (q : Bool × Str) (l : List (Bool × Str)) : Txt.slice (cond ((o, m) :: q :: l)) none (some 1) = S "(" := by
  refine slice_ns (by decide) ?_ ?_
  · rw [len_cond]; omega
  · rw [cond_two_list, S_list "(" [40]]
    rfl
theorem slice_in {o : Bool} {m : Str} {q : Bool × Str} {l : List (Bool × Str)} (h : Good ((o, m) :: q :: l)) :
    Txt.slice (cond ((o, m) :: q :: l)) (some 1) (some (lawEnd (cond ((o, m) :: q :: l)))) = cond (q :: l) := by
  rw [lawEnd_cond o m q l h]
  refine slice_ss (by decide) (by omega) ?_ ?_
  · rw [len_cond]; omega
  · rw [cond_two_list, len_list]
    have e : ((((cond (q :: l)).cps.toList.length + 1 : Nat) : Int) - 1).toNat = (cond (q :: l)).cps.toList.length := by omega
    rw [e]
    show List.take _ ((cond (q :: l)).cps.toList ++ _) = _
    rw [List.take_left]
theorem slice_behind {o : Bool} {m : Str} {q : Bool × Str} {l : List (Bool × Str)} (h : Good ((o, m) :: q :: l)) :
    Txt.slice (cond ((o, m) :: q :: l)) (some (lawEnd (cond ((o, m) :: q :: l)) + 1)) none = rest o m := by
  rw [lawEnd_cond o m q l h]
  refine slice_sn (by omega) ?_ ?_
  · rw [len_cond]; omega
  · rw [cond_two_list, len_list]
    have e : ((((cond (q :: l)).cps.toList.length + 1 : Nat) : Int) + 1).toNat = (cond (q :: l)).cps.toList.length + 2 := by omega
    rw [e]
    show List.drop ((cond (q :: l)).cps.toList.length + 1) ((cond (q :: l)).cps.toList ++ _) = _
    rw [List.drop_length_add_append]
    rfl
theorem slice_and {m : Str} (h : m ∈ marks) : Txt.slice (rest false m) none (some 6) = S " and (" := by
  have := marks_pos m h
  refine slice_ns (by decide) ?_ ?_
  · rw [len_rest, len_word]; simp; omega
  · rw [S_list " and (" [32, 97, 110, 100, 32, 40]]
    unfold rest
    rw [cps_mk, show (wordS false).cps.toList = [97, 110, 100] by decide +kernel]
    rfl
theorem slice_or {m : Str} (h : m ∈ marks) : Txt.slice (rest true m) none (some 5) = S " or (" := by
  have := marks_pos m h
  refine slice_ns (by decide) ?_ ?_
  · rw [len_rest, len_word]; simp; omega
  · rw [S_list " or (" [32, 111, 114, 32, 40]]
    unfold rest
    rw [cps_mk, show (wordS true).cps.toList = [111, 114] by decide +kernel]
    rfl
def six (m : Str) : Str := ⟨(32 :: 111 :: 114 :: 32 :: 40 :: (m.cps.toList ++ [41]).take 1).toArray⟩
theorem slice_or6 {m : Str} (h : m ∈ marks) : Txt.slice (rest true m) none (some 6) = six m := by
  have := marks_pos m h
  refine slice_ns (by decide) ?_ ?_
  · rw [len_rest, len_word]; simp; omega
  · unfold rest six
    rw [cps_mk, cps_mk, show (wordS true).cps.toList = [111, 114] by decide +kernel]
    rfl
theorem six_ne (m : Str) : (six m == S " and (") = false := by
  rw [beq_eq_false_iff_ne]
  intro e
  have := congrArg (fun y : Str => y.cps.toList) e
  rw [S_list " and (" [32, 97, 110, 100, 32, 40]] at this
  unfold six at this
  rw [cps_mk] at this
  simp at this
theorem slice_more_and {m : Str} {i : Int} (hi : i = 5) : Txt.slice (rest false m) (some i) none = more m := by
  subst hi
  refine slice_sn (by decide) ?_ ?_
  · rw [len_rest, len_word]; simp; omega
  · unfold rest more
    rw [cps_mk, cps_mk, show (wordS false).cps.toList = [97, 110, 100] by decide +kernel]
    rfl
theorem slice_more_or {m : Str} {i : Int} (hi : i = 4) : Txt.slice (rest true m) (some i) none = more m := by
  subst hi
  refine slice_sn (by decide) ?_ ?_
  · rw [len_rest, len_word]; simp; omega
  · unfold rest more
    rw [cps_mk, cps_mk, show (wordS true).cps.toList = [111, 114] by decide +kernel]
    rfl
theorem slice_core {m : Str} {i j : Int} (hi : i = 1) (hj : j = -1) : Txt.slice (more m) (some i) (some j) = m := by
  subst hi
  subst hj
  have e : Txt.slice (more m) (some 1) (some (-1)) = Txt.slice (more m) (some 1) (some ((m.length + 1 : Nat) : Int)) := by
    have hl := len_more m
    unfold Txt.slice
    have k : strSliceIndices (some 1) (some (-1)) 1 (more m).length = strSliceIndices (some 1) (some ((m.length + 1 : Nat) : Int)) 1 (more m).length := by
      rw [hl]
      have a1 : ¬ (((m.length + 1 : Nat) : Int) < 0) := by omega
      have a2 : (-1 : Int) + ((m.length + 2 : Nat) : Int) = ((m.length + 1 : Nat) : Int) := by omega
      simp only [strSliceIndices, a1, if_false, show ((-1 : Int) < 0) from by decide, if_true, a2]
    rw [k]
  rw [e]
  refine slice_ss (by decide) (by omega) ?_ ?_
  · rw [len_more]; omega
  · unfold more
    rw [cps_mk, len_list]
    have e2 : (((m.cps.toList.length + 1 : Nat) : Int) - 1).toNat = m.cps.toList.length := by omega
    rw [e2]
    show List.take _ (m.cps.toList ++ _) = _
    rw [List.take_left]
theorem lawEnd_more {m : Str} (h : m ∈ marks) : lawEnd (more m) = ((more m).length : Int) - 1 := by
  have e := lawEnd_par m h
  rw [len_more]
  unfold more
  rw [e]
  omega
end Mine
namespace Mine
local macro_rules | `(tactic| walk_at "pad") => `(tactic| fail)
open PySem PySem.W PyProof.Rows PySem.Calls PySem.Spec
def Ctr (prog : Program) (w : World) (p : Program) (loose : List Str) (mean : ExcName → Option Value) (mg mb : Str → Option Value) (f : Addr) (dep un0 : Nat) (news : List (Addr × Obj)) (vs : List Value) (Ret : Value → List (Addr × Obj) → Prop) : Prop :=
  ∀ (dp un : Nat) (gd : Option (List Code)) (cn : Str) (cs : Scope) (a : Addr) (ccd : Value) (cl : List (Str × Addr)) (outer : List Env) (A₀ : Around) (base h₀ : Heap) (L : Addr) (m : Str → Option Value) (s : Shared) (Q E : Value → Shared → Prop),
    Below A₀ base outer h₀ → Fr h₀ L s.heap m → (hd.heap_1 w.params).In h₀ → News h₀ L s.heap news → Top p loose mean mg mb h₀ → cs.kind = .function → dp + dep < recursionLimit → un + un0 < cLine →
    (∀ r news' h' tk', Fr h₀ L h' m → News h₀ L h' news' → Ret r news' → Q r { s with heap := h', toks := tk' }) →
    wpAny (model prog w) (ktrTop dp un gd cn cs L a ccd cl outer) (call (.ref f) vs) Q E s


def endJ (news : List (Addr × Obj)) (x : Str) (i : Nat) (m : Str → Option Value) (nx : List (Addr × Obj)) : Prop :=
  nx = news ∧ ∃ (d : Int) (td : Tok) (u : Str → Option Value), m = (fun y => if y = Str.ofString "deep" then some (.int d td) else u y) ∧ endScan 0 0 x.cps.toList = endScan i d (x.cps.toList.drop i)

theorem sign_at {x a : Str} {i : Nat} (h : (signs x)[i]? = some a) : ∃ c, x.cps.toList[i]? = some c ∧ a = ⟨#[c]⟩ := by
  unfold signs at h
  rw [List.getElem?_map] at h
  cases hc : x.cps.toList[i]? with
  | none => rw [hc] at h; cases h
  | some c => rw [hc] at h; exact ⟨c, rfl, (Option.some.inj h).symm⟩
theorem end_turn {x a : Str} {i : Nat} {d e : Int} (hg : (signs x)[i]? = some a) (hs : endScan 0 0 x.cps.toList = endScan i d (x.cps.toList.drop i))
    (he : e = d + (if (a == Str.ofString "(") = true then 1 else if (a == Str.ofString ")") = true then -1 else 0)) :
    (e = 0 → (i : Int) = lawEnd x) ∧ (e ≠ 0 → endScan 0 0 x.cps.toList = endScan (i + 1) e (x.cps.toList.drop (i + 1))) := by
  obtain ⟨c, hc, rfl⟩ := sign_at hg
  have h40 : ((⟨#[c]⟩ : Str) == Str.ofString "(") = true ↔ c = 40 := by
    rw [show Str.ofString "(" = ⟨#[40]⟩ from by decide +kernel, beq_iff_eq]
    simp
  have h41 : ((⟨#[c]⟩ : Str) == Str.ofString ")") = true ↔ c = 41 := by
    rw [show Str.ofString ")" = ⟨#[41]⟩ from by decide +kernel, beq_iff_eq]
    simp
  obtain ⟨hlt, hge⟩ := List.getElem?_eq_some_iff.mp hc
  rw [List.drop_eq_getElem_cons hlt, hge, endScan_cons] at hs
  have he' : e = d + (if c = 40 then 1 else if c = 41 then -1 else 0) := by
    rw [he]; simp only [h40, h41]
  rw [← he'] at hs
  refine ⟨fun h0 => ?_, fun h0 => ?_⟩
  · rw [if_pos h0] at hs
    exact hs.symm
  · rw [if_neg h0] at hs
    exact hs
theorem end_done {x : Str} {i : Nat} {d : Int} (h : endScan 0 0 x.cps.toList = endScan i d (x.cps.toList.drop i)) (hi : i = (signs x).length) : lawEnd x = -1 := by
  have e : x.cps.toList.drop i = [] := by
    refine List.drop_eq_nil_of_le (Nat.le_of_eq ?_)
    rw [hi, signs_length]; simp [Str.length]
  rw [e] at h
  exact h


set_option maxHeartbeats 4000000 in
theorem c_end {prog : Program} {w : World} {p : Program} {loose : List Str} {mean : ExcName → Option Value} {mg mb : Str → Option Value} (hp : prog = PySem.Challenge.rw_ad5043_01.prog)
    (news : List (Addr × Obj)) (x : Str) (t : Tok) :
    Ctr prog w p loose mean mg mb 1475 2 8 news [.str x t] (fun r news' => (∃ t', r = .int (lawEnd x) t') ∧ news' = news) := by
  revert hp
  unfold Ctr
  k_fill
  intro hp dp un gd cn cs a ccd cl outer A₀ base h₀ L m s Q E B F X N T hk hR hU hret
  refine wpAny_call ?_
  k_dflt ktr_enter
  k_steps
  rename PairSrcL _ _ _ _ _ _ _ _ _ _ _ _ => PS
  refine (PairSrcL.at PS _ rfl) _ _ _ _ (endJ news x) ⟨rfl, 0, _, _, rfl, rfl⟩ ?_ ?_
  · clear PS
    rintro i a' ti v m₁ news₁ s₁ own ⟨h₁, tk₁, rfl⟩ hga hkv ⟨rfl, d, td, u, rfl, hsc⟩ hadr hown F₁ N₁
    obtain ⟨tv, rfl⟩ := ItemKind.str_is hkv
    dsimp only at F₁ N₁ ⊢
    k_steps
    all_goals first
      | (refine hret _ news₁ _ _ (by assumption) (cb_drop (by assumption) (fun q hq => List.mem_append_right _ hq)) ⟨⟨ti, congrArg (Value.int · ti) ((end_turn hga hsc ?_).1 (by assumption))⟩, rfl⟩; simp only [*, if_true, if_false, Bool.false_eq_true]; done)
      | (refine ⟨rfl, _, _, _, rfl, (end_turn hga hsc ?_).2 (by assumption)⟩; simp only [*, if_true, if_false, Bool.false_eq_true]; done)
  · rintro h' tk m' news' F' N' ha ⟨rfl, d, td, u, rfl, hsc⟩
    dsimp only at F' N' ⊢
    k_steps
    refine hret _ news' _ _ (by assumption) (by assumption) ⟨⟨_, congrArg (Value.int · _) (end_done hsc rfl).symm⟩, rfl⟩
end Mine
namespace Mine
local macro_rules | `(tactic| walk_at "pad") => `(tactic| fail)
local macro_rules | `(tactic| walk_at "pad") => `(tactic| fail)
open PySem PySem.W PyProof.Rows PySem.Calls PySem.Spec PyProof.V
def factsD (f : Str → Bool) : List (PyData × PyData) := marks.map fun m => (PyData.str m, PyData.bool (f m))
structure IsFacts (prog : Program) (w : World) (f : Str → Bool) (fd : Addr) (fo : Obj) : Prop where
  lo : (fd == sysModules) = false
  kv : ∃ kvs, fo.IsDictOf (strKind prog w) kvs ∧ FlatPairs PyData.str kvs (factsD f)
theorem lookup_map (f : Str → Bool) (x : Str) : ∀ l : List Str, Spec.lookup (.str x) (l.map fun m => (PyData.str m, PyData.bool (f m))) = if x ∈ l then some (PyData.bool (f x)) else none
  | [] => rfl
  | m :: l => by
    show (if Spec.same (PyData.str m) (PyData.str x) = true then some (PyData.bool (f m)) else Spec.lookup (.str x) (l.map fun m => (PyData.str m, PyData.bool (f m)))) = _
    rw [PyProof.V.same_str, lookup_map f x l]
    by_cases h : m = x
    · subst h; simp
    · have h' : ¬ x = m := fun e => h e.symm
      simp [h, h']
theorem lookup_facts (f : Str → Bool) (x : Str) : Spec.lookup (.str x) (factsD f) = if x ∈ marks then some (PyData.bool (f x)) else none := lookup_map f x marks

theorem flat_bool {v : Value} {b : Bool} (h : Flat v (.bool b)) : v = .bool b := by
  have := h { objs := #[] }
  cases this; rfl
section
variable {prog : Program} {w : World} {A : Around} {E : Value → Shared → Prop} {s : Shared} {h₀ : Heap} {L fd : Addr} {news : List (Addr × Obj)} {fo : Obj} {f : Str → Bool} {x : Str} {t : Tok}
theorem IsFacts.tab (I : IsFacts prog w f fd fo) (N : News h₀ L s.heap news) (hm : (fd, fo) ∈ news) : StrTab prog w s.heap fd (factsD f) :=
  let ⟨_, h1, h2⟩ := I.kv
  TabAt.ofObj I.lo (N _ hm).1 h1 h2
theorem facts_in {Q : Value → Shared → Prop} (I : IsFacts prog w f fd fo) (N : News h₀ L s.heap news) (hm : (fd, fo) ∈ news) (hx : x ∈ marks) (h : Q (.bool true) { s with toks := s.toks + 1 }) :
    wpAny (model prog w) A (compareOp .In (.str x t) (.ref fd)) Q E s := in_strTab (I.tab N hm) (by rw [lookup_facts, if_pos hx]; exact h)
theorem facts_out {Q : Value → Shared → Prop} (I : IsFacts prog w f fd fo) (N : News h₀ L s.heap news) (hm : (fd, fo) ∈ news) (hx : x ∉ marks) (h : Q (.bool false) { s with toks := s.toks + 1 }) :
    wpAny (model prog w) A (compareOp .In (.str x t) (.ref fd)) Q E s := in_strTab (I.tab N hm) (by rw [lookup_facts, if_neg hx]; exact h)
theorem facts_item {value slice : PySem.Expr} {Q : Value → Shared → Prop} (I : IsFacts prog w f fd fo) (N : News h₀ L s.heap news) (hm : (fd, fo) ∈ news) (hx : x ∈ marks) (h : Q (.bool (f x)) { s with toks := s.toks + 1 })
    (hs : subscripted slice false (.ref fd) (.str x t) = operate [.ref fd, .str x t] (getItem (.ref fd) (.str x t)) := by with_unfolding_all rfl) (hg : ∀ r, letTemporaryGo value (.ref fd) r = pure () := by intro _; with_unfolding_all rfl) :
    wpAny (model prog w) A (subscriptTail value slice (.ref fd) (.str x t)) Q E s :=
  item_strTab (I.tab N hm) (by rw [lookup_facts, if_pos hx]) (fun v hv => by
    have e : v = .bool (f x) := flat_bool hv
    rw [e]; exact h) hs hg
end

local macro_rules | `(tactic| k_mem) => `(tactic| first | assumption | (refine List.mem_append_right _ ?_; k_mem) | (refine List.mem_append_left _ ?_; k_mem) | (refine List.mem_cons_of_mem _ ?_; k_mem))

local macro_rules | `(tactic| walk_at "compareOp In str ref") => `(tactic| (k_here; first | (refine facts_in (by assumption) (by k_asm) (by k_mem) (by assumption) ?_) | (refine facts_out (by assumption) (by k_asm) (by k_mem) (by assumption) ?_)))
local macro_rules | `(tactic| walk_at "subscriptTail") => `(tactic| (k_here; (with_reducible show wpAny _ _ (subscriptTail _ _ (Value.ref _) (Value.str _ _)) _ _ _); (refine facts_item (by assumption) (by k_asm) (by k_mem) (by assumption) ?_)))


theorem Ctr.use {prog : Program} {w : World} {p : Program} {loose : List Str} {mean : ExcName → Option Value} {mg mb : Str → Option Value} {f : Addr} {dep un0 : Nat} {news : List (Addr × Obj)} {vs : List Value} {Ret : Value → List (Addr × Obj) → Prop}
    {dp un : Nat} {gd : Option (List Code)} {cn : Str} {cs : Scope} {a : Addr} {ccd : Value} {cl : List (Str × Addr)} {outer : List Env} {A₀ : Around} {base h₀ : Heap} {L : Addr} {m : Str → Option Value} {s : Shared} {Q E : Value → Shared → Prop}
    (C : Ctr prog w p loose mean mg mb f dep un0 news vs Ret) (B : Below A₀ base outer h₀) (F : Fr h₀ L s.heap m) (X : (hd.heap_1 w.params).In h₀) (N : News h₀ L s.heap news) (T : Top p loose mean mg mb h₀) (hk : cs.kind = .function) (hd : dp + dep < recursionLimit) (hu : un + un0 < cLine)
    (hret : ∀ r news' h' tk', Fr h₀ L h' m → News h₀ L h' news' → Ret r news' → Q r { s with heap := h', toks := tk' }) :
    wpAny (model prog w) (ktrTop dp un gd cn cs L a ccd cl outer) (call (.ref f) vs) Q E s :=
  C dp un gd cn cs a ccd cl outer A₀ base h₀ L m s Q E B F X N T hk hd hu hret

local macro_rules | `(tactic| walk_at "call ref") => `(tactic| (k_here; (k_dflt (refine' Ctr.use (c_end (by assumption) _ _ _) ?k1 ?k2 ?k3 ?k4 ?k5 ?kK ?kd ?ku ?_); (case k1 => k_asm); (case k2 => k_asm); (case k3 => k_asm); (case k4 => k_asm); (case k5 => k_asm); (case kK => first | exact rfl | assumption); (case kd => ktr_room); (case ku => ktr_units)); (intro r9 n9 h9 tk9 F9 N9 o9; obtain ⟨⟨t9, e9⟩, e9'⟩ := o9; subst e9; subst e9'); (try dsimp only)))

def HoldsAt (prog : Program) (w : World) (p : Program) (loose : List Str) (mean : ExcName → Option Value) (mg mb : Str → Option Value) (f : Str → Bool) (x : Str) (b : Bool) (n : Nat) : Prop :=
  ∀ (news : List (Addr × Obj)) (t : Tok) (fd : Addr) (fo : Obj), (fd, fo) ∈ news → IsFacts prog w f fd fo →
    Ctr prog w p loose mean mg mb 1482 (4 + 2 * n) (24 + 24 * n) news [.str x t, .ref fd] (fun r news' => r = .bool b ∧ news' = news)

theorem HoldsAt.out {prog : Program} {w : World} {p : Program} {loose : List Str} {mean : ExcName → Option Value} {mg mb : Str → Option Value} {f : Str → Bool} {x : Str} {b : Bool} {n : Nat} (H : HoldsAt prog w p loose mean mg mb f x b n)
    {news : List (Addr × Obj)} {t : Tok} {fd : Addr} {fo : Obj} (hm : (fd, fo) ∈ news) (I : IsFacts prog w f fd fo) :
    Ctr prog w p loose mean mg mb 1482 (4 + 2 * n) (24 + 24 * n) news [.str x t, .ref fd] (fun r news' => r = .bool b ∧ news' = news) := H news t fd fo hm I

set_option maxHeartbeats 4000000 in
theorem c_holds1 {prog : Program} {w : World} {p : Program} {loose : List Str} {mean : ExcName → Option Value} {mg mb : Str → Option Value} (hp : prog = PySem.Challenge.rw_ad5043_01.prog)
    (f : Str → Bool) (x : Str) (hx : x ∈ marks) : HoldsAt prog w p loose mean mg mb f x (f x) 0 := by
  revert hp
  unfold HoldsAt Ctr
  k_fill
  intro hp news t fd fo hm hI dp un gd cn cs a ccd cl outer A₀ base h₀ L m s Q E B F X N T hk hR hU hret
  refine wpAny_call ?_
  k_dflt ktr_enter
  k_steps
  exact hret _ _ _ _ (by assumption) (by assumption) ⟨rfl, rfl⟩

local macro_rules | `(tactic| walk_at "subscriptTail Name Slice str ref") => `(tactic| (k_here; k_dflt first
  | ((refine' slice_strN_ns (s := ⟨_, _, _, _, _⟩) ?F' ?N' ?_ ?h1 ?h2 ?hsz); (case F' => k_asm); (case N' => k_asm); (case hsz => (rw [sizeLine_eq]; first | omega | (simp only [len_rest, len_more, len_word]; omega))); (case h1 => with_unfolding_all rfl); (case h2 => (intro _; with_unfolding_all rfl)); intro _ _ _ _ _; (first   | rw [slice_one] | rw [slice_in (by assumption)] | rw [slice_behind (by assumption)] | rw [slice_and (by assumption)] | rw [slice_or (by assumption)] | rw [slice_or6 (by assumption)] | (rw [slice_more_and ?hi9]; (case hi9 => rfl)) | (rw [slice_more_or ?hi9]; (case hi9 => rfl)) | (rw [slice_core ?hi9 ?hj9]; (case hi9 => rfl); (case hj9 => rfl)) | skip))
  | ((refine' slice_strN_sn (s := ⟨_, _, _, _, _⟩) ?F' ?N' ?_ ?h1 ?h2 ?hsz); (case F' => k_asm); (case N' => k_asm); (case hsz => (rw [sizeLine_eq]; first | omega | (simp only [len_rest, len_more, len_word]; omega))); (case h1 => with_unfolding_all rfl); (case h2 => (intro _; with_unfolding_all rfl)); intro _ _ _ _ _; (first   | rw [slice_one] | rw [slice_in (by assumption)] | rw [slice_behind (by assumption)] | rw [slice_and (by assumption)] | rw [slice_or (by assumption)] | rw [slice_or6 (by assumption)] | (rw [slice_more_and ?hi9]; (case hi9 => rfl)) | (rw [slice_more_or ?hi9]; (case hi9 => rfl)) | (rw [slice_core ?hi9 ?hj9]; (case hi9 => rfl); (case hj9 => rfl)) | skip))
  | ((refine' slice_strN_ss (s := ⟨_, _, _, _, _⟩) ?F' ?N' ?_ ?h1 ?h2 ?hsz); (case F' => k_asm); (case N' => k_asm); (case hsz => (rw [sizeLine_eq]; first | omega | (simp only [len_rest, len_more, len_word]; omega))); (case h1 => with_unfolding_all rfl); (case h2 => (intro _; with_unfolding_all rfl)); intro _ _ _ _ _; (first   | rw [slice_one] | rw [slice_in (by assumption)] | rw [slice_behind (by assumption)] | rw [slice_and (by assumption)] | rw [slice_or (by assumption)] | rw [slice_or6 (by assumption)] | (rw [slice_more_and ?hi9]; (case hi9 => rfl)) | (rw [slice_more_or ?hi9]; (case hi9 => rfl)) | (rw [slice_core ?hi9 ?hj9]; (case hi9 => rfl); (case hj9 => rfl)) | skip))))
local macro_rules | `(tactic| walk_at "call ref") => `(tactic| (k_here; k_dflt (refine' Ctr.use (HoldsAt.out ?kh ?kmem ?kI) ?k1 ?k2 ?k3 ?k4 ?k5 ?kK ?kd ?ku ?_); (case kh => assumption); (case k1 => k_asm); (case k2 => k_asm); (case k3 => k_asm); (case k4 => k_asm); (case k5 => k_asm); (case kK => first | exact rfl | assumption); (case kd => ktr_room); (case ku => ktr_units); (case kmem => k_mem); (case kI => assumption); (intro r9 n9 h9 tk9 F9 N9 o9; obtain ⟨e9, e9'⟩ := o9; subst e9; subst e9'); (try dsimp only)))

set_option maxHeartbeats 4000000 in
theorem c_holds_and {prog : Program} {w : World} {p : Program} {loose : List Str} {mean : ExcName → Option Value} {mg mb : Str → Option Value} (hp : prog = PySem.Challenge.rw_ad5043_01.prog)
    (f : Str → Bool) (x : Str) (q : Bool × Str) (l : List (Bool × Str)) (hg : Good ((false, x) :: q :: l)) (hlen : (cond ((false, x) :: q :: l)).length ≤ 1000)
    (IH : HoldsAt prog w p loose mean mg mb f (cond (q :: l)) (truth f (q :: l)) l.length) : HoldsAt prog w p loose mean mg mb f (cond ((false, x) :: q :: l)) (truth f (q :: l) && f x) (l.length + 1) := by
  have c1 := c_holds1 (p := p) (loose := loose) (mean := mean) (mg := mg) (mb := mb) (w := w) hp f x hg.head
  revert hp
  unfold HoldsAt Ctr
  k_fill
  intro hp news t fd fo hm hI dp un gd cn cs a ccd cl outer A₀ base h₀ L m s Q E B F X N T hk hR hU hret
  have hn := cond_not_mark false x q l
  have hx := hg.head
  have hsix := six_ne x
  have hlr : (rest false x).length ≤ 1000 := by have := marks_pos x hx; rw [len_rest, len_word]; simp; omega
  have hle := lawEnd_more hx
  have hlm : (more x).length ≤ 1000 := by have := marks_pos x hx; rw [len_more]; omega
  refine wpAny_call ?_
  k_dflt ktr_enter
  k_steps
  all_goals first
    | (exfalso; omega)
    | (exfalso; rw [six_ne] at *; contradiction)
    | (refine hret _ _ _ _ (by assumption) (cb_drop (by assumption) (fun q hq => List.mem_cons_of_mem _ hq)) ⟨?_, rfl⟩; simp only [*, Bool.true_and, Bool.false_and, Bool.true_or, Bool.false_or]; done)
set_option maxHeartbeats 4000000 in
theorem c_holds_or {prog : Program} {w : World} {p : Program} {loose : List Str} {mean : ExcName → Option Value} {mg mb : Str → Option Value} (hp : prog = PySem.Challenge.rw_ad5043_01.prog)
    (f : Str → Bool) (x : Str) (q : Bool × Str) (l : List (Bool × Str)) (hg : Good ((true, x) :: q :: l)) (hlen : (cond ((true, x) :: q :: l)).length ≤ 1000)
    (IH : HoldsAt prog w p loose mean mg mb f (cond (q :: l)) (truth f (q :: l)) l.length) : HoldsAt prog w p loose mean mg mb f (cond ((true, x) :: q :: l)) (truth f (q :: l) || f x) (l.length + 1) := by
  have c1 := c_holds1 (p := p) (loose := loose) (mean := mean) (mg := mg) (mb := mb) (w := w) hp f x hg.head
  revert hp
  unfold HoldsAt Ctr
  k_fill
  intro hp news t fd fo hm hI dp un gd cn cs a ccd cl outer A₀ base h₀ L m s Q E B F X N T hk hR hU hret
  have hn := cond_not_mark true x q l
  have hx := hg.head
  have hsix := six_ne x
  have hlr : (rest true x).length ≤ 1000 := by have := marks_pos x hx; rw [len_rest, len_word]; simp; omega
  have hle := lawEnd_more hx
  have hlm : (more x).length ≤ 1000 := by have := marks_pos x hx; rw [len_more]; omega
  refine wpAny_call ?_
  k_dflt ktr_enter
  k_steps
  all_goals first
    | (exfalso; omega)
    | (exfalso; rw [six_ne] at *; contradiction)
    | (refine hret _ _ _ _ (by assumption) (cb_drop (by assumption) (fun q hq => List.mem_cons_of_mem _ hq)) ⟨?_, rfl⟩; simp only [*, Bool.true_and, Bool.false_and, Bool.true_or, Bool.false_or]; done)

theorem c_holds {prog : Program} {w : World} {p : Program} {loose : List Str} {mean : ExcName → Option Value} {mg mb : Str → Option Value} (hp : prog = PySem.Challenge.rw_ad5043_01.prog) (f : Str → Bool) :
    ∀ (l : List (Bool × Str)) (o : Bool) (x : Str), Good ((o, x) :: l) → l.length ≤ 20 → HoldsAt prog w p loose mean mg mb f (cond ((o, x) :: l)) (truth f ((o, x) :: l)) l.length
  | [], o, x, hg, _ => c_holds1 hp f x hg.head
  | (o', x') :: l, o, x, hg, hl => by
    have hl' : l.length ≤ 20 := by simp only [List.length_cons] at hl; omega
    have IH := c_holds (w := w) (p := p) (loose := loose) (mean := mean) (mg := mg) (mb := mb) hp f l o' x' hg.tail hl'
    have hlen : (cond ((o, x) :: (o', x') :: l)).length ≤ 1000 := by
      have := cond_len _ hg
      simp only [List.length_cons] at this hl
      omega
    cases o
    · exact c_holds_and hp f x (o', x') l hg hlen IH
    · exact c_holds_or hp f x (o', x') l hg hlen IH
end Mine
namespace Mine
local macro_rules | `(tactic| walk_at "pad") => `(tactic| fail)
local macro_rules | `(tactic| walk_at "pad") => `(tactic| fail)
local macro_rules | `(tactic| walk_at "pad") => `(tactic| fail)
local macro_rules | `(tactic| walk_at "pad") => `(tactic| fail)
local macro_rules | `(tactic| walk_at "pad") => `(tactic| fail)
local macro_rules | `(tactic| walk_at "pad") => `(tactic| fail)
local macro_rules | `(tactic| walk_at "pad") => `(tactic| fail)
local macro_rules | `(tactic| walk_at "pad") => `(tactic| fail)
open PySem PySem.W PyProof.Rows PySem.Calls PySem.Spec PyProof.V
def pairObj (o : Bool) (m : Str) (tw tm : Tok) : Obj := { cls := .type "tuple", data := .seq #[.str (wordS o) tw, .str m tm] }
inductive AddedIs (news : List (Addr × Obj)) : List Value → List (Bool × Str) → Prop
  | nil : AddedIs news [] []
  | cons {a : Addr} {tw tm : Tok} {o : Bool} {m : Str} {vs : List Value} {l : List (Bool × Str)} : (a, pairObj o m tw tm) ∈ news → AddedIs news vs l → AddedIs news (.ref a :: vs) ((o, m) :: l)
def tstep (f : Str → Bool) : Option Bool → (Bool × Str) → Option Bool
  | none, (_, m) => some (f m)
  | some b, (o, m) => some (if o then b || f m else b && f m)
theorem fold_truth (f : Str → Bool) : ∀ (q : Bool × Str) (l : List (Bool × Str)), ((q :: l).reverse).foldl (tstep f) none = some (truth f (q :: l))
  | (o, m), [] => rfl
  | (o, m), q :: l => by
    rw [List.reverse_cons, List.foldl_append, fold_truth f q l]
    rfl
theorem shape2 {m : Str → Option Value} {v : Value} {fd : Addr} (h1 : m (Str.ofString "found") = some v) (h2 : m (Str.ofString "facts") = some (Value.ref fd)) :
    m = fun y => if y = Str.ofString "found" then some v else if y = Str.ofString "facts" then some (Value.ref fd) else m y := by
  funext y
  by_cases e1 : y = Str.ofString "found"
  · rw [if_pos e1, e1, h1]
  · rw [if_neg e1]
    by_cases e2 : y = Str.ofString "facts"
    · rw [if_pos e2, e2, h2]
    · rw [if_neg e2]
theorem subL_of {l all : List (Addr × Obj)} (h : ∀ p ∈ l, p ∈ all) : SubL l all := by
  induction l with
  | nil => trivial
  | cons p l ih => exact ⟨h p (List.mem_cons_self ..), ih fun q hq => h q (List.mem_cons_of_mem _ hq)⟩
theorem offW_of {l : List (Addr × Obj)} {I : Addr} {o : Obj} (h : ∀ p ∈ l, p.1 < I) : OffW [(I, o)] l := by
  induction l with
  | nil => trivial
  | cons p l ih => exact ⟨⟨.inl (Nat.ne_of_lt (h p (List.mem_cons_self ..))), trivial⟩, ih fun q hq => h q (List.mem_cons_of_mem _ hq)⟩
def optB : Option Bool → Value
  | none => .none
  | some b => .bool b

local macro_rules | `(tactic| k_mem) => `(tactic| first | assumption | (refine List.mem_append_right _ ?_; k_mem) | (refine List.mem_append_left _ ?_; k_mem) | (refine List.mem_cons_of_mem _ ?_; k_mem))
local macro_rules | `(tactic| walk_at "subscriptTail") => `(tactic| (k_here; (with_reducible show wpAny _ _ (subscriptTail _ _ (Value.ref _) (Value.str _ _)) _ _ _); (refine facts_item (by assumption) (by k_asm) (by k_mem) (by assumption) ?_)))

set_option maxHeartbeats 4000000 in
theorem c_truth {prog : Program} {w : World} {p : Program} {loose : List Str} {mean : ExcName → Option Value} {mg mb : Str → Option Value} (hp : prog = PySem.Challenge.rw_ad5043_01.prog) (f : Str → Bool)
    (news : List (Addr × Obj)) (al fd : Addr) (fo : Obj) (n : Nat) (vs : List Value) (l : List (Bool × Str)) (hal : (al, listOf vs.toArray n) ∈ news) (hv : AddedIs news vs l) (hm : (fd, fo) ∈ news) (hI : IsFacts prog w f fd fo) (hg : Good l) :
    Ctr prog w p loose mean mg mb 1489 4 20 news [.ref al, .ref fd] (fun r news' => r = optB (l.foldl (tstep f) none) ∧ news' = news) := by
  revert hp
  unfold Ctr
  k_fill
  intro hp dp un gd cn cs a ccd cl outer A₀ base h₀ L m s Q E B F X N T hk hR hU hret
  refine wpAny_call ?_
  k_dflt ktr_enter
  k_steps
  rename Fr _ _ _ (fun y => if y = Str.ofString "found" then some Value.none else _) => F1
  refine For_turns F1 ?_
  k_steps
  refine iter_listTurns rfl (by assumption) (by assumption) hal rfl rfl ?_
  intro I l1
  have hkeep : SubL [(al, W.listOf vs.toArray n)] news := ⟨hal, trivial⟩
  clear hal
  refine (?key : ∀ (found : Option Bool) (m₁ : Str → Option Value), m₁ (Str.ofString "found") = some (optB found) → m₁ (Str.ofString "facts") = some (Value.ref fd) → l.foldl (tstep f) found = l.foldl (tstep f) none →
    ItemsRest prog w _ _ _ _ _ _ _ _ _ _ (vs.map .val) m₁ news) none _ rfl rfl rfl
  generalize l.foldl (tstep f) none = R at hret ⊢
  revert hkeep
  generalize [(al, W.listOf vs.toArray n)] = keep
  intro hkeep
  clear F1
  induction hv with
  | nil =>
    intro found m₁ h1 h2 h3 h5 tk5 F5 N5
    obtain ⟨u, rfl⟩ : ∃ u : Str → Option Value, m₁ = fun y => if y = Str.ofString "found" then some (optB found) else if y = Str.ofString "facts" then some (Value.ref fd) else u y := ⟨m₁, shape2 h1 h2⟩
    k_steps
    refine hret _ _ _ _ (by assumption) (by assumption) ⟨?_, rfl⟩
    rw [← h3]
    rfl
  | @cons ta tw tm o mk vs l hmem hrest ih =>
    have ih := ih hg.tail
    intro found m₁ h1 h2 h3 v5 h5 tk5 hv5 F5
    have hv5 : v5 = Value.ref ta := hv5
    subst hv5
    refine AllObj.cons fun oI hoI => AllObj.nil ?_
    intro N5
    have hmk : mk ∈ marks := hg.head
    have hta : ta ≠ I := Nat.ne_of_lt (l1 _ hmem)
    unfold pairObj at hmem
    have hs1 : SubL [(I, oI)] ([(I, oI)] ++ news) := ⟨List.mem_append_left _ (List.mem_cons_self ..), trivial⟩
    have hs2 : SubL news ([(I, oI)] ++ news) := subL_of fun p hp => List.mem_append_right _ hp
    have hof : OffW [(I, oI)] news := offW_of l1
    have ht : tstep f found (o, mk) = (match found with | none => some (f mk) | some b => some (if o then b || f mk else b && f mk)) := by cases found <;> rfl
    cases found with
    | none =>
      obtain ⟨u, rfl⟩ : ∃ u : Str → Option Value, m₁ = fun y => if y = Str.ofString "found" then some Value.none else if y = Str.ofString "facts" then some (Value.ref fd) else u y := ⟨m₁, shape2 h1 h2⟩
      k_steps
      refine UnrEndW.intro (by assumption) (by assumption) news hs1 hs2 hof ⟨hkeep, ih (some (f mk)) _ rfl rfl ?_⟩
      rw [← h3]; rfl
    | some b =>
      obtain ⟨u, rfl⟩ : ∃ u : Str → Option Value, m₁ = fun y => if y = Str.ofString "found" then some (Value.bool b) else if y = Str.ofString "facts" then some (Value.ref fd) else u y := ⟨m₁, shape2 h1 h2⟩
      cases o
      · rw [show wordS false = Str.ofString "and" from rfl] at hmem
        k_steps
        all_goals (refine UnrEndW.intro (by assumption) (by assumption) news hs1 hs2 hof ⟨hkeep, ih (some (b && f mk)) _ ?_ ?_ ?_⟩)
        all_goals first
          | (show some (Value.bool _) = some (Value.bool (b && f mk)); simp only [*, Bool.true_and, Bool.false_and]; done)
          | (rw [← h3]; rfl)
          | rfl
      · rw [show wordS true = Str.ofString "or" from rfl] at hmem
        k_steps
        all_goals (refine UnrEndW.intro (by assumption) (by assumption) news hs1 hs2 hof ⟨hkeep, ih (some (b || f mk)) _ ?_ ?_ ?_⟩)
        all_goals first
          | (show some (Value.bool _) = some (Value.bool (b || f mk)); simp only [*, Bool.true_or, Bool.false_or]; done)
          | (rw [← h3]; rfl)
          | rfl
end Mine
namespace Mine
local macro_rules | `(tactic| walk_at "pad") => `(tactic| fail)
local macro_rules | `(tactic| walk_at "pad") => `(tactic| fail)
local macro_rules | `(tactic| walk_at "pad") => `(tactic| fail)
local macro_rules | `(tactic| walk_at "pad") => `(tactic| fail)
local macro_rules | `(tactic| walk_at "pad") => `(tactic| fail)
local macro_rules | `(tactic| walk_at "pad") => `(tactic| fail)
local macro_rules | `(tactic| walk_at "pad") => `(tactic| fail)
local macro_rules | `(tactic| walk_at "pad") => `(tactic| fail)
local macro_rules | `(tactic| walk_at "pad") => `(tactic| fail)
local macro_rules | `(tactic| walk_at "pad") => `(tactic| fail)
open PySem PySem.W PyProof.Rows PySem.Calls PySem.Spec PyProof.V
local macro_rules | `(tactic| k_room) => `(tactic| ktr_room)

set_option maxHeartbeats 4000000 in
theorem c_cell {prog : Program} {w : World} {p : Program} {loose : List Str} {mean : ExcName → Option Value} {mg mb : Str → Option Value} (hp : prog = PySem.Challenge.rw_ad5043_01.prog)
    (news : List (Addr × Obj)) (sl : Addr) (vs : List Value) (ns : List Int) (at_ : Int) (t : Tok) (hi : IntsAre vs ns) (hlen : ns.length ≤ 63) (h0 : 0 ≤ at_) (h1 : at_ ≤ 40) :
    ∀ (dp un : Nat) (gd : Option (List Code)) (cn : Str) (cs : Scope) (a : Addr) (ccd : Value) (cl : List (Str × Addr)) (outer : List Env) (A₀ : Around) (base h₀ : Heap) (L : Addr) (m : Str → Option Value) (s : Shared) (Q E : Value → Shared → Prop),
    h₀.IsList sl vs.toArray → Below A₀ base outer h₀ → Fr h₀ L s.heap m → (hd.heap_1 w.params).In h₀ → News h₀ L s.heap news → Top p loose mean mg mb h₀ → cs.kind = .function → dp + 2 < recursionLimit → un + 8 < cLine →
    (∀ v t' h' tk', 0 ≤ v → v < 1000003 → Fr h₀ L h' m → News h₀ L h' news → Q (.int v t') { s with heap := h', toks := tk' }) →
    wpAny (model prog w) (ktrTop dp un gd cn cs L a ccd cl outer) (call (.ref 1468) [.ref sl, .int at_ t]) Q E s := by
  revert hp
  k_fill
  intro hp dp un gd cn cs a ccd cl outer A₀ base h₀ L m s Q E hl B F X N T hk hR hU hret
  refine wpAny_call ?_
  have hlb := hl
  k_dflt ktr_enter
  have hl' : (Heap.IsList _ sl vs.toArray) := hl.at fun o e => (by assumption : Fr h₀ L _ m).keep sl o e
  clear hl hlb
  k_steps
  all_goals (refine hret _ _ _ _ ?_ ?_ (by assumption) (by assumption))
  all_goals first
    | exact fmod_lo _ (by decide)
    | exact fmod_hi _ (by decide)
    | omega
theorem cell_use {prog : Program} {w : World} {p : Program} {loose : List Str} {mean : ExcName → Option Value} {mg mb : Str → Option Value}
    {news : List (Addr × Obj)} {sl : Addr} {vs : List Value} {ns : List Int} {at_ : Int} {t : Tok}
    {dp un : Nat} {gd : Option (List Code)} {cn : Str} {cs : Scope} {a : Addr} {ccd : Value} {cl : List (Str × Addr)} {outer : List Env} {A₀ : Around} {base h₀ : Heap} {L : Addr} {m : Str → Option Value} {s : Shared} {Q E : Value → Shared → Prop}
    (hp : prog = PySem.Challenge.rw_ad5043_01.prog) (hi : IntsAre vs ns) (hlen : ns.length ≤ 63) (hl : h₀.IsList sl vs.toArray) (B : Below A₀ base outer h₀) (F : Fr h₀ L s.heap m) (X : (hd.heap_1 w.params).In h₀) (N : News h₀ L s.heap news) (T : Top p loose mean mg mb h₀)
    (h0 : 0 ≤ at_) (h1 : at_ ≤ 40) (hk : cs.kind = .function) (hd : dp + 2 < recursionLimit) (hu : un + 8 < cLine)
    (hret : ∀ v t' h' tk', 0 ≤ v → v < 1000003 → Fr h₀ L h' m → News h₀ L h' news → Q (.int v t') { s with heap := h', toks := tk' }) :
    wpAny (model prog w) (ktrTop dp un gd cn cs L a ccd cl outer) (call (.ref 1468) [.ref sl, .int at_ t]) Q E s :=
  c_cell hp news sl vs ns at_ t hi hlen h0 h1 dp un gd cn cs a ccd cl outer A₀ base h₀ L m s Q E hl B F X N T hk hd hu hret
end Mine
namespace Mine
local macro_rules | `(tactic| walk_at "pad") => `(tactic| fail)
local macro_rules | `(tactic| walk_at "pad") => `(tactic| fail)
local macro_rules | `(tactic| walk_at "pad") => `(tactic| fail)
local macro_rules | `(tactic| walk_at "pad") => `(tactic| fail)
local macro_rules | `(tactic| walk_at "pad") => `(tactic| fail)
local macro_rules | `(tactic| walk_at "pad") => `(tactic| fail)
local macro_rules | `(tactic| walk_at "pad") => `(tactic| fail)
local macro_rules | `(tactic| walk_at "pad") => `(tactic| fail)
local macro_rules | `(tactic| walk_at "pad") => `(tactic| fail)
local macro_rules | `(tactic| walk_at "pad") => `(tactic| fail)
local macro_rules | `(tactic| walk_at "pad") => `(tactic| fail)
open PySem PySem.W PyProof.Rows PySem.Calls PySem.Spec PyProof.V
local macro_rules | `(tactic| k_room) => `(tactic| ktr_room)
local macro_rules | `(tactic| k_all) => `(tactic| assumption)
/-- a told XPathExpr: its entries -/
abbrev toldD (P : Params) (path elem con : Str) (t1 t2 t3 u1 u2 u3 : Tok) : Obj :=
  dictOf [⟨PyData.keyHash P (Str.ofString "path"), .str (Str.ofString "path") u1, .str path t1⟩, ⟨PyData.keyHash P (Str.ofString "element"), .str (Str.ofString "element") u2, .str elem t2⟩, ⟨PyData.keyHash P (Str.ofString "condition"), .str (Str.ofString "condition") u3, .str con t3⟩] 3
set_option maxHeartbeats 4000000 in
theorem c_star {prog : Program} {w : World} {p : Program} {loose : List Str} {mean : ExcName → Option Value} {mg mb : Str → Option Value} (hp : prog = PySem.Challenge.rw_ad5043_01.prog)
    (news : List (Addr × Obj)) (ta td : Addr) (path elem con : Str) (t1 t2 t3 u1 u2 u3 : Tok) (hlen : path.length ≤ 100000) (hne : ∀ p ∈ news, p.1 ≠ td) (hta : ta ≠ td) :
    Ctr prog w p loose mean mg mb 1013 10 60 ((ta, instObj 1023 td) :: (td, toldD w.params path elem con t1 t2 t3 u1 u2 u3) :: news) [.ref ta] (fun r news' => r = .none ∧ ∃ t1', news' = ((ta, instObj 1023 td) :: (td, toldD w.params (path ++ S "*/") elem con t1' t2 t3 u1 u2 u3) :: news)) := by
  revert hp
  unfold Ctr
  k_fill
  intro hp dp un gd cn cs a ccd cl outer A₀ base h₀ L m s Q E B F X N T hk hR hU hret
  refine wpAny_call ?_
  k_dflt ktr_enter
  repeat' (first | (k_unfold; (try dsimp only)) | walk1 | (dsimp only; walk1) | (leave1; walk_say "STEP leave1"; try dsimp only) | fail "no step")
  exact hret _ _ _ _ (by assumption) (by assumption) ⟨rfl, _, rfl⟩
def shown (path elem con : Str) : Str := if con.length = 0 then path ++ elem else path ++ elem ++ (S "[" ++ con ++ S "]")
theorem shown_con (path elem : Str) {con : Str} (h : con.length ≠ 0) : path ++ elem ++ (S "[" ++ con ++ S "]") = shown path elem con := by unfold shown; rw [if_neg h]
theorem shown_none (path elem : Str) {con : Str} (h : con.length = 0) : path ++ elem = shown path elem con := by unfold shown; rw [if_pos h]
set_option maxHeartbeats 4000000 in
theorem c_str {prog : Program} {w : World} {p : Program} {loose : List Str} {mean : ExcName → Option Value} {mg mb : Str → Option Value} (hp : prog = PySem.Challenge.rw_ad5043_01.prog)
    (news : List (Addr × Obj)) (ta td : Addr) (path elem con : Str) (t1 t2 t3 u1 u2 u3 : Tok) (hlen : path.length ≤ 100000) (hle : elem.length ≤ 100) (hlc : con.length ≤ 1000) (hne : ∀ p ∈ news, p.1 ≠ td) (hta : ta ≠ td) :
    Ctr prog w p loose mean mg mb 984 10 60 ((ta, instObj 1023 td) :: (td, toldD w.params path elem con t1 t2 t3 u1 u2 u3) :: news) [.ref ta] (fun r news' => (∃ t, r = .str (shown path elem con) t) ∧ news' = ((ta, instObj 1023 td) :: (td, toldD w.params path elem con t1 t2 t3 u1 u2 u3) :: news)) := by
  revert hp
  unfold Ctr
  k_fill
  intro hp dp un gd cn cs a ccd cl outer A₀ base h₀ L m s Q E B F X N T hk hR hU hret
  refine wpAny_call ?_
  k_dflt ktr_enter
  repeat' (first | (k_unfold; (try dsimp only)) | walk1 | (dsimp only; walk1) | (leave1; walk_say "STEP leave1"; try dsimp only) | fail "no step")
  · refine hret _ _ _ _ (by assumption) (by assumption) ⟨⟨_, congrArg (Value.str · _) (shown_con _ _ ?_)⟩, rfl⟩; omega
  · refine hret _ _ _ _ (by assumption) (by assumption) ⟨⟨_, congrArg (Value.str · _) (shown_none _ _ ?_)⟩, rfl⟩; omega
local macro_rules | `(tactic| k_enter) => `(tactic| (refine' code_def ?k1 ?k2 ?k3 ?k4 ?k5 ?kA ?kF ?kK ?k6 ?k7 ?k8 ?k9 ?kB ?_ ?c2 ?c3 ?c4 ?c5; (case kA => exact rfl); (case kF => exact rfl); (case kK => first | exact rfl | assumption); (case k1 => k_asm); (case k2 => k_asm); (case k3 => k_asm); (case k4 => k_asm); (case k5 => k_asm); (case k6 => k_is); (case k7 => k_is); (case k8 => ktr_room); (case k9 => first | exact BindsTo.of_eq rfl | exact binds_K (by k_in) rfl (by k_is) rfl rfl rfl); (case c5 => decide); (case kB => exact locs rfl); (case c2 => exact rfl); (case c3 => exact rfl); (case c4 => exact rfl); k_whole; intro g' L' h' FG' F' N' B' X' T'; (try dsimp only); (try k_fold)))
def added1 (con x y : Str) : Str := if con.length = 0 then x else S "(" ++ con ++ S ") " ++ y ++ S " (" ++ x ++ S ")"
theorem added1_con {con : Str} (x y : Str) (h : con.length ≠ 0) : added1 con x y = S "(" ++ con ++ S ") " ++ y ++ S " (" ++ x ++ S ")" := by unfold added1; rw [if_neg h]
theorem added1_none {con : Str} (x y : Str) (h : con.length = 0) : added1 con x y = x := by unfold added1; rw [if_pos h]
theorem addc_con {P : Params} {ta td : Addr} {path elem con x y : Str} {t1 t2 t u1 u2 u3 : Tok} {news : List (Addr × Obj)} (h : con.length ≠ 0) :
    ∃ t', Value.ref ta = .ref ta ∧ ((ta, instObj 1023 td) :: (td, toldD P path elem (Str.ofString "(" ++ con ++ Str.ofString ") " ++ y ++ Str.ofString " (" ++ x ++ Str.ofString ")") t1 t2 t u1 u2 u3) :: news) = ((ta, instObj 1023 td) :: (td, toldD P path elem (added1 con x y) t1 t2 t' u1 u2 u3) :: news) :=
  ⟨t, rfl, by rw [added1_con _ _ h]⟩
theorem addc_none {P : Params} {ta td : Addr} {path elem con x y : Str} {t1 t2 t u1 u2 u3 : Tok} {news : List (Addr × Obj)} (h : con.length = 0) :
    ∃ t', Value.ref ta = .ref ta ∧ ((ta, instObj 1023 td) :: (td, toldD P path elem x t1 t2 t u1 u2 u3) :: news) = ((ta, instObj 1023 td) :: (td, toldD P path elem (added1 con x y) t1 t2 t' u1 u2 u3) :: news) :=
  ⟨t, rfl, by rw [added1_none _ _ h]⟩
set_option maxHeartbeats 4000000 in
theorem c_addc {prog : Program} {w : World} {p : Program} {loose : List Str} {mean : ExcName → Option Value} {mg mb : Str → Option Value} (hp : prog = PySem.Challenge.rw_ad5043_01.prog)
    (news : List (Addr × Obj)) (ta td : Addr) (path elem con x y : Str) (t1 t2 t3 u1 u2 u3 tx ty : Tok) (hlx : x.length ≤ 100) (hly : y.length ≤ 100) (hlc : con.length ≤ 1000) (hne : ∀ p ∈ news, p.1 ≠ td) (hta : ta ≠ td) :
    Ctr prog w p loose mean mg mb 999 10 60 ((ta, instObj 1023 td) :: (td, toldD w.params path elem con t1 t2 t3 u1 u2 u3) :: news) [.ref ta, .str x tx, .str y ty] (fun r news' => ∃ t, r = .ref ta ∧ news' = ((ta, instObj 1023 td) :: (td, toldD w.params path elem (added1 con x y) t1 t2 t u1 u2 u3) :: news)) := by
  revert hp
  unfold Ctr
  k_fill
  intro hp dp un gd cn cs a ccd cl outer A₀ base h₀ L m s Q E B F X N T hk hR hU hret
  refine wpAny_call ?_
  k_dflt k_enter
  repeat' (first | (k_unfold; (try dsimp only)) | walk1 | (dsimp only; walk1) | (leave1; walk_say "STEP leave1"; try dsimp only) | fail "no step")
  · exact hret _ _ _ _ (by assumption) (by assumption) (addc_con (by omega))
  · exact hret _ _ _ _ (by assumption) (by assumption) (addc_none (by omega))
set_option maxHeartbeats 4000000 in
theorem c_addc2 {prog : Program} {w : World} {p : Program} {loose : List Str} {mean : ExcName → Option Value} {mg mb : Str → Option Value} (hp : prog = PySem.Challenge.rw_ad5043_01.prog)
    (news : List (Addr × Obj)) (ta td : Addr) (path elem con x : Str) (t1 t2 t3 u1 u2 u3 tx : Tok) (hlx : x.length ≤ 100) (hlc : con.length ≤ 1000) (hne : ∀ p ∈ news, p.1 ≠ td) (hta : ta ≠ td) :
    Ctr prog w p loose mean mg mb 999 10 60 ((ta, instObj 1023 td) :: (td, toldD w.params path elem con t1 t2 t3 u1 u2 u3) :: news) [.ref ta, .str x tx] (fun r news' => ∃ t, r = .ref ta ∧ news' = ((ta, instObj 1023 td) :: (td, toldD w.params path elem (added1 con x (Str.ofString "and")) t1 t2 t u1 u2 u3) :: news)) := by
  revert hp
  unfold Ctr
  k_fill
  intro hp dp un gd cn cs a ccd cl outer A₀ base h₀ L m s Q E B F X N T hk hR hU hret
  refine wpAny_call ?_
  k_dflt k_enter
  repeat' (first | (k_unfold; (try dsimp only)) | walk1 | (dsimp only; walk1) | (leave1; walk_say "STEP leave1"; try dsimp only) | fail "no step")
  · exact hret _ _ _ _ (by assumption) (by assumption) (addc_con (by omega))
  · exact hret _ _ _ _ (by assumption) (by assumption) (addc_none (by omega))
end Mine
namespace Mine
open PySem PySem.W PyProof.Rows PySem.Calls PySem.Spec PyProof.V
inductive StrsAll : List Value → List Str → Prop
  | nil : StrsAll [] []
  | cons {x : Str} {t : Tok} {l : List Value} {xs : List Str} : StrsAll l xs → StrsAll (.str x t :: l) (x :: xs)
theorem StrsAll.get {l : List Value} {xs : List Str} (h : StrsAll l xs) : ∀ i, i < l.length → ∃ x t, l[i]? = some (.str x t) ∧ x ∈ xs := by
  induction h with
  | nil => intro i hi; exact absurd hi (Nat.not_lt_zero _)
  | cons _ ih =>
    intro i hi
    cases i with
    | zero => exact ⟨_, _, rfl, List.mem_cons_self ..⟩
    | succ i =>
      obtain ⟨x, t, h1, h2⟩ := ih i (Nat.lt_of_succ_lt_succ hi)
      exact ⟨x, t, by simpa using h1, List.mem_cons_of_mem _ h2⟩
theorem sub_pick {prog : Program} {w : World} {A : Around} {E : Value → Shared → Prop} {s : Shared} {a : Addr} {value slice : PySem.Expr} {l : List Value} {xs : List Str} {k : Int} {u : Tok} {Q : Value → Shared → Prop}
    (hL : s.heap.IsList a l.toArray) (hs : StrsAll l xs) (h0 : 0 ≤ k) (h1 : k < (l.length : Int)) (h2 : l.length ≤ 100) (h : ∀ x t, x ∈ xs → Q (.str x t) s)
    (hsub : subscripted slice false (.ref a) (.int k u) = operate [.ref a, .int k u] (getItem (.ref a) (.int k u)) := by with_unfolding_all rfl) :
    wpAny (model prog w) A (subscriptTail value slice (.ref a) (.int k u)) Q E s := by
  obtain ⟨x, t, e, hx⟩ := hs.get k.toNat (by omega)
  exact tail_any hL.typeIs slot_list_getitem.lookup (wpAny_getItem_list hL h0 (by omega) (by simpa using e) (h x t hx)) hsub
theorem add_gen {prog : Program} {w : World} {A : Around} {E : Value → Shared → Prop} {s : Shared} {h₀ : Heap} {L a b : Addr} {m : Str → Option Value} {news : List (Addr × Obj)} {vs ws : List Value} {Q : Value → Shared → Prop}
    (F : Fr h₀ L s.heap m) (N : News h₀ L s.heap news) (ha : s.heap.IsList a vs.toArray) (hb : s.heap.IsList b ws.toArray)
    (h : ∀ D h', Fr h₀ L h' m → News h₀ L h' ((D, listOf (vs ++ ws).toArray 0) :: news) → (∀ p ∈ news, p.1 < D) → Q (.ref D) { s with heap := h' })
    (hz : vs.length + ws.length ≤ 1000) : wpAny (model prog w) A (binaryOp .Add (.ref a) (.ref b)) Q E s :=
  add_lists F N ha hb (fun h' F' N' => h _ h' F' N' fun p hp => Heap.lt_size (N p hp).1) (Nat.le_trans hz (by rw [sizeLine_eq]; omega))
theorem frame_as (m : Str → Option Value) : ∀ (l : List (Str × Value)), (∀ p ∈ l, m p.1 = some p.2) → m = l.foldr (fun p u y => if y = p.1 then some p.2 else u y) m
  | [], _ => rfl
  | p :: l, h => by
    have ih := frame_as m l fun q hq => h q (List.mem_cons_of_mem _ hq)
    have hp := h p (List.mem_cons_self ..)
    rw [List.foldr_cons, ← ih]
    funext y
    by_cases e : y = p.1
    · rw [if_pos e, e, hp]
    · rw [if_neg e]
end Mine
namespace Mine
local macro_rules | `(tactic| walk_at "pad") => `(tactic| fail)
local macro_rules | `(tactic| walk_at "pad") => `(tactic| fail)
local macro_rules | `(tactic| walk_at "pad") => `(tactic| fail)
local macro_rules | `(tactic| walk_at "pad") => `(tactic| fail)
local macro_rules | `(tactic| walk_at "pad") => `(tactic| fail)
local macro_rules | `(tactic| walk_at "pad") => `(tactic| fail)
local macro_rules | `(tactic| walk_at "pad") => `(tactic| fail)
local macro_rules | `(tactic| walk_at "pad") => `(tactic| fail)
local macro_rules | `(tactic| walk_at "pad") => `(tactic| fail)
local macro_rules | `(tactic| walk_at "pad") => `(tactic| fail)
local macro_rules | `(tactic| walk_at "pad") => `(tactic| fail)
local macro_rules | `(tactic| walk_at "pad") => `(tactic| fail)
open PySem PySem.W PyProof.Rows PySem.Calls PySem.Spec PyProof.V
local macro_rules | `(tactic| k_room) => `(tactic| ktr_room)
local macro_rules | `(tactic| k_all) => `(tactic| assumption)
local macro_rules | `(tactic| k_steps) => `(tactic| repeat' (first | (k_unfold; (try dsimp only)) | walk1 | (dsimp only; walk1) | (leave1; walk_say "STEP leave1"; try dsimp only) | fail "no step"))
local macro_rules | `(tactic| walk_at "subscriptTail") => `(tactic| (k_here; (with_reducible show wpAny _ _ (subscriptTail _ _ (Value.ref _) (Value.int _ _)) _ _ _); (with_unfolding_all refine' sub_pick ?k1 ?k2 ?k3 ?k4 ?k5 ?_ ?k6; (case k1 => first | is_list | exact lstK (Frag.In.keeps (by assumption) (Fr.keep (by assumption))) (by k_is)); (case k2 => first | exact StrsAll.nil | exact (StrsAll.cons StrsAll.nil) | exact (StrsAll.cons (StrsAll.cons StrsAll.nil)) | exact (StrsAll.cons (StrsAll.cons (StrsAll.cons StrsAll.nil))) | exact (StrsAll.cons (StrsAll.cons (StrsAll.cons (StrsAll.cons StrsAll.nil)))) | exact (StrsAll.cons (StrsAll.cons (StrsAll.cons (StrsAll.cons (StrsAll.cons StrsAll.nil))))) | exact (StrsAll.cons (StrsAll.cons (StrsAll.cons (StrsAll.cons (StrsAll.cons (StrsAll.cons StrsAll.nil)))))) | exact (StrsAll.cons (StrsAll.cons (StrsAll.cons (StrsAll.cons (StrsAll.cons (StrsAll.cons (StrsAll.cons StrsAll.nil)))))))); (case k3 => first | l_idx | kxi_fact); (case k4 => first | l_idx | kxi_fact); (case k5 => exact Nat.le_of_ble_eq_true rfl); (case k6 => with_unfolding_all rfl); k_whole); intro x9 t9 hx9))
abbrev six6 : List Str := [Str.ofString "p", Str.ofString "q", Str.ofString "r", Str.ofString "s", Str.ofString "t", Str.ofString "u"]
theorem six_ok : ∀ x ∈ six6, x.length ≤ 100 ∧ x ∈ marks := by decide +kernel
theorem news_sub {h₀ h : Heap} {L : Addr} {l l' : List (Addr × Obj)} (N : News h₀ L h l) (hs : l'.Sublist l) : News h₀ L h l' := cb_drop N fun _ hq => hs.subset hq
local macro_rules | `(tactic| walk_at "call ref") => `(tactic| (k_here; k_dflt (refine' Ctr.use (c_addc2 (by assumption) _ _ _ _ _ _ _ _ _ _ _ _ _ _ ?hlx ?hlc ?hne ?hta) ?k1 ?k2 ?k3 ?k4 ?k5 ?kK ?kd ?ku ?_); (case hne => assumption); (case hta => assumption); (case k4 => exact news_sub (by assumption) (by repeat (first | exact List.Sublist.refl _ | refine List.Sublist.cons₂ _ ?_ | refine List.Sublist.cons _ ?_))); (case hlx => exact (six_ok _ (by assumption)).1); (case hlc => assumption); (case k1 => k_asm); (case k2 => k_asm); (case k3 => k_asm); (case k5 => k_asm); (case kK => first | exact rfl | assumption); (case kd => ktr_room); (case ku => ktr_units); (intro r9 n9 h9 tk9 F9 N9 o9; obtain ⟨t9, e9, e9'⟩ := o9; subst e9; subst e9'); (try dsimp only)))
local macro_rules | `(tactic| walk_at "call ref") => `(tactic| (k_here; k_dflt (refine' Ctr.use (c_addc (by assumption) _ _ _ _ _ _ _ _ _ _ _ _ _ _ _ _ ?hlx ?hly ?hlc ?hne ?hta) ?k1 ?k2 ?k3 ?k4 ?k5 ?kK ?kd ?ku ?_); (case hne => assumption); (case hta => assumption); (case k4 => exact news_sub (by assumption) (by repeat (first | exact List.Sublist.refl _ | refine List.Sublist.cons₂ _ ?_ | refine List.Sublist.cons _ ?_))); (case hlx => exact (six_ok _ (by assumption)).1); (case hly => exact Nat.le_of_ble_eq_true rfl); (case hlc => assumption); (case k1 => k_asm); (case k2 => k_asm); (case k3 => k_asm); (case k5 => k_asm); (case kK => first | exact rfl | assumption); (case kd => ktr_room); (case ku => ktr_units); (intro r9 n9 h9 tk9 F9 N9 o9; obtain ⟨t9, e9, e9'⟩ := o9; subst e9; subst e9'); (try dsimp only)))
theorem AddedIs.mono {a b : List (Addr × Obj)} (hs : ∀ q ∈ a, q ∈ b) {vs : List Value} {l : List (Bool × Str)} (h : AddedIs a vs l) : AddedIs b vs l := by
  induction h with
  | nil => exact .nil
  | cons m _ ih => exact .cons (hs _ m) ih
theorem AddedIs.snoc {a : List (Addr × Obj)} {vs : List Value} {l : List (Bool × Str)} {B : Addr} {o : Bool} {x : Str} {tw tm : Tok} (h : AddedIs a vs l) (hB : (B, pairObj o x tw tm) ∈ a) : AddedIs a (vs ++ [.ref B]) (l ++ [(o, x)]) := by
  induction h with
  | nil => exact .cons hB .nil
  | cons m _ ih => exact .cons m ih
theorem added_fin {h₀ h : Heap} {L D B C ta td : Addr} {i d dl X : Obj} {o : Bool} {x : Str} {tw tm : Tok} {news : List (Addr × Obj)} (N : News h₀ L h ((D, dl) :: (C, X) :: (B, pairObj o x tw tm) :: (ta, i) :: (td, d) :: news)) :
    News h₀ L h ((ta, i) :: (td, d) :: (D, dl) :: (B, pairObj o x tw tm) :: news) := cb_drop N fun q hq => by
  simp only [List.mem_cons] at hq ⊢
  rcases hq with h | h | h | h | h <;> simp [h]
def AddedPost (P : Params) (ta td : Addr) (path elem con : Str) (t1 t2 u1 u2 u3 : Tok) (vs : List Value) (rest : List (Addr × Obj)) (r : Value) (news' : List (Addr × Obj)) : Prop :=
  ∃ o m D B tw tm t3', r = .ref D ∧ m ∈ marks ∧ news' = ((ta, instObj 1023 td) :: (td, toldD P path elem (added1 con m (wordS o)) t1 t2 t3' u1 u2 u3) :: (D, listOf (vs ++ [Value.ref B]).toArray 0) :: (B, pairObj o m tw tm) :: rest) ∧ D ≠ td ∧ B ≠ td
theorem added_ret {P : Params} {ta td D B : Addr} {path elem con x : Str} {t1 t2 t3 u1 u2 u3 tw tm : Tok} {o : Bool} {vs : List Value} {news : List (Addr × Obj)} (hx : x ∈ marks) (hD : D ≠ td) (hB : B ≠ td) :
    AddedPost P ta td path elem con t1 t2 u1 u2 u3 vs news (.ref D) ((ta, instObj 1023 td) :: (td, toldD P path elem (added1 con x (wordS o)) t1 t2 t3 u1 u2 u3) :: (D, listOf (vs ++ [Value.ref B]).toArray 0) :: (B, pairObj o x tw tm) :: news) :=
  ⟨o, x, D, B, tw, tm, t3, rfl, hx, rfl, hD, hB⟩
local macro_rules | `(tactic| walk_at "binaryOp Add ref ref") => `(tactic| (k_here; k_dflt (refine' add_gen ?F ?N ?a ?b ?_ ?z; (case F => k_asm); (case N => k_asm); (case a => exact News.isList (by k_asm) (by first | k_mem | (repeat (first | assumption | refine List.mem_cons_of_mem _ ?_)))); (case b => exact News.isList (by k_asm) (by first | k_mem | (repeat (first | assumption | refine List.mem_cons_of_mem _ ?_)))); (case z => (simp only [List.length_cons, List.length_nil]; omega))); intro D' h' F' N' l1; (try k_lt l1)))
set_option maxHeartbeats 4000000 in
theorem c_added {prog : Program} {w : World} {p : Program} {loose : List Str} {mean : ExcName → Option Value} {mg mb : Str → Option Value} (hp : prog = PySem.Challenge.rw_ad5043_01.prog)
    (news : List (Addr × Obj)) (ta td la : Addr) (path elem con : Str) (t1 t2 t3 u1 u2 u3 tc : Tok) (c : Int) (h0 : 0 ≤ c) (hc : c < 100000000) (hlc : con.length ≤ 1000) (hne : ∀ p ∈ news, p.1 ≠ td) (hta : ta ≠ td) (vs : List Value) (n : Nat) (hla : (la, listOf vs.toArray n) ∈ news) (hvl : vs.length ≤ 100) :
    Ctr prog w p loose mean mg mb 1501 14 80 ((ta, instObj 1023 td) :: (td, toldD w.params path elem con t1 t2 t3 u1 u2 u3) :: news) [.ref ta, .ref la, .int c tc] (AddedPost w.params ta td path elem con t1 t2 u1 u2 u3 vs news) := by
  revert hp
  unfold Ctr
  k_fill
  intro hp dp un gd cn cs a ccd cl outer A₀ base h₀ L m s Q E B F X N T hk hR hU hret
  refine wpAny_call ?_
  k_dflt ktr_enter
  have hm0 : 0 ≤ Int.fmod c 3 := fmod_lo _ (by decide)
  have hm1 : Int.fmod c 3 < 3 := fmod_hi _ (by decide)
  k_steps
  all_goals first
    | (exfalso; omega)
    | exact hret _ _ _ _ (by assumption) (added_fin (o := true) (by assumption)) (added_ret (o := true) (six_ok _ (by assumption)).2 (by k_ne) (by k_ne))
    | exact hret _ _ _ _ (by assumption) (added_fin (o := false) (by assumption)) (added_ret (o := false) (six_ok _ (by assumption)).2 (by k_ne) (by k_ne))
end Mine
namespace Mine
local macro_rules | `(tactic| walk_at "pad") => `(tactic| fail)
local macro_rules | `(tactic| walk_at "pad") => `(tactic| fail)
local macro_rules | `(tactic| walk_at "pad") => `(tactic| fail)
local macro_rules | `(tactic| walk_at "pad") => `(tactic| fail)
local macro_rules | `(tactic| walk_at "pad") => `(tactic| fail)
local macro_rules | `(tactic| walk_at "pad") => `(tactic| fail)
local macro_rules | `(tactic| walk_at "pad") => `(tactic| fail)
local macro_rules | `(tactic| walk_at "pad") => `(tactic| fail)
local macro_rules | `(tactic| walk_at "pad") => `(tactic| fail)
local macro_rules | `(tactic| walk_at "pad") => `(tactic| fail)
local macro_rules | `(tactic| walk_at "pad") => `(tactic| fail)
local macro_rules | `(tactic| walk_at "pad") => `(tactic| fail)
local macro_rules | `(tactic| walk_at "pad") => `(tactic| fail)
local macro_rules | `(tactic| walk_at "pad") => `(tactic| fail)
local macro_rules | `(tactic| walk_at "pad") => `(tactic| fail)
local macro_rules | `(tactic| walk_at "pad") => `(tactic| fail)
local macro_rules | `(tactic| walk_at "pad") => `(tactic| fail)
open PySem PySem.W PyProof.Rows PySem.Calls PySem.Spec PyProof.V
local macro_rules | `(tactic| k_room) => `(tactic| ktr_room)
local macro_rules | `(tactic| k_all) => `(tactic| assumption)
local macro_rules | `(tactic| k_units) => `(tactic| ktr_units)
local macro_rules | `(tactic| k_steps) => `(tactic| repeat' (first | (k_unfold; (try dsimp only)) | walk1 | (dsimp only; walk1) | (leave1; walk_say "STEP leave1"; try dsimp only) | fail "no step"))
local macro_rules | `(tactic| k_enter) => `(tactic| (refine' code_def ?k1 ?k2 ?k3 ?k4 ?k5 ?kA ?kF ?kK ?k6 ?k7 ?k8 ?k9 ?kB ?_ ?c2 ?c3 ?c4 ?c5; (case kA => exact rfl); (case kF => exact rfl); (case kK => first | exact rfl | assumption); (case k1 => k_asm); (case k2 => k_asm); (case k3 => k_asm); (case k4 => k_asm); (case k5 => k_asm); (case k6 => k_is); (case k7 => k_is); (case k8 => ktr_room); (case k9 => first | exact BindsTo.of_eq rfl | exact binds_K (by k_in) rfl (by k_is) rfl rfl rfl); (case c5 => decide); (case kB => exact locs rfl); (case c2 => exact rfl); (case c3 => exact rfl); (case c4 => exact rfl); k_whole; intro g' L' h' FG' F' N' B' X' T'; (try dsimp only); (try k_fold)))
theorem str_app_empty (a : Str) : a ++ Str.ofString "" = a := by
  apply Str.ext'
  show a.cps ++ (Str.ofString "").cps = a.cps
  rw [show (Str.ofString "").cps = #[] from by decide +kernel]
  simp
theorem j0 {opath : Str} (ho : opath = Str.ofString "" ∨ opath = Str.ofString "*/") (h : (opath != Str.ofString "*/") = true) : opath = Str.ofString "" := by
  rcases ho with e | e
  · exact e
  · subst e; simp at h
theorem j1 {path elem con x opath : Str} (hc : con.length ≠ 0) (ho : opath = Str.ofString "" ∨ opath = Str.ofString "*/") (h : (opath != Str.ofString "*/") = true) :
    path ++ elem ++ (Str.ofString "[" ++ con ++ Str.ofString "]") ++ x ++ opath = shown path elem con ++ x := by rw [j0 ho h, str_app_empty, ← shown_con _ _ hc]
theorem j2 {path elem con x : Str} (hc : con.length ≠ 0) : path ++ elem ++ (Str.ofString "[" ++ con ++ Str.ofString "]") ++ x = shown path elem con ++ x := by rw [← shown_con _ _ hc]
theorem j3 {path elem con x opath : Str} (hc : con.length = 0) (ho : opath = Str.ofString "" ∨ opath = Str.ofString "*/") (h : (opath != Str.ofString "*/") = true) :
    path ++ elem ++ x ++ opath = shown path elem con ++ x := by rw [j0 ho h, str_app_empty, ← shown_none _ _ hc]
theorem j4 {path elem con x : Str} (hc : con.length = 0) : path ++ elem ++ x = shown path elem con ++ x := by rw [← shown_none _ _ hc]
def JoinPost (P : Params) (news : List (Addr × Obj)) (ta td oa od : Addr) (path elem con x opath oelem ocon : Str) (u1 u2 u3 s1 s2 s3 r1 r2 r3 : Tok) (r : Value) (news' : List (Addr × Obj)) : Prop :=
  ∃ t1', r = .ref ta ∧ news' = ((ta, instObj 1023 td) :: (td, toldD P (shown path elem con ++ x) oelem ocon t1' s2 s3 u1 u2 u3) :: (oa, instObj 1023 od) :: (od, toldD P opath oelem ocon s1 s2 s3 r1 r2 r3) :: news)
theorem join_ret {P : Params} {news : List (Addr × Obj)} {ta td oa od : Addr} {path elem con x opath oelem ocon v : Str} {t1 u1 u2 u3 s1 s2 s3 r1 r2 r3 : Tok} (e : v = shown path elem con ++ x) :
    JoinPost P news ta td oa od path elem con x opath oelem ocon u1 u2 u3 s1 s2 s3 r1 r2 r3 (.ref ta) ((ta, instObj 1023 td) :: (td, toldD P v oelem ocon t1 s2 s3 u1 u2 u3) :: (oa, instObj 1023 od) :: (od, toldD P opath oelem ocon s1 s2 s3 r1 r2 r3) :: news) := ⟨t1, rfl, by rw [e]⟩
set_option maxHeartbeats 4000000 in
theorem c_join {prog : Program} {w : World} {p : Program} {loose : List Str} {mean : ExcName → Option Value} {mg mb : Str → Option Value} (hp : prog = PySem.Challenge.rw_ad5043_01.prog)
    (news : List (Addr × Obj)) (ta td oa od : Addr) (path elem con x opath oelem ocon : Str) (t1 t2 t3 u1 u2 u3 s1 s2 s3 r1 r2 r3 tx : Tok) (hlx : x.length ≤ 100) (hlp : path.length ≤ 100000) (hle : elem.length ≤ 100) (hlc : con.length ≤ 1000) (hlo : opath.length ≤ 100) (hop : opath = Str.ofString "" ∨ opath = Str.ofString "*/")
    (hne : ∀ p ∈ news, p.1 ≠ td) (hta : ta ≠ td) (ho : oa ≠ td) (hod : od ≠ td) :
    Ctr prog w p loose mean mg mb 1020 14 80 ((ta, instObj 1023 td) :: (td, toldD w.params path elem con t1 t2 t3 u1 u2 u3) :: (oa, instObj 1023 od) :: (od, toldD w.params opath oelem ocon s1 s2 s3 r1 r2 r3) :: news) [.ref ta, .str x tx, .ref oa] (JoinPost w.params news ta td oa od path elem con x opath oelem ocon u1 u2 u3 s1 s2 s3 r1 r2 r3) := by
  revert hp
  unfold Ctr
  k_fill
  intro hp dp un gd cn cs a ccd cl outer A₀ base h₀ L m s Q E B F X N T hk hR hU hret
  refine wpAny_call ?_
  k_dflt ktr_enter
  k_steps
  all_goals first
    | exact hret _ _ _ _ (by assumption) (by assumption) (join_ret (j1 (by omega) (by assumption) (by assumption)))
    | exact hret _ _ _ _ (by assumption) (by assumption) (join_ret (j2 (by omega)))
    | exact hret _ _ _ _ (by assumption) (by assumption) (join_ret (j3 (by omega) (by assumption) (by assumption)))
    | exact hret _ _ _ _ (by assumption) (by assumption) (join_ret (j4 (by omega)))
end Mine
namespace Mine
local macro_rules | `(tactic| walk_at "pad") => `(tactic| fail)
local macro_rules | `(tactic| walk_at "pad") => `(tactic| fail)
local macro_rules | `(tactic| walk_at "pad") => `(tactic| fail)
local macro_rules | `(tactic| walk_at "pad") => `(tactic| fail)
local macro_rules | `(tactic| walk_at "pad") => `(tactic| fail)
local macro_rules | `(tactic| walk_at "pad") => `(tactic| fail)
local macro_rules | `(tactic| walk_at "pad") => `(tactic| fail)
local macro_rules | `(tactic| walk_at "pad") => `(tactic| fail)
local macro_rules | `(tactic| walk_at "pad") => `(tactic| fail)
local macro_rules | `(tactic| walk_at "pad") => `(tactic| fail)
local macro_rules | `(tactic| walk_at "pad") => `(tactic| fail)
local macro_rules | `(tactic| walk_at "pad") => `(tactic| fail)
local macro_rules | `(tactic| walk_at "pad") => `(tactic| fail)
local macro_rules | `(tactic| walk_at "pad") => `(tactic| fail)
local macro_rules | `(tactic| walk_at "pad") => `(tactic| fail)
local macro_rules | `(tactic| walk_at "pad") => `(tactic| fail)
local macro_rules | `(tactic| walk_at "pad") => `(tactic| fail)
local macro_rules | `(tactic| walk_at "pad") => `(tactic| fail)
open PySem PySem.W PyProof.Rows PySem.Calls PySem.Spec PyProof.V
local macro_rules | `(tactic| k_room) => `(tactic| ktr_room)
local macro_rules | `(tactic| k_units) => `(tactic| ktr_units)
local macro_rules | `(tactic| k_steps) => `(tactic| repeat' (first | (k_unfold; (try dsimp only)) | walk1 | (dsimp only; walk1) | (leave1; walk_say "STEP leave1"; try dsimp only) | fail "no step"))
theorem pat_at {w : World} {h₀ h : Heap} {L : Addr} {m : Str → Option Value} (F : Fr h₀ L h m) (X : (hd.heap_1 w.params).In h₀) : ∃ v1 v2, h.get? 1039 = some (patO v1 v2) ∧ h.get? 1038 = some codeO :=
  ⟨_, _, F.keep _ _ (X 1039 _ rfl), F.keep _ _ (X 1038 _ rfl)⟩
theorem gm_match {M : Model} {A : Around} {w : World} {s : Shared} {h₀ : Heap} {L : Addr} {m : Str → Option Value} {pl : Sem Bool} {Q : Value × List Value → Shared → Prop} {E : Value → Shared → Prop} (F : Fr h₀ L s.heap m) (X : (hd.heap_1 w.params).In h₀)
    (h : Q (.builtin "re.Pattern.match", [.ref 1039]) s) : wpAny M A (getMethod (.ref 1039) "match" pl) Q E s := by
  obtain ⟨v1, v2, h1, h2⟩ := pat_at F X
  exact getMethod_builtin ⟨_, h1, rfl⟩ plain_pat slot_match type_match (fun a e => by cases e; exact ⟨_, h1, rfl⟩) h
theorem call_no {prog : Program} {A : Around} {w : World} {s : Shared} {h₀ : Heap} {L : Addr} {m : Str → Option Value} {x : Str} {t : Tok} {Q : Value → Shared → Prop} {E : Value → Shared → Prop} (F : Fr h₀ L s.heap m) (X : (hd.heap_1 w.params).In h₀) (hx : x.cps.size ≤ 1000)
    (hr : (run0 x).map Option.isSome = some false) (h : Q .none s) : wpAny (model prog w) A (call (.builtin "re.Pattern.match") [.ref 1039, .str x t]) Q E s := by
  obtain ⟨v1, v2, h1, h2⟩ := pat_at F X
  exact wpAny_call_entry slot_match ⟨_, h1, rfl⟩ entry_match (match_no hx h1 h2 hr ⟨_, rfl, h⟩) (args_match _ _)
theorem call_yes {prog : Program} {A : Around} {w : World} {s : Shared} {h₀ : Heap} {L : Addr} {m : Str → Option Value} {news : List (Addr × Obj)} {x : Str} {t : Tok} {Q : Value → Shared → Prop} {E : Value → Shared → Prop} (F : Fr h₀ L s.heap m) (X : (hd.heap_1 w.params).In h₀) (N : News h₀ L s.heap news) (hx : x.cps.size ≤ 1000)
    (hr : (run0 x).map Option.isSome = some true) (h : ∀ (D : Addr) (o : Obj) (h' : Heap), Fr h₀ L h' m → News h₀ L h' ((D, o) :: news) → o.cls = .type "re.Match" → (∀ p ∈ news, p.1 < D) → Q (.ref D) { s with heap := h' }) :
    wpAny (model prog w) A (call (.builtin "re.Pattern.match") [.ref 1039, .str x t]) Q E s := by
  obtain ⟨v1, v2, h1, h2⟩ := pat_at F X
  refine wpAny_call_entry slot_match ⟨_, h1, rfl⟩ entry_match (match_yes hx h1 h2 hr fun o1 o2 f1 f2 ho => ⟨_, rfl, ?_⟩) (args_match _ _)
  have F1 := F.push o1
  have N1 := News.push F N o1 (hfree := f1)
  have F2 := F1.push o2
  have N2 := News.push F1 N1 o2 (hfree := f2)
  refine h _ o2 _ F2 (cb_drop N2 fun q hq => ?_) ho fun p hp => ?_
  · rcases List.mem_cons.mp hq with e | e
    · exact List.mem_cons.mpr (.inl e)
    · exact List.mem_cons_of_mem _ (List.mem_cons_of_mem _ e)
  · exact Heap.lt_size (N1 p (List.mem_cons_of_mem _ hp)).1
local macro_rules | `(tactic| walk_at "getMethod ref") => `(tactic| (k_here; refine gm_match (by assumption) (by assumption) ?_))
local macro_rules | `(tactic| walk_at "call builtin:re.Pattern.match") => `(tactic| (k_here; refine call_no (by assumption) (by assumption) (by assumption) (by assumption) ?_; try dsimp only))
set_option maxHeartbeats 4000000 in
theorem c_safe_no {prog : Program} {w : World} {p : Program} {loose : List Str} {mean : ExcName → Option Value} {mg mb : Str → Option Value} (hp : prog = PySem.Challenge.rw_ad5043_01.prog)
    (news : List (Addr × Obj)) (x : Str) (t : Tok) (hx : x.cps.size ≤ 1000) (hr : (run0 x).map Option.isSome = some false) :
    Ctr prog w p loose mean mg mb 1046 10 60 news [.str x t] (fun r news' => r = .none ∧ news' = news) := by
  revert hp
  unfold Ctr
  k_fill
  intro hp dp un gd cn cs a ccd cl outer A₀ base h₀ L m s Q E B F X N T hk hR hU hret
  refine wpAny_call ?_
  k_dflt ktr_enter
  k_steps
  all_goals first
    | exact hret _ _ _ _ (by assumption) (by assumption) ⟨rfl, rfl⟩
local macro_rules | `(tactic| walk_at "call builtin:re.Pattern.match") => `(tactic| (k_here; refine call_yes (by assumption) (by assumption) (by assumption) (by assumption) (by assumption) ?_; intro D9 o9 h9 F9 N9 hc9 hl9; try dsimp only))
set_option maxHeartbeats 4000000 in
theorem c_safe {prog : Program} {w : World} {p : Program} {loose : List Str} {mean : ExcName → Option Value} {mg mb : Str → Option Value} (hp : prog = PySem.Challenge.rw_ad5043_01.prog)
    (news : List (Addr × Obj)) (x : Str) (t : Tok) (hx : x.cps.size ≤ 1000) (hr : (run0 x).map Option.isSome = some true) :
    Ctr prog w p loose mean mg mb 1046 10 60 news [.str x t] (fun r news' => ∃ D o, r = .ref D ∧ news' = (D, o) :: news ∧ o.cls = .type "re.Match" ∧ ∀ q ∈ news, q.1 < D) := by
  revert hp
  unfold Ctr
  k_fill
  intro hp dp un gd cn cs a ccd cl outer A₀ base h₀ L m s Q E B F X N T hk hR hU hret
  refine wpAny_call ?_
  k_dflt ktr_enter
  k_steps
  all_goals first
    | exact hret _ _ _ _ (by assumption) (by assumption) ⟨_, _, rfl, rfl, by assumption, by assumption⟩
end Mine
namespace Mine
open PySem PySem.W PyProof.Rows PySem.Calls PySem.Spec PyProof.V
theorem keys_miss : typeLookup (.type "list") (Str.ofString "keys") = pure none := by rw [typeLookup_type, builtinLookup_eq_fast]; kernel_rfl
theorem entry_upd : entryFor table "dict.update.loop" = some Builtin.«dict.update.loop» := entryFor_of_tree (by kernel_rfl)
theorem plain_upd : plainId "dict.update.loop" = true := by decide +kernel

section
variable {prog : Program} {w : World} {A : Around} {E : Value → Shared → Prop} {s : Shared}
theorem getAttrQ_keys {a : Addr} {o : Obj} {xs : Array Value} {k : Nat} {Q : Option Value → Shared → Prop}
    (hx : s.heap.get? a = some o) (hc : o.cls = .type "list") (hdat : o.data = .seq xs k) (hd : o.dict = none) (hA : A.handled = none)
    (h : ∀ h' tk, (∀ b o, s.heap.get? b = some o → h'.get? b = some o) → Q none { s with heap := h', toks := tk }) :
    wpAny (model prog w) A (getAttr? (.ref a) (Str.ofString "keys")) Q E s := by
  obtain ⟨c, dct, dat, sl⟩ := o
  simp only at hc hdat hd
  subst hc hdat hd
  obtain ⟨hp, g, d, tk, os⟩ := s
  have hmiss := keys_miss
  have hname : (["__module__", "__name__", "__qualname__", "__doc__", "__annotations__"] : List Str).contains (Str.ofString "keys") = false := by decide +kernel
  have hsz : (Str.ofString "keys").length + 100 ≤ sizeLine := by decide +kernel
  have hT : ∀ tk', (⟨hp, g, d, tk', os⟩ : Shared).TypeIs (.ref a) "list" := fun _ => ⟨_, hx, rfl⟩
  have f1 := sub_AttributeError
  have f3 := F.slot_list_getattribute.lookup
  have f4 := F.slot_list_getattribute.bind (.ref a)
  have f5 := am_list_getattr_none
  unfold getAttr? getAttrBy? getAttrBy
  repeat (any_goals (first | assumption | exact hT _ | ((with_reducible show wpAny _ _ (call (Value.builtin "list.__getattribute__") _ _) _ _ _); refine call_meets F.slot_list_getattribute (hT _) am_entry_list_getattribute (F.args_list_getattribute_2 _ _) (meets_getattribute_miss_list a xs k sl _ _ hmiss hname hsz) ⟨hx, hA, fun h' tk' e hx' => ?_⟩) | wp_step))
  obtain ⟨t', u', he⟩ := hx'.there
  have hk := hx'.of.keeps
  have hTe : ∀ tk'', (⟨h', g, d, tk'', os⟩ : Shared).TypeIs (.ref e) "AttributeError" := fun _ => ⟨_, he, rfl⟩
  show wpAny _ _ (getattributeRaised _ _ _ _ _ _ _) _ _ _
  unfold getattributeRaised
  repeat (any_goals (first | assumption | exact hTe _ | wp_step))
  all_goals exact h _ _ hk

/-- what the loop has still to read: the pairs' tuples stand in the heap, below n -/
inductive PairsAt (h : Heap) (n : Nat) : List Value → List (Str × Bool) → Prop
  | nil : PairsAt h n [] []
  | cons {a : Addr} {o : Obj} {k9 : Nat} {k : Str} {t : Tok} {b : Bool} {vs : List Value} {l : List (Str × Bool)} : h.get? a = some o → o.cls = .type "tuple" → o.data = .seq #[.str k t, .bool b] k9 → a < n → PairsAt h n vs l → PairsAt h n (.ref a :: vs) ((k, b) :: l)
theorem PairsAt.get {h : Heap} {n : Nat} {vs : List Value} {l : List (Str × Bool)} (x : PairsAt h n vs l) : ∀ {i : Nat} {v : Value}, vs[i]? = some v → ∃ a o k9 k t b, v = .ref a ∧ h.get? a = some o ∧ o.cls = .type "tuple" ∧ o.data = .seq #[.str k t, .bool b] k9 ∧ a < n ∧ l[i]? = some (k, b) := by
  induction x with
  | nil => intro i v h; simp at h
  | @cons a o k9 k t b vs l h1 h2 h3 h4 _ ih =>
    intro i v hv
    cases i with
    | zero =>
      have e : Value.ref a = v := by simpa using hv
      exact ⟨a, o, k9, k, t, b, e.symm, h1, h2, h3, h4, by simp⟩
    | succ i => simpa using ih (i := i) (v := v) (by simpa using hv)
theorem PairsAt.keep {h h' : Heap} {n : Nat} {vs : List Value} {l : List (Str × Bool)} (x : PairsAt h n vs l) (hk : ∀ (b : Addr) (o : Obj), b < n → h.get? b = some o → h'.get? b = some o) : PairsAt h' n vs l := by
  induction x with
  | nil => exact .nil
  | cons h1 h2 h3 h4 _ ih => exact .cons (hk _ _ h4 h1) h2 h3 h4 ih
theorem PairsAt.length {h : Heap} {n : Nat} {vs : List Value} {l : List (Str × Bool)} (x : PairsAt h n vs l) : vs.length = l.length := by
  induction x with
  | nil => rfl
  | cons _ _ _ _ _ ih => rw [List.length_cons, List.length_cons, ih]
def store1 (kvs : List (Str × Value)) (p : Str × Bool) : List (Str × Value) := stored kvs p.1 (.bool p.2)

theorem pairItems_tuple {a : Addr} {o : Obj} {n : Nat} {xs : Array Value} {Q : List Value → Shared → Prop} (ha : s.heap.get? a = some o) (hc : o.cls = .type "tuple") (hd : o.data = .seq xs n) (h : Q xs.toList s) : wpAny (model prog w) A (Builtin.Dict.pairItems (.ref a)) Q E s := by
  unfold Builtin.Dict.pairItems
  refine wpAny_bind (wpAny_typeOf (T := "tuple") ⟨_, ha, hc⟩ ?_)
  exact wpAny_bind (wpAny_seqItems ha hd (wpAny_pure h))
variable {R : Result → Shared → Prop}
theorem upd_loop (hh : A.handled = none) {d I ax : Addr} {n : Nat} (hnd : n ≤ d) (hnI : n ≤ I) {vs : List Value} {l : List (Str × Bool)} (hdI : d ≠ I) (hda : d ≠ ax) (hIa : ax ≠ I) (hle : l.length ≤ 1000) (hvl : vs.length = l.length) :
    ∀ (k i : Nat) (s : Shared) (kvs : List (Str × Value)), l.length - i = k → i ≤ l.length → kvs.length ≤ i → s.heap.IsListIter I ax i → s.heap.IsList ax vs.toArray → PairsAt s.heap n vs l → s.heap.DictOf (strKind prog w) d kvs →
    (∀ h' tk, h'.DictOf (strKind prog w) d ((l.drop i).foldl store1 kvs) → (∀ b o, b ≠ d → b ≠ I → s.heap.get? b = some o → h'.get? b = some o) → R (.ok (.ret .none)) { s with heap := h', toks := tk }) →
    codeAny (model prog w) A (.builtin "dict.update.loop" ⟨[.ref d, .ref I, rawInt i, .none], []⟩) R s := by
  have W := Walks.list (prog := prog) (w := w) (A := A.in1) hh I ax hIa vs.toArray
  have hsz : vs.toArray.size = l.length := by rw [List.size_toArray, hvl]
  rw [hsz] at W
  intro k
  induction k with
  | zero =>
    intro i s kvs hk hi hki hst hL hP hd hR
    have hin : i = l.length := by omega
    refine codeAny_builtin entry_upd ?_
    rw [Around.under_plainId plain_upd _]
    show wpAny _ A.in1 (pyNext (.ref I) >>= _) _ _ s
    refine wpAny_bind (W.done s _ _ (hin ▸ ⟨hst, hL⟩) fun h' tk hm => ?_)
    refine wpAny_bind (wpAny_pure (wpAny_pure (hR h' tk ?_ fun b o _ hb e => hm b o (by simpa using hb) e)))
    have e : l.drop i = [] := List.drop_eq_nil_of_le (Nat.le_of_eq hin.symm)
    rw [e]
    obtain ⟨o, es, ep, ho, r⟩ := hd
    exact ⟨o, es, ep, hm d o (by simpa using hdI) ho, r⟩
  | succ k ih =>
    intro i s kvs hk hi hki hst hL hP hd hR
    have hlt : i < l.length := by omega
    refine codeAny_builtin entry_upd ?_
    rw [Around.under_plainId plain_upd _]
    show wpAny _ A.in1 (pyNext (.ref I) >>= _) _ _ s
    refine wpAny_bind (W.item i s _ _ hlt ⟨hst, hL⟩ fun v h' tk hPv hst' hm => ?_)
    obtain ⟨a, o, k9, kk, t, b, rfl, h1, h2, h3, h4, hl9⟩ := hP.get (by simpa using hPv)
    have ha := hm a o (by simpa using Nat.ne_of_lt (Nat.lt_of_lt_of_le h4 hnI)) h1
    have hk1 : ∀ (b : Addr) (o : Obj), b ≠ d → b ≠ I → s.heap.get? b = some o → h'.get? b = some o := fun b o _ hb e => hm b o (by simpa using hb) e
    have e1 : l.drop i = (kk, b) :: l.drop (i + 1) := by
      obtain ⟨hlt, hge⟩ := List.getElem?_eq_some_iff.mp hl9
      rw [List.drop_eq_getElem_cons hlt, hge]
    refine wpAny_bind (wpAny_holding (wpAny_bind (wpAny_tryCatch (pairItems_tuple ha h2 h3 ?_))))
    show wpAny _ _ (holding [_, _] (dictSet d (.str kk t) (.bool b))) _ _ _
    have hd' : Heap.DictOf (PySem.strKind prog w) h' d kvs := by
      obtain ⟨o, es, ep, ho, r⟩ := hd
      exact ⟨o, es, ep, hm d o (by simpa using hdI) ho, r⟩
    refine wpAny_holding (wpAny_dictSet_pairs (k := kk) ?key hd' (fun h9 hd9 hs9 => ?_) ?sz)
    case key => exact strKind_is prog w kk t
    case sz => rw [sizeLine_eq]; omega
    have hk2 : ∀ (b : Addr) (o : Obj), b ≠ d → b ≠ I → s.heap.get? b = some o → h9.get? b = some o := fun b o hb1 hb2 e => (hs9.2 b hb1).trans (hk1 b o hb1 hb2 e)
    refine wpAny_pure ⟨plainId_quiet plain_upd _, ?_⟩
    refine ih (i + 1) _ _ (by omega) (by omega) ?_ ?_ ?_ (hP.keep fun b o hb => hk2 b o (Nat.ne_of_lt (Nat.lt_of_lt_of_le hb hnd)) (Nat.ne_of_lt (Nat.lt_of_lt_of_le hb hnI))) hd9 fun h7 tk7 hd7 hk7 => ?_
    · have := stored_length_le kvs kk (.bool b); omega
    · exact hst'.1.at fun o e => (hs9.2 I (Ne.symm hdI)).trans e
    · exact hst'.2.at fun o e => (hs9.2 ax (Ne.symm hda)).trans e
    · refine hR _ _ (by rw [e1]; exact hd7) fun b o hb1 hb2 e => hk7 b o hb1 hb2 (hk2 b o hb1 hb2 e)

theorem call_dict_list {a : Addr} {xs : List Value} {k9 : Nat} {l : List (Str × Bool)} {Q : Value → Shared → Prop} (ho : s.heap.get? a = some (listOf xs.toArray k9)) (hP : PairsAt s.heap s.heap.objs.size xs l) (hle : l.length ≤ 1000)
    (hA : A.handled = none)
    (h : ∀ h' tk, h'.DictOf (PySem.strKind prog w) s.heap.objs.size (l.foldl store1 []) → (∀ b o, s.heap.get? b = some o → h'.get? b = some o) → Q (.ref s.heap.objs.size) { s with heap := h', toks := tk }) :
    wpAny (model prog w) A (call (.type "dict") [.ref a]) Q E s := by
  refine callType_codes (Q₁ := fun obj s₁ => obj = .ref s.heap.objs.size ∧ s₁ = { s with heap := s.heap.push { cls := .type "dict", data := .dict #[] } }) PySem.F.kt_called_dict (PySem.F.kt_typeCall_dict_1 _) PySem.F.entry_dict_init (kt_code_dict_new _ ⟨rfl, rfl⟩) ?_
  rintro obj s₁ ⟨rfl, rfl⟩
  have hnew : (s.heap.push { cls := .type "dict", data := .dict #[] }).DictOf (PySem.strKind prog w) s.heap.objs.size [] := Heap.DictOf.new s.heap
  have hk1 : ∀ b o, s.heap.get? b = some o → (s.heap.push { cls := .type "dict", data := .dict #[] }).get? b = some o := fun b o e => (Heap.get?_push_ne _ _ _ (Nat.ne_of_lt (Heap.lt_size e))).trans e
  have ho1 := hk1 _ _ ho
  refine ⟨hnew.typeIs, PySem.F.args_dict_init_2 _ _, ?_⟩
  unfold Builtin.«dict.__init__»
  refine wpAny_bind ?_
  unfold Builtin.Dict.selfAndRest
  refine wpAny_bind (wpAny_notOrdered_dict hnew.typeIs ?_)
  show wpAny _ _ (pure (s.heap.objs.size, [Value.ref a])) _ _ _
  refine wpAny_pure ?_
  show wpAny _ _ (Builtin.Dict.updateFrom "dict.__init__" s.heap.objs.size (.ref a) [] .none) _ _ _
  unfold Builtin.Dict.updateFrom
  refine wpAny_bind (wpAny_typeOf (T := "list") ⟨_, ho1, rfl⟩ ?_)
  rw [if_pos (by decide)]
  refine wpAny_bind (getAttrQ_keys ho1 rfl rfl rfl hA fun h2 tk2 hk2 => ?_)
  have ha2 := hk2 _ _ ho1
  have hn2 : h2.DictOf (PySem.strKind prog w) s.heap.objs.size [] := by
    obtain ⟨o, es, ep, ho, r⟩ := hnew
    exact ⟨o, es, ep, hk2 _ _ ho, r⟩
  have hlt : s.heap.objs.size < h2.objs.size := by
    obtain ⟨o, es, ep, ho, r⟩ := hn2
    exact Heap.lt_size ho
  have hal : a < s.heap.objs.size := Heap.lt_size ho
  have hL2 : h2.IsList a xs.toArray := ⟨_, ha2, rfl, k9, rfl⟩
  show wpAny _ _ (rule _ >>= fun _ => pyIter (Value.ref a) >>= fun it => again _) _ _ _
  refine wpAny_bind (wpAny_rule (wpAny_bind (wpAny_pyIter_list hL2 ?_)))
  refine wpAny_pure ⟨plainId_quiet plain_upd _, ?_⟩
  have hk3 : ∀ b o, h2.get? b = some o → (h2.push { cls := .type "list_iterator", data := .fields #[.ref a, .int 0 0] }).get? b = some o := fun b o e => (Heap.get?_push_ne _ _ _ (Nat.ne_of_lt (Heap.lt_size e))).trans e
  refine upd_loop (A := A.in1) hA (n := s.heap.objs.size) (Nat.le_refl _) (Nat.le_of_lt hlt) (Nat.ne_of_lt hlt) (Nat.ne_of_gt hal) (Nat.ne_of_lt (Nat.lt_trans hal hlt)) hle hP.length l.length 0 _ [] rfl (Nat.zero_le _) (Nat.zero_le _) ⟨_, Heap.get?_push_size _ rfl, rfl, rfl⟩ (hL2.at fun o e => hk3 _ _ e) (hP.keep fun b o _ e => hk3 _ _ (hk2 _ _ (hk1 _ _ e))) ?_ fun h5 tk5 hd5 hk5 => ?_
  · obtain ⟨o, es, ep, ho, r⟩ := hn2
    exact ⟨o, es, ep, hk3 _ _ ho, r⟩
  · refine ⟨rfl, h _ _ hd5 fun b o e => hk5 b o (Nat.ne_of_lt (Heap.lt_size e)) (Nat.ne_of_lt (Nat.lt_trans (Heap.lt_size e) hlt)) (hk3 _ _ (hk2 _ _ (hk1 _ _ e)))⟩
end
end Mine
namespace Mine
open PySem PySem.W PyProof.Rows PySem.Calls PySem.Spec PyProof.V PyProof.Rows.LCg
section
variable {prog : Program} {w : World} {A : Around} {E : Value → Shared → Prop} {s : Shared} {env : Env}
/-- the tuple that one turn makes -/
abbrev duo (x : Value) (b : Bool) : Obj := { cls := .type "tuple", data := .seq #[x, .bool b] }
/-- what the turns so far have made -/
def DuosAt (h : Heap) (f : Nat → Bool) (items : Array Value) (n : Nat) (ys : List Value) : Prop :=
  ∀ j y, ys[j]? = some y → ∃ T x, y = .ref T ∧ items[j]? = some x ∧ h.get? T = some (duo x (f j)) ∧ n ≤ T
theorem DuosAt.keep {h h' : Heap} {f : Nat → Bool} {items : Array Value} {n : Nat} {ys : List Value} (d : DuosAt h f items n ys) (hk : ∀ T x b, n ≤ T → h.get? T = some (duo x b) → h'.get? T = some (duo x b)) : DuosAt h' f items n ys := fun j y e =>
  let ⟨T, x, e1, e2, e3, e4⟩ := d j y e
  ⟨T, x, e1, e2, hk T x _ e4 e3, e4⟩
theorem DuosAt.snoc {h : Heap} {f : Nat → Bool} {items : Array Value} {n T : Nat} {ys : List Value} {x : Value} (d : DuosAt h f items n ys) (hx : items[ys.length]? = some x) (hT : h.get? T = some (duo x (f ys.length))) (hn : n ≤ T) : DuosAt h f items n (ys ++ [.ref T]) := fun j y e => by
  rcases Nat.lt_trichotomy j ys.length with hj | hj | hj
  · exact d j y (by rwa [List.getElem?_append_left hj] at e)
  · subst hj
    rw [List.getElem?_append_right (Nat.le_refl _), Nat.sub_self] at e
    have e' : Value.ref T = y := by simpa using e
    exact ⟨T, x, e'.symm, hx, hT, hn⟩
  · rw [List.getElem?_eq_none (by rw [List.length_append]; simp; omega)] at e
    cases e

theorem enum_block {elt iter : PySem.Expr} {a b : Str} {pa pb tp : Pos} {kk : Nat} {scope : Scope} {cl : List (Str × Addr)} {pos : Pos} {s₂ : Shared} {e it l : Addr} {items : Array Value} {f : Nat → Bool} {old₀ : Value}
    {RR : Value → Addr → Result → Shared → Prop}
    (hh : A.handled = none) (hei : e ≠ it) (hle : l ≠ e) (hli : l ≠ it) (hsz : items.size ≤ 1000)
    (hE : IsEnum s₂.heap e it 0 old₀) (hI : s₂.heap.IsListIter it l 0) (hL : s₂.heap.IsList l items)
    (hcell : ∀ y ∈ scope.names, y.2 ≠ .cell) (hkind : scope.kind = .function) (hxa : scope.names.lookup a = some .local) (hxb : scope.names.lookup b = some .local) (hab : ¬ a = b)
    (turn : ∀ (i : Nat) (x : Value) (t : Tok) (C : Addr) (m₂ : Str → Option Value) (h : Heap) (tk : Nat) (E' : Value → Shared → Prop) (Q' : Value → Shared → Prop), items[i]? = some x → h.Ns C m₂ → m₂ a = some (.int (i : Int) t) → m₂ b = some x →
      (∀ c o, c ≠ e → c ≠ it → s₂.heap.get? c = some o → h.get? c = some o) →
      (∀ tk', Q' (.ref h.objs.size) { s₂ with heap := h.push (duo x (f i)), toks := tk' }) →
      wpAny (model prog w) A (eval elt (compEnvC scope cl C env)) Q' E' { s₂ with heap := h, toks := tk })
    (hRR : ∀ D C h tk m' ys, s₂.heap.objs.size ≤ D → s₂.heap.objs.size ≤ C → C ≠ D → h.Ns C m' → h.get? D = some (lst ys) → ys.length = items.size → DuosAt h f items s₂.heap.objs.size ys →
      (∀ c o, c ≠ e → c ≠ it → s₂.heap.get? c = some o → h.get? c = some o) → RR (.ref D) C (.ok .next) { s₂ with heap := h, toks := tk }) :
    wpAny (model prog w) A (newList []) (fun acc s₃ => wpAny (model prog w) A (newFunctionEnv scope env.globals cl [] env.qual none .none (some env)) (fun cenv s₄ =>
      codeAny (model prog w) A (.compStart (.ListComp elt [⟨.Tuple [.Name a pa, .Name b pb] kk tp, iter, [], 0⟩] scope pos) 0 (.ref e) acc { cenv with scope := relabel scope env }) (RR acc cenv.locals) s₄) E s₃) E s₂ := by
  refine wpAny_newObj_type (wpAny_newFunctionEnv hcell (by intro y hy; simp at hy) (fun h₁ hns₁ hsb₁ => ?_) hkind)
  dsimp only at hns₁ hsb₁ ⊢
  generalize hH2 : s₂.heap.push { cls := .type "list", dict := none, data := .seq ([] : List Value).toArray } = H2 at hns₁ hsb₁ ⊢
  have hC : H2.objs.size = s₂.heap.objs.size + 1 := by rw [← hH2, Heap.size_push]
  have hDC : s₂.heap.objs.size ≠ H2.objs.size := by rw [hC]; exact Nat.ne_of_lt (Nat.lt_succ_self _)
  have below : ∀ b, b < s₂.heap.objs.size → b ≠ H2.objs.size ∧ b ≠ s₂.heap.objs.size := fun b hb => ⟨by rw [hC]; exact Nat.ne_of_lt (Nat.lt_succ_of_lt hb), Nat.ne_of_lt hb⟩
  have helt : e < s₂.heap.objs.size := Heap.lt_size hE
  have hilt : it < s₂.heap.objs.size := by obtain ⟨_, x, _⟩ := hI; exact Heap.lt_size x
  have hllt : l < s₂.heap.objs.size := by obtain ⟨_, x, _⟩ := hL; exact Heap.lt_size x
  have old : ∀ b o, s₂.heap.get? b = some o → h₁.get? b = some o := fun b o e => hsb₁.extBut b o (below b (Heap.lt_size e)).1 (Heap.get?_push_of_some _ (hH2 ▸ Heap.get?_push_of_some _ e))
  have hacc : h₁.get? s₂.heap.objs.size = some (lst []) := hsb₁.extBut _ _ hDC (Heap.get?_push_of_some _ (hH2 ▸ Heap.get?_push_size _ rfl))
  have W := KTurns.ofWalksU (elts := [.Name a pa, .Name b pb]) (k := kk) (pos := tp) (WalksT.enumerate (prog := prog) (w := w) hh e it l hei hle hli items).toU
  have hDe : s₂.heap.objs.size ≠ e := Nat.ne_of_gt helt
  have hDi : s₂.heap.objs.size ≠ it := Nat.ne_of_gt hilt
  have hDl : s₂.heap.objs.size ≠ l := Nat.ne_of_gt hllt
  have hCe : H2.objs.size ≠ e := Ne.symm (below e helt).1
  have hCi : H2.objs.size ≠ it := Ne.symm (below it hilt).1
  have hCl : H2.objs.size ≠ l := Ne.symm (below l hllt).1
  have loop : ∀ s₃ : Shared, s₃ = { s₂ with heap := h₁, toks := s₂.toks + ([] : List (Str × Value)).length } →
      codeAny (model prog w) A (.compLoop (.ListComp elt [⟨.Tuple [.Name a pa, .Name b pb] kk tp, iter, [], 0⟩] scope pos) 0 (.ref e) (.ref s₂.heap.objs.size) (compEnvC scope cl H2.objs.size env))
        (RR (.ref s₂.heap.objs.size) H2.objs.size) s₃ := by
    rintro s₃ rfl
    refine kcp_loop
      (fun k s' => ∃ h' tk i ys m', s' = { s₂ with heap := h', toks := tk } ∧ i ≤ items.size ∧ k = items.size + 1 - i ∧ ys.length = i ∧ ((∃ old, IsEnum h' e it i old) ∧ h'.IsListIter it l i ∧ h'.IsList l items) ∧ h'.Ns H2.objs.size m' ∧
        h'.get? s₂.heap.objs.size = some (lst ys) ∧ DuosAt h' f items s₂.heap.objs.size ys ∧ (∀ c o, c ≠ e → c ≠ it → s₂.heap.get? c = some o → h'.get? c = some o)) ?_ (items.size + 1)
      ⟨h₁, _, 0, [], _, rfl, Nat.zero_le _, rfl, rfl, ⟨⟨_, old _ _ hE⟩, hI.at fun o x => old _ _ x, hL.at fun o x => old _ _ x⟩, hns₁, hacc, (fun j y e => by simp at e), fun c o _ _ e => old c o e⟩
    rintro k s' ⟨h', tk, i, ys, m', rfl, hi, rfl, hyl, hst, hn', hacc', hd', hk'⟩
    by_cases hlt : i < items.size
    · refine W.item i _ _ _ hlt hst fun v h₂ tk₂ hMd hk₂ => ?_
      refine W.go i v _ _ _ hMd fun h₃ hP hst₃ hk₃ => ?_
      obtain ⟨T, vals, rfl, ⟨t, x, hx, rfl⟩, hT⟩ := hP
      have up₃ : ∀ c o, c ≠ e → c ≠ it → h'.get? c = some o → h₃.get? c = some o := fun c o h1 h2 y => hk₃ c o (by simp [h1, h2]) (hk₂ c o (by simp [h1, h2]) y)
      refine kcp_assign (env := compEnvC scope cl H2.objs.size env) hh hT (lookup_relabel_local hxa) (lookup_relabel_local hxb) (by simp [compEnvC, relabel, hkind]) (hn'.at' fun o y => up₃ _ o hCe hCi y) fun h₄ tk₄ hn₄ hs₄ => ?_
      have up : ∀ c o, c ≠ e → c ≠ it → c ≠ H2.objs.size → h'.get? c = some o → h₄.get? c = some o := fun c o h1 h2 h3 y => hs₄ c o h3 (up₃ c o h1 h2 y)
      have hDlt : s₂.heap.objs.size < h₄.objs.size := Heap.lt_size (up _ _ hDe hDi hDC hacc')
      refine turn i x t H2.objs.size _ h₄ _ _ _ hx hn₄ (by simp [hab]) (by simp) (fun c o h1 h2 y => up c o h1 h2 (below c (Heap.lt_size y)).1 (hk' c o h1 h2 y)) fun tk₅ => ?_
      have up₅ : ∀ c o, h₄.get? c = some o → (h₄.push (duo x (f i))).get? c = some o := fun c o y => Heap.get?_push_of_some _ y
      refine append_at (hsz := by show ys.toArray.size ≤ sizeLine; rw [List.size_toArray, hyl, sizeLine_eq]; omega) (up₅ _ _ (up _ _ hDe hDi hDC hacc')) fun h₆ hs₆ hD₆ => ?_
      obtain ⟨⟨old₃, he₃⟩, hi₃, hl₃⟩ := hst₃
      have hit₄ : h₄.IsListIter it l (i + 1) := hi₃.at fun o y => hs₄ _ _ (Ne.symm hCi) y
      have hl₄ : h₄.IsList l items := hl₃.at fun o y => hs₄ _ _ (Ne.symm hCl) y
      have s6 : ∀ c o, c ≠ s₂.heap.objs.size → h₄.get? c = some o → h₆.get? c = some o := fun c o hc y => hs₆.extBut c o hc (up₅ c o y)
      have hnew : (h₄.push (duo x (f i))).get? h₄.objs.size = some (duo x (f i)) := Heap.get?_push_size _ rfl
      have hd6 : DuosAt h₆ f items s₂.heap.objs.size ys := hd'.keep fun T x b hT y => by
        have h1 : T ≠ e := Nat.ne_of_gt (Nat.lt_of_lt_of_le helt hT)
        have h2 : T ≠ it := Nat.ne_of_gt (Nat.lt_of_lt_of_le hilt hT)
        have h3 : T ≠ H2.objs.size := fun q => by
          obtain ⟨oC, es, ep, hg, hdt, _⟩ := hn'
          rw [← q, y] at hg
          rw [← Option.some.inj hg] at hdt
          cases hdt
        have h4 : T ≠ s₂.heap.objs.size := fun q => by
          rw [q, hacc'] at y
          have e2 := congrArg Obj.cls (Option.some.inj y)
          simp at e2
        exact s6 _ _ h4 (up _ _ h1 h2 h3 y)
      refine ⟨items.size + 1 - (i + 1), by omega, h₆, tk₅, i + 1, ys ++ [.ref h₄.objs.size], _, rfl, hlt, rfl, by rw [List.length_append, List.length_singleton, hyl], ⟨⟨_, s6 _ _ (Ne.symm hDe) (hs₄ _ _ (Ne.symm hCe) he₃)⟩, hit₄.at fun o y => s6 _ _ (Ne.symm hDi) y, hl₄.at fun o y => s6 _ _ (Ne.symm hDl) y⟩,
        (hn₄.at' fun o y => s6 _ _ (Ne.symm hDC) y), hD₆.trans (congrArg some (lst_snoc ys _)), ?_, fun c o h1 h2 y => s6 _ _ (below c (Heap.lt_size y)).2 (up c o h1 h2 (below c (Heap.lt_size y)).1 (hk' c o h1 h2 y))⟩
      exact hd6.snoc (x := x) (by rw [hyl]; exact hx) (by rw [hyl]; exact hs₆.extBut _ _ (Nat.ne_of_gt hDlt) hnew) (Nat.le_of_lt hDlt)
    · have hin : i = items.size := Nat.le_antisymm hi (Nat.not_lt.mp hlt)
      subst hin
      refine W.done _ _ _ hst fun h₂ tk₂ hk₂ => ?_
      have up : ∀ c o, c ≠ e → c ≠ it → h'.get? c = some o → h₂.get? c = some o := fun c o h1 h2 y => hk₂ c o (by simp [h1, h2]) y
      refine hRR _ _ h₂ tk₂ _ ys (Nat.le_refl _) (by rw [hC]; exact Nat.le_succ _) (Ne.symm hDC) (hn'.at' fun o y => up _ o hCe hCi y) (up _ _ hDe hDi hacc') hyl (hd'.keep fun T x b hT y => up _ _ (Nat.ne_of_gt (Nat.lt_of_lt_of_le helt hT)) (Nat.ne_of_gt (Nat.lt_of_lt_of_le hilt hT)) y) fun c o h1 h2 y => up c o h1 h2 (hk' c o h1 h2 y)
  exact codeAny_compStart_list (loop _ rfl) (wpAny_pyIter_enum (old _ _ hE) (loop _ rfl))

theorem ListComp_enum {elt iter : PySem.Expr} {a b : Str} {pa pb tp : Pos} {kk : Nat} {scope : Scope} {cl : List (Str × Addr)} {pos : Pos} {Q : Value → Shared → Prop}
    (hclos : closureFor scope env = pure cl) (hcell : ∀ y ∈ scope.names, y.2 ≠ .cell) (hkind : scope.kind = .function)
    (hnames : ∀ y ∈ scope.names, y.2 = .local → scope.names.lookup y.1 = some .local) (hxa : scope.names.lookup a = some .local) (hxb : scope.names.lookup b = some .local) (hab : ¬ a = b)
    (h : wpAny (model prog w) A (eval iter env) (fun xv s₁ => ∃ (e it l : Addr) (items : Array Value) (f : Nat → Bool) (old₀ : Value), xv = .ref e ∧ A.handled = none ∧ e ≠ it ∧ l ≠ e ∧ l ≠ it ∧ items.size ≤ 1000 ∧ IsEnum s₁.heap e it 0 old₀ ∧ s₁.heap.IsListIter it l 0 ∧ s₁.heap.IsList l items ∧
      (∀ (i : Nat) (x : Value) (t : Tok) (C : Addr) (m₂ : Str → Option Value) (h : Heap) (tk : Nat) (E' : Value → Shared → Prop) (Q' : Value → Shared → Prop), items[i]? = some x → h.Ns C m₂ → m₂ a = some (.int (i : Int) t) → m₂ b = some x →
        (∀ c o, c ≠ e → c ≠ it → s₁.heap.get? c = some o → h.get? c = some o) →
        (∀ tk', Q' (.ref h.objs.size) { s₁ with heap := h.push (duo x (f i)), toks := tk' }) →
        wpAny (model prog w) A (eval elt (compEnvC scope cl C env)) Q' E' { s₁ with heap := h, toks := tk }) ∧
      (∀ D h tk ys, s₁.heap.objs.size ≤ D → h.get? D = some (lst ys) → ys.length = items.size → DuosAt h f items s₁.heap.objs.size ys →
        (∀ c o, c ≠ e → c ≠ it → s₁.heap.get? c = some o → h.get? c = some o) → Q (.ref D) { s₁ with heap := h, toks := tk })) E s)
    (hs : ∀ x, foldedSetIterable iter env x = pure x := by intro _; rfl) :
    wpAny (model prog w) A (eval (.ListComp elt [⟨.Tuple [.Name a pa, .Name b pb] kk tp, iter, [], 0⟩] scope pos) env) Q E s := by
  rw [eval_ListComp]
  refine wpAny_comprehension_free (use := none) rfl hs hclos hkind hnames (wpAny_mono h (fun xv s₁ h₁ => ?_) fun _ _ e => e)
  obtain ⟨e, it, l, items, f, old₀, rfl, hh, hei, hle, hli, hsz, hE, hI, hL, turn, fin⟩ := h₁
  refine wpAny_pyIter_enum hE ?_
  refine enum_block hh hei hle hli hsz hE hI hL hcell hkind hxa hxb hab turn ?_
  intro D C h tk m' ys hD hC hCD hn hl hlen hd hk
  have helt : e < s₁.heap.objs.size := Heap.lt_size hE
  refine ⟨m', hn, fun h'' hs'' => fin D h'' tk ys hD (hs''.extBut _ _ (Ne.symm hCD) hl) hlen (hd.keep fun T x b hT y => hs''.extBut _ _ (fun q => ?_) y) fun c o h1 h2 y => hs''.extBut _ _ (Nat.ne_of_lt (Nat.lt_of_lt_of_le (Heap.lt_size y) hC)) (hk c o h1 h2 y)⟩
  obtain ⟨oC, es, ep, hg, hdt, _⟩ := hn
  rw [← q, y] at hg
  rw [← Option.some.inj hg] at hdt
  cases hdt
end
end Mine
namespace Mine
open PySem PySem.W PyProof.Rows PySem.Calls PySem.Spec PyProof.V
section
variable {prog : Program} {w : World} {A : Around} {E : Value → Shared → Prop} {s : Shared} {env : Env} {h₀ : Heap} {body : List Stmt} {Q : Flow → Shared → Prop}
abbrev rangeItms (i k : Nat) : List Itm := (List.range' i k).map fun j => Itm.tok fun t => Value.int (j : Nat) t
theorem iter_rangeTurns {x : Str} {px : Pos} {r : Addr} {n : Nat} {t₀ u₀ v₀ : Tok} {m₀ : Str → Option Value} {news : List (Addr × Obj)}
    (hh : A.handled = none) (hr : IsRange s.heap r 0 (n : Int) 1 t₀ u₀ v₀) (hsmall : Builtin.Range.small 0 (n : Int) 1 = true) (hn : Builtin.Range.rangeSize 0 (n : Int) 1 = (n : Int)) (F : Fr h₀ env.locals s.heap m₀) (N : News h₀ env.locals s.heap news)
    (rest₀ : ∀ I : Addr, (∀ p ∈ news, p.1 < I) → ItemsRest prog w A E h₀ env (.Name x px) body Q s [(I, "range_iterator")] [] (rangeItms 0 n) m₀ news) :
    wpAny (model prog w) A (pyIter (.ref r)) (fun it s₂ => TurnsAt prog w A h₀ env (.Name x px) body Q E it s₂) E s := by
  refine wpAny_pyIter_range hr hsmall ?_
  have W : Walks prog w A s.heap.objs.size [s.heap.objs.size] [s.heap.objs.size] n (fun i v => i < n ∧ ∃ t, v = .int (0 + i * 1) t)
      (fun i h => IsRangeIter h s.heap.objs.size (0 + (i : Nat) * 1) ((n : Int) - (i : Nat)) 1) := (Walks.range hh _ 0 1 n).bound
  refine ktu_core (tk0 := s.toks) (keep := []) (KTurns.ofWalks W fun i v s Q E st q => wpAny_pure q) (by simp [rangeItms]) (fun i v h hp => ?_) (fun i h st => ?_) (fun b hb => ?_) (fun b hb => by simpa using hb) (fun b hb => ?_) ?_ (fun p hp hI => ?_) ?_ (F.push _) (fun p hp => ⟨Heap.get?_push_of_some _ (N p hp).1, (N p hp).2⟩) trivial (rest₀ _ fun p hp => Heap.lt_size (N p hp).1)
  · obtain ⟨hi, t, rfl⟩ := hp
    refine ⟨.tok fun t => .int (i : Nat) t, ?_, t, ?_⟩
    · simp [rangeItms, hi]
    · show Value.int (0 + (i : Int) * 1) t = Value.int (i : Int) t; rw [Int.mul_one, Int.zero_add]
  · exact ⟨[(s.heap.objs.size, krsIt _ _ _)], ⟨⟨rfl, rfl⟩, trivial⟩, fun p hp => by rw [List.mem_singleton.mp hp]; exact st⟩
  · have hb' : b = s.heap.objs.size := by simpa using hb
    rw [hb']
    exact ⟨List.mem_cons_self .., next_is_new F⟩
  · exact .inl (by simpa using hb)
  · intro hI
    exact absurd F.ns.lt ((List.mem_singleton.mp hI) ▸ Nat.lt_irrefl _)
  · exact absurd (Heap.lt_size (N p hp).1) ((List.mem_singleton.mp hI) ▸ Nat.lt_irrefl _)
  · show IsRangeIter _ _ _ _ _
    rw [hn]
    simpa using Heap.get?_push_size _ rfl
end
end Mine
namespace Mine
open PySem PySem.W PyProof.Rows PySem.Calls PySem.Spec PyProof.V PyProof.Rows.LCg
theorem fold_store : ∀ (l : List (Str × Bool)) (kvs : List (Str × Value)), (∀ p ∈ l, ∀ q ∈ kvs, q.1 ≠ p.1) → (l.map (·.1)).Nodup → l.foldl store1 kvs = kvs ++ l.map fun p => (p.1, Value.bool p.2)
  | [], kvs, _, _ => by simp
  | p :: l, kvs, h, hn => by
    have hn' := List.nodup_cons.mp hn
    have e : store1 kvs p = kvs ++ [(p.1, Value.bool p.2)] := by
      unfold store1 stored
      rw [if_neg]
      simp only [List.any_eq_true, decide_eq_true_eq, not_exists, not_and]
      exact fun q hq => h p (List.mem_cons_self ..) q hq
    rw [List.foldl_cons, e, fold_store l _ _ hn'.2, List.append_assoc]
    · rfl
    · intro q hq r hr
      rcases List.mem_append.mp hr with hr | hr
      · exact h q (List.mem_cons_of_mem _ hq) r hr
      · rw [List.mem_singleton.mp hr]
        intro e
        exact hn'.1 (by show p.1 ∈ _; rw [e]; exact List.mem_map_of_mem hq)
theorem flat_map (f : Str → Bool) : ∀ l : List Str, FlatPairs PyData.str ((l.map fun m => (m, f m)).map fun p => (p.1, Value.bool p.2)) (l.map fun m => (PyData.str m, PyData.bool (f m)))
  | [] => .nil
  | m :: l => .cons (fun h => by first | exact .bool _ | constructor) (flat_map f l)
theorem marks_nodup : marks.Nodup := by decide +kernel
theorem marks_fst (f : Str → Bool) : ((marks.map fun m => (m, f m)).map (·.1)).Nodup := by
  rw [List.map_map]
  exact (List.map_id marks).symm ▸ marks_nodup
section
variable {prog : Program} {w : World} {A : Around} {E : Value → Shared → Prop} {s : Shared} {h₀ : Heap} {L : Addr} {m : Str → Option Value} {news : List (Addr × Obj)}
theorem dict_facts {f : Str → Bool} {a : Addr} {xs : List Value} {k9 : Nat} {Q : Value → Shared → Prop} (F : Fr h₀ L s.heap m) (N : News h₀ L s.heap news) (hbig : sysModules < h₀.objs.size) (ho : s.heap.get? a = some (listOf xs.toArray k9)) (hP : PairsAt s.heap s.heap.objs.size xs (marks.map fun m => (m, f m))) (hA : A.handled = none)
    (h : ∀ h' tk fo, Fr h₀ L h' m → News h₀ L h' ((s.heap.objs.size, fo) :: news) → IsFacts prog w f s.heap.objs.size fo → (∀ p ∈ news, p.1 < s.heap.objs.size) → Q (.ref s.heap.objs.size) { s with heap := h', toks := tk }) :
    wpAny (model prog w) A (call (.type "dict") [.ref a]) Q E s := by
  refine call_dict_list ho hP (by rw [List.length_map]; decide) hA fun h' tk hd hk => ?_
  have e : (marks.map fun m => (m, f m)).foldl store1 [] = (marks.map fun m => (m, f m)).map fun p => (p.1, Value.bool p.2) := by
    rw [fold_store _ [] (fun p _ q hq => nomatch hq) (marks_fst f), List.nil_append]
  rw [e] at hd
  obtain ⟨fo, hfo, hdo⟩ := Heap.dictOf_iff.mp hd
  refine h h' tk fo (F.keeps hk) (fun p hp => ?_) ⟨F.notModules hbig, _, hdo, flat_map f marks⟩ fun p hp => Heap.lt_size (N p hp).1
  rcases List.mem_cons.mp hp with rfl | hp
  · exact ⟨hfo, Nat.ne_of_gt F.ns.lt, F.fresh⟩
  · exact ⟨hk _ _ (N p hp).1, (N p hp).2⟩
end
theorem PairsAt.of_get {h : Heap} {n : Nat} : ∀ (vs : List Value) (l : List (Str × Bool)), vs.length = l.length → (∀ (j : Nat) (v : Value) (p : Str × Bool), vs[j]? = some v → l[j]? = some p → ∃ a t, v = .ref a ∧ h.get? a = some (duo (.str p.1 t) p.2) ∧ a < n) → PairsAt h n vs l
  | [], [], _, _ => .nil
  | [], _ :: _, h, _ => by simp at h
  | _ :: _, [], h, _ => by simp at h
  | v :: vs, p :: l, hlen, hg => by
    obtain ⟨a, t, rfl, h1, h2⟩ := hg 0 v p rfl rfl
    exact .cons h1 rfl rfl h2 (PairsAt.of_get vs l (by simpa using hlen) fun j v p e1 e2 => hg (j + 1) v p (by simpa using e1) (by simpa using e2))
def atMark (x : Str) : Nat := marks.findIdx (· == x)
theorem pairs_marks {h : Heap} {f : Nat → Bool} {items : Array Value} {n : Nat} {ys : List Value} (d : DuosAt h f items n ys) (hlen : ys.length = 10) (hi : ∀ (j : Nat) (x : Value), items[j]? = some x → ∃ t, marks[j]?.map (fun m => Value.str m t) = some x) : PairsAt h h.objs.size ys (marks.map fun m => (m, f (atMark m))) := by
  refine PairsAt.of_get _ _ (by rw [hlen, List.length_map]; rfl) fun j v p e1 e2 => ?_
  obtain ⟨T, x, rfl, hx, hT, _⟩ := d j v e1
  obtain ⟨t, ht⟩ := hi j x hx
  rw [List.getElem?_map] at e2
  cases hm : marks[j]? with
  | none => rw [hm] at e2; cases e2
  | some mk =>
    rw [hm] at e2 ht
    have e2' : (mk, f (atMark mk)) = p := Option.some.inj e2
    have ht' : Value.str mk t = x := Option.some.inj ht
    have key : ∀ j mk, marks[j]? = some mk → atMark mk = j := by
      intro j mk hj
      obtain ⟨hlt, hge⟩ := List.getElem?_eq_some_iff.mp hj
      have all : ∀ k : Fin 10, atMark (marks[k.val]'(k.isLt)) = k.val := by decide +kernel
      have := all ⟨j, hlt⟩
      rw [← hge]; exact this
    refine ⟨T, t, rfl, ?_, Heap.lt_size hT⟩
    rw [← e2', ht', hT, key j mk hm]
end Mine
namespace Mine
local macro_rules | `(tactic| walk_at "pad") => `(tactic| fail)
local macro_rules | `(tactic| walk_at "pad") => `(tactic| fail)
local macro_rules | `(tactic| walk_at "pad") => `(tactic| fail)
local macro_rules | `(tactic| walk_at "pad") => `(tactic| fail)
local macro_rules | `(tactic| walk_at "pad") => `(tactic| fail)
local macro_rules | `(tactic| walk_at "pad") => `(tactic| fail)
local macro_rules | `(tactic| walk_at "pad") => `(tactic| fail)
local macro_rules | `(tactic| walk_at "pad") => `(tactic| fail)
local macro_rules | `(tactic| walk_at "pad") => `(tactic| fail)
local macro_rules | `(tactic| walk_at "pad") => `(tactic| fail)
local macro_rules | `(tactic| walk_at "pad") => `(tactic| fail)
local macro_rules | `(tactic| walk_at "pad") => `(tactic| fail)
local macro_rules | `(tactic| walk_at "pad") => `(tactic| fail)
local macro_rules | `(tactic| walk_at "pad") => `(tactic| fail)
local macro_rules | `(tactic| walk_at "pad") => `(tactic| fail)
local macro_rules | `(tactic| walk_at "pad") => `(tactic| fail)
local macro_rules | `(tactic| walk_at "pad") => `(tactic| fail)
local macro_rules | `(tactic| walk_at "pad") => `(tactic| fail)
local macro_rules | `(tactic| walk_at "pad") => `(tactic| fail)
local macro_rules | `(tactic| walk_at "pad") => `(tactic| fail)
local macro_rules | `(tactic| walk_at "pad") => `(tactic| fail)
local macro_rules | `(tactic| walk_at "pad") => `(tactic| fail)
open PySem PySem.W PyProof.Rows PySem.Calls PySem.Spec PyProof.V
local macro_rules | `(tactic| k_room) => `(tactic| ktr_room)
local macro_rules | `(tactic| k_all) => `(tactic| assumption)
local macro_rules | `(tactic| k_units) => `(tactic| ktr_units)
local macro_rules | `(tactic| k_steps) => `(tactic| repeat' (first | (k_unfold; (try dsimp only)) | walk1 | (dsimp only; walk1) | (leave1; walk_say "STEP leave1"; try dsimp only) | fail "no step"))
local macro_rules | `(tactic| k_enter) => `(tactic| (refine' code_defC ?k1 ?k2 ?k3 ?k4 ?k5 ?kA ?kF ?kK ?k6 ?k7 ?k8 ?k9 ?kB ?kD ?_ ?c2 ?c3 ?c4; (case kA => exact rfl); (case kF => exact rfl); (case kK => first | exact rfl | assumption); (case k1 => k_asm); (case k2 => k_asm); (case k3 => k_asm); (case k4 => k_asm); (case k5 => k_asm); (case k6 => k_is); (case k7 => k_is); (case k8 => ktr_room); (case k9 => first | exact BindsTo.of_eq rfl | exact binds_K (by k_in) rfl (by k_is) rfl rfl rfl); (case kB => exact rfl); (case kD => decide +kernel); (case c2 => exact rfl); (case c3 => exact rfl); (case c4 => exact rfl); k_whole; intro g' L' h' tk' cells' FG' F' N' Y' B' X' T' l1; (try k_lt l1); k_cells Y'; (try simp only [List.cons_append, List.nil_append] at N'); (try dsimp only); (try k_lift B'); (try k_fold)))
theorem eq_nil {prog : Program} {w : World} {A : Around} {E : Value → Shared → Prop} {s : Shared} {a b : Addr} {Q : Value → Shared → Prop} (ha : s.heap.IsList a #[]) (hb : s.heap.IsList b #[]) (hu : A.units < cLine) (h : Q (.bool true) s) :
    wpAny (model prog w) A (compareOp .Eq (.ref a) (.ref b)) Q E s :=
  SeqAt.RcAt.lists (e := fun _ => true) ha hb rfl hu (fun j h1 => absurd h1 (Nat.not_lt_zero _)) prog w E Q h
theorem eq_not_nil {prog : Program} {w : World} {A : Around} {E : Value → Shared → Prop} {s : Shared} {a b : Addr} {v : Value} {vs : List Value} {Q : Value → Shared → Prop} (ha : s.heap.IsList a (v :: vs).toArray) (hb : s.heap.IsList b #[]) (hu : A.units < cLine) (h : Q (.bool false) s) :
    wpAny (model prog w) A (compareOp .Eq (.ref a) (.ref b)) Q E s :=
  SeqAt.RcAt.lists_lengths ha hb (by simp) hu prog w E Q h
local macro_rules | `(tactic| walk_at "compareOp Eq ref ref") => `(tactic| (k_here; k_dflt (first
  | refine eq_nil (News.isList (by k_asm) (by (repeat (first | assumption | exact List.mem_cons_self .. | refine List.mem_cons_of_mem _ ?_)))) (News.isList (by k_asm) (by (repeat (first | assumption | exact List.mem_cons_self .. | refine List.mem_cons_of_mem _ ?_)))) (by ktr_units) ?_
  | refine eq_not_nil (News.isList (by k_asm) (by (repeat (first | assumption | exact List.mem_cons_self .. | refine List.mem_cons_of_mem _ ?_)))) (News.isList (by k_asm) (by (repeat (first | assumption | exact List.mem_cons_self .. | refine List.mem_cons_of_mem _ ?_)))) (by ktr_units) ?_)))
set_option maxHeartbeats 4000000 in
theorem c_is0 {prog : Program} {w : World} {p : Program} {loose : List Str} {mean : ExcName → Option Value} {mg mb : Str → Option Value} (hp : prog = PySem.Challenge.rw_ad5043_01.prog)
    (news : List (Addr × Obj)) (ta td la : Addr) (path elem : Str) (t1 t2 t3 u1 u2 u3 tp te : Tok) (n : Nat) (hlp : path.length ≤ 100000) (hle : elem.length ≤ 100) (hne : ∀ p ∈ news, p.1 ≠ td) (hta : ta ≠ td) (hla : (la, listOf #[] n) ∈ news) :
    Ctr prog w p loose mean mg mb 1494 20 120 ((ta, instObj 1023 td) :: (td, toldD w.params path elem (Str.ofString "") t1 t2 t3 u1 u2 u3) :: news) [.ref ta, .str path tp, .str elem te, .ref la] (fun r news' => r = .bool true ∧ news' = ((ta, instObj 1023 td) :: (td, toldD w.params path elem (Str.ofString "") t1 t2 t3 u1 u2 u3) :: news)) := by
  revert hp
  unfold Ctr
  k_fill
  intro hp dp un gd cn cs a ccd cl outer A₀ base h₀ L m s Q E B F X N T hk hR hU hret
  refine wpAny_call ?_
  k_dflt k_enter
  k_steps
  all_goals first
    | (exfalso; simp at *; done)
    | (rw [beq_self_eq_true]; exact hret _ _ _ _ (by assumption) (cb_drop (by assumption) (fun q hq => List.mem_cons_of_mem _ (List.mem_cons_of_mem _ hq))) ⟨rfl, rfl⟩)
end Mine
namespace Mine
local macro_rules | `(tactic| walk_at "pad") => `(tactic| fail)
local macro_rules | `(tactic| walk_at "pad") => `(tactic| fail)
local macro_rules | `(tactic| walk_at "pad") => `(tactic| fail)
local macro_rules | `(tactic| walk_at "pad") => `(tactic| fail)
local macro_rules | `(tactic| walk_at "pad") => `(tactic| fail)
local macro_rules | `(tactic| walk_at "pad") => `(tactic| fail)
local macro_rules | `(tactic| walk_at "pad") => `(tactic| fail)
local macro_rules | `(tactic| walk_at "pad") => `(tactic| fail)
local macro_rules | `(tactic| walk_at "pad") => `(tactic| fail)
local macro_rules | `(tactic| walk_at "pad") => `(tactic| fail)
local macro_rules | `(tactic| walk_at "pad") => `(tactic| fail)
local macro_rules | `(tactic| walk_at "pad") => `(tactic| fail)
local macro_rules | `(tactic| walk_at "pad") => `(tactic| fail)
local macro_rules | `(tactic| walk_at "pad") => `(tactic| fail)
local macro_rules | `(tactic| walk_at "pad") => `(tactic| fail)
local macro_rules | `(tactic| walk_at "pad") => `(tactic| fail)
local macro_rules | `(tactic| walk_at "pad") => `(tactic| fail)
local macro_rules | `(tactic| walk_at "pad") => `(tactic| fail)
local macro_rules | `(tactic| walk_at "pad") => `(tactic| fail)
local macro_rules | `(tactic| walk_at "pad") => `(tactic| fail)
local macro_rules | `(tactic| walk_at "pad") => `(tactic| fail)
local macro_rules | `(tactic| walk_at "pad") => `(tactic| fail)
local macro_rules | `(tactic| walk_at "pad") => `(tactic| fail)
local macro_rules | `(tactic| walk_at "pad") => `(tactic| fail)
open PySem PySem.W PyProof.Rows PySem.Calls PySem.Spec PyProof.V
local macro_rules | `(tactic| k_room) => `(tactic| ktr_room)
local macro_rules | `(tactic| k_all) => `(tactic| assumption)
local macro_rules | `(tactic| k_units) => `(tactic| ktr_units)
local macro_rules | `(tactic| k_steps) => `(tactic| repeat' ((fail_if_success (with_reducible show wpAny _ _ (exec (Stmt.For _ _ _ _ _) _) _ _ _)); (fail_if_success (with_reducible show wpAny _ _ (eval (Expr.ListComp _ _ _ _) _) _ _ _)); (fail_if_success (with_reducible show wpAny _ _ (pyIter _) (fun it s₂ => TurnsAt _ _ _ _ _ _ _ _ _ it s₂) _ _)); first | (k_unfold; (try dsimp only)) | walk1 | (dsimp only; walk1) | (leave1; walk_say "STEP leave1"; try dsimp only) | fail "no step"))
local macro_rules | `(tactic| walk_at "binaryOp Add ref ref") => `(tactic| (k_here; k_dflt (refine' add_gen ?F ?N ?a ?b ?_ ?z; (case F => k_asm); (case N => k_asm); (case a => first | exact News.isList (by k_asm) (by first | k_mem | (repeat (first | assumption | refine List.mem_cons_of_mem _ ?_))) | exact lstK (Frag.In.keeps (by assumption) (Fr.keep (by assumption))) (by k_is)); (case b => exact News.isList (by k_asm) (by first | k_mem | (repeat (first | assumption | refine List.mem_cons_of_mem _ ?_)))); (case z => (simp only [List.length_cons, List.length_nil]; omega))); intro D' h' F' N' l1; (try k_lt l1)))
theorem str_app_assoc (a b c : Str) : a ++ b ++ c = a ++ (b ++ c) := by
  apply Str.ext'
  show (a.cps ++ b.cps) ++ c.cps = a.cps ++ (b.cps ++ c.cps)
  exact Array.append_assoc ..
local macro_rules | `(tactic| k_enter) => `(tactic| (refine' code_defC ?k1 ?k2 ?k3 ?k4 ?k5 ?kA ?kF ?kK ?k6 ?k7 ?k8 ?k9 ?kB ?kD ?_ ?c2 ?c3 ?c4; (case kA => exact rfl); (case kF => exact rfl); (case kK => first | exact rfl | assumption); (case k1 => k_asm); (case k2 => k_asm); (case k3 => k_asm); (case k4 => k_asm); (case k5 => k_asm); (case k6 => k_is); (case k7 => k_is); (case k8 => ktr_room); (case k9 => first | exact BindsTo.of_eq rfl | exact binds_K (by k_in) rfl (by k_is) rfl rfl rfl); (case kB => exact rfl); (case kD => decide +kernel); (case c2 => exact rfl); (case c3 => exact rfl); (case c4 => exact rfl); k_whole; intro g' L' h' tk' cells' FG' F' N' Y' B' X' T' l1; (try k_lt l1); k_cells Y'; (try simp only [List.cons_append, List.nil_append] at N'); (try dsimp only); (try k_lift B'); (try k_fold)))
local macro_rules | `(tactic| walk_at "compareOp Eq ref ref") => `(tactic| (k_here; k_dflt (first
  | refine eq_nil (News.isList (by k_asm) (by (repeat (first | assumption | exact List.mem_cons_self .. | refine List.mem_cons_of_mem _ ?_)))) (News.isList (by k_asm) (by (repeat (first | assumption | exact List.mem_cons_self .. | refine List.mem_cons_of_mem _ ?_)))) (by ktr_units) ?_
  | refine eq_not_nil (News.isList (by k_asm) (by (repeat (first | assumption | exact List.mem_cons_self .. | refine List.mem_cons_of_mem _ ?_)))) (News.isList (by k_asm) (by (repeat (first | assumption | exact List.mem_cons_self .. | refine List.mem_cons_of_mem _ ?_)))) (by ktr_units) ?_)))
theorem drop_marks {h₀ h : Heap} {L D D1 l1 l2 C ta td : Addr} {a b c d oc i dd : Obj} {news : List (Addr × Obj)} (N : News h₀ L h ((D, a) :: (D1, b) :: (l1, c) :: (l2, d) :: (C, oc) :: (ta, i) :: (td, dd) :: news)) :
    News h₀ L h ((D, a) :: (C, oc) :: (ta, i) :: (td, dd) :: news) := cb_drop N fun q hq => by
  simp only [List.mem_cons] at hq ⊢
  rcases hq with h | h | h | h | h <;> simp [h]
theorem rest_ne {L ta td : Addr} {i dd : Obj} {news : List (Addr × Obj)} (h : ta < L ∧ td < L ∧ AllLt L news) : ∀ p ∈ (ta, i) :: (td, dd) :: news, p.1 ≠ L + 1 := fun p hp => by
  have key : p.1 < L := by
    rcases List.mem_cons.mp hp with rfl | hp
    · exact h.1
    · rcases List.mem_cons.mp hp with rfl | hp
      · exact h.2.1
      · exact ktn_ltOf h.2.2 p hp
  exact Nat.ne_of_lt (Nat.lt_succ_of_lt key)
theorem cell_ne {h₀ h : Heap} {L I D C : Addr} {oI oc : Obj} {xs : Array Value} {n : Nat} {vc : Option Value} {news : List (Addr × Obj)} (N : News h₀ L h ((I, oI) :: (D, listOf xs n) :: (C, oc) :: news)) (hc : oc.data = .cell vc) : D ≠ C :=
  News.twoPlaces N (p := (D, listOf xs n)) (q := (C, oc)) (List.mem_cons_of_mem _ (List.mem_cons_self ..)) (List.mem_cons_of_mem _ (List.mem_cons_of_mem _ (List.mem_cons_self ..))) fun e => by
    have e' : (listOf xs n).data = oc.data := congrArg Obj.data e
    rw [hc] at e'
    cases e'
theorem marks_items (t0 t1 t2 t3 t4 t5 t6 t7 t8 t9 : Tok) : ∀ (j : Nat) (x : Value), (#[Value.str (S "p") t0, Value.str (S "q") t1, Value.str (S "r") t2, Value.str (S "s") t3, Value.str (S "t") t4, Value.str (S "u") t5, Value.str (S "self::a") t6, Value.str (S "self::n:b") t7, Value.str (S "name() = 'c d'") t8, Value.str (S "name() = \"it's\"") t9] : Array Value)[j]? = some x → ∃ t, marks[j]?.map (fun m => Value.str m t) = some x
  | 0, _, h => ⟨t0, h⟩ | 1, _, h => ⟨t1, h⟩ | 2, _, h => ⟨t2, h⟩ | 3, _, h => ⟨t3, h⟩ | 4, _, h => ⟨t4, h⟩ | 5, _, h => ⟨t5, h⟩ | 6, _, h => ⟨t6, h⟩ | 7, _, h => ⟨t7, h⟩ | 8, _, h => ⟨t8, h⟩ | 9, _, h => ⟨t9, h⟩ | n + 10, _, h => by simp at h
theorem c_truth2 {prog : Program} {w : World} {p : Program} {loose : List Str} {mean : ExcName → Option Value} {mg mb : Str → Option Value} (hp : prog = PySem.Challenge.rw_ad5043_01.prog) (f : Str → Bool)
    (news : List (Addr × Obj)) (al fd : Addr) (fo : Obj) (n : Nat) (vs : List Value) (q : Bool × Str) (l : List (Bool × Str)) (hal : (al, listOf vs.toArray n) ∈ news) (hv : AddedIs news vs (q :: l).reverse) (hm : (fd, fo) ∈ news) (hI : IsFacts prog w f fd fo) (hg : Good (q :: l)) :
    Ctr prog w p loose mean mg mb 1489 4 20 news [.ref al, .ref fd] (fun r news' => r = .bool (truth f (q :: l)) ∧ news' = news) := by
  have h := c_truth (w := w) (p := p) (loose := loose) (mean := mean) (mg := mg) (mb := mb) hp f news al fd fo n vs _ hal hv hm hI fun r hr => hg r (List.mem_reverse.mp hr)
  rw [fold_truth] at h
  exact h
local macro_rules | `(tactic| walk_at "call ref") => `(tactic| (k_here; k_dflt (refine' Ctr.use (c_truth2 (by assumption) _ _ _ _ _ _ _ _ _ ?ha ?hv ?hm ?hI ?hg) ?k1 ?k2 ?k3 ?k4 ?k5 ?kK ?kd ?ku ?_); (case hI => assumption); (case k1 => k_asm); (case k2 => k_asm); (case k3 => k_asm); (case k4 => k_asm); (case k5 => k_asm); (case ha => (repeat (first | assumption | exact List.mem_cons_self .. | refine List.mem_cons_of_mem _ ?_))); (case hm => (repeat (first | assumption | exact List.mem_cons_self .. | refine List.mem_cons_of_mem _ ?_))); (case hv => refine AddedIs.mono ?hvm (by assumption); intro q hq; (repeat (first | assumption | refine List.mem_cons_of_mem _ ?_))); (case hg => assumption); (case kK => first | exact rfl | assumption); (case kd => ktr_room); (case ku => ktr_units); (intro r9 n9 h9 tk9 F9 N9 o9; obtain ⟨e9, e9'⟩ := o9; subst e9; subst e9'); (try dsimp only)))
local macro_rules | `(tactic| walk_at "call ref") => `(tactic| (k_here; k_dflt (refine' Ctr.use (HoldsAt.out ?kh ?kmem ?kI) ?k1 ?k2 ?k3 ?k4 ?k5 ?kK ?kd ?ku ?_); (case kh => assumption); (case k1 => k_asm); (case k2 => k_asm); (case k3 => k_asm); (case k4 => k_asm); (case k5 => k_asm); (case kK => first | exact rfl | assumption); (case kd => ktr_room); (case ku => ktr_units); (case kmem => (repeat (first | assumption | exact List.mem_cons_self .. | refine List.mem_cons_of_mem _ ?_))); (case kI => assumption); (intro r9 n9 h9 tk9 F9 N9 o9; obtain ⟨e9, e9'⟩ := o9; subst e9; subst e9'); (try dsimp only)))
local macro_rules | `(tactic| walk_at "newTuple") => `(tactic| (k_here; (refine wpAny_newTuple ?_)))
local macro_rules | `(tactic| walk_at "eval Name") => `(tactic| (k_here; (with_reducible show wpAny _ _ (eval (Expr.Name _ _) (compEnvC _ _ _ _)) _ _ _); (first | refine ldVarK (by assumption) ha ?_ rfl rfl (by decide) | refine ldVarK (by assumption) hb ?_ rfl rfl (by decide) | (refine' lcf_free ?N ?c ?m ?d ?_ ?a ?b; (case a => rfl); (case b => rfl); (case N => k_asm); (case c => rfl); (case m => (repeat (first | assumption | exact List.mem_cons_self .. | refine List.mem_cons_of_mem _ ?_))); (case d => assumption)))))
set_option maxHeartbeats 4000000 in
theorem c_is1 {prog : Program} {w : World} {p : Program} {loose : List Str} {mean : ExcName → Option Value} {mg mb : Str → Option Value} (hp : prog = PySem.Challenge.rw_ad5043_01.prog)
    (news : List (Addr × Obj)) (ta td la : Addr) (path elem con : Str) (t1 t2 t3 u1 u2 u3 tp te : Tok) (n : Nat) (v : Value) (vs : List Value) (o : Bool) (x : Str) (l : List (Bool × Str)) (hlp : path.length ≤ 100000) (hle : elem.length ≤ 100) (hne : ∀ p ∈ news, p.1 ≠ td) (hta : ta ≠ td) (hla : (la, listOf (v :: vs).toArray n) ∈ news)
    (hcon : con = cond ((o, x) :: l)) (hg : Good ((o, x) :: l)) (hl : l.length ≤ 20) (hv : AddedIs news (v :: vs) ((o, x) :: l).reverse) (hc0 : con.length ≠ 0) (hc1 : con.length ≤ 1000) :
    Ctr prog w p loose mean mg mb 1494 80 1000 ((ta, instObj 1023 td) :: (td, toldD w.params path elem con t1 t2 t3 u1 u2 u3) :: news) [.ref ta, .str path tp, .str elem te, .ref la] (fun r news' => r = .bool true ∧ news' = ((ta, instObj 1023 td) :: (td, toldD w.params path elem con t1 t2 t3 u1 u2 u3) :: news)) := by
  revert hp
  unfold Ctr
  k_fill
  intro hp dp un gd cn cs a ccd cl outer A₀ base h₀ L m s Q E B F X N T hk hR hU hret
  refine wpAny_call ?_
  k_dflt k_enter
  k_steps
  any_goals first
    | (exfalso; omega)
    | (exfalso; (rename (path != path) = true => hX); simp at hX; done)
    | (exfalso; (rename (elem != elem) = true => hX); simp at hX; done)
    | (exfalso; (rename (path ++ elem ++ (Str.ofString "[" ++ con ++ Str.ofString "]") != path ++ elem ++ Str.ofString "[" ++ con ++ Str.ofString "]") = true => hX); simp [str_app_assoc] at hX; done)
  rename Fr _ _ _ _ => F1
  refine For_turns F1 ?_
  k_steps
  rename IsRange _ _ _ _ _ _ _ _ => rg
  rename News _ _ _ _ => N1
  refine iter_rangeTurns (n := 16) rfl rg (by decide) (by decide) (by assumption) (drop_marks N1) ?_
  clear N1 rg
  intro I l1
  rename Obj.data _ = Data.cell _ => hcell
  refine (?key : ∀ (k i : Nat) (m₁ : Str → Option Value) (oc : Obj) (vc : Option Value) (md : Addr), i + k = 16 → md < I → m₁ (Str.ofString "told") = some (.ref ta) → m₁ (Str.ofString "added") = some (.ref la) → m₁ (Str.ofString "marks") = some (.ref md) → oc.data = .cell vc →
    ItemsRest prog w _ _ _ _ _ _ _ _ _ _ (rangeItms i k) m₁ ((md, _) :: (_, oc) :: (ta, instObj 1023 td) :: (td, toldD w.params path elem con t1 t2 t3 u1 u2 u3) :: news)) 16 0 _ _ _ _ rfl (l1 _ (List.mem_cons_self ..)) rfl rfl rfl hcell
  clear hcell
  rename ta < _ ∧ td < _ ∧ AllLt _ news => lA
  have hrest := rest_ne (i := instObj 1023 td) (dd := toldD w.params path elem con t1 t2 t3 u1 u2 u3) lA
  have hCI := l1 _ (List.mem_cons_of_mem _ (List.mem_cons_self ..))
  have hIC := Nat.ne_of_gt (l1 _ (List.mem_cons_of_mem _ (List.mem_cons_self ..)))
  dsimp only at hIC
  intro k
  induction k with
  | zero =>
    intro i m₁ oc vc md hik hmdI h1 h2 h3 hcell h5 tk5 F5 N5
    k_steps
    exact hret _ _ _ _ (by assumption) (cb_drop (by assumption) (fun q hq => List.mem_cons_of_mem _ (List.mem_cons_of_mem _ hq))) ⟨rfl, rfl⟩
  | succ k ih =>
    intro i m₁ oc vc md hik hmdI h1 h2 h3 hcell v5 h5 tk5 hv5 F5
    obtain ⟨t5, rfl⟩ := hv5
    refine AllObj.cons fun oI hoI => AllObj.nil ?_
    intro N5
    rw [frame_as m₁ [(Str.ofString "told", .ref ta), (Str.ofString "added", .ref la), (Str.ofString "marks", .ref md)] (by simp [h1, h2, h3])] at F5
    simp only [List.foldr_cons, List.foldr_nil] at F5
    dsimp only [envOfC, List.cons_append, List.nil_append] at F5 N5
    walk1
    refine storeX_C F5 N5 rfl (UpdF.tail hIC (UpdF.tail (cell_ne N5 hcell) (UpdF.head hrest))) hcell (fun h6 o6 F6 N6 d6 => ?_) rfl rfl
    try dsimp only at N6
    clear F5 N5 hcell
    k_steps
    dsimp only at d6
    have hib : (i : Int) < 16 := by omega
    have hib0 : (0 : Int) ≤ i := by omega
    refine ListComp_enum (by with_unfolding_all rfl) (by decide) (by rfl) (by decide) (by rfl) (by rfl) (by decide) ?_
    k_steps
    have hmd := News.isList N6 (List.mem_cons_of_mem _ (List.mem_cons_self ..))
    refine call_enumerate_list hmd fun h7 he7 hi7 hsz7 hk7 => ?_
    have hmlt : md < h6.objs.size := Heap.lt_size (N6 _ (List.mem_cons_of_mem _ (List.mem_cons_self ..))).1
    refine ⟨_, _, md, _, fun j => decide (Int.fmod ((i : Int) * 2 + (j : Int) * 3 + Int.fdiv (i : Int) 3 * (j : Int)) 4 < 2), _, rfl, rfl, Nat.succ_ne_self _, Nat.ne_of_lt (Nat.lt_succ_of_lt hmlt), Nat.ne_of_lt hmlt, Nat.le_of_ble_eq_true rfl, he7, hi7, hmd.at fun o e => hk7 _ _ e, ?turn, ?fin⟩
    case turn =>
      intro j y tj C m₂ h tk8 E' Q' hy hn ha hb hk hQ
      have hjb : (j : Int) < 10 := by
        obtain ⟨hlt, _⟩ := Array.getElem?_eq_some_iff.mp hy
        have h10 : j < 10 := hlt
        omega
      have hjb0 : (0 : Int) ≤ j := by omega
      have hk8 : ∀ c o, h6.get? c = some o → h.get? c = some o := fun c o e => hk c o (Nat.ne_of_lt (Nat.lt_succ_of_lt (Heap.lt_size e))) (Nat.ne_of_lt (Heap.lt_size e)) (hk7 c o e)
      have F8 := F6.keeps hk8
      have N8 := N6.grown hk8
      clear F6 N6 he7 hi7 hk7 hk hk8 hmd
      k_steps
      exact hQ _
    case fin =>
      intro D8 h8 tk8 ys8 hD8 hl8 hlen8 hd8 hk8
      have hk9 : ∀ c o, h6.get? c = some o → h8.get? c = some o := fun c o e => hk8 c o (Nat.ne_of_lt (Nat.lt_succ_of_lt (Heap.lt_size e))) (Nat.ne_of_lt (Heap.lt_size e)) (hk7 c o e)
      have F8 := F6.keeps hk9
      have N8 := N6.grown hk9
      clear F6 N6 he7 hi7 hk7 hk8 hk9 hmd
      have hp8 := pairs_marks hd8 hlen8 (marks_items _ _ _ _ _ _ _ _ _ _)
      generalize hfE : (fun m => decide (Int.fmod ((i : Int) * 2 + (atMark m : Int) * 3 + Int.fdiv (i : Int) 3 * (atMark m : Int)) 4 < 2)) = fE
      have hp8' : PairsAt h8 h8.objs.size ys8 (marks.map fun m => (m, fE m)) := hfE ▸ hp8
      clear hp8 hd8 hlen8 hfE
      have H9 : HoldsAt prog w p loose mean mg mb fE con (truth fE ((o, x) :: l)) l.length := by rw [hcon]; exact c_holds hp fE l o x hg hl
      k_steps
      refine dict_facts F8 N8 ?_ hl8 hp8' rfl fun h9 tk9 fo F9 N9 I9 l9 => ?_
      · exact Nat.lt_trans (by decide : sysModules < 1440) (Heap.lt_size ((by assumption : (hd.heap_1 w.params).In _) 1440 _ rfl))
      clear hp8' hl8 F8 N8
      k_steps
      all_goals first
        | (exfalso; (rename (truth fE ((o, x) :: l) != truth fE ((o, x) :: l)) = true => hX); simp at hX; done)
        | (refine UnrEndW.intro (by assumption) (by assumption) ((md, _) :: (_, o6) :: (ta, instObj 1023 td) :: (td, toldD w.params path elem con t1 t2 t3 u1 u2 u3) :: news) ?s1 ?s2 ?s3 ⟨trivial, ih (i + 1) _ o6 _ md (by omega) hmdI rfl rfl rfl d6⟩)
      case s1 => exact ⟨List.mem_cons_of_mem _ (List.mem_cons_self ..), trivial⟩
      case s2 => exact subL_of fun p hp => List.mem_cons_of_mem _ (List.mem_cons_of_mem _ hp)
      case s3 =>
        refine offW_of fun p hp => ?_
        rcases List.mem_cons.mp hp with rfl | hp
        · exact hmdI
        · rcases List.mem_cons.mp hp with rfl | hp
          · exact hCI
          · exact l1 _ (List.mem_cons_of_mem _ (List.mem_cons_of_mem _ hp))
theorem c_is {prog : Program} {w : World} {p : Program} {loose : List Str} {mean : ExcName → Option Value} {mg mb : Str → Option Value} (hp : prog = PySem.Challenge.rw_ad5043_01.prog)
    (news : List (Addr × Obj)) (ta td la : Addr) (path elem : Str) (t1 t2 t3 u1 u2 u3 tp te : Tok) (n : Nat) (vs : List Value) (l : List (Bool × Str)) (hlp : path.length ≤ 100000) (hle : elem.length ≤ 100) (hne : ∀ p ∈ news, p.1 ≠ td) (hta : ta ≠ td) (hla : (la, listOf vs.toArray n) ∈ news)
    (hg : Good l) (hl : l.length ≤ 20) (hv : AddedIs news vs l.reverse) :
    Ctr prog w p loose mean mg mb 1494 80 1000 ((ta, instObj 1023 td) :: (td, toldD w.params path elem (cond l) t1 t2 t3 u1 u2 u3) :: news) [.ref ta, .str path tp, .str elem te, .ref la] (fun r news' => r = .bool true ∧ news' = ((ta, instObj 1023 td) :: (td, toldD w.params path elem (cond l) t1 t2 t3 u1 u2 u3) :: news)) := by
  cases l with
  | nil =>
    have e : vs = [] := by
      have h := hv
      generalize hr : ([] : List (Bool × Str)).reverse = r at h
      cases h with
      | nil => rfl
      | cons _ _ => simp at hr
    subst e
    intro dp un gd cn cs a ccd cl outer A₀ base h₀ L m s Q E B F X N T hk hR hU hret
    exact c_is0 hp news ta td la path elem t1 t2 t3 u1 u2 u3 tp te n hlp hle hne hta hla dp un gd cn cs a ccd cl outer A₀ base h₀ L m s Q E B F X N T hk (by omega) (by omega) hret
  | cons q l =>
    obtain ⟨o, x⟩ := q
    cases vs with
    | nil =>
      exfalso
      generalize hr : ((o, x) :: l).reverse = r at hv
      cases hv
      simp at hr
    | cons v vs =>
      have h1 := cond_pos ((o, x) :: l) (by simp) hg
      have h2 := cond_len ((o, x) :: l) hg
      simp only [List.length_cons] at h2 hl
      exact c_is1 hp news ta td la path elem _ t1 t2 t3 u1 u2 u3 tp te n v vs o x l hlp hle hne hta hla rfl hg (by omega) hv (by omega) (by omega)
end Mine
namespace Mine
local macro_rules | `(tactic| walk_at "pad") => `(tactic| fail)
local macro_rules | `(tactic| walk_at "pad") => `(tactic| fail)
local macro_rules | `(tactic| walk_at "pad") => `(tactic| fail)
local macro_rules | `(tactic| walk_at "pad") => `(tactic| fail)
local macro_rules | `(tactic| walk_at "pad") => `(tactic| fail)
local macro_rules | `(tactic| walk_at "pad") => `(tactic| fail)
local macro_rules | `(tactic| walk_at "pad") => `(tactic| fail)
local macro_rules | `(tactic| walk_at "pad") => `(tactic| fail)
local macro_rules | `(tactic| walk_at "pad") => `(tactic| fail)
local macro_rules | `(tactic| walk_at "pad") => `(tactic| fail)
local macro_rules | `(tactic| walk_at "pad") => `(tactic| fail)
local macro_rules | `(tactic| walk_at "pad") => `(tactic| fail)
local macro_rules | `(tactic| walk_at "pad") => `(tactic| fail)
local macro_rules | `(tactic| walk_at "pad") => `(tactic| fail)
local macro_rules | `(tactic| walk_at "pad") => `(tactic| fail)
local macro_rules | `(tactic| walk_at "pad") => `(tactic| fail)
local macro_rules | `(tactic| walk_at "pad") => `(tactic| fail)
local macro_rules | `(tactic| walk_at "pad") => `(tactic| fail)
local macro_rules | `(tactic| walk_at "pad") => `(tactic| fail)
local macro_rules | `(tactic| walk_at "pad") => `(tactic| fail)
local macro_rules | `(tactic| walk_at "pad") => `(tactic| fail)
local macro_rules | `(tactic| walk_at "pad") => `(tactic| fail)
local macro_rules | `(tactic| walk_at "pad") => `(tactic| fail)
local macro_rules | `(tactic| walk_at "pad") => `(tactic| fail)
local macro_rules | `(tactic| walk_at "pad") => `(tactic| fail)
local macro_rules | `(tactic| walk_at "pad") => `(tactic| fail)
local macro_rules | `(tactic| walk_at "pad") => `(tactic| fail)
local macro_rules | `(tactic| walk_at "pad") => `(tactic| fail)
local macro_rules | `(tactic| walk_at "pad") => `(tactic| fail)
local macro_rules | `(tactic| walk_at "pad") => `(tactic| fail)
local macro_rules | `(tactic| walk_at "pad") => `(tactic| fail)
open PySem PySem.W PyProof.Rows PySem.Calls PySem.Spec PyProof.V
local macro_rules | `(tactic| k_room) => `(tactic| ktr_room)
local macro_rules | `(tactic| k_all) => `(tactic| assumption)
local macro_rules | `(tactic| k_units) => `(tactic| ktr_units)
local macro_rules | `(tactic| k_steps) => `(tactic| repeat' (first | (k_unfold; (try dsimp only)) | walk1 | (dsimp only; walk1) | (leave1; walk_say "STEP leave1"; try dsimp only) | fail "no step"))
theorem nobool_match : typeLookup (.type "re.Match") (Str.ofString "__bool__") = pure none := by rw [typeLookup_type, builtinLookup_eq_fast]; kernel_rfl
theorem nolen_match : typeLookup (.type "re.Match") (Str.ofString "__len__") = pure none := by rw [typeLookup_type, builtinLookup_eq_fast]; kernel_rfl
theorem truthy_match {prog : Program} {w : World} {A : Around} {E : Value → Shared → Prop} {s : Shared} {D : Addr} {o : Obj} {Q : Bool → Shared → Prop} (ho : s.heap.get? D = some o) (hc : o.cls = .type "re.Match") (h : Q true s) : wpAny (model prog w) A (truthy (.ref D)) Q E s := by
  have hT : s.TypeIs (.ref D) "re.Match" := ⟨o, ho, hc⟩
  unfold truthy
  first
    | refine wpAny_bind (wpAny_callSpecial?_none (name := Str.ofString "__bool__") hT nobool_match ?_)
    | refine wpAny_bind (wpAny_pure (wpAny_bind (wpAny_callSpecial?_none (name := Str.ofString "__bool__") hT nobool_match ?_)))
  first
    | refine wpAny_bind (wpAny_specialOf (name := Str.ofString "__len__") hT nolen_match ?_)
    | refine wpAny_bind (wpAny_pure (wpAny_bind (wpAny_specialOf (name := Str.ofString "__len__") hT nolen_match ?_)))
  exact wpAny_pure h
local macro_rules | `(tactic| walk_at "call ref") => `(tactic| (k_here; k_dflt (refine' Ctr.use (c_safe (by assumption) _ _ _ (by decide +kernel) (by with_reducible assumption)) ?k1 ?k2 ?k3 ?k4 ?k5 ?kK ?kd ?ku ?_); (case k1 => k_asm); (case k2 => k_asm); (case k3 => k_asm); (case k4 => k_asm); (case k5 => k_asm); (case kK => first | exact rfl | assumption); (case kd => ktr_room); (case ku => ktr_units); (intro r9 n9 h9 tk9 F9 N9 o9; obtain ⟨D9, b9, e9, e9', c9, l9⟩ := o9; subst e9; subst e9'); (try dsimp only)))
local macro_rules | `(tactic| walk_at "call ref") => `(tactic| (k_here; k_dflt (refine' Ctr.use (c_safe_no (by assumption) _ _ _ (by decide +kernel) (by with_reducible assumption)) ?k1 ?k2 ?k3 ?k4 ?k5 ?kK ?kd ?ku ?_); (case k1 => k_asm); (case k2 => k_asm); (case k3 => k_asm); (case k4 => k_asm); (case k5 => k_asm); (case kK => first | exact rfl | assumption); (case kd => ktr_room); (case ku => ktr_units); (intro r9 n9 h9 tk9 F9 N9 o9; obtain ⟨e9, e9'⟩ := o9; subst e9; subst e9'); (try dsimp only)))
local macro_rules | `(tactic| walk_at "truthy ref") => `(tactic| (k_here; refine truthy_match (News.get (by k_asm) (List.mem_cons_self ..)) (by assumption) ?_; try dsimp only))
local macro_rules | `(tactic| walk_at "call ref") => `(tactic| (k_here; k_dflt (refine' Ctr.use (c_addc2 (by assumption) _ _ _ _ _ _ _ _ _ _ _ _ _ _ ?hlx ?hlc ?hne ?hta) ?k1 ?k2 ?k3 ?k4 ?k5 ?kK ?kd ?ku ?_); (case hne => assumption); (case hta => assumption); (case k4 => exact news_sub (by assumption) (by repeat (first | exact List.Sublist.refl _ | refine List.Sublist.cons₂ _ ?_ | refine List.Sublist.cons _ ?_))); (case hlx => exact Nat.le_of_ble_eq_true rfl); (case hlc => assumption); (case k1 => k_asm); (case k2 => k_asm); (case k3 => k_asm); (case k5 => k_asm); (case kK => first | exact rfl | assumption); (case kd => ktr_room); (case ku => ktr_units); (intro r9 n9 h9 tk9 F9 N9 o9; obtain ⟨t9, e9, e9'⟩ := o9; subst e9; subst e9'); (try dsimp only)))
theorem notin_yes {prog : Program} {w : World} {A : Around} {E : Value → Shared → Prop} {s : Shared} {a b : Str} {t u : Tok} {Q : Value → Shared → Prop} (e : (Builtin.Str.occurrences b a 0 b.length 1).isEmpty = true) (h : Q (.bool true) s) : wpAny (model prog w) A (compareOp .NotIn (.str a t) (.str b u)) Q E s :=
  PyProof.Rows.notIn_str (by rw [e]; exact h)
theorem notin_no {prog : Program} {w : World} {A : Around} {E : Value → Shared → Prop} {s : Shared} {a b : Str} {t u : Tok} {Q : Value → Shared → Prop} (e : (Builtin.Str.occurrences b a 0 b.length 1).isEmpty = false) (h : Q (.bool false) s) : wpAny (model prog w) A (compareOp .NotIn (.str a t) (.str b u)) Q E s :=
  PyProof.Rows.notIn_str (by rw [e]; exact h)
local macro_rules | `(tactic| walk_at "compareOp NotIn str str") => `(tactic| (k_here; first | refine notin_yes (by decide +kernel) ?_ | refine notin_no (by decide +kernel) ?_))
theorem nt_fin {P : Params} {ta td : Addr} {path elem con x y z : Str} {t1 t2 t3 u1 u2 u3 : Tok} {news : List (Addr × Obj)} (e : x = y) :
    ∃ t2' t3', ((ta, instObj 1023 td) :: (td, toldD P path elem (added1 con x z) t1 t2 t3 u1 u2 u3) :: news) = ((ta, instObj 1023 td) :: (td, toldD P path elem (added1 con y z) t1 t2' t3' u1 u2 u3) :: news) := ⟨t2, t3, by rw [e]⟩
set_option maxHeartbeats 4000000 in
theorem c_nt_a {prog : Program} {w : World} {p : Program} {loose : List Str} {mean : ExcName → Option Value} {mg mb : Str → Option Value} (hp : prog = PySem.Challenge.rw_ad5043_01.prog)
    (news : List (Addr × Obj)) (ta td : Addr) (path con : Str) (t1 t2 t3 u1 u2 u3 : Tok) (hlc : con.length ≤ 1000) (hne : ∀ p ∈ news, p.1 ≠ td) (hta : ta ≠ td) :
    Ctr prog w p loose mean mg mb 1006 20 120 ((ta, instObj 1023 td) :: (td, toldD w.params path (Str.ofString "a") con t1 t2 t3 u1 u2 u3) :: news) [.ref ta] (fun r news' => r = .none ∧ ∃ t2' t3', news' = ((ta, instObj 1023 td) :: (td, toldD w.params path (Str.ofString "*") (added1 con (Str.ofString "self::a") (Str.ofString "and")) t1 t2' t3' u1 u2 u3) :: news)) := by
  have hm_a := m_a
  revert hp
  unfold Ctr
  k_fill
  intro hp dp un gd cn cs a ccd cl outer A₀ base h₀ L m s Q E B F X N T hk hR hU hret
  refine wpAny_call ?_
  k_dflt ktr_enter
  k_steps
  all_goals first
    | exact hret _ _ _ _ (by assumption) (by assumption) ⟨rfl, nt_fin (by decide +kernel)⟩
    | exact hret _ _ _ _ (by assumption) (by assumption) ⟨rfl, _, _, rfl⟩
set_option maxHeartbeats 4000000 in
theorem c_nt_b {prog : Program} {w : World} {p : Program} {loose : List Str} {mean : ExcName → Option Value} {mg mb : Str → Option Value} (hp : prog = PySem.Challenge.rw_ad5043_01.prog)
    (news : List (Addr × Obj)) (ta td : Addr) (path con : Str) (t1 t2 t3 u1 u2 u3 : Tok) (hlc : con.length ≤ 1000) (hne : ∀ p ∈ news, p.1 ≠ td) (hta : ta ≠ td) :
    Ctr prog w p loose mean mg mb 1006 20 120 ((ta, instObj 1023 td) :: (td, toldD w.params path (Str.ofString "n:b") con t1 t2 t3 u1 u2 u3) :: news) [.ref ta] (fun r news' => r = .none ∧ ∃ t2' t3', news' = ((ta, instObj 1023 td) :: (td, toldD w.params path (Str.ofString "*") (added1 con (Str.ofString "self::n:b") (Str.ofString "and")) t1 t2' t3' u1 u2 u3) :: news)) := by
  have hm_n := m_n
  have hm_b := m_b
  revert hp
  unfold Ctr
  k_fill
  intro hp dp un gd cn cs a ccd cl outer A₀ base h₀ L m s Q E B F X N T hk hR hU hret
  refine wpAny_call ?_
  k_dflt ktr_enter
  k_steps
  all_goals first
    | exact hret _ _ _ _ (by assumption) (by assumption) ⟨rfl, nt_fin (by decide +kernel)⟩
    | exact hret _ _ _ _ (by assumption) (by assumption) ⟨rfl, _, _, rfl⟩
set_option maxHeartbeats 4000000 in
theorem c_nt_c {prog : Program} {w : World} {p : Program} {loose : List Str} {mean : ExcName → Option Value} {mg mb : Str → Option Value} (hp : prog = PySem.Challenge.rw_ad5043_01.prog)
    (news : List (Addr × Obj)) (ta td : Addr) (path con : Str) (t1 t2 t3 u1 u2 u3 : Tok) (hlc : con.length ≤ 1000) (hne : ∀ p ∈ news, p.1 ≠ td) (hta : ta ≠ td) :
    Ctr prog w p loose mean mg mb 1006 20 120 ((ta, instObj 1023 td) :: (td, toldD w.params path (Str.ofString "c d") con t1 t2 t3 u1 u2 u3) :: news) [.ref ta] (fun r news' => r = .none ∧ ∃ t2' t3', news' = ((ta, instObj 1023 td) :: (td, toldD w.params path (Str.ofString "*") (added1 con (Str.ofString "name() = 'c d'") (Str.ofString "and")) t1 t2' t3' u1 u2 u3) :: news)) := by
  have hm_c := m_c
  revert hp
  unfold Ctr
  k_fill
  intro hp dp un gd cn cs a ccd cl outer A₀ base h₀ L m s Q E B F X N T hk hR hU hret
  refine wpAny_call ?_
  k_dflt ktr_enter
  k_steps
  all_goals first
    | exact hret _ _ _ _ (by assumption) (by assumption) ⟨rfl, nt_fin (by decide +kernel)⟩
    | exact hret _ _ _ _ (by assumption) (by assumption) ⟨rfl, _, _, rfl⟩
set_option maxHeartbeats 4000000 in
theorem c_nt_i {prog : Program} {w : World} {p : Program} {loose : List Str} {mean : ExcName → Option Value} {mg mb : Str → Option Value} (hp : prog = PySem.Challenge.rw_ad5043_01.prog)
    (news : List (Addr × Obj)) (ta td : Addr) (path con : Str) (t1 t2 t3 u1 u2 u3 : Tok) (hlc : con.length ≤ 1000) (hne : ∀ p ∈ news, p.1 ≠ td) (hta : ta ≠ td) :
    Ctr prog w p loose mean mg mb 1006 20 120 ((ta, instObj 1023 td) :: (td, toldD w.params path (Str.ofString "it's") con t1 t2 t3 u1 u2 u3) :: news) [.ref ta] (fun r news' => r = .none ∧ ∃ t2' t3', news' = ((ta, instObj 1023 td) :: (td, toldD w.params path (Str.ofString "*") (added1 con (Str.ofString "name() = \"it's\"") (Str.ofString "and")) t1 t2' t3' u1 u2 u3) :: news)) := by
  have hm_i := m_i
  revert hp
  unfold Ctr
  k_fill
  intro hp dp un gd cn cs a ccd cl outer A₀ base h₀ L m s Q E B F X N T hk hR hU hret
  refine wpAny_call ?_
  k_dflt ktr_enter
  k_steps
  all_goals first
    | exact hret _ _ _ _ (by assumption) (by assumption) ⟨rfl, nt_fin (by decide +kernel)⟩
    | exact hret _ _ _ _ (by assumption) (by assumption) ⟨rfl, _, _, rfl⟩
set_option maxHeartbeats 4000000 in
theorem c_nt_s {prog : Program} {w : World} {p : Program} {loose : List Str} {mean : ExcName → Option Value} {mg mb : Str → Option Value} (hp : prog = PySem.Challenge.rw_ad5043_01.prog)
    (news : List (Addr × Obj)) (ta td : Addr) (path con : Str) (t1 t2 t3 u1 u2 u3 : Tok) (hlc : con.length ≤ 1000) (hne : ∀ p ∈ news, p.1 ≠ td) (hta : ta ≠ td) :
    Ctr prog w p loose mean mg mb 1006 20 120 ((ta, instObj 1023 td) :: (td, toldD w.params path (Str.ofString "*") con t1 t2 t3 u1 u2 u3) :: news) [.ref ta] (fun r news' => r = .none ∧ ∃ t2' t3', news' = ((ta, instObj 1023 td) :: (td, toldD w.params path (Str.ofString "*") con t1 t2' t3' u1 u2 u3) :: news)) := by
  revert hp
  unfold Ctr
  k_fill
  intro hp dp un gd cn cs a ccd cl outer A₀ base h₀ L m s Q E B F X N T hk hR hU hret
  refine wpAny_call ?_
  k_dflt ktr_enter
  k_steps
  all_goals first
    | exact hret _ _ _ _ (by assumption) (by assumption) ⟨rfl, nt_fin (by decide +kernel)⟩
    | exact hret _ _ _ _ (by assumption) (by assumption) ⟨rfl, _, _, rfl⟩
end Mine
namespace Mine
open PySem PySem.W PyProof.Rows PySem.Calls PySem.Spec PyProof.V
theorem strOf_at (k : Str) : ∀ {vs : List Value} {ys : List Str}, StrsAre vs ys → ∀ (j : Nat) (h : j < vs.length) (h' : j < ys.length), isStrOf k vs[j] = (ys[j] == k)
  | _, _, .nil, _, h, _ => absurd h (Nat.not_lt_zero _)
  | _, _, .cons _ _ _, 0, _, _ => rfl
  | _, _, .cons _ _ r, j + 1, h, h' => strOf_at k r j (Nat.lt_of_succ_lt_succ h) (Nat.lt_of_succ_lt_succ h')
theorem strs_length : ∀ {vs : List Value} {ys : List Str}, StrsAre vs ys → vs.length = ys.length
  | _, _, .nil => rfl
  | _, _, .cons _ _ r => congrArg (· + 1) (strs_length r)
theorem index_strs {prog : Program} {w : World} {A : Around} {E : Value → Shared → Prop} {s : Shared} {l : Addr} {vs : List Value} {ys : List Str} {k : Str} {t : Tok} {i : Nat} {Q : Value → Shared → Prop} (hl : s.heap.IsList l vs.toArray) (hi : StrsAre vs ys)
    (hsz : ys.length ≤ 100) (hk : k ∈ ys) (e : ys.idxOf k = i) (h : Q (.int (i : Nat) s.toks) { s with toks := s.toks + 1 }) :
    wpAny (model prog w) A (call (.builtin "list.index") [.ref l, .str k t]) Q E s := by
  subst e
  obtain ⟨⟨cls, dd, data, sl⟩, ho, hc, n, hd⟩ := id hl
  simp only at hc hd
  subst hc hd
  have hlen := strs_length hi
  have hj : ys.idxOf k < ys.length := List.idxOf_lt_length_iff.mpr hk
  refine call_meets PySem.F.slot_list_index ⟨_, ho, rfl⟩ PySem.F.entry_list_index (PySem.F.args_list_index_2 _ _)
    (SeqAt.list_indexAt l vs.toArray n dd sl (.str k t) (isStrOf k) (ys.idxOf k) (by simpa [hlen] using hj) (by omega) ?_ ?_) ⟨ho, fun y hy => (eq_isStrOf k t hi y (by simpa using hy)).at _ _, h⟩
  · show isStrOf k vs[ys.idxOf k] = true
    rw [strOf_at k hi _ (by omega) hj]
    simpa using List.getElem_idxOf hj
  · intro j hjs hlt
    show isStrOf k vs[j] = false
    rw [strOf_at k hi j (by simpa using hjs) (by omega)]
    have h9 := List.not_of_lt_findIdx (p := (· == k)) (xs := ys) (i := j) hlt
    simpa using h9
end Mine
namespace Mine
local macro_rules | `(tactic| walk_at "pad") => `(tactic| fail)
local macro_rules | `(tactic| walk_at "pad") => `(tactic| fail)
local macro_rules | `(tactic| walk_at "pad") => `(tactic| fail)
local macro_rules | `(tactic| walk_at "pad") => `(tactic| fail)
local macro_rules | `(tactic| walk_at "pad") => `(tactic| fail)
local macro_rules | `(tactic| walk_at "pad") => `(tactic| fail)
local macro_rules | `(tactic| walk_at "pad") => `(tactic| fail)
local macro_rules | `(tactic| walk_at "pad") => `(tactic| fail)
local macro_rules | `(tactic| walk_at "pad") => `(tactic| fail)
local macro_rules | `(tactic| walk_at "pad") => `(tactic| fail)
local macro_rules | `(tactic| walk_at "pad") => `(tactic| fail)
local macro_rules | `(tactic| walk_at "pad") => `(tactic| fail)
local macro_rules | `(tactic| walk_at "pad") => `(tactic| fail)
local macro_rules | `(tactic| walk_at "pad") => `(tactic| fail)
local macro_rules | `(tactic| walk_at "pad") => `(tactic| fail)
local macro_rules | `(tactic| walk_at "pad") => `(tactic| fail)
local macro_rules | `(tactic| walk_at "pad") => `(tactic| fail)
local macro_rules | `(tactic| walk_at "pad") => `(tactic| fail)
local macro_rules | `(tactic| walk_at "pad") => `(tactic| fail)
local macro_rules | `(tactic| walk_at "pad") => `(tactic| fail)
local macro_rules | `(tactic| walk_at "pad") => `(tactic| fail)
local macro_rules | `(tactic| walk_at "pad") => `(tactic| fail)
local macro_rules | `(tactic| walk_at "pad") => `(tactic| fail)
local macro_rules | `(tactic| walk_at "pad") => `(tactic| fail)
local macro_rules | `(tactic| walk_at "pad") => `(tactic| fail)
local macro_rules | `(tactic| walk_at "pad") => `(tactic| fail)
local macro_rules | `(tactic| walk_at "pad") => `(tactic| fail)
local macro_rules | `(tactic| walk_at "pad") => `(tactic| fail)
local macro_rules | `(tactic| walk_at "pad") => `(tactic| fail)
local macro_rules | `(tactic| walk_at "pad") => `(tactic| fail)
local macro_rules | `(tactic| walk_at "pad") => `(tactic| fail)
local macro_rules | `(tactic| walk_at "pad") => `(tactic| fail)
local macro_rules | `(tactic| walk_at "pad") => `(tactic| fail)
local macro_rules | `(tactic| walk_at "pad") => `(tactic| fail)
local macro_rules | `(tactic| walk_at "pad") => `(tactic| fail)
local macro_rules | `(tactic| walk_at "pad") => `(tactic| fail)
local macro_rules | `(tactic| walk_at "pad") => `(tactic| fail)
open PySem PySem.W PyProof.Rows PySem.Calls PySem.Spec PyProof.V
local macro_rules | `(tactic| k_room) => `(tactic| ktr_room)
local macro_rules | `(tactic| k_all) => `(tactic| assumption)
local macro_rules | `(tactic| k_units) => `(tactic| ktr_units)
local macro_rules | `(tactic| k_steps) => `(tactic| repeat' (first | (k_unfold; (try dsimp only)) | walk1 | (dsimp only; walk1) | (leave1; walk_say "STEP leave1"; try dsimp only) | fail "no step"))
local macro_rules | `(tactic| walk_at "binaryOp Add ref ref") => `(tactic| (k_here; k_dflt (refine' add_gen ?F ?N ?a ?b ?_ ?z; (case F => k_asm); (case N => k_asm); (case a => exact News.isList (by k_asm) (by (repeat (first | assumption | refine List.mem_cons_of_mem _ ?_)))); (case b => exact News.isList (by k_asm) (by (repeat (first | assumption | exact List.mem_cons_self .. | refine List.mem_cons_of_mem _ ?_)))); (case z => (simp only [List.length_cons, List.length_nil]; omega))); intro D' h' F' N' l1; (try k_lt l1)))
theorem names5_are {a b c d e : Tok} : StrsAre [.str (Str.ofString "*") a, .str (Str.ofString "a") b, .str (Str.ofString "n:b") c, .str (Str.ofString "c d") d, .str (Str.ofString "it's") e] [Str.ofString "*", Str.ofString "a", Str.ofString "n:b", Str.ofString "c d", Str.ofString "it's"] :=
  .cons _ _ (.cons _ _ (.cons _ _ (.cons _ _ (.cons _ _ .nil))))
def TestedPost (P : Params) (ta td : Addr) (path con : Str) (t1 u1 u2 u3 : Tok) (l : List (Bool × Str)) (rest : List (Addr × Obj)) (r : Value) (news' : List (Addr × Obj)) : Prop :=
  ∃ T lb ts l' con' t2' t3' n' vs' rest', r = .ref T ∧ news' = ((ta, instObj 1023 td) :: (td, toldD P path (Str.ofString "*") con' t1 t2' t3' u1 u2 u3) :: rest') ∧ (T, ({ cls := .type "tuple", data := .seq #[.str (Str.ofString "*") ts, .ref lb] } : Obj)) ∈ rest' ∧ (lb, listOf vs'.toArray n') ∈ rest' ∧ AddedIs rest' vs' l' ∧
    (∀ p ∈ rest', p.1 ≠ td) ∧ vs'.length = l'.length ∧ ((l' = l ∧ con' = con) ∨ ∃ m ∈ marks, l' = l ++ [(false, m)] ∧ con' = added1 con m (Str.ofString "and")) ∧ (∀ q ∈ rest, q ∈ rest')
theorem tested_fin {h₀ h : Heap} {L D B C l1 l2 l3 ta td : Addr} {i d X T a b c p : Obj} {news : List (Addr × Obj)} (N : News h₀ L h ((D, T) :: (C, X) :: (l1, a) :: (B, p) :: (l2, b) :: (l3, c) :: (ta, i) :: (td, d) :: news)) :
    News h₀ L h ((ta, i) :: (td, d) :: (D, T) :: (C, X) :: (B, p) :: news) := cb_drop N fun q hq => by
  simp only [List.mem_cons] at hq ⊢
  rcases hq with h | h | h | h | h | h <;> simp [h]
theorem tested_ret {P : Params} {ta td D B C : Addr} {path con x : Str} {t1 t2 t3 u1 u2 u3 ts tw tm : Tok} {l : List (Bool × Str)} {vs : List Value} {news : List (Addr × Obj)} (hx : x ∈ marks) (hv : AddedIs news vs l) (hne : ∀ p ∈ news, p.1 ≠ td) (hD : D ≠ td) (hC : C ≠ td) (hB : B ≠ td) (hvv : vs.length = l.length) :
    TestedPost P ta td path con t1 u1 u2 u3 l news (.ref D) ((ta, instObj 1023 td) :: (td, toldD P path (Str.ofString "*") (added1 con x (Str.ofString "and")) t1 t2 t3 u1 u2 u3) :: (D, ({ cls := .type "tuple", data := .seq #[.str (Str.ofString "*") ts, .ref C] } : Obj)) :: (C, listOf (vs ++ [Value.ref B]).toArray 0) :: (B, pairObj false x tw tm) :: news) :=
  ⟨D, C, ts, l ++ [(false, x)], _, t2, t3, 0, vs ++ [Value.ref B], _, rfl, rfl, List.mem_cons_self .., List.mem_cons_of_mem _ (List.mem_cons_self ..), (hv.mono fun q hq => List.mem_cons_of_mem _ (List.mem_cons_of_mem _ (List.mem_cons_of_mem _ hq))).snoc (List.mem_cons_of_mem _ (List.mem_cons_of_mem _ (List.mem_cons_self ..))), fun p hp => by
    rcases List.mem_cons.mp hp with rfl | hp
    · exact hD
    · rcases List.mem_cons.mp hp with rfl | hp
      · exact hC
      · rcases List.mem_cons.mp hp with rfl | hp
        · exact hB
        · exact hne p hp, by simp [hvv], .inr ⟨x, hx, rfl, rfl⟩, fun q hq => List.mem_cons_of_mem _ (List.mem_cons_of_mem _ (List.mem_cons_of_mem _ hq))⟩
theorem tested_fin0 {h₀ h : Heap} {L D l2 l3 ta td : Addr} {i d T b c : Obj} {news : List (Addr × Obj)} (N : News h₀ L h ((D, T) :: (l2, b) :: (l3, c) :: (ta, i) :: (td, d) :: news)) :
    News h₀ L h ((ta, i) :: (td, d) :: (D, T) :: news) := cb_drop N fun q hq => by
  simp only [List.mem_cons] at hq ⊢
  rcases hq with h | h | h | h <;> simp [h]
theorem tested_ret0 {P : Params} {ta td D la : Addr} {path con : Str} {t1 t2 t3 u1 u2 u3 ts : Tok} {n : Nat} {l : List (Bool × Str)} {vs : List Value} {news : List (Addr × Obj)} (hv : AddedIs news vs l) (hla : (la, listOf vs.toArray n) ∈ news) (hne : ∀ p ∈ news, p.1 ≠ td) (hD : D ≠ td) (hvv : vs.length = l.length) :
    TestedPost P ta td path con t1 u1 u2 u3 l news (.ref D) ((ta, instObj 1023 td) :: (td, toldD P path (Str.ofString "*") con t1 t2 t3 u1 u2 u3) :: (D, ({ cls := .type "tuple", data := .seq #[.str (Str.ofString "*") ts, .ref la] } : Obj)) :: news) :=
  ⟨D, la, ts, l, _, t2, t3, n, vs, _, rfl, rfl, List.mem_cons_self .., List.mem_cons_of_mem _ hla, (hv.mono fun q hq => List.mem_cons_of_mem _ hq), fun p hp => by
    rcases List.mem_cons.mp hp with rfl | hp
    · exact hD
    · exact hne p hp, hvv, .inl ⟨rfl, rfl⟩, fun q hq => List.mem_cons_of_mem _ hq⟩
local macro_rules | `(tactic| walk_at "call builtin:list.index") => `(tactic| (k_here; refine index_strs (i := 1) (vs := [_, _, _, _, _]) (News.isList (by k_asm) (List.mem_cons_self ..)) names5_are (by decide) (by decide +kernel) (by decide +kernel) ?_))
local macro_rules | `(tactic| walk_at "call ref") => `(tactic| (k_here; k_dflt (refine' Ctr.use (c_nt_a (by assumption) _ _ _ _ _ _ _ _ _ _ _ ?hlc ?hne ?hta) ?k1 ?k2 ?k3 ?k4 ?k5 ?kK ?kd ?ku ?_); (case hne => assumption); (case hta => assumption); (case k4 => exact news_sub (by assumption) (by repeat (first | exact List.Sublist.refl _ | refine List.Sublist.cons₂ _ ?_ | refine List.Sublist.cons _ ?_))); (case hlc => assumption); (case k1 => k_asm); (case k2 => k_asm); (case k3 => k_asm); (case k5 => k_asm); (case kK => first | exact rfl | assumption); (case kd => ktr_room); (case ku => ktr_units); (intro r9 n9 h9 tk9 F9 N9 o9; obtain ⟨e9, t9, v9, e9'⟩ := o9; subst e9; subst e9'); (try dsimp only)))
set_option maxHeartbeats 4000000 in
theorem c_t_a {prog : Program} {w : World} {p : Program} {loose : List Str} {mean : ExcName → Option Value} {mg mb : Str → Option Value} (hp : prog = PySem.Challenge.rw_ad5043_01.prog)
    (news : List (Addr × Obj)) (ta td la : Addr) (path con : Str) (t1 t2 t3 u1 u2 u3 tn : Tok) (hlc : con.length ≤ 1000) (hne : ∀ p ∈ news, p.1 ≠ td) (hta : ta ≠ td) (vs : List Value) (n : Nat) (l : List (Bool × Str)) (hla : (la, listOf vs.toArray n) ∈ news) (hv : AddedIs news vs l) (hvl : vs.length ≤ 100) (hvv : vs.length = l.length) :
    Ctr prog w p loose mean mg mb 1508 30 200 ((ta, instObj 1023 td) :: (td, toldD w.params path (Str.ofString "a") con t1 t2 t3 u1 u2 u3) :: news) [.ref ta, .str (Str.ofString "a") tn, .ref la] (TestedPost w.params ta td path con t1 u1 u2 u3 l news) := by
  revert hp
  unfold Ctr
  k_fill
  intro hp dp un gd cn cs a ccd cl outer A₀ base h₀ L m s Q E B F X N T hk hR hU hret
  refine wpAny_call ?_
  k_dflt ktr_enter
  k_steps
  all_goals first
    | exact hret _ _ _ _ (by assumption) (tested_fin (by assumption)) (tested_ret (by decide +kernel) (by assumption) (by assumption) (by k_ne) (by k_ne) (by k_ne) (by assumption))
    | exact hret _ _ _ _ (by assumption) (tested_fin0 (by assumption)) (tested_ret0 (by assumption) (by assumption) (by assumption) (by k_ne) (by assumption))
local macro_rules | `(tactic| walk_at "call builtin:list.index") => `(tactic| (k_here; refine index_strs (i := 2) (vs := [_, _, _, _, _]) (News.isList (by k_asm) (List.mem_cons_self ..)) names5_are (by decide) (by decide +kernel) (by decide +kernel) ?_))
local macro_rules | `(tactic| walk_at "call ref") => `(tactic| (k_here; k_dflt (refine' Ctr.use (c_nt_b (by assumption) _ _ _ _ _ _ _ _ _ _ _ ?hlc ?hne ?hta) ?k1 ?k2 ?k3 ?k4 ?k5 ?kK ?kd ?ku ?_); (case hne => assumption); (case hta => assumption); (case k4 => exact news_sub (by assumption) (by repeat (first | exact List.Sublist.refl _ | refine List.Sublist.cons₂ _ ?_ | refine List.Sublist.cons _ ?_))); (case hlc => assumption); (case k1 => k_asm); (case k2 => k_asm); (case k3 => k_asm); (case k5 => k_asm); (case kK => first | exact rfl | assumption); (case kd => ktr_room); (case ku => ktr_units); (intro r9 n9 h9 tk9 F9 N9 o9; obtain ⟨e9, t9, v9, e9'⟩ := o9; subst e9; subst e9'); (try dsimp only)))
set_option maxHeartbeats 4000000 in
theorem c_t_b {prog : Program} {w : World} {p : Program} {loose : List Str} {mean : ExcName → Option Value} {mg mb : Str → Option Value} (hp : prog = PySem.Challenge.rw_ad5043_01.prog)
    (news : List (Addr × Obj)) (ta td la : Addr) (path con : Str) (t1 t2 t3 u1 u2 u3 tn : Tok) (hlc : con.length ≤ 1000) (hne : ∀ p ∈ news, p.1 ≠ td) (hta : ta ≠ td) (vs : List Value) (n : Nat) (l : List (Bool × Str)) (hla : (la, listOf vs.toArray n) ∈ news) (hv : AddedIs news vs l) (hvl : vs.length ≤ 100) (hvv : vs.length = l.length) :
    Ctr prog w p loose mean mg mb 1508 30 200 ((ta, instObj 1023 td) :: (td, toldD w.params path (Str.ofString "n:b") con t1 t2 t3 u1 u2 u3) :: news) [.ref ta, .str (Str.ofString "n:b") tn, .ref la] (TestedPost w.params ta td path con t1 u1 u2 u3 l news) := by
  revert hp
  unfold Ctr
  k_fill
  intro hp dp un gd cn cs a ccd cl outer A₀ base h₀ L m s Q E B F X N T hk hR hU hret
  refine wpAny_call ?_
  k_dflt ktr_enter
  k_steps
  all_goals first
    | exact hret _ _ _ _ (by assumption) (tested_fin (by assumption)) (tested_ret (by decide +kernel) (by assumption) (by assumption) (by k_ne) (by k_ne) (by k_ne) (by assumption))
    | exact hret _ _ _ _ (by assumption) (tested_fin0 (by assumption)) (tested_ret0 (by assumption) (by assumption) (by assumption) (by k_ne) (by assumption))
local macro_rules | `(tactic| walk_at "call builtin:list.index") => `(tactic| (k_here; refine index_strs (i := 3) (vs := [_, _, _, _, _]) (News.isList (by k_asm) (List.mem_cons_self ..)) names5_are (by decide) (by decide +kernel) (by decide +kernel) ?_))
local macro_rules | `(tactic| walk_at "call ref") => `(tactic| (k_here; k_dflt (refine' Ctr.use (c_nt_c (by assumption) _ _ _ _ _ _ _ _ _ _ _ ?hlc ?hne ?hta) ?k1 ?k2 ?k3 ?k4 ?k5 ?kK ?kd ?ku ?_); (case hne => assumption); (case hta => assumption); (case k4 => exact news_sub (by assumption) (by repeat (first | exact List.Sublist.refl _ | refine List.Sublist.cons₂ _ ?_ | refine List.Sublist.cons _ ?_))); (case hlc => assumption); (case k1 => k_asm); (case k2 => k_asm); (case k3 => k_asm); (case k5 => k_asm); (case kK => first | exact rfl | assumption); (case kd => ktr_room); (case ku => ktr_units); (intro r9 n9 h9 tk9 F9 N9 o9; obtain ⟨e9, t9, v9, e9'⟩ := o9; subst e9; subst e9'); (try dsimp only)))
set_option maxHeartbeats 4000000 in
theorem c_t_c {prog : Program} {w : World} {p : Program} {loose : List Str} {mean : ExcName → Option Value} {mg mb : Str → Option Value} (hp : prog = PySem.Challenge.rw_ad5043_01.prog)
    (news : List (Addr × Obj)) (ta td la : Addr) (path con : Str) (t1 t2 t3 u1 u2 u3 tn : Tok) (hlc : con.length ≤ 1000) (hne : ∀ p ∈ news, p.1 ≠ td) (hta : ta ≠ td) (vs : List Value) (n : Nat) (l : List (Bool × Str)) (hla : (la, listOf vs.toArray n) ∈ news) (hv : AddedIs news vs l) (hvl : vs.length ≤ 100) (hvv : vs.length = l.length) :
    Ctr prog w p loose mean mg mb 1508 30 200 ((ta, instObj 1023 td) :: (td, toldD w.params path (Str.ofString "c d") con t1 t2 t3 u1 u2 u3) :: news) [.ref ta, .str (Str.ofString "c d") tn, .ref la] (TestedPost w.params ta td path con t1 u1 u2 u3 l news) := by
  revert hp
  unfold Ctr
  k_fill
  intro hp dp un gd cn cs a ccd cl outer A₀ base h₀ L m s Q E B F X N T hk hR hU hret
  refine wpAny_call ?_
  k_dflt ktr_enter
  k_steps
  all_goals first
    | exact hret _ _ _ _ (by assumption) (tested_fin (by assumption)) (tested_ret (by decide +kernel) (by assumption) (by assumption) (by k_ne) (by k_ne) (by k_ne) (by assumption))
    | exact hret _ _ _ _ (by assumption) (tested_fin0 (by assumption)) (tested_ret0 (by assumption) (by assumption) (by assumption) (by k_ne) (by assumption))
local macro_rules | `(tactic| walk_at "call builtin:list.index") => `(tactic| (k_here; refine index_strs (i := 4) (vs := [_, _, _, _, _]) (News.isList (by k_asm) (List.mem_cons_self ..)) names5_are (by decide) (by decide +kernel) (by decide +kernel) ?_))
local macro_rules | `(tactic| walk_at "call ref") => `(tactic| (k_here; k_dflt (refine' Ctr.use (c_nt_i (by assumption) _ _ _ _ _ _ _ _ _ _ _ ?hlc ?hne ?hta) ?k1 ?k2 ?k3 ?k4 ?k5 ?kK ?kd ?ku ?_); (case hne => assumption); (case hta => assumption); (case k4 => exact news_sub (by assumption) (by repeat (first | exact List.Sublist.refl _ | refine List.Sublist.cons₂ _ ?_ | refine List.Sublist.cons _ ?_))); (case hlc => assumption); (case k1 => k_asm); (case k2 => k_asm); (case k3 => k_asm); (case k5 => k_asm); (case kK => first | exact rfl | assumption); (case kd => ktr_room); (case ku => ktr_units); (intro r9 n9 h9 tk9 F9 N9 o9; obtain ⟨e9, t9, v9, e9'⟩ := o9; subst e9; subst e9'); (try dsimp only)))
set_option maxHeartbeats 4000000 in
theorem c_t_i {prog : Program} {w : World} {p : Program} {loose : List Str} {mean : ExcName → Option Value} {mg mb : Str → Option Value} (hp : prog = PySem.Challenge.rw_ad5043_01.prog)
    (news : List (Addr × Obj)) (ta td la : Addr) (path con : Str) (t1 t2 t3 u1 u2 u3 tn : Tok) (hlc : con.length ≤ 1000) (hne : ∀ p ∈ news, p.1 ≠ td) (hta : ta ≠ td) (vs : List Value) (n : Nat) (l : List (Bool × Str)) (hla : (la, listOf vs.toArray n) ∈ news) (hv : AddedIs news vs l) (hvl : vs.length ≤ 100) (hvv : vs.length = l.length) :
    Ctr prog w p loose mean mg mb 1508 30 200 ((ta, instObj 1023 td) :: (td, toldD w.params path (Str.ofString "it's") con t1 t2 t3 u1 u2 u3) :: news) [.ref ta, .str (Str.ofString "it's") tn, .ref la] (TestedPost w.params ta td path con t1 u1 u2 u3 l news) := by
  revert hp
  unfold Ctr
  k_fill
  intro hp dp un gd cn cs a ccd cl outer A₀ base h₀ L m s Q E B F X N T hk hR hU hret
  refine wpAny_call ?_
  k_dflt ktr_enter
  k_steps
  all_goals first
    | exact hret _ _ _ _ (by assumption) (tested_fin (by assumption)) (tested_ret (by decide +kernel) (by assumption) (by assumption) (by k_ne) (by k_ne) (by k_ne) (by assumption))
    | exact hret _ _ _ _ (by assumption) (tested_fin0 (by assumption)) (tested_ret0 (by assumption) (by assumption) (by assumption) (by k_ne) (by assumption))
local macro_rules | `(tactic| walk_at "call builtin:list.index") => `(tactic| (k_here; refine index_strs (i := 0) (vs := [_, _, _, _, _]) (News.isList (by k_asm) (List.mem_cons_self ..)) names5_are (by decide) (by decide +kernel) (by decide +kernel) ?_))
local macro_rules | `(tactic| walk_at "call ref") => `(tactic| (k_here; k_dflt (refine' Ctr.use (c_nt_s (by assumption) _ _ _ _ _ _ _ _ _ _ _ ?hlc ?hne ?hta) ?k1 ?k2 ?k3 ?k4 ?k5 ?kK ?kd ?ku ?_); (case hne => assumption); (case hta => assumption); (case k4 => exact news_sub (by assumption) (by repeat (first | exact List.Sublist.refl _ | refine List.Sublist.cons₂ _ ?_ | refine List.Sublist.cons _ ?_))); (case hlc => assumption); (case k1 => k_asm); (case k2 => k_asm); (case k3 => k_asm); (case k5 => k_asm); (case kK => first | exact rfl | assumption); (case kd => ktr_room); (case ku => ktr_units); (intro r9 n9 h9 tk9 F9 N9 o9; obtain ⟨e9, t9, v9, e9'⟩ := o9; subst e9; subst e9'); (try dsimp only)))
set_option maxHeartbeats 4000000 in
theorem c_t_s {prog : Program} {w : World} {p : Program} {loose : List Str} {mean : ExcName → Option Value} {mg mb : Str → Option Value} (hp : prog = PySem.Challenge.rw_ad5043_01.prog)
    (news : List (Addr × Obj)) (ta td la : Addr) (path con : Str) (t1 t2 t3 u1 u2 u3 tn : Tok) (hlc : con.length ≤ 1000) (hne : ∀ p ∈ news, p.1 ≠ td) (hta : ta ≠ td) (vs : List Value) (n : Nat) (l : List (Bool × Str)) (hla : (la, listOf vs.toArray n) ∈ news) (hv : AddedIs news vs l) (hvl : vs.length ≤ 100) (hvv : vs.length = l.length) :
    Ctr prog w p loose mean mg mb 1508 30 200 ((ta, instObj 1023 td) :: (td, toldD w.params path (Str.ofString "*") con t1 t2 t3 u1 u2 u3) :: news) [.ref ta, .str (Str.ofString "*") tn, .ref la] (TestedPost w.params ta td path con t1 u1 u2 u3 l news) := by
  revert hp
  unfold Ctr
  k_fill
  intro hp dp un gd cn cs a ccd cl outer A₀ base h₀ L m s Q E B F X N T hk hR hU hret
  refine wpAny_call ?_
  k_dflt ktr_enter
  k_steps
  all_goals first
    | exact hret _ _ _ _ (by assumption) (tested_fin (by assumption)) (tested_ret (by decide +kernel) (by assumption) (by assumption) (by k_ne) (by k_ne) (by k_ne) (by assumption))
    | exact hret _ _ _ _ (by assumption) (tested_fin0 (by assumption)) (tested_ret0 (by assumption) (by assumption) (by assumption) (by k_ne) (by assumption))
abbrev names5 : List Str := [Str.ofString "*", Str.ofString "a", Str.ofString "n:b", Str.ofString "c d", Str.ofString "it's"]
theorem c_tested {prog : Program} {w : World} {p : Program} {loose : List Str} {mean : ExcName → Option Value} {mg mb : Str → Option Value} (hp : prog = PySem.Challenge.rw_ad5043_01.prog)
    (news : List (Addr × Obj)) (ta td la : Addr) (path elem con : Str) (t1 t2 t3 u1 u2 u3 tn : Tok) (hel : elem ∈ names5) (hlc : con.length ≤ 1000) (hne : ∀ p ∈ news, p.1 ≠ td) (hta : ta ≠ td) (vs : List Value) (n : Nat) (l : List (Bool × Str)) (hla : (la, listOf vs.toArray n) ∈ news) (hv : AddedIs news vs l) (hvl : vs.length ≤ 100) (hvv : vs.length = l.length) :
    Ctr prog w p loose mean mg mb 1508 30 200 ((ta, instObj 1023 td) :: (td, toldD w.params path elem con t1 t2 t3 u1 u2 u3) :: news) [.ref ta, .str elem tn, .ref la] (TestedPost w.params ta td path con t1 u1 u2 u3 l news) := by
  simp only [names5, List.mem_cons, List.not_mem_nil, or_false] at hel
  rcases hel with rfl | rfl | rfl | rfl | rfl
  · exact c_t_s hp news ta td la path con t1 t2 t3 u1 u2 u3 tn hlc hne hta vs n l hla hv hvl hvv
  · exact c_t_a hp news ta td la path con t1 t2 t3 u1 u2 u3 tn hlc hne hta vs n l hla hv hvl hvv
  · exact c_t_b hp news ta td la path con t1 t2 t3 u1 u2 u3 tn hlc hne hta vs n l hla hv hvl hvv
  · exact c_t_c hp news ta td la path con t1 t2 t3 u1 u2 u3 tn hlc hne hta vs n l hla hv hvl hvv
  · exact c_t_i hp news ta td la path con t1 t2 t3 u1 u2 u3 tn hlc hne hta vs n l hla hv hvl hvv
end Mine
namespace Mine
open PySem PySem.W PyProof.Rows PySem.Calls PySem.Spec PyProof.V
theorem cps_app (a b : Str) : (a ++ b).cps.toList = a.cps.toList ++ b.cps.toList := by
  show (a.cps ++ b.cps).toList = _
  rw [Array.toList_append]
/-- one deed more: the text of the condition -/
theorem added1_cond {l : List (Bool × Str)} (hg : Good l) (o : Bool) (m : Str) : added1 (cond l) m (wordS o) = cond ((o, m) :: l) := by
  cases l with
  | nil =>
    rw [added1_none m (wordS o) (by decide : (cond []).length = 0)]
    rfl
  | cons q l =>
    have h := cond_pos (q :: l) (by simp) hg
    rw [added1_con m (wordS o) (by omega)]
    apply str_ext
    rw [cond_two_list]
    simp only [cps_app]
    rw [S_list "(" [40], S_list ") " [41, 32], S_list " (" [32, 40], S_list ")" [41]]
    simp
theorem added1_and {l : List (Bool × Str)} (hg : Good l) (m : Str) : added1 (cond l) m (Str.ofString "and") = cond ((false, m) :: l) := added1_cond hg false m
end Mine
namespace Mine
open PySem PySem.W PyProof.Rows PySem.Calls PySem.Spec PyProof.V
def Inv (P : Params) (sl : Addr) (i : Nat) (m : Str → Option Value) (news : List (Addr × Obj)) : Prop :=
  ∃ ta td la path name tp tn t1 t2 t3 u1 u2 u3 n vs l rest, news = (ta, instObj 1023 td) :: (td, toldD P path name (cond l) t1 t2 t3 u1 u2 u3) :: rest ∧ (∀ p ∈ rest, p.1 ≠ td) ∧ ta ≠ td ∧ (la, listOf vs.toArray n) ∈ rest ∧ AddedIs rest vs l.reverse ∧ vs.length = l.length ∧ Good l ∧
    l.length ≤ i ∧ path.length ≤ 10 + 1000 * i ∧ name ∈ names5 ∧ m (Str.ofString "script") = some (.ref sl) ∧ m (Str.ofString "told") = some (.ref ta) ∧ m (Str.ofString "path") = some (.str path tp) ∧ m (Str.ofString "name") = some (.str name tn) ∧ m (Str.ofString "added") = some (.ref la)
theorem AddedIs.mono2 {a b : List (Addr × Obj)} (hs : ∀ A o m tw tm, (A, pairObj o m tw tm) ∈ a → (A, pairObj o m tw tm) ∈ b) {vs : List Value} {l : List (Bool × Str)} (h : AddedIs a vs l) : AddedIs b vs l := by
  induction h with
  | nil => exact .nil
  | cons m _ ih => exact .cons (hs _ _ _ _ _ m) ih
theorem cls_ne {a b : String} (h : a ≠ b) : Value.type a ≠ Value.type b := fun e => h (Value.type.inj e)
theorem off_iter {h₀ h : Heap} {L I : Addr} {oI o : Obj} {a : Addr} {all : List (Addr × Obj)} (N : News h₀ L h all) (hI : (I, oI) ∈ all) (hoI : oI.cls = .type "range_iterator") (ha : (a, o) ∈ all) (ho : o.cls ≠ .type "range_iterator") : a ≠ I :=
  News.twoPlaces N (p := (a, o)) (q := (I, oI)) ha hI fun e => ho (by have e' : o = oI := e; rw [e']; exact hoI)
theorem loop_end {P : Params} {sl : Addr} {i : Nat} {h₀ h' : Heap} {L I : Addr} {m' : Str → Option Value} {oI : Obj} {all : List (Addr × Obj)} {s₁ : Shared} {tk : Nat} {R : (Str → Option Value) → List (Addr × Obj) → Prop}
    (F : Fr h₀ L h' m') (N : News h₀ L h' all) (hI : (I, oI) ∈ all) (hoI : oI.cls = .type "range_iterator") (inv : Inv P sl i m' all) (ih : ∀ m₁ news₁, Inv P sl i m₁ news₁ → R m₁ news₁) : UnrEndW h₀ L s₁ [(I, oI)] (fun m n => SubL [] n ∧ R m n) { s₁ with heap := h', toks := tk } := by
  obtain ⟨ta, td, la, path, name, tp, tn, t1, t2, t3, u1, u2, u3, n, vs, l, rest, rfl, hne, hta, hla, hv, hvl, hg, hl, hpl, hnm, e1, e2, e3, e4, e5⟩ := inv
  have mta := List.mem_cons_self (a := (ta, instObj 1023 td)) (l := (td, toldD P path name (cond l) t1 t2 t3 u1 u2 u3) :: rest)
  have mtd : (td, toldD P path name (cond l) t1 t2 t3 u1 u2 u3) ∈ (ta, instObj 1023 td) :: (td, toldD P path name (cond l) t1 t2 t3 u1 u2 u3) :: rest := List.mem_cons_of_mem _ (List.mem_cons_self ..)
  have hta' : ta ≠ I := off_iter N hI hoI mta (by intro h; cases h)
  have htd' : td ≠ I := off_iter N hI hoI mtd (cls_ne (by decide))
  have up : ∀ a o, (a, o) ∈ rest → o.cls ≠ .type "range_iterator" → (a, o) ∈ rest.filter fun p => p.1 != I := fun a o hm hc => List.mem_filter.mpr ⟨hm, by
    have := off_iter N hI hoI (List.mem_cons_of_mem _ (List.mem_cons_of_mem _ hm)) hc
    simpa using this⟩
  have keep : ∀ p ∈ (ta, instObj 1023 td) :: (td, toldD P path name (cond l) t1 t2 t3 u1 u2 u3) :: rest.filter (fun p => p.1 != I), p ∈ (ta, instObj 1023 td) :: (td, toldD P path name (cond l) t1 t2 t3 u1 u2 u3) :: rest := fun p hp => by
    rcases List.mem_cons.mp hp with rfl | hp
    · exact mta
    · rcases List.mem_cons.mp hp with rfl | hp
      · exact mtd
      · exact List.mem_cons_of_mem _ (List.mem_cons_of_mem _ (List.mem_filter.mp hp).1)
  refine ⟨h', tk, m', (ta, instObj 1023 td) :: (td, toldD P path name (cond l) t1 t2 t3 u1 u2 u3) :: rest.filter (fun p => p.1 != I), rfl, F, fun p hp => ?_, fun p hp q hq => ?_, trivial, ih _ _ ?_⟩
  · rcases List.mem_append.mp hp with hp | hp
    · rw [List.mem_singleton.mp hp]; exact N _ hI
    · exact N _ (keep p hp)
  · rw [List.mem_singleton.mp hq]
    rcases List.mem_cons.mp hp with rfl | hp
    · exact hta'
    · rcases List.mem_cons.mp hp with rfl | hp
      · exact htd'
      · simpa using (List.mem_filter.mp hp).2
  · exact ⟨ta, td, la, path, name, tp, tn, t1, t2, t3, u1, u2, u3, n, vs, l, _, rfl, fun p hp => hne p (List.mem_filter.mp hp).1, hta, up _ _ hla (cls_ne (by decide)), hv.mono2 fun A o m tw tm hm => up _ _ hm (cls_ne (by decide)), hvl, hg, hl, hpl, hnm, e1, e2, e3, e4, e5⟩
theorem way_lo {v v' : Int} (h : 0 ≤ v) : 0 ≤ 3 * v + Int.fmod v' 6 := by have := fmod_lo v' (by decide : (0 : Int) < 6); omega
theorem way_hi {v v' : Int} (h : v < 1000003) : 3 * v + Int.fmod v' 6 < 100000000 := by have := fmod_hi v' (by decide : (0 : Int) < 6); omega
theorem ten_lo {v : Int} (h : 0 ≤ v) : 0 ≤ Int.fdiv v 10 := by rw [Int.fdiv_eq_ediv_of_nonneg _ (by decide)]; omega
theorem ten_hi {v : Int} (h : 0 ≤ v) (h' : v < 1000003) : Int.fdiv v 10 < 100000000 := by rw [Int.fdiv_eq_ediv_of_nonneg _ (by decide)]; omega
theorem shown_len (path elem con : Str) : (shown path elem con).length ≤ path.length + elem.length + con.length + 2 := by
  unfold shown
  split
  · rw [len_list, cps_app]; simp [Str.length]; omega
  · rw [len_list]; simp only [cps_app]; rw [S_list "[" [91], S_list "]" [93]]; simp [Str.length]; omega
theorem app_len (a b : Str) : (a ++ b).length = a.length + b.length := by rw [len_list, cps_app]; simp [Str.length]
end Mine
namespace Mine
open PySem PySem.W PyProof.Rows PySem.Calls PySem.Spec PyProof.V
def Mid {g h : Heap} {L : Addr} {m : Str → Option Value} (_ : Fr g L h m) (P : Params) (s : Shared) (sl I : Addr) (oI : Obj) (i : Nat) (f : Flow) (s' : Shared) : Prop :=
  f = .next ∧ ∃ h' tk' u all, s' = { s with heap := h', toks := tk' } ∧ Fr g L h' u ∧ News g L h' all ∧ (I, oI) ∈ all ∧ Inv P sl i u all
section
variable {g h h' : Heap} {L : Addr} {m u : Str → Option Value} {FF : Fr g L h m} {P : Params} {s : Shared} {sl I ta td la D B : Addr} {oI : Obj} {i : Nat} {tk : Nat} {path name mk : Str} {o : Bool} {l : List (Bool × Str)} {vs : List Value} {n : Nat} {restI : List (Addr × Obj)} {t1 t2 t3 u1 u2 u3 tp tn tw tm : Tok}
theorem mid_added (F : Fr g L h' u) (N : News g L h' ((ta, instObj 1023 td) :: (td, toldD P path name (added1 (cond l) mk (wordS o)) t1 t2 t3 u1 u2 u3) :: (D, listOf (vs ++ [Value.ref B]).toArray 0) :: (B, pairObj o mk tw tm) :: restI))
    (hta : ta ≠ td) (hg : Good l) (hvl : vs.length = l.length) (hl6 : l.length ≤ i) (hpl : path.length ≤ 10 + 1000 * i) (hnm : name ∈ names5) (hne : ∀ p ∈ restI, p.1 ≠ td) (hv : AddedIs restI vs l.reverse) (hII : (I, oI) ∈ restI) (hmk : mk ∈ marks) (hD : D ≠ td) (hB : B ≠ td)
    (e1 : u (Str.ofString "script") = some (.ref sl)) (e2 : u (Str.ofString "told") = some (.ref ta)) (e3 : u (Str.ofString "path") = some (.str path tp)) (e4 : u (Str.ofString "name") = some (.str name tn)) (e5 : u (Str.ofString "added") = some (.ref D)) :
    Mid FF P s sl I oI (i + 1) .next { s with heap := h', toks := tk } := by
  rw [added1_cond hg] at N
  refine ⟨rfl, h', tk, u, _, rfl, F, N, ?_, ta, td, D, path, name, tp, tn, t1, t2, t3, u1, u2, u3, 0, vs ++ [.ref B], (o, mk) :: l, _, rfl, fun p hp => ?_, hta, List.mem_cons_self .., ?_, by simp [hvl], fun q hq => ?_, by simp; omega, by omega, hnm, e1, e2, e3, e4, e5⟩
  · exact List.mem_cons_of_mem _ (List.mem_cons_of_mem _ (List.mem_cons_of_mem _ (List.mem_cons_of_mem _ hII)))
  · rcases List.mem_cons.mp hp with rfl | hp
    · exact hD
    · rcases List.mem_cons.mp hp with rfl | hp
      · exact hB
      · exact hne p hp
  · rw [List.reverse_cons]
    exact (hv.mono fun q hq => List.mem_cons_of_mem _ (List.mem_cons_of_mem _ hq)).snoc (List.mem_cons_of_mem _ (List.mem_cons_self ..))
  · rcases List.mem_cons.mp hq with rfl | hq
    · exact hmk
    · exact hg q hq
theorem mid_star (F : Fr g L h' u) (N : News g L h' ((ta, instObj 1023 td) :: (td, toldD P (path ++ S "*/") name (cond l) t1 t2 t3 u1 u2 u3) :: restI))
    (hta : ta ≠ td) (hg : Good l) (hvl : vs.length = l.length) (hl6 : l.length ≤ i) (hpl : path.length ≤ 10 + 1000 * i) (hnm : name ∈ names5) (hne : ∀ p ∈ restI, p.1 ≠ td) (hla : (la, listOf vs.toArray n) ∈ restI) (hv : AddedIs restI vs l.reverse) (hII : (I, oI) ∈ restI)
    (e1 : u (Str.ofString "script") = some (.ref sl)) (e2 : u (Str.ofString "told") = some (.ref ta)) (e3 : u (Str.ofString "path") = some (.str (path ++ S "*/") tp)) (e4 : u (Str.ofString "name") = some (.str name tn)) (e5 : u (Str.ofString "added") = some (.ref la)) :
    Mid FF P s sl I oI (i + 1) .next { s with heap := h', toks := tk } := by
  refine ⟨rfl, h', tk, u, _, rfl, F, N, ?_, ta, td, la, path ++ S "*/", name, tp, tn, t1, t2, t3, u1, u2, u3, n, vs, l, _, rfl, hne, hta, hla, hv, hvl, hg, by omega, ?_, hnm, e1, e2, e3, e4, e5⟩
  · exact List.mem_cons_of_mem _ (List.mem_cons_of_mem _ hII)
  · rw [app_len]
    have : (S "*/").length = 2 := by decide +kernel
    omega
theorem mid_tested {con : Str} {l9 : List (Bool × Str)} {lb : Addr} {rest9 : List (Addr × Obj)} (F : Fr g L h' u) (N : News g L h' ((ta, instObj 1023 td) :: (td, toldD P path (Str.ofString "*") con t1 t2 t3 u1 u2 u3) :: rest9))
    (hta : ta ≠ td) (hg : Good l) (hl6 : l.length ≤ i) (hpl : path.length ≤ 10 + 1000 * i) (hne : ∀ p ∈ rest9, p.1 ≠ td) (hlb : (lb, listOf vs.toArray n) ∈ rest9) (hv : AddedIs rest9 vs l9) (hvl : vs.length = l9.length) (hII : (I, oI) ∈ restI) (hsub : ∀ q ∈ restI, q ∈ rest9)
    (hor : (l9 = l.reverse ∧ con = cond l) ∨ ∃ m ∈ marks, l9 = l.reverse ++ [(false, m)] ∧ con = added1 (cond l) m (Str.ofString "and"))
    (e1 : u (Str.ofString "script") = some (.ref sl)) (e2 : u (Str.ofString "told") = some (.ref ta)) (e3 : u (Str.ofString "path") = some (.str path tp)) (e4 : u (Str.ofString "name") = some (.str (Str.ofString "*") tn)) (e5 : u (Str.ofString "added") = some (.ref lb)) :
    Mid FF P s sl I oI (i + 1) .next { s with heap := h', toks := tk } := by
  obtain ⟨l2, rfl, rfl, hg2, hl2⟩ : ∃ l2, l9 = l2.reverse ∧ con = cond l2 ∧ Good l2 ∧ l2.length ≤ i + 1 := by
    rcases hor with ⟨rfl, rfl⟩ | ⟨m, hm, rfl, rfl⟩
    · exact ⟨l, rfl, rfl, hg, by omega⟩
    · refine ⟨(false, m) :: l, by rw [List.reverse_cons], added1_and hg m, fun q hq => ?_, by simp; omega⟩
      rcases List.mem_cons.mp hq with rfl | hq
      · exact hm
      · exact hg q hq
  exact ⟨rfl, h', tk, u, _, rfl, F, N, List.mem_cons_of_mem _ (List.mem_cons_of_mem _ (hsub _ hII)), ta, td, lb, path, Str.ofString "*", tp, tn, t1, t2, t3, u1, u2, u3, n, vs, l2, _, rfl, hne, hta, hlb, hv, by rw [hvl, List.length_reverse], hg2, hl2, by omega, by decide, e1, e2, e3, e4, e5⟩
theorem tuple_up {T : Addr} {oT : Obj} {x y : Addr × Obj} {rest9 : List (Addr × Obj)} (N : News g L h (x :: y :: rest9)) (hT : (T, oT) ∈ rest9) : News g L h ((T, oT) :: x :: y :: rest9) := cb_drop N fun q hq => by
  rcases List.mem_cons.mp hq with rfl | hq
  · exact List.mem_cons_of_mem _ (List.mem_cons_of_mem _ hT)
  · exact hq
theorem Ctr.re {prog : Program} {w : World} {p : Program} {loose : List Str} {mean : ExcName → Option Value} {mg mb : Str → Option Value} {f : Addr} {dep un0 : Nat} {news all : List (Addr × Obj)} {vs : List Value} {Ret Ret' : Value → List (Addr × Obj) → Prop}
    (C : Ctr prog w p loose mean mg mb f dep un0 news vs Ret) (sub : ∀ q ∈ news, q ∈ all) (out : ∀ r n', Ret r n' → ∃ n'', (∀ q ∈ n'', q ∈ n') ∧ Ret' r n'') : Ctr prog w p loose mean mg mb f dep un0 all vs Ret' := by
  intro dp un gd cn cs a ccd cl outer A₀ base h₀ L m s Q E B F X N T hk hR hU hret
  refine C dp un gd cn cs a ccd cl outer A₀ base h₀ L m s Q E B F X (cb_drop N sub) T hk hR hU fun r n' h' tk' F' N' hr => ?_
  obtain ⟨n'', hs, hr'⟩ := out r n' hr
  exact hret r n'' h' tk' F' (cb_drop N' hs) hr'
end
end Mine
namespace Mine
open PySem PySem.W PyProof.Rows PySem.Calls PySem.Spec PyProof.V
theorem perm4 {α : Type} {a b c d : α} {l : List α} : ∀ q ∈ a :: b :: c :: d :: l, q ∈ c :: d :: a :: b :: l := fun q hq => by
  simp only [List.mem_cons] at hq ⊢
  rcases hq with h | h | h | h | h <;> simp [h]
section
variable {prog : Program} {w : World} {p : Program} {loose : List Str} {mean : ExcName → Option Value} {mg mb : Str → Option Value}
theorem c_star_o (hp : prog = PySem.Challenge.rw_ad5043_01.prog)
    (news : List (Addr × Obj)) (ta td : Addr) (d : Obj) (oa od : Addr) (path elem con : Str) (t1 t2 t3 u1 u2 u3 : Tok) (hlen : path.length ≤ 100000) (hne : ∀ p ∈ news, p.1 ≠ od) (hta : oa ≠ od) (h1 : ta ≠ od) (h2 : td ≠ od) :
    Ctr prog w p loose mean mg mb 1013 10 60 ((ta, instObj 1023 td) :: (td, d) :: (oa, instObj 1023 od) :: (od, toldD w.params path elem con t1 t2 t3 u1 u2 u3) :: news) [.ref oa]
      (fun r news' => r = .none ∧ ∃ t1', news' = ((ta, instObj 1023 td) :: (td, d) :: (oa, instObj 1023 od) :: (od, toldD w.params (path ++ S "*/") elem con t1' t2 t3 u1 u2 u3) :: news)) :=
  Ctr.re (c_star hp ((ta, instObj 1023 td) :: (td, d) :: news) oa od path elem con t1 t2 t3 u1 u2 u3 hlen (fun q hq => by
    rcases List.mem_cons.mp hq with rfl | hq
    · exact h1
    · rcases List.mem_cons.mp hq with rfl | hq
      · exact h2
      · exact hne q hq) hta) perm4 fun r n' ⟨e, t, h⟩ => ⟨_, fun q hq => by rw [h]; exact perm4 q hq, e, t, rfl⟩
theorem c_added_o (hp : prog = PySem.Challenge.rw_ad5043_01.prog)
    (restI : List (Addr × Obj)) (ta td : Addr) (i d : Obj) (oa od lm : Addr) (path elem : Str) (t1 t2 t3 u1 u2 u3 tc : Tok) (c : Int) (h0 : 0 ≤ c) (hc : c < 100000000) (hne : ∀ p ∈ (lm, listOf #[] 0) :: restI, p.1 ≠ od) (hta : oa ≠ od) (h1 : ta ≠ od) (h2 : td ≠ od) :
    Ctr prog w p loose mean mg mb 1501 14 80 ((ta, i) :: (td, d) :: (oa, instObj 1023 od) :: (od, toldD w.params path elem (Str.ofString "") t1 t2 t3 u1 u2 u3) :: (lm, listOf #[] 0) :: restI) [.ref oa, .ref lm, .int c tc]
      (fun r news' => ∃ o m D B tw tm t3', r = .ref D ∧ m ∈ marks ∧ news' = ((ta, i) :: (td, d) :: (oa, instObj 1023 od) :: (od, toldD w.params path elem (cond [(o, m)]) t1 t2 t3' u1 u2 u3) :: (D, listOf #[Value.ref B] 0) :: (B, pairObj o m tw tm) :: (lm, listOf #[] 0) :: restI) ∧ D ≠ od ∧ B ≠ od) :=
  Ctr.re (c_added hp ((ta, i) :: (td, d) :: (lm, listOf #[] 0) :: restI) oa od lm path elem (Str.ofString "") t1 t2 t3 u1 u2 u3 tc c h0 hc (by decide) (fun q hq => by
    rcases List.mem_cons.mp hq with rfl | hq
    · exact h1
    · rcases List.mem_cons.mp hq with rfl | hq
      · exact h2
      · exact hne q hq) hta [] 0 (List.mem_cons_of_mem _ (List.mem_cons_of_mem _ (List.mem_cons_self ..))) (by decide)) (fun q hq => by
    simp only [List.mem_cons] at hq ⊢
    rcases hq with h | h | h | h | h <;> simp [h]) fun r n' ⟨o, m, D, B, tw, tm, t3', e, hm, h, hD, hB⟩ => ⟨(ta, i) :: (td, d) :: (oa, instObj 1023 od) :: (od, toldD w.params path elem (cond [(o, m)]) t1 t2 t3' u1 u2 u3) :: (D, listOf #[Value.ref B] 0) :: (B, pairObj o m tw tm) :: (lm, listOf #[] 0) :: restI, fun q hq => by
      have ec : added1 (Str.ofString "") m (wordS o) = cond [(o, m)] := added1_cond (l := []) (fun q hq => nomatch hq) o m
      rw [ec] at h
      rw [h]
      show q ∈ (oa, instObj 1023 od) :: (od, _) :: (D, listOf #[Value.ref B] 0) :: _
      simp only [List.mem_cons] at hq ⊢
      rcases hq with h | h | h | h | h | h | h | h <;> simp [h], o, m, D, B, tw, tm, t3', e, hm, rfl, hD, hB⟩
end
section
variable {g h h' : Heap} {L : Addr} {m u : Str → Option Value} {FF : Fr g L h m} {P : Params} {s : Shared} {sl I ta td oa od lm ln D B : Addr} {oI : Obj} {i : Nat} {tk : Nat} {path name mk x9 x : Str} {o : Bool} {l l2 : List (Bool × Str)} {vs : List Value} {n : Nat} {restI restX : List (Addr × Obj)} {t1 t2 t3 u1 u2 u3 s1 s2 s3 r1 r2 r3 tp tn tw tm tx tcell : Tok} {cell : Int}
theorem open_other {oT oN : Obj} {T : Addr} {d : Obj} (N : News g L h ((T, oT) :: (lm, listOf #[] 0) :: (oa, instObj 1023 od) :: (od, toldD P (Str.ofString "") x9 (Str.ofString "") s1 s2 s3 r1 r2 r3) :: (ln, oN) :: (ta, instObj 1023 td) :: (td, d) :: restI))
    (l1 : ln < od ∧ ta < od ∧ td < od ∧ AllLt od restI) (l2 : od < oa) (l3 : oa < lm ∧ od < lm ∧ ln < lm ∧ ta < lm ∧ td < lm ∧ AllLt lm restI) :
    News g L h ((ta, instObj 1023 td) :: (td, d) :: (oa, instObj 1023 od) :: (od, toldD P (Str.ofString "") x9 (Str.ofString "") s1 s2 s3 r1 r2 r3) :: (lm, listOf #[] 0) :: restI) ∧
      (∀ p ∈ (lm, listOf #[] 0) :: restI, p.1 ≠ od) ∧ oa ≠ od ∧ ta ≠ od ∧ td ≠ od ∧ oa ≠ td ∧ lm ≠ td := by
  refine ⟨cb_drop N fun q hq => ?_, fun p hp => ?_, Nat.ne_of_gt l2, Nat.ne_of_lt l1.2.1, Nat.ne_of_lt l1.2.2.1, Nat.ne_of_gt (Nat.lt_trans l1.2.2.1 l2), Nat.ne_of_gt l3.2.2.2.2.1⟩
  · simp only [List.mem_cons] at hq ⊢
    rcases hq with h | h | h | h | h | h <;> simp [h]
  · rcases List.mem_cons.mp hp with rfl | hp
    · exact Nat.ne_of_gt l3.2.1
    · exact Nat.ne_of_lt (ktn_ltOf l1.2.2.2 p hp)
/-- behind the first test of the fourth branch -/
def Mid2 (_ : Fr g L h m) (P : Params) (s : Shared) (sl I ta td : Addr) (oI d : Obj) (path name : Str) (tp tn : Tok) (f : Flow) (s' : Shared) : Prop :=
  f = .next ∧ ∃ h' tk' u restX D vs n l2 oa od x9 s1 s2 s3 r1 r2 r3 c tc, s' = { s with heap := h', toks := tk' } ∧ Fr g L h' u ∧ News g L h' ((ta, instObj 1023 td) :: (td, d) :: (oa, instObj 1023 od) :: (od, toldD P (Str.ofString "") x9 (cond l2) s1 s2 s3 r1 r2 r3) :: restX) ∧
    (D, listOf vs.toArray n) ∈ restX ∧ AddedIs restX vs l2.reverse ∧ vs.length = l2.length ∧ Good l2 ∧ l2.length ≤ 1 ∧ (I, oI) ∈ restX ∧ (∀ p ∈ restX, p.1 ≠ od) ∧ (∀ p ∈ (oa, instObj 1023 od) :: (od, toldD P (Str.ofString "") x9 (cond l2) s1 s2 s3 r1 r2 r3) :: restX, p.1 ≠ td) ∧ oa ≠ od ∧ ta ≠ od ∧ td ≠ od ∧ x9 ∈ names5 ∧
    u (Str.ofString "script") = some (.ref sl) ∧ u (Str.ofString "told") = some (.ref ta) ∧ u (Str.ofString "path") = some (.str path tp) ∧ u (Str.ofString "name") = some (.str name tn) ∧ u (Str.ofString "cell") = some (.int c tc) ∧ u (Str.ofString "other") = some (.ref oa) ∧ u (Str.ofString "more") = some (.ref D)
theorem hne_two {i d : Obj} (h1 : oa ≠ td) (h2 : od ≠ td) (h3 : ∀ p ∈ restX, p.1 ≠ td) : ∀ p ∈ (oa, i) :: (od, d) :: restX, p.1 ≠ td := fun p hp => by
  rcases List.mem_cons.mp hp with rfl | hp
  · exact h1
  · rcases List.mem_cons.mp hp with rfl | hp
    · exact h2
    · exact h3 p hp
theorem mid2_no {d : Obj} (F : Fr g L h' u) (N : News g L h' ((ta, instObj 1023 td) :: (td, d) :: (oa, instObj 1023 od) :: (od, toldD P (Str.ofString "") x9 (Str.ofString "") s1 s2 s3 r1 r2 r3) :: (lm, listOf #[] 0) :: restI))
    (hII : (I, oI) ∈ restI) (hneO : ∀ p ∈ (lm, listOf #[] 0) :: restI, p.1 ≠ od) (hlm : lm ≠ td) (hneI : ∀ p ∈ restI, p.1 ≠ td) (hoa : oa ≠ od) (hto : ta ≠ od) (hdo : td ≠ od) (hot : oa ≠ td) (hx : x9 ∈ names5)
    (e1 : u (Str.ofString "script") = some (.ref sl)) (e2 : u (Str.ofString "told") = some (.ref ta)) (e3 : u (Str.ofString "path") = some (.str path tp)) (e4 : u (Str.ofString "name") = some (.str name tn)) (e5 : u (Str.ofString "cell") = some (.int cell tcell)) (e6 : u (Str.ofString "other") = some (.ref oa)) (e7 : u (Str.ofString "more") = some (.ref lm)) :
    Mid2 FF P s sl I ta td oI d path name tp tn .next { s with heap := h', toks := tk } :=
  ⟨rfl, h', tk, u, _, lm, [], 0, [], oa, od, x9, s1, s2, s3, r1, r2, r3, cell, tcell, rfl, F, N, List.mem_cons_self .., .nil, rfl, (fun q hq => nomatch hq), Nat.zero_le _, List.mem_cons_of_mem _ hII, hneO, hne_two hot (Ne.symm hdo) fun p hp => by
    rcases List.mem_cons.mp hp with rfl | hp
    · exact hlm
    · exact hneI p hp, hoa, hto, hdo, hx, e1, e2, e3, e4, e5, e6, e7⟩
theorem mid2_yes (F : Fr g L h' u) (N : News g L h' ((ta, instObj 1023 td) :: (td, toldD P path name (cond l) t1 t2 t3 u1 u2 u3) :: (oa, instObj 1023 od) :: (od, toldD P (Str.ofString "") x9 (cond [(o, mk)]) s1 s2 s3 r1 r2 r3) :: (D, listOf #[Value.ref B] 0) :: (B, pairObj o mk tw tm) :: (lm, listOf #[] 0) :: restI))
    (hII : (I, oI) ∈ restI) (hneO : ∀ p ∈ (lm, listOf #[] 0) :: restI, p.1 ≠ od) (hlm : lm ≠ td) (hneI : ∀ p ∈ restI, p.1 ≠ td) (hoa : oa ≠ od) (hto : ta ≠ od) (hdo : td ≠ od) (hot : oa ≠ td) (hx : x9 ∈ names5) (hmk : mk ∈ marks) (hD : D ≠ od) (hB : B ≠ od)
    (e1 : u (Str.ofString "script") = some (.ref sl)) (e2 : u (Str.ofString "told") = some (.ref ta)) (e3 : u (Str.ofString "path") = some (.str path tp)) (e4 : u (Str.ofString "name") = some (.str name tn)) (e5 : u (Str.ofString "cell") = some (.int cell tcell)) (e6 : u (Str.ofString "other") = some (.ref oa)) (e7 : u (Str.ofString "more") = some (.ref D)) :
    Mid2 FF P s sl I ta td oI (toldD P path name (cond l) t1 t2 t3 u1 u2 u3) path name tp tn .next { s with heap := h', toks := tk } := by
  have htd : (td, toldD P path name (cond l) t1 t2 t3 u1 u2 u3) ∈ (ta, instObj 1023 td) :: (td, toldD P path name (cond l) t1 t2 t3 u1 u2 u3) :: (oa, instObj 1023 od) :: (od, toldD P (Str.ofString "") x9 (cond [(o, mk)]) s1 s2 s3 r1 r2 r3) :: (D, listOf #[Value.ref B] 0) :: (B, pairObj o mk tw tm) :: (lm, listOf #[] 0) :: restI := List.mem_cons_of_mem _ (List.mem_cons_self ..)
  have hDt : D ≠ td := News.twoPlaces N (p := (D, listOf #[Value.ref B] 0)) (q := (td, toldD P path name (cond l) t1 t2 t3 u1 u2 u3)) (by simp) htd fun e => absurd (Value.type.inj (congrArg Obj.cls e)) (by decide)
  have hBt : B ≠ td := News.twoPlaces N (p := (B, pairObj o mk tw tm)) (q := (td, toldD P path name (cond l) t1 t2 t3 u1 u2 u3)) (by simp) htd fun e => absurd (Value.type.inj (congrArg Obj.cls e)) (by decide)
  refine ⟨rfl, h', tk, u, _, D, [.ref B], 0, [(o, mk)], oa, od, x9, s1, s2, s3, r1, r2, r3, cell, tcell, rfl, F, N, List.mem_cons_self .., .cons (List.mem_cons_of_mem _ (List.mem_cons_self ..)) .nil, rfl, fun q hq => ?_, Nat.le_refl _, List.mem_cons_of_mem _ (List.mem_cons_of_mem _ (List.mem_cons_of_mem _ hII)), fun p hp => ?_, hne_two hot (Ne.symm hdo) fun p hp => ?_, hoa, hto, hdo, hx, e1, e2, e3, e4, e5, e6, e7⟩
  · rw [List.mem_singleton.mp hq]; exact hmk
  · rcases List.mem_cons.mp hp with rfl | hp
    · exact hD
    · rcases List.mem_cons.mp hp with rfl | hp
      · exact hB
      · exact hneO p hp
  · rcases List.mem_cons.mp hp with rfl | hp
    · exact hDt
    · rcases List.mem_cons.mp hp with rfl | hp
      · exact hBt
      · rcases List.mem_cons.mp hp with rfl | hp
        · exact hlm
        · exact hneI p hp
theorem add_shown {prog : Program} {w : World} {A : Around} {E : Value → Shared → Prop} {s : Shared} {a b : Str} {ta tb : Tok} {Q : Value → Shared → Prop} (ha : a.length ≤ 100000) (hb : b.length ≤ 100) (h : ∀ t k, Q (.str (a ++ b) t) { s with toks := k }) : wpAny (model prog w) A (binaryOp .Add (.str a ta) (.str b tb)) Q E s :=
  PyProof.Rows.add_str (fun t k => h t k) (by rw [sizeLine_eq]; omega)
theorem combs_len : ∀ y ∈ [Str.ofString "/", Str.ofString "/descendant::", Str.ofString "/following-sibling::"], y.length ≤ 100 := by decide +kernel
theorem mid_join {od' : Obj} (F : Fr g L h' u) (N : News g L h' ((ta, instObj 1023 td) :: (td, toldD P (shown path name (cond l) ++ x) x9 (cond l2) t1 t2 t3 u1 u2 u3) :: (oa, instObj 1023 od) :: (od, od') :: restX))
    (hta : ta ≠ td) (hg : Good l2) (hvl : vs.length = l2.length) (hl6 : l2.length ≤ 1) (hl : l.length ≤ i) (hi : i ≤ 6) (hgl : Good l) (hpl : path.length ≤ 10 + 1000 * i) (hnm' : name ∈ names5) (hnm : x9 ∈ names5) (hx : x.length ≤ 100) (hne : ∀ p ∈ (oa, instObj 1023 od) :: (od, od') :: restX, p.1 ≠ td) (hla : (D, listOf vs.toArray n) ∈ restX) (hv : AddedIs restX vs l2.reverse) (hII : (I, oI) ∈ restX)
    (e1 : u (Str.ofString "script") = some (.ref sl)) (e2 : u (Str.ofString "told") = some (.ref ta)) (e3 : u (Str.ofString "path") = some (.str (shown path name (cond l) ++ x) tp)) (e4 : u (Str.ofString "name") = some (.str x9 tn)) (e5 : u (Str.ofString "added") = some (.ref D)) :
    Mid FF P s sl I oI (i + 1) .next { s with heap := h', toks := tk } := by
  refine ⟨rfl, h', tk, u, _, rfl, F, N, ?_, ta, td, D, _, x9, tp, tn, t1, t2, t3, u1, u2, u3, n, vs, l2, _, rfl, hne, hta, List.mem_cons_of_mem _ (List.mem_cons_of_mem _ hla), hv.mono fun q hq => List.mem_cons_of_mem _ (List.mem_cons_of_mem _ hq), hvl, hg, by omega, ?_, hnm, e1, e2, e3, e4, e5⟩
  · exact List.mem_cons_of_mem _ (List.mem_cons_of_mem _ (List.mem_cons_of_mem _ (List.mem_cons_of_mem _ hII)))
  · rw [app_len]
    have h1 := shown_len path name (cond l)
    have h2 := cond_len l hgl
    have h3 : ∀ y ∈ names5, y.length ≤ 100 := by decide +kernel
    have h4 := h3 name hnm'
    omega
end
end Mine
namespace Mine
local macro_rules | `(tactic| walk_at "pad") => `(tactic| fail)
local macro_rules | `(tactic| walk_at "pad") => `(tactic| fail)
local macro_rules | `(tactic| walk_at "pad") => `(tactic| fail)
local macro_rules | `(tactic| walk_at "pad") => `(tactic| fail)
local macro_rules | `(tactic| walk_at "pad") => `(tactic| fail)
local macro_rules | `(tactic| walk_at "pad") => `(tactic| fail)
local macro_rules | `(tactic| walk_at "pad") => `(tactic| fail)
local macro_rules | `(tactic| walk_at "pad") => `(tactic| fail)
local macro_rules | `(tactic| walk_at "pad") => `(tactic| fail)
local macro_rules | `(tactic| walk_at "pad") => `(tactic| fail)
local macro_rules | `(tactic| walk_at "pad") => `(tactic| fail)
local macro_rules | `(tactic| walk_at "pad") => `(tactic| fail)
local macro_rules | `(tactic| walk_at "pad") => `(tactic| fail)
local macro_rules | `(tactic| walk_at "pad") => `(tactic| fail)
local macro_rules | `(tactic| walk_at "pad") => `(tactic| fail)
local macro_rules | `(tactic| walk_at "pad") => `(tactic| fail)
local macro_rules | `(tactic| walk_at "pad") => `(tactic| fail)
local macro_rules | `(tactic| walk_at "pad") => `(tactic| fail)
local macro_rules | `(tactic| walk_at "pad") => `(tactic| fail)
local macro_rules | `(tactic| walk_at "pad") => `(tactic| fail)
local macro_rules | `(tactic| walk_at "pad") => `(tactic| fail)
local macro_rules | `(tactic| walk_at "pad") => `(tactic| fail)
local macro_rules | `(tactic| walk_at "pad") => `(tactic| fail)
local macro_rules | `(tactic| walk_at "pad") => `(tactic| fail)
local macro_rules | `(tactic| walk_at "pad") => `(tactic| fail)
local macro_rules | `(tactic| walk_at "pad") => `(tactic| fail)
local macro_rules | `(tactic| walk_at "pad") => `(tactic| fail)
local macro_rules | `(tactic| walk_at "pad") => `(tactic| fail)
local macro_rules | `(tactic| walk_at "pad") => `(tactic| fail)
local macro_rules | `(tactic| walk_at "pad") => `(tactic| fail)
local macro_rules | `(tactic| walk_at "pad") => `(tactic| fail)
local macro_rules | `(tactic| walk_at "pad") => `(tactic| fail)
local macro_rules | `(tactic| walk_at "pad") => `(tactic| fail)
local macro_rules | `(tactic| walk_at "pad") => `(tactic| fail)
local macro_rules | `(tactic| walk_at "pad") => `(tactic| fail)
local macro_rules | `(tactic| walk_at "pad") => `(tactic| fail)
local macro_rules | `(tactic| walk_at "pad") => `(tactic| fail)
local macro_rules | `(tactic| walk_at "pad") => `(tactic| fail)
local macro_rules | `(tactic| walk_at "pad") => `(tactic| fail)
local macro_rules | `(tactic| walk_at "pad") => `(tactic| fail)
local macro_rules | `(tactic| walk_at "pad") => `(tactic| fail)
local macro_rules | `(tactic| walk_at "pad") => `(tactic| fail)
local macro_rules | `(tactic| walk_at "pad") => `(tactic| fail)
local macro_rules | `(tactic| walk_at "pad") => `(tactic| fail)
local macro_rules | `(tactic| walk_at "pad") => `(tactic| fail)
local macro_rules | `(tactic| walk_at "pad") => `(tactic| fail)
local macro_rules | `(tactic| walk_at "pad") => `(tactic| fail)
local macro_rules | `(tactic| walk_at "pad") => `(tactic| fail)
local macro_rules | `(tactic| walk_at "pad") => `(tactic| fail)
open PySem PySem.W PyProof.Rows PySem.Calls PySem.Spec PyProof.V
local macro_rules | `(tactic| k_room) => `(tactic| ktr_room)
local macro_rules | `(tactic| k_units) => `(tactic| ktr_units)
local macro_rules | `(tactic| k_in) => `(tactic| first | with_reducible assumption | exact Frag.In.keeps (by with_reducible assumption) (Fr.keep (by with_reducible assumption)))
local macro_rules | `(tactic| walk_at "call ref") => `(tactic| (k_here; k_dflt (refine' cell_use ?k0 ?ki ?kj ?kl ?k1 ?k2 ?k3 ?k4 ?k5 ?ka ?kb ?kK ?kd ?ku ?_); (case k0 => assumption); (case ki => assumption); (case kj => assumption); (case kl => assumption); (case k1 => k_asm); (case k2 => k_asm); (case k3 => k_asm); (case k4 => k_asm); (case k5 => k_asm); (case ka => omega); (case kb => omega); (case kK => first | exact rfl | assumption); (case kd => ktr_room); (case ku => ktr_units); (intro v9 t9 h9 tk9 a9 b9 F9 N9); (try dsimp only)))
def stage1 {g h : Heap} {L : Addr} {m : Str → Option Value} (_ : Fr g L h m) (s : Shared) (sl : Addr) (f : Flow) (s' : Shared) : Prop :=
  f = .next ∧ ∃ path name tp tn la h' tk' news' cell tc, s' = { s with heap := h', toks := tk' } ∧ path ∈ [Str.ofString "", Str.ofString "x/"] ∧ name ∈ names5 ∧ (la, listOf #[] 0) ∈ news' ∧
    (∃ u, Fr g L h' u ∧ u (Str.ofString "added") = some (.ref la) ∧ u (Str.ofString "name") = some (.str name tn) ∧ u (Str.ofString "path") = some (.str path tp) ∧ u (Str.ofString "cell") = some (.int cell tc) ∧ u (Str.ofString "script") = some (.ref sl)) ∧ News g L h' news'
theorem iter_turns6 {prog : Program} {w : World} {A : Around} {E : Value → Shared → Prop} {s : Shared} {env : Env} {h₀ : Heap} {body : List Stmt} {Q : Flow → Shared → Prop} {x : Str} {px : Pos} {r : Addr} {b : Int} {t₀ u₀ v₀ : Tok} {m₀ : Str → Option Value} {news : List (Addr × Obj)}
    (hh : A.handled = none) (hr : IsRange s.heap r 0 b 1 t₀ u₀ v₀) (hb0 : 0 ≤ b) (hb : b ≤ 6) (F : Fr h₀ env.locals s.heap m₀) (N : News h₀ env.locals s.heap news)
    (rest₀ : ∀ (n : Nat) (I : Addr), n ≤ 6 → ItemsRest prog w A E h₀ env (.Name x px) body Q s [(I, "range_iterator")] [] (rangeItms 0 n) m₀ news) :
    wpAny (model prog w) A (pyIter (.ref r)) (fun it s₂ => TurnsAt prog w A h₀ env (.Name x px) body Q E it s₂) E s := by
  obtain ⟨n, rfl⟩ := Int.eq_ofNat_of_zero_le hb0
  have h6 : n ≤ 6 := by omega
  have key : ∀ k : Fin 7, Builtin.Range.small 0 (k.val : Int) 1 = true ∧ Builtin.Range.rangeSize 0 (k.val : Int) 1 = (k.val : Int) := by decide +kernel
  exact iter_rangeTurns hh hr (key ⟨n, by omega⟩).1 (key ⟨n, by omega⟩).2 F N fun I _ => rest₀ n I h6
local macro_rules | `(tactic| walk_at "subscriptTail") => `(tactic| (k_here; (with_reducible show wpAny _ _ (subscriptTail _ _ (Value.ref _) (Value.int _ _)) _ _ _); (with_unfolding_all refine' sub_pick ?k1 ?k2 ?k3 ?k4 ?k5 ?_ ?k6; (case k1 => is_list); (case k2 => first | exact StrsAll.nil | exact (StrsAll.cons StrsAll.nil) | exact (StrsAll.cons (StrsAll.cons StrsAll.nil)) | exact (StrsAll.cons (StrsAll.cons (StrsAll.cons StrsAll.nil))) | exact (StrsAll.cons (StrsAll.cons (StrsAll.cons (StrsAll.cons StrsAll.nil)))) | exact (StrsAll.cons (StrsAll.cons (StrsAll.cons (StrsAll.cons (StrsAll.cons StrsAll.nil))))) | exact (StrsAll.cons (StrsAll.cons (StrsAll.cons (StrsAll.cons (StrsAll.cons (StrsAll.cons StrsAll.nil)))))) | exact (StrsAll.cons (StrsAll.cons (StrsAll.cons (StrsAll.cons (StrsAll.cons (StrsAll.cons (StrsAll.cons StrsAll.nil)))))))); (case k3 => first | l_idx | kxi_fact); (case k4 => first | l_idx | kxi_fact); (case k5 => exact Nat.le_of_ble_eq_true rfl); (case k6 => with_unfolding_all rfl); k_whole); intro x9 t9 hx9))
local macro_rules | `(tactic| k_steps) => `(tactic| repeat' ((fail_if_success (with_reducible show wpAny _ _ (exec (Stmt.For _ _ _ _ _) _) _ _ _)); (fail_if_success (with_reducible show wpAny _ _ (pyIter _) (fun it s₂ => TurnsAt _ _ _ _ _ _ _ _ _ it s₂) _ _)); first | (k_unfold; (try dsimp only)) | (with_reducible (show stage1 _ _ _ _ _); fail_if_success skip) | walk1 | (dsimp only; walk1) | (leave1; walk_say "STEP leave1"; try dsimp only) | fail "no step"))
theorem turns_lo (v : Int) : 0 ≤ 1 + Int.fmod v 6 := by have := fmod_lo v (by decide : (0 : Int) < 6); omega
theorem turns_hi (v : Int) : 1 + Int.fmod v 6 ≤ 6 := by have := fmod_hi v (by decide : (0 : Int) < 6); omega
theorem inv_start {P : Params} {ta td la sl : Addr} {path name : Str} {tp tn tc t1 t2 t3 u1 u2 u3 : Tok} {cell : Int} {u : Str → Option Value} {news : List (Addr × Obj)} (l1 : ∀ p ∈ news, p.1 < td) (l2 : td < ta) (hla : (la, listOf #[] 0) ∈ news) (hpath : path ∈ [Str.ofString "", Str.ofString "x/"]) (hname : name ∈ names5) :
    Inv P sl 0 (fun y => if y = Str.ofString "told" then some (.ref ta) else if y = Str.ofString "added" then some (.ref la) else if y = Str.ofString "name" then some (.str name tn) else if y = Str.ofString "path" then some (.str path tp) else if y = Str.ofString "cell" then some (.int cell tc) else if y = Str.ofString "script" then some (.ref sl) else u y)
      ((ta, instObj 1023 td) :: (td, toldD P path name (Str.ofString "") t1 t2 t3 u1 u2 u3) :: news) :=
  ⟨ta, td, la, path, name, tp, tn, t1, t2, t3, u1, u2, u3, 0, [], [], news, rfl, fun p hp => Nat.ne_of_lt (l1 p hp), Nat.ne_of_gt l2, hla, .nil, rfl, (fun q hq => by simp at hq), Nat.le_refl _, by
    have : ∀ y ∈ [Str.ofString "", Str.ofString "x/"], y.length ≤ 10 := by decide +kernel
    exact this _ hpath, hname, rfl, rfl, rfl, rfl, rfl⟩
theorem open_inv {g h : Heap} {L I ta td la : Addr} {oI : Obj} {P : Params} {path name con : Str} {t1 t2 t3 u1 u2 u3 : Tok} {n : Nat} {vs : List Value} {l : List (Bool × Str)} {rest : List (Addr × Obj)} (N : News g L h ((I, oI) :: (ta, instObj 1023 td) :: (td, toldD P path name con t1 t2 t3 u1 u2 u3) :: rest))
    (hoI : oI.cls = .type "range_iterator") (hne : ∀ p ∈ rest, p.1 ≠ td) (hla : (la, listOf vs.toArray n) ∈ rest) (hv : AddedIs rest vs l) :
    News g L h ((ta, instObj 1023 td) :: (td, toldD P path name con t1 t2 t3 u1 u2 u3) :: (I, oI) :: rest) ∧ (∀ p ∈ (I, oI) :: rest, p.1 ≠ td) ∧ (la, listOf vs.toArray n) ∈ (I, oI) :: rest ∧ AddedIs ((I, oI) :: rest) vs l ∧ (I, oI) ∈ (I, oI) :: rest := by
  refine ⟨cb_drop N fun q hq => ?_, fun p hp => ?_, List.mem_cons_of_mem _ hla, hv.mono fun q hq => List.mem_cons_of_mem _ hq, List.mem_cons_self ..⟩
  · simp only [List.mem_cons] at hq ⊢
    rcases hq with h | h | h | h <;> simp [h]
  · rcases List.mem_cons.mp hp with rfl | hp
    · exact (off_iter (o := toldD P path name con t1 t2 t3 u1 u2 u3) N (List.mem_cons_self ..) hoI (List.mem_cons_of_mem _ (List.mem_cons_of_mem _ (List.mem_cons_self ..))) (cls_ne (by decide))).symm
    · exact hne p hp
theorem names_len : ∀ y ∈ names5, y.length ≤ 100 := by decide +kernel
local macro_rules | `(tactic| walk_at "call ref") => `(tactic| (k_here; k_dflt (refine' Ctr.use (c_is (by assumption) _ _ _ _ _ _ _ _ _ _ _ _ _ _ _ _ _ ?hlp ?hle ?hne ?hta ?hla ?hg ?hl ?hv) ?k1 ?k2 ?k3 ?k4 ?k5 ?kK ?kd ?ku ?_); (case hne => assumption); (case hta => assumption); (case k4 => exact news_sub (by assumption) (by repeat (first | exact List.Sublist.refl _ | refine List.Sublist.cons₂ _ ?_ | refine List.Sublist.cons _ ?_))); (case hla => assumption); (case hv => assumption); (case hg => assumption); (case hl => assumption); (case hlp => assumption); (case hle => assumption); (case k1 => k_asm); (case k2 => k_asm); (case k3 => k_asm); (case k5 => k_asm); (case kK => first | exact rfl | assumption); (case kd => ktr_room); (case ku => ktr_units); (intro r9 n9 h9 tk9 F9 N9 o9; obtain ⟨e9, e9'⟩ := o9; subst e9; subst e9'); (try dsimp only)))
local macro_rules | `(tactic| walk_at "call ref") => `(tactic| (k_here; k_dflt (refine' Ctr.use (c_added (by assumption) _ _ _ _ _ _ _ _ _ _ _ _ _ _ _ ?h0 ?hc ?hlc ?hne ?hta _ _ ?hla ?hvl) ?k1 ?k2 ?k3 ?k4 ?k5 ?kK ?kd ?ku ?_); (case hne => assumption); (case hta => assumption); (case k4 => exact news_sub (by assumption) (by repeat (first | exact List.Sublist.refl _ | refine List.Sublist.cons₂ _ ?_ | refine List.Sublist.cons _ ?_))); (case hla => assumption); (case hlc => assumption); (case hvl => assumption); (case h0 => k_dflt (exact way_lo (by assumption))); (case hc => k_dflt (exact way_hi (by assumption))); (case k1 => k_asm); (case k2 => k_asm); (case k3 => k_asm); (case k5 => k_asm); (case kK => first | exact rfl | assumption); (case kd => ktr_room); (case ku => ktr_units); (intro r9 n9 h9 tk9 F9 N9 o9; k_dflt (obtain ⟨o9, m9, D9, B9, tw9, tm9, t9, e9, hm9, e9', hD9, hB9⟩ := o9); subst e9; subst e9'); (try dsimp only)))
local macro_rules | `(tactic| walk_at "call ref") => `(tactic| (k_here; k_dflt (refine' Ctr.use (c_tested (by assumption) _ _ _ _ _ _ _ _ _ _ _ _ _ _ ?hel ?hlc ?hne ?hta _ _ _ ?hla ?hv ?hvl ?hvv) ?k1 ?k2 ?k3 ?k4 ?k5 ?kK ?kd ?ku ?_); (case hne => assumption); (case hta => assumption); (case k4 => exact news_sub (by assumption) (by repeat (first | exact List.Sublist.refl _ | refine List.Sublist.cons₂ _ ?_ | refine List.Sublist.cons _ ?_))); (case hel => assumption); (case hla => assumption); (case hv => assumption); (case hlc => assumption); (case hvl => assumption); (case hvv => k_dflt (rw [List.length_reverse]; assumption)); (case k1 => k_asm); (case k2 => k_asm); (case k3 => k_asm); (case k5 => k_asm); (case kK => first | exact rfl | assumption); (case kd => ktr_room); (case ku => ktr_units); (intro r9 n9 h9 tk9 F9 N9 o9; k_dflt (obtain ⟨T9, lb9, ts9, l9, con9, t29, t39, k9, vs9, rest9, e9, e9', hT9, hlb9, hv9, hne9, hvl9, hor9, hsub9⟩ := o9); subst e9; subst e9'; replace N9 := tuple_up N9 hT9); (try dsimp only)))
local macro_rules | `(tactic| walk_at "call ref") => `(tactic| (k_here; k_dflt (refine' Ctr.use (c_star (by assumption) _ _ _ _ _ _ _ _ _ _ _ _ ?hlp ?hne ?hta) ?k1 ?k2 ?k3 ?k4 ?k5 ?kK ?kd ?ku ?_); (case hne => assumption); (case hta => assumption); (case k4 => exact news_sub (by assumption) (by repeat (first | exact List.Sublist.refl _ | refine List.Sublist.cons₂ _ ?_ | refine List.Sublist.cons _ ?_))); (case hlp => assumption); (case k1 => k_asm); (case k2 => k_asm); (case k3 => k_asm); (case k5 => k_asm); (case kK => first | exact rfl | assumption); (case kd => ktr_room); (case ku => ktr_units); (intro r9 n9 h9 tk9 F9 N9 o9; k_dflt (obtain ⟨e9, t9, e9'⟩ := o9); subst e9; subst e9'); (try dsimp only)))
local macro_rules | `(tactic| walk_at "call ref") => `(tactic| (k_here; k_dflt (refine' Ctr.use (c_added_o (by assumption) _ _ _ _ _ _ _ _ _ _ _ _ _ _ _ _ _ _ ?h0 ?hc ?hne ?hta ?h1 ?h2) ?k1 ?k2 ?k3 ?k4 ?k5 ?kK ?kd ?ku ?_); (case k4 => exact news_sub (by assumption) (by repeat (first | exact List.Sublist.refl _ | refine List.Sublist.cons₂ _ ?_ | refine List.Sublist.cons _ ?_))); (case h0 => k_dflt (exact ten_lo (by assumption))); (case hc => k_dflt (exact ten_hi (by assumption) (by assumption))); (case hne => assumption); (case hta => assumption); (case h1 => assumption); (case h2 => assumption); (case k1 => k_asm); (case k2 => k_asm); (case k3 => k_asm); (case k5 => k_asm); (case kK => first | exact rfl | assumption); (case kd => ktr_room); (case ku => ktr_units); (intro r9 n9 h9 tk9 F9 N9 o9; k_dflt (obtain ⟨o9, m9, D9, B9, tw9, tm9, t9, e9, hm9, e9', hD9, hB9⟩ := o9); subst e9; subst e9'); (try dsimp only)))
local macro_rules | `(tactic| walk_at "call ref") => `(tactic| (k_here; k_dflt (refine' Ctr.use (c_str (by assumption) _ _ _ _ _ _ _ _ _ _ _ _ ?hlp ?hle ?hlc ?hne ?hta) ?k1 ?k2 ?k3 ?k4 ?k5 ?kK ?kd ?ku ?_); (case k4 => exact news_sub (by assumption) (by repeat (first | exact List.Sublist.refl _ | refine List.Sublist.cons₂ _ ?_ | refine List.Sublist.cons _ ?_))); (case hlp => assumption); (case hle => assumption); (case hlc => assumption); (case hne => assumption); (case hta => assumption); (case k1 => k_asm); (case k2 => k_asm); (case k3 => k_asm); (case k5 => k_asm); (case kK => first | exact rfl | assumption); (case kd => ktr_room); (case ku => ktr_units); (intro r9 n9 h9 tk9 F9 N9 o9; k_dflt (obtain ⟨⟨t9, e9⟩, e9'⟩ := o9); subst e9; subst e9'; (try dsimp only [StrBack])); (try dsimp only)))
local macro_rules | `(tactic| walk_at "call ref") => `(tactic| (k_here; k_dflt (refine' Ctr.use (c_star_o (by assumption) _ _ _ _ _ _ _ _ _ _ _ _ _ _ _ ?hlp ?hne ?hta ?h1 ?h2) ?k1 ?k2 ?k3 ?k4 ?k5 ?kK ?kd ?ku ?_); (case k4 => exact news_sub (by assumption) (by repeat (first | exact List.Sublist.refl _ | refine List.Sublist.cons₂ _ ?_ | refine List.Sublist.cons _ ?_))); (case hlp => k_dflt (exact Nat.le_of_ble_eq_true rfl)); (case hne => assumption); (case hta => assumption); (case h1 => assumption); (case h2 => assumption); (case k1 => k_asm); (case k2 => k_asm); (case k3 => k_asm); (case k5 => k_asm); (case kK => first | exact rfl | assumption); (case kd => ktr_room); (case ku => ktr_units); (intro r9 n9 h9 tk9 F9 N9 o9; k_dflt (obtain ⟨e9, t9, e9'⟩ := o9); subst e9; subst e9'); (try dsimp only)))
local macro_rules | `(tactic| walk_at "call ref") => `(tactic| (k_here; k_dflt (refine' Ctr.use (c_join (by assumption) _ _ _ _ _ _ _ _ _ _ _ _ _ _ _ _ _ _ _ _ _ _ _ _ _ ?hlx ?hlp ?hle ?hlc ?hlo ?hop ?hne ?hta ?ho ?hod) ?k1 ?k2 ?k3 ?k4 ?k5 ?kK ?kd ?ku ?_); (case k4 => exact news_sub (by assumption) (by repeat (first | exact List.Sublist.refl _ | refine List.Sublist.cons₂ _ ?_ | refine List.Sublist.cons _ ?_))); (case hlx => k_dflt (exact combs_len _ (by assumption))); (case hlp => assumption); (case hle => assumption); (case hlc => assumption); (case hlo => k_dflt (first | exact Nat.le_of_ble_eq_true rfl | decide +kernel)); (case hop => k_dflt (first | exact Or.inl rfl | exact Or.inr (by decide +kernel))); (case hne => assumption); (case hta => assumption); (case ho => assumption); (case hod => assumption); (case k1 => k_asm); (case k2 => k_asm); (case k3 => k_asm); (case k5 => k_asm); (case kK => first | exact rfl | assumption); (case kd => ktr_room); (case ku => ktr_units); (intro r9 n9 h9 tk9 F9 N9 o9; k_dflt (obtain ⟨t9, e9, e9'⟩ := o9); subst e9; subst e9'); (try dsimp only)))
local macro_rules | `(tactic| walk_at "binaryOp Add str str") => `(tactic| (k_here; refine add_shown (by assumption) (by exact combs_len _ (by assumption)) ?_; intro t9 k9; (try dsimp only)))
theorem fn_eq2 {K : Frag} {f : Addr} {name qual name' qual' : Str} {params params' : Arguments} {body body' : List Stmt} {scope scope' : Scope} {dV kV doc pm cdv ct oc dV' kV' doc' pm' cdv' ct' oc' : Value} {an od an' od' : Option Addr} {osl osl' : Array (Option Value)}
    (h : K.lookup f = some ⟨oc, od, .func (fnOf name qual params body scope dV kV doc pm an cdv ct), osl⟩) (h' : K.lookup f = some ⟨oc', od', .func (fnOf name' qual' params' body' scope' dV' kV' doc' pm' an' cdv' ct'), osl'⟩) :
    qual = qual' ∧ body = body' ∧ scope = scope' := by
  have e := congrArg Obj.data (Option.some.inj (h.symm.trans h'))
  have e2 : fnOf name qual params body scope dV kV doc pm an cdv ct = fnOf name' qual' params' body' scope' dV' kV' doc' pm' an' cdv' ct' := by injection e
  exact ⟨congrArg FuncData.qualname e2, by injection (congrArg FuncData.body e2), congrArg FuncData.scope e2⟩
set_option maxHeartbeats 4000000 in
theorem law_body {prog : Program} {w : World} {p : Program} {loose : List Str} {mean : ExcName → Option Value} {mg mb : Str → Option Value} (hp : prog = PySem.Challenge.rw_ad5043_01.prog)
    {name qual : Str} {params : Arguments} {body : List Stmt} {scope : Scope} {dV kV doc pm cdv ct oc : Value} {an od : Option Addr} {osl : Array (Option Value)}
    (hK : (hd.heap_1 w.params).lookup 1515 = some ⟨oc, od, .func (fnOf name qual params body scope dV kV doc pm an cdv ct), osl⟩)
    (dp un : Nat) (gd : Option (List Code)) (a : Addr) (ccd : Value) (outer : List Env) (A₀ : Around) (base g h : Heap) (L sl : Addr) (m : Str → Option Value) (vs : List Value) (ns : List Int) (s : Shared) (tk : Nat) (R : Result → Shared → Prop)
    (hR : dp + 101 < recursionLimit) (hU : un + 1600 < cLine) (B : Below A₀ base outer g) (F : Fr g L h m) (X : (hd.heap_1 w.params).In g) (N : News g L h []) (T : Top p loose mean mg mb g) (hl : g.IsList sl vs.toArray) (hi : IntsAre vs ns) (hlen : ns.length ≤ 63)
    (hm : m (Str.ofString "script") = some (.ref sl)) (hret : ∀ h' tk' m', Fr g L h' m' → R (.ok (.ret (.bool true))) { s with heap := h', toks := tk' }) :
    wpAny (model prog w) (ktrTop dp un gd qual scope L a ccd [] outer) (execs body (envX qual scope L a ccd []))
      (fun fl s' => R (.ok (.ret (match fl with | .ret v => v | _ => .none))) s')
      (fun e s' => wpAny (model prog w) (ktrTop dp un gd qual scope L a ccd [] outer) (leaving (envX qual scope L a ccd []) e) (fun _ s'' => R (.error e) s'') (fun e' s'' => R (.error e') s'') s')
      { s with heap := h, toks := tk } := by
  rw [frame_as m [(Str.ofString "script", .ref sl)] (by simp [hm])] at F
  simp only [List.foldr_cons, List.foldr_nil] at F
  clear hm
  revert hp X
  k_fill
  intro hp X
  obtain ⟨rfl, rfl, rfl⟩ := fn_eq2 hK (by k_is)
  clear hK
  generalize hQF : (fun (fl : Flow) (s' : Shared) => R (.ok (.ret (match fl with | .ret v => v | _ => .none))) s') = QF
  have hend : ∀ h' tk' m', Fr g L h' m' → QF (.ret (.bool true)) { s with heap := h', toks := tk' } := fun h' tk' m' F' => by rw [← hQF]; exact hret h' tk' m' F'
  clear hret
  iterate 15 (first | (k_unfold; (try dsimp only)) | walk1 | (dsimp only; walk1))
  rename Fr _ _ _ _ => FF
  refine wpAny_mono (Q := stage1 FF s sl) (E := fun _ _ => False) ?st1 ?nx1 ?ex1
  case ex1 => intro e s' h; exact h.elim
  case st1 =>
    k_steps
    exact ⟨rfl, _, _, _, _, _, _, _, _, _, _, rfl, by first | (with_reducible assumption) | assumption, by first | (with_reducible assumption) | assumption, List.mem_cons_of_mem _ (List.mem_cons_self ..), ⟨_, by assumption, rfl, rfl, rfl, rfl, rfl⟩, by assumption⟩
  rintro f s' ⟨rfl, path, name, tp, tn, la, h', tk', news', cell, tc, rfl, hpath, hname, hla, ⟨u1, F1, e1, e2, e3, e4, e5⟩, N1⟩
  rw [frame_as u1 [(Str.ofString "added", .ref la), (Str.ofString "name", .str name tn), (Str.ofString "path", .str path tp), (Str.ofString "cell", .int cell tc), (Str.ofString "script", .ref sl)] (by simp [e1, e2, e3, e4, e5])] at F1
  simp only [List.foldr_cons, List.foldr_nil] at F1
  clear e1 e2 e3 e4 e5
  clear FF
  dsimp only
  k_steps
  rename Fr _ _ _ _ => F2
  refine For_turns F2 ?_
  k_steps
  rename IsRange _ _ _ _ _ _ _ _ => rg
  rename Fr _ _ _ _ => F3
  rename News _ _ _ _ => N3
  refine iter_turns6 rfl rg (turns_lo _) (turns_hi _) F3 N3 ?_
  clear rg N3 F3
  repeat (rename Fr _ _ _ _ => ZZ; clear ZZ)
  repeat (rename News _ _ _ _ => ZZ; clear ZZ)
  intro n9 I hn9
  refine (?key : ∀ (k i : Nat) (m₁ : Str → Option Value) (news₁ : List (Addr × Obj)), i + k ≤ 6 → Inv w.params sl i m₁ news₁ →
    ItemsRest prog w _ _ _ _ _ _ _ _ _ _ (rangeItms i k) m₁ news₁) n9 0 _ _ (by omega) (inv_start (by assumption) (by assumption) (by assumption) (by assumption) (by assumption))
  clear hla hpath hname
  intro k
  induction k with
  | zero =>
    intro i m₁ news₁ hik inv h5 tk5 F5 N5
    k_steps
    exact hend _ _ _ (by assumption)
  | succ k ih =>
    intro i m₁ news₁ hik inv v5 h5 tk5 hv5 F5
    obtain ⟨t5, rfl⟩ := hv5
    refine AllObj.cons fun oI hoI => AllObj.nil ?_
    intro N5
    obtain ⟨ta, td, la, path, name, tp, tn, t1, t2, t3, u1, u2, u3, n, vs, l, rest, rfl, hne, hta, hla, hv, hvl, hg, hl6, hpl, hnm, e1, e2, e3, e4, e5⟩ := inv
    rw [frame_as m₁ [(Str.ofString "script", .ref sl), (Str.ofString "told", .ref ta), (Str.ofString "path", .str path tp), (Str.ofString "name", .str name tn), (Str.ofString "added", .ref la)] (by simp [e1, e2, e3, e4, e5])] at F5
    simp only [List.foldr_cons, List.foldr_nil] at F5
    clear e1 e2 e3 e4 e5
    dsimp only [envOf, List.cons_append, List.nil_append] at F5 N5
    obtain ⟨N6, hneI, hlaI, hvI, hII⟩ := open_inv N5 hoI hne hla hv
    clear N5 hne hla hv
    revert N6 hneI hlaI hvI hII
    generalize (I, oI) :: rest = restI
    intro N6 hneI hlaI hvI hII
    have hib0 : (0 : Int) ≤ i := by omega
    have hib : (i : Int) ≤ 5 := by omega
    repeat' ((fail_if_success (with_reducible show wpAny _ _ (exec (Stmt.If _ _ _ _) _) _ _ _)); first | (k_unfold; (try dsimp only)) | walk1 | (dsimp only; walk1) | (leave1; walk_say "STEP leave1"; try dsimp only) | fail "no step")
    rename Fr _ _ _ _ => FF
    rename News _ _ _ _ => NN
    replace NN := cb_drop NN fun q hq => List.mem_cons_of_mem _ hq
    refine wpAny_mono (Q := Mid FF w.params s sl I oI (i + 1)) (E := fun _ _ => False) ?st2 ?nx2 (fun e s' h => h.elim)
    case nx2 =>
      clear hta hvl hg hl6 hpl hnm hneI hlaI hvI hII hib0 hib
      rintro f s' ⟨rfl, h', tk', u, all, rfl, F7, N7, hI7, inv⟩
      clear NN FF
      obtain ⟨ta, td, la, path, name, tp, tn, t1, t2, t3, u1, u2, u3, n, vs, l, rest, rfl, hne, hta, hla, hv, hvl, hg, hl6, hpl, hnm, e1, e2, e3, e4, e5⟩ := inv
      rw [frame_as u [(Str.ofString "script", .ref sl), (Str.ofString "told", .ref ta), (Str.ofString "path", .str path tp), (Str.ofString "name", .str name tn), (Str.ofString "added", .ref la)] (by simp [e1, e2, e3, e4, e5])] at F7
      simp only [List.foldr_cons, List.foldr_nil] at F7
      clear e1 e2 e3 e4 e5
      have hlp : path.length ≤ 100000 := by omega
      have hle : name.length ≤ 100 := names_len name hnm
      have hl20 : l.length ≤ 20 := by omega
      dsimp only
      k_steps
      exact loop_end (by assumption) (by assumption) hI7 hoI ⟨ta, td, la, path, name, tp, tn, t1, t2, t3, u1, u2, u3, n, vs, l, rest, rfl, hne, hta, hla, hv, hvl, hg, hl6, hpl, hnm, rfl, rfl, rfl, rfl, rfl⟩ fun m₁ news₁ inv => ih (i + 1) m₁ news₁ (by omega) inv
    case st2 =>
      have hlc : (cond l).length ≤ 1000 := by have := cond_len l hg; omega
      have hvl5 : vs.length ≤ 100 := by omega
      have hlp : path.length ≤ 100000 := by omega
      have hle : name.length ≤ 100 := names_len name hnm
      walk1
      repeat' ((fail_if_success (with_reducible show wpAny _ _ (exec (Stmt.If _ _ _ _) _) _ _ _)); first | (k_unfold; (try dsimp only)) | walk1 | (dsimp only; walk1) | (leave1; walk_say "STEP leave1"; try dsimp only) | fail "no step")
      · exact mid_added (by assumption) (by assumption) hta hg hvl hl6 hpl hnm hneI hvI hII (by assumption) (by assumption) (by assumption) rfl rfl rfl rfl rfl
      walk1
      repeat' ((fail_if_success (with_reducible show wpAny _ _ (exec (Stmt.If _ _ _ _) _) _ _ _)); first | (k_unfold; (try dsimp only)) | walk1 | (dsimp only; walk1) | (leave1; walk_say "STEP leave1"; try dsimp only) | fail "no step")
      · exact mid_tested (by assumption) (cb_drop (by assumption) fun q hq => List.mem_cons_of_mem _ hq) hta hg hl6 hpl (by assumption) (by assumption) (by assumption) (by assumption) hII (by assumption) (by assumption) rfl rfl rfl rfl rfl
      walk1
      repeat' ((fail_if_success (with_reducible show wpAny _ _ (exec (Stmt.If _ _ _ _) _) _ _ _)); first | (k_unfold; (try dsimp only)) | walk1 | (dsimp only; walk1) | (leave1; walk_say "STEP leave1"; try dsimp only) | fail "no step")
      · exact mid_star (by assumption) (by assumption) hta hg hvl hl6 hpl hnm hneI hlaI hvI hII rfl rfl rfl rfl rfl
      rename News _ _ _ _ => N7
      rename Fr _ _ _ _ => F7
      obtain ⟨N8, hneO, hoa, hto, hdo, hot, hlm⟩ := open_other N7 (by assumption) (by assumption) (by assumption)
      clear N7
      refine wpAny_mono (Q := Mid2 F7 w.params s sl I ta td oI (toldD w.params path name (cond l) t1 t2 t3 u1 u2 u3) path name tp tn) (E := fun _ _ => False) ?st3 ?nx3 (fun e s' h => h.elim)
      case st3 =>
        walk1
        k_steps
        · exact mid2_yes (by assumption) (by assumption) hII hneO hlm hneI hoa hto hdo hot (by assumption) (by assumption) (by assumption) (by assumption) rfl rfl rfl rfl rfl rfl rfl
        · exact mid2_no (by assumption) (by assumption) hII hneO hlm hneI hoa hto hdo hot (by assumption) rfl rfl rfl rfl rfl rfl rfl
      rintro f s' ⟨rfl, h', tk', u, restX, D, vs2, n2, l2, oa, od, x9, s1, s2, s3, r1, r2, r3, c, tc, rfl, F9, N9, hD, hv2, hvl2, hg2, hl2, hIX, hXo, hXT, hoa, hto, hdo, hx9, e1, e2, e3, e4, e5, e6, e7⟩
      rw [frame_as u [(Str.ofString "script", .ref sl), (Str.ofString "told", .ref ta), (Str.ofString "path", .str path tp), (Str.ofString "name", .str name tn), (Str.ofString "cell", .int c tc), (Str.ofString "other", .ref oa), (Str.ofString "more", .ref D)] (by simp [e1, e2, e3, e4, e5, e6, e7])] at F9
      simp only [List.foldr_cons, List.foldr_nil] at F9
      clear e1 e2 e3 e4 e5 e6 e7
      have hXt : ∀ p ∈ restX, p.1 ≠ td := fun p hp => hXT p (List.mem_cons_of_mem _ (List.mem_cons_of_mem _ hp))
      have hot' : oa ≠ td := hXT _ (List.mem_cons_self ..)
      have hodt : od ≠ td := hXT _ (List.mem_cons_of_mem _ (List.mem_cons_self ..))
      have hsl : (shown path name (cond l)).length ≤ 100000 := by have := shown_len path name (cond l); omega
      dsimp only
      k_steps
      all_goals first
        | exact mid_join (by assumption) (cb_drop (by assumption) fun q hq => List.mem_cons_of_mem _ hq) hta hg2 hvl2 hl2 hl6 (by omega) hg hpl hnm hx9 (combs_len _ (by assumption)) (hne_two hot' hodt hXt) hD hv2 hIX rfl rfl rfl rfl rfl
end Mine
namespace Mine
open PySem PySem.W PyProof.Rows
abbrev vOf {x1 : Str} {x2 : Arguments} {x3 : List Stmt} {x4 : List PySem.Expr} {x5 x6 x8 x9 x10 y1 y2} {x7 : Scope} (_ : st 0 = .Import y1 y2) (_ : st 75 = .FunctionDef x1 x2 x3 x4 x5 x6 x7 x8 x9 x10) : Program :=
  { PySem.Challenge.pw_ad5043_01 with main := { PySem.Challenge.pw_ad5043_01.main with body := [.Import y1 y2, .FunctionDef x1 x2 x3 x4 x5 x6 x7 x8 x9 x10] } }
noncomputable def view : Program := vOf rfl rfl
def loose : List Str := [Str.ofString "_wall", Str.ofString "_pe_name", Str.ofString "_twin_re_10", Str.ofString "_twin_re_11", Str.ofString "cast", Str.ofString "ascii_lower", Str.ofString "SelectorError", Str.ofString "SelectorSyntaxError", Str.ofString "Selector", Str.ofString "Class", Str.ofString "FunctionalPseudoElement", Str.ofString "Function", Str.ofString "Pseudo", Str.ofString "Negation", Str.ofString "_combinator_prefix", Str.ofString "Relation", Str.ofString "Matching", Str.ofString "SpecificityAdjustment", Str.ofString "Attrib", Str.ofString "Element", Str.ofString "Hash", Str.ofString "CombinedSelector", Str.ofString "_el_re", Str.ofString "_id_re", Str.ofString "_class_re", Str.ofString "parse", Str.ofString "parse_selector_group", Str.ofString "parse_selector", Str.ofString "parse_simple_selector", Str.ofString "parse_arguments", Str.ofString "parse_relative_selector", Str.ofString "parse_simple_selector_arguments", Str.ofString "parse_attrib", Str.ofString "parse_series", Str.ofString "Token", Str.ofString "EOFToken", Str.ofString "_match_whitespace", Str.ofString "_match_number", Str.ofString "_match_hash", Str.ofString "_match_ident", Str.ofString "_match_string_by_quote", Str.ofString "_unicode_escape", Str.ofString "_newline_escape", Str.ofString "_replace_unicode", Str.ofString "_sub_unicode_escape", Str.ofString "_sub_simple_escape", Str.ofString "unescape_ident", Str.ofString "_serialize_ident", Str.ofString "tokenize", Str.ofString "TokenStream", Str.ofString "ascii_lowercase", Str.ofString "ascii_uppercase", Str.ofString "ExpressionError", Str.ofString "XPathExpr", Str.ofString "split_at_single_quotes", Str.ofString "_safe_name", Str.ofString "is_safe_name", Str.ofString "_non_whitespace", Str.ofString "is_non_whitespace", Str.ofString "GenericTranslator", Str.ofString "_law_marks", Str.ofString "_law_names", Str.ofString "_law_tests", Str.ofString "_law_combiners", Str.ofString "_law_cell", Str.ofString "_law_end", Str.ofString "_law_holds", Str.ofString "_law_truth", Str.ofString "_law_is", Str.ofString "_law_added", Str.ofString "_law_tested"]
def as : List Addr := [0, 1, 2, 3, 4, 5, 6, 7, 9, 10, 11, 12, 13, 14, 15, 16, 17, 19, 20, 21, 22, 23, 24, 25, 26, 28, 30, 31, 963, 964, 965, 966, 968, 969, 970, 971, 973, 974, 976, 977, 978, 980, 981, 983, 984, 985, 987, 988, 990, 992, 993, 995, 996, 998, 999, 1000, 1002, 1003, 1005, 1006, 1007, 1009, 1010, 1012, 1013, 1014, 1016, 1017, 1019, 1020, 1021, 1022, 1023, 1024, 1025, 1035, 1036, 1037, 1038, 1039, 1040, 1042, 1043, 1045, 1046, 1088, 1090, 1091, 1092, 1095, 1096, 1097, 1098, 1099, 1434, 1435, 1436, 1437, 1438, 1439, 1440, 1441, 1443, 1444, 1446, 1447, 1448, 1450, 1451, 1453, 1454, 1455, 1457, 1458, 1460, 1461, 1462, 1464, 1465, 1467, 1468, 1469, 1471, 1472, 1474, 1475, 1476, 1478, 1479, 1481, 1482, 1483, 1485, 1486, 1488, 1489, 1490, 1493, 1494, 1495, 1497, 1498, 1500, 1501, 1502, 1504, 1505, 1507, 1508, 1509, 1511, 1512, 1514, 1515]
theorem as_ok : ∀ P, as = (hd.heap_1 P).map (·.1) := fun _ => by kernel_rfl
noncomputable abbrev hook : Hook := kHook hd.heap_1 as as_ok
theorem get_map {t : BT} {n : Nat} {life : Life} : ∀ (l : List Addr), l.all (fun a => Nat.blt a n) = true → (l.all fun a => (t.get a).isSome) = true → l.map (absHeap t n life).get? = l.map fun a => (t.get a).bind alive
  | [], _, _ => rfl
  | a :: l, h, g => by
    simp only [List.all_cons, Bool.and_eq_true] at h g
    obtain ⟨o, ho⟩ := Option.isSome_iff_exists.mp g.1
    rw [List.map_cons, List.map_cons, get_map l h.2 g.2, abs_get (Nat.le_of_ble_eq_true h.1) ho, ho]
    rfl
theorem k_obs (w : World) (os : OsState) : hook.obs ⟨absHeap (H.T75 w.params) 1516 {}, #[], {}, 3993, os⟩ = hook.val w := by
  show as.map (absHeap (H.T75 w.params) 1516 {}).get? = (hd.heap_1 w.params).map fun p => some p.2
  rw [get_map as (by kernel_rfl) (by kernel_rfl)]
  kernel_rfl
end Mine
namespace Mine
open PySem PySem.W PyProof.Rows
noncomputable abbrev Xt : Shared → Bool := fun s => xlAt view [] s && recOk (RowW.records (OpenRow.toRowW PySem.Challenge.rw_ad5043_01.row)) s
theorem size (w : World) : ((absHeap (H.Tz w.params) 28 {}).isNs mainGlobals && (#[] : Array GenState).size == 0, (absHeap (H.Tz w.params) 28 {}).objs.size, (absHeap (H.Tz w.params) 28 {}).nsMap mainGlobals "__annotations__") = (true, 28, some (.ref 6)) := by
  kernel_rfl
theorem look1 (w : World) (os : OsState) : (staticsOk (importedModules H.pw.main.body) (absHeap (H.Tz w.params) 28 {}) (absHeap (H.T75 w.params) 1516 {}) && namesBound H.pw (absHeap (H.T75 w.params) 1516 {}) && gensDone ⟨absHeap (H.T75 w.params) 1516 {}, #[], {}, 3993, os⟩ && laidKept (absHeap (H.Tz w.params) 28 {}) (absHeap (H.T75 w.params) 1516 {})) = true := by
  kernel_rfl
theorem look2 (w : World) (os : OsState) : openSeen view loose (importedModules H.pw.main.body) Xt true ⟨absHeap (H.T75 w.params) 1516 {}, #[], {}, 3993, os⟩ = openGood view loose := by
  kernel_rfl
end Mine
namespace Mine
open PySem PySem.W PyProof.Rows
theorem left : LeftO H.pw view loose Xt (Hook.obs hook) (Hook.val hook) 25116 := 
  LeftO.of_pieces (H₀ := fun P => absHeap (H.Tz P) 28 {}) (H₁ := fun P => absHeap (H.T75 P) 1516 {}) H.open_ size H.run (by decide +kernel)
    (fun w => funext fun os => by
      rw [look1 w os, look2 w os, k_obs w os])
end Mine
namespace Mine
open PySem PySem.W PyProof.Rows PySem.Calls PySem.Spec PyProof.V
theorem len63 {vs : List Value} {ns : List Int} (_ : IntsAre vs ns) (h : ¬ (((63 : Nat) : Int) < ((ns.length : Nat) : Int))) : ns.length ≤ 63 := by omega
set_option maxHeartbeats 8000000 in
theorem hh : PySem.Challenge.rw_ad5043_01.Holds := by
  w_on
  refine by_law fun said => ?_
  refine holds_open (q := view) (loose := loose) (Xt := Xt) (XP := XL view []) (Yf := Hook.obs hook) (Ya := Hook.val hook) (YP := Hook.says hook) (N := 25116) left (Hook.of hook) (Hook.keeps hook) (fun s e => xl_of s (Bool.and_eq_true_iff.mp e).1) XL.keeps (by rfl) (by rfl) (by rfl) (fun s e => recFacts_of (Bool.and_eq_true_iff.mp e).2) (by rfl) (by first | assumption | decide +kernel) (by decide +kernel) prog_bare ?hw ?hc
  case hw => w_witness2
  k_go0
  rename_i w s₀ s mg mb G Y fa fo pm dv kv hfo hgs KX XM VL GL T BT TE TW b9 b8 BM c7 c6 hcd ns hs hlay0 hL1 hr1 hl2 z4 z3 sl vs z0 hl ra zw r0 hi hr hc9 hc8 K0 hD h1 F0 N0
  have hlen := len63 hi hc9
  revert KX
  k_fill
  intro KX
  refine' law_body (p := view) (s := s) (R := fun r s' => GoodW PySem.Challenge.rw_ad5043_01.row.claim (classAt s₀.heap) (ExcName.means s₀.heap) [ofPy (PyData.list (List.map PyData.int ns))] s r s') rfl ?hK _ _ _ _ _ [] callerA _ s.heap h1 _ sl _ vs ns _ ?g1 ?g2 ?gB ?gF ?gX ?gN ?gT ?gl ?gi ?glen ?hm ?g3
  case hK => k_is
  case gB => exact K0
  case gF => exact F0
  case gX => exact KX
  case gN => exact N0
  case gT => exact T
  case gl => exact hl
  case gi => exact hi
  case glen => exact hlen
  case hm => rfl
  case g1 => first | decide | ktr_room
  case g2 => first | decide | ktr_units
  case g3 =>
    intro h' tk' m' F'
    k_end
    wrow_close
end Mine
theorem PySem.Challenge.cw_ad5043_01_holds : PySem.Challenge.rw_ad5043_01.Holds := by
  exact Mine.hh
