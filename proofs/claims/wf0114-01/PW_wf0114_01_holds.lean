import PyProof.Rows.All
import Wide.All
import OpenK.AllK
import Wide.FinOn
import Open.Pieces
import Lean
import PySem.Challenge.RW_wf0114_01
set_option Elab.async false
set_option linter.all false
set_option maxHeartbeats 8000000
set_option genSizeOf false
namespace Mine
section
set_option maxRecDepth 100000
open PySem PySem.W
noncomputable abbrev Z (l : List Nat) : Str := ⟨⟨l⟩⟩
noncomputable def E (P : Params) (k : Str) (t : Nat) (v : Value) : DictEntry := ⟨PyData.keyHash P k, .str k t, v⟩
noncomputable abbrev N (o : Obj) (l r : BT) : BT := .node o l r
noncomputable abbrev B : BT := .nil
structure FD where
 params : Arguments
 body : List Stmt
 scope : Scope
noncomputable def fdOf : Stmt -> FD
 | .FunctionDef _ a b _ _ _ sc _ _ _ => ⟨a, b, sc⟩
 | _ => ⟨⟨[], [], none, [], [], none, []⟩, [], ⟨.module, [], false, false, []⟩⟩
noncomputable def cdOf : Stmt -> List Stmt
 | .ClassDef _ _ _ b _ _ _ _ _ _ _ => b
 | _ => []
noncomputable def stAt (l : List Stmt) (i : Nat) : Stmt := l.getD i (.Pass ⟨0, 0, 0, 0⟩)
noncomputable def fdAt (i : Nat) : FD := fdOf (stAt Challenge.pw_wf0114_01.main.body i)
noncomputable def mdAt (i j : Nat) : FD := fdOf (stAt (cdOf (stAt Challenge.pw_wf0114_01.main.body i)) j)
noncomputable def Fn (d : FD) (name qual : Str) (globals : Addr) (dV kV doc pm : Value) (an : Option Addr) (code ct : Value) (blt : Addr) : FuncData :=
 { name, qualname := qual, params := d.params, body := .stmts d.body, scope := d.scope, globals, closure := [], defaults := dV, kwdefaults := kV, doc, pyModule := pm, annotations := an, code, closureTuple := ct, builtins := blt }
noncomputable abbrev tpO (l : List Value) : Obj := ⟨.type "tuple", none, .seq ⟨l⟩ 0, ⟨[]⟩⟩
noncomputable abbrev lsO (l : List Value) : Obj := ⟨.type "list", none, .seq ⟨l⟩ 0, ⟨[]⟩⟩
noncomputable abbrev flO (l : List Value) : Obj := ⟨.none, none, .fields ⟨l⟩, ⟨[]⟩⟩
noncomputable abbrev cdO (l : List Value) : Obj := ⟨.type "code", none, .fields ⟨l⟩, ⟨[]⟩⟩
noncomputable abbrev dcO (l : List DictEntry) (n : Nat) : Obj := ⟨.type "dict", none, .dict ⟨l⟩ n, ⟨[]⟩⟩
noncomputable abbrev fnO (f : FuncData) : Obj := ⟨.type "function", none, .func f, ⟨[]⟩⟩
noncomputable def o0s (P : Params) : Obj := dcO [E P "__name__" 1 (.str "builtins" 160), E P "__doc__" 2 (.builtin "builtins.__doc__:str#opaque"), E P "__package__" 3 (.builtin "builtins.__package__:str#opaque"), E P "__loader__" 4 (.builtin "builtins.__loader__:shared#opaque"), E P "__spec__" 5 (.builtin "builtins.__spec__#opaque"), E P "__build_class__" 6 (.builtin "__build_class__"), E P "__import__" 7 (.builtin "__import__"), E P "abs" 8 (.builtin "abs"), E P "all" 9 (.builtin "all"), E P "any" 10 (.builtin "any"), E P "ascii" 11 (.builtin "ascii"), E P "bin" 12 (.builtin "bin"), E P "breakpoint" 13 (.builtin "breakpoint"), E P "callable" 14 (.builtin "callable"), E P "chr" 15 (.builtin "chr"), E P "compile" 16 (.builtin "compile"), E P "delattr" 17 (.builtin "delattr"), E P "dir" 18 (.builtin "dir"), E P "divmod" 19 (.builtin "divmod"), E P "eval" 20 (.builtin "eval"), E P "exec" 21 (.builtin "exec"), E P "format" 22 (.builtin "format"), E P "getattr" 23 (.builtin "getattr"), E P "globals" 24 (.builtin "globals"), E P "hasattr" 25 (.builtin "hasattr"), E P "hash" 26 (.builtin "hash"), E P "hex" 27 (.builtin "hex"), E P "id" 28 (.builtin "id"), E P "input" 29 (.builtin "input"), E P "isinstance" 30 (.builtin "isinstance"), E P "issubclass" 31 (.builtin "issubclass"), E P "iter" 32 (.builtin "iter"), E P "aiter" 33 (.builtin "aiter"), E P "len" 34 (.builtin "len"), E P "locals" 35 (.builtin "locals"), E P "max" 36 (.builtin "max"), E P "min" 37 (.builtin "min"), E P "next" 38 (.builtin "next"), E P "anext" 39 (.builtin "anext"), E P "oct" 40 (.builtin "oct"), E P "ord" 41 (.builtin "ord"), E P "pow" 42 (.builtin "pow"), E P "print" 43 (.builtin "print"), E P "repr" 44 (.builtin "repr"), E P "round" 45 (.builtin "round"), E P "setattr" 46 (.builtin "setattr"), E P "sorted" 47 (.builtin "sorted"), E P "sum" 48 (.builtin "sum"), E P "vars" 49 (.builtin "vars"), E P "None" 50 .none, E P "Ellipsis" 51 .ellipsis, E P "NotImplemented" 52 .notImplemented, E P "False" 53 (.bool false), E P "True" 54 (.bool true), E P "bool" 55 (.type "bool"), E P "memoryview" 56 (.type "memoryview"), E P "bytearray" 57 (.type "bytearray"), E P "bytes" 58 (.type "bytes"), E P "classmethod" 59 (.type "classmethod"), E P "complex" 60 (.type "complex"), E P "dict" 61 (.type "dict"), E P "enumerate" 62 (.type "enumerate"), E P "filter" 63 (.type "filter"), E P "float" 64 (.type "float"), E P "frozenset" 65 (.type "frozenset"), E P "property" 66 (.type "property"), E P "int" 67 (.type "int"), E P "list" 68 (.type "list"), E P "map" 69 (.type "map"), E P "object" 70 (.type "object"), E P "range" 71 (.type "range"), E P "reversed" 72 (.type "reversed"), E P "set" 73 (.type "set"), E P "slice" 74 (.type "slice"), E P "staticmethod" 75 (.type "staticmethod"), E P "str" 76 (.type "str"), E P "super" 77 (.type "super"), E P "tuple" 78 (.type "tuple"), E P "type" 79 (.type "type"), E P "zip" 80 (.type "zip"), E P "__debug__" 81 (.bool true), E P "BaseException" 82 (.type "BaseException"), E P "BaseExceptionGroup" 83 (.type "BaseExceptionGroup"), E P "Exception" 84 (.type "Exception"), E P "GeneratorExit" 85 (.type "GeneratorExit"), E P "KeyboardInterrupt" 86 (.type "KeyboardInterrupt"), E P "SystemExit" 87 (.type "SystemExit"), E P "ArithmeticError" 88 (.type "ArithmeticError"), E P "AssertionError" 89 (.type "AssertionError"), E P "AttributeError" 90 (.type "AttributeError"), E P "BufferError" 91 (.type "BufferError"), E P "EOFError" 92 (.type "EOFError"), E P "ImportError" 93 (.type "ImportError"), E P "LookupError" 94 (.type "LookupError"), E P "MemoryError" 95 (.type "MemoryError"), E P "NameError" 96 (.type "NameError"), E P "OSError" 97 (.type "OSError"), E P "ReferenceError" 98 (.type "ReferenceError"), E P "RuntimeError" 99 (.type "RuntimeError"), E P "StopAsyncIteration" 100 (.type "StopAsyncIteration"), E P "StopIteration" 101 (.type "StopIteration"), E P "SyntaxError" 102 (.type "SyntaxError"), E P "SystemError" 103 (.type "SystemError"), E P "TypeError" 104 (.type "TypeError"), E P "ValueError" 105 (.type "ValueError"), E P "Warning" 106 (.type "Warning"), E P "FloatingPointError" 107 (.type "FloatingPointError"), E P "OverflowError" 108 (.type "OverflowError"), E P "ZeroDivisionError" 109 (.type "ZeroDivisionError"), E P "BytesWarning" 110 (.type "BytesWarning"), E P "DeprecationWarning" 111 (.type "DeprecationWarning"), E P "EncodingWarning" 112 (.type "EncodingWarning"), E P "FutureWarning" 113 (.type "FutureWarning"), E P "ImportWarning" 114 (.type "ImportWarning"), E P "PendingDeprecationWarning" 115 (.type "PendingDeprecationWarning"), E P "ResourceWarning" 116 (.type "ResourceWarning"), E P "RuntimeWarning" 117 (.type "RuntimeWarning"), E P "SyntaxWarning" 118 (.type "SyntaxWarning"), E P "UnicodeWarning" 119 (.type "UnicodeWarning"), E P "UserWarning" 120 (.type "UserWarning"), E P "BlockingIOError" 121 (.type "BlockingIOError"), E P "ChildProcessError" 122 (.type "ChildProcessError"), E P "ConnectionError" 123 (.type "ConnectionError"), E P "FileExistsError" 124 (.type "FileExistsError"), E P "FileNotFoundError" 125 (.type "FileNotFoundError"), E P "InterruptedError" 126 (.type "InterruptedError"), E P "IsADirectoryError" 127 (.type "IsADirectoryError"), E P "NotADirectoryError" 128 (.type "NotADirectoryError"), E P "PermissionError" 129 (.type "PermissionError"), E P "ProcessLookupError" 130 (.type "ProcessLookupError"), E P "TimeoutError" 131 (.type "TimeoutError"), E P "IndentationError" 132 (.type "IndentationError"), E P "_IncompleteInputError" 133 (.type "_IncompleteInputError"), E P "IndexError" 134 (.type "IndexError"), E P "KeyError" 135 (.type "KeyError"), E P "ModuleNotFoundError" 136 (.type "ModuleNotFoundError"), E P "NotImplementedError" 137 (.type "NotImplementedError"), E P "PythonFinalizationError" 138 (.type "PythonFinalizationError"), E P "RecursionError" 139 (.type "RecursionError"), E P "UnboundLocalError" 140 (.type "UnboundLocalError"), E P "UnicodeError" 141 (.type "UnicodeError"), E P "BrokenPipeError" 142 (.type "BrokenPipeError"), E P "ConnectionAbortedError" 143 (.type "ConnectionAbortedError"), E P "ConnectionRefusedError" 144 (.type "ConnectionRefusedError"), E P "ConnectionResetError" 145 (.type "ConnectionResetError"), E P "TabError" 146 (.type "TabError"), E P "UnicodeDecodeError" 147 (.type "UnicodeDecodeError"), E P "UnicodeEncodeError" 148 (.type "UnicodeEncodeError"), E P "UnicodeTranslateError" 149 (.type "UnicodeTranslateError"), E P "ExceptionGroup" 150 (.type "ExceptionGroup"), E P "EnvironmentError" 151 (.type "OSError"), E P "IOError" 152 (.type "OSError"), E P "open" 153 (.builtin "open"), E P "quit" 154 (.builtin "builtins.quit#opaque"), E P "exit" 155 (.builtin "builtins.exit#opaque"), E P "copyright" 156 (.builtin "builtins.copyright#opaque"), E P "credits" 157 (.builtin "builtins.credits#opaque"), E P "license" 158 (.builtin "builtins.license#opaque"), E P "help" 159 (.builtin "builtins.help#opaque")] 159
noncomputable def o1s (P : Params) : Obj := dcO [E P "builtins" 162 (.ref 4), E P "__main__" 163 (.ref 5), E P "_sre" 244 (.ref 12)] 3
noncomputable def o2s (P : Params) : Obj := ⟨.none, none, (.dict ⟨[E P (Z [105, 109, 112, 111, 114, 116, 46, 108, 111, 97, 100, 101, 100, 46, 95, 115, 114, 101]) 183 (.bool true), E P "class._frozen_importlib.BuiltinImporter" 185 (.ref 14), E P (Z [119, 97, 116, 99, 104, 101, 100, 46, 105, 109, 112, 111, 114, 116]) 206 (.ref 18), E P "class._frozen_importlib.ModuleSpec" 216 (.ref 22), E P "sys.modules.booked-epoch" 245 (.int 3 0), E P (Z [105, 109, 112, 111, 114, 116, 46, 108, 97, 116, 101, 114, 45, 108, 97, 105, 100, 46, 95, 115, 114, 101]) 270 (.bool true), E P "watched.library" 272 (.ref 27), E P "watched.library-objects" 0 (.str (Z [12]) 0), E P "watched.library-deep._sre" 273 (.str (Z [4, 0, 0, 11, 4, 0, 0, 11, 4, 0, 0, 3, 4, 0, 0, 11, 8, 4, 100, 105, 99, 116, 2]) 0)]⟩ 9), ⟨[]⟩⟩
noncomputable def o3s (P : Params) : Obj := dcO [E P "__name__" 165 (.str "__main__" 164), E P "__doc__" 166 .none, E P "__package__" 167 .none, E P "__loader__" 168 (.builtin "__main__.__loader__#opaque"), E P "__spec__" 169 .none, E P "__annotations__" 170 (.ref 6), E P "__builtins__" 171 (.ref 4), E P "__file__" 173 (.str "/claim/cut.py" 172), E P "__cached__" 174 .none, E P "_sre" 275 (.ref 12)] 10
noncomputable def o4s : Obj := ⟨(.type "module"), (some 0), .plain, ⟨[]⟩⟩
noncomputable def o5s : Obj := ⟨(.type "module"), (some 3), .plain, ⟨[]⟩⟩
noncomputable def o6s : Obj := dcO [] 0
noncomputable def o7s : Obj := tpO []
noncomputable def o8s : Obj := flO []
noncomputable def o9s : Obj := cdO [(.str "<module>" 176), (.str "<module>" 177), (.str "/claim/cut.py" 178), (.int 1 0), (.int 0 0), (.int 0 0), (.int 0 0), (.int 0 0), (.ref 7), (.bool false), (.int 175 0), (.ref 8), .none, .none, .none, .none, (.int 179 0), (.int 1 0), (.str "/claim/cut.py" 180)]
noncomputable def o10s : Obj := ⟨(.type "frame"), none, .plain, ⟨[(some (.ref 9)), (some (.ref 3)), (some (.ref 3)), none, (some (.str "__main__" 164)), none, (some (.ref 0))]⟩⟩
noncomputable def o11s (P : Params) : Obj := dcO [E P "__name__" 247 (.str "_sre" 246), E P "__doc__" 248 .none, E P "__package__" 250 (.str (Z []) 249), E P "__loader__" 251 (.builtin "off-the-table:_sre.__loader__:shared#opaque"), E P "__spec__" 252 (.builtin "off-the-table:_sre.__spec__:shared#opaque"), E P "compile" 253 (.builtin "_sre.compile"), E P "template" 254 (.builtin "off-the-table:_sre.template:shared#opaque"), E P "getcodesize" 255 (.builtin "off-the-table:_sre.getcodesize:shared#opaque"), E P "ascii_iscased" 256 (.builtin "off-the-table:_sre.ascii_iscased:shared#opaque"), E P "unicode_iscased" 257 (.builtin "off-the-table:_sre.unicode_iscased:shared#opaque"), E P "ascii_tolower" 258 (.builtin "off-the-table:_sre.ascii_tolower:shared#opaque"), E P "unicode_tolower" 259 (.builtin "off-the-table:_sre.unicode_tolower:shared#opaque"), E P "MAGIC" 261 (.int 20230612 260), E P "CODESIZE" 263 (.int 4 262), E P "MAXREPEAT" 265 (.int 4294967295 264), E P "MAXGROUPS" 267 (.int 1073741823 266), E P "copyright" 269 (.str " SRE 2.2.2 Copyright (c) 1997-2002 by Secret Labs AB " 268)] 17
noncomputable def o12s : Obj := ⟨(.type "module"), (some 11), .plain, ⟨[]⟩⟩
noncomputable def o13s (P : Params) : Obj := dcO [E P "__module__" 189 (.str "_frozen_importlib" 186), E P "__firstlineno__" 190 (.int 971 187), E P "__doc__" 191 (.builtin "_frozen_importlib.BuiltinImporter.__doc__:str#opaque"), E P "_ORIGIN" 192 (.str "built-in" 188), E P "find_spec" 193 (.builtin "_frozen_importlib.BuiltinImporter.find_spec#opaque"), E P "create_module" 194 (.builtin "_frozen_importlib.BuiltinImporter.create_module#opaque"), E P "exec_module" 195 (.builtin "_frozen_importlib.BuiltinImporter.exec_module#opaque"), E P "get_code" 196 (.builtin "_frozen_importlib.BuiltinImporter.get_code#opaque"), E P "get_source" 197 (.builtin "_frozen_importlib.BuiltinImporter.get_source#opaque"), E P "is_package" 198 (.builtin "_frozen_importlib.BuiltinImporter.is_package#opaque"), E P "load_module" 199 (.builtin "_frozen_importlib.BuiltinImporter.load_module#opaque"), E P "__static_attributes__" 200 (.ref 15), E P "__dict__" 202 (.ref 16), E P "__weakref__" 204 (.ref 17)] 14
noncomputable def o14s : Obj := ⟨(.type "type"), none, (.cls { name := "BuiltinImporter", bases := [(.type "object")], mro := [(.ref 14), (.type "object")], ns := 13, qualname := "BuiltinImporter", hasDict := true, slotNames := [], subclasses := [], abstract := false, collection := none, hasDel := false }), ⟨[]⟩⟩
noncomputable def o16s : Obj := ⟨(.type "getset_descriptor"), none, (.fields ⟨[(.str "__dict__" 201), (.ref 14), (.builtin "function.__dict__"), (.builtin "function.__dict__#set")]⟩), ⟨[]⟩⟩
noncomputable def o17s : Obj := ⟨(.type "getset_descriptor"), none, (.fields ⟨[(.str "__weakref__" 203), (.ref 14), (.builtin "ExceptionGroup.__weakref__"), .none]⟩), ⟨[]⟩⟩
noncomputable def o18s : Obj := ⟨.none, none, (.seq ⟨[(.int 13 0), (.str (Z [6, 189, 10, 95, 95, 109, 111, 100, 117, 108, 101, 95, 95, 6, 186, 17, 95, 102, 114, 111, 122, 101, 110, 95, 105, 109, 112, 111, 114, 116, 108, 105, 98, 6, 190, 15, 95, 95, 102, 105, 114, 115, 116, 108, 105, 110, 101, 110, 111, 95, 95, 4, 187, 0, 971, 6, 191, 7, 95, 95, 100, 111, 99, 95, 95, 9, 52, 95, 102, 114, 111, 122, 101, 110, 95, 105, 109, 112, 111, 114, 116, 108, 105, 98, 46, 66, 117, 105, 108, 116, 105, 110, 73, 109, 112, 111, 114, 116, 101, 114, 46, 95, 95, 100, 111, 99, 95, 95, 58, 115, 116, 114, 35, 111, 112, 97, 113, 117, 101, 6, 192, 7, 95, 79, 82, 73, 71, 73, 78, 6, 188, 8, 98, 117, 105, 108, 116, 45, 105, 110, 6, 193, 9, 102, 105, 110, 100, 95, 115, 112, 101, 99, 9, 50, 95, 102, 114, 111, 122, 101, 110, 95, 105, 109, 112, 111, 114, 116, 108, 105, 98, 46, 66, 117, 105, 108, 116, 105, 110, 73, 109, 112, 111, 114, 116, 101, 114, 46, 102, 105, 110, 100, 95, 115, 112, 101, 99, 35, 111, 112, 97, 113, 117, 101, 6, 194, 13, 99, 114, 101, 97, 116, 101, 95, 109, 111, 100, 117, 108, 101, 9, 54, 95, 102, 114, 111, 122, 101, 110, 95, 105, 109, 112, 111, 114, 116, 108, 105, 98, 46, 66, 117, 105, 108, 116, 105, 110, 73, 109, 112, 111, 114, 116, 101, 114, 46, 99, 114, 101, 97, 116, 101, 95, 109, 111, 100, 117, 108, 101, 35, 111, 112, 97, 113, 117, 101, 6, 195, 11, 101, 120, 101, 99, 95, 109, 111, 100, 117, 108, 101, 9, 52, 95, 102, 114, 111, 122, 101, 110, 95, 105, 109, 112, 111, 114, 116, 108, 105, 98, 46, 66, 117, 105, 108, 116, 105, 110, 73, 109, 112, 111, 114, 116, 101, 114, 46, 101, 120, 101, 99, 95, 109, 111, 100, 117, 108, 101, 35, 111, 112, 97, 113, 117, 101, 6, 196, 8, 103, 101, 116, 95, 99, 111, 100, 101, 9, 49, 95, 102, 114, 111, 122, 101, 110, 95, 105, 109, 112, 111, 114, 116, 108, 105, 98, 46, 66, 117, 105, 108, 116, 105, 110, 73, 109, 112, 111, 114, 116, 101, 114, 46, 103, 101, 116, 95, 99, 111, 100, 101, 35, 111, 112, 97, 113, 117, 101, 6, 197, 10, 103, 101, 116, 95, 115, 111, 117, 114, 99, 101, 9, 51, 95, 102, 114, 111, 122, 101, 110, 95, 105, 109, 112, 111, 114, 116, 108, 105, 98, 46, 66, 117, 105, 108, 116, 105, 110, 73, 109, 112, 111, 114, 116, 101, 114, 46, 103, 101, 116, 95, 115, 111, 117, 114, 99, 101, 35, 111, 112, 97, 113, 117, 101, 6, 198, 10, 105, 115, 95, 112, 97, 99, 107, 97, 103, 101, 9, 51, 95, 102, 114, 111, 122, 101, 110, 95, 105, 109, 112, 111, 114, 116, 108, 105, 98, 46, 66, 117, 105, 108, 116, 105, 110, 73, 109, 112, 111, 114, 116, 101, 114, 46, 105, 115, 95, 112, 97, 99, 107, 97, 103, 101, 35, 111, 112, 97, 113, 117, 101, 6, 199, 11, 108, 111, 97, 100, 95, 109, 111, 100, 117, 108, 101, 9, 52, 95, 102, 114, 111, 122, 101, 110, 95, 105, 109, 112, 111, 114, 116, 108, 105, 98, 46, 66, 117, 105, 108, 116, 105, 110, 73, 109, 112, 111, 114, 116, 101, 114, 46, 108, 111, 97, 100, 95, 109, 111, 100, 117, 108, 101, 35, 111, 112, 97, 113, 117, 101, 6, 200, 21, 95, 95, 115, 116, 97, 116, 105, 99, 95, 97, 116, 116, 114, 105, 98, 117, 116, 101, 115, 95, 95, 4, 0, 0, 15, 6, 202, 8, 95, 95, 100, 105, 99, 116, 95, 95, 4, 0, 0, 16, 6, 204, 11, 95, 95, 119, 101, 97, 107, 114, 101, 102, 95, 95, 4, 0, 0, 17]) 0), (.bool true), (.bool true), (.str (Z []) 205), (.int 21 0), (.str (Z [6, 227, 10, 95, 95, 109, 111, 100, 117, 108, 101, 95, 95, 6, 217, 17, 95, 102, 114, 111, 122, 101, 110, 95, 105, 109, 112, 111, 114, 116, 108, 105, 98, 6, 228, 15, 95, 95, 102, 105, 114, 115, 116, 108, 105, 110, 101, 110, 111, 95, 95, 4, 218, 0, 562, 6, 229, 7, 95, 95, 100, 111, 99, 95, 95, 9, 47, 95, 102, 114, 111, 122, 101, 110, 95, 105, 109, 112, 111, 114, 116, 108, 105, 98, 46, 77, 111, 100, 117, 108, 101, 83, 112, 101, 99, 46, 95, 95, 100, 111, 99, 95, 95, 58, 115, 116, 114, 35, 111, 112, 97, 113, 117, 101, 6, 230, 8, 95, 95, 105, 110, 105, 116, 95, 95, 9, 44, 95, 102, 114, 111, 122, 101, 110, 95, 105, 109, 112, 111, 114, 116, 108, 105, 98, 46, 77, 111, 100, 117, 108, 101, 83, 112, 101, 99, 46, 95, 95, 105, 110, 105, 116, 95, 95, 35, 111, 112, 97, 113, 117, 101, 6, 231, 8, 95, 95, 114, 101, 112, 114, 95, 95, 9, 44, 95, 102, 114, 111, 122, 101, 110, 95, 105, 109, 112, 111, 114, 116, 108, 105, 98, 46, 77, 111, 100, 117, 108, 101, 83, 112, 101, 99, 46, 95, 95, 114, 101, 112, 114, 95, 95, 35, 111, 112, 97, 113, 117, 101, 6, 232, 6, 95, 95, 101, 113, 95, 95, 9, 42, 95, 102, 114, 111, 122, 101, 110, 95, 105, 109, 112, 111, 114, 116, 108, 105, 98, 46, 77, 111, 100, 117, 108, 101, 83, 112, 101, 99, 46, 95, 95, 101, 113, 95, 95, 35, 111, 112, 97, 113, 117, 101, 6, 233, 6, 99, 97, 99, 104, 101, 100, 9, 42, 95, 102, 114, 111, 122, 101, 110, 95, 105, 109, 112, 111, 114, 116, 108, 105, 98, 46, 77, 111, 100, 117, 108, 101, 83, 112, 101, 99, 46, 99, 97, 99, 104, 101, 100, 35, 111, 112, 97, 113, 117, 101, 6, 234, 6, 112, 97, 114, 101, 110, 116, 9, 42, 95, 102, 114, 111, 122, 101, 110, 95, 105, 109, 112, 111, 114, 116, 108, 105, 98, 46, 77, 111, 100, 117, 108, 101, 83, 112, 101, 99, 46, 112, 97, 114, 101, 110, 116, 35, 111, 112, 97, 113, 117, 101, 6, 235, 12, 104, 97, 115, 95, 108, 111, 99, 97, 116, 105, 111, 110, 9, 48, 95, 102, 114, 111, 122, 101, 110, 95, 105, 109, 112, 111, 114, 116, 108, 105, 98, 46, 77, 111, 100, 117, 108, 101, 83, 112, 101, 99, 46, 104, 97, 115, 95, 108, 111, 99, 97, 116, 105, 111, 110, 35, 111, 112, 97, 113, 117, 101, 6, 236, 21, 95, 95, 115, 116, 97, 116, 105, 99, 95, 97, 116, 116, 114, 105, 98, 117, 116, 101, 115, 95, 95, 4, 0, 0, 23, 6, 238, 8, 95, 95, 100, 105, 99, 116, 95, 95, 4, 0, 0, 24, 6, 240, 11, 95, 95, 119, 101, 97, 107, 114, 101, 102, 95, 95, 4, 0, 0, 25, 6, 241, 8, 95, 95, 104, 97, 115, 104, 95, 95, 0]) 0), (.bool true), (.bool true), (.str (Z []) 242)]⟩ 1), ⟨[]⟩⟩
noncomputable def o19s : Obj := lsO []
noncomputable def o20s (P : Params) : Obj := dcO [E P "name" 208 (.str "_sre" 207), E P "loader" 209 (.ref 14), E P "origin" 210 (.str "built-in" 184), E P "loader_state" 211 .none, E P "submodule_search_locations" 212 .none, E P "_uninitialized_submodules" 213 (.ref 19), E P "_set_fileattr" 214 (.bool false), E P "_cached" 215 .none, E P "_initializing" 243 (.bool false)] 9
noncomputable def o21s (P : Params) : Obj := dcO [E P "__module__" 227 (.str "_frozen_importlib" 217), E P "__firstlineno__" 228 (.int 562 218), E P "__doc__" 229 (.builtin "_frozen_importlib.ModuleSpec.__doc__:str#opaque"), E P "__init__" 230 (.builtin "_frozen_importlib.ModuleSpec.__init__#opaque"), E P "__repr__" 231 (.builtin "_frozen_importlib.ModuleSpec.__repr__#opaque"), E P "__eq__" 232 (.builtin "_frozen_importlib.ModuleSpec.__eq__#opaque"), E P "cached" 233 (.builtin "_frozen_importlib.ModuleSpec.cached#opaque"), E P "parent" 234 (.builtin "_frozen_importlib.ModuleSpec.parent#opaque"), E P "has_location" 235 (.builtin "_frozen_importlib.ModuleSpec.has_location#opaque"), E P "__static_attributes__" 236 (.ref 23), E P "__dict__" 238 (.ref 24), E P "__weakref__" 240 (.ref 25), E P "__hash__" 241 .none] 13
noncomputable def o22s : Obj := ⟨(.type "type"), none, (.cls { name := "ModuleSpec", bases := [(.type "object")], mro := [(.ref 22), (.type "object")], ns := 21, qualname := "ModuleSpec", hasDict := true, slotNames := [], subclasses := [], abstract := false, collection := none, hasDel := false }), ⟨[]⟩⟩
noncomputable def o23s : Obj := tpO [(.str "_cached" 219), (.str "_set_fileattr" 220), (.str "_uninitialized_submodules" 221), (.str "loader" 222), (.str "loader_state" 223), (.str "name" 224), (.str "origin" 225), (.str "submodule_search_locations" 226)]
noncomputable def o24s : Obj := ⟨(.type "getset_descriptor"), none, (.fields ⟨[(.str "__dict__" 237), (.ref 22), (.builtin "function.__dict__"), (.builtin "function.__dict__#set")]⟩), ⟨[]⟩⟩
noncomputable def o25s : Obj := ⟨(.type "getset_descriptor"), none, (.fields ⟨[(.str "__weakref__" 239), (.ref 22), (.builtin "ExceptionGroup.__weakref__"), .none]⟩), ⟨[]⟩⟩
noncomputable def o26s : Obj := ⟨(.ref 22), (some 20), .plain, ⟨[]⟩⟩
noncomputable def o27s : Obj := ⟨.none, none, (.seq ⟨[(.int 11 0), (.str (Z [6, 247, 8, 95, 95, 110, 97, 109, 101, 95, 95, 6, 246, 4, 95, 115, 114, 101, 6, 248, 7, 95, 95, 100, 111, 99, 95, 95, 0, 6, 250, 11, 95, 95, 112, 97, 99, 107, 97, 103, 101, 95, 95, 6, 249, 0, 6, 251, 10, 95, 95, 108, 111, 97, 100, 101, 114, 95, 95, 4, 0, 0, 14, 6, 252, 8, 95, 95, 115, 112, 101, 99, 95, 95, 4, 0, 0, 26, 6, 253, 7, 99, 111, 109, 112, 105, 108, 101, 9, 12, 95, 115, 114, 101, 46, 99, 111, 109, 112, 105, 108, 101, 6, 254, 8, 116, 101, 109, 112, 108, 97, 116, 101, 9, 13, 95, 115, 114, 101, 46, 116, 101, 109, 112, 108, 97, 116, 101, 6, 255, 11, 103, 101, 116, 99, 111, 100, 101, 115, 105, 122, 101, 9, 16, 95, 115, 114, 101, 46, 103, 101, 116, 99, 111, 100, 101, 115, 105, 122, 101, 6, 256, 13, 97, 115, 99, 105, 105, 95, 105, 115, 99, 97, 115, 101, 100, 9, 18, 95, 115, 114, 101, 46, 97, 115, 99, 105, 105, 95, 105, 115, 99, 97, 115, 101, 100, 6, 257, 15, 117, 110, 105, 99, 111, 100, 101, 95, 105, 115, 99, 97, 115, 101, 100, 9, 20, 95, 115, 114, 101, 46, 117, 110, 105, 99, 111, 100, 101, 95, 105, 115, 99, 97, 115, 101, 100, 6, 258, 13, 97, 115, 99, 105, 105, 95, 116, 111, 108, 111, 119, 101, 114, 9, 18, 95, 115, 114, 101, 46, 97, 115, 99, 105, 105, 95, 116, 111, 108, 111, 119, 101, 114, 6, 259, 15, 117, 110, 105, 99, 111, 100, 101, 95, 116, 111, 108, 111, 119, 101, 114, 9, 20, 95, 115, 114, 101, 46, 117, 110, 105, 99, 111, 100, 101, 95, 116, 111, 108, 111, 119, 101, 114, 6, 261, 5, 77, 65, 71, 73, 67, 4, 260, 0, 20230612, 6, 263, 8, 67, 79, 68, 69, 83, 73, 90, 69, 4, 262, 0, 4, 6, 265, 9, 77, 65, 88, 82, 69, 80, 69, 65, 84, 4, 264, 0, 4294967295, 6, 267, 9, 77, 65, 88, 71, 82, 79, 85, 80, 83, 4, 266, 0, 1073741823, 6, 269, 9, 99, 111, 112, 121, 114, 105, 103, 104, 116, 6, 268, 53, 32, 83, 82, 69, 32, 50, 46, 50, 46, 50, 32, 67, 111, 112, 121, 114, 105, 103, 104, 116, 32, 40, 99, 41, 32, 49, 57, 57, 55, 45, 50, 48, 48, 50, 32, 98, 121, 32, 83, 101, 99, 114, 101, 116, 32, 76, 97, 98, 115, 32, 65, 66, 32]) 0), (.bool true), (.bool false), (.str "_sre" 271)]⟩ 0), ⟨[]⟩⟩
noncomputable def y0 (P : Params) : BT := N (o11s P) (N o19s B B) (N o27s B B)
noncomputable def y1 (P : Params) : BT := N o9s (N o17s B B) (N o25s B B)
noncomputable def y2 (P : Params) : BT := N o8s (N o16s B B) (N o24s B B)
noncomputable def y3 (P : Params) : BT := N o10s (N o18s B B) (N o26s B B)
noncomputable def ts (P : Params) : BT := (N (o0s P) (N (o1s P) (N (o3s P) (N o7s (N o7s B B) (N o23s B B)) (y0 P)) (N o5s (y1 P) (N (o13s P) (N (o21s P) B B) B))) (N (o2s P) (N o4s (y2 P) (N o12s (N (o20s P) B B) B)) (N o6s (y3 P) (N o14s (N o22s B B) B))))
noncomputable def o30a : Obj := cdO [(.str "<module>" 277), (.str "<module>" 278), (.str "/claim/cut.py" 279), (.int 1 0), (.int 0 0), (.int 0 0), (.int 0 0), (.int 0 0), (.ref 28), (.bool false), (.int 276 0), (.ref 29), .none, .none, .none, .none, (.int 280 0), (.int 1 0), (.str "/claim/cut.py" 281)]
noncomputable def o31a : Obj := ⟨(.type "frame"), none, .plain, ⟨[(some (.ref 30)), (some (.ref 3)), (some (.ref 3)), none, (some (.str "__main__" 164)), none, (some (.ref 0))]⟩⟩
noncomputable def ta (P : Params) : BT := (N (o0s P) (N (o1s P) (N (o3s P) (N o7s (N o7s (N o31a B B) B) (N o23s B B)) (y0 P)) (N o5s (y1 P) (N (o13s P) (N (o21s P) B B) (N o8s B B)))) (N (o2s P) (N o4s (y2 P) (N o12s (N (o20s P) B B) (N o7s B B))) (N o6s (y3 P) (N o14s (N o22s B B) (N o30a B B)))))
noncomputable def o3x0 (P : Params) : Obj := dcO [E P "__name__" 165 (.str "cpy313.stringprep" 332), E P "__doc__" 166 .none, E P "__package__" 167 .none, E P "__loader__" 168 (.builtin "__main__.__loader__#opaque"), E P "__spec__" 169 .none, E P "__annotations__" 170 (.ref 6), E P "__builtins__" 171 (.ref 4), E P "__file__" 173 (.str "/claim/cut.py" 172), E P "__cached__" 174 .none, E P "_sre" 275 (.ref 12), E P "_wall" 288 (.ref 38), E P "COMPILER_FLAG_NAMES" 321 (.ref 39), E P "pretty_flags" 331 (.ref 46)] 13
noncomputable def o29x0 : Obj := flO [(.int 2 0), (.int 0 0), (.ref 37), (.int 7 0), (.int 0 0), (.ref 45)]
noncomputable def o34x0 : Obj := tpO [(.str "k" 285)]
noncomputable def o36x0 : Obj := ⟨.none, none, (.func (Fn (fdAt 1) "_wall" "_wall" 0 .none .none .none .none none .none .none 0)), ⟨[]⟩⟩
noncomputable def o37x0 : Obj := cdO [(.str "_wall" 282), (.str "_wall" 283), (.str "/claim/cut.py" 284), (.int 2 0), (.int 1 0), (.int 0 0), (.int 0 0), (.int 3 0), (.ref 32), (.bool true), (.int 276 0), (.ref 33), .none, (.ref 34), (.ref 35), (.ref 36), (.int 286 0), (.int 2 0), (.str "/claim/cut.py" 287)]
noncomputable def o38x0 : Obj := fnO (Fn (fdAt 1) "_wall" "_wall" 3 .none .none .none (.str "__main__" 164) none (.ref 37) .none 0)
noncomputable def o39x0 : Obj := dcO [⟨1, (.int 1 291), (.str "OPTIMIZED" 292)⟩, ⟨2, (.int 2 293), (.str "NEWLOCALS" 294)⟩, ⟨4, (.int 4 295), (.str "VARARGS" 296)⟩, ⟨8, (.int 8 297), (.str "VARKEYWORDS" 298)⟩, ⟨16, (.int 16 299), (.str "NESTED" 300)⟩, ⟨32, (.int 32 301), (.str "GENERATOR" 302)⟩, ⟨64, (.int 64 303), (.str "NOFREE" 304)⟩, ⟨128, (.int 128 305), (.str "COROUTINE" 306)⟩, ⟨256, (.int 256 307), (.str "ITERABLE_COROUTINE" 308)⟩, ⟨512, (.int 512 309), (.str "ASYNC_GENERATOR" 310)⟩] 10
noncomputable def o42x0 : Obj := tpO [(.str "flags" 325), (.str "names" 326), (.str "i" 327), (.str "flag" 328)]
noncomputable def o44x0 : Obj := ⟨.none, none, (.func (Fn (fdAt 4) "pretty_flags" "pretty_flags" 0 .none .none .none .none none .none .none 0)), ⟨[]⟩⟩
noncomputable def o45x0 : Obj := cdO [(.str "pretty_flags" 322), (.str "pretty_flags" 323), (.str "/claim/cut.py" 324), (.int 7 0), (.int 1 0), (.int 0 0), (.int 0 0), (.int 3 0), (.ref 40), (.bool true), (.int 276 0), (.ref 41), .none, (.ref 42), (.ref 43), (.ref 44), (.int 329 0), (.int 7 0), (.str "/claim/cut.py" 330)]
noncomputable def o46x0 : Obj := fnO (Fn (fdAt 4) "pretty_flags" "pretty_flags" 3 .none .none .none (.str "cpy313.dis" 289) none (.ref 45) .none 0)
noncomputable def y4 (P : Params) : BT := N o29x0 (N o45x0 B B) B
noncomputable def tx0 (P : Params) : BT := (N (o0s P) (N (o1s P) (N (o3x0 P) (N o7s (N o7s (N o31a B B) B) (N o23s (N o39x0 B B) B)) (N (o11s P) (N o19s (N o7s B B) B) (N o27s (N o7s B B) B))) (N o5s (N o9s (N o17s (N o8s B B) B) (N o25s (N o8s B B) B)) (N (o13s P) (N (o21s P) (N o37x0 B B) B) (y4 P)))) (N (o2s P) (N o4s (N o8s (N o16s (N o7s B B) B) (N o24s (N o7s B B) B)) (N o12s (N (o20s P) (N o36x0 B B) B) (N o7s (N o44x0 B B) B))) (N o6s (N o10s (N o18s (N o34x0 B B) B) (N o26s (N o42x0 B B) B)) (N o14s (N o22s (N o38x0 B B) B) (N o30a (N o46x0 B B) B)))))
noncomputable def o3x1 (P : Params) : Obj := dcO [E P "__name__" 165 (.str "cpy313.stringprep" 332), E P "__doc__" 166 .none, E P "__package__" 167 .none, E P "__loader__" 168 (.builtin "__main__.__loader__#opaque"), E P "__spec__" 169 .none, E P "__annotations__" 170 (.ref 6), E P "__builtins__" 171 (.ref 4), E P "__file__" 173 (.str "/claim/cut.py" 172), E P "__cached__" 174 .none, E P "_sre" 275 (.ref 12), E P "_wall" 288 (.ref 38), E P "COMPILER_FLAG_NAMES" 321 (.ref 39), E P "pretty_flags" 331 (.ref 46), E P "b1_set" 393 (.ref 54)] 14
noncomputable def o47x1 : Obj := lsO [(.int 173 334), (.int 847 335), (.int 6150 336), (.int 6155 337), (.int 6156 338), (.int 6157 339), (.int 8203 340), (.int 8204 341), (.int 8205 342), (.int 8288 343), (.int 65279 344)]
noncomputable def o48x1 : Obj := ⟨(.type "range"), none, (.fields ⟨[(.int 65024 345), (.int 65040 346), (.int 1 347)]⟩), ⟨[]⟩⟩
noncomputable def o49x1 : Obj := ⟨(.type "list"), none, (.seq ⟨[(.int 65024 350), (.int 65025 351), (.int 65026 352), (.int 65027 353), (.int 65028 354), (.int 65029 355), (.int 65030 356), (.int 65031 357), (.int 65032 358), (.int 65033 359), (.int 65034 360), (.int 65035 361), (.int 65036 362), (.int 65037 363), (.int 65038 364), (.int 65039 365)]⟩ 18), ⟨[]⟩⟩
noncomputable def o50x1 : Obj := ⟨(.type "range_iterator"), none, (.fields ⟨[(.int 65040 0), (.int 0 0), (.int 1 0)]⟩), ⟨[]⟩⟩
noncomputable def o52x1 : Obj := ⟨(.type "StopIteration"), none, (.fields ⟨[(.ref 51), .none, .none, .none, (.bool false), .none]⟩), ⟨[]⟩⟩
noncomputable def o53x1 : Obj := lsO [(.int 173 334), (.int 847 335), (.int 6150 336), (.int 6155 337), (.int 6156 338), (.int 6157 339), (.int 8203 340), (.int 8204 341), (.int 8205 342), (.int 8288 343), (.int 65279 344), (.int 65024 350), (.int 65025 351), (.int 65026 352), (.int 65027 353), (.int 65028 354), (.int 65029 355), (.int 65030 356), (.int 65031 357), (.int 65032 358), (.int 65033 359), (.int 65034 360), (.int 65035 361), (.int 65036 362), (.int 65037 363), (.int 65038 364), (.int 65039 365)]
noncomputable def o54x1 (P : Params) : Obj := ⟨(.type "set"), none, (.set ⟨[(65024, (.int 65024 350)), (65025, (.int 65025 351)), (65026, (.int 65026 352)), (65027, (.int 65027 353)), (65028, (.int 65028 354)), (65029, (.int 65029 355)), (6150, (.int 6150 336)), (65030, (.int 65030 356)), (65031, (.int 65031 357)), (65032, (.int 65032 358)), (65033, (.int 65033 359)), (6155, (.int 6155 337)), (6156, (.int 6156 338)), (6157, (.int 6157 339)), (8203, (.int 8203 340)), (8204, (.int 8204 341)), (8205, (.int 8205 342)), (65034, (.int 65034 360)), (65035, (.int 65035 361)), (65036, (.int 65036 362)), (65037, (.int 65037 363)), (65038, (.int 65038 364)), (65039, (.int 65039 365)), (173, (.int 173 334)), (847, (.int 847 335)), (8288, (.int 8288 343)), (65279, (.int 65279 344))]⟩ 29 { mask := 127, place := ⟨[0, 1, 2, 3, 4, 5, 6, 7, 8, 9, 10, 11, 12, 13, 14, 15, 16, 17, 18, 19, 20, 21, 22, 45, 79, 96, 127]⟩, dummies := ⟨[]⟩, finger := 0, led := !P.followText "set-order", moves := 2, plain := true }), ⟨[]⟩⟩
noncomputable def o55x1 : Obj := ⟨(.type "list_iterator"), none, (.fields ⟨[.none, (.int 27 0)]⟩), ⟨[]⟩⟩
noncomputable def o57x1 : Obj := ⟨(.type "StopIteration"), none, (.fields ⟨[(.ref 56), .none, .none, .none, (.bool false), .none]⟩), ⟨[]⟩⟩
noncomputable def y5 (P : Params) : BT := N o23s (N o39x0 B B) (N o55x1 B B)
noncomputable def y6 (P : Params) : BT := N o19s (N o7s B B) (N o7s B B)
noncomputable def y7 (P : Params) : BT := N o9s (N o17s (N o8s B B) (N o49x1 B B)) (N o25s (N o8s B B) (N o57x1 B B))
noncomputable def y8 (P : Params) : BT := N (o21s P) (N o37x0 B B) (N o53x1 B B)
noncomputable def y9 (P : Params) : BT := N o24s (N o7s B B) (N o7s B B)
noncomputable def y10 (P : Params) : BT := N (o20s P) (N o36x0 B B) (N o52x1 B B)
noncomputable def y11 (P : Params) : BT := N o18s (N o34x0 B B) (N o50x1 B B)
noncomputable def y12 (P : Params) : BT := N o22s (N o38x0 B B) (N (o54x1 P) B B)
noncomputable def tx1 (P : Params) : BT := (N (o0s P) (N (o1s P) (N (o3x1 P) (N o7s (N o7s (N o31a B B) (N o47x1 B B)) (y5 P)) (N (o11s P) (y6 P) (N o27s (N o7s B B) B))) (N o5s (y7 P) (N (o13s P) (y8 P) (y4 P)))) (N (o2s P) (N o4s (N o8s (N o16s (N o7s B B) (N o48x1 B B)) (y9 P)) (N o12s (y10 P) (N o7s (N o44x0 B B) B))) (N o6s (N o10s (y11 P) (N o26s (N o42x0 B B) B)) (N o14s (y12 P) (N o30a (N o46x0 B B) B)))))
noncomputable def o3x2 (P : Params) : Obj := dcO [E P "__name__" 165 (.str "cpy313.stringprep" 332), E P "__doc__" 166 .none, E P "__package__" 167 .none, E P "__loader__" 168 (.builtin "__main__.__loader__#opaque"), E P "__spec__" 169 .none, E P "__annotations__" 170 (.ref 6), E P "__builtins__" 171 (.ref 4), E P "__file__" 173 (.str "/claim/cut.py" 172), E P "__cached__" 174 .none, E P "_sre" 275 (.ref 12), E P "_wall" 288 (.ref 38), E P "COMPILER_FLAG_NAMES" 321 (.ref 39), E P "pretty_flags" 331 (.ref 46), E P "b1_set" 393 (.ref 54), E P "in_table_b1" 400 (.ref 64)] 15
noncomputable def o29x2 : Obj := flO [(.int 2 0), (.int 0 0), (.ref 37), (.int 7 0), (.int 0 0), (.ref 45), (.int 21 0), (.int 0 0), (.ref 63)]
noncomputable def o60x2 : Obj := tpO [(.str "code" 397)]
noncomputable def o62x2 : Obj := ⟨.none, none, (.func (Fn (fdAt 7) "in_table_b1" "in_table_b1" 0 .none .none .none .none none .none .none 0)), ⟨[]⟩⟩
noncomputable def o63x2 : Obj := cdO [(.str "in_table_b1" 394), (.str "in_table_b1" 395), (.str "/claim/cut.py" 396), (.int 21 0), (.int 1 0), (.int 0 0), (.int 0 0), (.int 3 0), (.ref 58), (.bool true), (.int 276 0), (.ref 59), .none, (.ref 60), (.ref 61), (.ref 62), (.int 398 0), (.int 21 0), (.str "/claim/cut.py" 399)]
noncomputable def o64x2 : Obj := fnO (Fn (fdAt 7) "in_table_b1" "in_table_b1" 3 .none .none .none (.str "cpy313.stringprep" 332) none (.ref 63) .none 0)
noncomputable def tx2 (P : Params) : BT := (N (o0s P) (N (o1s P) (N (o3x2 P) (N o7s (N o7s (N o31a (N o63x2 B B) B) (N o47x1 B B)) (y5 P)) (N (o11s P) (y6 P) (N o27s (N o7s B B) (N o8s B B)))) (N o5s (y7 P) (N (o13s P) (y8 P) (N o29x2 (N o45x0 B B) (N o7s B B))))) (N (o2s P) (N o4s (N o8s (N o16s (N o7s (N o64x2 B B) B) (N o48x1 B B)) (y9 P)) (N o12s (y10 P) (N o7s (N o44x0 B B) (N o60x2 B B)))) (N o6s (N o10s (y11 P) (N o26s (N o42x0 B B) (N o7s B B))) (N o14s (y12 P) (N o30a (N o46x0 B B) (N o62x2 B B))))))
noncomputable def o3x3 (P : Params) : Obj := dcO [E P "__name__" 165 (.str "cpy313.stringprep" 332), E P "__doc__" 166 .none, E P "__package__" 167 .none, E P "__loader__" 168 (.builtin "__main__.__loader__#opaque"), E P "__spec__" 169 .none, E P "__annotations__" 170 (.ref 6), E P "__builtins__" 171 (.ref 4), E P "__file__" 173 (.str "/claim/cut.py" 172), E P "__cached__" 174 .none, E P "_sre" 275 (.ref 12), E P "_wall" 288 (.ref 38), E P "COMPILER_FLAG_NAMES" 321 (.ref 39), E P "pretty_flags" 331 (.ref 46), E P "b1_set" 393 (.ref 54), E P "in_table_b1" 400 (.ref 64), E P "b3_exceptions" 2351 (.ref 65)] 16
noncomputable def b3c : List (Nat × List Nat) := [(181,[956]),(223,[115,115]),(304,[105,775]),(329,[700,110]),(383,[115]),(496,[106,780]),(837,[953]),(890,[32,953]),(912,[953,776,769]),(944,[965,776,769]),(962,[963]),(976,[946]),(977,[952]),(978,[965]),(979,[973]),(980,[971]),(981,[966]),(982,[960]),(1008,[954]),(1009,[961]),(1010,[963]),(1013,[949]),(1415,[1381,1410]),(7830,[104,817]),(7831,[116,776]),(7832,[119,778]),(7833,[121,778]),(7834,[97,702]),(7835,[7777]),(8016,[965,787]),(8018,[965,787,768]),(8020,[965,787,769]),(8022,[965,787,834]),(8064,[7936,953]),(8065,[7937,953]),(8066,[7938,953]),(8067,[7939,953]),(8068,[7940,953]),(8069,[7941,953]),(8070,[7942,953]),(8071,[7943,953]),(8072,[7936,953]),(8073,[7937,953]),(8074,[7938,953]),(8075,[7939,953]),(8076,[7940,953]),(8077,[7941,953]),(8078,[7942,953]),(8079,[7943,953]),(8080,[7968,953]),(8081,[7969,953]),(8082,[7970,953]),(8083,[7971,953]),(8084,[7972,953]),(8085,[7973,953]),(8086,[7974,953]),(8087,[7975,953]),(8088,[7968,953]),(8089,[7969,953]),(8090,[7970,953]),(8091,[7971,953]),(8092,[7972,953]),(8093,[7973,953]),(8094,[7974,953]),(8095,[7975,953]),(8096,[8032,953]),(8097,[8033,953]),(8098,[8034,953]),(8099,[8035,953]),(8100,[8036,953]),(8101,[8037,953]),(8102,[8038,953]),(8103,[8039,953]),(8104,[8032,953]),(8105,[8033,953]),(8106,[8034,953]),(8107,[8035,953]),(8108,[8036,953]),(8109,[8037,953]),(8110,[8038,953]),(8111,[8039,953]),(8114,[8048,953]),(8115,[945,953]),(8116,[940,953]),(8118,[945,834]),(8119,[945,834,953]),(8124,[945,953]),(8126,[953]),(8130,[8052,953]),(8131,[951,953]),(8132,[942,953]),(8134,[951,834]),(8135,[951,834,953]),(8140,[951,953]),(8146,[953,776,768]),(8147,[953,776,769]),(8150,[953,834]),(8151,[953,776,834]),(8162,[965,776,768]),(8163,[965,776,769]),(8164,[961,787]),(8166,[965,834]),(8167,[965,776,834]),(8178,[8060,953]),(8179,[969,953]),(8180,[974,953]),(8182,[969,834]),(8183,[969,834,953]),(8188,[969,953]),(8360,[114,115]),(8450,[99]),(8451,[176,99]),(8455,[603]),(8457,[176,102]),(8459,[104]),(8460,[104]),(8461,[104]),(8464,[105]),(8465,[105]),(8466,[108]),(8469,[110]),(8470,[110,111]),(8473,[112]),(8474,[113]),(8475,[114]),(8476,[114]),(8477,[114]),(8480,[115,109]),(8481,[116,101,108]),(8482,[116,109]),(8484,[122]),(8488,[122]),(8492,[98]),(8493,[99]),(8496,[101]),(8497,[102]),(8499,[109]),(8510,[947]),(8511,[960]),(8517,[100]),(13169,[104,112,97]),(13171,[97,117]),(13173,[111,118]),(13184,[112,97]),(13185,[110,97]),(13186,[956,97]),(13187,[109,97]),(13188,[107,97]),(13189,[107,98]),(13190,[109,98]),(13191,[103,98]),(13194,[112,102]),(13195,[110,102]),(13196,[956,102]),(13200,[104,122]),(13201,[107,104,122]),(13202,[109,104,122]),(13203,[103,104,122]),(13204,[116,104,122]),(13225,[112,97]),(13226,[107,112,97]),(13227,[109,112,97]),(13228,[103,112,97]),(13236,[112,118]),(13237,[110,118]),(13238,[956,118]),(13239,[109,118]),(13240,[107,118]),(13241,[109,118]),(13242,[112,119]),(13243,[110,119]),(13244,[956,119]),(13245,[109,119]),(13246,[107,119]),(13247,[109,119]),(13248,[107,969]),(13249,[109,969]),(13251,[98,113]),(13254,[99,8725,107,103]),(13255,[99,111,46]),(13256,[100,98]),(13257,[103,121]),(13259,[104,112]),(13261,[107,107]),(13262,[107,109]),(13271,[112,104]),(13273,[112,112,109]),(13274,[112,114]),(13276,[115,118]),(13277,[119,98]),(64256,[102,102]),(64257,[102,105]),(64258,[102,108]),(64259,[102,102,105]),(64260,[102,102,108]),(64261,[115,116]),(64262,[115,116]),(64275,[1396,1398]),(64276,[1396,1381]),(64277,[1396,1387]),(64278,[1406,1398]),(64279,[1396,1389]),(119808,[97]),(119809,[98]),(119810,[99]),(119811,[100]),(119812,[101]),(119813,[102]),(119814,[103]),(119815,[104]),(119816,[105]),(119817,[106]),(119818,[107]),(119819,[108]),(119820,[109]),(119821,[110]),(119822,[111]),(119823,[112]),(119824,[113]),(119825,[114]),(119826,[115]),(119827,[116]),(119828,[117]),(119829,[118]),(119830,[119]),(119831,[120]),(119832,[121]),(119833,[122]),(119860,[97]),(119861,[98]),(119862,[99]),(119863,[100]),(119864,[101]),(119865,[102]),(119866,[103]),(119867,[104]),(119868,[105]),(119869,[106]),(119870,[107]),(119871,[108]),(119872,[109]),(119873,[110]),(119874,[111]),(119875,[112]),(119876,[113]),(119877,[114]),(119878,[115]),(119879,[116]),(119880,[117]),(119881,[118]),(119882,[119]),(119883,[120]),(119884,[121]),(119885,[122]),(119912,[97]),(119913,[98]),(119914,[99]),(119915,[100]),(119916,[101]),(119917,[102]),(119918,[103]),(119919,[104]),(119920,[105]),(119921,[106]),(119922,[107]),(119923,[108]),(119924,[109]),(119925,[110]),(119926,[111]),(119927,[112]),(119928,[113]),(119929,[114]),(119930,[115]),(119931,[116]),(119932,[117]),(119933,[118]),(119934,[119]),(119935,[120]),(119936,[121]),(119937,[122]),(119964,[97]),(119966,[99]),(119967,[100]),(119970,[103]),(119973,[106]),(119974,[107]),(119977,[110]),(119978,[111]),(119979,[112]),(119980,[113]),(119982,[115]),(119983,[116]),(119984,[117]),(119985,[118]),(119986,[119]),(119987,[120]),(119988,[121]),(119989,[122]),(120016,[97]),(120017,[98]),(120018,[99]),(120019,[100]),(120020,[101]),(120021,[102]),(120022,[103]),(120023,[104]),(120024,[105]),(120025,[106]),(120026,[107]),(120027,[108]),(120028,[109]),(120029,[110]),(120030,[111]),(120031,[112]),(120032,[113]),(120033,[114]),(120034,[115]),(120035,[116]),(120036,[117]),(120037,[118]),(120038,[119]),(120039,[120]),(120040,[121]),(120041,[122]),(120068,[97]),(120069,[98]),(120071,[100]),(120072,[101]),(120073,[102]),(120074,[103]),(120077,[106]),(120078,[107]),(120079,[108]),(120080,[109]),(120081,[110]),(120082,[111]),(120083,[112]),(120084,[113]),(120086,[115]),(120087,[116]),(120088,[117]),(120089,[118]),(120090,[119]),(120091,[120]),(120092,[121]),(120120,[97]),(120121,[98]),(120123,[100]),(120124,[101]),(120125,[102]),(120126,[103]),(120128,[105]),(120129,[106]),(120130,[107]),(120131,[108]),(120132,[109]),(120134,[111]),(120138,[115]),(120139,[116]),(120140,[117]),(120141,[118]),(120142,[119]),(120143,[120]),(120144,[121]),(120172,[97]),(120173,[98]),(120174,[99]),(120175,[100]),(120176,[101]),(120177,[102]),(120178,[103]),(120179,[104]),(120180,[105]),(120181,[106]),(120182,[107]),(120183,[108]),(120184,[109]),(120185,[110]),(120186,[111]),(120187,[112]),(120188,[113]),(120189,[114]),(120190,[115]),(120191,[116]),(120192,[117]),(120193,[118]),(120194,[119]),(120195,[120]),(120196,[121]),(120197,[122]),(120224,[97]),(120225,[98]),(120226,[99]),(120227,[100]),(120228,[101]),(120229,[102]),(120230,[103]),(120231,[104]),(120232,[105]),(120233,[106]),(120234,[107]),(120235,[108]),(120236,[109]),(120237,[110]),(120238,[111]),(120239,[112]),(120240,[113]),(120241,[114]),(120242,[115]),(120243,[116]),(120244,[117]),(120245,[118]),(120246,[119]),(120247,[120]),(120248,[121]),(120249,[122]),(120276,[97]),(120277,[98]),(120278,[99]),(120279,[100]),(120280,[101]),(120281,[102]),(120282,[103]),(120283,[104]),(120284,[105]),(120285,[106]),(120286,[107]),(120287,[108]),(120288,[109]),(120289,[110]),(120290,[111]),(120291,[112]),(120292,[113]),(120293,[114]),(120294,[115]),(120295,[116]),(120296,[117]),(120297,[118]),(120298,[119]),(120299,[120]),(120300,[121]),(120301,[122]),(120328,[97]),(120329,[98]),(120330,[99]),(120331,[100]),(120332,[101]),(120333,[102]),(120334,[103]),(120335,[104]),(120336,[105]),(120337,[106]),(120338,[107]),(120339,[108]),(120340,[109]),(120341,[110]),(120342,[111]),(120343,[112]),(120344,[113]),(120345,[114]),(120346,[115]),(120347,[116]),(120348,[117]),(120349,[118]),(120350,[119]),(120351,[120]),(120352,[121]),(120353,[122]),(120380,[97]),(120381,[98]),(120382,[99]),(120383,[100]),(120384,[101]),(120385,[102]),(120386,[103]),(120387,[104]),(120388,[105]),(120389,[106]),(120390,[107]),(120391,[108]),(120392,[109]),(120393,[110]),(120394,[111]),(120395,[112]),(120396,[113]),(120397,[114]),(120398,[115]),(120399,[116]),(120400,[117]),(120401,[118]),(120402,[119]),(120403,[120]),(120404,[121]),(120405,[122]),(120432,[97]),(120433,[98]),(120434,[99]),(120435,[100]),(120436,[101]),(120437,[102]),(120438,[103]),(120439,[104]),(120440,[105]),(120441,[106]),(120442,[107]),(120443,[108]),(120444,[109]),(120445,[110]),(120446,[111]),(120447,[112]),(120448,[113]),(120449,[114]),(120450,[115]),(120451,[116]),(120452,[117]),(120453,[118]),(120454,[119]),(120455,[120]),(120456,[121]),(120457,[122]),(120488,[945]),(120489,[946]),(120490,[947]),(120491,[948]),(120492,[949]),(120493,[950]),(120494,[951]),(120495,[952]),(120496,[953]),(120497,[954]),(120498,[955]),(120499,[956]),(120500,[957]),(120501,[958]),(120502,[959]),(120503,[960]),(120504,[961]),(120505,[952]),(120506,[963]),(120507,[964]),(120508,[965]),(120509,[966]),(120510,[967]),(120511,[968]),(120512,[969]),(120531,[963]),(120546,[945]),(120547,[946]),(120548,[947]),(120549,[948]),(120550,[949]),(120551,[950]),(120552,[951]),(120553,[952]),(120554,[953]),(120555,[954]),(120556,[955]),(120557,[956]),(120558,[957]),(120559,[958]),(120560,[959]),(120561,[960]),(120562,[961]),(120563,[952]),(120564,[963]),(120565,[964]),(120566,[965]),(120567,[966]),(120568,[967]),(120569,[968]),(120570,[969]),(120589,[963]),(120604,[945]),(120605,[946]),(120606,[947]),(120607,[948]),(120608,[949]),(120609,[950]),(120610,[951]),(120611,[952]),(120612,[953]),(120613,[954]),(120614,[955]),(120615,[956]),(120616,[957]),(120617,[958]),(120618,[959]),(120619,[960]),(120620,[961]),(120621,[952]),(120622,[963]),(120623,[964]),(120624,[965]),(120625,[966]),(120626,[967]),(120627,[968]),(120628,[969]),(120647,[963]),(120662,[945]),(120663,[946]),(120664,[947]),(120665,[948]),(120666,[949]),(120667,[950]),(120668,[951]),(120669,[952]),(120670,[953]),(120671,[954]),(120672,[955]),(120673,[956]),(120674,[957]),(120675,[958]),(120676,[959]),(120677,[960]),(120678,[961]),(120679,[952]),(120680,[963]),(120681,[964]),(120682,[965]),(120683,[966]),(120684,[967]),(120685,[968]),(120686,[969]),(120705,[963]),(120720,[945]),(120721,[946]),(120722,[947]),(120723,[948]),(120724,[949]),(120725,[950]),(120726,[951]),(120727,[952]),(120728,[953]),(120729,[954]),(120730,[955]),(120731,[956]),(120732,[957]),(120733,[958]),(120734,[959]),(120735,[960]),(120736,[961]),(120737,[952]),(120738,[963]),(120739,[964]),(120740,[965]),(120741,[966]),(120742,[967]),(120743,[968]),(120744,[969]),(120763,[963])]
noncomputable def mkB (d : Nat) : Nat -> List (Nat × List Nat) -> List DictEntry
 | _, [] => []
 | t, p :: r => ⟨(p.1 : Int), .int (p.1 : Int) t, .str (Z p.2) (t + 1)⟩ :: mkB d (t + d) r
noncomputable def b3es : List DictEntry := mkB 3 401 (b3c.take 647) ++ mkB 2 2341 (b3c.drop 647)
noncomputable def dObj (n k : Nat) : Obj := ⟨.type "dict", none, .dict ⟨(b3es.drop n).take k⟩ k, ⟨[]⟩⟩
noncomputable def o65x3 : Obj := dObj 0 650
noncomputable def o66x3 : Obj := dObj 17 17
noncomputable def o67x3 : Obj := dObj 34 17
noncomputable def o68x3 : Obj := dObj 51 17
noncomputable def o69x3 : Obj := dObj 68 17
noncomputable def o70x3 : Obj := dObj 85 17
noncomputable def o71x3 : Obj := dObj 102 17
noncomputable def o72x3 : Obj := dObj 119 17
noncomputable def o73x3 : Obj := dObj 136 17
noncomputable def o74x3 : Obj := dObj 153 17
noncomputable def o75x3 : Obj := dObj 170 17
noncomputable def o76x3 : Obj := dObj 187 17
noncomputable def o77x3 : Obj := dObj 204 17
noncomputable def o78x3 : Obj := dObj 221 17
noncomputable def o79x3 : Obj := dObj 238 17
noncomputable def o80x3 : Obj := dObj 255 17
noncomputable def o81x3 : Obj := dObj 272 17
noncomputable def o82x3 : Obj := dObj 289 17
noncomputable def o83x3 : Obj := dObj 306 17
noncomputable def o84x3 : Obj := dObj 323 17
noncomputable def o85x3 : Obj := dObj 340 17
noncomputable def o86x3 : Obj := dObj 357 17
noncomputable def o87x3 : Obj := dObj 374 17
noncomputable def o88x3 : Obj := dObj 391 17
noncomputable def o89x3 : Obj := dObj 408 17
noncomputable def o90x3 : Obj := dObj 425 17
noncomputable def o91x3 : Obj := dObj 442 17
noncomputable def o92x3 : Obj := dObj 459 17
noncomputable def o93x3 : Obj := dObj 476 17
noncomputable def o94x3 : Obj := dObj 493 17
noncomputable def o95x3 : Obj := dObj 510 17
noncomputable def o96x3 : Obj := dObj 527 17
noncomputable def o97x3 : Obj := dObj 544 17
noncomputable def o98x3 : Obj := dObj 561 17
noncomputable def o99x3 : Obj := dObj 578 17
noncomputable def o100x3 : Obj := dObj 595 17
noncomputable def o101x3 : Obj := dObj 612 17
noncomputable def o102x3 : Obj := dObj 629 17
noncomputable def o103x3 : Obj := dObj 646 4
noncomputable def y13 (P : Params) : BT := N o31a (N o63x2 B B) (N o95x3 B B)
noncomputable def y14 (P : Params) : BT := N o23s (N o39x0 (N o71x3 B B) (N o103x3 B B)) (N o55x1 (N o87x3 B B) B)
noncomputable def y15 (P : Params) : BT := N o7s (N o7s (y13 P) (N o47x1 (N o79x3 B B) B)) (y14 P)
noncomputable def y16 (P : Params) : BT := N o19s (N o7s (N o67x3 B B) (N o99x3 B B)) (N o7s (N o83x3 B B) B)
noncomputable def y17 (P : Params) : BT := N o8s (N o65x3 B B) (N o97x3 B B)
noncomputable def y18 (P : Params) : BT := N o17s (y17 P) (N o49x1 (N o81x3 B B) B)
noncomputable def y19 (P : Params) : BT := N o57x1 (N o89x3 B B) B
noncomputable def y20 (P : Params) : BT := N (o21s P) (N o37x0 (N o69x3 B B) (N o101x3 B B)) (N o53x1 (N o85x3 B B) B)
noncomputable def y21 (P : Params) : BT := N o7s (N o64x2 B B) (N o96x3 B B)
noncomputable def y22 (P : Params) : BT := N o16s (y21 P) (N o48x1 (N o80x3 B B) B)
noncomputable def y23 (P : Params) : BT := N (o20s P) (N o36x0 (N o68x3 B B) (N o100x3 B B)) (N o52x1 (N o84x3 B B) B)
noncomputable def y24 (P : Params) : BT := N o60x2 (N o92x3 B B) B
noncomputable def y25 (P : Params) : BT := N o18s (N o34x0 (N o66x3 B B) (N o98x3 B B)) (N o50x1 (N o82x3 B B) B)
noncomputable def y26 (P : Params) : BT := N o22s (N o38x0 (N o70x3 B B) (N o102x3 B B)) (N (o54x1 P) (N o86x3 B B) B)
noncomputable def y27 (P : Params) : BT := N o62x2 (N o94x3 B B) B
noncomputable def tx3 (P : Params) : BT := (N (o0s P) (N (o1s P) (N (o3x3 P) (y15 P) (N (o11s P) (y16 P) (N o27s (N o7s (N o75x3 B B) B) (N o8s (N o91x3 B B) B)))) (N o5s (N o9s (y18 P) (N o25s (N o8s (N o73x3 B B) B) (y19 P))) (N (o13s P) (y20 P) (N o29x2 (N o45x0 (N o77x3 B B) B) (N o7s (N o93x3 B B) B))))) (N (o2s P) (N o4s (N o8s (y22 P) (N o24s (N o7s (N o72x3 B B) B) (N o7s (N o88x3 B B) B))) (N o12s (y23 P) (N o7s (N o44x0 (N o76x3 B B) B) (y24 P)))) (N o6s (N o10s (y25 P) (N o26s (N o42x0 (N o74x3 B B) B) (N o7s (N o90x3 B B) B))) (N o14s (y26 P) (N o30a (N o46x0 (N o78x3 B B) B) (y27 P))))))
noncomputable def o3x4 (P : Params) : Obj := dcO [E P "__name__" 165 (.str "cpy313.token" 2360), E P "__doc__" 166 .none, E P "__package__" 167 .none, E P "__loader__" 168 (.builtin "__main__.__loader__#opaque"), E P "__spec__" 169 .none, E P "__annotations__" 170 (.ref 6), E P "__builtins__" 171 (.ref 4), E P "__file__" 173 (.str "/claim/cut.py" 172), E P "__cached__" 174 .none, E P "_sre" 275 (.ref 12), E P "_wall" 288 (.ref 38), E P "COMPILER_FLAG_NAMES" 321 (.ref 39), E P "pretty_flags" 331 (.ref 46), E P "b1_set" 393 (.ref 54), E P "in_table_b1" 400 (.ref 64), E P "b3_exceptions" 2351 (.ref 65), E P "map_table_b3" 2359 (.ref 110), E P "ENDMARKER" 2363 (.int 0 2362), E P "LPAR" 2365 (.int 7 2364), E P "RPAR" 2367 (.int 8 2366), E P "LSQB" 2369 (.int 9 2368), E P "RSQB" 2371 (.int 10 2370), E P "COLON" 2373 (.int 11 2372), E P "COMMA" 2375 (.int 12 2374), E P "SEMI" 2377 (.int 13 2376), E P "PLUS" 2379 (.int 14 2378), E P "MINUS" 2381 (.int 15 2380), E P "STAR" 2383 (.int 16 2382), E P "SLASH" 2385 (.int 17 2384), E P "VBAR" 2387 (.int 18 2386), E P "AMPER" 2389 (.int 19 2388), E P "LESS" 2391 (.int 20 2390), E P "GREATER" 2393 (.int 21 2392), E P "EQUAL" 2395 (.int 22 2394), E P "DOT" 2397 (.int 23 2396), E P "PERCENT" 2399 (.int 24 2398), E P "LBRACE" 2401 (.int 25 2400), E P "RBRACE" 2403 (.int 26 2402), E P "EQEQUAL" 2405 (.int 27 2404), E P "NOTEQUAL" 2407 (.int 28 2406), E P "LESSEQUAL" 2409 (.int 29 2408), E P "GREATEREQUAL" 2411 (.int 30 2410), E P "TILDE" 2413 (.int 31 2412), E P "CIRCUMFLEX" 2415 (.int 32 2414), E P "LEFTSHIFT" 2417 (.int 33 2416)] 45
noncomputable def o29x4 : Obj := flO [(.int 2 0), (.int 0 0), (.ref 37), (.int 7 0), (.int 0 0), (.ref 45), (.int 21 0), (.int 0 0), (.ref 63), (.int 24 0), (.int 0 0), (.ref 109)]
noncomputable def o106x4 : Obj := tpO [(.str "code" 2355), (.str "r" 2356)]
noncomputable def o108x4 : Obj := ⟨.none, none, (.func (Fn (fdAt 9) "map_table_b3" "map_table_b3" 0 .none .none .none .none none .none .none 0)), ⟨[]⟩⟩
noncomputable def o109x4 : Obj := cdO [(.str "map_table_b3" 2352), (.str "map_table_b3" 2353), (.str "/claim/cut.py" 2354), (.int 24 0), (.int 1 0), (.int 0 0), (.int 0 0), (.int 3 0), (.ref 104), (.bool true), (.int 276 0), (.ref 105), .none, (.ref 106), (.ref 107), (.ref 108), (.int 2357 0), (.int 24 0), (.str "/claim/cut.py" 2358)]
noncomputable def o110x4 : Obj := fnO (Fn (fdAt 9) "map_table_b3" "map_table_b3" 3 .none .none .none (.str "cpy313.stringprep" 332) none (.ref 109) .none 0)
noncomputable def y28 (P : Params) : BT := N (o11s P) (y16 P) (N o27s (N o7s (N o75x3 B B) (N o7s B B)) (N o8s (N o91x3 B B) B))
noncomputable def y29 (P : Params) : BT := N o25s (N o8s (N o73x3 B B) (N o8s B B)) (y19 P)
noncomputable def y30 (P : Params) : BT := N (o13s P) (y20 P) (N o29x4 (N o45x0 (N o77x3 B B) (N o109x4 B B)) (N o7s (N o93x3 B B) B))
noncomputable def y31 (P : Params) : BT := N o5s (N o9s (y18 P) (y29 P)) (y30 P)
noncomputable def y32 (P : Params) : BT := N o24s (N o7s (N o72x3 B B) (N o7s B B)) (N o7s (N o88x3 B B) B)
noncomputable def y33 (P : Params) : BT := N o12s (y23 P) (N o7s (N o44x0 (N o76x3 B B) (N o108x4 B B)) (y24 P))
noncomputable def y34 (P : Params) : BT := N o6s (N o10s (y25 P) (N o26s (N o42x0 (N o74x3 B B) (N o106x4 B B)) (N o7s (N o90x3 B B) B))) (N o14s (y26 P) (N o30a (N o46x0 (N o78x3 B B) (N o110x4 B B)) (y27 P)))
noncomputable def y35 (P : Params) : BT := N (o2s P) (N o4s (N o8s (y22 P) (y32 P)) (y33 P)) (y34 P)
noncomputable def tx4 (P : Params) : BT := (N (o0s P) (N (o1s P) (N (o3x4 P) (y15 P) (y28 P)) (y31 P)) (y35 P))
noncomputable def o3x5 (P : Params) : Obj := dcO [E P "__name__" 165 (.str "cpy313.token" 2360), E P "__doc__" 166 .none, E P "__package__" 167 .none, E P "__loader__" 168 (.builtin "__main__.__loader__#opaque"), E P "__spec__" 169 .none, E P "__annotations__" 170 (.ref 6), E P "__builtins__" 171 (.ref 4), E P "__file__" 173 (.str "/claim/cut.py" 172), E P "__cached__" 174 .none, E P "_sre" 275 (.ref 12), E P "_wall" 288 (.ref 38), E P "COMPILER_FLAG_NAMES" 321 (.ref 39), E P "pretty_flags" 331 (.ref 46), E P "b1_set" 393 (.ref 54), E P "in_table_b1" 400 (.ref 64), E P "b3_exceptions" 2351 (.ref 65), E P "map_table_b3" 2359 (.ref 110), E P "ENDMARKER" 2363 (.int 0 2362), E P "LPAR" 2365 (.int 7 2364), E P "RPAR" 2367 (.int 8 2366), E P "LSQB" 2369 (.int 9 2368), E P "RSQB" 2371 (.int 10 2370), E P "COLON" 2373 (.int 11 2372), E P "COMMA" 2375 (.int 12 2374), E P "SEMI" 2377 (.int 13 2376), E P "PLUS" 2379 (.int 14 2378), E P "MINUS" 2381 (.int 15 2380), E P "STAR" 2383 (.int 16 2382), E P "SLASH" 2385 (.int 17 2384), E P "VBAR" 2387 (.int 18 2386), E P "AMPER" 2389 (.int 19 2388), E P "LESS" 2391 (.int 20 2390), E P "GREATER" 2393 (.int 21 2392), E P "EQUAL" 2395 (.int 22 2394), E P "DOT" 2397 (.int 23 2396), E P "PERCENT" 2399 (.int 24 2398), E P "LBRACE" 2401 (.int 25 2400), E P "RBRACE" 2403 (.int 26 2402), E P "EQEQUAL" 2405 (.int 27 2404), E P "NOTEQUAL" 2407 (.int 28 2406), E P "LESSEQUAL" 2409 (.int 29 2408), E P "GREATEREQUAL" 2411 (.int 30 2410), E P "TILDE" 2413 (.int 31 2412), E P "CIRCUMFLEX" 2415 (.int 32 2414), E P "LEFTSHIFT" 2417 (.int 33 2416), E P "RIGHTSHIFT" 2419 (.int 34 2418), E P "DOUBLESTAR" 2421 (.int 35 2420), E P "PLUSEQUAL" 2423 (.int 36 2422), E P "MINEQUAL" 2425 (.int 37 2424), E P "STAREQUAL" 2427 (.int 38 2426), E P "SLASHEQUAL" 2429 (.int 39 2428), E P "PERCENTEQUAL" 2431 (.int 40 2430), E P "AMPEREQUAL" 2433 (.int 41 2432), E P "VBAREQUAL" 2435 (.int 42 2434), E P "CIRCUMFLEXEQUAL" 2437 (.int 43 2436), E P "LEFTSHIFTEQUAL" 2439 (.int 44 2438), E P "RIGHTSHIFTEQUAL" 2441 (.int 45 2440), E P "DOUBLESTAREQUAL" 2443 (.int 46 2442), E P "DOUBLESLASH" 2445 (.int 47 2444), E P "DOUBLESLASHEQUAL" 2447 (.int 48 2446), E P "AT" 2449 (.int 49 2448), E P "ATEQUAL" 2451 (.int 50 2450), E P "RARROW" 2453 (.int 51 2452), E P "ELLIPSIS" 2455 (.int 52 2454), E P "COLONEQUAL" 2457 (.int 53 2456), E P "EXCLAMATION" 2459 (.int 54 2458), E P "NT_OFFSET" 2461 (.int 256 2460)] 67
noncomputable def tx5 (P : Params) : BT := (N (o0s P) (N (o1s P) (N (o3x5 P) (y15 P) (y28 P)) (y31 P)) (y35 P))
noncomputable def o3x6 (P : Params) : Obj := dcO [E P "__name__" 165 (.str "cpy313.token" 2360), E P "__doc__" 166 .none, E P "__package__" 167 .none, E P "__loader__" 168 (.builtin "__main__.__loader__#opaque"), E P "__spec__" 169 .none, E P "__annotations__" 170 (.ref 6), E P "__builtins__" 171 (.ref 4), E P "__file__" 173 (.str "/claim/cut.py" 172), E P "__cached__" 174 .none, E P "_sre" 275 (.ref 12), E P "_wall" 288 (.ref 38), E P "COMPILER_FLAG_NAMES" 321 (.ref 39), E P "pretty_flags" 331 (.ref 46), E P "b1_set" 393 (.ref 54), E P "in_table_b1" 400 (.ref 64), E P "b3_exceptions" 2351 (.ref 65), E P "map_table_b3" 2359 (.ref 110), E P "ENDMARKER" 2363 (.int 0 2362), E P "LPAR" 2365 (.int 7 2364), E P "RPAR" 2367 (.int 8 2366), E P "LSQB" 2369 (.int 9 2368), E P "RSQB" 2371 (.int 10 2370), E P "COLON" 2373 (.int 11 2372), E P "COMMA" 2375 (.int 12 2374), E P "SEMI" 2377 (.int 13 2376), E P "PLUS" 2379 (.int 14 2378), E P "MINUS" 2381 (.int 15 2380), E P "STAR" 2383 (.int 16 2382), E P "SLASH" 2385 (.int 17 2384), E P "VBAR" 2387 (.int 18 2386), E P "AMPER" 2389 (.int 19 2388), E P "LESS" 2391 (.int 20 2390), E P "GREATER" 2393 (.int 21 2392), E P "EQUAL" 2395 (.int 22 2394), E P "DOT" 2397 (.int 23 2396), E P "PERCENT" 2399 (.int 24 2398), E P "LBRACE" 2401 (.int 25 2400), E P "RBRACE" 2403 (.int 26 2402), E P "EQEQUAL" 2405 (.int 27 2404), E P "NOTEQUAL" 2407 (.int 28 2406), E P "LESSEQUAL" 2409 (.int 29 2408), E P "GREATEREQUAL" 2411 (.int 30 2410), E P "TILDE" 2413 (.int 31 2412), E P "CIRCUMFLEX" 2415 (.int 32 2414), E P "LEFTSHIFT" 2417 (.int 33 2416), E P "RIGHTSHIFT" 2419 (.int 34 2418), E P "DOUBLESTAR" 2421 (.int 35 2420), E P "PLUSEQUAL" 2423 (.int 36 2422), E P "MINEQUAL" 2425 (.int 37 2424), E P "STAREQUAL" 2427 (.int 38 2426), E P "SLASHEQUAL" 2429 (.int 39 2428), E P "PERCENTEQUAL" 2431 (.int 40 2430), E P "AMPEREQUAL" 2433 (.int 41 2432), E P "VBAREQUAL" 2435 (.int 42 2434), E P "CIRCUMFLEXEQUAL" 2437 (.int 43 2436), E P "LEFTSHIFTEQUAL" 2439 (.int 44 2438), E P "RIGHTSHIFTEQUAL" 2441 (.int 45 2440), E P "DOUBLESTAREQUAL" 2443 (.int 46 2442), E P "DOUBLESLASH" 2445 (.int 47 2444), E P "DOUBLESLASHEQUAL" 2447 (.int 48 2446), E P "AT" 2449 (.int 49 2448), E P "ATEQUAL" 2451 (.int 50 2450), E P "RARROW" 2453 (.int 51 2452), E P "ELLIPSIS" 2455 (.int 52 2454), E P "COLONEQUAL" 2457 (.int 53 2456), E P "EXCLAMATION" 2459 (.int 54 2458), E P "NT_OFFSET" 2461 (.int 256 2460), E P "EXACT_TOKEN_TYPES" 2558 (.ref 111)] 68
noncomputable def o111x6 (P : Params) : Obj := dcO [E P "!" 2462 (.int 54 2458), E P "!=" 2464 (.int 28 2406), E P "%" 2466 (.int 24 2398), E P "%=" 2468 (.int 40 2430), E P "&" 2470 (.int 19 2388), E P "&=" 2472 (.int 41 2432), E P "(" 2474 (.int 7 2364), E P ")" 2476 (.int 8 2366), E P "*" 2478 (.int 16 2382), E P "**" 2480 (.int 35 2420), E P "**=" 2482 (.int 46 2442), E P "*=" 2484 (.int 38 2426), E P "+" 2486 (.int 14 2378), E P "+=" 2488 (.int 36 2422), E P "," 2490 (.int 12 2374), E P "-" 2492 (.int 15 2380), E P "-=" 2494 (.int 37 2424), E P "->" 2496 (.int 51 2452), E P "." 2498 (.int 23 2396), E P "..." 2500 (.int 52 2454), E P "/" 2502 (.int 17 2384), E P "//" 2504 (.int 47 2444), E P "//=" 2506 (.int 48 2446), E P "/=" 2508 (.int 39 2428), E P ":" 2510 (.int 11 2372), E P ":=" 2512 (.int 53 2456), E P ";" 2514 (.int 13 2376), E P "<" 2516 (.int 20 2390), E P "<<" 2518 (.int 33 2416), E P "<<=" 2520 (.int 44 2438), E P "<=" 2522 (.int 29 2408), E P "=" 2524 (.int 22 2394), E P "==" 2526 (.int 27 2404), E P ">" 2528 (.int 21 2392), E P ">=" 2530 (.int 30 2410), E P ">>" 2531 (.int 34 2418), E P ">>=" 2532 (.int 45 2440), E P "@" 2533 (.int 49 2448), E P "@=" 2534 (.int 50 2450), E P "[" 2535 (.int 9 2368), E P "]" 2536 (.int 10 2370), E P "^" 2537 (.int 32 2414), E P "^=" 2538 (.int 43 2436), E P "{" 2539 (.int 25 2400), E P "|" 2540 (.int 18 2386), E P "|=" 2541 (.int 42 2434), E P "}" 2542 (.int 26 2402), E P "~" 2543 (.int 31 2412)] 48
noncomputable def o112x6 (P : Params) : Obj := dcO [E P "->" 2496 (.int 51 2452), E P "." 2498 (.int 23 2396), E P "..." 2500 (.int 52 2454), E P "/" 2502 (.int 17 2384), E P "//" 2504 (.int 47 2444), E P "//=" 2506 (.int 48 2446), E P "/=" 2508 (.int 39 2428), E P ":" 2510 (.int 11 2372), E P ":=" 2512 (.int 53 2456), E P ";" 2514 (.int 13 2376), E P "<" 2516 (.int 20 2390), E P "<<" 2518 (.int 33 2416), E P "<<=" 2520 (.int 44 2438), E P "<=" 2522 (.int 29 2408), E P "=" 2524 (.int 22 2394), E P "==" 2526 (.int 27 2404), E P ">" 2528 (.int 21 2392)] 17
noncomputable def o113x6 (P : Params) : Obj := dcO [E P ">=" 2530 (.int 30 2410), E P ">>" 2531 (.int 34 2418), E P ">>=" 2532 (.int 45 2440), E P "@" 2533 (.int 49 2448), E P "@=" 2534 (.int 50 2450), E P "[" 2535 (.int 9 2368), E P "]" 2536 (.int 10 2370), E P "^" 2537 (.int 32 2414), E P "^=" 2538 (.int 43 2436), E P "{" 2539 (.int 25 2400), E P "|" 2540 (.int 18 2386), E P "|=" 2541 (.int 42 2434), E P "}" 2542 (.int 26 2402), E P "~" 2543 (.int 31 2412)] 14
noncomputable def y36 (P : Params) : BT := N o49x1 (N o81x3 B B) (N (o113x6 P) B B)
noncomputable def tx6 (P : Params) : BT := (N (o0s P) (N (o1s P) (N (o3x6 P) (N o7s (N o7s (y13 P) (N o47x1 (N o79x3 B B) (N (o111x6 P) B B))) (y14 P)) (y28 P)) (N o5s (N o9s (N o17s (y17 P) (y36 P)) (y29 P)) (y30 P))) (N (o2s P) (N o4s (N o8s (N o16s (y21 P) (N o48x1 (N o80x3 B B) (N (o112x6 P) B B))) (y32 P)) (y33 P)) (y34 P)))
noncomputable def o3x7 (P : Params) : Obj := dcO [E P "__name__" 165 (.str "cpy313.wsgiref.headers" 2580), E P "__doc__" 166 .none, E P "__package__" 167 .none, E P "__loader__" 168 (.builtin "__main__.__loader__#opaque"), E P "__spec__" 169 .none, E P "__annotations__" 170 (.ref 6), E P "__builtins__" 171 (.ref 4), E P "__file__" 173 (.str "/claim/cut.py" 172), E P "__cached__" 174 .none, E P "_sre" 275 (.ref 12), E P "_wall" 288 (.ref 38), E P "COMPILER_FLAG_NAMES" 321 (.ref 39), E P "pretty_flags" 331 (.ref 46), E P "b1_set" 393 (.ref 54), E P "in_table_b1" 400 (.ref 64), E P "b3_exceptions" 2351 (.ref 65), E P "map_table_b3" 2359 (.ref 110), E P "ENDMARKER" 2363 (.int 0 2362), E P "LPAR" 2365 (.int 7 2364), E P "RPAR" 2367 (.int 8 2366), E P "LSQB" 2369 (.int 9 2368), E P "RSQB" 2371 (.int 10 2370), E P "COLON" 2373 (.int 11 2372), E P "COMMA" 2375 (.int 12 2374), E P "SEMI" 2377 (.int 13 2376), E P "PLUS" 2379 (.int 14 2378), E P "MINUS" 2381 (.int 15 2380), E P "STAR" 2383 (.int 16 2382), E P "SLASH" 2385 (.int 17 2384), E P "VBAR" 2387 (.int 18 2386), E P "AMPER" 2389 (.int 19 2388), E P "LESS" 2391 (.int 20 2390), E P "GREATER" 2393 (.int 21 2392), E P "EQUAL" 2395 (.int 22 2394), E P "DOT" 2397 (.int 23 2396), E P "PERCENT" 2399 (.int 24 2398), E P "LBRACE" 2401 (.int 25 2400), E P "RBRACE" 2403 (.int 26 2402), E P "EQEQUAL" 2405 (.int 27 2404), E P "NOTEQUAL" 2407 (.int 28 2406), E P "LESSEQUAL" 2409 (.int 29 2408), E P "GREATEREQUAL" 2411 (.int 30 2410), E P "TILDE" 2413 (.int 31 2412), E P "CIRCUMFLEX" 2415 (.int 32 2414), E P "LEFTSHIFT" 2417 (.int 33 2416), E P "RIGHTSHIFT" 2419 (.int 34 2418), E P "DOUBLESTAR" 2421 (.int 35 2420), E P "PLUSEQUAL" 2423 (.int 36 2422), E P "MINEQUAL" 2425 (.int 37 2424), E P "STAREQUAL" 2427 (.int 38 2426), E P "SLASHEQUAL" 2429 (.int 39 2428), E P "PERCENTEQUAL" 2431 (.int 40 2430), E P "AMPEREQUAL" 2433 (.int 41 2432), E P "VBAREQUAL" 2435 (.int 42 2434), E P "CIRCUMFLEXEQUAL" 2437 (.int 43 2436), E P "LEFTSHIFTEQUAL" 2439 (.int 44 2438), E P "RIGHTSHIFTEQUAL" 2441 (.int 45 2440), E P "DOUBLESTAREQUAL" 2443 (.int 46 2442), E P "DOUBLESLASH" 2445 (.int 47 2444), E P "DOUBLESLASHEQUAL" 2447 (.int 48 2446), E P "AT" 2449 (.int 49 2448), E P "ATEQUAL" 2451 (.int 50 2450), E P "RARROW" 2453 (.int 51 2452), E P "ELLIPSIS" 2455 (.int 52 2454), E P "COLONEQUAL" 2457 (.int 53 2456), E P "EXCLAMATION" 2459 (.int 54 2458), E P "NT_OFFSET" 2461 (.int 256 2460), E P "EXACT_TOKEN_TYPES" 2558 (.ref 111), E P "ISTERMINAL" 2565 (.ref 120), E P "ISNONTERMINAL" 2572 (.ref 127), E P "ISEOF" 2579 (.ref 134), E P "_name_disallowed_re" 2607 (.ref 139), E P "_value_disallowed_re" 2641 (.ref 144)] 73
noncomputable def o29x7 : Obj := flO [(.int 2 0), (.int 0 0), (.ref 37), (.int 7 0), (.int 0 0), (.ref 45), (.int 21 0), (.int 0 0), (.ref 63), (.int 24 0), (.int 0 0), (.ref 109), (.int 81 0), (.int 0 0), (.ref 119), (.int 83 0), (.int 0 0), (.ref 126), (.int 85 0), (.int 0 0), (.ref 133)]
noncomputable def o116x7 : Obj := tpO [(.str "x" 2562)]
noncomputable def o118x7 : Obj := ⟨.none, none, (.func (Fn (fdAt 62) "ISTERMINAL" "ISTERMINAL" 0 .none .none .none .none none .none .none 0)), ⟨[]⟩⟩
noncomputable def o119x7 : Obj := cdO [(.str "ISTERMINAL" 2559), (.str "ISTERMINAL" 2560), (.str "/claim/cut.py" 2561), (.int 81 0), (.int 1 0), (.int 0 0), (.int 0 0), (.int 3 0), (.ref 114), (.bool true), (.int 276 0), (.ref 115), .none, (.ref 116), (.ref 117), (.ref 118), (.int 2563 0), (.int 81 0), (.str "/claim/cut.py" 2564)]
noncomputable def o120x7 : Obj := fnO (Fn (fdAt 62) "ISTERMINAL" "ISTERMINAL" 3 .none .none .none (.str "cpy313.token" 2360) none (.ref 119) .none 0)
noncomputable def o123x7 : Obj := tpO [(.str "x" 2569)]
noncomputable def o125x7 : Obj := ⟨.none, none, (.func (Fn (fdAt 63) "ISNONTERMINAL" "ISNONTERMINAL" 0 .none .none .none .none none .none .none 0)), ⟨[]⟩⟩
noncomputable def o126x7 : Obj := cdO [(.str "ISNONTERMINAL" 2566), (.str "ISNONTERMINAL" 2567), (.str "/claim/cut.py" 2568), (.int 83 0), (.int 1 0), (.int 0 0), (.int 0 0), (.int 3 0), (.ref 121), (.bool true), (.int 276 0), (.ref 122), .none, (.ref 123), (.ref 124), (.ref 125), (.int 2570 0), (.int 83 0), (.str "/claim/cut.py" 2571)]
noncomputable def o127x7 : Obj := fnO (Fn (fdAt 63) "ISNONTERMINAL" "ISNONTERMINAL" 3 .none .none .none (.str "cpy313.token" 2360) none (.ref 126) .none 0)
noncomputable def o130x7 : Obj := tpO [(.str "x" 2576)]
noncomputable def o132x7 : Obj := ⟨.none, none, (.func (Fn (fdAt 64) "ISEOF" "ISEOF" 0 .none .none .none .none none .none .none 0)), ⟨[]⟩⟩
noncomputable def o133x7 : Obj := cdO [(.str "ISEOF" 2573), (.str "ISEOF" 2574), (.str "/claim/cut.py" 2575), (.int 85 0), (.int 1 0), (.int 0 0), (.int 0 0), (.int 3 0), (.ref 128), (.bool true), (.int 276 0), (.ref 129), .none, (.ref 130), (.ref 131), (.ref 132), (.int 2577 0), (.int 85 0), (.str "/claim/cut.py" 2578)]
noncomputable def o134x7 : Obj := fnO (Fn (fdAt 64) "ISEOF" "ISEOF" 3 .none .none .none (.str "cpy313.token" 2360) none (.ref 133) .none 0)
noncomputable def o135x7 : Obj := lsO [(.int 14 2585), (.int 10 2586), (.int 4 2587), (.int 1 2588), (.int 1 2589), (.int 22 2590), (.int 0 2591), (.int 31 2592), (.int 16 2593), (.int 127 2594), (.int 0 2595), (.int 13 2596), (.int 7 2597), (.int 22 2598), (.int 0 2599), (.int 31 2600), (.int 16 2601), (.int 127 2602), (.int 0 2603), (.int 1 2604)]
noncomputable def o137x7 : Obj := tpO [.none]
noncomputable def o138x7 : Obj := tpO [(.int 14 0), (.int 10 0), (.int 4 0), (.int 1 0), (.int 1 0), (.int 22 0), (.int 0 0), (.int 31 0), (.int 16 0), (.int 127 0), (.int 0 0), (.int 13 0), (.int 7 0), (.int 22 0), (.int 0 0), (.int 31 0), (.int 16 0), (.int 127 0), (.int 0 0), (.int 1 0)]
noncomputable def o139x7 : Obj := ⟨(.type "re.Pattern"), none, (.fields ⟨[(.str "[\\x00-\\x1F\\x7F]" 2583), (.int 32 2606), (.int 0 0), .none, .none, (.ref 138), (.int 0 0)]⟩), ⟨[]⟩⟩
noncomputable def o140x7 : Obj := lsO [(.int 14 2611), (.int 14 2612), (.int 4 2613), (.int 1 2614), (.int 1 2615), (.int 9 2616), (.int 4294966783 2617), (.int 0 2618), (.int 0 2619), (.int 2147483648 2620), (.int 0 2621), (.int 0 2622), (.int 0 2623), (.int 0 2624), (.int 0 2625), (.int 13 2626), (.int 11 2627), (.int 9 2628), (.int 4294966783 2629), (.int 0 2630), (.int 0 2631), (.int 2147483648 2632), (.int 0 2633), (.int 0 2634), (.int 0 2635), (.int 0 2636), (.int 0 2637), (.int 1 2638)]
noncomputable def o143x7 : Obj := tpO [(.int 14 0), (.int 14 0), (.int 4 0), (.int 1 0), (.int 1 0), (.int 9 0), (.int 4294966783 0), (.int 0 0), (.int 0 0), (.int 2147483648 0), (.int 0 0), (.int 0 0), (.int 0 0), (.int 0 0), (.int 0 0), (.int 13 0), (.int 11 0), (.int 9 0), (.int 4294966783 0), (.int 0 0), (.int 0 0), (.int 2147483648 0), (.int 0 0), (.int 0 0), (.int 0 0), (.int 0 0), (.int 0 0), (.int 1 0)]
noncomputable def o144x7 : Obj := ⟨(.type "re.Pattern"), none, (.fields ⟨[(.str "[\\x00-\\x08\\x0A-\\x1F\\x7F]" 2609), (.int 32 2640), (.int 0 0), .none, .none, (.ref 143), (.int 0 0)]⟩), ⟨[]⟩⟩
noncomputable def tx7 (P : Params) : BT := (N (o0s P) (N (o1s P) (N (o3x7 P) (N o7s (N o7s (N o31a (N o63x2 (N o127x7 B B) B) (N o95x3 B B)) (N o47x1 (N o79x3 (N o143x7 B B) B) (N (o111x6 P) B B))) (N o23s (N o39x0 (N o71x3 (N o135x7 B B) B) (N o103x3 B B)) (N o55x1 (N o87x3 B B) (N o119x7 B B)))) (N (o11s P) (N o19s (N o7s (N o67x3 (N o7s B B) B) (N o99x3 B B)) (N o7s (N o83x3 B B) (N o8s B B))) (N o27s (N o7s (N o75x3 (N o139x7 B B) B) (N o7s B B)) (N o8s (N o91x3 B B) (N o123x7 B B))))) (N o5s (N o9s (N o17s (N o8s (N o65x3 (N o8s B B) B) (N o97x3 B B)) (y36 P)) (N o25s (N o8s (N o73x3 (N o137x7 B B) B) (N o8s B B)) (N o57x1 (N o89x3 B B) (N o7s B B)))) (N (o13s P) (N (o21s P) (N o37x0 (N o69x3 (N o133x7 B B) B) (N o101x3 B B)) (N o53x1 (N o85x3 B B) (N o7s B B))) (N o29x7 (N o45x0 (N o77x3 (N o6s B B) B) (N o109x4 B B)) (N o7s (N o93x3 B B) (N o125x7 B B)))))) (N (o2s P) (N o4s (N o8s (N o16s (N o7s (N o64x2 (N o7s B B) B) (N o96x3 B B)) (N o48x1 (N o80x3 (N o144x7 B B) B) (N (o112x6 P) B B))) (N o24s (N o7s (N o72x3 (N o6s B B) B) (N o7s B B)) (N o7s (N o88x3 B B) (N o120x7 B B)))) (N o12s (N (o20s P) (N o36x0 (N o68x3 (N o132x7 B B) B) (N o100x3 B B)) (N o52x1 (N o84x3 B B) (N o116x7 B B))) (N o7s (N o44x0 (N o76x3 (N o140x7 B B) B) (N o108x4 B B)) (N o60x2 (N o92x3 B B) (N o7s B B))))) (N o6s (N o10s (N o18s (N o34x0 (N o66x3 (N o130x7 B B) B) (N o98x3 B B)) (N o50x1 (N o82x3 B B) (N o7s B B))) (N o26s (N o42x0 (N o74x3 (N o138x7 B B) B) (N o106x4 B B)) (N o7s (N o90x3 B B) (N o8s B B)))) (N o14s (N o22s (N o38x0 (N o70x3 (N o134x7 B B) B) (N o102x3 B B)) (N (o54x1 P) (N o86x3 B B) (N o118x7 B B))) (N o30a (N o46x0 (N o78x3 (N o137x7 B B) B) (N o110x4 B B)) (N o62x2 (N o94x3 B B) (N o126x7 B B)))))))
noncomputable def o3x8 (P : Params) : Obj := dcO [E P "__name__" 165 (.str "cpy313.wsgiref.headers" 2580), E P "__doc__" 166 .none, E P "__package__" 167 .none, E P "__loader__" 168 (.builtin "__main__.__loader__#opaque"), E P "__spec__" 169 .none, E P "__annotations__" 170 (.ref 6), E P "__builtins__" 171 (.ref 4), E P "__file__" 173 (.str "/claim/cut.py" 172), E P "__cached__" 174 .none, E P "_sre" 275 (.ref 12), E P "_wall" 288 (.ref 38), E P "COMPILER_FLAG_NAMES" 321 (.ref 39), E P "pretty_flags" 331 (.ref 46), E P "b1_set" 393 (.ref 54), E P "in_table_b1" 400 (.ref 64), E P "b3_exceptions" 2351 (.ref 65), E P "map_table_b3" 2359 (.ref 110), E P "ENDMARKER" 2363 (.int 0 2362), E P "LPAR" 2365 (.int 7 2364), E P "RPAR" 2367 (.int 8 2366), E P "LSQB" 2369 (.int 9 2368), E P "RSQB" 2371 (.int 10 2370), E P "COLON" 2373 (.int 11 2372), E P "COMMA" 2375 (.int 12 2374), E P "SEMI" 2377 (.int 13 2376), E P "PLUS" 2379 (.int 14 2378), E P "MINUS" 2381 (.int 15 2380), E P "STAR" 2383 (.int 16 2382), E P "SLASH" 2385 (.int 17 2384), E P "VBAR" 2387 (.int 18 2386), E P "AMPER" 2389 (.int 19 2388), E P "LESS" 2391 (.int 20 2390), E P "GREATER" 2393 (.int 21 2392), E P "EQUAL" 2395 (.int 22 2394), E P "DOT" 2397 (.int 23 2396), E P "PERCENT" 2399 (.int 24 2398), E P "LBRACE" 2401 (.int 25 2400), E P "RBRACE" 2403 (.int 26 2402), E P "EQEQUAL" 2405 (.int 27 2404), E P "NOTEQUAL" 2407 (.int 28 2406), E P "LESSEQUAL" 2409 (.int 29 2408), E P "GREATEREQUAL" 2411 (.int 30 2410), E P "TILDE" 2413 (.int 31 2412), E P "CIRCUMFLEX" 2415 (.int 32 2414), E P "LEFTSHIFT" 2417 (.int 33 2416), E P "RIGHTSHIFT" 2419 (.int 34 2418), E P "DOUBLESTAR" 2421 (.int 35 2420), E P "PLUSEQUAL" 2423 (.int 36 2422), E P "MINEQUAL" 2425 (.int 37 2424), E P "STAREQUAL" 2427 (.int 38 2426), E P "SLASHEQUAL" 2429 (.int 39 2428), E P "PERCENTEQUAL" 2431 (.int 40 2430), E P "AMPEREQUAL" 2433 (.int 41 2432), E P "VBAREQUAL" 2435 (.int 42 2434), E P "CIRCUMFLEXEQUAL" 2437 (.int 43 2436), E P "LEFTSHIFTEQUAL" 2439 (.int 44 2438), E P "RIGHTSHIFTEQUAL" 2441 (.int 45 2440), E P "DOUBLESTAREQUAL" 2443 (.int 46 2442), E P "DOUBLESLASH" 2445 (.int 47 2444), E P "DOUBLESLASHEQUAL" 2447 (.int 48 2446), E P "AT" 2449 (.int 49 2448), E P "ATEQUAL" 2451 (.int 50 2450), E P "RARROW" 2453 (.int 51 2452), E P "ELLIPSIS" 2455 (.int 52 2454), E P "COLONEQUAL" 2457 (.int 53 2456), E P "EXCLAMATION" 2459 (.int 54 2458), E P "NT_OFFSET" 2461 (.int 256 2460), E P "EXACT_TOKEN_TYPES" 2558 (.ref 111), E P "ISTERMINAL" 2565 (.ref 120), E P "ISNONTERMINAL" 2572 (.ref 127), E P "ISEOF" 2579 (.ref 134), E P "_name_disallowed_re" 2607 (.ref 139), E P "_value_disallowed_re" 2641 (.ref 144), E P "Headers" 2798 (.ref 267)] 74
noncomputable def o29x8 : Obj := flO [(.int 2 0), (.int 0 0), (.ref 37), (.int 7 0), (.int 0 0), (.ref 45), (.int 21 0), (.int 0 0), (.ref 63), (.int 24 0), (.int 0 0), (.ref 109), (.int 81 0), (.int 0 0), (.ref 119), (.int 83 0), (.int 0 0), (.ref 126), (.int 85 0), (.int 0 0), (.ref 133), (.int 90 0), (.int 0 0), (.ref 150)]
noncomputable def o146x8 : Obj := ⟨(.type "builtin_function_or_method"), none, (.fields ⟨[(.builtin "type.__prepare__"), (.type "type")]⟩), ⟨[]⟩⟩
noncomputable def o147x8 (P : Params) : Obj := dcO [E P "__module__" 2649 (.str "cpy313.wsgiref.headers" 2580), E P "__qualname__" 2651 (.str "Headers" 2650), E P "__firstlineno__" 2653 (.int 90 2652), E P "__init__" 2663 (.ref 159), E P "_convert_string_type" 2673 (.ref 166), E P "__len__" 2680 (.ref 173), E P "__setitem__" 2689 (.ref 180), E P "__delitem__" 2695 (.ref 185), E P "__getitem__" 2703 (.ref 192), E P "__contains__" 2711 (.ref 199), E P "get_all" 2719 (.ref 206), E P "get" 2730 (.ref 214), E P "keys" 2736 (.ref 219), E P "values" 2742 (.ref 224), E P "items" 2749 (.ref 231), E P "__repr__" 2756 (.ref 238), E P "__str__" 2762 (.ref 243), E P "__bytes__" 2769 (.ref 250), E P "setdefault" 2779 (.ref 257), E P "add_header" 2789 (.ref 264), E P "__static_attributes__" 2791 (.ref 265)] 21
noncomputable def o149x8 : Obj := flO [(.int 92 0), (.int 4 0), (.ref 158), (.int 102 0), (.int 4 0), (.ref 165), (.int 110 0), (.int 4 0), (.ref 172), (.int 113 0), (.int 4 0), (.ref 179), (.int 117 0), (.int 4 0), (.ref 184), (.int 121 0), (.int 4 0), (.ref 191), (.int 124 0), (.int 4 0), (.ref 198), (.int 127 0), (.int 4 0), (.ref 205), (.int 130 0), (.int 4 0), (.ref 213), (.int 137 0), (.int 4 0), (.ref 218), (.int 140 0), (.int 4 0), (.ref 223), (.int 143 0), (.int 4 0), (.ref 230), (.int 146 0), (.int 4 0), (.ref 237), (.int 149 0), (.int 4 0), (.ref 242), (.int 152 0), (.int 4 0), (.ref 249), (.int 155 0), (.int 4 0), (.ref 256), (.int 163 0), (.int 4 0), (.ref 263)]
noncomputable def o150x8 : Obj := cdO [(.str "Headers" 2644), (.str "Headers" 2645), (.str "/claim/cut.py" 2646), (.int 90 0), (.int 0 0), (.int 0 0), (.int 0 0), (.int 0 0), (.ref 148), (.bool false), (.int 276 0), (.ref 149), .none, .none, .none, .none, (.int 2647 0), (.int 90 0), (.str "/claim/cut.py" 2648)]
noncomputable def o151x8 : Obj := ⟨(.type "frame"), none, .plain, ⟨[(some (.ref 150)), (some (.ref 3)), (some (.ref 147)), none, (some (.str "cpy313.wsgiref.headers" 2580)), none, (some (.ref 0))]⟩⟩
noncomputable def o155x8 : Obj := tpO [(.str "self" 2657), (.str "headers" 2658), (.str "k" 2659), (.str "v" 2660)]
noncomputable def o157x8 : Obj := ⟨.none, none, (.func (Fn (mdAt 68 0) "__init__" "Headers.__init__" 0 .none .none .none .none none .none .none 0)), ⟨[]⟩⟩
noncomputable def o158x8 : Obj := cdO [(.str "__init__" 2654), (.str "Headers.__init__" 2655), (.str "/claim/cut.py" 2656), (.int 92 0), (.int 2 0), (.int 0 0), (.int 0 0), (.int 3 0), (.ref 153), (.bool true), (.int 276 0), (.ref 154), .none, (.ref 155), (.ref 156), (.ref 157), (.int 2661 0), (.int 92 0), (.str "/claim/cut.py" 2662)]
noncomputable def o159x8 : Obj := fnO (Fn (mdAt 68 0) "__init__" "Headers.__init__" 3 (.ref 152) .none .none (.str "cpy313.wsgiref.headers" 2580) none (.ref 158) .none 0)
noncomputable def o162x8 : Obj := tpO [(.str "self" 2667), (.str "value" 2668), (.str "name" 2669), (.str "regex" 2670)]
noncomputable def o164x8 : Obj := ⟨.none, none, (.func (Fn (mdAt 68 1) "_convert_string_type" "Headers._convert_string_type" 0 .none .none .none .none none .none .none 0)), ⟨[]⟩⟩
noncomputable def o165x8 : Obj := cdO [(.str "_convert_string_type" 2664), (.str "Headers._convert_string_type" 2665), (.str "/claim/cut.py" 2666), (.int 102 0), (.int 2 0), (.int 0 0), (.int 1 0), (.int 3 0), (.ref 160), (.bool true), (.int 276 0), (.ref 161), .none, (.ref 162), (.ref 163), (.ref 164), (.int 2671 0), (.int 102 0), (.str "/claim/cut.py" 2672)]
noncomputable def o166x8 : Obj := fnO (Fn (mdAt 68 1) "_convert_string_type" "Headers._convert_string_type" 3 .none .none .none (.str "cpy313.wsgiref.headers" 2580) none (.ref 165) .none 0)
noncomputable def o169x8 : Obj := tpO [(.str "self" 2677)]
noncomputable def o171x8 : Obj := ⟨.none, none, (.func (Fn (mdAt 68 2) "__len__" "Headers.__len__" 0 .none .none .none .none none .none .none 0)), ⟨[]⟩⟩
noncomputable def o172x8 : Obj := cdO [(.str "__len__" 2674), (.str "Headers.__len__" 2675), (.str "/claim/cut.py" 2676), (.int 110 0), (.int 1 0), (.int 0 0), (.int 0 0), (.int 3 0), (.ref 167), (.bool true), (.int 276 0), (.ref 168), .none, (.ref 169), (.ref 170), (.ref 171), (.int 2678 0), (.int 110 0), (.str "/claim/cut.py" 2679)]
noncomputable def o173x8 : Obj := fnO (Fn (mdAt 68 2) "__len__" "Headers.__len__" 3 .none .none .none (.str "cpy313.wsgiref.headers" 2580) none (.ref 172) .none 0)
noncomputable def o176x8 : Obj := tpO [(.str "self" 2684), (.str "name" 2685), (.str "val" 2686)]
noncomputable def o178x8 : Obj := ⟨.none, none, (.func (Fn (mdAt 68 3) "__setitem__" "Headers.__setitem__" 0 .none .none .none .none none .none .none 0)), ⟨[]⟩⟩
noncomputable def o179x8 : Obj := cdO [(.str "__setitem__" 2681), (.str "Headers.__setitem__" 2682), (.str "/claim/cut.py" 2683), (.int 113 0), (.int 3 0), (.int 0 0), (.int 0 0), (.int 3 0), (.ref 174), (.bool true), (.int 276 0), (.ref 175), .none, (.ref 176), (.ref 177), (.ref 178), (.int 2687 0), (.int 113 0), (.str "/claim/cut.py" 2688)]
noncomputable def o180x8 : Obj := fnO (Fn (mdAt 68 3) "__setitem__" "Headers.__setitem__" 3 .none .none .none (.str "cpy313.wsgiref.headers" 2580) none (.ref 179) .none 0)
noncomputable def o183x8 : Obj := ⟨.none, none, (.func (Fn (mdAt 68 4) "__delitem__" "Headers.__delitem__" 0 .none .none .none .none none .none .none 0)), ⟨[]⟩⟩
noncomputable def o184x8 : Obj := cdO [(.str "__delitem__" 2690), (.str "Headers.__delitem__" 2691), (.str "/claim/cut.py" 2692), (.int 117 0), (.int 2 0), (.int 0 0), (.int 0 0), (.int 3 0), (.ref 181), (.bool true), (.int 276 0), (.ref 182), .none, .none, .none, (.ref 183), (.int 2693 0), (.int 117 0), (.str "/claim/cut.py" 2694)]
noncomputable def o185x8 : Obj := fnO (Fn (mdAt 68 4) "__delitem__" "Headers.__delitem__" 3 .none .none .none (.str "cpy313.wsgiref.headers" 2580) none (.ref 184) .none 0)
noncomputable def o188x8 : Obj := tpO [(.str "self" 2699), (.str "name" 2700)]
noncomputable def o190x8 : Obj := ⟨.none, none, (.func (Fn (mdAt 68 5) "__getitem__" "Headers.__getitem__" 0 .none .none .none .none none .none .none 0)), ⟨[]⟩⟩
noncomputable def o191x8 : Obj := cdO [(.str "__getitem__" 2696), (.str "Headers.__getitem__" 2697), (.str "/claim/cut.py" 2698), (.int 121 0), (.int 2 0), (.int 0 0), (.int 0 0), (.int 3 0), (.ref 186), (.bool true), (.int 276 0), (.ref 187), .none, (.ref 188), (.ref 189), (.ref 190), (.int 2701 0), (.int 121 0), (.str "/claim/cut.py" 2702)]
noncomputable def o192x8 : Obj := fnO (Fn (mdAt 68 5) "__getitem__" "Headers.__getitem__" 3 .none .none .none (.str "cpy313.wsgiref.headers" 2580) none (.ref 191) .none 0)
noncomputable def o195x8 : Obj := tpO [(.str "self" 2707), (.str "name" 2708)]
noncomputable def o197x8 : Obj := ⟨.none, none, (.func (Fn (mdAt 68 6) "__contains__" "Headers.__contains__" 0 .none .none .none .none none .none .none 0)), ⟨[]⟩⟩
noncomputable def o198x8 : Obj := cdO [(.str "__contains__" 2704), (.str "Headers.__contains__" 2705), (.str "/claim/cut.py" 2706), (.int 124 0), (.int 2 0), (.int 0 0), (.int 0 0), (.int 3 0), (.ref 193), (.bool true), (.int 276 0), (.ref 194), .none, (.ref 195), (.ref 196), (.ref 197), (.int 2709 0), (.int 124 0), (.str "/claim/cut.py" 2710)]
noncomputable def o199x8 : Obj := fnO (Fn (mdAt 68 6) "__contains__" "Headers.__contains__" 3 .none .none .none (.str "cpy313.wsgiref.headers" 2580) none (.ref 198) .none 0)
noncomputable def o202x8 : Obj := tpO [(.str "self" 2715), (.str "name" 2716)]
noncomputable def o204x8 : Obj := ⟨.none, none, (.func (Fn (mdAt 68 7) "get_all" "Headers.get_all" 0 .none .none .none .none none .none .none 0)), ⟨[]⟩⟩
noncomputable def o205x8 : Obj := cdO [(.str "get_all" 2712), (.str "Headers.get_all" 2713), (.str "/claim/cut.py" 2714), (.int 127 0), (.int 2 0), (.int 0 0), (.int 0 0), (.int 3 0), (.ref 200), (.bool true), (.int 276 0), (.ref 201), .none, (.ref 202), (.ref 203), (.ref 204), (.int 2717 0), (.int 127 0), (.str "/claim/cut.py" 2718)]
noncomputable def o206x8 : Obj := fnO (Fn (mdAt 68 7) "get_all" "Headers.get_all" 3 .none .none .none (.str "cpy313.wsgiref.headers" 2580) none (.ref 205) .none 0)
noncomputable def o210x8 : Obj := tpO [(.str "self" 2723), (.str "name" 2724), (.str "default" 2725), (.str "k" 2726), (.str "v" 2727)]
noncomputable def o212x8 : Obj := ⟨.none, none, (.func (Fn (mdAt 68 8) "get" "Headers.get" 0 .none .none .none .none none .none .none 0)), ⟨[]⟩⟩
noncomputable def o213x8 : Obj := cdO [(.str "get" 2720), (.str "Headers.get" 2721), (.str "/claim/cut.py" 2722), (.int 130 0), (.int 3 0), (.int 0 0), (.int 0 0), (.int 3 0), (.ref 208), (.bool true), (.int 276 0), (.ref 209), .none, (.ref 210), (.ref 211), (.ref 212), (.int 2728 0), (.int 130 0), (.str "/claim/cut.py" 2729)]
noncomputable def o214x8 : Obj := fnO (Fn (mdAt 68 8) "get" "Headers.get" 3 (.ref 207) .none .none (.str "cpy313.wsgiref.headers" 2580) none (.ref 213) .none 0)
noncomputable def o217x8 : Obj := ⟨.none, none, (.func (Fn (mdAt 68 9) "keys" "Headers.keys" 0 .none .none .none .none none .none .none 0)), ⟨[]⟩⟩
noncomputable def o218x8 : Obj := cdO [(.str "keys" 2731), (.str "Headers.keys" 2732), (.str "/claim/cut.py" 2733), (.int 137 0), (.int 1 0), (.int 0 0), (.int 0 0), (.int 3 0), (.ref 215), (.bool true), (.int 276 0), (.ref 216), .none, .none, .none, (.ref 217), (.int 2734 0), (.int 137 0), (.str "/claim/cut.py" 2735)]
noncomputable def o219x8 : Obj := fnO (Fn (mdAt 68 9) "keys" "Headers.keys" 3 .none .none .none (.str "cpy313.wsgiref.headers" 2580) none (.ref 218) .none 0)
noncomputable def o222x8 : Obj := ⟨.none, none, (.func (Fn (mdAt 68 10) "values" "Headers.values" 0 .none .none .none .none none .none .none 0)), ⟨[]⟩⟩
noncomputable def o223x8 : Obj := cdO [(.str "values" 2737), (.str "Headers.values" 2738), (.str "/claim/cut.py" 2739), (.int 140 0), (.int 1 0), (.int 0 0), (.int 0 0), (.int 3 0), (.ref 220), (.bool true), (.int 276 0), (.ref 221), .none, .none, .none, (.ref 222), (.int 2740 0), (.int 140 0), (.str "/claim/cut.py" 2741)]
noncomputable def o224x8 : Obj := fnO (Fn (mdAt 68 10) "values" "Headers.values" 3 .none .none .none (.str "cpy313.wsgiref.headers" 2580) none (.ref 223) .none 0)
noncomputable def o227x8 : Obj := tpO [(.str "self" 2746)]
noncomputable def o229x8 : Obj := ⟨.none, none, (.func (Fn (mdAt 68 11) "items" "Headers.items" 0 .none .none .none .none none .none .none 0)), ⟨[]⟩⟩
noncomputable def o230x8 : Obj := cdO [(.str "items" 2743), (.str "Headers.items" 2744), (.str "/claim/cut.py" 2745), (.int 143 0), (.int 1 0), (.int 0 0), (.int 0 0), (.int 3 0), (.ref 225), (.bool true), (.int 276 0), (.ref 226), .none, (.ref 227), (.ref 228), (.ref 229), (.int 2747 0), (.int 143 0), (.str "/claim/cut.py" 2748)]
noncomputable def o231x8 : Obj := fnO (Fn (mdAt 68 11) "items" "Headers.items" 3 .none .none .none (.str "cpy313.wsgiref.headers" 2580) none (.ref 230) .none 0)
noncomputable def o234x8 : Obj := tpO [(.str "self" 2753)]
noncomputable def o236x8 : Obj := ⟨.none, none, (.func (Fn (mdAt 68 12) "__repr__" "Headers.__repr__" 0 .none .none .none .none none .none .none 0)), ⟨[]⟩⟩
noncomputable def o237x8 : Obj := cdO [(.str "__repr__" 2750), (.str "Headers.__repr__" 2751), (.str "/claim/cut.py" 2752), (.int 146 0), (.int 1 0), (.int 0 0), (.int 0 0), (.int 3 0), (.ref 232), (.bool true), (.int 276 0), (.ref 233), .none, (.ref 234), (.ref 235), (.ref 236), (.int 2754 0), (.int 146 0), (.str "/claim/cut.py" 2755)]
noncomputable def o238x8 : Obj := fnO (Fn (mdAt 68 12) "__repr__" "Headers.__repr__" 3 .none .none .none (.str "cpy313.wsgiref.headers" 2580) none (.ref 237) .none 0)
noncomputable def o241x8 : Obj := ⟨.none, none, (.func (Fn (mdAt 68 13) "__str__" "Headers.__str__" 0 .none .none .none .none none .none .none 0)), ⟨[]⟩⟩
noncomputable def o242x8 : Obj := cdO [(.str "__str__" 2757), (.str "Headers.__str__" 2758), (.str "/claim/cut.py" 2759), (.int 149 0), (.int 1 0), (.int 0 0), (.int 0 0), (.int 3 0), (.ref 239), (.bool true), (.int 276 0), (.ref 240), .none, .none, .none, (.ref 241), (.int 2760 0), (.int 149 0), (.str "/claim/cut.py" 2761)]
noncomputable def o243x8 : Obj := fnO (Fn (mdAt 68 13) "__str__" "Headers.__str__" 3 .none .none .none (.str "cpy313.wsgiref.headers" 2580) none (.ref 242) .none 0)
noncomputable def o246x8 : Obj := tpO [(.str "self" 2766)]
noncomputable def o248x8 : Obj := ⟨.none, none, (.func (Fn (mdAt 68 14) "__bytes__" "Headers.__bytes__" 0 .none .none .none .none none .none .none 0)), ⟨[]⟩⟩
noncomputable def o249x8 : Obj := cdO [(.str "__bytes__" 2763), (.str "Headers.__bytes__" 2764), (.str "/claim/cut.py" 2765), (.int 152 0), (.int 1 0), (.int 0 0), (.int 0 0), (.int 3 0), (.ref 244), (.bool true), (.int 276 0), (.ref 245), .none, (.ref 246), (.ref 247), (.ref 248), (.int 2767 0), (.int 152 0), (.str "/claim/cut.py" 2768)]
noncomputable def o250x8 : Obj := fnO (Fn (mdAt 68 14) "__bytes__" "Headers.__bytes__" 3 .none .none .none (.str "cpy313.wsgiref.headers" 2580) none (.ref 249) .none 0)
noncomputable def o253x8 : Obj := tpO [(.str "self" 2773), (.str "name" 2774), (.str "value" 2775), (.str "result" 2776)]
noncomputable def o255x8 : Obj := ⟨.none, none, (.func (Fn (mdAt 68 15) "setdefault" "Headers.setdefault" 0 .none .none .none .none none .none .none 0)), ⟨[]⟩⟩
noncomputable def o256x8 : Obj := cdO [(.str "setdefault" 2770), (.str "Headers.setdefault" 2771), (.str "/claim/cut.py" 2772), (.int 155 0), (.int 3 0), (.int 0 0), (.int 0 0), (.int 3 0), (.ref 251), (.bool true), (.int 276 0), (.ref 252), .none, (.ref 253), (.ref 254), (.ref 255), (.int 2777 0), (.int 155 0), (.str "/claim/cut.py" 2778)]
noncomputable def o257x8 : Obj := fnO (Fn (mdAt 68 15) "setdefault" "Headers.setdefault" 3 .none .none .none (.str "cpy313.wsgiref.headers" 2580) none (.ref 256) .none 0)
noncomputable def o260x8 : Obj := tpO [(.str "self" 2783), (.str "_name" 2784), (.str "_value" 2785), (.str "_params" 2786)]
noncomputable def o262x8 : Obj := ⟨.none, none, (.func (Fn (mdAt 68 16) "add_header" "Headers.add_header" 0 .none .none .none .none none .none .none 0)), ⟨[]⟩⟩
noncomputable def o263x8 : Obj := cdO [(.str "add_header" 2780), (.str "Headers.add_header" 2781), (.str "/claim/cut.py" 2782), (.int 163 0), (.int 3 0), (.int 0 0), (.int 0 0), (.int 11 0), (.ref 258), (.bool true), (.int 276 0), (.ref 259), .none, (.ref 260), (.ref 261), (.ref 262), (.int 2787 0), (.int 163 0), (.str "/claim/cut.py" 2788)]
noncomputable def o264x8 : Obj := fnO (Fn (mdAt 68 16) "add_header" "Headers.add_header" 3 .none .none .none (.str "cpy313.wsgiref.headers" 2580) none (.ref 263) .none 0)
noncomputable def o265x8 : Obj := tpO [(.str "_headers" 2790)]
noncomputable def o266x8 (P : Params) : Obj := dcO [E P "__module__" 2649 (.str "cpy313.wsgiref.headers" 2580), E P "__firstlineno__" 2653 (.int 90 2652), E P "__init__" 2663 (.ref 159), E P "_convert_string_type" 2673 (.ref 166), E P "__len__" 2680 (.ref 173), E P "__setitem__" 2689 (.ref 180), E P "__delitem__" 2695 (.ref 185), E P "__getitem__" 2703 (.ref 192), E P "__contains__" 2711 (.ref 199), E P "get_all" 2719 (.ref 206), E P "get" 2730 (.ref 214), E P "keys" 2736 (.ref 219), E P "values" 2742 (.ref 224), E P "items" 2749 (.ref 231), E P "__repr__" 2756 (.ref 238), E P "__str__" 2762 (.ref 243), E P "__bytes__" 2769 (.ref 250), E P "setdefault" 2779 (.ref 257), E P "add_header" 2789 (.ref 264), E P "__static_attributes__" 2791 (.ref 265), E P "__dict__" 2793 (.ref 268), E P "__weakref__" 2795 (.ref 269), E P "__doc__" 2796 .none] 4
noncomputable def o267x8 : Obj := ⟨(.type "type"), none, (.cls { name := "Headers", bases := [(.type "object")], mro := [(.ref 267), (.type "object")], ns := 266, qualname := "Headers", hasDict := true, slotNames := [], subclasses := [], abstract := false, collection := none, hasDel := false }), ⟨[none, none, (some (.str "Headers" 2642)), (some (.str "Headers" 2650)), (some (.builtin "object.__new__")), (some (.bool true))]⟩⟩
noncomputable def o268x8 : Obj := ⟨(.type "getset_descriptor"), none, (.fields ⟨[(.str "__dict__" 2792), (.ref 267), (.builtin "function.__dict__"), (.builtin "function.__dict__#set")]⟩), ⟨[]⟩⟩
noncomputable def o269x8 : Obj := ⟨(.type "getset_descriptor"), none, (.fields ⟨[(.str "__weakref__" 2794), (.ref 267), (.builtin "ExceptionGroup.__weakref__"), .none]⟩), ⟨[]⟩⟩
noncomputable def o270x8 : Obj := ⟨(.type "super"), none, (.fields ⟨[(.ref 267), (.ref 267), (.ref 267)]⟩), ⟨[]⟩⟩
noncomputable def o271x8 : Obj := ⟨(.type "builtin_function_or_method"), none, (.fields ⟨[(.builtin "object.__init_subclass__"), (.ref 267)]⟩), ⟨[]⟩⟩
noncomputable def y37 (P : Params) : BT := N o127x7 (N o255x8 B B) B
noncomputable def y38 (P : Params) : BT := N o63x2 (y37 P) (N o191x8 B B)
noncomputable def y39 (P : Params) : BT := N o143x7 (N o271x8 B B) B
noncomputable def y40 (P : Params) : BT := N o79x3 (y39 P) (N o137x7 B B)
noncomputable def y41 (P : Params) : BT := N o135x7 (N o263x8 B B) B
noncomputable def y42 (P : Params) : BT := N o71x3 (y41 P) (N o199x8 B B)
noncomputable def y43 (P : Params) : BT := N o119x7 (N o183x8 B B) (N o7s B B)
noncomputable def y44 (P : Params) : BT := N o67x3 (N o7s (N o8s B B) B) (N o195x8 B B)
noncomputable def y45 (P : Params) : BT := N o8s (N o179x8 B B) (N o243x8 B B)
noncomputable def y46 (P : Params) : BT := N o139x7 (N o267x8 B B) B
noncomputable def y47 (P : Params) : BT := N o75x3 (y46 P) (N o7s B B)
noncomputable def y48 (P : Params) : BT := N o123x7 (N o8s B B) (N o7s B B)
noncomputable def y49 (P : Params) : BT := N o65x3 (N o8s (N o257x8 B B) B) (N o7s B B)
noncomputable def y50 (P : Params) : BT := N o137x7 (N o265x8 B B) B
noncomputable def y51 (P : Params) : BT := N o73x3 (y50 P) (N o8s B B)
noncomputable def y52 (P : Params) : BT := N o7s (N o185x8 B B) (N o249x8 B B)
noncomputable def y53 (P : Params) : BT := N o69x3 (N o133x7 (N o7s B B) B) (N o197x8 B B)
noncomputable def y54 (P : Params) : BT := N o7s (N o7s B B) (N o8s B B)
noncomputable def y55 (P : Params) : BT := N o77x3 (N o6s (N o269x8 B B) B) (N o205x8 B B)
noncomputable def y56 (P : Params) : BT := N o125x7 (N o7s B B) (N o253x8 B B)
noncomputable def y57 (P : Params) : BT := N o64x2 (N o7s (N o256x8 B B) B) (N o192x8 B B)
noncomputable def y58 (P : Params) : BT := N o72x3 (N o6s (N o264x8 B B) B) (N o7s B B)
noncomputable def y59 (P : Params) : BT := N o120x7 (N o184x8 B B) (N o248x8 B B)
noncomputable def y60 (P : Params) : BT := N o132x7 (N o260x8 B B) B
noncomputable def y61 (P : Params) : BT := N o68x3 (y60 P) (N o7s B B)
noncomputable def y62 (P : Params) : BT := N o116x7 (N o180x8 B B) (N o7s B B)
noncomputable def y63 (P : Params) : BT := N o140x7 (N o268x8 B B) B
noncomputable def y64 (P : Params) : BT := N o76x3 (y63 P) (N o204x8 B B)
noncomputable def y65 (P : Params) : BT := N o7s (N o188x8 B B) (N o8s B B)
noncomputable def y66 (P : Params) : BT := N o66x3 (N o130x7 (N o7s B B) B) (N o8s B B)
noncomputable def y67 (P : Params) : BT := N o7s (N o178x8 B B) (N o242x8 B B)
noncomputable def y68 (P : Params) : BT := N o138x7 (N (o266x8 P) B B) B
noncomputable def y69 (P : Params) : BT := N o74x3 (y68 P) (N o202x8 B B)
noncomputable def y70 (P : Params) : BT := N o8s (N o7s B B) (N o250x8 B B)
noncomputable def y71 (P : Params) : BT := N o134x7 (N o262x8 B B) B
noncomputable def y72 (P : Params) : BT := N o70x3 (y71 P) (N o198x8 B B)
noncomputable def y73 (P : Params) : BT := N o118x7 (N o8s B B) (N o246x8 B B)
noncomputable def y74 (P : Params) : BT := N o137x7 (N o270x8 B B) B
noncomputable def y75 (P : Params) : BT := N o78x3 (y74 P) (N o206x8 B B)
noncomputable def y76 (P : Params) : BT := N o126x7 (N o190x8 B B) (N o7s B B)
noncomputable def tx8 (P : Params) : BT := (N (o0s P) (N (o1s P) (N (o3x8 P) (N o7s (N o7s (N o31a (y38 P) (N o95x3 (N o159x8 B B) (N o223x8 B B))) (N o47x1 (y40 P) (N (o111x6 P) (N o8s B B) (N o7s B B)))) (N o23s (N o39x0 (y42 P) (N o103x3 (N o7s B B) (N o231x8 B B))) (N o55x1 (N o87x3 (N o151x8 B B) (N o7s B B)) (y43 P)))) (N (o11s P) (N o19s (N o7s (y44 P) (N o99x3 (N o7s B B) (N o227x8 B B))) (N o7s (N o83x3 (N (o147x8 P) B B) (N o7s B B)) (y45 P))) (N o27s (N o7s (y47 P) (N o7s (N o171x8 B B) (N o7s B B))) (N o8s (N o91x3 (N o155x8 B B) (N o219x8 B B)) (y48 P))))) (N o5s (N o9s (N o17s (N o8s (y49 P) (N o97x3 (N o8s B B) (N o7s B B))) (N o49x1 (N o81x3 (N o7s B B) (N o8s B B)) (N (o113x6 P) (N o7s B B) (N o241x8 B B)))) (N o25s (N o8s (y51 P) (N o8s (N o169x8 B B) (N o8s B B))) (N o57x1 (N o89x3 (N o7s B B) (N o217x8 B B)) (y52 P)))) (N (o13s P) (N (o21s P) (N o37x0 (y53 P) (N o101x3 (N o165x8 B B) (N o229x8 B B))) (N o53x1 (N o85x3 (N o149x8 B B) (N o213x8 B B)) (y54 P))) (N o29x8 (N o45x0 (y55 P) (N o109x4 (N o173x8 B B) (N o237x8 B B))) (N o7s (N o93x3 (N o157x8 B B) (N o8s B B)) (y56 P)))))) (N (o2s P) (N o4s (N o8s (N o16s (N o7s (y57 P) (N o96x3 (N o7s B B) (N o224x8 B B))) (N o48x1 (N o80x3 (N o144x7 B B) (N o7s B B)) (N (o112x6 P) (N o176x8 B B) (N o8s B B)))) (N o24s (N o7s (y58 P) (N o7s (N o8s B B) (N o7s B B))) (N o7s (N o88x3 (N o137x7 B B) (N o8s B B)) (y59 P)))) (N o12s (N (o20s P) (N o36x0 (y61 P) (N o100x3 (N o164x8 B B) (N o7s B B))) (N o52x1 (N o84x3 (N o7s B B) (N o212x8 B B)) (y62 P))) (N o7s (N o44x0 (y64 P) (N o108x4 (N o172x8 B B) (N o236x8 B B))) (N o60x2 (N o92x3 (N o7s B B) (N o7s B B)) (y65 P))))) (N o6s (N o10s (N o18s (N o34x0 (y66 P) (N o98x3 (N o162x8 B B) (N o8s B B))) (N o50x1 (N o82x3 (N o146x8 B B) (N o210x8 B B)) (y67 P))) (N o26s (N o42x0 (y69 P) (N o106x4 (N o7s B B) (N o234x8 B B))) (N o7s (N o90x3 (N o8s B B) (N o218x8 B B)) (y70 P)))) (N o14s (N o22s (N o38x0 (y72 P) (N o102x3 (N o166x8 B B) (N o230x8 B B))) (N (o54x1 P) (N o86x3 (N o150x8 B B) (N o214x8 B B)) (y73 P))) (N o30a (N o46x0 (y75 P) (N o110x4 (N o7s B B) (N o238x8 B B))) (N o62x2 (N o94x3 (N o158x8 B B) (N o222x8 B B)) (y76 P)))))))
noncomputable def o3x9 (P : Params) : Obj := dcO [E P "__name__" 165 (.str "law_wf0114_01" 2799), E P "__doc__" 166 .none, E P "__package__" 167 .none, E P "__loader__" 168 (.builtin "__main__.__loader__#opaque"), E P "__spec__" 169 .none, E P "__annotations__" 170 (.ref 6), E P "__builtins__" 171 (.ref 4), E P "__file__" 173 (.str "/claim/cut.py" 172), E P "__cached__" 174 .none, E P "_sre" 275 (.ref 12), E P "_wall" 288 (.ref 38), E P "COMPILER_FLAG_NAMES" 321 (.ref 39), E P "pretty_flags" 331 (.ref 46), E P "b1_set" 393 (.ref 54), E P "in_table_b1" 400 (.ref 64), E P "b3_exceptions" 2351 (.ref 65), E P "map_table_b3" 2359 (.ref 110), E P "ENDMARKER" 2363 (.int 0 2362), E P "LPAR" 2365 (.int 7 2364), E P "RPAR" 2367 (.int 8 2366), E P "LSQB" 2369 (.int 9 2368), E P "RSQB" 2371 (.int 10 2370), E P "COLON" 2373 (.int 11 2372), E P "COMMA" 2375 (.int 12 2374), E P "SEMI" 2377 (.int 13 2376), E P "PLUS" 2379 (.int 14 2378), E P "MINUS" 2381 (.int 15 2380), E P "STAR" 2383 (.int 16 2382), E P "SLASH" 2385 (.int 17 2384), E P "VBAR" 2387 (.int 18 2386), E P "AMPER" 2389 (.int 19 2388), E P "LESS" 2391 (.int 20 2390), E P "GREATER" 2393 (.int 21 2392), E P "EQUAL" 2395 (.int 22 2394), E P "DOT" 2397 (.int 23 2396), E P "PERCENT" 2399 (.int 24 2398), E P "LBRACE" 2401 (.int 25 2400), E P "RBRACE" 2403 (.int 26 2402), E P "EQEQUAL" 2405 (.int 27 2404), E P "NOTEQUAL" 2407 (.int 28 2406), E P "LESSEQUAL" 2409 (.int 29 2408), E P "GREATEREQUAL" 2411 (.int 30 2410), E P "TILDE" 2413 (.int 31 2412), E P "CIRCUMFLEX" 2415 (.int 32 2414), E P "LEFTSHIFT" 2417 (.int 33 2416), E P "RIGHTSHIFT" 2419 (.int 34 2418), E P "DOUBLESTAR" 2421 (.int 35 2420), E P "PLUSEQUAL" 2423 (.int 36 2422), E P "MINEQUAL" 2425 (.int 37 2424), E P "STAREQUAL" 2427 (.int 38 2426), E P "SLASHEQUAL" 2429 (.int 39 2428), E P "PERCENTEQUAL" 2431 (.int 40 2430), E P "AMPEREQUAL" 2433 (.int 41 2432), E P "VBAREQUAL" 2435 (.int 42 2434), E P "CIRCUMFLEXEQUAL" 2437 (.int 43 2436), E P "LEFTSHIFTEQUAL" 2439 (.int 44 2438), E P "RIGHTSHIFTEQUAL" 2441 (.int 45 2440), E P "DOUBLESTAREQUAL" 2443 (.int 46 2442), E P "DOUBLESLASH" 2445 (.int 47 2444), E P "DOUBLESLASHEQUAL" 2447 (.int 48 2446), E P "AT" 2449 (.int 49 2448), E P "ATEQUAL" 2451 (.int 50 2450), E P "RARROW" 2453 (.int 51 2452), E P "ELLIPSIS" 2455 (.int 52 2454), E P "COLONEQUAL" 2457 (.int 53 2456), E P "EXCLAMATION" 2459 (.int 54 2458), E P "NT_OFFSET" 2461 (.int 256 2460), E P "EXACT_TOKEN_TYPES" 2558 (.ref 111), E P "ISTERMINAL" 2565 (.ref 120), E P "ISNONTERMINAL" 2572 (.ref 127), E P "ISEOF" 2579 (.ref 134), E P "_name_disallowed_re" 2607 (.ref 139), E P "_value_disallowed_re" 2641 (.ref 144), E P "Headers" 2798 (.ref 267), E P "_law_formula" 2806 (.ref 276), E P "_law_text" 2817 (.ref 283), E P "_law_holds" 2823 (.ref 288), E P "_law_typed" 2829 (.ref 293), E P "_law_prepared" 2835 (.ref 298), E P "_law_cut" 2844 (.ref 305)] 80
noncomputable def o29x9 : Obj := flO [(.int 2 0), (.int 0 0), (.ref 37), (.int 7 0), (.int 0 0), (.ref 45), (.int 21 0), (.int 0 0), (.ref 63), (.int 24 0), (.int 0 0), (.ref 109), (.int 81 0), (.int 0 0), (.ref 119), (.int 83 0), (.int 0 0), (.ref 126), (.int 85 0), (.int 0 0), (.ref 133), (.int 90 0), (.int 0 0), (.ref 150), (.int 166 0), (.int 0 0), (.ref 275), (.int 176 0), (.int 0 0), (.ref 282), (.int 181 0), (.int 0 0), (.ref 287), (.int 204 0), (.int 0 0), (.ref 292), (.int 225 0), (.int 0 0), (.ref 297), (.int 227 0), (.int 0 0), (.ref 304)]
noncomputable def o274x9 : Obj := ⟨.none, none, (.func (Fn (fdAt 70) "_law_formula" "_law_formula" 0 .none .none .none .none none .none .none 0)), ⟨[]⟩⟩
noncomputable def o275x9 : Obj := cdO [(.str "_law_formula" 2801), (.str "_law_formula" 2802), (.str "/claim/cut.py" 2803), (.int 166 0), (.int 1 0), (.int 0 0), (.int 0 0), (.int 3 0), (.ref 272), (.bool true), (.int 276 0), (.ref 273), .none, .none, .none, (.ref 274), (.int 2804 0), (.int 166 0), (.str "/claim/cut.py" 2805)]
noncomputable def o276x9 : Obj := fnO (Fn (fdAt 70) "_law_formula" "_law_formula" 3 .none .none .none (.str "law_wf0114_01" 2799) none (.ref 275) .none 0)
noncomputable def o279x9 : Obj := tpO [(.str "part" 2810), (.str "turned" 2811), (.str "sign" 2812), (.str "left" 2813), (.str "right" 2814)]
noncomputable def o281x9 : Obj := ⟨.none, none, (.func (Fn (fdAt 71) "_law_text" "_law_text" 0 .none .none .none .none none .none .none 0)), ⟨[]⟩⟩
noncomputable def o282x9 : Obj := cdO [(.str "_law_text" 2807), (.str "_law_text" 2808), (.str "/claim/cut.py" 2809), (.int 176 0), (.int 1 0), (.int 0 0), (.int 0 0), (.int 3 0), (.ref 277), (.bool true), (.int 276 0), (.ref 278), .none, (.ref 279), (.ref 280), (.ref 281), (.int 2815 0), (.int 176 0), (.str "/claim/cut.py" 2816)]
noncomputable def o283x9 : Obj := fnO (Fn (fdAt 71) "_law_text" "_law_text" 3 .none .none .none (.str "law_wf0114_01" 2799) none (.ref 282) .none 0)
noncomputable def o286x9 : Obj := ⟨.none, none, (.func (Fn (fdAt 72) "_law_holds" "_law_holds" 0 .none .none .none .none none .none .none 0)), ⟨[]⟩⟩
noncomputable def o287x9 : Obj := cdO [(.str "_law_holds" 2818), (.str "_law_holds" 2819), (.str "/claim/cut.py" 2820), (.int 181 0), (.int 2 0), (.int 0 0), (.int 0 0), (.int 3 0), (.ref 284), (.bool true), (.int 276 0), (.ref 285), .none, .none, .none, (.ref 286), (.int 2821 0), (.int 181 0), (.str "/claim/cut.py" 2822)]
noncomputable def o288x9 : Obj := fnO (Fn (fdAt 72) "_law_holds" "_law_holds" 3 .none .none .none (.str "law_wf0114_01" 2799) none (.ref 287) .none 0)
noncomputable def o291x9 : Obj := ⟨.none, none, (.func (Fn (fdAt 73) "_law_typed" "_law_typed" 0 .none .none .none .none none .none .none 0)), ⟨[]⟩⟩
noncomputable def o292x9 : Obj := cdO [(.str "_law_typed" 2824), (.str "_law_typed" 2825), (.str "/claim/cut.py" 2826), (.int 204 0), (.int 3 0), (.int 0 0), (.int 0 0), (.int 3 0), (.ref 289), (.bool true), (.int 276 0), (.ref 290), .none, .none, .none, (.ref 291), (.int 2827 0), (.int 204 0), (.str "/claim/cut.py" 2828)]
noncomputable def o293x9 : Obj := fnO (Fn (fdAt 73) "_law_typed" "_law_typed" 3 .none .none .none (.str "law_wf0114_01" 2799) none (.ref 292) .none 0)
noncomputable def o296x9 : Obj := ⟨.none, none, (.func (Fn (fdAt 74) "_law_prepared" "_law_prepared" 0 .none .none .none .none none .none .none 0)), ⟨[]⟩⟩
noncomputable def o297x9 : Obj := cdO [(.str "_law_prepared" 2830), (.str "_law_prepared" 2831), (.str "/claim/cut.py" 2832), (.int 225 0), (.int 1 0), (.int 0 0), (.int 0 0), (.int 3 0), (.ref 294), (.bool true), (.int 276 0), (.ref 295), .none, .none, .none, (.ref 296), (.int 2833 0), (.int 225 0), (.str "/claim/cut.py" 2834)]
noncomputable def o298x9 : Obj := fnO (Fn (fdAt 74) "_law_prepared" "_law_prepared" 3 .none .none .none (.str "law_wf0114_01" 2799) none (.ref 297) .none 0)
noncomputable def o301x9 : Obj := tpO [(.str "text" 2839), (.str "row" 2840), (.str "size" 2841)]
noncomputable def o303x9 : Obj := ⟨.none, none, (.func (Fn (fdAt 75) "_law_cut" "_law_cut" 0 .none .none .none .none none .none .none 0)), ⟨[]⟩⟩
noncomputable def o304x9 : Obj := cdO [(.str "_law_cut" 2836), (.str "_law_cut" 2837), (.str "/claim/cut.py" 2838), (.int 227 0), (.int 1 0), (.int 0 0), (.int 0 0), (.int 3 0), (.ref 299), (.bool true), (.int 276 0), (.ref 300), .none, (.ref 301), (.ref 302), (.ref 303), (.int 2842 0), (.int 227 0), (.str "/claim/cut.py" 2843)]
noncomputable def o305x9 : Obj := fnO (Fn (fdAt 75) "_law_cut" "_law_cut" 3 .none .none .none (.str "law_wf0114_01" 2799) none (.ref 304) .none 0)
noncomputable def y77 (P : Params) : BT := N o95x3 (N o159x8 (N o287x9 B B) B) (N o223x8 B B)
noncomputable def y78 (P : Params) : BT := N (o111x6 P) (N o8s (N o303x9 B B) B) (N o7s B B)
noncomputable def y79 (P : Params) : BT := N o103x3 (N o7s (N o8s B B) B) (N o231x8 B B)
noncomputable def y80 (P : Params) : BT := N o87x3 (N o151x8 (N o279x9 B B) B) (N o7s B B)
noncomputable def y81 (P : Params) : BT := N o99x3 (N o7s (N o291x9 B B) B) (N o227x8 B B)
noncomputable def y82 (P : Params) : BT := N o83x3 (N (o147x8 P) (N o275x9 B B) B) (N o7s B B)
noncomputable def y83 (P : Params) : BT := N o7s (N o171x8 (N o7s B B) B) (N o7s B B)
noncomputable def y84 (P : Params) : BT := N o91x3 (N o155x8 (N o283x9 B B) B) (N o219x8 B B)
noncomputable def y85 (P : Params) : BT := N o97x3 (N o8s (N o7s B B) B) (N o7s B B)
noncomputable def y86 (P : Params) : BT := N (o113x6 P) (N o7s (N o305x9 B B) B) (N o241x8 B B)
noncomputable def y87 (P : Params) : BT := N o8s (N o169x8 (N o297x9 B B) B) (N o8s B B)
noncomputable def y88 (P : Params) : BT := N o89x3 (N o7s (N o281x9 B B) B) (N o217x8 B B)
noncomputable def y89 (P : Params) : BT := N o101x3 (N o165x8 (N o293x9 B B) B) (N o229x8 B B)
noncomputable def y90 (P : Params) : BT := N o85x3 (N o149x8 (N o7s B B) B) (N o213x8 B B)
noncomputable def y91 (P : Params) : BT := N o109x4 (N o173x8 (N o301x9 B B) B) (N o237x8 B B)
noncomputable def y92 (P : Params) : BT := N o93x3 (N o157x8 (N o8s B B) B) (N o8s B B)
noncomputable def y93 (P : Params) : BT := N o96x3 (N o7s (N o288x9 B B) B) (N o224x8 B B)
noncomputable def y94 (P : Params) : BT := N (o112x6 P) (N o176x8 (N o304x9 B B) B) (N o8s B B)
noncomputable def y95 (P : Params) : BT := N o7s (N o8s (N o296x9 B B) B) (N o7s B B)
noncomputable def y96 (P : Params) : BT := N o88x3 (N o137x7 (N o7s B B) B) (N o8s B B)
noncomputable def y97 (P : Params) : BT := N o100x3 (N o164x8 (N o292x9 B B) B) (N o7s B B)
noncomputable def y98 (P : Params) : BT := N o84x3 (N o7s (N o276x9 B B) B) (N o212x8 B B)
noncomputable def y99 (P : Params) : BT := N o108x4 (N o172x8 (N o8s B B) B) (N o236x8 B B)
noncomputable def y100 (P : Params) : BT := N o92x3 (N o7s (N o7s B B) B) (N o7s B B)
noncomputable def y101 (P : Params) : BT := N o98x3 (N o162x8 (N o8s B B) B) (N o8s B B)
noncomputable def y102 (P : Params) : BT := N o82x3 (N o146x8 (N o274x9 B B) B) (N o210x8 B B)
noncomputable def y103 (P : Params) : BT := N o106x4 (N o7s (N o298x9 B B) B) (N o234x8 B B)
noncomputable def y104 (P : Params) : BT := N o90x3 (N o8s (N o282x9 B B) B) (N o218x8 B B)
noncomputable def y105 (P : Params) : BT := N o102x3 (N o166x8 (N o7s B B) B) (N o230x8 B B)
noncomputable def y106 (P : Params) : BT := N o86x3 (N o150x8 (N o8s B B) B) (N o214x8 B B)
noncomputable def y107 (P : Params) : BT := N o110x4 (N o7s (N o7s B B) B) (N o238x8 B B)
noncomputable def y108 (P : Params) : BT := N o94x3 (N o158x8 (N o286x9 B B) B) (N o222x8 B B)
noncomputable def tx9 (P : Params) : BT := (N (o0s P) (N (o1s P) (N (o3x9 P) (N o7s (N o7s (N o31a (y38 P) (y77 P)) (N o47x1 (y40 P) (y78 P))) (N o23s (N o39x0 (y42 P) (y79 P)) (N o55x1 (y80 P) (y43 P)))) (N (o11s P) (N o19s (N o7s (y44 P) (y81 P)) (N o7s (y82 P) (y45 P))) (N o27s (N o7s (y47 P) (y83 P)) (N o8s (y84 P) (y48 P))))) (N o5s (N o9s (N o17s (N o8s (y49 P) (y85 P)) (N o49x1 (N o81x3 (N o7s (N o8s B B) B) (N o8s B B)) (y86 P))) (N o25s (N o8s (y51 P) (y87 P)) (N o57x1 (y88 P) (y52 P)))) (N (o13s P) (N (o21s P) (N o37x0 (y53 P) (y89 P)) (N o53x1 (y90 P) (y54 P))) (N o29x9 (N o45x0 (y55 P) (y91 P)) (N o7s (y92 P) (y56 P)))))) (N (o2s P) (N o4s (N o8s (N o16s (N o7s (y57 P) (y93 P)) (N o48x1 (N o80x3 (N o144x7 (N o7s B B) B) (N o7s B B)) (y94 P))) (N o24s (N o7s (y58 P) (y95 P)) (N o7s (y96 P) (y59 P)))) (N o12s (N (o20s P) (N o36x0 (y61 P) (y97 P)) (N o52x1 (y98 P) (y62 P))) (N o7s (N o44x0 (y64 P) (y99 P)) (N o60x2 (y100 P) (y65 P))))) (N o6s (N o10s (N o18s (N o34x0 (y66 P) (y101 P)) (N o50x1 (y102 P) (y67 P))) (N o26s (N o42x0 (y69 P) (y103 P)) (N o7s (y104 P) (y70 P)))) (N o14s (N o22s (N o38x0 (y72 P) (y105 P)) (N (o54x1 P) (y106 P) (y73 P))) (N o30a (N o46x0 (y75 P) (y107 P)) (N o62x2 (y108 P) (y76 P)))))))
noncomputable def o3x10 (P : Params) : Obj := dcO [E P "__name__" 165 (.str "law_wf0114_01" 2799), E P "__doc__" 166 .none, E P "__package__" 167 .none, E P "__loader__" 168 (.builtin "__main__.__loader__#opaque"), E P "__spec__" 169 .none, E P "__annotations__" 170 (.ref 6), E P "__builtins__" 171 (.ref 4), E P "__file__" 173 (.str "/claim/cut.py" 172), E P "__cached__" 174 .none, E P "_sre" 275 (.ref 12), E P "_wall" 288 (.ref 38), E P "COMPILER_FLAG_NAMES" 321 (.ref 39), E P "pretty_flags" 331 (.ref 46), E P "b1_set" 393 (.ref 54), E P "in_table_b1" 400 (.ref 64), E P "b3_exceptions" 2351 (.ref 65), E P "map_table_b3" 2359 (.ref 110), E P "ENDMARKER" 2363 (.int 0 2362), E P "LPAR" 2365 (.int 7 2364), E P "RPAR" 2367 (.int 8 2366), E P "LSQB" 2369 (.int 9 2368), E P "RSQB" 2371 (.int 10 2370), E P "COLON" 2373 (.int 11 2372), E P "COMMA" 2375 (.int 12 2374), E P "SEMI" 2377 (.int 13 2376), E P "PLUS" 2379 (.int 14 2378), E P "MINUS" 2381 (.int 15 2380), E P "STAR" 2383 (.int 16 2382), E P "SLASH" 2385 (.int 17 2384), E P "VBAR" 2387 (.int 18 2386), E P "AMPER" 2389 (.int 19 2388), E P "LESS" 2391 (.int 20 2390), E P "GREATER" 2393 (.int 21 2392), E P "EQUAL" 2395 (.int 22 2394), E P "DOT" 2397 (.int 23 2396), E P "PERCENT" 2399 (.int 24 2398), E P "LBRACE" 2401 (.int 25 2400), E P "RBRACE" 2403 (.int 26 2402), E P "EQEQUAL" 2405 (.int 27 2404), E P "NOTEQUAL" 2407 (.int 28 2406), E P "LESSEQUAL" 2409 (.int 29 2408), E P "GREATEREQUAL" 2411 (.int 30 2410), E P "TILDE" 2413 (.int 31 2412), E P "CIRCUMFLEX" 2415 (.int 32 2414), E P "LEFTSHIFT" 2417 (.int 33 2416), E P "RIGHTSHIFT" 2419 (.int 34 2418), E P "DOUBLESTAR" 2421 (.int 35 2420), E P "PLUSEQUAL" 2423 (.int 36 2422), E P "MINEQUAL" 2425 (.int 37 2424), E P "STAREQUAL" 2427 (.int 38 2426), E P "SLASHEQUAL" 2429 (.int 39 2428), E P "PERCENTEQUAL" 2431 (.int 40 2430), E P "AMPEREQUAL" 2433 (.int 41 2432), E P "VBAREQUAL" 2435 (.int 42 2434), E P "CIRCUMFLEXEQUAL" 2437 (.int 43 2436), E P "LEFTSHIFTEQUAL" 2439 (.int 44 2438), E P "RIGHTSHIFTEQUAL" 2441 (.int 45 2440), E P "DOUBLESTAREQUAL" 2443 (.int 46 2442), E P "DOUBLESLASH" 2445 (.int 47 2444), E P "DOUBLESLASHEQUAL" 2447 (.int 48 2446), E P "AT" 2449 (.int 49 2448), E P "ATEQUAL" 2451 (.int 50 2450), E P "RARROW" 2453 (.int 51 2452), E P "ELLIPSIS" 2455 (.int 52 2454), E P "COLONEQUAL" 2457 (.int 53 2456), E P "EXCLAMATION" 2459 (.int 54 2458), E P "NT_OFFSET" 2461 (.int 256 2460), E P "EXACT_TOKEN_TYPES" 2558 (.ref 111), E P "ISTERMINAL" 2565 (.ref 120), E P "ISNONTERMINAL" 2572 (.ref 127), E P "ISEOF" 2579 (.ref 134), E P "_name_disallowed_re" 2607 (.ref 139), E P "_value_disallowed_re" 2641 (.ref 144), E P "Headers" 2798 (.ref 267), E P "_law_formula" 2806 (.ref 276), E P "_law_text" 2817 (.ref 283), E P "_law_holds" 2823 (.ref 288), E P "_law_typed" 2829 (.ref 293), E P "_law_prepared" 2835 (.ref 298), E P "_law_cut" 2844 (.ref 305), E P "_law_sets" 2850 (.ref 310), E P "_law_multiplied_out" 2856 (.ref 315), E P "_law_table" 2867 (.ref 322), E P "_law_places" 2873 (.ref 327), E P "_law_due" 2879 (.ref 332), E P "law" 2885 (.ref 337)] 86
noncomputable def o29x10 : Obj := flO [(.int 2 0), (.int 0 0), (.ref 37), (.int 7 0), (.int 0 0), (.ref 45), (.int 21 0), (.int 0 0), (.ref 63), (.int 24 0), (.int 0 0), (.ref 109), (.int 81 0), (.int 0 0), (.ref 119), (.int 83 0), (.int 0 0), (.ref 126), (.int 85 0), (.int 0 0), (.ref 133), (.int 90 0), (.int 0 0), (.ref 150), (.int 166 0), (.int 0 0), (.ref 275), (.int 176 0), (.int 0 0), (.ref 282), (.int 181 0), (.int 0 0), (.ref 287), (.int 204 0), (.int 0 0), (.ref 292), (.int 225 0), (.int 0 0), (.ref 297), (.int 227 0), (.int 0 0), (.ref 304), (.int 236 0), (.int 0 0), (.ref 309), (.int 240 0), (.int 0 0), (.ref 314), (.int 265 0), (.int 0 0), (.ref 321), (.int 276 0), (.int 0 0), (.ref 326), (.int 281 0), (.int 0 0), (.ref 331), (.int 290 0), (.int 0 0), (.ref 336)]
noncomputable def o308x10 : Obj := ⟨.none, none, (.func (Fn (fdAt 76) "_law_sets" "_law_sets" 0 .none .none .none .none none .none .none 0)), ⟨[]⟩⟩
noncomputable def o309x10 : Obj := cdO [(.str "_law_sets" 2845), (.str "_law_sets" 2846), (.str "/claim/cut.py" 2847), (.int 236 0), (.int 3 0), (.int 0 0), (.int 0 0), (.int 3 0), (.ref 306), (.bool true), (.int 276 0), (.ref 307), .none, .none, .none, (.ref 308), (.int 2848 0), (.int 236 0), (.str "/claim/cut.py" 2849)]
noncomputable def o310x10 : Obj := fnO (Fn (fdAt 76) "_law_sets" "_law_sets" 3 .none .none .none (.str "law_wf0114_01" 2799) none (.ref 309) .none 0)
noncomputable def o313x10 : Obj := ⟨.none, none, (.func (Fn (fdAt 77) "_law_multiplied_out" "_law_multiplied_out" 0 .none .none .none .none none .none .none 0)), ⟨[]⟩⟩
noncomputable def o314x10 : Obj := cdO [(.str "_law_multiplied_out" 2851), (.str "_law_multiplied_out" 2852), (.str "/claim/cut.py" 2853), (.int 240 0), (.int 2 0), (.int 0 0), (.int 0 0), (.int 3 0), (.ref 311), (.bool true), (.int 276 0), (.ref 312), .none, .none, .none, (.ref 313), (.int 2854 0), (.int 240 0), (.str "/claim/cut.py" 2855)]
noncomputable def o315x10 : Obj := fnO (Fn (fdAt 77) "_law_multiplied_out" "_law_multiplied_out" 3 .none .none .none (.str "law_wf0114_01" 2799) none (.ref 314) .none 0)
noncomputable def o318x10 : Obj := tpO [(.str "sets" 2860), (.str "table" 2861), (.str "turn" 2862), (.str "one" 2863), (.str "name" 2864)]
noncomputable def o320x10 : Obj := ⟨.none, none, (.func (Fn (fdAt 78) "_law_table" "_law_table" 0 .none .none .none .none none .none .none 0)), ⟨[]⟩⟩
noncomputable def o321x10 : Obj := cdO [(.str "_law_table" 2857), (.str "_law_table" 2858), (.str "/claim/cut.py" 2859), (.int 265 0), (.int 1 0), (.int 0 0), (.int 0 0), (.int 3 0), (.ref 316), (.bool true), (.int 276 0), (.ref 317), .none, (.ref 318), (.ref 319), (.ref 320), (.int 2865 0), (.int 265 0), (.str "/claim/cut.py" 2866)]
noncomputable def o322x10 : Obj := fnO (Fn (fdAt 78) "_law_table" "_law_table" 3 .none .none .none (.str "law_wf0114_01" 2799) none (.ref 321) .none 0)
noncomputable def o325x10 : Obj := ⟨.none, none, (.func (Fn (fdAt 79) "_law_places" "_law_places" 0 .none .none .none .none none .none .none 0)), ⟨[]⟩⟩
noncomputable def o326x10 : Obj := cdO [(.str "_law_places" 2868), (.str "_law_places" 2869), (.str "/claim/cut.py" 2870), (.int 276 0), (.int 1 0), (.int 0 0), (.int 0 0), (.int 3 0), (.ref 323), (.bool true), (.int 276 0), (.ref 324), .none, .none, .none, (.ref 325), (.int 2871 0), (.int 276 0), (.str "/claim/cut.py" 2872)]
noncomputable def o327x10 : Obj := fnO (Fn (fdAt 79) "_law_places" "_law_places" 3 .none .none .none (.str "law_wf0114_01" 2799) none (.ref 326) .none 0)
noncomputable def o330x10 : Obj := ⟨.none, none, (.func (Fn (fdAt 80) "_law_due" "_law_due" 0 .none .none .none .none none .none .none 0)), ⟨[]⟩⟩
noncomputable def o331x10 : Obj := cdO [(.str "_law_due" 2874), (.str "_law_due" 2875), (.str "/claim/cut.py" 2876), (.int 281 0), (.int 2 0), (.int 0 0), (.int 0 0), (.int 3 0), (.ref 328), (.bool true), (.int 276 0), (.ref 329), .none, .none, .none, (.ref 330), (.int 2877 0), (.int 281 0), (.str "/claim/cut.py" 2878)]
noncomputable def o332x10 : Obj := fnO (Fn (fdAt 80) "_law_due" "_law_due" 3 .none .none .none (.str "law_wf0114_01" 2799) none (.ref 331) .none 0)
noncomputable def o335x10 : Obj := ⟨.none, none, (.func (Fn (fdAt 81) "law" "law" 0 .none .none .none .none none .none .none 0)), ⟨[]⟩⟩
noncomputable def o336x10 : Obj := cdO [(.str "law" 2880), (.str "law" 2881), (.str "/claim/cut.py" 2882), (.int 290 0), (.int 1 0), (.int 0 0), (.int 0 0), (.int 3 0), (.ref 333), (.bool true), (.int 276 0), (.ref 334), .none, .none, .none, (.ref 335), (.int 2883 0), (.int 290 0), (.str "/claim/cut.py" 2884)]
noncomputable def o337x10 : Obj := fnO (Fn (fdAt 81) "law" "law" 3 .none .none .none (.str "law_wf0114_01" 2799) none (.ref 336) .none 0)
noncomputable def tx10 (P : Params) : BT := (N (o0s P) (N (o1s P) (N (o3x10 P) (N o7s (N o7s (N o31a (N o63x2 (y37 P) (N o191x8 (N o7s B B) B)) (y77 P)) (N o47x1 (N o79x3 (y39 P) (N o137x7 (N o335x10 B B) B)) (y78 P))) (N o23s (N o39x0 (N o71x3 (y41 P) (N o199x8 (N o327x10 B B) B)) (y79 P)) (N o55x1 (y80 P) (N o119x7 (N o183x8 (N o7s B B) B) (N o7s B B))))) (N (o11s P) (N o19s (N o7s (N o67x3 (N o7s (N o8s B B) B) (N o195x8 (N o7s B B) B)) (y81 P)) (N o7s (y82 P) (N o8s (N o179x8 (N o8s B B) B) (N o243x8 B B)))) (N o27s (N o7s (N o75x3 (y46 P) (N o7s (N o331x10 B B) B)) (y83 P)) (N o8s (y84 P) (N o123x7 (N o8s (N o315x10 B B) B) (N o7s B B)))))) (N o5s (N o9s (N o17s (N o8s (N o65x3 (N o8s (N o257x8 B B) B) (N o7s (N o321x10 B B) B)) (y85 P)) (N o49x1 (N o81x3 (N o7s (N o8s B B) B) (N o8s (N o337x10 B B) B)) (y86 P))) (N o25s (N o8s (N o73x3 (y50 P) (N o8s (N o8s B B) B)) (y87 P)) (N o57x1 (y88 P) (N o7s (N o185x8 (N o313x10 B B) B) (N o249x8 B B))))) (N (o13s P) (N (o21s P) (N o37x0 (N o69x3 (N o133x7 (N o7s B B) B) (N o197x8 (N o325x10 B B) B)) (y89 P)) (N o53x1 (y90 P) (N o7s (N o7s (N o309x10 B B) B) (N o8s B B)))) (N o29x10 (N o45x0 (N o77x3 (N o6s (N o269x8 B B) B) (N o205x8 (N o7s B B) B)) (y91 P)) (N o7s (y92 P) (N o125x7 (N o7s (N o8s B B) B) (N o253x8 B B))))))) (N (o2s P) (N o4s (N o8s (N o16s (N o7s (N o64x2 (N o7s (N o256x8 B B) B) (N o192x8 (N o320x10 B B) B)) (y93 P)) (N o48x1 (N o80x3 (N o144x7 (N o7s B B) B) (N o7s (N o336x10 B B) B)) (y94 P))) (N o24s (N o7s (N o72x3 (N o6s (N o264x8 B B) B) (N o7s (N o7s B B) B)) (y95 P)) (N o7s (y96 P) (N o120x7 (N o184x8 (N o8s B B) B) (N o248x8 B B))))) (N o12s (N (o20s P) (N o36x0 (N o68x3 (y60 P) (N o7s (N o8s B B) B)) (y97 P)) (N o52x1 (y98 P) (N o116x7 (N o180x8 (N o308x10 B B) B) (N o7s B B)))) (N o7s (N o44x0 (N o76x3 (y63 P) (N o204x8 (N o332x10 B B) B)) (y99 P)) (N o60x2 (y100 P) (N o7s (N o188x8 (N o7s B B) B) (N o8s B B)))))) (N o6s (N o10s (N o18s (N o34x0 (N o66x3 (N o130x7 (N o7s B B) B) (N o8s (N o322x10 B B) B)) (y101 P)) (N o50x1 (y102 P) (N o7s (N o178x8 (N o7s B B) B) (N o242x8 B B)))) (N o26s (N o42x0 (N o74x3 (y68 P) (N o202x8 (N o330x10 B B) B)) (y103 P)) (N o7s (y104 P) (N o8s (N o7s (N o314x10 B B) B) (N o250x8 B B))))) (N o14s (N o22s (N o38x0 (N o70x3 (y71 P) (N o198x8 (N o326x10 B B) B)) (y105 P)) (N (o54x1 P) (y106 P) (N o118x7 (N o8s (N o310x10 B B) B) (N o246x8 B B)))) (N o30a (N o46x0 (N o78x3 (y74 P) (N o206x8 (N o8s B B) B)) (y107 P)) (N o62x2 (y108 P) (N o126x7 (N o190x8 (N o318x10 B B) B) (N o7s B B))))))))
noncomputable def env : Env := { scope := Challenge.pw_wf0114_01.main.scope, locals := mainNs, globals := mainNs, cells := [], code := .ref 30, frame := some 31 }
noncomputable def body : List Stmt := behindTheImports Challenge.pw_wf0114_01
noncomputable def code : Code := .body body env
noncomputable def life : Life := {}
noncomputable def ST (t : Params -> BT) (n toks : Nat) (w : World) (os : OsState) : SharedT := ⟨t w.params, n, life, ⟨[]⟩, {}, toks, os⟩
noncomputable def sts (i n : Nat) : List Stmt := (body.drop i).take n
noncomputable abbrev pw := Challenge.pw_wf0114_01
noncomputable abbrev B0 : List Frame := [topFrame ⟨0, 0, 0, 0⟩]
noncomputable abbrev SG (w : World) (n : Nat) (s : Shared) (t : Thread) : Option (Shared × Thread) := segGo treeTable pw w 28 (some (.ref 6)) 1 n s t
noncomputable def G {α : Type} (w : World) (n : Nat) (t : Sem α) (s : Shared) (p : Pos) (a : α) (s' : Shared) (p' : Pos) : Prop :=
 ∀ (K : α -> Sem Fin) (H : Value -> Sem Fin) (gd : Bool -> Bool) (lv : List Value -> List Value),
  SG w n s ⟨t.wrap K H gd lv, code, p, B0⟩ = some (s', ⟨K a, code, p', B0⟩)
section
variable {α β : Type} {w : World}
theorem sg_add : ∀ {n m : Nat} {s s' : Shared} {t t' : Thread} {r : Option (Shared × Thread)}, SG w n s t = some (s', t') -> SG w m s' t' = r -> SG w (n + m) s t = r
 | 0, m, s, s', t, t', r, h, k => by
  obtain ⟨rfl, rfl⟩ : s = s' /\ t = t' := by simpa [SG, segGo] using h
  rw [Nat.zero_add]; exact k
 | n + 1, m, s, s', t, t', r, h, k => by
  rw [show n + 1 + m = n + m + 1 by lia]
  unfold SG segGo at h ⊢
  cases he : endAt 1 t with
  | some f => rw [he] at h; cases h
  | none =>
   rw [he] at h
   cases hk : stepOk 28 (some (.ref 6)) t with
   | false => rw [hk] at h; cases h
   | true =>
    rw [hk] at h
    cases hs : step (denote treeTable) pw w s t with
    | halt o s₂ => rw [hs] at h; cases h
    | go s₂ t₂ => rw [hs] at h; exact sg_add h k
theorem G.pure {s : Shared} {p : Pos} {a : α} : G w 0 (Sem.pure a) s p a s p := fun _ _ _ _ => rfl
theorem G.pure' {s : Shared} {p : Pos} {a : α} : G w 0 (Pure.pure a : Sem α) s p a s p := fun _ _ _ _ => rfl
theorem G.bind {m : Sem α} {f : α -> Sem β} {n n' : Nat} {s s' s'' : Shared} {p p' p'' : Pos} {a : α} {b : β} (h : G w n m s p a s' p') (k : G w n' (f a) s' p' b s'' p'') :
  G w (n + n') (m >>= f) s p b s'' p'' := fun K H gd lv => by
 rw [Sem.bind_eq_wrap', Sem.wrap_wrap]
 exact sg_add (h _ _ _ _) (k K H gd lv)
theorem G.keep {vs : List Value} {m : Sem α} {n : Nat} {s s' : Shared} {p p' : Pos} {a : α} (h : G w n m s p a s' p') : G w n (m.keep vs) s p a s' p' := fun K H gd lv => by
 rw [Sem.keep_eq_wrap, Sem.wrap_wrap]
 exact h _ _ _ _
theorem G.holding {vs : List Value} {m : Sem α} {n : Nat} {s s' : Shared} {p p' : Pos} {a : α} (h : G w n m s p a s' p') : G w n (holding vs m) s p a s' p' := by
 unfold PySem.holding
 split
 ·exact h
 ·exact h.keep
theorem G.onRaise {k : Value -> Sem Unit} {m : Sem α} {n : Nat} {s s' : Shared} {p p' : Pos} {a : α} (h : G w n m s p a s' p') : G w n (m.onRaise k) s p a s' p' := fun K H gd lv => by
 rw [Sem.onRaise_eq_wrap, Sem.wrap_wrap]
 exact h _ _ _ _
theorem G.rule {tag : String} {s : Shared} {p : Pos} : G w 1 (PySem.rule tag) s p () s p := fun _ _ _ _ => by obtain ⟨hp, g, d, t, os⟩ := s; rfl
theorem G.at {q : Pos} {s : Shared} {p : Pos} : G w 1 (standAt q) s p () s q := fun _ _ _ _ => by obtain ⟨hp, g, d, t, os⟩ := s; rfl
theorem G.fresh {s : Shared} {p : Pos} : G w 1 PySem.fresh s p s.toks { s with toks := s.toks + 1 } p := fun _ _ _ _ => by obtain ⟨hp, g, d, t, os⟩ := s; rfl
theorem G.alloc {o : Obj} {s : Shared} {p : Pos} : G w 1 (PySem.alloc o) s p s.heap.objs.size { s with heap := s.heap.push o } p := fun _ _ _ _ => by obtain ⟨hp, g, d, t, os⟩ := s; rfl
theorem G.ask {s : Shared} {p : Pos} : G w 1 PySem.ask s p ⟨pw, w.params⟩ s p := fun _ _ _ _ => by obtain ⟨hp, g, d, t, os⟩ := s; rfl
theorem G.load {a : Addr} {part : Option Value} {o : Obj} {s : Shared} {p : Pos} (h : s.heap.get? a = some o) : G w 1 (loadPart a part) s p o s p := fun K H gd lv => by
 obtain ⟨hp, g, d, t, os⟩ := s
 have h' : hp.get? a = some o := h
 show (match (match hp.get? a with
  | some o => Step.go ⟨hp, g, d, t, os⟩ ⟨K o, code, p, B0⟩
  | none => .halt (.stuck (if a < hp.objs.size then "load: the object has been freed" else "load: no object at this address")) ⟨hp, g, d, t, os⟩) with
    | .go s' t' => segGo treeTable pw w 28 (some (.ref 6)) 1 0 s' t'
    | .halt _ _ => none) = _
 rw [h']; rfl
theorem G.update {a : Addr} {part : Option Value} {f : Obj -> Obj} {o : Obj} {s : Shared} {p : Pos} (h : s.heap.get? a = some o) (ha : Nat.ble 28 a = true) : G w 1 (updatePart a part f) s p () { s with heap := s.heap.update a f } p := fun K H gd lv => by
 obtain ⟨hp, g, d, t, os⟩ := s
 have h' : (hp.get? a).isSome = true := by rw [show hp.get? a = some o from h]; rfl
 have hk : stepOk 28 (some (.ref 6)) ⟨(updatePart a part f).wrap K H gd lv, code, p, B0⟩ = true := by
  show (true && (Nat.ble 28 a || a == mainNs || a == cStatics || some (Value.ref 6) == some (.ref a))) = true
  rw [ha]; rfl
 show (match stepOk 28 (some (.ref 6)) ⟨(updatePart a part f).wrap K H gd lv, code, p, B0⟩ with
   | false => none
   | true => match (if (hp.get? a).isSome then Step.go ⟨hp.update a f, g, d, t, os⟩ ⟨K (), code, p, B0⟩ else .halt (.stuck "update: no object at this address, or it has been freed") ⟨hp, g, d, t, os⟩) with
    | .go s' t' => segGo treeTable pw w 28 (some (.ref 6)) 1 0 s' t'
    | .halt _ _ => none) = _
 rw [hk, if_pos h']; rfl
end
noncomputable def k3 (P : Params) : Obj := o3x10 P
noncomputable def k39 (P : Params) : Obj := o39x0
noncomputable def k54 (P : Params) : Obj := o54x1 P
noncomputable def k65 (P : Params) : Obj := ⟨.type "dict", none, .dict ⟨b3es⟩ 650, ⟨[]⟩⟩
noncomputable def k111 (P : Params) : Obj := o111x6 P
noncomputable def k139 (P : Params) : Obj := ⟨(.type "re.Pattern"), none, (.fields ⟨[(.str (Z [91, 92, 120, 48, 48, 45, 92, 120, 49, 70, 92, 120, 55, 70, 93]) 2583), (.int 32 2606), (.int 0 0), .none, .none, (.ref 138), (.int 0 0)]⟩), ⟨[]⟩⟩
noncomputable def k144 (P : Params) : Obj := ⟨(.type "re.Pattern"), none, (.fields ⟨[(.str (Z [91, 92, 120, 48, 48, 45, 92, 120, 48, 56, 92, 120, 48, 65, 45, 92, 120, 49, 70, 92, 120, 55, 70, 93]) 2609), (.int 32 2640), (.int 0 0), .none, .none, (.ref 143), (.int 0 0)]⟩), ⟨[]⟩⟩
noncomputable def K (P : Params) : Frag := [(nat_lit 2, o2s P), (nat_lit 3, k3 P), (nat_lit 32, o7s), (nat_lit 34, o34x0), (nat_lit 35, o7s), (nat_lit 37, o37x0), (nat_lit 38, o38x0), (nat_lit 39, k39 P), (nat_lit 40, o7s), (nat_lit 42, o42x0), (nat_lit 43, o7s), (nat_lit 45, o45x0), (nat_lit 46, o46x0), (nat_lit 54, k54 P), (nat_lit 58, o7s), (nat_lit 60, o60x2), (nat_lit 61, o7s), (nat_lit 63, o63x2), (nat_lit 64, o64x2), (nat_lit 65, k65 P), (nat_lit 104, o7s), (nat_lit 106, o106x4), (nat_lit 107, o7s), (nat_lit 109, o109x4), (nat_lit 110, o110x4), (nat_lit 111, k111 P), (nat_lit 114, o7s), (nat_lit 116, o116x7), (nat_lit 117, o7s), (nat_lit 119, o119x7), (nat_lit 120, o120x7), (nat_lit 121, o7s), (nat_lit 123, o123x7), (nat_lit 124, o7s), (nat_lit 126, o126x7), (nat_lit 127, o127x7), (nat_lit 128, o7s), (nat_lit 130, o130x7), (nat_lit 131, o7s), (nat_lit 133, o133x7), (nat_lit 134, o134x7), (nat_lit 138, o138x7), (nat_lit 139, k139 P), (nat_lit 143, o143x7), (nat_lit 144, k144 P), (nat_lit 152, o137x7), (nat_lit 153, o7s), (nat_lit 155, o155x8), (nat_lit 156, o7s), (nat_lit 158, o158x8), (nat_lit 159, o159x8), (nat_lit 160, o7s), (nat_lit 162, o162x8), (nat_lit 163, o7s), (nat_lit 165, o165x8), (nat_lit 166, o166x8), (nat_lit 167, o7s), (nat_lit 169, o169x8), (nat_lit 170, o7s), (nat_lit 172, o172x8), (nat_lit 173, o173x8), (nat_lit 174, o7s), (nat_lit 176, o176x8), (nat_lit 177, o7s), (nat_lit 179, o179x8), (nat_lit 180, o180x8), (nat_lit 181, o7s), (nat_lit 184, o184x8), (nat_lit 185, o185x8), (nat_lit 186, o7s), (nat_lit 188, o188x8), (nat_lit 189, o7s), (nat_lit 191, o191x8), (nat_lit 192, o192x8), (nat_lit 193, o7s), (nat_lit 195, o195x8), (nat_lit 196, o7s), (nat_lit 198, o198x8), (nat_lit 199, o199x8), (nat_lit 200, o7s), (nat_lit 202, o202x8), (nat_lit 203, o7s), (nat_lit 205, o205x8), (nat_lit 206, o206x8), (nat_lit 207, o137x7), (nat_lit 208, o7s), (nat_lit 210, o210x8), (nat_lit 211, o7s), (nat_lit 213, o213x8), (nat_lit 214, o214x8), (nat_lit 215, o7s), (nat_lit 218, o218x8), (nat_lit 219, o219x8), (nat_lit 220, o7s), (nat_lit 223, o223x8), (nat_lit 224, o224x8), (nat_lit 225, o7s), (nat_lit 227, o227x8), (nat_lit 228, o7s), (nat_lit 230, o230x8), (nat_lit 231, o231x8), (nat_lit 232, o7s), (nat_lit 234, o234x8), (nat_lit 235, o7s), (nat_lit 237, o237x8), (nat_lit 238, o238x8), (nat_lit 239, o7s), (nat_lit 242, o242x8), (nat_lit 243, o243x8), (nat_lit 244, o7s), (nat_lit 246, o246x8), (nat_lit 247, o7s), (nat_lit 249, o249x8), (nat_lit 250, o250x8), (nat_lit 251, o7s), (nat_lit 253, o253x8), (nat_lit 254, o7s), (nat_lit 256, o256x8), (nat_lit 257, o257x8), (nat_lit 258, o7s), (nat_lit 260, o260x8), (nat_lit 261, o7s), (nat_lit 263, o263x8), (nat_lit 264, o264x8), (nat_lit 265, o265x8), (nat_lit 266, o266x8 P), (nat_lit 267, o267x8), (nat_lit 268, o268x8), (nat_lit 269, o269x8), (nat_lit 272, o7s), (nat_lit 275, o275x9), (nat_lit 276, o276x9), (nat_lit 277, o7s), (nat_lit 279, o279x9), (nat_lit 280, o7s), (nat_lit 282, o282x9), (nat_lit 283, o283x9), (nat_lit 284, o7s), (nat_lit 287, o287x9), (nat_lit 288, o288x9), (nat_lit 289, o7s), (nat_lit 292, o292x9), (nat_lit 293, o293x9), (nat_lit 294, o7s), (nat_lit 297, o297x9), (nat_lit 298, o298x9), (nat_lit 299, o7s), (nat_lit 301, o301x9), (nat_lit 302, o7s), (nat_lit 304, o304x9), (nat_lit 305, o305x9), (nat_lit 306, o7s), (nat_lit 309, o309x10), (nat_lit 310, o310x10), (nat_lit 311, o7s), (nat_lit 314, o314x10), (nat_lit 315, o315x10), (nat_lit 316, o7s), (nat_lit 318, o318x10), (nat_lit 319, o7s), (nat_lit 321, o321x10), (nat_lit 322, o322x10), (nat_lit 323, o7s), (nat_lit 326, o326x10), (nat_lit 327, o327x10), (nat_lit 328, o7s), (nat_lit 331, o331x10), (nat_lit 332, o332x10), (nat_lit 333, o7s), (nat_lit 336, o336x10), (nat_lit 337, o337x10)]
noncomputable def kAs : List Addr := [2, 3, 32, 34, 35, 37, 38, 39, 40, 42, 43, 45, 46, 54, 58, 60, 61, 63, 64, 65, 104, 106, 107, 109, 110, 111, 114, 116, 117, 119, 120, 121, 123, 124, 126, 127, 128, 130, 131, 133, 134, 138, 139, 143, 144, 152, 153, 155, 156, 158, 159, 160, 162, 163, 165, 166, 167, 169, 170, 172, 173, 174, 176, 177, 179, 180, 181, 184, 185, 186, 188, 189, 191, 192, 193, 195, 196, 198, 199, 200, 202, 203, 205, 206, 207, 208, 210, 211, 213, 214, 215, 218, 219, 220, 223, 224, 225, 227, 228, 230, 231, 232, 234, 235, 237, 238, 239, 242, 243, 244, 246, 247, 249, 250, 251, 253, 254, 256, 257, 258, 260, 261, 263, 264, 265, 266, 267, 268, 269, 272, 275, 276, 277, 279, 280, 282, 283, 284, 287, 288, 289, 292, 293, 294, 297, 298, 299, 301, 302, 304, 305, 306, 309, 310, 311, 314, 315, 316, 318, 319, 321, 322, 323, 326, 327, 328, 331, 332, 333, 336, 337]
theorem hash_go (w : World) (b : Bool) (k : Int) (t : Tok) (s : Shared) (p : Pos) (K : Int -> Sem Fin) (H : Value -> Sem Fin) (gd : Bool -> Bool) (lv : List Value -> List Value) :
  SG (w.withFollow "special-get-raises" b) 5 s ⟨(pyHash (.int k t)).wrap K H gd lv, code, p, B0⟩ = some ({ s with toks := s.toks + 1 }, ⟨(pyHashByItsType.reduced (rawHash k)).wrap K H gd lv, code, p, B0⟩) := by
 obtain ⟨hp, g, d, tk, os⟩ := s
 cases b
 ·kernel_rfl
 ·kernel_rfl
theorem G.hash {w : World} {b : Bool} {k : Int} {t : Tok} {s : Shared} {p : Pos} : G (w.withFollow "special-get-raises" b) 5 (pyHash (.int k t)) s p (hashInt k) { s with toks := s.toks + 1 } p := fun K H gd lv => by
 rw [hash_go]
 have hr := rawHash_range k
 unfold pyHashByItsType.reduced
 rw [if_pos (by rw [decide_eq_true hr.1, decide_eq_true hr.2]; rfl)]
 rfl
section
variable {w : World} {s : Shared} {p : Pos}
noncomputable def DictAt (h : Heap) (d : Addr) (es : List DictEntry) : Prop := h.get? d = some ⟨.type "dict", none, .dict ⟨es⟩ es.length, ⟨[]⟩⟩
theorem G.cast {α : Type} {n n' : Nat} {t : Sem α} {a : α} {s' : Shared} {p' : Pos} (h : G w n t s p a s' p') (e : n = n') : G w n' t s p a s' p' := e ▸ h
theorem G.entries {d : Addr} {es : List DictEntry} {part : Option Value} (h : DictAt s.heap d es) : G w 1 (dictEntries d part) s p ⟨es⟩ s p :=
 G.bind (n := 1) (n' := 0) (G.load h) G.pure'
theorem G.epoch {d : Addr} {es : List DictEntry} {part : Option Value} (h : DictAt s.heap d es) : G w 1 (dictEpoch d part) s p es.length s p :=
 G.bind (n := 1) (n' := 0) (G.load h) G.pure'
theorem places_nil {es : List DictEntry} {h : Int} (hn : ∀ e ∈ es, e.hash ≠ h) : placesWithHash (Array.mk es).size (fun i => (Array.mk es)[i]?.map (·.hash)) h = [] := by
 rw [PySem.Fast.placesWithHash_eq]
 unfold PySem.Fast.placesWithHash
 generalize (Array.mk es).size = n
 generalize 0 = i
 induction n generalizing i with
 | zero => rfl
 | succ n ih =>
  unfold PySem.Fast.placesFrom
  rw [if_neg, ih]
  intro hc
  have hc' := eq_of_beq hc
  cases hq : (Array.mk es)[i]? with
  | none => rw [hq] at hc'; cases hc'
  | some e =>
   rw [hq] at hc'
   have : e ∈ es := by
    have := Array.mem_of_getElem? hq
    simpa using this
   exact hn e this (by simpa using hc')
theorem G.find {d : Addr} {es : List DictEntry} {k h : Int} {t : Tok} (hd : DictAt s.heap d es) (hn : ∀ e ∈ es, e.hash ≠ h) : G w 1 (dictFind d (.int k t) h) s p none s p := by
 unfold dictFind
 refine G.holding (G.bind (n := 1) (n' := 0) (G.entries hd) ?_)
 dsimp only
 rw [places_nil hn]
 exact G.pure'
end
section
variable {w : World} {s : Shared} {p : Pos}
noncomputable def dObjL (es : List DictEntry) : Obj := ⟨.type "dict", none, .dict ⟨es⟩ es.length, ⟨[]⟩⟩
noncomputable def setD (h : Heap) (d : Addr) (es : List DictEntry) : Heap := h.update d fun _ => dObjL es
theorem update_congr {h : Heap} {d : Addr} {o : Obj} {f g : Obj -> Obj} (ho : h.get? d = some o) (e : f o = g o) : h.update d f = h.update d g := by
 obtain ⟨objs, l⟩ := h
 show Heap.mk _ _ = Heap.mk _ _
 congr 1
 apply Array.ext_getElem?
 intro i
 rw [Array.getElem?_modify, Array.getElem?_modify]
 by_cases hi : d = i
 ·subst hi
  have : objs[d]? = some o := by
   unfold Heap.get? at ho
   split at ho
   ·cases ho
   ·exact ho
  rw [this]; simp [e]
 ·simp [hi]
theorem DictAt.setD {h : Heap} {d : Addr} {es es' : List DictEntry} (hd : DictAt h d es) : DictAt (setD h d es') d es' :=
 Heap.get?_update_self _ hd rfl
theorem DictAt.setD_ne {h : Heap} {d d' : Addr} {es es' : List DictEntry} (hd : DictAt h d es) (hne : d ≠ d') : DictAt (Mine.setD h d' es') d es :=
 (Heap.get?_update_ne _ _ _ _ hne).trans hd
theorem push_mk {α : Type} (l : List α) (a : α) : (Array.mk l).push a = Array.mk (l ++ [a]) := by apply Array.ext'; simp
theorem G.putKeys {d : Addr} {es : List DictEntry} {e : DictEntry} {part : Option Value} (hd : DictAt s.heap d es) (ha : Nat.ble 28 d = true) (hsz : es.length < 1000) :
  G w 3 (updateDictKeys d (·.push e) part) s p () { s with heap := setD s.heap d (es ++ [e]) } p := by
 have hu : s.heap.update d (Obj.mapDictKeys (·.push e)) = setD s.heap d (es ++ [e]) := by
  refine update_congr hd ?_
  unfold dObjL
  rw [List.length_append, <- push_mk]
  rfl
 refine G.bind (n := 1) (n' := 2) (G.load hd) ?_
 dsimp only
 refine G.bind (n := 1) (n' := 1) (G.update hd ha) ?_
 rw [hu]
 unfold lookBehind
 refine G.bind (n := 1) (n' := 0) (G.load (DictAt.setD hd)) ?_
 have : (Data.dict (Array.mk (es ++ [e])) (es ++ [e]).length).pastItsLine = none := by
  show (if (Array.mk (es ++ [e])).size > sizeLine + 1 then some "dict:memory" else none) = none
  rw [if_neg]
  show ¬ (es ++ [e]).length > 2 ^ 24 + 1
  rw [List.length_append]
  simp only [List.length_singleton]
  lia
 dsimp only
 rw [this]
 exact G.pure'
theorem G.put {b : Bool} {d : Addr} {es : List DictEntry} {k : Int} {t : Tok} {v : Value} (hd : DictAt s.heap d es) (ha : Nat.ble 28 d = true) (hsz : es.length < 1000) (hn : ∀ e ∈ es, e.hash ≠ hashInt k) :
  G (w.withFollow "special-get-raises" b) 10 (dictSet d (.int k t) v) s p () { s with heap := setD s.heap d (es ++ [⟨hashInt k, .int k t, v⟩]), toks := s.toks + 1 } p := by
 unfold dictSet
 refine G.holding (G.bind (n := 5) (n' := 5) G.hash ?_)
 refine G.holding (G.bind (n := 1) (n' := 4) (G.find (s := { s with toks := s.toks + 1 }) hd hn) ?_)
 exact G.bind (n := 1) (n' := 3) G.rule (G.putKeys (s := { s with toks := s.toks + 1 }) hd ha hsz)
theorem G.put2 {d : Addr} {es : List DictEntry} {k h : Int} {t : Tok} {v : Value} (hd : DictAt s.heap d es) (ha : Nat.ble 28 d = true) (hsz : es.length < 1000) (hn : ∀ e ∈ es, e.hash ≠ h) :
  G w 4 (dictPut d h (.int k t) v) s p () { s with heap := setD s.heap d (es ++ [⟨h, .int k t, v⟩]) } p := by
 unfold dictPut
 exact G.bind (n := 1) (n' := 3) (G.find hd hn) (G.putKeys hd ha hsz)
end
noncomputable abbrev bp : Pos := ⟨23, 16, 23, 8704⟩
noncomputable def pairOf (x : Int × Str) : Sem Value × Sem Value := (mkInt x.1, do let y <- mkText x.2; standAt bp; pure y)
noncomputable def ents : Nat -> List (Int × Str) -> List DictEntry
 | _, [] => []
 | T, x :: r => ⟨hashInt x.1, .int x.1 T, .str x.2 (T + 1)⟩ :: ents (T + 3) r
noncomputable def ents2 : Nat -> List (Int × Str) -> List DictEntry
 | _, [] => []
 | T, x :: r => ⟨hashInt x.1, .int x.1 T, .str x.2 (T + 1)⟩ :: ents2 (T + 2) r
theorem ents_hash (T : Nat) (ps : List (Int × Str)) : (ents T ps).map (·.hash) = ps.map (hashInt ·.1) := by
 induction ps generalizing T with
 | nil => rfl
 | cons x r ih => simp only [ents, List.map_cons, ih]
theorem ents2_hash (T : Nat) (ps : List (Int × Str)) : (ents2 T ps).map (·.hash) = ps.map (hashInt ·.1) := by
 induction ps generalizing T with
 | nil => rfl
 | cons x r ih => simp only [ents2, List.map_cons, ih]
theorem setD_self {h : Heap} {d : Addr} {es : List DictEntry} (hd : DictAt h d es) : setD h d es = h := by
 have : setD h d es = h.update d id := update_congr hd rfl
 rw [this]
 obtain ⟨objs, l⟩ := h
 show Heap.mk _ _ = _
 congr 1
 apply Array.ext_getElem?
 intro i
 rw [Array.getElem?_modify]
 split
 ·cases objs[i]? <;> rfl
 ·rfl
theorem setD_setD {h : Heap} {d : Addr} {a b : List DictEntry} : setD (setD h d a) d b = setD h d b := by
 obtain ⟨objs, l⟩ := h
 show Heap.mk _ _ = Heap.mk _ _
 congr 1
 apply Array.ext_getElem?
 intro i
 simp only [Array.getElem?_modify]
 by_cases hi : d = i
 ·simp only [hi, if_true]
  cases objs[i]? <;> rfl
 ·simp [hi]
section
variable {w : World} {b : Bool}
theorem loop1 {d : Addr} (ha : Nat.ble 28 d = true) {f : Sem Value × Sem Value -> PUnit -> Sem (ForInStep PUnit)}
  (hf : ∀ x r, f x r = (do let kv <- x.1; let vv <- holding [kv] x.2; holding [kv, vv] (dictSet d kv vv); pure (.yield PUnit.unit))) :
  ∀ (ps : List (Int × Str)) (es : List DictEntry) (s : Shared), DictAt s.heap d es -> es.length + ps.length < 1000 -> (es.map (·.hash) ++ ps.map (hashInt ·.1)).Nodup ->
   G (w.withFollow "special-get-raises" b) (13 * ps.length) (forIn (ps.map pairOf) PUnit.unit f) s bp PUnit.unit { s with heap := setD s.heap d (es ++ ents s.toks ps), toks := s.toks + 3 * ps.length } bp := by
 intro ps
 induction ps with
 | nil =>
  intro es s hd hl hn
  rw [ents, List.append_nil, setD_self hd]
  exact G.pure'
 | cons x r ih =>
  intro es s hd hl hn
  have hn' : ∀ e ∈ es, e.hash ≠ hashInt x.1 := by
   intro e he q
   rw [List.nodup_append] at hn
   exact hn.2.2 _ (List.mem_map_of_mem (f := (·.hash)) he) _ (List.mem_map_of_mem (f := (hashInt ·.1)) (List.mem_cons_self (a := x))) q
  rw [List.map_cons, List.forIn_cons, hf]
  have h1 : G (w.withFollow "special-get-raises" b) 13 (do let kv <- (pairOf x).1; let vv <- holding [kv] (pairOf x).2; holding [kv, vv] (dictSet d kv vv); pure (ForInStep.yield PUnit.unit)) s bp (ForInStep.yield PUnit.unit)
    { s with heap := setD s.heap d (es ++ [⟨hashInt x.1, .int x.1 s.toks, .str x.2 (s.toks + 1)⟩]), toks := s.toks + 3 } bp := by
   refine G.bind (n := 1) (n' := 12) (G.bind (n := 1) (n' := 0) G.fresh G.pure') ?_
   refine G.bind (n := 2) (n' := 10) (G.holding (G.bind (n := 1) (n' := 1) (G.bind (n := 1) (n' := 0) G.fresh G.pure') (G.bind (n := 1) (n' := 0) G.at G.pure'))) ?_
   exact G.bind (n := 10) (n' := 0) (G.holding (G.put (s := { s with toks := s.toks + 1 + 1 }) hd ha (by lia) hn')) G.pure'
  refine G.cast (G.bind (n := 13) (n' := 13 * r.length) h1 ?_) (by rw [List.length_cons]; lia)
  have h2 := ih (es ++ [⟨hashInt x.1, .int x.1 s.toks, .str x.2 (s.toks + 1)⟩]) { s with heap := setD s.heap d (es ++ [⟨hashInt x.1, .int x.1 s.toks, .str x.2 (s.toks + 1)⟩]), toks := s.toks + 3 } (DictAt.setD hd)
   (by rw [List.length_append]; simp only [List.length_cons, List.length_nil] at hl ⊢; lia)
   (by simpa [List.map_append, List.append_assoc] using hn)
  dsimp only at h2 ⊢
  rw [setD_setD, List.append_assoc] at h2
  have e : s.toks + 3 + 3 * r.length = s.toks + 3 * (x :: r).length := by rw [List.length_cons]; lia
  rw [e] at h2
  exact h2
end
section
variable {w : World} {b : Bool} {s : Shared}
theorem new_dict (h : Heap) : DictAt (h.push { cls := .type "dict", data := .dict #[] }) h.objs.size [] := Heap.get?_push_size _ rfl
theorem G.sub {ps : List (Int × Str)} (h1 : 15 < ps.length) (h2 : ps.length < 1000) (hn : (ps.map (hashInt ·.1)).Nodup) (ha : Nat.ble 28 s.heap.objs.size = true) :
  G (w.withFollow "special-get-raises" b) (2 + 13 * ps.length) (subDict (ps.map pairOf)) s bp s.heap.objs.size
   { s with heap := setD (s.heap.push { cls := .type "dict", data := .dict #[] }) s.heap.objs.size (ents s.toks ps), toks := s.toks + 3 * ps.length } bp := by
 refine G.cast (n := 1 + (1 + 13 * ps.length)) (G.bind (n := 1) (n' := 1 + 13 * ps.length) G.alloc ?_) (by lia)
 refine G.bind (n := 1 + 13 * ps.length) (n' := 0) (a := ()) (G.holding ?_) G.pure'
 rw [if_neg (by rw [List.length_map]; lia)]
 refine G.bind (n := 1) (n' := 13 * ps.length) G.rule ?_
 refine G.bind (n := 13 * ps.length) (n' := 0) (loop1 ha (fun x r => rfl) ps [] _ (new_dict _) (by rw [List.length_nil]; lia) (by simpa using hn)) ?_
 exact G.pure'
theorem evalPairs_go : ∀ (ps : List (Int × Str)) (s : Shared), G w (3 * ps.length) (evalPairs (ps.map pairOf)) s bp ((ents2 s.toks ps).map fun e => (e.key, e.val)) { s with toks := s.toks + 2 * ps.length } bp := by
 intro ps
 induction ps with
 | nil => intro s; exact G.pure'
 | cons x r ih =>
  intro s
  refine G.cast (n := 1 + (2 + (3 * r.length + 0))) ?_ (by rw [List.length_cons]; lia)
  refine G.bind (n := 1) (G.bind (n := 1) (n' := 0) G.fresh G.pure') ?_
  refine G.bind (n := 2) (G.holding (G.bind (n := 1) (n' := 1) (G.bind (n := 1) (n' := 0) G.fresh G.pure') (G.bind (n := 1) (n' := 0) G.at G.pure'))) ?_
  have h2 := ih { s with toks := s.toks + 1 + 1 }
  refine G.bind (n := 3 * r.length) (n' := 0) (G.holding h2) ?_
  have e : s.toks + 1 + 1 + 2 * r.length = s.toks + 2 * (x :: r).length := by rw [List.length_cons]; lia
  dsimp only
  rw [e]
  exact G.pure'
theorem loop2 {d : Addr} (ha : Nat.ble 28 d = true) {f : Value × Value -> PUnit -> Sem (ForInStep PUnit)} (hf : ∀ x r, f x r = (do dictSet d x.1 x.2; pure (.yield PUnit.unit))) :
  ∀ (l : List (Int × Tok × Value)) (es : List DictEntry) (s : Shared), DictAt s.heap d es -> es.length + l.length < 1000 -> (es.map (·.hash) ++ l.map (hashInt ·.1)).Nodup ->
   G (w.withFollow "special-get-raises" b) (10 * l.length) (forIn (l.map fun x => (Value.int x.1 x.2.1, x.2.2)) PUnit.unit f) s bp PUnit.unit
    { s with heap := setD s.heap d (es ++ l.map fun x => ⟨hashInt x.1, .int x.1 x.2.1, x.2.2⟩), toks := s.toks + l.length } bp := by
 intro l
 induction l with
 | nil =>
  intro es s hd hl hn
  simp only [List.map_nil, List.append_nil, setD_self hd]
  exact G.pure'
 | cons x r ih =>
  intro es s hd hl hn
  have hn' : ∀ e ∈ es, e.hash ≠ hashInt x.1 := by
   intro e he q
   rw [List.nodup_append] at hn
   exact hn.2.2 _ (List.mem_map_of_mem (f := (·.hash)) he) _ (List.mem_map_of_mem (f := (hashInt ·.1)) (List.mem_cons_self (a := x))) q
  rw [List.map_cons, List.forIn_cons, hf]
  refine G.cast (n := (10 + 0) + 10 * r.length) ?_ (by rw [List.length_cons]; lia)
  refine G.bind (G.bind (n := 10) (n' := 0) (G.put (t := x.2.1) (v := x.2.2) hd ha (by lia) hn') G.pure') ?_
  have h2 := ih (es ++ [⟨hashInt x.1, .int x.1 x.2.1, x.2.2⟩]) { s with heap := setD s.heap d (es ++ [⟨hashInt x.1, .int x.1 x.2.1, x.2.2⟩]), toks := s.toks + 1 } (DictAt.setD hd)
   (by rw [List.length_append]; simp only [List.length_cons, List.length_nil] at hl ⊢; lia)
   (by simpa [List.map_append, List.append_assoc] using hn)
  dsimp only at h2 ⊢
  rw [setD_setD, List.append_assoc] at h2
  have e : s.toks + 1 + r.length = s.toks + (x :: r).length := by rw [List.length_cons]; lia
  rw [e] at h2
  exact h2
noncomputable def raws : Nat -> List (Int × Str) -> List (Int × Tok × Value)
 | _, [] => []
 | T, x :: r => (x.1, T, .str x.2 (T + 1)) :: raws (T + 2) r
theorem raws_map (T : Nat) (ps : List (Int × Str)) : (raws T ps).map (fun x => (Value.int x.1 x.2.1, x.2.2)) = (ents2 T ps).map fun e => (e.key, e.val) := by
 induction ps generalizing T with
 | nil => rfl
 | cons x r ih => simp only [raws, ents2, List.map_cons, ih]
theorem raws_ents (T : Nat) (ps : List (Int × Str)) : (raws T ps).map (fun x => (⟨hashInt x.1, .int x.1 x.2.1, x.2.2⟩ : DictEntry)) = ents2 T ps := by
 induction ps generalizing T with
 | nil => rfl
 | cons x r ih => simp only [raws, ents2, List.map_cons, ih]
theorem raws_hash (T : Nat) (ps : List (Int × Str)) : (raws T ps).map (hashInt ·.1) = ps.map (hashInt ·.1) := by
 induction ps generalizing T with
 | nil => rfl
 | cons x r ih => simp only [raws, List.map_cons, ih]
theorem raws_length (T : Nat) (ps : List (Int × Str)) : (raws T ps).length = ps.length := by
 induction ps generalizing T with
 | nil => rfl
 | cons x r ih => simp only [raws, List.length_cons, ih]
theorem G.sub2 {ps : List (Int × Str)} (h1 : ps.length <= 15) (hn : (ps.map (hashInt ·.1)).Nodup) (ha : Nat.ble 28 s.heap.objs.size = true) :
  G (w.withFollow "special-get-raises" b) (1 + 13 * ps.length) (subDict (ps.map pairOf)) s bp s.heap.objs.size
   { s with heap := setD (s.heap.push { cls := .type "dict", data := .dict #[] }) s.heap.objs.size (ents2 s.toks ps), toks := s.toks + 3 * ps.length } bp := by
 refine G.cast (n := 1 + (3 * ps.length + 10 * ps.length)) (G.bind (n := 1) (n' := 3 * ps.length + 10 * ps.length) G.alloc ?_) (by lia)
 refine G.bind (n := 3 * ps.length + 10 * ps.length) (n' := 0) (a := ()) (G.holding ?_) G.pure'
 rw [if_pos (by rw [List.length_map]; lia)]
 refine G.bind (n := 3 * ps.length) (n' := 10 * ps.length) (evalPairs_go ps _) ?_
 refine G.holding ?_
 dsimp only
 rw [<- raws_map]
 have h2 := loop2 (w := w) (b := b) ha (f := fun x _ => dictSet s.heap.objs.size x.1 x.2 >>= fun _ => Pure.pure (ForInStep.yield PUnit.unit)) (fun x r => rfl) (raws s.toks ps) [] { s with heap := s.heap.push { cls := .type "dict", data := .dict #[] }, toks := s.toks + 2 * ps.length } (new_dict _)
  (by rw [List.length_nil, raws_length]; lia) (by rw [raws_hash]; simpa using hn)
 rw [raws_length, List.nil_append, raws_ents] at h2
 refine G.bind (n := 10 * ps.length) (n' := 0) h2 ?_
 have e : s.toks + 2 * ps.length + ps.length = s.toks + 3 * ps.length := by lia
 dsimp only
 rw [e]
 exact G.pure'
end
section
variable {w : World} {b : Bool} {s : Shared} {p : Pos}
theorem loop3 {d a : Addr} (hda : a ≠ d) {ea : List DictEntry} {f : Nat -> PUnit -> Sem (ForInStep PUnit)}
  (hf : ∀ (i : Nat) (hi : i < ea.length) (es : List DictEntry) (s : Shared), DictAt s.heap d es -> DictAt s.heap a ea -> es.length < 1000 -> (∀ e ∈ es, e.hash ≠ ea[i].hash) ->
   G w 6 (f i PUnit.unit) s p (ForInStep.yield PUnit.unit) { s with heap := setD s.heap d (es ++ [ea[i]]) } p) :
  ∀ (m i : Nat) (es : List DictEntry) (s : Shared), DictAt s.heap d es -> DictAt s.heap a ea -> i + m = ea.length -> es.length + m < 1000 -> (es.map (·.hash) ++ (ea.drop i).map (·.hash)).Nodup ->
   G w (6 * m) (forIn (List.range' i m) PUnit.unit f) s p PUnit.unit { s with heap := setD s.heap d (es ++ ea.drop i) } p := by
 intro m
 induction m with
 | zero =>
  intro i es s hd hea him hl hn
  rw [List.drop_of_length_le (by lia), List.append_nil, setD_self hd]
  exact G.pure'
 | succ m ih =>
  intro i es s hd hea him hl hn
  have hi : i < ea.length := by lia
  have hdrop : ea.drop i = ea[i] :: ea.drop (i + 1) := (List.drop_eq_getElem_cons hi)
  have hn' : ∀ e ∈ es, e.hash ≠ ea[i].hash := by
   intro e he q
   rw [List.nodup_append] at hn
   exact hn.2.2 _ (List.mem_map_of_mem (f := fun e : DictEntry => e.hash) he) _ (List.mem_map_of_mem (f := fun e : DictEntry => e.hash) (by rw [hdrop]; exact List.mem_cons_self)) q
  rw [List.range'_succ, List.forIn_cons]
  refine G.cast (n := 6 + 6 * m) ?_ (by lia)
  refine G.bind (hf i hi es s hd hea (by lia) hn') ?_
  have h2 := ih (i + 1) (es ++ [ea[i]]) { s with heap := setD s.heap d (es ++ [ea[i]]) } (DictAt.setD hd) (hea.setD_ne hda) (by grind)
    (by rw [List.length_append]; simp only [List.length_cons, List.length_nil]; lia)
    (by rw [hdrop, List.map_cons] at hn; rw [List.map_append, List.append_assoc]; exact hn)
  dsimp only at h2 ⊢
  rw [setD_setD, List.append_assoc] at h2
  rw [hdrop]
  exact h2
theorem sub_dict : isSubtype (.type "dict") (.type "dict") = pure true := by kernel_rfl
theorem iter_dict : typeLookup (.type "dict") "__iter__" = pure (some (.builtin "dict.__iter__")) := by kernel_rfl
theorem G.typeOf {a : Addr} {ea : List DictEntry} (hea : DictAt s.heap a ea) : G w 1 (PySem.typeOf (.ref a)) s p (.type "dict") s p := G.bind (n := 1) (n' := 0) (G.load hea) G.pure'
theorem G.merge {d a : Addr} {es ea : List DictEntry} (hd : DictAt s.heap d es) (hea : DictAt s.heap a ea) (hda : a ≠ d) (ha : Nat.ble 28 d = true) (ha' : (a == sysModules) = false) (hk : ∀ e ∈ ea, ∃ k t, e.key = .int k t) (hne : es ≠ [])
  (hl : es.length + ea.length < 1000) (hn : (es.map (·.hash) ++ ea.map (·.hash)).Nodup) :
  G w (5 + 6 * ea.length) (mergeMapping d (.ref a) false) s p () { s with heap := setD s.heap d (es ++ ea) } p := by
 refine G.cast (n := 1 + (1 + (1 + (1 + (1 + (6 * ea.length + 0)))))) ?_ (by lia)
 refine G.bind (n := 1) (a := true) (G.bind (n := 1) (n' := 0) (G.typeOf hea) (by exact G.pure')) ?_
 dsimp only
 refine G.bind (n := 1) (a := some (.builtin "dict.__iter__")) (G.bind (n := 1) (n' := 0) (G.typeOf hea) (by exact G.pure')) ?_
 simp only [beq_self_eq_true]
 refine G.cast (n := 0 + (1 + (1 + (1 + (6 * ea.length + 0))))) (G.bind (n := 0) G.pure' ?_) (by lia)
 dsimp only
 rw [if_neg (by rw [ha']; exact Bool.false_ne_true)]
 refine G.bind (n := 1) (G.entries hd) ?_
 rw [if_neg (by cases es with | nil => exact absurd rfl hne | cons x r => simp [Array.isEmpty])]
 refine G.bind (n := 1) (G.entries hea) ?_
 refine G.bind (n := 1) (G.epoch hea) ?_
 rw [List.range_eq_range']
 refine G.bind (n := 6 * ea.length) (n' := 0) (loop3 hda (fun i hi es s hd hea hl hn => ?_) ea.length 0 es s hd hea (by lia) hl (by simpa using hn)) ?_
 ·obtain ⟨k, t, hkt⟩ := hk ea[i] (List.getElem_mem hi)
  have he : ea[i] = ⟨ea[i].hash, .int k t, ea[i].val⟩ := by rw [<- hkt]
  have hput : G w 4 (dictPut d ea[i].hash ea[i].key ea[i].val) s p () { s with heap := setD s.heap d (es ++ [ea[i]]) } p := by
   rw [hkt]
   have := G.put2 (w := w) (p := p) (k := k) (t := t) (v := ea[i].val) hd ha (by lia) hn
   rw [<- he] at this
   exact this
  refine G.cast (n := 1 + (4 + (1 + 0))) ?_ rfl
  refine G.bind (n := 1) (G.entries hea) ?_
  have hq : (Array.mk ea)[i]? = some ea[i] := by simp
  rw [hq]
  dsimp only
  refine G.bind (n := 4) (G.holding hput) ?_
  refine G.bind (n := 1) (n' := 0) (G.epoch (hea.setD_ne hda)) ?_
  rw [if_neg (by simp)]
  exact G.pure'
 ·exact G.pure'
end
noncomputable def hp (L : List Obj) : Heap := ⟨⟨L⟩, life⟩
theorem hp_push (L : List Obj) (o : Obj) : (hp L).push o = hp (L ++ [o]) := by
 show Heap.mk _ _ = Heap.mk _ _
 rw [push_mk]
theorem hp_get (A B : List Obj) (es : List DictEntry) : DictAt (hp (A ++ dObjL es :: B)) A.length es := by
 show (hp (A ++ dObjL es :: B)).get? A.length = some (dObjL es)
 unfold Heap.get? hp
 have : (Array.mk (A ++ dObjL es :: B))[A.length]? = some (dObjL es) := by simp
 dsimp only
 rw [this]; rfl
theorem hp_set (A B : List Obj) (x : Obj) (es : List DictEntry) : setD (hp (A ++ x :: B)) A.length es = hp (A ++ dObjL es :: B) := by
 show Heap.mk _ _ = Heap.mk _ _
 congr 1
 apply Array.ext_getElem?
 intro i
 rw [Array.getElem?_modify]
 by_cases hi : A.length = i
 ·subst hi; simp
 ·simp only [hi, if_false]
  rcases Nat.lt_or_gt_of_ne hi with h | h
  ·have h1 : ∃ k, i - A.length = k + 1 := ⟨i - A.length - 1, by grind⟩
   obtain ⟨k, hk⟩ := h1
   simp [List.getElem?_append_right (Nat.le_of_lt h), hk]
  ·simp [List.getElem?_append_left h]
section
variable {w : World} {b : Bool} {s : Shared}
theorem keys_ents (T : Nat) (ps : List (Int × Str)) : ∀ e ∈ ents T ps, ∃ k t, e.key = .int k t := by
 induction ps generalizing T with
 | nil => intro e he; cases he
 | cons x r ih =>
  intro e he
  rcases List.mem_cons.mp he with rfl | he
  ·exact ⟨_, _, rfl⟩
  ·exact ih _ e he
theorem keys_ents2 (T : Nat) (ps : List (Int × Str)) : ∀ e ∈ ents2 T ps, ∃ k t, e.key = .int k t := by
 induction ps generalizing T with
 | nil => intro e he; cases he
 | cons x r ih =>
  intro e he
  rcases List.mem_cons.mp he with rfl | he
  ·exact ⟨_, _, rfl⟩
  ·exact ih _ e he
theorem ents_length (T : Nat) (ps : List (Int × Str)) : (ents T ps).length = ps.length := by
 have := congrArg List.length (ents_hash T ps); simpa using this
theorem ents2_length (T : Nat) (ps : List (Int × Str)) : (ents2 T ps).length = ps.length := by
 have := congrArg List.length (ents2_hash T ps); simpa using this
noncomputable def flushes (run : List (Sem Value × Sem Value)) (d : Addr) (k : Value -> Addr -> Value -> Sem Unit) : Sem (Option Addr) := do
 let sub <- holding [.ref d] (subDict run)
 (holding [.ref d, .ref sub] (mergeMapping d (.ref sub) false)).onRaise (k (.ref d) sub)
 pure (some d)
theorem flush_long {L0 subs : List Obj} {es : List DictEntry} {c : List (Int × Str)} {k : Value -> Addr -> Value -> Sem Unit} (hs : s.heap = hp (L0 ++ dObjL es :: subs)) (hd : 28 <= L0.length) (hne : es ≠ []) (h1 : 15 < c.length) (hl : es.length + c.length < 1000)
  (hn : (es.map (·.hash) ++ c.map (hashInt ·.1)).Nodup) :
  G (w.withFollow "special-get-raises" b) (7 + 19 * c.length) (flushes (c.map pairOf) L0.length k) s bp (some L0.length)
   { s with heap := hp (L0 ++ dObjL (es ++ ents s.toks c) :: (subs ++ [dObjL (ents s.toks c)])), toks := s.toks + 3 * c.length } bp := by
 have hsz : s.heap.objs.size = (L0 ++ dObjL es :: subs).length := by rw [hs]; rfl
 have hsz' : (L0 ++ dObjL es :: subs).length = L0.length + (subs.length + 1) := by rw [List.length_append, List.length_cons]
 have hc : (c.map (hashInt ·.1)).Nodup := (List.nodup_append.mp hn).2.1
 have h := G.sub (w := w) (b := b) (s := s) h1 (by lia) hc (by rw [hsz, hsz']; exact Nat.ble_eq.mpr (by lia))
 have e1 : setD (s.heap.push { cls := .type "dict", data := .dict #[] }) s.heap.objs.size (ents s.toks c) = hp (L0 ++ dObjL es :: (subs ++ [dObjL (ents s.toks c)])) := by
  rw [hsz, hs, hp_push]
  have := hp_set (L0 ++ dObjL es :: subs) [] { cls := .type "dict", data := .dict #[] } (ents s.toks c)
  rw [this]; simp
 rw [e1] at h
 refine G.cast (n := (2 + 13 * c.length) + ((5 + 6 * c.length) + 0)) (G.bind (n := 2 + 13 * c.length) (G.holding h) ?_) (by lia)
 have hm := G.merge (w := w.withFollow "special-get-raises" b) (p := bp) (s := { s with heap := hp (L0 ++ dObjL es :: (subs ++ [dObjL (ents s.toks c)])), toks := s.toks + 3 * c.length }) (d := L0.length) (a := s.heap.objs.size) (es := es) (ea := ents s.toks c)
  (hp_get _ _ _) (by
   rw [hsz]
   have := hp_get (L0 ++ dObjL es :: subs) [] (ents s.toks c)
   simpa using this)
  (by rw [hsz, hsz']; exact Nat.ne_of_gt (by lia)) (Nat.ble_eq.mpr hd) (by rw [hsz, hsz']; exact beq_eq_false_iff_ne.mpr (by show _ ≠ (1 : Nat); lia)) (keys_ents _ _) hne (by rw [ents_length]; exact hl) (by rw [ents_hash]; exact hn)
 rw [ents_length] at hm
 dsimp only at hm
 rw [hp_set] at hm
 exact G.bind (n := 5 + 6 * c.length) (n' := 0) (G.onRaise (G.holding hm)) G.pure'
theorem flush_short {L0 subs : List Obj} {es : List DictEntry} {c : List (Int × Str)} {k : Value -> Addr -> Value -> Sem Unit} (hs : s.heap = hp (L0 ++ dObjL es :: subs)) (hd : 28 <= L0.length) (hne : es ≠ []) (h1 : c.length <= 15) (hl : es.length + c.length < 1000)
  (hn : (es.map (·.hash) ++ c.map (hashInt ·.1)).Nodup) :
  G (w.withFollow "special-get-raises" b) (6 + 19 * c.length) (flushes (c.map pairOf) L0.length k) s bp (some L0.length)
   { s with heap := hp (L0 ++ dObjL (es ++ ents2 s.toks c) :: (subs ++ [dObjL (ents2 s.toks c)])), toks := s.toks + 3 * c.length } bp := by
 have hsz : s.heap.objs.size = (L0 ++ dObjL es :: subs).length := by rw [hs]; rfl
 have hsz' : (L0 ++ dObjL es :: subs).length = L0.length + (subs.length + 1) := by rw [List.length_append, List.length_cons]
 have hc : (c.map (hashInt ·.1)).Nodup := (List.nodup_append.mp hn).2.1
 have h := G.sub2 (w := w) (b := b) (s := s) h1 hc (by rw [hsz, hsz']; exact Nat.ble_eq.mpr (by lia))
 have e1 : setD (s.heap.push { cls := .type "dict", data := .dict #[] }) s.heap.objs.size (ents2 s.toks c) = hp (L0 ++ dObjL es :: (subs ++ [dObjL (ents2 s.toks c)])) := by
  rw [hsz, hs, hp_push]
  have := hp_set (L0 ++ dObjL es :: subs) [] { cls := .type "dict", data := .dict #[] } (ents2 s.toks c)
  rw [this]; simp
 rw [e1] at h
 refine G.cast (n := (1 + 13 * c.length) + ((5 + 6 * c.length) + 0)) (G.bind (n := 1 + 13 * c.length) (G.holding h) ?_) (by lia)
 have hm := G.merge (w := w.withFollow "special-get-raises" b) (p := bp) (s := { s with heap := hp (L0 ++ dObjL es :: (subs ++ [dObjL (ents2 s.toks c)])), toks := s.toks + 3 * c.length }) (d := L0.length) (a := s.heap.objs.size) (es := es) (ea := ents2 s.toks c)
  (hp_get _ _ _) (by
   rw [hsz]
   have := hp_get (L0 ++ dObjL es :: subs) [] (ents2 s.toks c)
   simpa using this)
  (by rw [hsz, hsz']; exact Nat.ne_of_gt (by lia)) (Nat.ble_eq.mpr hd) (by rw [hsz, hsz']; exact beq_eq_false_iff_ne.mpr (by show _ ≠ (1 : Nat); lia)) (keys_ents2 _ _) hne (by rw [ents2_length]; exact hl) (by rw [ents2_hash]; exact hn)
 rw [ents2_length] at hm
 dsimp only at hm
 rw [hp_set] at hm
 exact G.bind (n := 5 + 6 * c.length) (n' := 0) (G.onRaise (G.holding hm)) G.pure'
end
section
variable {w : World} {b : Bool}
noncomputable abbrev PP := Sem Value × Sem Value
noncomputable abbrev It := Option (Sem Value) × Sem Value
noncomputable abbrev St2 := Option Addr × List PP
noncomputable def it (x : Int × Str) : It := (some (pairOf x).1, (pairOf x).2)
variable {f : It -> St2 -> Sem (ForInStep St2)} {fl : List PP -> Option Addr -> Sem (Option Addr)}
noncomputable abbrev LoopIs (f : It -> St2 -> Sem (ForInStep St2)) (fl : List PP -> Option Addr -> Sem (Option Addr)) : Prop :=
 ∀ (k v : Sem Value) (main : Option Addr) (run : List PP), f (some k, v) (main, run) = if ((run ++ [(k, v)]).length == 17) = true then fl (run ++ [(k, v)]) main >>= fun m => pure (ForInStep.yield (m, [])) else pure (ForInStep.yield (main, run ++ [(k, v)]))
theorem run_on (hf : LoopIs f fl) : ∀ (l : List (Int × Str)) (run : List PP) (rest : List It) (main : Option Addr), run.length + l.length < 17 -> forIn (l.map it ++ rest) (main, run) f = forIn rest (main, run ++ l.map pairOf) f := by
 intro l
 induction l with
 | nil => intro run rest main _; simp
 | cons x r ih =>
  intro run rest main hl
  rw [List.length_cons] at hl
  rw [List.map_cons, List.cons_append, List.forIn_cons]
  show (f (some (pairOf x).1, (pairOf x).2) (main, run) >>= _) = _
  rw [hf, if_neg (by simp only [List.length_append, List.length_cons, List.length_nil, beq_iff_eq]; lia)]
  show forIn (r.map it ++ rest) (main, run ++ [pairOf x]) f = _
  rw [ih _ _ _ (by rw [List.length_append]; simp only [List.length_cons, List.length_nil]; lia), List.map_cons, List.append_assoc]
  rfl
theorem chunk {n n' : Nat} {s s' s'' : Shared} {p p' p'' : Pos} {α : Type} {a : α} {c : List (Int × Str)} {rest : List It} {main m : Option Addr} {K : St2 -> Sem α} (hf : LoopIs f fl) (hc : c.length = 17)
  (h : G w n (fl (c.map pairOf) main) s p m s' p') (k : G w n' (forIn rest (m, []) f >>= K) s' p' a s'' p'') : G w (n + n') (forIn (c.map it ++ rest) (main, []) f >>= K) s p a s'' p'' := by
 obtain ⟨l, x, rfl⟩ : ∃ l x, c = l ++ [x] := ⟨c.dropLast, c.getLast (by intro q; rw [q] at hc; cases hc), (List.dropLast_concat_getLast _).symm⟩
 rw [List.length_append] at hc
 simp only [List.length_cons, List.length_nil] at hc
 rw [List.map_append, List.append_assoc, run_on hf l [] _ main (by simp only [List.length_nil]; lia), List.nil_append]
 show G w (n + n') (forIn (it x :: rest) (main, l.map pairOf) f >>= K) s p a s'' p''
 rw [List.forIn_cons]
 show G w (n + n') ((f (some (pairOf x).1, (pairOf x).2) (main, l.map pairOf) >>= _) >>= K) s p a s'' p''
 rw [hf, if_pos (by simp only [List.length_append, List.length_map, List.length_cons, List.length_nil, beq_iff_eq]; lia)]
 rw [List.map_append] at h
 intro K' H gd lv
 have hk := k K' H gd lv
 have hh := h (fun m => (forIn rest (m, []) f >>= K).wrap K' H gd lv) H gd lv
 refine sg_add (s' := s') (t' := ⟨(forIn rest (m, []) f >>= K).wrap K' H gd lv, code, p', B0⟩) ?_ hk
 rw [<- hh]
 congr 2
 simp only [Sem.bind_eq_wrap', Sem.wrap_wrap]
 refine Sem.wrap_congr _ _ _ (fun m => ?_) fun _ => rfl
 rfl
end
section
variable {w : World} {b : Bool}
noncomputable def goK : Value -> Addr -> Value -> Sem Unit := fun r _ x => do
 let _ <- holding [r, x] (runValue (.builtin "proto.let_go" {}))
 pure ()
noncomputable def flD (run : List PP) (main : Option Addr) : Sem (Option Addr) :=
 if run.isEmpty = true then pure main
 else match main with
  | none => do let d <- subDict run; pure (some d)
  | some d => flushes run d goK
theorem display_is : ∃ (f : It -> St2 -> Sem (ForInStep St2)), LoopIs f flD /\ ∀ items : List It, dictDisplay items = (forIn items ((none : Option Addr), ([] : List PP)) f >>= fun st => flD st.2 st.1 >>= fun r => match r with | some d => pure (.ref d) | none => newDict) :=
 ⟨_, fun k v main run => rfl, fun items => rfl⟩
noncomputable def chE : Nat -> List (List (Int × Str)) -> List (List DictEntry)
 | _, [] => []
 | T, c :: r => ents T c :: chE (T + 3 * c.length) r
noncomputable def chT : Nat -> List (List (Int × Str)) -> Nat
 | T, [] => T
 | T, c :: r => chT (T + 3 * c.length) r
theorem chunks_go {f : It -> St2 -> Sem (ForInStep St2)} (hf : LoopIs f flD) {L0 : List Obj} (hd : 28 <= L0.length) {tail : List (Int × Str)} (ht : 0 < tail.length) (ht' : tail.length <= 15) :
  ∀ (chs : List (List (Int × Str))) (es : List DictEntry) (subs : List Obj) (s : Shared), (∀ c ∈ chs, c.length = 17) -> s.heap = hp (L0 ++ dObjL es :: subs) -> es ≠ [] -> es.length + 17 * chs.length + tail.length < 1000 ->
   (es.map (·.hash) ++ (chs.flatten ++ tail).map (hashInt ·.1)).Nodup ->
   G (w.withFollow "special-get-raises" b) (330 * chs.length + (6 + 19 * tail.length)) (forIn ((chs.flatten ++ tail).map it) (some L0.length, []) f >>= fun st => flD st.2 st.1 >>= fun r => match r with | some d => pure (.ref d) | none => newDict) s bp (.ref L0.length)
    { s with heap := hp (L0 ++ dObjL (es ++ ((chE s.toks chs).flatten ++ ents2 (chT s.toks chs) tail)) :: (subs ++ ((chE s.toks chs).map dObjL ++ [dObjL (ents2 (chT s.toks chs) tail)]))), toks := chT s.toks chs + 3 * tail.length } bp := by
 intro chs
 induction chs with
 | nil =>
  intro es subs s hc hs hne hl hn
  rw [List.flatten_nil, List.nil_append] at hn ⊢
  have hrun := run_on hf tail [] [] (some L0.length) (by simp only [List.length_nil]; lia)
  rw [List.append_nil] at hrun
  rw [hrun]
  show G _ _ (flD ([] ++ tail.map pairOf) (some L0.length) >>= _) _ _ _ _ _
  have h := flush_short (w := w) (b := b) (k := goK) (c := tail) hs hd hne ht' (by lia) hn
  refine G.cast (n := (6 + 19 * tail.length) + 0) ?_ (by simp only [List.length_nil]; lia)
  have hfl : flD ([] ++ tail.map pairOf) (some L0.length) = flushes (tail.map pairOf) L0.length goK := by
   unfold flD
   rw [if_neg (by cases tail with | nil => cases ht | cons x r => simp)]
   rfl
  rw [hfl]
  refine G.bind h ?_
  exact G.pure'
 | cons c r ih =>
  intro es subs s hc hs hne hl hn
  have hc17 := hc c List.mem_cons_self
  rw [List.length_cons] at hl
  have e1 : ((c :: r).flatten ++ tail).map it = c.map it ++ (r.flatten ++ tail).map it := by simp
  rw [e1]
  have hn1 : (es.map (·.hash) ++ c.map (hashInt ·.1)).Nodup := by
   simp only [List.flatten_cons, List.append_assoc, List.map_append] at hn
   rw [<- List.append_assoc] at hn
   exact (List.nodup_append.mp hn).1
  have h := flush_long (w := w) (b := b) (k := goK) (c := c) hs hd hne (by lia) (by lia) hn1
  have hfl : flD (c.map pairOf) (some L0.length) = flushes (c.map pairOf) L0.length goK := by
   unfold flD
   rw [if_neg (by cases c with | nil => cases hc17 | cons x r => simp)]
  rw [<- hfl] at h
  have h2 := ih (es ++ ents s.toks c) (subs ++ [dObjL (ents s.toks c)]) { s with heap := hp (L0 ++ dObjL (es ++ ents s.toks c) :: (subs ++ [dObjL (ents s.toks c)])), toks := s.toks + 3 * c.length } (fun c' h' => hc c' (List.mem_cons_of_mem _ h')) rfl
   (by intro q; exact hne (List.append_eq_nil_iff.mp q).1) (by rw [List.length_append, ents_length]; lia)
   (by
    rw [List.map_append, ents_hash]
    simp only [List.flatten_cons, List.append_assoc, List.map_append] at hn ⊢
    exact hn)
  have q := G.cast (n' := 330 * (c :: r).length + (6 + 19 * tail.length)) (chunk hf hc17 h h2) (by rw [List.length_cons, hc17]; lia)
  simp only [chE, chT, List.flatten_cons, List.map_cons, List.append_assoc, List.cons_append, List.nil_append] at q ⊢
  exact q
end
end
section
set_option maxRecDepth 1000000
open PySem PySem.W
noncomputable def b3st : Stmt := stAt body 7
noncomputable def b3ts : List Expr := match b3st with | .Assign t _ _ => t | _ => []
noncomputable def b3val : Expr := match b3st with | .Assign _ v _ => v | _ => .Name "x" ⟨0,0,0,0⟩
noncomputable def b3p : Pos := match b3st with | .Assign _ _ p => p | _ => ⟨0,0,0,0⟩
noncomputable def b3keys : List (Option Expr) := match b3val with | .Dict k _ _ => k | _ => []
noncomputable def b3vals : List Expr := match b3val with | .Dict _ v _ => v | _ => []
noncomputable def conOf : Option Expr -> Expr -> Int × Str
 | some (.Constant (.int k) _ _), .Constant (.str x) _ _ => (k, x)
 | _, _ => (0, ⟨⟨[]⟩⟩)
noncomputable def b3ps : List (Int × Str) := (b3keys.zip b3vals).map fun x => conOf x.1 x.2
noncomputable def c0 : List (Int × Str) := b3ps.take 17
noncomputable def chs : List (List (Int × Str)) := (List.range 37).map fun j => (b3ps.drop (17 * (j + 1))).take 17
noncomputable def tail : List (Int × Str) := b3ps.drop 646
theorem st_is : sts 7 1 = [.Assign b3ts (.Dict b3keys b3vals bp) b3p] := by kernel_rfl
theorem sw1 : swapsWithSole b3ts (.Dict b3keys b3vals bp) b3p.line env = pure false := by kernel_rfl
theorem sw2 : swappedStores b3ts (.Dict b3keys b3vals bp) env = pure none := by kernel_rfl
theorem items_is : ((evalEachOpt b3keys env).zip ((evalEach b3vals env).map fun v => do let x <- v; standAt bp; pure x)) = b3ps.map it := by kernel_rfl
theorem ps_is : b3ps = c0 ++ (chs.flatten ++ tail) := by kernel_rfl
noncomputable def asc : List Int -> Bool
 | a :: b :: r => decide (a < b) && asc (b :: r)
 | _ => true
theorem asc_lt : ∀ (l : List Int) (a : Int), asc (a :: l) = true -> ∀ x ∈ l, a < x
 | [], _, _, _, h => nomatch h
 | b :: r, a, h, x, hx => by
  simp only [asc, Bool.and_eq_true, decide_eq_true_eq] at h
  rcases List.mem_cons.mp hx with rfl | hx
  ·exact h.1
  ·exact Int.lt_trans h.1 (asc_lt r b h.2 x hx)
theorem asc_tail {a : Int} {l : List Int} (h : asc (a :: l) = true) : asc l = true := by
 cases l with
 | nil => rfl
 | cons b r => simp only [asc, Bool.and_eq_true] at h; exact h.2
theorem asc_nodup : ∀ (l : List Int), asc l = true -> l.Nodup
 | [], _ => .nil
 | a :: l, h => List.nodup_cons.mpr ⟨fun q => Int.lt_irrefl _ (asc_lt l a h a q), asc_nodup l (asc_tail h)⟩
theorem hashes : (b3ps.map (hashInt ·.1)).Nodup := asc_nodup _ (by kernel_rfl)
theorem lens : c0.length = 17 /\ tail.length = 4 /\ chs.length = 37 := ⟨by kernel_rfl, by kernel_rfl, by kernel_rfl⟩
theorem lens17 : (chs.all fun c => c.length == 17) = true := by kernel_rfl
theorem toks_is : chT 452 chs = 2339 := by kernel_rfl
noncomputable def tm (P : Params) : BT := (tx3 P).set 3 fun _ => ((tx2 P).get 3).getD default
theorem heap_end (P : Params) : hp ((tx2 P).list 65 ++ dObjL (ents 401 c0 ++ ((chE 452 chs).flatten ++ ents2 2339 tail)) :: ((chE 452 chs).map dObjL ++ [dObjL (ents2 2339 tail)])) = absHeap (tm P) 104 life := by kernel_rfl
theorem heap_start (P : Params) : absHeap (tx2 P) 65 life = hp ((tx2 P).list 65) := by kernel_rfl
theorem last_go (w : World) (os : OsState) (K : Unit -> Sem Fin) (H : Value -> Sem Fin) (gd : Bool -> Bool) (lv : List Value -> List Value) :
  segGoT treeTable pw w 28 (some (.ref 6)) 1 7 (ST tm 104 2351 w os) ⟨(assignAll (.ref 65) ((assignEach b3ts env).map (·.2))).wrap K H gd lv, code, bp, B0⟩ = some (ST tx3 104 2352 w os, ⟨K (), code, ⟨23, 0, 23, 13⟩, B0⟩) := by kernel_rfl
end
section
set_option maxRecDepth 100000
open PySem PySem.W
section
variable {w : World} {b : Bool}
theorem display_go {L0 : List Obj} {s : Shared} (hd : L0.length = 65) (hs : s.heap = hp L0) (ht : s.toks = 401) :
  G (w.withFollow "special-get-raises" b) (223 + (330 * 37 + (6 + 19 * 4))) (dictDisplay (b3ps.map it)) s bp (.ref 65)
   { s with heap := hp (L0 ++ dObjL (ents 401 c0 ++ ((chE 452 chs).flatten ++ ents2 2339 tail)) :: ((chE 452 chs).map dObjL ++ [dObjL (ents2 2339 tail)])), toks := 2351 } bp := by
 obtain ⟨f, hf, hdisp⟩ := display_is
 obtain ⟨l1, l2, l3⟩ := lens
 have hN := hashes
 rw [ps_is] at hN ⊢
 rw [hdisp, List.map_append]
 have hc0 : (c0.map (hashInt ·.1)).Nodup := by rw [List.map_append] at hN; exact (List.nodup_append.mp hN).1
 have hfl : flD (c0.map pairOf) none = (subDict (c0.map pairOf) >>= fun d => pure (some d)) := by
  unfold flD
  rw [if_neg (by rw [List.isEmpty_iff]; intro q; have := congrArg List.length q; rw [List.length_map, l1] at this; cases this)]
 have hsz : s.heap.objs.size = L0.length := by rw [hs]; rfl
 have h := G.sub (w := w) (b := b) (s := s) (ps := c0) (by rw [l1]; decide) (by rw [l1]; decide) hc0 (by rw [hsz, hd]; rfl)
 have e1 : setD (s.heap.push { cls := .type "dict", data := .dict #[] }) s.heap.objs.size (ents s.toks c0) = hp (L0 ++ dObjL (ents 401 c0) :: []) := by
  rw [hsz, hs, hp_push, hp_set, ht]
 rw [e1, hsz] at h
 have h0 : G (w.withFollow "special-get-raises" b) 223 (flD (c0.map pairOf) none) s bp (some L0.length) { s with heap := hp (L0 ++ dObjL (ents 401 c0) :: []), toks := 452 } bp := by
  rw [l1, ht] at h
  exact G.bind (n := 223) (n' := 0) h G.pure'
 have hk := chunks_go (w := w) (b := b) hf (L0 := L0) (by lia) (tail := tail) (by decide) (by exact Nat.le_add_left _ _) chs (ents 401 c0) [] { s with heap := hp (L0 ++ dObjL (ents 401 c0) :: []), toks := 452 }
  (fun c hc => by have := List.all_eq_true.mp lens17 c hc; exact eq_of_beq this) rfl (by intro q; have := congrArg List.length q; cases this)
  (by decide) (by exact hN)
 have q := chunk hf l1 h0 hk
 dsimp only at q
 rw [l2, l3, toks_is, hd] at q
 exact q
theorem stmt_go (os : OsState) : G (w.withFollow "special-get-raises" b) (1 + (0 + ((1 + (223 + (330 * 37 + (6 + 19 * 4)))) + (0 + (7 + 0)))) + 0) (execs (sts 7 1) env) (ST tx2 65 401 (w.withFollow "special-get-raises" b) os).abs ⟨21, 0, 22, 30⟩ .next (ST tx3 104 2352 (w.withFollow "special-get-raises" b) os).abs ⟨23, 0, 23, 13⟩ := by
 have hex : G (w.withFollow "special-get-raises" b) (1 + (0 + ((1 + (223 + (330 * 37 + (6 + 19 * 4)))) + (0 + (7 + 0))))) (exec (.Assign b3ts (.Dict b3keys b3vals bp) b3p) env) (ST tx2 65 401 (w.withFollow "special-get-raises" b) os).abs ⟨21, 0, 22, 30⟩ .next (ST tx3 104 2352 (w.withFollow "special-get-raises" b) os).abs ⟨23, 0, 23, 13⟩ := by
  refine G.bind (n := 1) (G.at (q := b3p)) ?_
  refine G.bind (n := 0) (a := false) (by exact G.pure') ?_
  refine G.bind (n := 1 + (223 + (330 * 37 + (6 + 19 * 4)))) (a := .ref 65) (s' := (ST tm 104 2351 (w.withFollow "special-get-raises" b) os).abs) (p' := bp) ?_ ?_
  ·refine G.bind (n := 1) (G.at (q := bp)) ?_
   have := display_go (w := w) (b := b) (L0 := (tx2 (w.withFollow "special-get-raises" b).params).list 65) (s := (ST tx2 65 401 (w.withFollow "special-get-raises" b) os).abs) (by unfold BT.list; rw [List.length_map, List.length_range]) (heap_start _) rfl
   rw [heap_end] at this
   exact this
  ·refine G.bind (n := 0) (a := none) (by exact G.pure') ?_
   refine G.bind (n := 7) (n' := 0) (a := ()) (fun K H gd lv => ?_) G.pure'
   exact segGo_of (last_go _ os K H gd lv)
 rw [st_is]
 exact G.bind hex G.pure'
end
theorem p3 (w : World) (os : OsState) : segRun treeTable pw w 28 (some (.ref 6)) 1 12525 (ST tx2 65 401 w os).abs (piecesOf (sts 7 1) env code ⟨21, 0, 22, 30⟩ [topFrame ⟨0, 0, 0, 0⟩]) = some (.next, (ST tx3 104 2352 w os).abs, code, ⟨23, 0, 23, 13⟩) := by
 refine byRow2 "special-get-raises" (P := fun w => segRun treeTable pw w 28 (some (.ref 6)) 1 12525 (ST tx2 65 401 w os).abs (piecesOf (sts 7 1) env code ⟨21, 0, 22, 30⟩ [topFrame ⟨0, 0, 0, 0⟩]) = some (.next, (ST tx3 104 2352 w os).abs, code, ⟨23, 0, 23, 13⟩)) (fun w => ?_) (fun w => ?_) w
 all_goals exact seg_go (n := 12524) (N := 1) (stmt_go os doneF deadEnd id id) rfl
end
section
set_option maxRecDepth 1000000
open PySem PySem.W
noncomputable abbrev Seg (w : World) (n : Nat) (s : SharedT) (i k : Nat) (p : Pos) (s' : SharedT) (p' : Pos) : Prop :=
 segRunT treeTable pw w 28 (some (.ref 6)) 1 n s (piecesOf (sts i k) env code p [topFrame ⟨0, 0, 0, 0⟩]) = some (.next, s', code, p')
noncomputable abbrev Rest (l : List Stmt) (p : Pos) : Thread := restOf l env code p [topFrame ⟨0, 0, 0, 0⟩]
noncomputable abbrev Top (w : World) (n : Nat) (s : SharedT) (t : Thread) (r : Shared) : Prop := topRun treeTable pw w 28 (some (.ref 6)) n s.abs t = some r
theorem step_of {w : World} {n m : Nat} {s s' : SharedT} {i k : Nat} {p p' : Pos} {l rest : List Stmt} {r : Shared} (h : Seg w n s i k p s' p') (e : l = sts i k ++ rest) (hr : Top w m s' (Rest rest p') r) : Top w (n + m) s (Rest l p) r := by
 subst e
 exact piece_app (segRun_of h) hr
theorem pre (w : World) (os : OsState) : topGo treeTable pw w 28 (some (.ref 6)) 12 (ST ts 28 276 w os).abs (topStub pw) = some ((ST ta 32 282 w os).abs, ⟨denote treeTable code, code, ⟨0, 0, 0, 0⟩, [topFrame ⟨0, 0, 0, 0⟩]⟩) := by kernel_rfl
theorem block (w : World) (os : OsState) : segRun treeTable pw w 28 (some (.ref 6)) 1 1 (ST ta 32 282 w os).abs (blockOf body env code ⟨0, 0, 0, 0⟩ [topFrame ⟨0, 0, 0, 0⟩]) = some (.next, (ST ta 32 282 w os).abs, code, ⟨0, 0, 0, 0⟩) := by kernel_rfl
theorem fin (w : World) (os : OsState) : Top w 2 (ST tx10 338 2886 w os) ⟨doneF .next, code, ⟨290, 0, 298, 44⟩, [topFrame ⟨0, 0, 0, 0⟩]⟩ (ST tx10 338 2886 w os).abs := by kernel_rfl
theorem body_is : body = sts 0 5 ++ (sts 5 1 ++ (sts 6 1 ++ (sts 7 1 ++ (sts 8 30 ++ (sts 38 22 ++ (sts 60 1 ++ (sts 61 6 ++ (sts 67 1 ++ (sts 68 7 ++ (sts 75 6 ++ [])))))))))) := by kernel_rfl
theorem run_of (w : World) (os : OsState)
  (p0 : Seg w 220 (ST ta 32 282 w os) 0 5 ⟨0, 0, 0, 0⟩ (ST tx0 47 334 w os) ⟨19, 0, 19, 8⟩)
  (p1 : Seg w 999 (ST tx0 47 334 w os) 5 1 ⟨19, 0, 19, 8⟩ (ST tx1 58 394 w os) ⟨20, 0, 20, 6⟩)
  (p2 : Seg w 30 (ST tx1 58 394 w os) 6 1 ⟨20, 0, 20, 6⟩ (ST tx2 65 401 w os) ⟨21, 0, 22, 30⟩)
  (p3 : segRun treeTable pw w 28 (some (.ref 6)) 1 12525 (ST tx2 65 401 w os).abs (piecesOf (sts 7 1) env code ⟨21, 0, 22, 30⟩ [topFrame ⟨0, 0, 0, 0⟩]) = some (.next, (ST tx3 104 2352 w os).abs, code, ⟨23, 0, 23, 13⟩))
  (p4 : Seg w 292 (ST tx3 104 2352 w os) 8 30 ⟨23, 0, 23, 13⟩ (ST tx4 111 2418 w os) ⟨57, 0, 57, 9⟩)
  (p5 : Seg w 199 (ST tx4 111 2418 w os) 38 22 ⟨57, 0, 57, 9⟩ (ST tx5 111 2462 w os) ⟨79, 0, 79, 9⟩)
  (p6 : Seg w 979 (ST tx5 111 2462 w os) 60 1 ⟨79, 0, 79, 9⟩ (ST tx6 114 2559 w os) ⟨80, 0, 80, 17⟩)
  (p7 : Seg w 243 (ST tx6 114 2559 w os) 61 6 ⟨80, 0, 80, 17⟩ (ST tx7 145 2642 w os) ⟨89, 0, 89, 20⟩)
  (p8 : Seg w 729 (ST tx7 145 2642 w os) 67 1 ⟨89, 0, 89, 20⟩ (ST tx8 272 2799 w os) ⟨90, 0, 164, 16⟩)
  (p9 : Seg w 178 (ST tx8 272 2799 w os) 68 7 ⟨90, 0, 164, 16⟩ (ST tx9 306 2845 w os) ⟨227, 0, 235, 20⟩)
  (p10 : Seg w 164 (ST tx9 306 2845 w os) 75 6 ⟨227, 0, 235, 20⟩ (ST tx10 338 2886 w os) ⟨290, 0, 298, 44⟩) :
  Top w (12 + (1 + (220 + (999 + (30 + (12525 + (292 + (199 + (979 + (243 + (729 + (178 + (164 + 2))))))))))))) (ST ts 28 276 w os) (topStub pw) (ST tx10 338 2886 w os).abs :=
 go_top (pre w os) (piece_block (block w os) (step_of p0 body_is (step_of p1 rfl (step_of p2 rfl (piece_app (l := sts 7 1) p3 (step_of p4 rfl (step_of p5 rfl (step_of p6 rfl (step_of p7 rfl (step_of p8 rfl (step_of p9 rfl (step_of p10 rfl (fin w os)))))))))))))
end
section
set_option maxRecDepth 1000000
open PySem PySem.W PySem.Calls PyProof.Rows
noncomputable def q : Program := view pw [0, 81]
noncomputable def loose : List Str := pw.boundNames.filter fun n => n != "law" && n != "_sre" && !startupNames.contains n
theorem kAs_is : ∀ P, kAs = (K P).map (·.1) := fun P => by kernel_rfl
noncomputable def hook : Hook := kHook K kAs kAs_is
noncomputable def Xt (s : Shared) : Bool := true
noncomputable abbrev SF (w : World) (os : OsState) : Shared := (ST tx10 338 2886 w os).abs
theorem look1 (w : World) (os : OsState) : (staticsOk (importedModules pw.main.body) (absHeap (ts w.params) 28 life) (SF w os).heap && namesBound pw (SF w os).heap && gensDone (SF w os) && laidKept (absHeap (ts w.params) 28 life) (SF w os).heap) = true := by kernel_rfl
theorem look3 (w : World) (os : OsState) : hook.obs (SF w os) = hook.val w := by kernel_rfl
theorem l1 (w : World) (os : OsState) : seen ((recsOf q).map (·.name)) (ownsOf q) [] { SF w os with gens := #[] } = expectedOf q := by
 rw [PySem.W.Fast.te5160383126252970620]; kernel_rfl
theorem l2 (w : World) (os : OsState) : (SF w os).heap.bltView = bltViewBooted := by kernel_rfl
theorem l3a (w : World) (os : OsState) : (SF w os).heap.keysOk (looseW q loose) ((recsOf q).map (·.name)) ((litsOf q).map (·.1)) ((clssOf q (looseW q loose)).map (·.name)) = true := by
 rw [PySem.W.Fast.te10880121769531294198, PySem.W.Fast.te821141287760084731, PySem.W.Fast.te7409074990110511671, PySem.W.Fast.te13664370479719496447]; kernel_rfl
theorem l3b (w : World) (os : OsState) : (SF w os).heap.accountedOkI (importedModules pw.main.body) = true := by kernel_rfl
theorem l3c (w : World) (os : OsState) : (SF w os).heap.isNs mainGlobals = true /\ (SF w os).heap.isNs builtinsNs = true := ⟨by kernel_rfl, by kernel_rfl⟩
theorem l3d (w : World) (os : OsState) : tablesOk q (SF w os).heap = true := by kernel_rfl
theorem l4 (w : World) (os : OsState) : tabsOk q (SF w os) = true := by kernel_rfl
theorem l5 (w : World) (os : OsState) : pinSeenD q (drecsOf q) (SF w os) = pinGoodD (drecsOf q) := by kernel_rfl
theorem l6 (w : World) (os : OsState) : plainSeenE q (looseW q loose) (SF w os) = plainGoodE q (looseW q loose) := by kernel_rfl
theorem l7 (w : World) (os : OsState) : plainSeenD q loose (SF w os) = plainGoodD q loose := by kernel_rfl
theorem l8 (w : World) (os : OsState) : wideSeen q (SF w os) = wideGood q := by kernel_rfl
theorem l9 (w : World) (os : OsState) : clsSeenW q loose (SF w os) = clsGoodW q loose := by kernel_rfl
theorem look2 (w : World) (os : OsState) : openSeen q loose (importedModules pw.main.body) Xt true (SF w os) = openGood q loose := by
 unfold openSeen openGood
 rw [l1, l2, l3a, l3b, (l3c w os).1, (l3c w os).2, l3d, l4, l5, l6, l7, l8, l9]
 rfl
theorem size_is (w : World) : ((absHeap (ts w.params) 28 life).isNs mainGlobals && (Array.mk ([] : List GenState)).size == 0, (absHeap (ts w.params) 28 life).objs.size, (absHeap (ts w.params) 28 life).nsMap mainGlobals "__annotations__") = (true, 28, some (.ref 6)) := by kernel_rfl
theorem seg_quick {w : World} {n : Nat} {s s' : SharedT} {i k : Nat} {p p' : Pos}
 (h : PySem.W.Fast.tw10110043849684766642 PySem.W.Fast.tw14364793385576792824 pw w 28 (some (.ref 6)) 1 n s (piecesOf (sts i k) env code p [topFrame ⟨0, 0, 0, 0⟩]) = some (.next, s', code, p')) : Seg w n s i k p s' p' := by
 unfold Seg
 rw [PySem.W.Fast.te10110043849684766642, PySem.W.Fast.te14364793385576792824]; exact h
theorem p0 (w : World) (os : OsState) : Seg w 220 (ST ta 32 282 w os) 0 5 ⟨0, 0, 0, 0⟩ (ST tx0 47 334 w os) ⟨19, 0, 19, 8⟩ := by
 refine byRow2 "special-get-raises" (P := fun w => Seg w 220 (ST ta 32 282 w os) 0 5 ⟨0, 0, 0, 0⟩ (ST tx0 47 334 w os) ⟨19, 0, 19, 8⟩) ?_ ?_ w
 ·intro w; kernel_rfl
 ·intro w; kernel_rfl
noncomputable def P1 (os : OsState) (w : World) : Prop := Seg w 999 (ST tx0 47 334 w os) 5 1 ⟨19, 0, 19, 8⟩ (ST tx1 58 394 w os) ⟨20, 0, 20, 6⟩
theorem p1ff (os : OsState) (w : World) : P1 os ((w.withFollow "set-order" false).withFollow "special-get-raises" false) := seg_quick (by kernel_rfl)
theorem p1ft (os : OsState) (w : World) : P1 os ((w.withFollow "set-order" true).withFollow "special-get-raises" false) := seg_quick (by kernel_rfl)
theorem p1tf (os : OsState) (w : World) : P1 os ((w.withFollow "set-order" false).withFollow "special-get-raises" true) := seg_quick (by kernel_rfl)
theorem p1tt (os : OsState) (w : World) : P1 os ((w.withFollow "set-order" true).withFollow "special-get-raises" true) := seg_quick (by kernel_rfl)
theorem p1 (w : World) (os : OsState) : P1 os w := byRow2 "special-get-raises" (P := P1 os) (byRow2 "set-order" (P := fun w => P1 os (w.withFollow "special-get-raises" false)) (p1ff os) (p1ft os)) (byRow2 "set-order" (P := fun w => P1 os (w.withFollow "special-get-raises" true)) (p1tf os) (p1tt os)) w
theorem p2 (w : World) (os : OsState) : Seg w 30 (ST tx1 58 394 w os) 6 1 ⟨20, 0, 20, 6⟩ (ST tx2 65 401 w os) ⟨21, 0, 22, 30⟩ := by kernel_rfl
theorem p4 (w : World) (os : OsState) : Seg w 292 (ST tx3 104 2352 w os) 8 30 ⟨23, 0, 23, 13⟩ (ST tx4 111 2418 w os) ⟨57, 0, 57, 9⟩ := by kernel_rfl
theorem p5 (w : World) (os : OsState) : Seg w 199 (ST tx4 111 2418 w os) 38 22 ⟨57, 0, 57, 9⟩ (ST tx5 111 2462 w os) ⟨79, 0, 79, 9⟩ := by kernel_rfl
theorem p6 (w : World) (os : OsState) : Seg w 979 (ST tx5 111 2462 w os) 60 1 ⟨79, 0, 79, 9⟩ (ST tx6 114 2559 w os) ⟨80, 0, 80, 17⟩ := by
 refine byRow2 "special-get-raises" (P := fun w => Seg w 979 (ST tx5 111 2462 w os) 60 1 ⟨79, 0, 79, 9⟩ (ST tx6 114 2559 w os) ⟨80, 0, 80, 17⟩) ?_ ?_ w
 ·intro w; kernel_rfl
 ·intro w; kernel_rfl
theorem p7 (w : World) (os : OsState) : Seg w 243 (ST tx6 114 2559 w os) 61 6 ⟨80, 0, 80, 17⟩ (ST tx7 145 2642 w os) ⟨89, 0, 89, 20⟩ := by kernel_rfl
theorem p8 (w : World) (os : OsState) : Seg w 729 (ST tx7 145 2642 w os) 67 1 ⟨89, 0, 89, 20⟩ (ST tx8 272 2799 w os) ⟨90, 0, 164, 16⟩ := by refine seg_quick ?_; kernel_rfl
theorem p9 (w : World) (os : OsState) : Seg w 178 (ST tx8 272 2799 w os) 68 7 ⟨90, 0, 164, 16⟩ (ST tx9 306 2845 w os) ⟨227, 0, 235, 20⟩ := by kernel_rfl
theorem p10 (w : World) (os : OsState) : Seg w 164 (ST tx9 306 2845 w os) 75 6 ⟨227, 0, 235, 20⟩ (ST tx10 338 2886 w os) ⟨290, 0, 298, 44⟩ := by kernel_rfl
theorem op (w : World) : (fencedOpening treeTable pw w 20000).map (fun s => (s.heap, s.gens, s.drawn, s.toks)) = some (absHeap (ts w.params) 28 life, ⟨[]⟩, {}, 276) := by
 unfold fencedOpening
 rw [PySem.W.Fast.te10274390034422433532, PySem.W.Fast.te14364793385576792824]
 kernel_rfl
theorem left : LeftO pw q loose Xt hook.obs hook.val 20000 :=
 LeftO.of_pieces (H₀ := fun P => absHeap (ts P) 28 life) (H₁ := fun P => absHeap (tx10 P) 338 life) (gs₀ := ⟨[]⟩) (gs₁ := ⟨[]⟩) (d₀ := {}) (d₁ := {}) (k₀ := 276) (k₁ := 2886) (m₀ := 28) (ann := some (.ref 6))
  (M := 12 + (1 + (220 + (999 + (30 + (12525 + (292 + (199 + (979 + (243 + (729 + (178 + (164 + 2)))))))))))))
  op size_is (fun w os => run_of w os (p0 w os) (p1 w os) (p2 w os) (p3 w os) (p4 w os) (p5 w os) (p6 w os) (p7 w os) (p8 w os) (p9 w os) (p10 w os)) rfl
  (fun w => funext fun os => Prod.ext (look1 w os) (Prod.ext (look2 w os) (look3 w os)))
noncomputable abbrev row : OpenRow := Challenge.rw_wf0114_01.row
noncomputable def dk : DefRec × List (Str × Expr) := match defOf q "law" with | some x => x | none => (⟨"", ⟨[], [], none, [], [], none, []⟩, [], ⟨.module, [], false, false, []⟩, ⟨0, 0, 0, 0⟩⟩, [])
theorem dk_is : defOf q row.name = some (dk.1, dk.2) := by kernel_rfl
theorem said : Challenge.rw_wf0114_01.wellSaid = true := by
 unfold OpenLaw.wellSaid OpenRow.wellSaid OpenRow.partSaid looksOpen
 repeat' with_reducible apply look_both
 all_goals as_aux_lemma => decide +kernel
theorem head (hw : row.toRowW.promised) (call : WalkO q loose (fun _ _ => True) hook.says row.toRowW dk.1 dk.2 fun f vs => PySem.call f vs) : Challenge.rw_wf0114_01.Holds := by
 w_on
 refine holds_law said fun _ => ?_
 exact holds_open (Xt := Xt) (XP := fun _ _ => True) left hook.of hook.keeps (fun _ _ => trivial) (fun _ _ _ _ _ => trivial) dk_is (by kernel_rfl) (by kernel_rfl) (fun s e => recFacts_nil rfl) (by rfl) (by assumption) (by decide +kernel) ⟨rfl, rfl, rfl, rfl, rfl, by decide +kernel⟩ hw call
end
section
set_option maxRecDepth 100000
open PySem PySem.W PySem.Calls PyProof.Rows
set_option genSizeOf false
inductive PV where
 | none | bool (b : Bool) | int (i : Int) | str (l : List Nat)
 | list (l : List PV) | tup (l : List PV) | ptr (i : Nat) | tab (i : Nat) | ftab (l : List PV) | ob (a : Nat)
 deriving Inhabited
inductive MV where
 | list (l : List PV)
noncomputable abbrev Part := Addr -> Option Obj
noncomputable def SeqIn (g : Part) (T : String) (a : Addr) (vs : Array Value) : Prop := ∃ o, g a = some o /\ o.cls = .type T /\ ∃ n, o.data = .seq vs n
theorem SeqIn.mono {g g' : Part} {T : String} {a : Addr} {vs : Array Value} (x : SeqIn g T a vs) (k : ∀ b o, g b = some o -> g' b = some o) : SeqIn g' T a vs := let ⟨o, e, r⟩ := x; ⟨o, k _ _ e, r⟩
noncomputable def vis (h : Heap) (M : List Addr) : Part := fun b => if b ∈ M then none else h.get? b
noncomputable def TabIn (g : Part) (a l : Addr) : Prop := ∃ (dx : Addr) (hs : Int) (tk : Tok), g a = some (instObj 267 dx) /\ g dx = some (dictOf [⟨hs, .str "_headers" tk, .ref l⟩] 1)
theorem TabIn.mono {g g' : Part} {a l : Addr} (x : TabIn g a l) (k : ∀ b o, g b = some o -> g' b = some o) : TabIn g' a l := let ⟨dx, hs, tk, e1, e2⟩ := x; ⟨dx, hs, tk, k _ _ e1, k _ _ e2⟩
mutual
inductive Rep (g : Part) (ads : List Addr) : Value -> PV -> Prop
 | none : Rep g ads .none .none
 | bool (b) : Rep g ads (.bool b) (.bool b)
 | int (i t) : Rep g ads (.int i t) (.int i)
 | str (s t) : Rep g ads (.str s t) (.str s.cps.toList)
 | list (a vs ds) : SeqIn g "list" a vs -> Reps g ads vs.toList ds -> Rep g ads (.ref a) (.list ds)
 | tup (a vs ds) : SeqIn g "tuple" a vs -> Reps g ads vs.toList ds -> Rep g ads (.ref a) (.tup ds)
 | ptr (a i) : ads[i]? = some a -> Rep g ads (.ref a) (.ptr i)
 | tab (a l i) : TabIn g a l -> ads[i]? = some l -> Rep g ads (.ref a) (.tab i)
 | ftab (a l vs ds) : TabIn g a l -> SeqIn g "list" l vs -> Reps g ads vs.toList ds -> Rep g ads (.ref a) (.ftab ds)
 | ob (a) : Rep g ads (.ref a) (.ob a)
inductive Reps (g : Part) (ads : List Addr) : List Value -> List PV -> Prop
 | nil : Reps g ads [] []
 | cons (v d vs ds) : Rep g ads v d -> Reps g ads vs ds -> Reps g ads (v :: vs) (d :: ds)
end
theorem Reps.ind {g : Part} {ads : List Addr} {P : List Value -> List PV -> Prop} (n : P [] []) (c : ∀ v d vs ds, Rep g ads v d -> Reps g ads vs ds -> P vs ds -> P (v :: vs) (d :: ds)) {vs ds} (r : Reps g ads vs ds) : P vs ds :=
 Reps.rec (motive_1 := fun _ _ _ => True) (motive_2 := fun vs ds _ => P vs ds) trivial (fun _ => trivial) (fun _ _ => trivial) (fun _ _ => trivial) (fun _ _ _ _ _ _ => trivial) (fun _ _ _ _ _ _ => trivial) (fun _ _ _ => trivial) (fun _ _ _ _ _ => trivial) (fun _ _ _ _ _ _ _ _ => trivial) (fun _ => trivial) n (fun v d vs ds a r _ ih => c v d vs ds a r ih) r
noncomputable def RInv (g : Part) (ads : List Addr) (vs : List Value) : List PV -> Prop
 | [] => vs = []
 | d :: ds => ∃ v ws, vs = v :: ws /\ Rep g ads v d /\ Reps g ads ws ds
theorem Reps.inv {g : Part} {ads : List Addr} {vs ds} (r : Reps g ads vs ds) : RInv g ads vs ds :=
 r.ind (P := RInv g ads) rfl fun v _ vs _ a r _ => ⟨v, vs, rfl, a, r⟩
theorem Rep.mono {g g' : Part} {ads ads' : List Addr} (k : ∀ b o, g b = some o -> g' b = some o) (ka : ∀ (i : Nat) (a : Addr), ads[i]? = some a -> ads'[i]? = some a) {v d} (r : Rep g ads v d) : Rep g' ads' v d :=
 Rep.rec (motive_1 := fun v d _ => Rep g' ads' v d) (motive_2 := fun vs ds _ => Reps g' ads' vs ds) .none .bool .int .str (fun a vs ds e _ r => .list a vs ds (e.mono k) r) (fun a vs ds e _ r => .tup a vs ds (e.mono k) r) (fun a i e => .ptr a i (ka _ _ e)) (fun a l i x e => .tab a l i (x.mono k) (ka _ _ e)) (fun a l vs ds x e _ r => .ftab a l vs ds (x.mono k) (e.mono k) r) .ob .nil (fun v d vs ds _ _ a r => .cons v d vs ds a r) r
theorem Reps.mono {g g' : Part} {ads ads' : List Addr} (k : ∀ b o, g b = some o -> g' b = some o) (ka : ∀ (i : Nat) (a : Addr), ads[i]? = some a -> ads'[i]? = some a) {vs ds} (r : Reps g ads vs ds) : Reps g' ads' vs ds :=
 r.ind (P := Reps g' ads') .nil fun v d vs ds a _ r => .cons v d vs ds (a.mono k ka) r
theorem Rep.keep {g g' : Part} {ads : List Addr} {v d} (x : Rep g ads v d) (k : ∀ b o, g b = some o -> g' b = some o) : Rep g' ads v d := x.mono k fun _ _ e => e
theorem Reps.keep {g g' : Part} {ads : List Addr} {v d} (x : Reps g ads v d) (k : ∀ b o, g b = some o -> g' b = some o) : Reps g' ads v d := x.mono k fun _ _ e => e
theorem Reps.length {g : Part} {ads : List Addr} {vs ds} (r : Reps g ads vs ds) : vs.length = ds.length :=
 r.ind (P := fun vs ds => vs.length = ds.length) rfl fun _ _ _ _ _ _ e => congrArg Nat.succ e
theorem Reps.append {g : Part} {ads : List Addr} {vs ds ws es} (r : Reps g ads vs ds) (y : Reps g ads ws es) : Reps g ads (vs ++ ws) (ds ++ es) :=
 r.ind (P := fun vs ds => Reps g ads (vs ++ ws) (ds ++ es)) y fun _ _ _ _ a _ r => .cons _ _ _ _ a r
theorem Reps.both {g : Part} {ads : List Addr} {vs ds} (r : Reps g ads vs ds) : ∀ i : Nat, (vs[i]? = none /\ ds[i]? = none) ∨ ∃ v d, vs[i]? = some v /\ ds[i]? = some d /\ Rep g ads v d :=
 r.ind (P := fun vs ds => ∀ i : Nat, (vs[i]? = none /\ ds[i]? = none) ∨ ∃ v d, vs[i]? = some v /\ ds[i]? = some d /\ Rep g ads v d) (fun _ => .inl ⟨rfl, rfl⟩) fun v d _ _ a _ ih i => Nat.rec (.inr ⟨v, d, rfl, rfl, a⟩) (fun i _ => ih i) i
theorem Reps.get {g : Part} {ads : List Addr} {vs ds} {i : Nat} {d : PV} (r : Reps g ads vs ds) (e : ds[i]? = some d) : ∃ v, vs[i]? = some v /\ Rep g ads v d :=
 (r.both i).elim (fun h => nomatch h.2.symm.trans e) fun ⟨v, _, e1, e2, a⟩ => ⟨v, e1, Option.some.inj (e2.symm.trans e) ▸ a⟩
theorem Reps.getV {g : Part} {ads : List Addr} {vs ds} {i : Nat} {v : Value} (r : Reps g ads vs ds) (e : vs[i]? = some v) : ∃ d, ds[i]? = some d /\ Rep g ads v d :=
 (r.both i).elim (fun h => nomatch h.1.symm.trans e) fun ⟨_, d, e1, e2, a⟩ => ⟨d, e2, Option.some.inj (e1.symm.trans e) ▸ a⟩
theorem Reps.take {g : Part} {ads : List Addr} {vs ds} (n : Nat) (r : Reps g ads vs ds) : Reps g ads (vs.take n) (ds.take n) :=
 r.ind (P := fun vs ds => ∀ n, Reps g ads (vs.take n) (ds.take n)) (fun n => by simp; exact .nil) (fun _ _ _ _ a _ ih n => Nat.rec .nil (fun n _ => .cons _ _ _ _ a (ih n)) n) n
theorem Reps.drop {g : Part} {ads : List Addr} {vs ds} (n : Nat) (r : Reps g ads vs ds) : Reps g ads (vs.drop n) (ds.drop n) :=
 r.ind (P := fun vs ds => ∀ n, Reps g ads (vs.drop n) (ds.drop n)) (fun n => by simp; exact .nil) (fun _ _ _ _ a r ih n => Nat.rec (.cons _ _ _ _ a r) (fun n _ => ih n) n) n
theorem vis_get {h : Heap} {M : List Addr} {b : Addr} {o : Obj} (e : vis h M b = some o) : h.get? b = some o /\ b ∉ M := by
 unfold vis at e
 split at e
 ·cases e
 ·exact ⟨e, by assumption⟩
theorem vis_of {h : Heap} {M : List Addr} {b : Addr} {o : Obj} (e : h.get? b = some o) (n : b ∉ M) : vis h M b = some o := by
 unfold vis; rw [if_neg n]; exact e
theorem vis_keep {h h' : Heap} {M : List Addr} (k : ∀ b o, b ∉ M -> h.get? b = some o -> h'.get? b = some o) : ∀ b o, vis h M b = some o -> vis h' M b = some o :=
 fun b o e => vis_of (k b o (vis_get e).2 (vis_get e).1) (vis_get e).2
theorem vis_less {h : Heap} {M M' : List Addr} (k : ∀ a ∈ M, a ∈ M') : ∀ b o, vis h M' b = some o -> vis h M b = some o :=
 fun b o e => vis_of (vis_get e).1 fun m => (vis_get e).2 (k _ m)
structure Fx where
 w : World
 A : Around
 env : Env
 hO : Heap
 cx : List (Str × Nat)
 n : Nat
noncomputable abbrev Keep (h h' : Heap) : Prop := ∀ b o, h.get? b = some o -> h'.get? b = some o
inductive MvAt (h : Heap) (M ads : List Addr) (a : Addr) : MV -> Prop
 | list (vs ds) : h.PlainList a vs -> Reps (vis h M) ads vs.toList ds -> MvAt h M ads a (.list ds)
structure MuAt (hO : Heap) (M ads : List Addr) (μ : List MV) (h : Heap) : Prop where
 base : Keep hO h
 fresh : ∀ a ∈ M, hO.get? a = none
 live : ∀ a ∈ M, ∃ o, h.get? a = some o
 adsM : ∀ a ∈ ads, a ∈ M
 nod : ads.Nodup
 len : ads.length = μ.length
 mus : ∀ (i : Nat) (a : Addr) (m : MV), ads[i]? = some a -> μ[i]? = some m -> MvAt h M ads a m
noncomputable def envCell (env : Env) (x : Str) : Prop := env.kindOf x = some .cell ∨ env.kindOf x = some .free
structure St (f : Fx) (M ads : List Addr) (ρ : List (Option PV)) (μ : List MV) (h : Heap) : Prop where
 mu : MuAt f.hO M ads μ h
 kind : f.env.scope.kind = .function
 glob : f.env.globals = mainGlobals
 blt : f.env.builtins = builtinsNs
 locM : f.env.locals ∈ M
 locA : f.env.locals ∉ ads
 ns : ∃ m, h.Ns f.env.locals m /\ ∀ x (i : Nat) d, f.cx.lookup x = some i -> f.env.kindOf x = some .local -> ρ[i]? = some (some d) -> ∃ v, m x = some v /\ Rep (vis h M) ads v d
 cells : ∀ x, envCell f.env x -> ∃ c ov, f.env.cells.lookup x = some c /\ h.IsCell c ov /\ c ∈ M /\ c ∉ ads /\ c ≠ f.env.locals /\
  ∀ (i : Nat) d, f.cx.lookup x = some i -> ρ[i]? = some (some d) -> ∃ v, ov = some v /\ Rep (vis h M) ads v d
 apart : ∀ x y c, f.env.cells.lookup x = some c -> f.env.cells.lookup y = some c -> x = y
 inj : ∀ x y i, f.cx.lookup x = some i -> f.cx.lookup y = some i -> x = y
 len : ρ.length = f.n
 bnd : ∀ x i, f.cx.lookup x = some i -> i < f.n
theorem MvAt.keep {h h' : Heap} {M ads : List Addr} {a : Addr} {m : MV} (x : MvAt h M ads a m) (ka : ∀ o, h.get? a = some o -> h'.get? a = some o) (k : ∀ b o, b ∉ M -> h.get? b = some o -> h'.get? b = some o) : MvAt h' M ads a m := by
 cases x with
 | list vs ds e r => exact .list vs ds (e.at ka) (r.keep (vis_keep k))
theorem IsCell.at {h h' : Heap} {c : Addr} {v} (x : h.IsCell c v) (k : ∀ o, h.get? c = some o -> h'.get? c = some o) : h'.IsCell c v := let ⟨o, e, r⟩ := x; ⟨o, k _ e, r⟩
theorem Ns.at {h h' : Heap} {c : Addr} {v} (x : h.Ns c v) (k : ∀ o, h.get? c = some o -> h'.get? c = some o) : h'.Ns c v := let ⟨o, es, ep, e, r⟩ := x; ⟨o, es, ep, k _ e, r⟩
theorem MuAt.keep {hO h h' : Heap} {M ads : List Addr} {μ : List MV} (x : MuAt hO M ads μ h) (k : Keep h h') : MuAt hO M ads μ h' where
 base := fun b o e => k _ _ (x.base _ _ e)
 fresh := x.fresh
 live := fun a ha => let ⟨o, e⟩ := x.live a ha; ⟨o, k _ _ e⟩
 adsM := x.adsM
 nod := x.nod
 len := x.len
 mus := fun i a m e1 e2 => (x.mus i a m e1 e2).keep (fun o e => k _ _ e) fun b o _ e => k _ _ e
theorem St.keep {f : Fx} {M ads : List Addr} {ρ : List (Option PV)} {μ : List MV} {h h' : Heap} (x : St f M ads ρ μ h) (k : Keep h h') : St f M ads ρ μ h' where
 mu := x.mu.keep k
 kind := x.kind
 glob := x.glob
 blt := x.blt
 locM := x.locM
 locA := x.locA
 ns := by
  obtain ⟨m, hn, hv⟩ := x.ns
  refine ⟨m, Ns.at hn fun o e => k _ _ e, fun y i d e1 e2 e3 => ?_⟩
  obtain ⟨v, a, b⟩ := hv y i d e1 e2 e3
  exact ⟨v, a, b.keep (vis_keep fun b o _ e => k _ _ e)⟩
 cells := fun y hy => by
  obtain ⟨c, ov, e1, e2, e3, e4, e5, e6⟩ := x.cells y hy
  refine ⟨c, ov, e1, IsCell.at e2 fun o e => k _ _ e, e3, e4, e5, fun i d a b => ?_⟩
  obtain ⟨v, q1, q2⟩ := e6 i d a b
  exact ⟨v, q1, q2.keep (vis_keep fun b o _ e => k _ _ e)⟩
 apart := x.apart
 inj := x.inj
 len := x.len
 bnd := x.bnd
section
set_option genSizeOf false
set_option genInjectivity false
inductive BI where
 | len | sum | chr | ord | int | str | hex | isStr | sorted | lrange
 deriving Inhabited, DecidableEq
inductive MI where
 | lower | isalpha | join | find
 deriving Inhabited, DecidableEq
inductive GI where
 | inTok | notInTok | getTok | getFlag | getB3 | inB1
 deriving Inhabited, DecidableEq
inductive MT where
 | name (i : Nat) | tup (is : List Nat)
 deriving Inhabited
mutual
inductive ME where
 | lit (d : PV)
 | var (i : Nat)
 | bin (op : Operator) (l r : ME)
 | cmp (op : CmpOp) (l r : ME)
 | not (e : ME)
 | bop (isAnd : Bool) (a b : ME)
 | ite (t a b : ME)
 | list (es : List ME)
 | tup (es : List ME)
 | sub (e i : ME)
 | last (e : ME)
 | slice (e lo hi : ME)
 | slice3 (e lo hi st : ME)
 | call (a : Addr) (args : List ME)
 | bi (b : BI) (args : List ME)
 | meth (m : MI) (o : ME) (args : List ME)
 | gop (g : GI) (args : List ME)
 | comp (n : Nat) (elt : ME) (it : ME) (tgt : MT) (ifs : List ME) (gens : List MG)
 | rng (a b : ME)
 | enum (e : ME)
 | ext (P : List (Option PV) -> List MV -> (PV -> Prop) -> Prop)
inductive MG where
 | mk (tgt : MT) (iter : ME) (ifs : List ME)
end
noncomputable abbrev Env' := List (Option PV)
noncomputable def view (μ : List MV) : PV -> PV
 | .ptr i => match μ[i]? with
  | some (.list l) => .list l
  | _ => .ptr i
 | d => d
noncomputable def intsOf : List PV -> Option (List Int)
 | [] => some []
 | .int i :: r => (intsOf r).map (i :: ·)
 | _ => none
noncomputable def strsOf : List PV -> Option (List (List Nat))
 | [] => some []
 | .str i :: r => (strsOf r).map (i :: ·)
 | _ => none
noncomputable def nth (l : List PV) (k : Int) (K : PV -> Prop) : Prop := 0 <= k /\ k < 2 ^ 62 /\ k.toNat < l.length /\ K (l.getD k.toNat .none)
noncomputable def BIN (op : Operator) (a b : PV) (K : PV -> Prop) : Prop :=
 match a with
 | .int a => match b with
  | .int b => match op with
   | .Add => K (.int (a + b))
   | .Sub => K (.int (a - b))
   | .Mult => IntMulOk a b /\ K (.int (a * b))
   | .FloorDiv => (b ≠ 0 /\ b.natAbs < 2 ^ 64) /\ K (.int (a.fdiv b))
   | .Mod => b ≠ 0 /\ K (.int (a.fmod b))
   | .Pow => (0 <= b /\ (Builtin.Int.intBits a : Int) * b <= 2 ^ 27) /\ K (.int (a ^ b.toNat))
   | .LShift => (0 <= b /\ b <= 1000000 /\ a.natAbs < 2 ^ 64) /\ K (.int (a * 2 ^ b.toNat))
   | .RShift => 0 <= b /\ K (.int (a.fdiv (2 ^ b.toNat)))
   | .BitAnd => K (.int (Builtin.bitAnd a b))
   | .BitOr => K (.int (Builtin.bitOr a b))
   | .BitXor => K (.int (Builtin.bitXor a b))
   | _ => False
  | _ => False
 | .str a => match b with
  | .str b => match op with
   | .Add => a.length + b.length <= sizeLine /\ K (.str (a ++ b))
   | _ => False
  | _ => False
 | .list a => match b with
  | .list b => match op with
   | .Add => a.length + b.length <= sizeLine /\ K (.list (a ++ b))
   | _ => False
  | _ => False
 | _ => False
noncomputable def plainEq (x y : PV) : Prop := y = x /\ ∃ a s, x = .tup [.int a, .str s]
noncomputable def plainEqs : List PV -> List PV -> Prop
 | [], [] => True
 | a :: r, b :: q => plainEq a b /\ plainEqs r q
 | _, _ => False
noncomputable def CMP (op : CmpOp) (a b : PV) (K : Bool -> Prop) : Prop :=
 match b with
 | .int b => match a with
  | .int a => match op with
   | .Eq => K (a == b)
   | .NotEq => K (a != b)
   | .Lt => K (decide (a < b))
   | .LtE => K (decide (a <= b))
   | .Gt => K (decide (b < a))
   | .GtE => K (decide (b <= a))
   | _ => False
  | .list _ => op = .Eq /\ K false
  | _ => False
 | .bool b => match a with
  | .bool a => match op with
   | .Eq => K (a == b)
   | .NotEq => K (a != b)
   | _ => False
  | _ => False
 | .str b => match a with
  | .str a => match op with
   | .Eq => K (a == b)
   | .NotEq => K (a != b)
   | _ => False
  | _ => False
 | .list l => match a with
  | .list a => match l with
   | [] => match op with
    | .Eq => K a.isEmpty
    | .NotEq => K (!a.isEmpty)
    | _ => False
   | b :: r => op = .Eq /\ plainEqs a (b :: r) /\ K true
  | .str x => match op with
   | .In => match strsOf l with | some xs => K (xs.contains x) | none => False
   | .NotIn => match strsOf l with | some xs => K (!xs.contains x) | none => False
   | _ => False
  | .int _ => op = .Eq /\ K false
  | _ => False
 | .tup l => match a with
  | .int x => op = .NotIn /\ match intsOf l with | some xs => K (!xs.contains x) | none => False
  | _ => False
 | .none => match op with
  | .Is => match a with | .none => K true | .ptr _ => False | _ => K false
  | .IsNot => match a with | .none => K false | .ptr _ => False | _ => K true
  | _ => False
 | _ => False
noncomputable def TRU (d : PV) (K : Bool -> Prop) : Prop :=
 match d with
 | .bool b => K b
 | .int i => K (i != 0)
 | _ => False
noncomputable def natOr (d : PV) (dflt : Nat) (K : Nat -> Prop) : Prop :=
 match d with
 | .none => K dflt
 | .int i => 0 <= i /\ K i.toNat
 | _ => False
noncomputable def SUB (d i : PV) (K : PV -> Prop) : Prop :=
 match d with
 | .list l => match i with | .int k => nth l k K | _ => False
 | .tup l => match i with | .int k => nth l k K | _ => False
 | .str l => match i with | .int k => 0 <= k /\ k < 2 ^ 62 /\ k.toNat < l.length /\ K (.str [l.getD k.toNat 0]) | _ => False
 | _ => False
noncomputable def every {α : Type} (st : Nat) : Nat -> List α -> List α
 | _, [] => []
 | 0, x :: r => x :: every st (st - 1) r
 | n + 1, _ :: r => every st n r
noncomputable def SLICE (d lo hi : PV) (K : PV -> Prop) : Prop :=
 match d with
 | .list l => l.length <= sizeLine /\ natOr lo 0 fun a => natOr hi l.length fun b => K (.list ((l.drop a).take (b - a)))
 | .str l => l.length <= sizeLine /\ natOr lo 0 fun a => natOr hi l.length fun b => K (.str ((l.drop a).take (b - a)))
 | _ => False
noncomputable def SLICE3 (d lo hi st : PV) (K : PV -> Prop) : Prop :=
 match d with
 | .list l => match lo with
  | .int a => match hi with
   | .int b => match st with
    | .int c => (0 <= a /\ 0 <= b /\ 0 < c /\ b < 2 ^ 62 /\ c < 2 ^ 62 /\ a < 2 ^ 62) /\ K (.list (every c.toNat 0 ((l.take b.toNat).drop a.toNat)))
    | _ => False
   | _ => False
  | _ => False
 | _ => False
noncomputable abbrev strOf (l : List Nat) : Str := ⟨l.toArray⟩
noncomputable def digits (i : Int) : List Nat := (Str.ofString (toString i)).cps.toList
noncomputable def BIF (b : BI) (ds : List PV) (K : PV -> Prop) : Prop :=
 match ds with
 | [d] => match b with
  | .len => match d with
   | .list l => l.length < 2 ^ 62 /\ K (.int l.length)
   | .str l => l.length < 2 ^ 62 /\ K (.int l.length)
   | _ => False
  | .sum => match d with
   | .list l => match intsOf l with | some xs => K (.int xs.sum) | none => False
   | _ => False
  | .chr => match d with
   | .int i => (0 <= i /\ i <= 1114111) /\ K (.str [i.toNat])
   | _ => False
  | .ord => match d with
   | .str l => match l with | [c] => K (.int c) | _ => False
   | _ => False
  | .int => match d with
   | .str l => match PySem.intText? (strOf l) with | some n => l.length <= 640 /\ K (.int n) | none => False
   | _ => False
  | .str => match d with
   | .int i => i.natAbs.log2 < 1920 /\ K (.str (digits i))
   | _ => False
  | .hex => match d with
   | .int i => (baseText "0x" 16 i).length <= sizeLine /\ K (.str (baseText "0x" 16 i).cps.toList)
   | _ => False
  | .isStr => match d with | .str _ => K (.bool true) | .tup _ => K (.bool false) | _ => False
  | .sorted => match d with
   | .list l => match intsOf l with
    | some xs => l.length < 64 /\ ∀ ys : List Int, ys.Perm xs -> ys.Pairwise (· <= ·) -> K (.list (ys.map .int))
    | none => False
   | _ => False
  | _ => False
 | x :: y :: _ => match b with
  | .lrange => match x with
   | .int a => match y with
    | .int b => (0 <= a /\ a <= b /\ b < 2 ^ 24) /\ K (.list ((List.range (b - a).toNat).map fun (i : Nat) => .int (a + (i : Int))))
    | _ => False
   | _ => False
  | _ => False
 | _ => False
noncomputable def METH (m : MI) (o : PV) (ds : List PV) (K : PV -> Prop) : Prop :=
 match o with
 | .str l => match ds with
  | [] => match m with
   | .lower => l.length <= 5592405 /\ K (.str (Txt.lower (strOf l)).cps.toList)
   | .isalpha => K (.bool (Txt.isalpha (strOf l)))
   | _ => False
  | [d] => match m with
   | .join => match d with
    | .list ts => match strsOf ts with
     | some xs => JoinOk (strOf l) (xs.map strOf) = true /\ K (.str (Txt.join (strOf l) (xs.map strOf)).cps.toList)
     | none => False
    | _ => False
   | .find => match d with
    | .str x => K (.int (Txt.find (strOf l) (strOf x)))
    | _ => False
   | _ => False
  | _ => False
 | _ => False
theorem mI {P : Int -> Prop} {d : PV} (e : match d with | .int i => P i | _ => False) : ∃ i, d = .int i /\ P i := by cases d <;> first | exact ⟨_, rfl, e⟩ | exact False.elim e
theorem mS {P : List Nat -> Prop} {d : PV} (e : match d with | .str i => P i | _ => False) : ∃ i, d = .str i /\ P i := by cases d <;> first | exact ⟨_, rfl, e⟩ | exact False.elim e
theorem mL {P : List PV -> Prop} {d : PV} (e : match d with | .list i => P i | _ => False) : ∃ i, d = .list i /\ P i := by cases d <;> first | exact ⟨_, rfl, e⟩ | exact False.elim e
theorem mB {P : Bool -> Prop} {d : PV} (e : match d with | .bool i => P i | _ => False) : ∃ i, d = .bool i /\ P i := by cases d <;> first | exact ⟨_, rfl, e⟩ | exact False.elim e
theorem mO {P : List (List Nat) -> Prop} {d : Option (List (List Nat))} (e : match d with | some i => P i | none => False) : ∃ i, d = some i /\ P i := by cases d <;> first | exact ⟨_, rfl, e⟩ | exact False.elim e
theorem mO2 {P : List Int -> Prop} {d : Option (List Int)} (e : match d with | some i => P i | none => False) : ∃ i, d = some i /\ P i := by cases d <;> first | exact ⟨_, rfl, e⟩ | exact False.elim e
theorem mO3 {P : Int -> Prop} {d : Option Int} (e : match d with | some i => P i | none => False) : ∃ i, d = some i /\ P i := by cases d <;> first | exact ⟨_, rfl, e⟩ | exact False.elim e
theorem mOP {P : PV -> Prop} {d : Option PV} (e : match d with | some i => P i | none => False) : ∃ i, d = some i /\ P i := by cases d <;> first | exact ⟨_, rfl, e⟩ | exact False.elim e
theorem rO {α : Type} {P : α -> Prop} {o : Option α} {x : α} (h : o = some x) (p : P x) : match (generalizing := false) o with | some i => P i | none => False := by subst h; exact p
theorem rOO {P : PV -> Prop} {o : Option (Option PV)} {d : PV} (h : o = some (some d)) (p : P d) : match (generalizing := false) o with | some (some d) => P d | _ => False := by subst h; exact p
theorem mOO {P : PV -> Prop} {o : Option (Option PV)} (e : match o with | some (some d) => P d | _ => False) : ∃ d, o = some (some d) /\ P d := by
 cases o with
 | none => exact False.elim e
 | some d => cases d with
  | none => exact False.elim e
  | some d => exact ⟨d, rfl, e⟩
structure Tabs where
 tok : List Nat -> Option Int
 flag : Int -> Option (List Nat)
 b3 : Int -> Option (List Nat)
 b1 : Int -> Bool
noncomputable def GOP (T : Tabs) (g : GI) (ds : List PV) (K : PV -> Prop) : Prop :=
 match ds with
 | [c] => match c with
  | .str x => match g with
   | .inTok => K (.bool (T.tok x).isSome)
   | .notInTok => K (.bool (!(T.tok x).isSome))
   | _ => False
  | .int x => match g with
   | .getB3 => K (((T.b3 x).map .str).getD .none)
   | .inB1 => K (.bool (T.b1 x))
   | _ => False
  | _ => False
 | [c, d] => match c with
  | .str x => match g with
   | .getTok => K (((T.tok x).map .int).getD d)
   | _ => False
  | .int x => match g with
   | .getFlag => K (((T.flag x).map .str).getD d)
   | _ => False
  | _ => False
 | _ => False
noncomputable def setAll (ρ : Env') : List Nat -> List PV -> Env'
 | i :: is, d :: ds => setAll (ρ.set i (some d)) is ds
 | _, _ => ρ
noncomputable def asgT (t : MT) (d : PV) (ρ : Env') (K : Env' -> Prop) : Prop :=
 match t, d with
 | .name i, d => K (ρ.set i (some d))
 | .tup is, .tup ds => is.length = ds.length /\ K (setAll ρ is ds)
 | _, _ => False
noncomputable def freeT (t : MT) (ρ : Env') : Prop :=
 match t with
 | .name i => ρ[i]? = some none
 | .tup is => ∀ i ∈ is, ρ[i]? = some none
noncomputable def compLoop (body : Env' -> List PV -> (List PV -> Prop) -> Prop) (tgt : MT) (ρ : Env') : List PV -> List PV -> (List PV -> Prop) -> Prop
 | [], acc, K => K acc
 | d :: ds, acc, K => asgT tgt d ρ fun ρ1 => body ρ1 acc fun acc' => compLoop body tgt ρ ds acc' K
noncomputable def enumFrom (i : Nat) : List PV -> List PV
 | [] => []
 | d :: ds => .tup [.int i, d] :: enumFrom (i + 1) ds
noncomputable def itemsOf (d : PV) (K : List PV -> Prop) : Prop :=
 match d with
 | .list l => K l
 | .str l => K (l.map fun c => .str [c])
 | _ => False
noncomputable abbrev CT := Addr -> List MV -> List PV -> (PV -> Prop) -> Prop
section
variable (T : Tabs) (C : CT)
mutual
noncomputable def EV (ρ : Env') (μ : List MV) : ME -> (PV -> Prop) -> Prop
 | .lit d, K => K d
 | .var i, K => match ρ[i]? with | some (some d) => K d | _ => False
 | .bin op l r, K => EV ρ μ l fun a => EV ρ μ r fun b => BIN op (view μ a) (view μ b) K
 | .cmp op l r, K => EV ρ μ l fun a => EV ρ μ r fun b => CMP op (view μ a) (view μ b) fun c => K (.bool c)
 | .not e, K => EV ρ μ e fun d => TRU (view μ d) fun b => K (.bool !b)
 | .bop c a b, K => EV ρ μ a fun x => TRU (view μ x) fun t => match c with
  | true => match t with
   | true => EV ρ μ b K
   | false => K x
  | false => match t with
   | true => K x
   | false => EV ρ μ b K
 | .ite t a b, K => EVT ρ μ t fun c => match c with
  | true => EV ρ μ a K
  | false => EV ρ μ b K
 | .list es, K => EVs ρ μ es fun ds => ds.length <= sizeLine /\ K (.list ds)
 | .tup es, K => EVs ρ μ es fun ds => ds.length <= sizeLine /\ K (.tup ds)
 | .ext P, K => P ρ μ K
 | .sub e i, K => EV ρ μ e fun a => EV ρ μ i fun b => SUB (view μ a) b K
 | .last e, K => EV ρ μ e fun a => match view μ a with | .list l => l ≠ [] /\ K (l.getLastD .none) | _ => False
 | .slice e lo hi, K => EV ρ μ e fun a => EV ρ μ lo fun b => EV ρ μ hi fun c => SLICE (view μ a) b c K
 | .slice3 e lo hi st, K => EV ρ μ e fun a => EV ρ μ lo fun b => EV ρ μ hi fun c => EV ρ μ st fun d => match a with
  | .list l => match b with
   | .int b => match c with
    | .int c => match d with
     | .int d => (0 <= b /\ 0 <= c /\ 0 < d /\ l.length <= sizeLine) /\ ∀ l', (∀ x ∈ l', x ∈ l) -> K (.list l')
     | _ => False
    | _ => False
   | _ => False
  | _ => False
 | .call a es, K => EVs ρ μ es fun ds => C a μ ds K
 | .bi b es, K => EVs ρ μ es fun ds => BIF b (ds.map (view μ)) K
 | .meth m o es, K => EV ρ μ o fun a => match a with
  | .str l => EVs ρ μ es fun ds => METH m (.str l) (ds.map (view μ)) K
  | _ => False
 | .gop g es, K => EVs ρ μ es fun ds => GOP T g ds K
 | .comp n elt it tgt ifs gens, K => EVI ρ μ it fun items => freeT tgt (ρ ++ List.replicate n none) /\ compLoop (fun ρ1 acc1 K1 => EVIfs ρ1 μ ifs fun b => match b with
   | true => EVG ρ1 μ gens (fun ρ2 K2 => EV ρ2 μ elt K2) acc1 K1
   | false => K1 acc1) tgt (ρ ++ List.replicate n none) items [] fun out => K (.list out)
 | .rng _ _, _ => False
 | .enum _, _ => False
noncomputable def EVs (ρ : Env') (μ : List MV) : List ME -> (List PV -> Prop) -> Prop
 | [], K => K []
 | e :: es, K => EV ρ μ e fun d => EVs ρ μ es fun ds => K (d :: ds)
noncomputable def EVT (ρ : Env') (μ : List MV) : ME -> (Bool -> Prop) -> Prop
 | .not e, K => EVT ρ μ e fun b => K !b
 | .bop c a b, K => EVT ρ μ a fun t => match c with
  | true => match t with
   | true => EVT ρ μ b K
   | false => K false
  | false => match t with
   | true => K true
   | false => EVT ρ μ b K
 | .cmp op l r, K => EV ρ μ l fun a => EV ρ μ r fun b => CMP op (view μ a) (view μ b) K
 | .gop g es, K => EVs ρ μ es fun ds => GOP T g ds fun d => TRU (view μ d) K
 | .var i, K => match ρ[i]? with | some (some d) => TRU (view μ d) K | _ => False
 | .call a es, K => EVs ρ μ es fun ds => C a μ ds fun d => TRU (view μ d) K
 | .bi b es, K => EVs ρ μ es fun ds => BIF b (ds.map (view μ)) fun d => TRU (view μ d) K
 | .meth m o es, K => EV ρ μ o fun a => match a with
  | .str l => EVs ρ μ es fun ds => METH m (.str l) (ds.map (view μ)) fun d => TRU (view μ d) K
  | _ => False
 | .bin op l r, K => EV ρ μ l fun a => EV ρ μ r fun b => BIN op (view μ a) (view μ b) fun d => TRU (view μ d) K
 | .sub e i, K => EV ρ μ e fun a => EV ρ μ i fun b => SUB (view μ a) b fun d => TRU (view μ d) K
 | .ext P, K => P ρ μ fun d => TRU (view μ d) K
 | _, _ => False
noncomputable def EVI (ρ : Env') (μ : List MV) : ME -> (List PV -> Prop) -> Prop
 | .rng a b, K => EV ρ μ a fun x => EV ρ μ b fun y => match x with
  | .int x => match y with
   | .int y => (0 <= x /\ x <= y /\ y < 2 ^ 24) /\ K ((List.range (y - x).toNat).map fun (i : Nat) => .int (x + (i : Int)))
   | _ => False
  | _ => False
 | .enum e, K => EV ρ μ e fun d => match d with | .list l => l.length < 2 ^ 24 /\ K (enumFrom 0 l) | _ => False
 | .var i, K => match ρ[i]? with | some (some d) => itemsOf (view μ d) K | _ => False
 | .list es, K => EVs ρ μ es fun ds => ds.length <= sizeLine /\ itemsOf (.list ds) K
 | .ext P, K => P ρ μ fun d => itemsOf (view μ d) K
 | _, _ => False
noncomputable def EVIfs (ρ : Env') (μ : List MV) : List ME -> (Bool -> Prop) -> Prop
 | [], K => K true
 | c :: r, K => EVT ρ μ c fun b => match b with
  | true => EVIfs ρ μ r K
  | false => K false
noncomputable def EVG (ρ : Env') (μ : List MV) : List MG -> (Env' -> (PV -> Prop) -> Prop) -> List PV -> (List PV -> Prop) -> Prop
 | [], elt, acc, K => elt ρ fun d => acc.length < sizeLine /\ K (acc ++ [d])
 | .mk tgt it ifs :: gs, elt, acc, K => EVI ρ μ it fun items => freeT tgt ρ /\ compLoop (fun ρ1 acc1 K1 => EVIfs ρ1 μ ifs fun b => match b with
   | true => EVG ρ1 μ gs elt acc1 K1
   | false => K1 acc1) tgt ρ items acc K
end
end
end
set_option genSizeOf false
set_option genInjectivity false
inductive Fl where
 | next | brk | cont | ret (d : PV)
inductive MS where
 | asg (t : MT) (e : ME)
 | own (i : Nat) (es : List ME)
 | aug (i : Nat) (op : Operator) (e : ME)
 | ife (t : ME) (a b : List MS)
 | whil (t : ME) (b : List MS)
 | fr (t : MT) (it : ME) (b e : List MS)
 | ret (e : ME)
 | app (o e : ME)
 | appc (o elt : ME) (n i : Nat) (o2 : ME)
 | pop (i : Nat) (o : ME)
 | popD (o : ME)
 | dret (i : Nat) (ks : List Int) (es : List ME) (j : ME)
 | brk | cont | pass
 | ext (P : Nat -> List (Option PV) -> List MV -> (Fl -> List (Option PV) -> List MV -> Prop) -> Prop)
noncomputable def srcOf (d : PV) (ro : Nat) : Nat := match d with | .ptr i => max ro (i + 1) | _ => ro
noncomputable def mutAt (μ : List MV) (ro : Nat) (d : PV) (K : Nat -> List PV -> Prop) : Prop :=
 match d with
 | .ptr i => match μ[i]? with
  | some (.list l) => ro <= i /\ K i l
  | _ => False
 | _ => False
noncomputable def whileRun (t : Env' -> List MV -> (Bool -> Prop) -> Prop) (b : Env' -> List MV -> (Fl -> Env' -> List MV -> Prop) -> Prop) : Nat -> Env' -> List MV -> (Fl -> Env' -> List MV -> Prop) -> Prop
 | 0, _, _, _ => False
 | n + 1, ρ, μ, K => t ρ μ fun c => match c with
  | true => b ρ μ fun fl ρ1 μ1 => match fl with
   | .next => whileRun t b n ρ1 μ1 K
   | .cont => whileRun t b n ρ1 μ1 K
   | .brk => K .next ρ1 μ1
   | .ret d => K (.ret d) ρ1 μ1
  | false => K .next ρ μ
noncomputable def forRun (b e : Env' -> List MV -> (Fl -> Env' -> List MV -> Prop) -> Prop) (tgt : MT) : List PV -> Env' -> List MV -> (Fl -> Env' -> List MV -> Prop) -> Prop
 | [], ρ, μ, K => e ρ μ K
 | d :: ds, ρ, μ, K => asgT tgt d ρ fun ρ0 => b ρ0 μ fun fl ρ1 μ1 => match fl with
   | .next => forRun b e tgt ds ρ1 μ1 K
   | .cont => forRun b e tgt ds ρ1 μ1 K
   | .brk => K .next ρ1 μ1
   | .ret d => K (.ret d) ρ1 μ1
section
variable (T : Tabs) (C : CT)
noncomputable def EVS (ρ : Env') (μ : List MV) (ro : Nat) (m : ME) (K : List PV -> Nat -> Prop) : Prop :=
 match m with
 | .var i => match ρ[i]? with | some (some d) => itemsOf (view μ d) fun l => K l (srcOf d ro) | _ => False
 | .ext P => P ρ μ fun d => itemsOf (view μ d) fun l => K l (srcOf d ro)
 | m => EVI T C ρ μ m fun l => K l ro
mutual
noncomputable def EX1 (ro : Nat) (ρ : Env') (μ : List MV) : MS -> (Fl -> Env' -> List MV -> Prop) -> Prop
 | .asg t e, K => EV T C ρ μ e fun d => asgT t d ρ fun ρ1 => K .next ρ1 μ
 | .own i es, K => EVs T C ρ μ es fun ds => ds.length <= sizeLine /\ K .next (ρ.set i (some (.ptr μ.length))) (μ ++ [.list ds])
 | .aug i op e, K => match ρ[i]? with
  | some (some d) => match d with
   | .int a => EV T C ρ μ e fun b => (match b with | .int _ => True | _ => False) /\ BIN op (.int a) b fun d => K .next (ρ.set i (some d)) μ
   | _ => False
  | _ => False
 | .ife t a b, K => EVT T C ρ μ t fun c => match c with
  | true => EX ro ρ μ a K
  | false => EX ro ρ μ b K
 | .whil t b, K => ∃ n, whileRun (fun ρ μ K => EVT T C ρ μ t K) (fun ρ μ K => EX ro ρ μ b K) n ρ μ K
 | .fr t it b e, K => EVS T C ρ μ ro it fun items ro1 => forRun (fun ρ μ K => EX ro1 ρ μ b K) (fun ρ μ K => EX ro ρ μ e K) t items ρ μ K
 | .ret e, K => EV T C ρ μ e fun d => K (.ret d) ρ μ
 | .app o e, K => EV T C ρ μ o fun x => (mutAt μ ro x fun _ _ => True) /\ EV T C ρ μ e fun d => mutAt μ ro x fun i l => l.length < sizeLine /\ K .next ρ (μ.set i (.list (l ++ [d])))
 | .appc o elt n j o2, K => EV T C ρ μ o fun x => (mutAt μ ro x fun _ _ => True) /\ EV T C ρ μ o2 fun y => mutAt μ ro y fun i l => (l ≠ [] /\ l.length <= sizeLine) /\
   itemsOf (l.getLastD .none) fun items => freeT (.name j) (ρ ++ List.replicate n none) /\ compLoop (fun ρ1 acc1 K1 => EV T C ρ1 (μ.set i (.list l.dropLast)) elt fun d => acc1.length < sizeLine /\ K1 (acc1 ++ [d])) (.name j) (ρ ++ List.replicate n none) items [] fun out =>
    mutAt (μ.set i (.list l.dropLast)) ro x fun i2 l2 => l2.length < sizeLine /\ K .next ρ ((μ.set i (.list l.dropLast)).set i2 (.list (l2 ++ [.list out])))
 | .pop j o, K => EV T C ρ μ o fun x => mutAt μ ro x fun i l => (l ≠ [] /\ l.length <= sizeLine) /\ K .next (ρ.set j (some (l.getLastD .none))) (μ.set i (.list l.dropLast))
 | .popD o, K => EV T C ρ μ o fun x => mutAt μ ro x fun i l => (l ≠ [] /\ l.length <= sizeLine) /\ K .next ρ (μ.set i (.list l.dropLast))
 | .dret i ks es j, K => ρ[i]? = some none /\ EVs T C ρ μ es fun ds => EV T C ρ μ j fun x => match x with
  | .int k => match (ks.zip ds).lookup k with
   | some d => K (.ret d) ρ μ
   | none => False
  | _ => False
 | .brk, K => K .brk ρ μ
 | .cont, K => K .cont ρ μ
 | .pass, K => K .next ρ μ
 | .ext P, K => P ro ρ μ K
noncomputable def EX (ro : Nat) (ρ : Env') (μ : List MV) : List MS -> (Fl -> Env' -> List MV -> Prop) -> Prop
 | [], K => K .next ρ μ
 | s :: r, K => EX1 ro ρ μ s fun fl ρ1 μ1 => match fl with
  | .next => EX ro ρ1 μ1 r K
  | .brk => K .brk ρ1 μ1
  | .cont => K .cont ρ1 μ1
  | .ret d => K (.ret d) ρ1 μ1
end
end
structure AOk (k : Nat) (A : Around) : Prop where
 handled : A.handled = none
 depth : A.depth + k < 1000
 units : A.units + 10 * k + 1000 < 9000
theorem AOk.le {k j : Nat} {A : Around} (a : AOk k A) (h : j <= k) : AOk j A :=
 ⟨a.handled, Nat.lt_of_le_of_lt (Nat.add_le_add_left h _) a.depth, Nat.lt_of_le_of_lt (Nat.add_le_add_right (Nat.add_le_add_left (Nat.mul_le_mul_left _ h) _) _) a.units⟩
noncomputable def Go (w : World) (A : Around) (M ads : List Addr) (t : Sem Value) (s : Shared) (K : PV -> Prop) : Prop :=
 ∀ Q E, (∀ v d h' tk, K d -> Keep s.heap h' -> Rep (vis h' M) ads v d -> Q v { s with heap := h', toks := tk }) -> wpAny (model pw w) A t Q E s
noncomputable def RepV (h : Heap) (M ads : List Addr) (v : Value) (d : PV) : Prop :=
 match d with
 | .list ds => ∃ a vs, v = .ref a /\ h.IsList a vs /\ Reps (vis h M) ads vs.toList ds
 | d => Rep (vis h M) ads v d
theorem SeqIn.list {h : Heap} {M : List Addr} {a : Addr} {vs : Array Value} (x : SeqIn (vis h M) "list" a vs) : h.IsList a vs := let ⟨o, e, r⟩ := x; ⟨o, (vis_get e).1, r⟩
theorem SeqIn.tup {h : Heap} {M : List Addr} {a : Addr} {vs : Array Value} (x : SeqIn (vis h M) "tuple" a vs) : IsTup h a vs := let ⟨o, e, r⟩ := x; ⟨o, (vis_get e).1, r⟩
theorem SeqIn.new {h : Heap} {M ads : List Addr} {hO : Heap} {μ : List MV} (m : MuAt hO M ads μ h) {T : String} {vs : Array Value} : SeqIn (vis (h.push { cls := .type T, data := .seq vs }) M) T h.objs.size vs :=
 ⟨_, vis_of (Heap.get?_push_size _ rfl) fun hm => by obtain ⟨o, e⟩ := m.live _ hm; exact absurd (Heap.lt_size e) (Nat.lt_irrefl _), rfl, 0, rfl⟩
theorem keep_push {h : Heap} {o : Obj} : Keep h (h.push o) := fun b o' e => Heap.get?_push_of_some _ e
theorem vis_keepK {h h' : Heap} {M : List Addr} (k : Keep h h') : ∀ b o, vis h M b = some o -> vis h' M b = some o := vis_keep fun b o _ e => k _ _ e
theorem Rep.view {h : Heap} {M ads : List Addr} {hO : Heap} {μ : List MV} {v : Value} {d : PV} (m : MuAt hO M ads μ h) (r : Rep (vis h M) ads v d) : RepV h M ads v (view μ d) := by
 cases r with
 | none => exact .none
 | bool b => exact .bool b
 | int i t => exact .int i t
 | str s t => exact .str s t
 | list a vs ds e r => exact ⟨a, vs, rfl, e.list, r⟩
 | tup a vs ds e r => exact .tup a vs ds e r
 | tab a l i x e => exact .tab a l i x e
 | ftab a l vs ds x e r => exact .ftab a l vs ds x e r
 | ob a => exact .ob a
 | ptr a i e =>
  unfold Mine.view
  have hl : i < μ.length := by rw [<- m.len]; exact (List.getElem?_eq_some_iff.mp e).1
  obtain ⟨mv, hm⟩ : ∃ mv, μ[i]? = some mv := ⟨μ[i], List.getElem?_eq_getElem hl⟩
  have := m.mus i a mv e hm
  simp only [hm]
  cases this with
  | list vs ds e' r => exact ⟨a, vs, rfl, e'.isList, r⟩
section
variable {w : World} {A : Around} {M ads : List Addr} {s : Shared} {K : PV -> Prop} {hO : Heap} {μ : List MV}
theorem Go.val {t : Sem Value} {v : Value} {d : PV} (hk : K d) (r : Rep (vis s.heap M) ads v d) (h : ∀ Q E, Q v s -> wpAny (model pw w) A t Q E s) : Go w A M ads t s K :=
 fun Q E q => h Q E (q v d s.heap s.toks hk (fun _ _ e => e) r)
theorem Go.int {t : Sem Value} {i : Int} (hk : K (.int i)) (h : ∀ Q E, (∀ t' tk, Q (.int i t') { s with toks := tk }) -> wpAny (model pw w) A t Q E s) : Go w A M ads t s K :=
 fun Q E q => h Q E fun t' tk => q (.int i t') (.int i) s.heap tk hk (fun _ _ e => e) (.int ..)
theorem Go.str {t : Sem Value} {x : Str} {l : List Nat} (hl : x.cps.toList = l) (hk : K (.str l)) (h : ∀ Q E, (∀ t' tk, Q (.str x t') { s with toks := tk }) -> wpAny (model pw w) A t Q E s) : Go w A M ads t s K :=
 fun Q E q => h Q E fun t' tk => q (.str x t') (.str l) s.heap tk hk (fun _ _ e => e) (by subst hl; exact .str ..)
theorem Go.bool {t : Sem Value} {b : Bool} (hk : K (.bool b)) (h : ∀ Q E, (∀ tk, Q (.bool b) { s with toks := tk }) -> wpAny (model pw w) A t Q E s) : Go w A M ads t s K :=
 fun Q E q => h Q E fun tk => q (.bool b) (.bool b) s.heap tk hk (fun _ _ e => e) (.bool b)
theorem Go.newList {t : Sem Value} {vs : List Value} {ds : List PV} (m : MuAt hO M ads μ s.heap) (hk : K (.list ds)) (r : Reps (vis s.heap M) ads vs ds)
  (h : ∀ Q E, Q (.ref s.heap.objs.size) { s with heap := s.heap.push { cls := .type "list", data := .seq vs.toArray } } -> wpAny (model pw w) A t Q E s) : Go w A M ads t s K :=
 fun Q E q => h Q E (q _ (.list ds) _ s.toks hk keep_push (.list _ vs.toArray _ (SeqIn.new m) (r.keep (vis_keepK keep_push))))
theorem Go.newTup {t : Sem Value} {vs : List Value} {ds : List PV} (m : MuAt hO M ads μ s.heap) (hk : K (.tup ds)) (r : Reps (vis s.heap M) ads vs ds)
  (h : ∀ Q E, Q (.ref s.heap.objs.size) { s with heap := s.heap.push { cls := .type "tuple", data := .seq vs.toArray } } -> wpAny (model pw w) A t Q E s) : Go w A M ads t s K :=
 fun Q E q => h Q E (q _ (.tup ds) _ s.toks hk keep_push (.tup _ vs.toArray _ (SeqIn.new m) (r.keep (vis_keepK keep_push))))
theorem noPylong {a b : Int} (h : b.natAbs < 2 ^ 64) : Builtin.divisionGoesByPylong a b = false := by
 have : b.natAbs.log2 < 64 := by
  by_cases h0 : b.natAbs = 0
  ·rw [h0]; decide
  ·exact (Nat.log2_lt h0).mpr h
 have h2 : ¬ (if b == 0 then 0 else b.natAbs.log2 / 30 + 1) > 300 := by split <;> lia
 show (decide ((if b == 0 then 0 else b.natAbs.log2 / 30 + 1) > 300) && _) = false
 rw [decide_eq_false h2]; rfl
theorem add_lists_raw {prog : Program} {E : Value -> Shared -> Prop} {l b : Addr} {vs ws : Array Value} {Q : Value -> Shared -> Prop} (hl : s.heap.IsList l vs) (hb : s.heap.IsList b ws)
  (h : Q (.ref s.heap.objs.size) { s with heap := s.heap.push { cls := .type "list", data := .seq (vs ++ ws) } })
  (hsz : vs.size + ws.size <= sizeLine) : wpAny (model prog w) A (binaryOp .Add (.ref l) (.ref b)) Q E s := by
 obtain ⟨⟨cls, dd, data, sl⟩, ho, hc, n, hd⟩ := id hl
 obtain ⟨⟨cls2, dd2, data2, sl2⟩, ho2, hc2, n2, hd2⟩ := id hb
 simp only at hc hd hc2 hd2
 subst hc hd hc2 hd2
 exact concat_meets ⟨_, ho, rfl⟩ ⟨_, ho2, rfl⟩ noFill_list_add seq_list_add PySem.F.slot_list_add PySem.F.entry_list_add (PySem.F.args_list_add_2 _ _) (list_addW l b vs ws n n2 dd dd2 sl sl2 hsz) ⟨ho, ho2, h⟩
noncomputable def Inv (g : Part) (ads : List Addr) (v : Value) (d : PV) : Prop :=
 match d with
 | .int i => ∃ t, v = .int i t
 | .str l => ∃ t, v = .str (strOf l) t
 | .bool b => v = .bool b
 | .none => v = .none
 | .tup ds => ∃ a vs, v = .ref a /\ SeqIn g "tuple" a vs /\ Reps g ads vs.toList ds
 | .list ds => ∃ a vs, v = .ref a /\ SeqIn g "list" a vs /\ Reps g ads vs.toList ds
 | _ => True
theorem Rep.inv {g : Part} {v : Value} {d : PV} (r : Rep g ads v d) : Inv g ads v d := by
 cases r with
 | int i t => exact ⟨t, rfl⟩
 | str s t => exact ⟨t, rfl⟩
 | tup a vs ds e r => exact ⟨a, vs, rfl, e, r⟩
 | list a vs ds e r => exact ⟨a, vs, rfl, e, r⟩
 | none | bool => rfl
 | _ => trivial
theorem Rep.intI {g : Part} {v : Value} {i : Int} (r : Rep g ads v (.int i)) : ∃ t, v = .int i t := r.inv
theorem Rep.strI {g : Part} {v : Value} {l : List Nat} (r : Rep g ads v (.str l)) : ∃ t, v = .str (strOf l) t := r.inv
theorem Rep.tupI {g : Part} {v : Value} {ds : List PV} (r : Rep g ads v (.tup ds)) : ∃ a vs, v = .ref a /\ SeqIn g "tuple" a vs /\ Reps g ads vs.toList ds := r.inv
theorem Rep.listI {g : Part} {v : Value} {ds : List PV} (r : Rep g ads v (.list ds)) : ∃ a vs, v = .ref a /\ SeqIn g "list" a vs /\ Reps g ads vs.toList ds := r.inv
theorem RepV.int {h : Heap} {v : Value} {i : Int} (r : RepV h M ads v (.int i)) : ∃ t, v = .int i t := Rep.inv r
theorem RepV.str {h : Heap} {v : Value} {l : List Nat} (r : RepV h M ads v (.str l)) : ∃ t, v = .str (strOf l) t := Rep.inv r
theorem RepV.bool {h : Heap} {v : Value} {b : Bool} (r : RepV h M ads v (.bool b)) : v = .bool b := Rep.inv r
theorem RepV.none {h : Heap} {v : Value} (r : RepV h M ads v .none) : v = .none := Rep.inv r
theorem RepV.list {h : Heap} {v : Value} {ds : List PV} (r : RepV h M ads v (.list ds)) : ∃ a vs, v = .ref a /\ h.IsList a vs /\ Reps (vis h M) ads vs.toList ds := r
theorem RepV.tup {h : Heap} {v : Value} {ds : List PV} (r : RepV h M ads v (.tup ds)) : ∃ a vs, v = .ref a /\ IsTup h a vs /\ Reps (vis h M) ads vs.toList ds := let ⟨a, vs, e1, e2, r⟩ := Rep.inv r; ⟨a, vs, e1, e2.tup, r⟩
theorem bin_sound {op : Operator} {v₁ v₂ : Value} {a b : PV} (m : MuAt hO M ads μ s.heap) (r₁ : RepV s.heap M ads v₁ a) (r₂ : RepV s.heap M ads v₂ b) (e : BIN op a b K) : Go w A M ads (binaryOp op v₁ v₂) s K := by
 cases a with
 | int a =>
  obtain ⟨b, rfl, e⟩ := mI e
  obtain ⟨t, rfl⟩ := r₁.int; obtain ⟨u, rfl⟩ := r₂.int
  cases op with
  | Add => exact .int e fun Q E q => add_int (q _ _)
  | Sub => exact .int e fun Q E q => sub_int (q _ _)
  | Mult => exact .int e.2 fun Q E q => mul_int (q _ _) e.1
  | FloorDiv => exact .int e.2 fun Q E q => floordiv_int e.1.1 (q _ _) (Or.inl (noPylong e.1.2))
  | Mod => exact .int e.2 fun Q E q => mod_int' e.1 (q _ _)
  | Pow => exact .int e.2 fun Q E q => pow_int e.1.1 e.1.2 (q _ _)
  | LShift => exact .int e.2 fun Q E q => lshift_int_small e.1.1 e.1.2.1 e.1.2.2 (q _ _)
  | RShift => exact .int e.2 fun Q E q => rshift_int e.1 (q _ _)
  | BitAnd => exact .int e fun Q E q => and_int (q _ _)
  | BitOr => exact .int e fun Q E q => or_int (q _ _)
  | BitXor => exact .int e fun Q E q => xor_int (q _ _)
  | _ => exact False.elim e
 | str a =>
  obtain ⟨b, rfl, e⟩ := mS e
  obtain ⟨t, rfl⟩ := r₁.str; obtain ⟨u, rfl⟩ := r₂.str
  cases op with
  | Add => exact .str (by rw [Str.cps_append, Array.toList_append]) e.2 fun Q E q => add_str (fun _ _ => q _ _) (by simpa [PySem.Str.length] using e.1)
  | _ => exact False.elim e
 | list a =>
  obtain ⟨b, rfl, e⟩ := mL e
  obtain ⟨l, vs, rfl, hl, rl⟩ := r₁
  obtain ⟨l2, vs2, rfl, hl2, rl2⟩ := r₂
  cases op with
  | Add =>
   refine .newList m e.2 (rl.append rl2) fun Q E q => add_lists_raw hl hl2 (by rw [show vs ++ vs2 = (vs.toList ++ vs2.toList).toArray from Array.ext' (by simp)]; exact q) ?_
   exact Nat.le_trans (Nat.le_of_eq (congr (congrArg Nat.add rl.length) rl2.length)) e.1
  | _ => exact False.elim e
 | _ => exact False.elim e
end
section
variable {w : World} {A : Around} {M ads : List Addr} {s : Shared} {K : PV -> Prop} {hO : Heap} {μ : List MV} {k : Nat}
theorem AOk.u (a : AOk k A) : A.units < cLine := Nat.lt_of_lt_of_le (by have := a.units; lia : A.units < 9000) (by decide)
theorem AOk.u1 (a : AOk k A) : A.in1.units < cLine := Nat.lt_of_lt_of_le (by have := a.units; show A.units + 1 < 9000; lia) (show 9000 <= cLine by decide)
theorem AOk.u2 (a : AOk k A) : A.in1.in1.units < cLine := Nat.lt_of_lt_of_le (by have := a.units; show A.units + 1 + 1 < 9000; lia) (show 9000 <= cLine by decide)
theorem strEq' (x y : List Nat) : (strOf x == strOf y) = (x == y) := by rw [<- SeqAt.str_beq]
theorem eq_str' {prog : Program} {E : Value -> Shared -> Prop} {x y : List Nat} {t u : Tok} {Q : Value -> Shared -> Prop} (h : Q (.bool (x == y)) s) : wpAny (model prog w) A (compareOp .Eq (.str (strOf x) t) (.str (strOf y) u)) Q E s :=
 PyProof.Rows.eq_str (by rw [strEq']; exact h)
theorem ne_str' {prog : Program} {E : Value -> Shared -> Prop} {x y : List Nat} {t u : Tok} {Q : Value -> Shared -> Prop} (h : Q (.bool (x != y)) s) : wpAny (model prog w) A (compareOp .NotEq (.str (strOf x) t) (.str (strOf y) u)) Q E s :=
 PyProof.Rows.ne_str (by rw [bne, strEq']; exact h)
theorem Rep.neNone {g : Part} {v : Value} {d : PV} (r : Rep g ads v d) : d = .none ∨ (v == .none) = false := by
 cases r <;> first | exact .inl rfl | exact .inr rfl
theorem RepV.neNone {h : Heap} {v : Value} {d : PV} (r : RepV h M ads v d) : d = .none ∨ (v == .none) = false := by
 cases d with
 | list => obtain ⟨l, vs, rfl, _⟩ := r; exact .inr rfl
 | _ => exact Rep.neNone r
theorem strsOf_cons {d : PV} {ds : List PV} {xs : List (List Nat)} (e : strsOf (d :: ds) = some xs) : ∃ x ys, d = .str x /\ strsOf ds = some ys /\ xs = x :: ys := by
 cases d with
 | str x => obtain ⟨ys, e1, rfl⟩ := Option.map_eq_some_iff.mp e; exact ⟨x, ys, rfl, e1, rfl⟩
 | _ => cases e
theorem intsOf_cons {d : PV} {ds : List PV} {xs : List Int} (e : intsOf (d :: ds) = some xs) : ∃ x ys, d = .int x /\ intsOf ds = some ys /\ xs = x :: ys := by
 cases d with
 | int x => obtain ⟨ys, e1, rfl⟩ := Option.map_eq_some_iff.mp e; exact ⟨x, ys, rfl, e1, rfl⟩
 | _ => cases e
theorem Reps.ints {g : Part} {vs : List Value} {ds : List PV} {xs : List Int} (r : Reps g ads vs ds) (e : intsOf ds = some xs) : IntsAre vs xs :=
 r.ind (P := fun vs ds => ∀ xs, intsOf ds = some xs -> IntsAre vs xs) (fun xs e => Option.some.inj e ▸ .nil) (fun v d vs ds a _ ih xs e => by
  obtain ⟨x, ys, rfl, e1, rfl⟩ := intsOf_cons e
  obtain ⟨t, rfl⟩ := a.intI
  exact .cons _ t (ih ys e1)) xs e
noncomputable def isStrB (x : List Nat) : Value -> Bool
 | .str y _ => y.cps.toList == x
 | _ => false
noncomputable def isIntB (x : Int) : Value -> Bool
 | .int y _ => y == x
 | _ => false
theorem any_ints' (x : Int) {vs : List Value} {xs : List Int} (r : IntsAre vs xs) : vs.any (isIntB x) = xs.contains x := by
 induction r with
 | nil => rfl
 | cons n t r ih =>
  show ((n == x) || _) = ((x == n) || _)
  rw [ih, Bool.beq_comm]
theorem eqAt_same {a : Addr} : SeqAt.EqAt A s (.ref a) (.ref a) true := fun prog w E Q h => by
 refine wpAny_holding ?_
 rw [if_pos (by simp)]
 exact wpAny_bind (wpAny_rule (wpAny_pure h))
theorem Reps.isStr {g : Part} (x : List Nat) {vs : List Value} {ds : List PV} {xs : List (List Nat)} (r : Reps g ads vs ds) (e : strsOf ds = some xs) : (∀ y, y ∈ vs -> ∃ z t, y = .str (strOf z) t) /\ vs.any (isStrB x) = xs.contains x :=
 r.ind (P := fun vs ds => ∀ xs, strsOf ds = some xs -> (∀ y, y ∈ vs -> ∃ z t, y = .str (strOf z) t) /\ vs.any (isStrB x) = xs.contains x) (fun xs e => ⟨(fun _ h => nomatch h), Option.some.inj e ▸ rfl⟩) (fun v d vs ds a _ ih xs e => by
  obtain ⟨z, ys, rfl, e1, rfl⟩ := strsOf_cons e
  obtain ⟨t, rfl⟩ := a.strI
  refine ⟨fun y hy => (List.mem_cons.mp hy).elim (fun h => ⟨z, t, h⟩) ((ih ys e1).1 y), ?_⟩
  show ((z == x) || _) = ((x == z) || _)
  rw [(ih ys e1).2, Bool.beq_comm]) xs e
theorem isStr_at (x : List Nat) (u : Tok) {y : Value} (h : ∃ z t, y = .str (strOf z) t) : SeqAt.EqAt A.in1 s y (.str (strOf x) u) (isStrB x y) := by
 obtain ⟨z, t, rfl⟩ := h
 have := SeqAt.EqAt.str_str (A := A.in1) (s := s) (strOf z) t (strOf x) u
 rw [strEq'] at this; exact this
theorem isInt_at (x : Int) (u : Tok) {vs : List Value} {xs : List Int} (r : IntsAre vs xs) : ∀ y, y ∈ vs -> SeqAt.EqAt A.in1 s y (.int x u) (isIntB x y) := by
 induction r with
 | nil => exact fun y hy => nomatch hy
 | cons n t r ih => exact fun y hy => (List.mem_cons.mp hy).elim (fun h => h ▸ SeqAt.EqAt.int_int n t x u) (ih y)
theorem RepV.nil {h : Heap} {v : Value} (r : RepV h M ads v (.list [])) : ∃ a, v = .ref a /\ h.IsList a #[] := by
 obtain ⟨a, vs, rfl, hl, rl⟩ := r.list
 have : vs = #[] := by have := rl.length; simp at this; exact this
 subst this; exact ⟨a, rfl, hl⟩
theorem Reps.two {g : Part} {vs : List Value} {d e : PV} (r : Reps g ads vs [d, e]) : ∃ v u, vs = [v, u] /\ Rep g ads v d /\ Rep g ads u e := by
 obtain ⟨v, _, rfl, a, r⟩ := r.inv; obtain ⟨u, _, rfl, b, r⟩ := r.inv; obtain rfl := r.inv; exact ⟨v, u, rfl, a, b⟩
theorem Reps.one {g : Part} {vs : List Value} {d : PV} (r : Reps g ads vs [d]) : ∃ v, vs = [v] /\ Rep g ads v d := by
 obtain ⟨v, _, rfl, a, r⟩ := r.inv; obtain rfl := r.inv; exact ⟨v, rfl, a⟩
theorem plainEqs_rep {g : Part} {vs ws : List Value} {ds es : List PV} (r : Reps g ads vs ds) (r' : Reps g ads ws es) (h : plainEqs ds es) : vs.length = ws.length /\ ∀ (j : Nat) (x y : Value), vs[j]? = some x -> ws[j]? = some y -> ∃ d e, plainEq d e /\ Rep g ads x d /\ Rep g ads y e :=
 r.ind (P := fun vs ds => ∀ ws es, Reps g ads ws es -> plainEqs ds es -> vs.length = ws.length /\ ∀ (j : Nat) (x y : Value), vs[j]? = some x -> ws[j]? = some y -> ∃ d e, plainEq d e /\ Rep g ads x d /\ Rep g ads y e)
  (fun ws es r' h => by
   cases es with
   | nil => obtain rfl := r'.inv; exact ⟨rfl, fun j x y e => nomatch e⟩
   | cons => exact False.elim h)
  (fun v d vs ds a _ ih ws es r' h => by
   cases es with
   | nil => exact False.elim h
   | cons d' es =>
    obtain ⟨v', ws, rfl, a', r'⟩ := r'.inv
    refine ⟨congrArg Nat.succ (ih ws es r' h.2).1, fun j x y e1 e2 => ?_⟩
    cases j with
    | zero => cases e1; cases e2; exact ⟨d, d', h.1, a, a'⟩
    | succ j => exact (ih ws es r' h.2).2 j x y e1 e2) ws es r' h
theorem plainEq_at (ok : AOk k A) {x y : Value} {d e : PV} (h : plainEq d e) (rx : Rep (vis s.heap M) ads x d) (ry : Rep (vis s.heap M) ads y e) : SeqAt.EqAt A.in1 s x y true := by
  obtain ⟨rfl, a, x', rfl⟩ := h
  obtain ⟨a1, vs, rfl, e1, r1⟩ := rx.tupI
  obtain ⟨a2, ws, rfl, e2, r2⟩ := ry.tupI
  by_cases hne : a1 = a2
  ·subst hne; exact eqAt_same
  refine SeqAt.EqAt.of_refs hne ?_
  obtain ⟨vl, hvl⟩ : ∃ vl, vs = List.toArray vl := ⟨vs.toList, rfl⟩
  obtain ⟨wl, hwl⟩ : ∃ wl, ws = List.toArray wl := ⟨ws.toList, rfl⟩
  subst hvl hwl
  simp only at r1 r2
  obtain ⟨v1, v2, rfl, p1, p2⟩ := r1.two
  obtain ⟨w1, w2, rfl, p3, p4⟩ := r2.two
  obtain ⟨t1, rfl⟩ := p1.intI; obtain ⟨t2, rfl⟩ := p2.strI; obtain ⟨t3, rfl⟩ := p3.intI; obtain ⟨t4, rfl⟩ := p4.strI
  have key := SeqAt.RcAt.tuples (A := A.in1) (s := s) (e := fun _ => true) e1.tup e2.tup ok.u1 (fun j h1 h2 => ?_)
  ·exact key
  ·match j, h1, h2 with
   | 0, _, _ => have := SeqAt.EqAt.int_int (A := A.in1.in1) (s := s) a t1 a t3; rwa [beq_self_eq_true] at this
   | 1, _, _ => have := SeqAt.EqAt.str_str (A := A.in1.in1) (s := s) (strOf x') t2 (strOf x') t4; rwa [beq_self_eq_true] at this
theorem eq_nilAt {l l2 : Addr} {vs : Array Value} {ds : List PV} {g : Part} (ok : AOk k A) (hl : s.heap.IsList l vs) (rl : Reps g ads vs.toList ds) (hl2 : s.heap.IsList l2 #[]) {Q E : Value -> Shared -> Prop} (q : Q (.bool ds.isEmpty) s) : wpAny (model pw w) A (compareOp .Eq (.ref l) (.ref l2)) Q E s := by
 cases ds with
 | nil =>
  have : vs = #[] := Array.toList_inj.mp rl.inv
  subst this
  exact SeqAt.eq_listAt (e := fun _ => true) hl hl2 rfl ok.u (fun j h1 => by simp at h1) q
 | cons d ds => exact SeqAt.eq_list_lengthsAt hl hl2 (bne_iff_ne.mpr fun e => by have := rl.length.symm.trans e; cases this) ok.u q
theorem ne_nilAt {l l2 : Addr} {vs : Array Value} {ds : List PV} {g : Part} (ok : AOk k A) (hl : s.heap.IsList l vs) (rl : Reps g ads vs.toList ds) (hl2 : s.heap.IsList l2 #[]) {Q E : Value -> Shared -> Prop} (q : Q (.bool !ds.isEmpty) s) : wpAny (model pw w) A (compareOp .NotEq (.ref l) (.ref l2)) Q E s := by
 cases ds with
 | nil =>
  have : vs = #[] := Array.toList_inj.mp rl.inv
  subst this
  exact SeqAt.RcNeAt.lists (e := fun _ => false) hl hl2 rfl ok.u (fun j h1 => by simp at h1) _ _ _ _ q
 | cons d ds => exact SeqAt.RcNeAt.lists_lengths hl hl2 (bne_iff_ne.mpr fun e => by have := rl.length.symm.trans e; cases this) ok.u _ _ _ _ q
theorem cmp_sound {op : CmpOp} {v₁ v₂ : Value} {a b : PV} {K : Bool -> Prop} (ok : AOk k A) (m : MuAt hO M ads μ s.heap) (r₁ : RepV s.heap M ads v₁ a) (r₂ : RepV s.heap M ads v₂ b) (e : CMP op a b K)
  {Q : Value -> Shared -> Prop} {E : Value -> Shared -> Prop} (q : ∀ c tk, K c -> Q (.bool c) { s with toks := tk }) : wpAny (model pw w) A (compareOp op v₁ v₂) Q E s := by
 cases b with
 | int b =>
  obtain ⟨u, rfl⟩ := r₂.int
  cases a with
  | int a =>
   obtain ⟨t, rfl⟩ := r₁.int
   cases op with
   | Eq => exact PyProof.Rows.eq_int (q _ _ e)
   | NotEq => exact PyProof.Rows.ne_int (q _ _ e)
   | Lt => exact PyProof.Rows.lt_int (q _ _ e)
   | LtE => exact PyProof.Rows.le_int (q _ _ e)
   | Gt => exact PyProof.Rows.gt_int (q _ _ e)
   | GtE => exact PyProof.Rows.ge_int (q _ _ e)
   | _ => exact False.elim e
  | list => obtain ⟨rfl, e⟩ := e; obtain ⟨l, vs, rfl, hl, _⟩ := r₁; exact SeqAt.RcAt.list_int _ _ hl ok.u _ _ _ _ (q _ s.toks e)
  | _ => exact False.elim e
 | bool b =>
  obtain ⟨a, rfl, e⟩ := mB e
  rw [r₁.bool, r₂.bool]
  cases op with
  | Eq => exact eq_bool (q _ _ e)
  | NotEq => exact ne_bool (q _ _ e)
  | _ => exact False.elim e
 | str b =>
  obtain ⟨a, rfl, e⟩ := mS e
  obtain ⟨t, rfl⟩ := r₁.str; obtain ⟨u, rfl⟩ := r₂.str
  cases op with
  | Eq => exact eq_str' (q _ _ e)
  | NotEq => exact ne_str' (q _ _ e)
  | _ => exact False.elim e
 | list ds =>
  obtain ⟨l2, ws, rfl, hl2, rl2⟩ := r₂
  cases a with
  | list a =>
   obtain ⟨l, vs, rfl, hl, rl⟩ := r₁
   cases ds with
   | nil =>
    have : ws = #[] := Array.toList_inj.mp rl2.inv
    subst this
    cases op with
    | Eq => exact eq_nilAt ok hl rl hl2 (q _ s.toks e)
    | NotEq => exact ne_nilAt ok hl rl hl2 (q _ s.toks e)
    | _ => exact False.elim e
   | cons b r =>
    obtain ⟨rfl, e, e'⟩ := e
    have h := plainEqs_rep rl rl2 e
    refine SeqAt.eq_listAt (e := fun _ => true) hl hl2 h.1 ok.u (fun j h1 h2 => ?_) ?_
    ·obtain ⟨d, d', p, p1, p2⟩ := h.2 j vs[j] ws[j] (by simp [h1]) (by simp [h2])
     exact plainEq_at ok p p1 p2
    ·rw [show (List.range vs.size).all (fun _ => true) = true by simp]
     exact q _ s.toks e'
  | str x =>
   obtain ⟨t, rfl⟩ := r₁.str
   cases op with
   | In =>
    obtain ⟨xs, hx, e⟩ := mO e
    have h := rl2.isStr x hx
    refine SeqAt.in_listAt (isStrB _) hl2 (fun y hy => isStr_at _ _ (h.1 y (Array.mem_toList_iff.mpr hy))) ?_
    rw [<- Array.any_toList, h.2]
    exact q _ s.toks e
   | NotIn =>
    obtain ⟨xs, hx, e⟩ := mO e
    have h := rl2.isStr x hx
    refine SeqAt.notIn_listAt (isStrB _) hl2 (fun y hy => isStr_at _ _ (h.1 y (Array.mem_toList_iff.mpr hy))) ?_
    rw [<- Array.any_toList, h.2]
    exact q _ s.toks e
   | _ => exact False.elim e
  | int x => obtain ⟨rfl, e⟩ := e; obtain ⟨t, rfl⟩ := r₁.int; exact SeqAt.RcAt.int_list _ _ hl2 ok.u _ _ _ _ (q _ s.toks e)
  | _ => exact False.elim e
 | tup l =>
  obtain ⟨x, rfl, e⟩ := mI e
  obtain ⟨rfl, e2⟩ := e
  obtain ⟨xs, hx, e⟩ := mO2 e2
  obtain ⟨t, rfl⟩ := r₁.int
  obtain ⟨l, vs, rfl, hl, rl⟩ := r₂.tup
  have hi := rl.ints hx
  refine SeqAt.notIn_tupleAt (isIntB _) hl (fun y hy => isInt_at _ _ hi y (Array.mem_toList_iff.mpr hy)) ?_
  rw [<- Array.any_toList, any_ints' _ hi]
  exact q _ s.toks e
 | none =>
  rw [r₂.none]
  cases op with
  | Is =>
   refine is_none (q _ s.toks ?_)
   rcases r₁.neNone with rfl | h
   ·rw [r₁.none]; exact e
   ·rw [h]; cases a <;> first | exact e | exact False.elim e | (rw [r₁.none] at h; cases h)
  | IsNot =>
   refine isNot_none (q _ s.toks ?_)
   rcases r₁.neNone with rfl | h
   ·rw [r₁.none]; exact e
   ·rw [h]; cases a <;> first | exact e | exact False.elim e | (rw [r₁.none] at h; cases h)
  | _ => exact False.elim e
 | _ => exact False.elim e
theorem tru_sound {v : Value} {d : PV} {K : Bool -> Prop} (r : RepV s.heap M ads v d) (e : TRU d K) {Q : Bool -> Shared -> Prop} {E : Value -> Shared -> Prop} (q : ∀ c, K c -> Q c s) : wpAny (model pw w) A (truthy v) Q E s := by
 cases d with
 | bool b => rw [r.bool]; exact wpAny_truthy_bool (q _ e)
 | int i => obtain ⟨t, rfl⟩ := r.int; exact PyProof.Rows.truthy_int (q _ e)
 | _ => exact False.elim e
end
noncomputable def CSound (k : Nat) (w : World) (hO : Heap) (C : CT) : Prop :=
 ∀ a μ ds K, C a μ ds K -> (∃ o fd, hO.get? a = some o /\ o.data = .func fd) /\
  ∀ A M ads s vs, AOk k A -> MuAt hO M ads μ s.heap -> Reps (vis s.heap M) ads vs ds -> Go w A M ads (call (.ref a) vs) s K
section
variable (T : Tabs) (C : CT) (k : Nat)
noncomputable def SE (f : Fx) (e : Expr) (m : ME) : Prop := ∀ M ads ρ μ s K, St f M ads ρ μ s.heap -> AOk k f.A -> EV T C ρ μ m K -> Go f.w f.A M ads (eval e f.env) s K
noncomputable def SEs (f : Fx) (es : List Expr) (ms : List ME) : Prop := ∀ M ads ρ μ (s : Shared) K, St f M ads ρ μ s.heap -> AOk k f.A -> EVs T C ρ μ ms K -> ∀ pos Q E,
 (∀ vs ds h' tk, K ds -> Keep s.heap h' -> Reps (vis h' M) ads vs ds -> Q vs { s with heap := h', toks := tk }) -> wpAny (model pw f.w) f.A (spliced (backTo pos (starEach es f.env))) Q E s
noncomputable def SB (f : Fx) (e : Expr) (m : ME) : Prop := ∀ M ads ρ μ (s : Shared) K, St f M ads ρ μ s.heap -> AOk k f.A -> EVT T C ρ μ m K -> ∀ Q E,
 (∀ b h' tk, K b -> Keep s.heap h' -> Q b { s with heap := h', toks := tk }) -> wpAny (model pw f.w) f.A (isTrue e f.env (eval e f.env)) Q E s
end
section
variable {T : Tabs} {C : CT} {k : Nat} {f : Fx}
theorem Keep.trans {h h' h'' : Heap} (a : Keep h h') (b : Keep h' h'') : Keep h h'' := fun x o e => b _ _ (a _ _ e)
theorem se_int {i : Int} {n : Nat} {pos : Pos} : SE T C k f (.Constant (.int i) n pos) (.lit (.int i)) := fun M ads ρ μ s K st ok e =>
 .int e fun Q E q => wpAny_Constant_int (q _ _)
theorem se_str {x : Str} {n : Nat} {pos : Pos} : SE T C k f (.Constant (.str x) n pos) (.lit (.str x.cps.toList)) := fun M ads ρ μ s K st ok e =>
 .str rfl e fun Q E q => wpAny_Constant_str (q _ _)
theorem se_bool {b : Bool} {n : Nat} {pos : Pos} : SE T C k f (.Constant (.bool b) n pos) (.lit (.bool b)) := fun M ads ρ μ s K st ok e =>
 .bool e fun Q E q => wpAny_Constant_bool (q s.toks)
theorem se_none {n : Nat} {pos : Pos} : SE T C k f (.Constant .none n pos) (.lit .none) := fun M ads ρ μ s K st ok e =>
 .val e .none fun Q E q => wpAny_Constant_none q
theorem ld_var {M ads : List Addr} {ρ : Env'} {μ : List MV} {s : Shared} {x : Str} {i : Nat} {d : PV} (st : St f M ads ρ μ s.heap) (hx : f.cx.lookup x = some i) (hk : f.env.kindOf x = some .local ∨ envCell f.env x)
  (hd : (x == ("__classdict__" : Str)) = false) (e : ρ[i]? = some (some d)) {Q : Value -> Shared -> Prop} {E : Value -> Shared -> Prop} (q : ∀ v, Rep (vis s.heap M) ads v d -> Q v s) : wpAny (model pw f.w) f.A (loadName f.env x) Q E s := by
 rcases hk with hk | hk
 ·obtain ⟨m, hn, hv⟩ := st.ns
  obtain ⟨v, h1, h2⟩ := hv x i d hx hk e
  exact wpAny_loadName_local st.kind hk hn h1 (q v h2)
 ·obtain ⟨c, ov, h1, h2, h3, h4, h5, h6⟩ := st.cells x hk
  obtain ⟨v, rfl, h7⟩ := h6 i d hx e
  rcases hk with hk | hk
  ·exact wpAny_loadName_cell st.kind hk h1 h2 (q v h7)
  ·exact wpAny_loadName_free st.kind hk h1 h2 (q v h7) hd
theorem se_var {x : Str} {i : Nat} {pos : Pos} (hx : f.cx.lookup x = some i) (hk : f.env.kindOf x = some .local ∨ envCell f.env x) (hd : (x == ("__debug__" : Str)) = false) (hd' : (x == ("__classdict__" : Str)) = false) :
  SE T C k f (.Name x pos) (.var i) := fun M ads ρ μ s K st ok e Q E q => by
 obtain ⟨d, h, e⟩ := mOO e
 exact wpAny_Name (ld_var st hx hk hd' h fun v r => q v d s.heap s.toks e (fun _ _ e => e) r) hd
theorem se_bin {l r : Expr} {op : Operator} {pos : Pos} {a b : ME} (hl : SE T C k f l a) (hr : SE T C k f r b) : SE T C k f (.BinOp l op r pos) (.bin op a b) := fun M ads ρ μ s K st ok e Q E q => by
 refine wpAny_BinOp (hl M ads ρ μ s _ st ok e _ _ fun v1 a1 h1 tk1 e1 k1 r1 => ?_)
 refine hr M ads ρ μ { s with heap := h1, toks := tk1 } _ (st.keep k1) ok e1 _ _ fun v2 a2 h2 tk2 e2 k2 r2 => ?_
 have st2 := (st.keep k1).keep k2
 exact bin_sound (s := { s with heap := h2, toks := tk2 }) st2.mu ((r1.keep (vis_keepK k2)).view st2.mu) (r2.view st2.mu) e2 _ _ fun v d h3 tk3 e3 k3 r3 => q v d h3 tk3 e3 ((k1.trans k2).trans k3) r3
theorem se_cmp {l r : Expr} {op : CmpOp} {pos : Pos} {a b : ME} (hl : SE T C k f l a) (hr : SE T C k f r b) (hm : behindInMarks op r = false) : SE T C k f (.Compare l [op] [r] pos) (.cmp op a b) := fun M ads ρ μ s K st ok e Q E q => by
 refine wpAny_Compare1 (hl M ads ρ μ s _ st ok e _ _ fun v1 a1 h1 tk1 e1 k1 r1 => ?_) hm
 refine hr M ads ρ μ { s with heap := h1, toks := tk1 } _ (st.keep k1) ok e1 _ _ fun v2 a2 h2 tk2 e2 k2 r2 => ?_
 have st2 := (st.keep k1).keep k2
 exact cmp_sound (s := { s with heap := h2, toks := tk2 }) ok st2.mu ((r1.keep (vis_keepK k2)).view st2.mu) (r2.view st2.mu) e2 fun c tk hc => q _ _ _ _ hc (k1.trans k2) (.bool c)
theorem st_cmp {l r : Expr} {op : CmpOp} {pos : Pos} {a b : ME} (hl : SE T C k f l a) (hr : SE T C k f r b) (hm : behindInMarks op r = false) : SB T C k f (.Compare l [op] [r] pos) (.cmp op a b) := fun M ads ρ μ s K st ok e Q E q => by
 refine wpAny_isTrue_Compare1 (hl M ads ρ μ s _ st ok e _ _ fun v1 a1 h1 tk1 e1 k1 r1 => ?_) hm
 refine hr M ads ρ μ { s with heap := h1, toks := tk1 } _ (st.keep k1) ok e1 _ _ fun v2 a2 h2 tk2 e2 k2 r2 => ?_
 have st2 := (st.keep k1).keep k2
 exact cmp_sound (s := { s with heap := h2, toks := tk2 }) ok st2.mu ((r1.keep (vis_keepK k2)).view st2.mu) (r2.view st2.mu) e2 fun c tk hc => wpAny_truthy_bool (q _ _ _ hc (k1.trans k2))
theorem st_of {e : Expr} {m : ME} (h : SE T C k f e m) (he : ∀ env whole, isTrue e env whole = (do let v <- whole; standAt e.pos; holding [v] (truthy v)))
  (hm : ∀ ρ μ K, EVT T C ρ μ m K -> EV T C ρ μ m fun d => TRU (view μ d) K) : SB T C k f e m := fun M ads ρ μ s K st ok ev Q E q => by
 refine wpAny_isTrue_value (h M ads ρ μ s _ st ok (hm _ _ _ ev) _ _ fun v d h1 tk1 e1 k1 r1 => ?_) (he _ _)
 exact tru_sound (s := { s with heap := h1, toks := tk1 }) (r1.view (st.keep k1).mu) e1 fun c hc => q c h1 tk1 hc k1
theorem se_not {x : Expr} {pos : Pos} {a : ME} (h : SE T C k f x a) : SE T C k f (.UnaryOp .Not x pos) (.not a) := fun M ads ρ μ s K st ok e Q E q => by
 refine wpAny_UnaryOp (h M ads ρ μ s _ st ok e _ _ fun v d h1 tk1 e1 k1 r1 => not_value ?_)
 exact tru_sound (s := { s with heap := h1, toks := tk1 }) (r1.view (st.keep k1).mu) e1 fun c hc => q (.bool !c) (.bool !c) h1 tk1 hc k1 (.bool _)
theorem st_not {x : Expr} {pos : Pos} {a : ME} (h : SB T C k f x a) : SB T C k f (.UnaryOp .Not x pos) (.not a) := fun M ads ρ μ s K st ok e Q E q => by
 exact wpAny_isTrue_Not (h M ads ρ μ s _ st ok e _ _ fun b h1 tk1 e1 k1 => q _ h1 tk1 e1 k1)
theorem se_and {x y : Expr} {pos : Pos} {a b : ME} (hx : SE T C k f x a) (hy : SE T C k f y b) : SE T C k f (.BoolOp .And [x, y] pos) (.bop true a b) := fun M ads ρ μ s K st ok e Q E q => by
 refine wpAny_And2 (hx M ads ρ μ s _ st ok e _ _ fun v d h1 tk1 e1 k1 r1 => ?_)
 refine tru_sound (s := { s with heap := h1, toks := tk1 }) (r1.view (st.keep k1).mu) e1 fun c hc => ?_
 cases c with
 | false => exact q v d h1 tk1 hc k1 r1
 | true => exact hy M ads ρ μ { s with heap := h1, toks := tk1 } _ (st.keep k1) ok hc _ _ fun v2 a2 h2 tk2 e2 k2 r2 => q v2 a2 h2 tk2 e2 (k1.trans k2) r2
theorem se_or {x y : Expr} {pos : Pos} {a b : ME} (hx : SE T C k f x a) (hy : SE T C k f y b) : SE T C k f (.BoolOp .Or [x, y] pos) (.bop false a b) := fun M ads ρ μ s K st ok e Q E q => by
 refine wpAny_Or2 (hx M ads ρ μ s _ st ok e _ _ fun v d h1 tk1 e1 k1 r1 => ?_)
 refine tru_sound (s := { s with heap := h1, toks := tk1 }) (r1.view (st.keep k1).mu) e1 fun c hc => ?_
 cases c with
 | true => exact q v d h1 tk1 hc k1 r1
 | false => exact hy M ads ρ μ { s with heap := h1, toks := tk1 } _ (st.keep k1) ok hc _ _ fun v2 a2 h2 tk2 e2 k2 r2 => q v2 a2 h2 tk2 e2 (k1.trans k2) r2
theorem st_and {x y : Expr} {pos : Pos} {a b : ME} (hx : SB T C k f x a) (hy : SB T C k f y b) : SB T C k f (.BoolOp .And [x, y] pos) (.bop true a b) := fun M ads ρ μ s K st ok e Q E q => by
 refine wpAny_isTrue_BoolOp (wpAny_allTrue_And_cons (hx M ads ρ μ s _ st ok e _ _ fun c h1 tk1 hc k1 => ?_))
 cases c with
 | false => exact q false h1 tk1 hc k1
 | true => exact wpAny_allTrue_And_cons (hy M ads ρ μ { s with heap := h1, toks := tk1 } _ (st.keep k1) ok hc _ _ fun c2 h2 tk2 e2 k2 => by
   cases c2 with
   | false => exact q false h2 tk2 e2 (k1.trans k2)
   | true => exact wpAny_allTrue_And_nil (q true h2 tk2 e2 (k1.trans k2)))
theorem se_ite {t x y : Expr} {pos : Pos} {c a b : ME} (ht : SB T C k f t c) (hx : SE T C k f x a) (hy : SE T C k f y b) : SE T C k f (.IfExp t x y pos) (.ite c a b) := fun M ads ρ μ s K st ok e Q E q => by
 refine wpAny_IfExp (ht M ads ρ μ s _ st ok e _ _ fun c h1 tk1 hc k1 => ?_)
 cases c with
 | true => exact hx M ads ρ μ { s with heap := h1, toks := tk1 } _ (st.keep k1) ok hc _ _ fun v2 a2 h2 tk2 e2 k2 r2 => q v2 a2 h2 tk2 e2 (k1.trans k2) r2
 | false => exact hy M ads ρ μ { s with heap := h1, toks := tk1 } _ (st.keep k1) ok hc _ _ fun v2 a2 h2 tk2 e2 k2 r2 => q v2 a2 h2 tk2 e2 (k1.trans k2) r2
theorem ses_nil : SEs T C k f [] [] := fun M ads ρ μ s K st ok e pos Q E q => by
 exact wpAny_items_nil (q [] [] s.heap s.toks e (fun _ _ e => e) .nil)
theorem ses_cons {x : Expr} {xs : List Expr} {a : ME} {as : List ME} (h : SE T C k f x a) (hs : SEs T C k f xs as) (he : ∀ env, starEach (x :: xs) env = (false, eval x env) :: starEach xs env) : SEs T C k f (x :: xs) (a :: as) := fun M ads ρ μ s K st ok e pos Q E q => by
 refine wpAny_items_cons (h M ads ρ μ s _ st ok e _ _ fun v d h1 tk1 e1 k1 r1 => ?_) (he _)
 exact hs M ads ρ μ { s with heap := h1, toks := tk1 } _ (st.keep k1) ok e1 pos _ _ fun vs ds h2 tk2 e2 k2 r2 => q _ _ h2 tk2 e2 (k1.trans k2) (.cons _ _ _ _ (r1.keep (vis_keepK k2)) r2)
theorem se_list {xs : List Expr} {as : List ME} {pos : Pos} (hs : SEs T C k f xs as) : SE T C k f (.List xs pos) (.list as) := fun M ads ρ μ s K st ok e Q E q => by
 refine wpAny_List (hs M ads ρ μ s _ st ok e pos _ _ fun vs ds h1 tk1 e1 k1 r1 => ⟨by rw [r1.length]; exact e1.1, ?_⟩)
 exact q _ (.list ds) _ _ e1.2 (k1.trans keep_push) (.list _ vs.toArray _ (SeqIn.new (st.keep k1).mu) (r1.keep (vis_keepK keep_push)))
theorem se_tup {xs : List Expr} {as : List ME} {n : Nat} {pos : Pos} (hs : SEs T C k f xs as) : SE T C k f (.Tuple xs n pos) (.tup as) := fun M ads ρ μ s K st ok e Q E q => by
 refine wpAny_Tuple (hs M ads ρ μ s _ st ok e pos _ _ fun vs ds h1 tk1 e1 k1 r1 => ⟨by rw [r1.length]; exact e1.1, ?_⟩)
 exact q _ (.tup ds) _ _ e1.2 (k1.trans keep_push) (.tup _ vs.toArray _ (SeqIn.new (st.keep k1).mu) (r1.keep (vis_keepK keep_push)))
end
noncomputable def BI.val : BI -> Value
 | .len => .builtin "len" | .sum => .builtin "sum" | .chr => .builtin "chr" | .ord => .builtin "ord"
 | .int => .type "int" | .str => .type "str" | .hex => .builtin "hex" | .isStr => .builtin "isinstance" | .sorted => .builtin "sorted" | .lrange => .type "list"
section
variable {w : World} {A : Around} {M ads : List Addr} {s : Shared} {K : PV -> Prop} {hO : Heap} {μ : List MV} {k : Nat}
inductive RepVs (h : Heap) (M ads : List Addr) : List Value -> List PV -> Prop
 | nil : RepVs h M ads [] []
 | cons (v d vs ds) : RepV h M ads v d -> RepVs h M ads vs ds -> RepVs h M ads (v :: vs) (d :: ds)
theorem Reps.views (m : MuAt hO M ads μ s.heap) {vs : List Value} {ds : List PV} (r : Reps (vis s.heap M) ads vs ds) : RepVs s.heap M ads vs (ds.map (view μ)) :=
 r.ind (P := fun vs ds => RepVs s.heap M ads vs (ds.map (Mine.view μ))) .nil fun _ _ _ _ a _ r => .cons _ _ _ _ (a.view m) r
noncomputable def RVInv (h : Heap) (M ads : List Addr) (vs : List Value) : List PV -> Prop
 | [] => vs = []
 | d :: ds => ∃ v ws, vs = v :: ws /\ RepV h M ads v d /\ RepVs h M ads ws ds
theorem RepVs.inv {h : Heap} {vs : List Value} {ds} (r : RepVs h M ads vs ds) : RVInv h M ads vs ds := by
 cases r with
 | nil => rfl
 | cons v d vs ds a r => exact ⟨v, vs, rfl, a, r⟩
theorem RepVs.one {h : Heap} {vs : List Value} {d : PV} (r : RepVs h M ads vs [d]) : ∃ v, vs = [v] /\ RepV h M ads v d := by
 obtain ⟨v, _, rfl, a, r⟩ := r.inv; obtain rfl := r.inv; exact ⟨v, rfl, a⟩
theorem RepVs.none {h : Heap} {vs : List Value} (r : RepVs h M ads vs []) : vs = [] := r.inv
theorem sum_raw {prog : Program} {E : Value -> Shared -> Prop} {l : Addr} {vs : Array Value} {ns : List Int} {Q : Value -> Shared -> Prop} (hh : A.handled = none) (hl : s.heap.IsList l vs) (hi : IntsAre vs.toList ns)
  (h : ∀ h' tk t', Keep s.heap h' -> Q (.int ns.sum t') { s with heap := h', toks := tk }) : wpAny (model prog w) A (call (.builtin "sum") [.ref l]) Q E s := by
 obtain ⟨xs, hx⟩ := (show AllInts vs from by have := hi.allInts; simpa using this).items
 subst hx
 refine sum_intListG hh hl fun h' tk t' hk => ?_
 have := h h' tk t' hk
 rw [<- hi.numsOf, nums_intItems] at this
 rw [preSum_eq, List.take_of_length_le (by simp)]; exact this
theorem le6263 {n : Nat} (h : n < 2 ^ 62) : (n : Int) < 2 ^ 63 := by lia
theorem IntsAre.reps {g : Part} {vs : List Value} {xs : List Int} (r : IntsAre vs xs) : Reps g ads vs (xs.map .int) := by
 induction r with
 | nil => exact .nil
 | cons n t _ r => exact .cons _ _ _ _ (.int n t) r
theorem bif_sound {b : BI} {vs : List Value} {ds : List PV} (ok : AOk k A) (m : MuAt hO M ads μ s.heap) (r : RepVs s.heap M ads vs ds) (hb : b ≠ .isStr) (hb' : b ≠ .lrange) (e : BIF b ds K) : Go w A M ads (call b.val vs) s K := by
 cases r with
 | nil => exact False.elim e
 | cons v d vs ds rv r => cases r with
  | cons v2 d2 vs2 ds2 => cases b with
   | lrange => exact absurd rfl hb'
   | _ => exact False.elim e
  | nil => cases b with
   | len => cases d with
    | list ds =>
     obtain ⟨l, vs, rfl, hl, rl⟩ := rv
     have h : vs.size = ds.length := rl.length
     refine .int e.2 fun Q E q => PyProof.Rows.len_list hl (h ▸ le6263 e.1) ?_
     rw [h]; exact q _ _
    | str x =>
     obtain ⟨t, rfl⟩ := rv.str
     exact .int e.2 fun Q E q => PyProof.Rows.len_str (Int.not_le.mpr (le6263 e.1)) (q _ _)
    | _ => exact False.elim e
   | sum =>
    obtain ⟨l, rfl, e⟩ := mL e
    obtain ⟨xs, hx, e⟩ := mO2 e
    obtain ⟨l, vs, rfl, hl, rl⟩ := rv
    exact fun Q E q => sum_raw ok.handled hl (rl.ints hx) fun h' tk t' hk => q _ (.int xs.sum) h' tk e hk (.int ..)
   | chr =>
    obtain ⟨i, rfl, e⟩ := mI e
    obtain ⟨t, rfl⟩ := rv.int
    exact .str rfl e.2 fun Q E q => PyProof.Rows.chr_of_range e.1.1 e.1.2 (q _ _)
   | ord =>
    obtain ⟨x, rfl, e⟩ := mS e
    obtain ⟨t, rfl⟩ := rv.str
    cases x with
    | nil => exact False.elim e
    | cons c r => cases r with
     | nil => exact .int e fun Q E q => PyProof.Rows.ord_of_one rfl (q _ _)
     | cons => exact False.elim e
   | int =>
    obtain ⟨x, rfl, e⟩ := mS e
    obtain ⟨n, hn, e⟩ := mO3 e
    obtain ⟨t, rfl⟩ := rv.str
    exact .int e.2 fun Q E q => PySem.W.KIN.call_text hn e.1 (q _ _)
   | str =>
    obtain ⟨i, rfl, e⟩ := mI e
    obtain ⟨t, rfl⟩ := rv.int
    exact .str rfl e.2 fun Q E q => PySem.P.str_of_int e.1 (q _ _)
   | hex =>
    obtain ⟨i, rfl, e⟩ := mI e
    obtain ⟨t, rfl⟩ := rv.int
    exact .str rfl e.2 fun Q E q => PySem.P.hex_of_int (q _ _) e.1
   | isStr => exact absurd rfl hb
   | sorted =>
    obtain ⟨l, rfl, e⟩ := mL e
    obtain ⟨xs, hx, e⟩ := mO2 e
    obtain ⟨l, vs, rfl, hl, rl⟩ := rv
    intro Q E q
    refine sorted_ints hl (rl.ints hx) (Nat.lt_of_le_of_lt (Nat.le_of_eq rl.length) e.1) fun out ns' a1 a2 a3 => ?_
    obtain ⟨ep, he⟩ := sortedAll_at s.heap vs.toList out
    refine q _ (.list (ns'.map .int)) _ s.toks (e.2 ns' a2 a3) (fun b o hb => sortedAll_old hb) (.list _ out _ ⟨_, vis_of he fun hm => ?_, rfl, _, rfl⟩ (IntsAre.reps a1))
    obtain ⟨o, ho⟩ := m.live _ hm
    exact absurd (Heap.lt_size ho) (Nat.not_lt.mpr (Nat.le_succ _))
   | lrange => exact absurd rfl hb'
end
noncomputable def MI.name : MI -> Str
 | .lower => "lower" | .isalpha => "isalpha" | .join => "join" | .find => "find"
noncomputable def MI.id : MI -> String
 | .lower => "str.lower" | .isalpha => "str.isalpha" | .join => "str.join" | .find => "str.find"
noncomputable def isStar (e : Expr) : Bool := e.ctorIdx == 22
noncomputable def noStar : List Expr -> Bool
 | [] => true
 | e :: r => !isStar e && noStar r
theorem star_cons {e : Expr} (h : isStar e = false) (r : List Expr) (env : Env) : starEach (e :: r) env = (false, eval e env) :: starEach r env := by
 cases e <;> first | rfl | cases h
theorem noStar_head {e : Expr} {es : List Expr} (h : noStar (e :: es) = true) (env : Env) : starEach (e :: es) env = (false, eval e env) :: starEach es env :=
 star_cons (Bool.not_eq_true' _ ▸ (Bool.and_eq_true_iff.mp h).1) es env
theorem noStar_eq {es : List Expr} (h : noStar es = true) (env : Env) : starEach es env = es.map fun e => (false, eval e env) := by
 induction es with
 | nil => rfl
 | cons e r ih => exact (noStar_head h env).trans (congrArg _ (ih (Bool.and_eq_true_iff.mp h).2))
theorem noStar_any {es : List Expr} (h : noStar es = true) (env : Env) (pos : Pos) : (backTo pos (starEach es env)).any (·.1) = false := by
 rw [noStar_eq h]
 simp [backTo]
theorem noStar_all {es : List Expr} (h : noStar es = true) (env : Env) (pos : Pos) : (backTo pos (starEach es env)).all (!·.1) = true := by
 rw [noStar_eq h]
 simp [backTo]
section
variable {w : World} {A : Around} {M ads : List Addr} {s : Shared} {K : PV -> Prop} {hO : Heap} {μ : List MV} {k : Nat}
theorem Reps.strs {g : Part} {vs : List Value} {ds : List PV} {xs : List (List Nat)} (r : Reps g ads vs ds) (e : strsOf ds = some xs) : ∃ ts : List Tok, ts.length = xs.length /\ vs = strValues ((xs.map strOf).zip ts) :=
 r.ind (P := fun vs ds => ∀ xs, strsOf ds = some xs -> ∃ ts : List Tok, ts.length = xs.length /\ vs = strValues ((xs.map strOf).zip ts)) (fun xs e => ⟨[], by cases e; exact ⟨rfl, rfl⟩⟩) (fun v d vs ds a _ ih xs e => by
  obtain ⟨x, ys, rfl, e1, rfl⟩ := strsOf_cons e
  obtain ⟨ts, h1, rfl⟩ := ih ys e1
  obtain ⟨t, rfl⟩ := a.strI
  exact ⟨t :: ts, congrArg Nat.succ h1, rfl⟩) xs e
theorem meth_sound {m : MI} {v : Value} {vs : List Value} {a : PV} {ds : List PV} (r : Rep (vis s.heap M) ads v a) (rs : RepVs s.heap M ads vs ds) (e : METH m a ds K) : Go w A M ads (call (.builtin m.id) (v :: vs)) s K := by
 obtain ⟨x, rfl, e⟩ := mS e
 obtain ⟨t, rfl⟩ := r.strI
 cases rs with
 | nil => cases m with
  | lower => exact .str rfl e.2 fun Q E q => SCL.lower e.1 fun _ => q _ _
  | isalpha => exact .bool e fun Q E q => SC.isalpha (q s.toks)
  | _ => exact False.elim e
 | cons v d vs ds rv rs => cases rs with
  | cons => exact False.elim e
  | nil => cases m with
   | join =>
    obtain ⟨l, rfl, e⟩ := mL e
    obtain ⟨xs, hx, e⟩ := mO e
    obtain ⟨l, vs, rfl, hl, rl⟩ := rv
    obtain ⟨ts, h1, h2⟩ := rl.strs hx
    refine .str rfl e.2 fun Q E q => SC.join (l := (xs.map strOf).zip ts) ?_ ?_ e.1 fun t' k => q _ _
    ·rw [<- h2]; exact hl
    ·rw [List.map_fst_zip]; simp [h1]
   | find =>
    obtain ⟨x, rfl, e⟩ := mS e
    obtain ⟨u, rfl⟩ := rv.str
    exact .int e fun Q E q => SC.find (q _ _)
   | _ => exact False.elim e
end
section
variable {T : Tabs} {C : CT} {k : Nat} {f : Fx}
theorem evalArgs_nilS {M : Model} {A : Around} {E : Value -> Shared -> Prop} {s : Shared} {fv : Value} {Q : Args -> Shared -> Prop} (h : wpAny M A (spliced []) (fun vs s' => Q ⟨vs, []⟩ s') E s) : wpAny M A (evalArgs fv true [] []) Q E s := by
 show wpAny M A (spliced [] >>= _) Q E s
 refine wpAny_bind (wpAny_mono h (fun vs s' h' => ?_) fun _ _ x => x)
 refine wpAny_bind (wpAny_pure (wpAny_holding ?_))
 exact wpAny_bind (wpAny_pure (wpAny_bind (wpAny_pure (wpAny_pure h'))))
theorem args_go {es : List Expr} {ms : List ME} (hs : SEs T C k f es ms) (hp : noStar es = true) {M ads : List Addr} {ρ : Env'} {μ : List MV} {s : Shared} {K : List PV -> Prop} (st : St f M ads ρ μ s.heap) (ok : AOk k f.A) (e : EVs T C ρ μ ms K)
  {fv : Value} {pos : Pos} {Q : Args -> Shared -> Prop} {E : Value -> Shared -> Prop} (q : ∀ vs ds h' tk, K ds -> Keep s.heap h' -> Reps (vis h' M) ads vs ds -> Q ⟨vs, []⟩ { s with heap := h', toks := tk }) :
  wpAny (model pw f.w) f.A (evalArgs fv true (backTo pos (starEach es f.env)) []) Q E s := by
 have h := hs M ads ρ μ s K st ok e pos (fun vs s' => Q ⟨vs, []⟩ s') E q
 cases es with
 | nil => exact evalArgs_nilS h
 | cons x xs =>
  rw [noStar_head hp] at h ⊢
  exact evalArgs_plain h
noncomputable def on1 (R : PV -> Prop) : List PV -> Prop
 | [d] => R d
 | _ => False
theorem on1_inv {R : PV -> Prop} {ds : List PV} (h : on1 R ds) : ∃ d, ds = [d] /\ R d := by
 cases ds with
 | nil => exact False.elim h
 | cons d r => cases r with
  | nil => exact ⟨d, rfl, h⟩
  | cons => exact False.elim h
noncomputable def on2 (R : PV -> PV -> Prop) : List PV -> Prop
 | [d, e] => R d e
 | _ => False
theorem on2_inv {R : PV -> PV -> Prop} {ds : List PV} (h : on2 R ds) : ∃ d e, ds = [d, e] /\ R d e := by
 cases ds with
 | nil => exact False.elim h
 | cons d r => cases r with
  | nil => exact False.elim h
  | cons e r => cases r with
   | nil => exact ⟨d, e, rfl, h⟩
   | cons => exact False.elim h
theorem args1_go {e1 : Expr} {m1 : ME} (h1 : SE T C k f e1 m1) (hp : noStar [e1] = true) {M ads : List Addr} {ρ : Env'} {μ : List MV} {s : Shared} {R : PV -> Prop} (st : St f M ads ρ μ s.heap) (ok : AOk k f.A) (e : EV T C ρ μ m1 R)
  {fv : Value} {pos : Pos} {Q : Args -> Shared -> Prop} {E : Value -> Shared -> Prop} (q : ∀ v d h' tk, R d -> Keep s.heap h' -> Rep (vis h' M) ads v d -> Q ⟨[v], []⟩ { s with heap := h', toks := tk }) :
  wpAny (model pw f.w) f.A (evalArgs fv true (backTo pos (starEach [e1] f.env)) []) Q E s :=
 args_go (K := on1 R) (ses_cons h1 ses_nil (noStar_head hp)) hp st ok e fun vs ds h' tk kd kk r => by
  obtain ⟨d, rfl, kd⟩ := on1_inv kd
  obtain ⟨v, rfl, ra⟩ := r.one
  exact q v d h' tk kd kk ra
theorem args2_go {e1 e2 : Expr} {m1 m2 : ME} (h1 : SE T C k f e1 m1) (h2 : SE T C k f e2 m2) (hp : noStar [e1, e2] = true) {M ads : List Addr} {ρ : Env'} {μ : List MV} {s : Shared} {R : PV -> PV -> Prop} (st : St f M ads ρ μ s.heap) (ok : AOk k f.A) (e : EV T C ρ μ m1 fun x => EV T C ρ μ m2 (R x))
  {fv : Value} {pos : Pos} {Q : Args -> Shared -> Prop} {E : Value -> Shared -> Prop} (q : ∀ v u d e h' tk, R d e -> Keep s.heap h' -> Rep (vis h' M) ads v d -> Rep (vis h' M) ads u e -> Q ⟨[v, u], []⟩ { s with heap := h', toks := tk }) :
  wpAny (model pw f.w) f.A (evalArgs fv true (backTo pos (starEach [e1, e2] f.env)) []) Q E s :=
 args_go (K := on2 R) (ses_cons h1 (ses_cons h2 ses_nil (noStar_head (Bool.and_eq_true_iff.mp hp).2)) (noStar_head hp)) hp st ok e fun vs ds h' tk kd kk r => by
  obtain ⟨d, e, rfl, kd⟩ := on2_inv kd
  obtain ⟨v, u, rfl, ra, rb⟩ := r.two
  exact q v u d e h' tk kd kk ra rb
theorem getMethod_str {M : Model} {A : Around} {E : Value -> Shared -> Prop} {s : Shared} {m : MI} {x : Str} {t : Tok} {pl : Sem Bool} {Q : Value × List Value -> Shared -> Prop} (h : Q (.builtin m.id, [.str x t]) s) : wpAny M A (getMethod (.str x t) m.name pl) Q E s := by
 cases m
 ·exact GM.lower h
 ·exact GM.isalpha h
 ·exact GM.join h
 ·exact GM.find h
theorem meth_call {o : Expr} {name : Str} {apos pos : Pos} {es : List Expr} {Q : Value -> Shared -> Prop} {M : Model} {A : Around} {E : Value -> Shared -> Prop} {s : Shared} {env : Env} (hb : ∀ whole, attributeBase o name env whole = whole) (hp : noStar es = true) (hlen : es.length < 30) (hline : (apos.endLine == pos.line) = true)
  (h : wpAny M A (eval o env) (fun v s₁ => ∃ id vs, (∀ (pl : Sem Bool) (P : Value × List Value -> Shared -> Prop), P (.builtin id, vs) s₁ -> wpAny M A (getMethod v name pl) P E s₁) /\ wpAny M A (callWith pos (.builtin id) vs (backTo pos (starEach es env)) []) Q E s₁) E s) :
  wpAny M A (eval (.Call (.Attribute o name apos) es [] pos) env) Q E s := by
 rw [arm_eval_Call, hb]
 refine wpAny_bind (wpAny_mono h (fun v s₁ h₁ => ?_) fun _ _ e => e)
 obtain ⟨id, vs, h1, h2⟩ := h₁
 refine wpAny_bind (wpAny_standAt ?_)
 have hform : methodCallForm (es.length + ([] : List Keyword).length) (backTo pos (starEach es env)) (backToKw pos (keywordEach [] env)) = true :=
  Bool.and_eq_true_iff.mpr ⟨Bool.and_eq_true_iff.mpr ⟨noStar_all hp _ _, rfl⟩, decide_eq_true hlen⟩
 have hpos : methodCallPos true o env apos pos = pure pos := by unfold methodCallPos; rw [hline]; rfl
 unfold methodCall
 rw [hform]
 refine wpAny_bind (wpAny_holding (h1 _ _ ?_))
 exact wpAny_bind (wpAny_of_eq hpos h2)
theorem se_meth {o : Expr} {m : MI} {apos pos : Pos} {es : List Expr} {a : ME} {ms : List ME} (ho : SE T C k f o a) (hs : SEs T C k f es ms) (hb : ∀ whole, attributeBase o m.name f.env whole = whole) (hp : noStar es = true) (hlen : es.length < 30)
  (hline : (apos.endLine == pos.line) = true) : SE T C k f (.Call (.Attribute o m.name apos) es [] pos) (.meth m a ms) := fun M ads ρ μ s K st ok e Q E q => by
 refine meth_call hb hp hlen hline (ho M ads ρ μ s _ st ok e _ _ fun v d h1 tk1 e1 k1 r1 => ?_)
 ·obtain ⟨x, rfl, e1⟩ := mS e1
  obtain ⟨t, rfl⟩ := r1.strI
  refine ⟨m.id, _, fun pl P => getMethod_str, callWith_builtin (noStar_any hp _ _) (args_go hs hp (s := { s with heap := h1, toks := tk1 }) (st.keep k1) ok e1 fun vs ds h2 tk2 e2 k2 r2 => ?_)⟩
  have st2 := (st.keep k1).keep k2
  exact meth_sound (s := { s with heap := h2, toks := tk2 }) (r1.keep (vis_keepK k2)) (r2.views (s := { s with heap := h2, toks := tk2 }) st2.mu) e2 _ _ fun v d h3 tk3 e3 k3 r3 => q v d h3 tk3 e3 ((k1.trans k2).trans k3) r3
structure Glob (hO : Heap) (mg mb : Str -> Option Value) : Prop where
 g : hO.Ns mainGlobals mg
 b : hO.Ns builtinsNs mb
noncomputable def glv (mg mb : Str -> Option Value) (x : Str) (v : Value) : Prop := mg x = some v ∨ (mg x = none /\ mb x = some v)
theorem ld_glob {mg mb : Str -> Option Value} (G : Glob f.hO mg mb) {x : Str} {v : Value} {pos : Pos} (hv : glv mg mb x v) (hk : f.env.kindOf x = some .globalImplicit) (hd : (x == ("__debug__" : Str)) = false)
  {M ads : List Addr} {ρ : Env'} {μ : List MV} {s : Shared} (st : St f M ads ρ μ s.heap) {Q : Value -> Shared -> Prop} {E : Value -> Shared -> Prop} (q : Q v s) : wpAny (model pw f.w) f.A (eval (.Name x pos) f.env) Q E s := by
 refine Name_function_global st.kind hk ?_ hd
 have hg := Ns.at G.g fun o e => st.mu.base _ _ e
 have hb := Ns.at G.b fun o e => st.mu.base _ _ e
 rw [<- st.glob] at hg
 rw [<- st.blt] at hb
 rcases hv with hv | ⟨h1, h2⟩
 ·exact loadGlobal_global hg hv q
 ·exact loadGlobal_builtin hg h1 hb h2 q
theorem call_name {x : Str} {p pos : Pos} {es : List Expr} {Q : Value -> Shared -> Prop} {M : Model} {A : Around} {E : Value -> Shared -> Prop} {s : Shared} {env : Env}
  (h : wpAny M A (eval (.Name x p) env) (fun fv s₁ => wpAny M A (callWith pos fv [] (backTo pos (starEach es env)) []) Q E s₁) E s) : wpAny M A (eval (.Call (.Name x p) es [] pos) env) Q E s :=
 Call_Name rfl h
theorem callWith_bt {v : Value} (hv : (∃ id, v = .builtin id) ∨ ∃ T, v = .type T) {pos : Pos} {es : List Expr} (hp : noStar es = true) {Q : Value -> Shared -> Prop} {M : Model} {A : Around} {E : Value -> Shared -> Prop} {s : Shared} {env : Env}
  (h : wpAny M A (evalArgs v true (backTo pos (starEach es env)) []) (fun a s₁ => wpAny M A (call v a.pos a.kw) Q E s₁) E s) : wpAny M A (callWith pos v [] (backTo pos (starEach es env)) []) Q E s := by
 rcases hv with ⟨id, rfl⟩ | ⟨T, rfl⟩
 ·exact callWith_builtin (noStar_any hp _ _) h
 ·exact PyProof.Rows.callWith_type (noStar_any hp _ _) h
theorem BI.bt (b : BI) : (∃ id, b.val = .builtin id) ∨ ∃ T, b.val = .type T := by cases b <;> first | exact .inl ⟨_, rfl⟩ | exact .inr ⟨_, rfl⟩
theorem se_bi {mg mb : Str -> Option Value} (G : Glob f.hO mg mb) {x : Str} {p pos : Pos} {es : List Expr} {ms : List ME} {b : BI} (hv : glv mg mb x b.val) (hk : f.env.kindOf x = some .globalImplicit) (hd : (x == ("__debug__" : Str)) = false)
  (hs : SEs T C k f es ms) (hp : noStar es = true) (hb : b ≠ .isStr) (hb' : b ≠ .lrange) : SE T C k f (.Call (.Name x p) es [] pos) (.bi b ms) := fun M ads ρ μ s K st ok e Q E q => by
 refine call_name (ld_glob G hv hk hd st (callWith_bt b.bt hp (args_go hs hp st ok e fun vs ds h1 tk1 e1 k1 r1 => ?_)))
 have st1 := st.keep k1
 exact bif_sound (s := { s with heap := h1, toks := tk1 }) ok st1.mu (r1.views (s := { s with heap := h1, toks := tk1 }) st1.mu) hb hb' e1 _ _ fun v d h3 tk3 e3 k3 r3 => q v d h3 tk3 e3 (k1.trans k3) r3
theorem se_call {hO : Heap} (hh : f.hO = hO) {mg mb : Str -> Option Value} (G : Glob f.hO mg mb) (CS : CSound k f.w hO C) {x : Str} {p pos : Pos} {es : List Expr} {ms : List ME} {a : Addr} (hv : glv mg mb x (.ref a)) (hk : f.env.kindOf x = some .globalImplicit)
  (hd : (x == ("__debug__" : Str)) = false) (ha : ∃ o fd, hO.get? a = some o /\ o.data = .func fd)
  (hs : SEs T C k f es ms) (hp : noStar es = true) : SE T C k f (.Call (.Name x p) es [] pos) (.call a ms) := fun M ads ρ μ s K st ok e Q E q => by
 obtain ⟨o, fd, ho, hf⟩ := ha
 refine call_name (ld_glob G hv hk hd st (callWith_function (o := o) (fd := fd) (args_go hs hp st ok e fun vs ds h1 tk1 e1 k1 r1 => ?_)))
 have st1 := st.keep k1
 refine ⟨⟨st1.mu.base _ _ (hh ▸ ho), hf⟩, ?_⟩
 exact (CS a μ ds _ e1).2 _ _ _ { s with heap := h1, toks := tk1 } vs ok (hh ▸ st1.mu) r1 _ _ fun v d h3 tk3 e3 k3 r3 => q v d h3 tk3 e3 (k1.trans k3) r3
theorem se_glit {mg mb : Str -> Option Value} (G : Glob f.hO mg mb) {x : Str} {pos : Pos} {i : Int} {t : Tok} (hv : glv mg mb x (.int i t)) (hk : f.env.kindOf x = some .globalImplicit) (hd : (x == ("__debug__" : Str)) = false) :
  SE T C k f (.Name x pos) (.lit (.int i)) := fun M ads ρ μ s K st ok e Q E q =>
 ld_glob G hv hk hd st (q _ (.int i) s.heap s.toks e (fun _ _ e => e) (.int i t))
theorem se_isStr {mg mb : Str -> Option Value} (G : Glob f.hO mg mb) {x y : Str} {p pos pz : Pos} {e : Expr} {m : ME} (hv : glv mg mb x (.builtin "isinstance")) (hk : f.env.kindOf x = some .globalImplicit) (hd : (x == ("__debug__" : Str)) = false)
  (hv' : glv mg mb y (.type "str")) (hk' : f.env.kindOf y = some .globalImplicit) (hd' : (y == ("__debug__" : Str)) = false)
  (he : SE T C k f e m) (hp : noStar [e] = true) : SE T C k f (.Call (.Name x p) [e, .Name y pz] [] pos) (.bi .isStr [m]) := fun M ads ρ μ s K st ok ev Q E q => by
 have hp2 : noStar [e, .Name y pz] = true := hp
 refine call_name (ld_glob G hv hk hd st (callWith_bt (.inl ⟨_, rfl⟩) hp2 ?_))
 have key : wpAny (model pw f.w) f.A (spliced (backTo pos (starEach [e, .Name y pz] f.env))) (fun vs s' => wpAny (model pw f.w) f.A (call (.builtin "isinstance") vs) Q E s') E s := by
  refine wpAny_items_cons (he M ads ρ μ s _ st ok ev _ _ fun v d h1 tk1 e1 k1 r1 => ?_) (noStar_head hp2 _)
  have st1 := st.keep k1
  refine wpAny_items_cons (ld_glob (s := { s with heap := h1, toks := tk1 }) G hv' hk' hd' st1 (wpAny_items_nil ?_))
  have r2 := r1.view st1.mu
  change (match view μ d with | .str _ => K (.bool true) | .tup _ => K (.bool false) | _ => False) at e1
  generalize view μ d = d' at e1 r2
  cases d' with
  | str =>
   obtain ⟨t, rfl⟩ := r2.str
   exact PySem.IsiPair.str_str (q _ (.bool true) h1 _ e1 k1 (.bool true))
  | tup =>
   obtain ⟨a, vs, rfl, ⟨o, ho, hc, _⟩, _⟩ := r2.tup
   exact PySem.IsiPair.tuple_str ho hc (q _ (.bool false) h1 _ e1 k1 (.bool false))
  | _ => exact False.elim e1
 rw [noStar_head hp2] at key ⊢
 exact evalArgs_plain key
end
theorem fm_range (l : List Nat) (a k : Nat) (h : a + k <= l.length) : ((List.range k).map (a + ·)).filterMap (l[·]?) = (l.drop a).take k := by
 induction k with
 | zero => rfl
 | succ k ih => rw [List.range_succ, List.map_append, List.filterMap_append, ih (Nat.le_of_succ_le h), List.take_add_one, List.getElem?_drop, List.getElem?_eq_getElem (i := a + k) h, List.map_singleton, List.filterMap_cons_some (List.getElem?_eq_getElem (i := a + k) h)]; rfl
theorem drop_take_min (l : List α) (a b : Nat) : (l.drop (min a l.length)).take (min b l.length - min a l.length) = (l.drop a).take (b - a) := by
 rcases Nat.le_total a l.length with h | h
 ·rw [Nat.min_eq_left h]
  rcases Nat.le_total b l.length with h2 | h2
  ·rw [Nat.min_eq_left h2]
  ·rw [Nat.min_eq_right h2, List.take_of_length_le (i := b - a) (List.length_drop ▸ Nat.sub_le_sub_right h2 a), List.take_of_length_le (Nat.le_of_eq List.length_drop)]
 ·rw [Nat.min_eq_right h, List.drop_of_length_le (Nat.le_refl _), List.drop_of_length_le h, List.take_nil, List.take_nil]
noncomputable def At (o : Option Int) (z a : Nat) : Prop := (o = none /\ a = z) ∨ o = some (a : Int)
theorem At.lo {n a : Nat} {o : Option Int} (h : At o 0 a) : o.elim 0 (clipAt n) = min a n := by
 rcases h with ⟨rfl, rfl⟩ | rfl
 ·exact (Nat.zero_min _).symm
 ·exact clipAt_nat n a
theorem At.hi {n b : Nat} {o : Option Int} (h : At o n b) : o.elim n (clipAt n) = min b n := by
 rcases h with ⟨rfl, rfl⟩ | rfl
 ·exact (Nat.min_self _).symm
 ·exact clipAt_nat n b
theorem ssi (lo hi : Option Int) (n : Nat) : Builtin.Str.strSliceIndices lo hi 1 n = (List.range (hi.elim n (clipAt n) - lo.elim 0 (clipAt n))).map (lo.elim 0 (clipAt n) + ·) := by
 rw [<- sliceRange_one]
 cases lo <;> cases hi <;> simp only [Option.elim, clipAt_cast] <;> rfl
theorem strSlice_plain (x : Str) (lo hi : Option Int) (a b : Nat) (ha : At lo 0 a) (hb : At hi x.cps.toList.length b) : (Txt.slice x lo hi).cps.toList = (x.cps.toList.drop a).take (b - a) := by
 have e := ssi lo hi x.length
 rw [ha.lo, hb.hi (n := x.length)] at e
 rw [<- drop_take_min]
 unfold Txt.slice
 rw [e]
 split
 ·rename_i h
  have h := beq_iff_eq.mp h
  rw [List.length_map, List.length_range] at h
  have h0 : min a x.length = 0 := by have := Nat.min_le_right b x.length; have := Nat.min_le_right a x.length; lia
  show _ = (x.cps.toList.drop (min a x.length)).take (min b x.length - min a x.length)
  rw [h, h0]; exact List.take_length.symm
 ·show List.filterMap (fun k => x.cps[k]?) _ = _
  rw [show (fun k => x.cps[k]?) = (fun k => x.cps.toList[k]?) from funext fun k => Array.getElem?_toList.symm]
  refine fm_range _ _ _ ?_
  have := Nat.min_le_right b x.length; have := Nat.min_le_right a x.length; show min a x.length + (min b x.length - min a x.length) <= x.length; lia
theorem listSlice_plain (items : Array Value) (lo hi : Option Int) (a b : Nat) (ha : At lo 0 a) (hb : At hi items.toList.length b) : slicePick items lo hi none = ((items.toList.drop a).take (b - a)).toArray := by
 rw [slicePick_plain, <- drop_take_min items.toList a b, ha.lo, hb.hi (n := items.size)]; rfl
theorem seqIdx {i : Int} {n : Nat} (h0 : 0 <= i) (h1 : i.toNat < n) : seqIndex? i n = some i.toNat := by
 unfold seqIndex?
 rw [if_neg (Int.not_lt.mpr h0)]
 exact if_pos (Bool.and_eq_true_iff.mpr ⟨decide_eq_true h0, decide_eq_true ((Int.toNat_lt h0).mp h1)⟩)
theorem lt63 {i : Int} (h : i < 2 ^ 62) : i < 2 ^ 63 := Int.lt_trans h (by decide)
theorem ge63 {i : Int} (h : 0 <= i) : -(2 ^ 63) <= i := Int.le_trans (by decide) h
noncomputable def notSlice (e : Expr) : Bool := e.ctorIdx != 26
theorem notSlice_eq {e : Expr} (h : notSlice e = true) (o i : Value) : subscripted e false o i = operate [o, i] (getItem o i) := by
 cases e <;> first | rfl | cases h
section
variable {T : Tabs} {C : CT} {k : Nat} {f : Fx}
theorem tupTypeIs {s : Shared} {a : Addr} {vs : Array Value} (x : IsTup s.heap a vs) : s.TypeIs (.ref a) "tuple" := let ⟨o, ho, hc, _⟩ := x; ⟨o, ho, hc⟩
theorem nth_rep {g : Part} {ads : List Addr} {vs : List Value} {ds : List PV} {i : Int} {K : PV -> Prop} (r : Reps g ads vs ds) (e : nth ds i K) : ∃ v, vs[i.toNat]? = some v /\ Rep g ads v (ds.getD i.toNat .none) /\ K (ds.getD i.toNat .none) := by
 obtain ⟨h0, _, h1, h2⟩ := e
 have : ds[i.toNat]? = some (ds.getD i.toNat .none) := by rw [List.getD_eq_getElem?_getD, List.getElem?_eq_getElem h1]; rfl
 obtain ⟨v, hv, rv⟩ := r.get this
 exact ⟨v, hv, rv, h2⟩
theorem sub_sound {w : World} {A : Around} {M ads : List Addr} {s : Shared} {K : PV -> Prop} {ve ie : Expr} {v₁ v₂ : Value} {a b : PV} (r₁ : RepV s.heap M ads v₁ a) (r₂ : Rep (vis s.heap M) ads v₂ b) (hn : notSlice ie = true) (e : SUB a b K) : Go w A M ads (subscriptTail ve ie v₁ v₂) s K := by
 cases a with
 | list a =>
  obtain ⟨b, rfl, e⟩ := mI e
  obtain ⟨l, vs, rfl, hl, rl⟩ := r₁
  obtain ⟨t, rfl⟩ := r₂.intI
  obtain ⟨v, h1, h2, h3⟩ := nth_rep rl e
  exact .val h3 h2 fun Q E q => tail_any hl.typeIs slot_list_getitem.lookup (wpAny_getItem_list hl e.1 (lt63 e.2.1) (Array.getElem?_toList ▸ h1) q) (notSlice_eq hn _ _)
 | tup a =>
  obtain ⟨b, rfl, e⟩ := mI e
  obtain ⟨l, vs, rfl, hl, rl⟩ := r₁.tup
  obtain ⟨t, rfl⟩ := r₂.intI
  obtain ⟨v, h1, h2, h3⟩ := nth_rep rl e
  exact .val h3 h2 fun Q E q => tail_any (tupTypeIs hl) PyProof.Rows.slot_tuple_getitem.lookup (PyProof.Rows.getItem_tuple (j := b.toNat) hl (ge63 e.1) (lt63 e.2.1) (seqIdx e.1 (Nat.lt_of_lt_of_eq e.2.2.1 rl.length.symm)) (Array.getElem?_toList ▸ h1) q) (notSlice_eq hn _ _)
 | str l =>
  obtain ⟨i, rfl, e⟩ := mI e
  obtain ⟨t, rfl⟩ := r₁.str
  obtain ⟨u, rfl⟩ := r₂.intI
  obtain ⟨h0, h62, h1, h2⟩ := e
  refine .str rfl h2 fun Q E q => tail_any (typeIs_str _ _ _) PyProof.Rows.slot_str_getitem.lookup (PyProof.Rows.getItem_str (c := l.getD i.toNat 0) ?_ ?_ (q _ _)) (notSlice_eq hn _ _)
  ·rw [decide_eq_false (Int.not_lt.mpr (ge63 h0)), decide_eq_false (Int.not_le.mpr (lt63 h62))]; rfl
  ·rw [seqIdx (n := (strOf l).length) h0 h1]
   show l.toArray[i.toNat]? = _
   rw [List.getElem?_toArray, List.getD_eq_getElem?_getD, List.getElem?_eq_getElem h1]; rfl
 | _ => exact False.elim e
end
section
variable {T : Tabs} {C : CT} {k : Nat} {f : Fx}
theorem se_sub {v i : Expr} {pos : Pos} {a b : ME} (hv : SE T C k f v a) (hi : SE T C k f i b) (hn : notSlice i = true) : SE T C k f (.Subscript v i pos) (.sub a b) := fun M ads ρ μ s K st ok e Q E q => by
 refine Subscript_ (hv M ads ρ μ s _ st ok e _ _ fun v1 a1 h1 tk1 e1 k1 r1 => ?_)
 refine hi M ads ρ μ { s with heap := h1, toks := tk1 } _ (st.keep k1) ok e1 _ _ fun v2 a2 h2 tk2 e2 k2 r2 => ?_
 have st2 := (st.keep k1).keep k2
 exact sub_sound (s := { s with heap := h2, toks := tk2 }) ((r1.keep (vis_keepK k2)).view st2.mu) r2 hn e2 _ _ fun v d h3 tk3 e3 k3 r3 => q v d h3 tk3 e3 ((k1.trans k2).trans k3) r3
theorem Reps.last {g : Part} {ads : List Addr} {vs : List Value} {ds : List PV} (r : Reps g ads vs ds) (h : ds ≠ []) : ∃ v, vs[vs.length - 1]? = some v /\ Rep g ads v (ds.getLastD .none) := by
 have : ds[ds.length - 1]? = some (ds.getLastD .none) := by
  rw [List.getLastD_eq_getLast?, List.getLast?_eq_getElem?, List.getElem?_eq_getElem (Nat.sub_lt (List.length_pos_iff.mpr h) Nat.one_pos)]; rfl
 rw [r.length]
 exact r.get this
theorem neg1 {n : Nat} : ((-1 : Int) + n).toNat = n - 1 := by
 cases n with
 | zero => rfl
 | succ n => rw [Int.natCast_succ, Int.add_comm, Int.add_neg_cancel_right]; rfl
theorem se_last {v : Expr} {p1 p2 pos : Pos} {n : Nat} {a : ME} (hv : SE T C k f v a) : SE T C k f (.Subscript v (.UnaryOp .USub (.Constant (.int 1) n p1) p2) pos) (.last a) := fun M ads ρ μ s K st ok e Q E q => by
 refine Subscript_ (hv M ads ρ μ s _ st ok e _ _ fun v1 a1 h1 tk1 e1 k1 r1 => ?_)
 refine wpAny_UnaryOp (wpAny_Constant_int (PyProof.Rows.neg_int ?_))
 have r2 := r1.view (st.keep k1).mu
 obtain ⟨l, hl', e1⟩ := mL e1
 rw [hl'] at r2
 obtain ⟨l', vs, rfl, hl, rl⟩ := r2
 obtain ⟨v, h2, h3⟩ := rl.last e1.1
 have h0 : 0 < vs.size := Nat.lt_of_lt_of_eq (List.length_pos_iff.mpr e1.1) rl.length.symm
 refine tail_any hl.typeIs slot_list_getitem.lookup (wpAny_getItem_list_neg (x := v) hl (by decide) (Int.neg_le_neg (Int.ofNat_le.mpr h0)) (by decide) ?_ (q v _ h1 _ e1.2 k1 h3)) (notSlice_eq rfl _ _)
 rw [neg1]
 exact Array.getElem?_toList ▸ h2
noncomputable def SO (T : Tabs) (C : CT) (k : Nat) (f : Fx) (o : Option Expr) (m : ME) : Prop := match o with
 | none => m = .lit .none
 | some e => SE T C k f e m
theorem so_go {o : Option Expr} {m : ME} (h : SO T C k f o m) {M ads : List Addr} {ρ : Env'} {μ : List MV} {s : Shared} {K : PV -> Prop} (st : St f M ads ρ μ s.heap) (ok : AOk k f.A) (e : EV T C ρ μ m K) : Go f.w f.A M ads (evalPart o f.env) s K := by
 cases o with
 | none => obtain rfl := h; exact .val e .none fun Q E q => wpAny_evalPart_none q
 | some x => exact fun Q E q => wpAny_evalPart_some (h M ads ρ μ s K st ok e Q E q)
theorem natOr_part {M ads : List Addr} {s : Shared} {v : Value} {d : PV} {dflt : Nat} {K : Nat -> Prop} (r : Rep (vis s.heap M) ads v d) (e : natOr d dflt K) :
  ∃ (a : Nat) (p : Option (Int × Tok)), K a /\ v = partValue p /\ IsPart v (p.map (·.1)) /\ At (p.map (·.1)) dflt a := by
 cases d with
 | none => obtain rfl := r.inv; exact ⟨dflt, none, e, rfl, .none, .inl ⟨rfl, rfl⟩⟩
 | int i =>
  obtain ⟨t, rfl⟩ := r.intI
  exact ⟨_, some (i, t), e.2, rfl, .int _ _, .inr (congrArg some (Int.toNat_of_nonneg e.1).symm)⟩
 | _ => exact False.elim e
theorem keptKeep (h : Heap) : KeptH (Keep h) := fun h' ob k => k.trans keep_push
theorem str_item {w : World} {A : Around} {E : Value -> Shared -> Prop} {s : Shared} {x : Str} {t : Tok} {Q : Value -> Shared -> Prop} {p p2 : Option (Int × Tok)}
  (h : ∀ h' t' k, Keep s.heap h' -> Q (.str (Txt.slice x (p.map (·.1)) (p2.map (·.1))) t') { s with heap := h', toks := k }) (hsz : x.length <= sizeLine) :
  ItemOn (model pw w) A E (.str x t) (.ref s.heap.objs.size) Q { s with heap := s.heap.push { cls := .type "slice", data := .fields #[partValue p, partValue p2, .none] } } := by
 cases p with
 | none => cases p2 with
  | none => exact SBH.sliceItem_nn (keptKeep s.heap) (fun _ _ e => e) h hsz
  | some q => exact SBH.sliceItem_ns (keptKeep s.heap) (fun _ _ e => e) h hsz
 | some q => cases p2 with
  | none => exact SBH.sliceItem_sn (keptKeep s.heap) (fun _ _ e => e) h hsz
  | some q => exact SBH.sliceItem_ss (keptKeep s.heap) (fun _ _ e => e) h hsz
theorem se_slice {v : Expr} {lo hi : Option Expr} {p pos : Pos} {a b c : ME} (hv : SE T C k f v a) (hlo : SO T C k f lo b) (hhi : SO T C k f hi c) (ht : ∀ o r, letTemporaryGo v o r = pure ()) :
  SE T C k f (.Subscript v (.Slice lo hi none p) pos) (.slice a b c) := fun M ads ρ μ s K st ok e Q E q => by
 refine Subscript_ (hv M ads ρ μ s _ st ok e _ _ fun v1 a1 h1 tk1 e1 k1 r1 => ?_)
 refine wpAny_Slice ?_
 refine so_go hlo (s := { s with heap := h1, toks := tk1 }) (st.keep k1) ok e1 _ _ fun v2 a2 h2 tk2 e2 k2 r2 => ?_
 refine so_go hhi (s := { s with heap := h2, toks := tk2 }) ((st.keep k1).keep k2) ok e2 _ _ fun v3 a3 h3 tk3 e3 k3 r3 => ?_
 refine wpAny_evalPart_none ?_
 have st3 := ((st.keep k1).keep k2).keep k3
 have rv := (r1.keep (vis_keepK (k2.trans k3))).view st3.mu
 generalize view μ a1 = w at e3 rv
 cases w with
 | list l =>
  obtain ⟨a', vs, rfl, hl, rl⟩ := rv
  obtain ⟨x, p, e4, _, hp2, hp3⟩ := natOr_part (s := { s with heap := h2, toks := tk2 }) r2 e3.2
  obtain ⟨y, p', e5, _, hq2, hq3⟩ := natOr_part (s := { s with heap := h3, toks := tk3 }) r3 e4
  have hl2 := Heap.IsList.at hl (h' := h3.push { cls := .type "slice", data := .fields #[v2, v3, .none] }) fun o e => Heap.get?_push_of_some _ e
  refine tail_any hl2.typeIs slot_list_getitem.lookup (wpAny_getItem_list_slice hl2 (Heap.IsSliceOf.new ..) hp2 hq2 .none (fun h => nomatch h) ?_ (Nat.le_trans (Nat.le_of_eq rl.length) e3.1)) rfl
  rw [listSlice_plain vs _ _ x y hp3 (rl.length ▸ hq3)]
  have st4 := st3.keep (keep_push (o := { cls := .type "slice", data := .fields #[v2, v3, .none] }))
  exact q _ _ _ _ e5 (((k1.trans k2).trans k3).trans (keep_push.trans keep_push)) (.list _ _ _ (SeqIn.new st4.mu) (((rl.drop x).take (y - x)).keep (vis_keepK (keep_push.trans keep_push))))
 | str l =>
  obtain ⟨t, rfl⟩ := rv.str
  obtain ⟨x, p, e4, rfl, hp2, hp3⟩ := natOr_part (s := { s with heap := h2, toks := tk2 }) r2 e3.2
  obtain ⟨y, p', e5, rfl, hq2, hq3⟩ := natOr_part (s := { s with heap := h3, toks := tk3 }) r3 e4
  refine tail_of_ItemOn (str_item (s := { s with heap := h3, toks := tk3 }) (fun h' t' k kk => ?_) e3.1) rfl (ht _)
  refine q _ _ h' k e5 (((k1.trans k2).trans k3).trans kk) ?_
  have := strSlice_plain (strOf l) (p.map (·.1)) (p'.map (·.1)) x y hp3 hq3
  rw [<- this]; exact .str _ _
 | _ => exact False.elim e3
theorem Reps.pick {g : Part} {ads : List Addr} {vs : List Value} {ds : List PV} (r : Reps g ads vs ds) : ∀ ix : List Nat, Reps g ads (ix.filterMap (vs[·]?)) (ix.filterMap (ds[·]?))
 | [] => .nil
 | i :: ix => by
  have ih := r.pick ix
  cases h : ds[i]? with
  | none =>
   have h2 : vs[i]? = none := by
    rw [List.getElem?_eq_none_iff] at h ⊢; rw [r.length]; exact h
   rw [List.filterMap_cons_none h2, List.filterMap_cons_none h]; exact ih
  | some d =>
   obtain ⟨v, hv, rv⟩ := r.get h
   rw [List.filterMap_cons_some hv, List.filterMap_cons_some h]; exact .cons _ _ _ _ rv ih
theorem se_slice3 {v lo hi sx : Expr} {p pos : Pos} {a b c d : ME} (hv : SE T C k f v a) (hlo : SE T C k f lo b) (hhi : SE T C k f hi c) (hst : SE T C k f sx d) :
  SE T C k f (.Subscript v (.Slice (some lo) (some hi) (some sx) p) pos) (.slice3 a b c d) := fun M ads ρ μ s K st ok e Q E q => by
 refine Subscript_ (hv M ads ρ μ s _ st ok e _ _ fun v1 a1 h1 tk1 e1 k1 r1 => ?_)
 refine wpAny_Slice (wpAny_evalPart_some ?_)
 refine hlo M ads ρ μ { s with heap := h1, toks := tk1 } _ (st.keep k1) ok e1 _ _ fun v2 a2 h2 tk2 e2 k2 r2 => wpAny_evalPart_some ?_
 refine hhi M ads ρ μ { s with heap := h2, toks := tk2 } _ ((st.keep k1).keep k2) ok e2 _ _ fun v3 a3 h3 tk3 e3 k3 r3 => wpAny_evalPart_some ?_
 refine hst M ads ρ μ { s with heap := h3, toks := tk3 } _ (((st.keep k1).keep k2).keep k3) ok e3 _ _ fun v4 a4 h4 tk4 e4 k4 r4 => ?_
 have st4 := (((st.keep k1).keep k2).keep k3).keep k4
 cases a1 with
 | list l =>
  obtain ⟨b, rfl, e4⟩ := mI e4
  obtain ⟨c, rfl, e4⟩ := mI e4
  obtain ⟨d, rfl, e4⟩ := mI e4
  obtain ⟨a', vs, rfl, hl, rl⟩ := (r1.keep (vis_keepK ((k2.trans k3).trans k4))).view st4.mu
  obtain ⟨t2, rfl⟩ := r2.intI
  obtain ⟨t3, rfl⟩ := r3.intI
  obtain ⟨t4, rfl⟩ := r4.intI
  have hl2 := Heap.IsList.at hl (h' := h4.push { cls := .type "slice", data := .fields #[.int b t2, .int c t3, .int d t4] }) fun o e => Heap.get?_push_of_some _ e
  refine tail_any hl2.typeIs slot_list_getitem.lookup (wpAny_getItem_list_slice hl2 (Heap.IsSliceOf.new ..) (.int _ _) (.int _ _) (.int _ _) (fun h => Int.ne_of_gt e4.1.2.2.1 (Option.some.inj h)) ?_ (Nat.le_trans (Nat.le_of_eq rl.length) e4.1.2.2.2)) rfl
  have st5 := st4.keep (keep_push (o := { cls := .type "slice", data := .fields #[.int b t2, .int c t3, .int d t4] }))
  refine q _ _ _ _ (e4.2 _ ?_) ((((k1.trans k2).trans k3).trans k4).trans (keep_push.trans keep_push)) (.list _ _ ((sliceRange (sliceBounds (some b) (some c) (some d) vs.size).1 (sliceBounds (some b) (some c) (some d) vs.size).2.1 (sliceBounds (some b) (some c) (some d) vs.size).2.2).filterMap (l[·]?)) (SeqIn.new st5.mu) ?_)
  ·intro x hx
   obtain ⟨i, _, hi⟩ := List.mem_filterMap.mp hx
   exact List.mem_of_getElem? hi
  ·have := rl.pick (sliceRange (sliceBounds (some b) (some c) (some d) vs.size).1 (sliceBounds (some b) (some c) (some d) vs.size).2.1 (sliceBounds (some b) (some c) (some d) vs.size).2.2)
   rw [show (fun x => vs.toList[x]?) = (fun x : Nat => vs[x]?) from funext fun x => Array.getElem?_toList] at this
   exact this.keep (vis_keepK (keep_push.trans keep_push))
 | _ => exact False.elim e4
end
structure TabsOk (w : World) (hO : Heap) (mg mb : Str -> Option Value) (T : Tabs) : Prop where
 tok : ∃ a F, glv mg mb "EXACT_TOKEN_TYPES" (.ref a) /\ (a == sysModules) = false /\ hO.MapOf (strKind pw w) a F /\ ∀ x : Str, (T.tok x.cps.toList = none /\ F x = none) ∨ ∃ i t, T.tok x.cps.toList = some i /\ F x = some (.int i t)
 flag : ∃ a F, glv mg mb "COMPILER_FLAG_NAMES" (.ref a) /\ (a == sysModules) = false /\ hO.MapOf (intKind pw w) a F /\ ∀ i : Int, (T.flag i = none /\ F i = none) ∨ ∃ x t, T.flag i = some x.cps.toList /\ F i = some (.str x t)
 b3 : ∃ a F, glv mg mb "b3_exceptions" (.ref a) /\ (a == sysModules) = false /\ hO.MapOf (intKind pw w) a F /\ ∀ i : Int, (T.b3 i = none /\ F i = none) ∨ ∃ x t, T.b3 i = some x.cps.toList /\ F i = some (.str x t)
 b1 : ∃ a, glv mg mb "b1_set" (.ref a) /\ ∀ (A : Around) (s : Shared) (i : Int) (t : Tok) (Q : Value -> Shared -> Prop) (E : Value -> Shared -> Prop), Keep hO s.heap ->
  (∀ h' tk, Keep s.heap h' -> Q (.bool (T.b1 i)) { s with heap := h', toks := tk }) -> wpAny (model pw w) A (compareOp .In (.int i t) (.ref a)) Q E s
theorem MapOf.keep {K : Type} [DecidableEq K] {w : World} {knd : KeyKind pw w K} {h h' : Heap} {a : Addr} {F : K -> Option Value} (m : h.MapOf knd a F) (k : Keep h h') : h'.MapOf knd a F := let ⟨o, es, ep, e, r⟩ := m; ⟨o, es, ep, k _ _ e, r⟩
section
variable {T : Tabs} {C : CT} {k : Nat} {f : Fx} {mg mb : Str -> Option Value}
theorem getMethod_dict {K : Type} [DecidableEq K] {w : World} {knd : KeyKind pw w K} {M : Model} {A : Around} {E : Value -> Shared -> Prop} {s : Shared} {a : Addr} {F : K -> Option Value} (m : s.heap.MapOf knd a F) {pl : Sem Bool} {Q : Value × List Value -> Shared -> Prop}
  (h : Q (.builtin "dict.get", [.ref a]) s) : wpAny M A (getMethod (.ref a) "get" pl) Q E s :=
 getMethod_builtin m.typeIs PySem.F.plainAttrs_dict PySem.F.slot_dict_get PySem.F.type_dict_get m.noDict h
theorem trees2 {e1 e2 : Expr} (hp : noStar [e1, e2] = true) (env : Env) (pos : Pos) : backTo pos (starEach [e1, e2] env) = [(false, eval e1 env), (false, eval e2 env)] := by rw [noStar_eq hp]; rfl
theorem trees1 {e1 : Expr} (hp : noStar [e1] = true) (env : Env) (pos : Pos) : backTo pos (starEach [e1] env) = [(false, eval e1 env)] := by rw [noStar_eq hp]; rfl
theorem se_getTok (G : Glob f.hO mg mb) (X : TabsOk f.w f.hO mg mb T) {p apos pos : Pos} {e1 e2 : Expr} {m1 m2 : ME} (hk : f.env.kindOf "EXACT_TOKEN_TYPES" = some .globalImplicit) (h1 : SE T C k f e1 m1) (h2 : SE T C k f e2 m2) (hp : noStar [e1, e2] = true)
  (hline : (apos.endLine == pos.line) = true) : SE T C k f (.Call (.Attribute (.Name "EXACT_TOKEN_TYPES" p) "get" apos) [e1, e2] [] pos) (.gop .getTok [m1, m2]) := fun M ads ρ μ s K st ok e Q E q => by
 obtain ⟨a, F, hg, hn, hm, hT⟩ := X.tok
 refine meth_call (fun _ => rfl) hp (by simp) hline (ld_glob G hg hk (by decide) st ⟨"dict.get", [.ref a], fun pl P hP => getMethod_dict (MapOf.keep hm st.mu.base) hP, ?_⟩)
 rw [trees2 hp]
 refine wpAny_dict_get2 (knd := strKind pw f.w) hn (h1 M ads ρ μ s _ st ok e _ _ fun v1 a1 h1' tk1 ev1 k1 r1 => ?_)
 refine h2 M ads ρ μ { s with heap := h1', toks := tk1 } _ (st.keep k1) ok ev1 _ _ fun v2 a2 h2' tk2 ev2 k2 r2 => ?_
 cases a1 <;> try (exact (show False from ev2).elim)
 rename_i x
 change K (((T.tok x).map .int).getD a2) at ev2
 obtain ⟨t, rfl⟩ := r1.strI
 refine ⟨strOf x, F, by simp [PySem.strKind, Value.isStrOf], MapOf.keep hm ((st.keep k1).keep k2).mu.base, ?_⟩
 have hx := hT (strOf x)
 rcases hx with ⟨hx, hf⟩ | ⟨i, t', hx, hf⟩
 ·rw [hx] at ev2; rw [hf]; exact q _ a2 h2' _ ev2 (k1.trans k2) r2
 ·rw [hx] at ev2; rw [hf]; exact q _ (.int i) h2' _ ev2 (k1.trans k2) (.int i t')
theorem se_getFlag (G : Glob f.hO mg mb) (X : TabsOk f.w f.hO mg mb T) {p apos pos : Pos} {e1 e2 : Expr} {m1 m2 : ME} (hk : f.env.kindOf "COMPILER_FLAG_NAMES" = some .globalImplicit) (h1 : SE T C k f e1 m1) (h2 : SE T C k f e2 m2) (hp : noStar [e1, e2] = true)
  (hline : (apos.endLine == pos.line) = true) : SE T C k f (.Call (.Attribute (.Name "COMPILER_FLAG_NAMES" p) "get" apos) [e1, e2] [] pos) (.gop .getFlag [m1, m2]) := fun M ads ρ μ s K st ok e Q E q => by
 obtain ⟨a, F, hg, hn, hm, hT⟩ := X.flag
 refine meth_call (fun _ => rfl) hp (by simp) hline (ld_glob G hg hk (by decide) st ⟨"dict.get", [.ref a], fun pl P hP => getMethod_dict (MapOf.keep hm st.mu.base) hP, ?_⟩)
 rw [trees2 hp]
 refine wpAny_dict_get2 (knd := intKind pw f.w) hn (h1 M ads ρ μ s _ st ok e _ _ fun v1 a1 h1' tk1 ev1 k1 r1 => ?_)
 refine h2 M ads ρ μ { s with heap := h1', toks := tk1 } _ (st.keep k1) ok ev1 _ _ fun v2 a2 h2' tk2 ev2 k2 r2 => ?_
 cases a1 <;> try (exact (show False from ev2).elim)
 rename_i x
 change K (((T.flag x).map .str).getD a2) at ev2
 obtain ⟨t, rfl⟩ := r1.intI
 refine ⟨x, F, intKind_is .., MapOf.keep hm ((st.keep k1).keep k2).mu.base, ?_⟩
 rcases hT x with ⟨hx, hf⟩ | ⟨i, t', hx, hf⟩
 ·rw [hx] at ev2; rw [hf]; exact q _ a2 h2' _ ev2 (k1.trans k2) r2
 ·rw [hx] at ev2; rw [hf]; exact q _ (.str i.cps.toList) h2' _ ev2 (k1.trans k2) (.str i t')
theorem se_getB3 (G : Glob f.hO mg mb) (X : TabsOk f.w f.hO mg mb T) {p apos pos : Pos} {e1 : Expr} {m1 : ME} (hk : f.env.kindOf "b3_exceptions" = some .globalImplicit) (h1 : SE T C k f e1 m1) (hp : noStar [e1] = true)
  (hline : (apos.endLine == pos.line) = true) : SE T C k f (.Call (.Attribute (.Name "b3_exceptions" p) "get" apos) [e1] [] pos) (.gop .getB3 [m1]) := fun M ads ρ μ s K st ok e Q E q => by
 obtain ⟨a, F, hg, hn, hm, hT⟩ := X.b3
 refine meth_call (fun _ => rfl) hp (by simp) hline (ld_glob G hg hk (by decide) st ⟨"dict.get", [.ref a], fun pl P hP => getMethod_dict (MapOf.keep hm st.mu.base) hP, ?_⟩)
 rw [trees1 hp]
 refine wpAny_dict_get1 (knd := intKind pw f.w) hn (h1 M ads ρ μ s _ st ok e _ _ fun v1 a1 h1' tk1 ev1 k1 r1 => ?_)
 cases a1 <;> try (exact (show False from ev1).elim)
 rename_i x
 change K (((T.b3 x).map .str).getD .none) at ev1
 obtain ⟨t, rfl⟩ := r1.intI
 refine ⟨x, F, intKind_is .., MapOf.keep hm (st.keep k1).mu.base, ?_⟩
 rcases hT x with ⟨hx, hf⟩ | ⟨i, t', hx, hf⟩
 ·rw [hx] at ev1; rw [hf]; exact q _ .none h1' _ ev1 k1 .none
 ·rw [hx] at ev1; rw [hf]; exact q _ (.str i.cps.toList) h1' _ ev1 k1 (.str i t')
theorem se_inB1 (G : Glob f.hO mg mb) (X : TabsOk f.w f.hO mg mb T) {p pos : Pos} {e1 : Expr} {m1 : ME} (hk : f.env.kindOf "b1_set" = some .globalImplicit) (h1 : SE T C k f e1 m1) :
  SE T C k f (.Compare e1 [.In] [.Name "b1_set" p] pos) (.gop .inB1 [m1]) := fun M ads ρ μ s K st ok e Q E q => by
 obtain ⟨a, hg, hT⟩ := X.b1
 refine wpAny_Compare1 (h1 M ads ρ μ s _ st ok e _ _ fun v1 a1 h1' tk1 ev1 k1 r1 => ?_) rfl
 refine ld_glob (s := { s with heap := h1', toks := tk1 }) G hg hk (by decide) (st.keep k1) ?_
 cases a1 <;> try (exact (show False from ev1).elim)
 rename_i x
 obtain ⟨t, rfl⟩ := r1.intI
 exact hT f.A { s with heap := h1', toks := tk1 } x t Q E (st.keep k1).mu.base fun h' tk kk => q _ (.bool (T.b1 x)) h' tk ev1 (k1.trans kk) (.bool _)
theorem sb_notInTok (G : Glob f.hO mg mb) (X : TabsOk f.w f.hO mg mb T) {p pos : Pos} {e1 : Expr} {m1 : ME} (hk : f.env.kindOf "EXACT_TOKEN_TYPES" = some .globalImplicit) (h1 : SE T C k f e1 m1) :
  SB T C k f (.Compare e1 [.NotIn] [.Name "EXACT_TOKEN_TYPES" p] pos) (.gop .notInTok [m1]) := fun M ads ρ μ s K st ok e Q E q => by
 obtain ⟨a, F, hg, hn, hm, hT⟩ := X.tok
 refine wpAny_isTrue_Compare1 (h1 M ads ρ μ s _ st ok e _ _ fun v1 a1 h1' tk1 ev1 k1 r1 => ?_) rfl
 refine ld_glob (s := { s with heap := h1', toks := tk1 }) G hg hk (by decide) (st.keep k1) ?_
 cases a1 <;> try (exact (show False from ev1).elim)
 rename_i x
 change K (!(T.tok x).isSome) at ev1
 obtain ⟨t, rfl⟩ := r1.strI
 refine wpAny_notIn_of (knd := PySem.strKind pw f.w) (k := strOf x) (by simp [PySem.strKind, Value.isStrOf]) hn (MapOf.keep hm (st.keep k1).mu.base) (wpAny_truthy_bool ?_)
 have hx := hT (strOf x)
 rcases hx with ⟨hx, hf⟩ | ⟨i, t', hx, hf⟩
 ·rw [hx] at ev1; rw [hf]; exact q _ h1' _ ev1 k1
 ·rw [hx] at ev1; rw [hf]; exact q _ h1' _ ev1 k1
theorem range_small {a b : Int} (h : 0 <= a /\ a <= b /\ b < 2 ^ 24) : Builtin.Range.small a b 1 = true /\ Builtin.Range.rangeSize a b 1 = ((b - a).toNat : Nat) := by
 have h2 : Builtin.Range.rangeSize a b 1 = ((b - a).toNat : Nat) := by
  unfold Builtin.Range.rangeSize
  simp only [show (1 : Int) > 0 by decide, if_true, Int.ediv_one]
  rw [Int.toNat_of_nonneg (Int.sub_nonneg_of_le h.2.1)]
  split
  ·lia
  ·lia
 refine ⟨?_, h2⟩
 unfold Builtin.Range.small
 rw [h2]
 simp [Builtin.Range.rangeFitsLong]
 omega
end
section
variable {T : Tabs} {C : CT} {k : Nat} {f : Fx} {mg mb : Str -> Option Value}
theorem view_int {μ : List MV} {x : PV} {i : Int} (h : view μ x = .int i) : x = .int i := by
 cases x with
 | ptr k =>
  revert h
  show (match μ[k]? with | some (.list l) => PV.list l | _ => .ptr k) = _ -> _
  cases μ[k]? with
  | none => exact fun h => nomatch h
  | some m => cases m; exact fun h => nomatch h
 | _ => exact h
theorem range2_go (G : Glob f.hO mg mb) (hg : glv mg mb "range" (.type "range")) {p pos : Pos} {e1 e2 : Expr} {m1 m2 : ME} (hk : f.env.kindOf "range" = some .globalImplicit) (h1 : SE T C k f e1 m1) (h2 : SE T C k f e2 m2) (hp : noStar [e1, e2] = true)
  {M ads : List Addr} {ρ : Env'} {μ : List MV} {s : Shared} {P : Int -> Int -> Prop} {R : PV -> PV -> Prop} (st : St f M ads ρ μ s.heap) (ok : AOk k f.A) (e : EV T C ρ μ m1 fun x => EV T C ρ μ m2 (R x)) (hR : ∀ x y, R x y -> ∃ i j, x = .int i /\ y = .int j /\ P i j)
  {Q : Value -> Shared -> Prop} {E : Value -> Shared -> Prop} (q : ∀ r x y h' tk t u v, P x y -> Keep s.heap h' -> IsRange h' r x y 1 t u v -> Q (.ref r) { s with heap := h', toks := tk }) :
  wpAny (model pw f.w) f.A (eval (.Call (.Name "range" p) [e1, e2] [] pos) f.env) Q E s :=
 call_name (ld_glob G hg hk (by decide) st (callWith_bt (.inr ⟨_, rfl⟩) hp (args2_go h1 h2 hp st ok e fun v u d d' h' tk kd kk ra rb => by
  obtain ⟨i, j, rfl, rfl, kd2⟩ := hR _ _ kd
  obtain ⟨t1, rfl⟩ := ra.intI
  obtain ⟨t2, rfl⟩ := rb.intI
  exact PySem.call_range_2 (q _ _ _ _ _ _ _ _ kd2 (kk.trans keep_push) (IsRange.new ..)))))
theorem range1_go (G : Glob f.hO mg mb) (hg : glv mg mb "range" (.type "range")) {p pos : Pos} {e1 : Expr} {m1 : ME} (hk : f.env.kindOf "range" = some .globalImplicit) (h1 : SE T C k f e1 m1) (hp : noStar [e1] = true)
  {M ads : List Addr} {ρ : Env'} {μ : List MV} {s : Shared} {P : Int -> Prop} (st : St f M ads ρ μ s.heap) (ok : AOk k f.A) (e : EV T C ρ μ m1 fun y => match y with | .int y => P y | _ => False)
  {Q : Value -> Shared -> Prop} {E : Value -> Shared -> Prop} (q : ∀ r y h' tk t u v, P y -> Keep s.heap h' -> IsRange h' r 0 y 1 t u v -> Q (.ref r) { s with heap := h', toks := tk }) :
  wpAny (model pw f.w) f.A (eval (.Call (.Name "range" p) [e1] [] pos) f.env) Q E s :=
 call_name (ld_glob G hg hk (by decide) st (callWith_bt (.inr ⟨_, rfl⟩) hp (args1_go h1 hp st ok e fun v d h' tk kd kk ra => by
  obtain ⟨i, rfl, kd⟩ := mI kd
  obtain ⟨t1, rfl⟩ := ra.intI
  exact PySem.call_range_1 (q _ _ _ _ _ _ _ kd (kk.trans keep_push) (IsRange.new ..)))))
theorem reps_ints {g : Part} {ads : List Addr} {F : Nat -> Int} : ∀ (vs : List Value) (o : Nat), (∀ (j : Nat) v, vs[j]? = some v -> ∃ t, v = .int (F (o + j)) t) -> Reps g ads vs ((List.range' o vs.length).map fun i => .int (F i))
 | [], _, _ => .nil
 | v :: vs, o, h => by
  obtain ⟨t, ht⟩ := h 0 v rfl
  refine .cons _ _ _ _ (by rw [ht]; exact .int _ t) (reps_ints vs (o + 1) fun j w hj => ?_)
  obtain ⟨t, ht⟩ := h (j + 1) w (by simpa using hj)
  exact ⟨t, by congr 2; lia⟩
noncomputable def rangeL (x y : Int) : List PV := (List.range (y - x).toNat).map fun (i : Nat) => .int (x + (i : Int))
theorem se_lrange (G : Glob f.hO mg mb) (hg : glv mg mb "range" (.type "range")) (hg' : glv mg mb "list" (.type "list")) {p p' pos pos' : Pos} {e1 e2 : Expr} {m1 m2 : ME} (hk : f.env.kindOf "range" = some .globalImplicit) (hk' : f.env.kindOf "list" = some .globalImplicit)
  (h1 : SE T C k f e1 m1) (h2 : SE T C k f e2 m2) (hp : noStar [e1, e2] = true) : SE T C k f (.Call (.Name "list" p) [.Call (.Name "range" p') [e1, e2] [] pos'] [] pos) (.bi .lrange [m1, m2]) := fun M ads ρ μ s K st ok e Q E q => by
 refine call_name (ld_glob G hg' hk' (by decide) st (callWith_bt (.inr ⟨_, rfl⟩) rfl ?_))
 have key : wpAny (model pw f.w) f.A (spliced (backTo pos (starEach [.Call (.Name "range" p') [e1, e2] [] pos'] f.env))) (fun vs s' => wpAny (model pw f.w) f.A (call (.type "list") vs) Q E s') E s := by
  refine wpAny_items_cons (range2_go G hg hk h1 h2 hp st ok (P := fun x y => (0 <= x /\ x <= y /\ y < 2 ^ 24) /\ K (.list (rangeL x y))) e (fun x y e => by obtain ⟨i, h, e⟩ := mI e; obtain ⟨j, h', e⟩ := mI e; exact ⟨i, j, view_int h, view_int h', e⟩) fun r x y h' tk t u v hP kk hr => wpAny_items_nil ?_)
  obtain ⟨hs1, hs2⟩ := range_small hP.1
  refine call_list_range (s := { s with heap := h', toks := tk }) ok.handled hr hs1 hs2 (by lia) fun h2 tk2 acc c' kk2 hl hit => ?_
  have st2 := st.keep kk
  refine q _ _ h2 tk2 hP.2 (kk.trans kk2) (.list _ acc _ ⟨_, vis_of hl ?_, rfl, _, rfl⟩ ?_)
  ·intro hm
   obtain ⟨o, ho⟩ := st2.mu.live _ hm
   exact absurd (Heap.lt_size ho) (Nat.lt_irrefl _)
  ·obtain ⟨hz, hi⟩ := hit
   have := reps_ints (g := vis h2 M) (ads := ads) (F := fun i => x + (i : Int)) acc.toList 0 fun j v hj => by
    obtain ⟨t, ht⟩ := hi j v (by simpa using hj)
    exact ⟨t, by rw [ht]; simp⟩
   rw [<- List.range_eq_range', Array.length_toList, hz] at this
   exact this
 exact evalArgs_plain key
end
noncomputable abbrev KeepBut (Z : List Addr) (h h' : Heap) : Prop := ∀ b o, b ∉ Z -> h.get? b = some o -> h'.get? b = some o
theorem KeepBut.of {Z : List Addr} {h h' : Heap} (k : Keep h h') : KeepBut Z h h' := fun b o _ e => k b o e
theorem KeepBut.trans {Z : List Addr} {h h' h'' : Heap} (a : KeepBut Z h h') (b : KeepBut Z h' h'') : KeepBut Z h h'' := fun x o n e => b x o n (a x o n e)
theorem KeepBut.mono {Z Z' : List Addr} {h h' : Heap} (k : KeepBut Z h h') (hz : ∀ a ∈ Z, a ∈ Z') : KeepBut Z' h h' := fun x o n e => k x o (fun m => n (hz x m)) e
noncomputable def VarOK (f : Fx) (Z : List Addr) (x : Str) (i : Nat) : Prop := f.cx.lookup x = some i /\
 ((f.env.kindOf x = some .local /\ f.env.locals ∈ Z) ∨ (f.env.kindOf x = some .cell /\ ∃ c, f.env.cells.lookup x = some c /\ c ∈ Z))
theorem sameBut_keep {Z : List Addr} {a : Addr} {h h' : Heap} (hs : Heap.SameBut a h h') (ha : a ∈ Z) : KeepBut Z h h' := fun b o n e => (hs.2 b fun hb => n (hb ▸ ha)).trans e
theorem sameBut_at {a b : Addr} {h h' : Heap} (hs : Heap.SameBut a h h') (hb : b ≠ a) : ∀ o, h.get? b = some o -> h'.get? b = some o := fun o e => (hs.2 b hb).trans e
section
variable {f : Fx}
theorem St.store_local {M ads : List Addr} {ρ : Env'} {μ : List MV} {h h' : Heap} (st : St f M ads ρ μ h) {x : Str} {i : Nat} {v : Value} {d : PV} (hx : f.cx.lookup x = some i) (hk : f.env.kindOf x = some .local) (r : Rep (vis h M) ads v d)
  {m : Str -> Option Value} (hv : ∀ x (i : Nat) d, f.cx.lookup x = some i -> f.env.kindOf x = some .local -> ρ[i]? = some (some d) -> ∃ v, m x = some v /\ Rep (vis h M) ads v d)
  (hn : h'.Ns f.env.locals (fun y => if y = x then some v else m y)) (hs : Heap.SameBut f.env.locals h h') : St f M ads (ρ.set i (some d)) μ h' := by
 have vk : ∀ b o, vis h M b = some o -> vis h' M b = some o := vis_keep fun b o hb e => sameBut_at hs (fun (q : b = f.env.locals) => hb (by rw [q]; exact st.locM)) o e
 refine ⟨⟨fun b o e => ?_, st.mu.fresh, fun a ha => ?_, st.mu.adsM, st.mu.nod, st.mu.len, fun j a mv e1 e2 => ?_⟩, st.kind, st.glob, st.blt, st.locM, st.locA, ⟨_, hn, fun y j d' h1 h2 h3 => ?_⟩, fun y hy => ?_, st.apart, st.inj, by rw [List.length_set]; exact st.len, st.bnd⟩
 ·refine sameBut_at hs (fun q => ?_) o (st.mu.base b o e)
  have := st.mu.fresh _ st.locM
  rw [<- q, e] at this; cases this
 ·by_cases hb : a = f.env.locals
  ·subst hb; obtain ⟨o, es, ep, e, _⟩ := hn; exact ⟨o, e⟩
  ·obtain ⟨o, e⟩ := st.mu.live a ha; exact ⟨o, sameBut_at hs hb o e⟩
 ·refine (st.mu.mus j a mv e1 e2).keep (sameBut_at hs fun q => st.locA (q ▸ List.mem_of_getElem? e1)) fun b o hb e => sameBut_at hs (fun (q : b = f.env.locals) => hb (by rw [q]; exact st.locM)) o e
 ·by_cases hy : y = x
  ·subst hy
   rw [hx] at h1
   obtain rfl : i = j := Option.some.inj h1
   rw [List.getElem?_set] at h3
   simp only [if_true] at h3
   split at h3
   ·cases h3; exact ⟨v, by simp, r.keep vk⟩
   ·cases h3
  ·have hij : i ≠ j := fun e => hy (st.inj y x j h1 (e ▸ hx))
   rw [List.getElem?_set_ne hij] at h3
   obtain ⟨w, a, b⟩ := hv y j d' h1 h2 h3
   exact ⟨w, by simp [hy, a], b.keep vk⟩
 ·obtain ⟨c, ov, e1, e2, e3, e4, e5, e6⟩ := st.cells y hy
  refine ⟨c, ov, e1, IsCell.at e2 (sameBut_at hs e5), e3, e4, e5, fun j d' h1 h3 => ?_⟩
  have hyx : y ≠ x := by
   rintro rfl
   rcases hy with hy | hy <;> rw [hk] at hy <;> cases hy
  have hij : i ≠ j := fun e => hyx (st.inj y x j h1 (e ▸ hx))
  rw [List.getElem?_set_ne hij] at h3
  obtain ⟨w, a, b⟩ := e6 j d' h1 h3
  exact ⟨w, a, b.keep vk⟩
theorem St.store_cell {M ads : List Addr} {ρ : Env'} {μ : List MV} {h h' : Heap} (st : St f M ads ρ μ h) {x : Str} {i : Nat} {v : Value} {d : PV} (hx : f.cx.lookup x = some i) (hk : f.env.kindOf x = some .cell) (r : Rep (vis h M) ads v d) {c : Addr}
  (hc : f.env.cells.lookup x = some c) (hn : h'.IsCell c (some v)) (hs : Heap.SameBut c h h') : St f M ads (ρ.set i (some d)) μ h' := by
 obtain ⟨c', ov, g1, g2, g3, g4, g5, g6⟩ := st.cells x (.inl hk)
 obtain rfl : c = c' := by rw [hc] at g1; exact Option.some.inj g1
 have vk : ∀ b o, vis h M b = some o -> vis h' M b = some o := vis_keep fun b o hb e => sameBut_at hs (fun (q : b = c) => hb (by rw [q]; exact g3)) o e
 refine ⟨⟨fun b o e => ?_, st.mu.fresh, fun a ha => ?_, st.mu.adsM, st.mu.nod, st.mu.len, fun j a mv e1 e2 => ?_⟩, st.kind, st.glob, st.blt, st.locM, st.locA, ?_, fun y hy => ?_, st.apart, st.inj, by rw [List.length_set]; exact st.len, st.bnd⟩
 ·refine sameBut_at hs (fun q => ?_) o (st.mu.base b o e)
  have := st.mu.fresh _ g3
  rw [<- q, e] at this; cases this
 ·by_cases hb : a = c
  ·subst hb; obtain ⟨o, e, _⟩ := hn; exact ⟨o, e⟩
  ·obtain ⟨o, e⟩ := st.mu.live a ha; exact ⟨o, sameBut_at hs hb o e⟩
 ·refine (st.mu.mus j a mv e1 e2).keep (sameBut_at hs fun q => g4 (q ▸ List.mem_of_getElem? e1)) fun b o hb e => sameBut_at hs (fun (q : b = c) => hb (by rw [q]; exact g3)) o e
 ·obtain ⟨m, hm, hv⟩ := st.ns
  refine ⟨m, Ns.at hm (sameBut_at hs g5.symm), fun y j d' h1 h2 h3 => ?_⟩
  have hyx : y ≠ x := by rintro rfl; rw [hk] at h2; cases h2
  have hij : i ≠ j := fun e => hyx (st.inj y x j h1 (e ▸ hx))
  rw [List.getElem?_set_ne hij] at h3
  obtain ⟨w, a, b⟩ := hv y j d' h1 h2 h3
  exact ⟨w, a, b.keep vk⟩
 ·obtain ⟨c2, ov2, e1, e2, e3, e4, e5, e6⟩ := st.cells y hy
  by_cases hyx : y = x
  ·subst hyx
   rw [hc] at e1
   obtain rfl : c = c2 := Option.some.inj e1
   refine ⟨c, some v, hc, hn, e3, e4, e5, fun j d' h1 h3 => ?_⟩
   rw [hx] at h1
   obtain rfl : i = j := Option.some.inj h1
   rw [List.getElem?_set] at h3
   simp only [if_true] at h3
   split at h3
   ·cases h3; exact ⟨v, rfl, r.keep vk⟩
   ·cases h3
  ·have hcc : c2 ≠ c := fun q => hyx (st.apart y x c (q ▸ e1) hc)
   refine ⟨c2, ov2, e1, IsCell.at e2 (sameBut_at hs hcc), e3, e4, e5, fun j d' h1 h3 => ?_⟩
   have hij : i ≠ j := fun e => hyx (st.inj y x j h1 (e ▸ hx))
   rw [List.getElem?_set_ne hij] at h3
   obtain ⟨w, a, b⟩ := e6 j d' h1 h3
   exact ⟨w, a, b.keep vk⟩
theorem store_sound {Z M ads : List Addr} {ρ : Env'} {μ : List MV} {s : Shared} {x : Str} {i : Nat} {v : Value} {d : PV} (st : St f M ads ρ μ s.heap) (hx : VarOK f Z x i) (r : Rep (vis s.heap M) ads v d) {Q : Unit -> Shared -> Prop} {E : Value -> Shared -> Prop}
  (q : ∀ h' tk, St f M ads (ρ.set i (some d)) μ h' -> KeepBut Z s.heap h' -> Q () { s with heap := h', toks := tk }) : wpAny (model pw f.w) f.A (storeName f.env x v) Q E s := by
 obtain ⟨hx, ⟨hk, hz⟩ | ⟨hk, c, hc, hz⟩⟩ := hx
 ·obtain ⟨m, hn, hv⟩ := st.ns
  exact wpAny_storeName_local hk hn (fun h' hn' hs => q h' _ (st.store_local hx hk r hv hn' hs) (sameBut_keep hs hz)) (by show (f.env.scope.kind == .class || (f.env.scope.kind == .module && _)) = false; rw [st.kind]; rfl)
 ·obtain ⟨c', ov, g1, g2, g3, g4, g5, g6⟩ := st.cells x (.inl hk)
  obtain rfl : c = c' := by rw [hc] at g1; exact Option.some.inj g1
  exact wpAny_storeName_cell st.kind hk hc g2 fun h' hn' hs => q h' s.toks (st.store_cell hx hk r hc hn' hs) (sameBut_keep hs hz)
inductive TgtOK (f : Fx) (Z : List Addr) : Expr -> MT -> Prop
 | name (x p i) : VarOK f Z x i -> TgtOK f Z (.Name x p) (.name i)
 | tup (xs : List (Str × Pos)) (is : List Nat) (k p) : xs.length = is.length -> (∀ (j : Nat) (x : Str × Pos) (i : Nat), xs[j]? = some x -> is[j]? = some i -> VarOK f Z x.1 i) -> TgtOK f Z (.Tuple (xs.map fun (x : Str × Pos) => Expr.Name x.1 x.2) k p) (.tup is)
theorem assignEach_names (xs : List (Str × Pos)) (env : Env) : assignEach (xs.map fun (x : Str × Pos) => Expr.Name x.1 x.2) env = xs.map fun (x : Str × Pos) => (false, fun v => assign (Expr.Name x.1 x.2) env v) := by
 induction xs with
 | nil => rfl
 | cons x xs ih => show (false, _) :: assignEach _ env = _; rw [ih]; rfl
theorem inOrder_sound {Z M ads : List Addr} {μ : List MV} : ∀ (xs : List (Str × Pos)) (is : List Nat) (vs : List Value) (ds : List PV) (ρ : Env') (s : Shared), St f M ads ρ μ s.heap -> xs.length = is.length -> xs.length = ds.length -> (∀ a ∈ Z, a ∈ M) ->
  (∀ (j : Nat) (x : Str × Pos) (i : Nat), xs[j]? = some x -> is[j]? = some i -> VarOK f Z x.1 i) -> Reps (vis s.heap M) ads vs ds -> ∀ {Q : Unit -> Shared -> Prop} {E : Value -> Shared -> Prop},
  (∀ h' tk, St f M ads (setAll ρ is ds) μ h' -> KeepBut Z s.heap h' -> Q () { s with heap := h', toks := tk }) -> wpAny (model pw f.w) f.A (assignInOrder (xs.map fun (x : Str × Pos) v => assign (Expr.Name x.1 x.2) f.env v) vs) Q E s
 | [], is, vs, ds, ρ, s, st, h1, h2, hz, hv, r, Q, E, q => by
  obtain rfl : ds = [] := by simpa using h2.symm
  cases r
  obtain rfl : is = [] := by simpa using h1.symm
  exact wpAny_pure (q s.heap s.toks st fun _ _ _ e => e)
 | x :: xs, is, vs, ds, ρ, s, st, h1, h2, hz, hv, r, Q, E, q => by
  cases r with
  | nil => simp at h2
  | cons v d vs ds rv r =>
  cases is with
  | nil => simp at h1
  | cons i is =>
  refine wpAny_bind (wpAny_holding (wpAny_assign_Name (store_sound st (hv 0 x i rfl rfl) rv fun h' tk st' kk => ?_)))
  refine inOrder_sound xs is vs ds _ { s with heap := h', toks := tk } st' (by simpa using h1) (by simpa using h2) hz (fun j y i' e1 e2 => hv (j + 1) y i' (by simpa using e1) (by simpa using e2)) (r.keep (vis_keep fun b o hb e => kk b o (fun hm => hb (hz b hm)) e)) fun h2 tk2 st2 kk2 => q h2 tk2 st2 (kk.trans kk2)
theorem asg_sound {Z M ads : List Addr} {ρ : Env'} {μ : List MV} {s : Shared} {tgt : Expr} {t : MT} {v : Value} {d : PV} {K : Env' -> Prop} (hh : f.A.handled = none) (st : St f M ads ρ μ s.heap) (ht : TgtOK f Z tgt t) (hz : ∀ a ∈ Z, a ∈ M) (r : Rep (vis s.heap M) ads v d) (e : asgT t d ρ K)
  {Q : Unit -> Shared -> Prop} {E : Value -> Shared -> Prop} (q : ∀ ρ' h' tk, K ρ' -> St f M ads ρ' μ h' -> KeepBut Z s.heap h' -> Q () { s with heap := h', toks := tk }) : wpAny (model pw f.w) f.A (assign tgt f.env v) Q E s := by
 cases ht with
 | name x p i hx => exact wpAny_assign_Name (store_sound st hx r fun h' tk st' kk => q _ h' tk e st' kk)
 | tup xs is k p hl hx =>
  cases d <;> try (exact (show False from e).elim)
  rename_i ds
  obtain ⟨h1, h2⟩ := e
  cases r with
  | tup a vs _ hs rs =>
  have hlen := rs.length
  simp at hlen
  refine assign_Tuple_tuple hh hs.tup ?_ ?_ fun h' hx' => ?_
  ·rw [assignEach_names]; simp; lia
  ·rw [assignEach_names]; simp [List.findIdx?_eq_none_iff]
  ·rw [assignEach_names, List.map_map]
   have kk : Keep s.heap h' := fun b o e => hx' b o (Nat.ne_of_lt (Heap.lt_size e)) e
   exact inOrder_sound xs is vs.toList ds ρ { s with heap := h' } (st.keep kk) hl (by lia) hz hx (rs.keep (vis_keepK kk)) fun h2' tk st2 kk2 => q _ h2' tk h2 st2 ((KeepBut.of kk).trans kk2)
end
structure Src (w : World) (A : Around) (g₀ : Part) (ads : List Addr) (I : Addr) (own held : List Addr) (tgt : Expr) (S : List PV -> Heap -> Prop) : Prop where
 frame : ∀ ds h h', S ds h -> (∀ b ∈ own, ∀ o, h.get? b = some o -> h'.get? b = some o) -> (∀ b ∈ held, ∀ o, h.get? b = some o -> h'.get? b = some o) -> (∀ b o, g₀ b = some o -> h'.get? b = some o) -> S ds h'
 step : ∀ d ds (s : Shared) (M' : List Addr) (Q : Value -> Shared -> Prop) (E : Value -> Shared -> Prop), S (d :: ds) s.heap -> (∀ b o, g₀ b = some o -> vis s.heap M' b = some o) -> (∀ a ∈ M', ∃ o, s.heap.get? a = some o) -> (∀ a ∈ own, a ∈ M') ->
  (∀ v h' tk, Rep (vis h' M') ads v d -> S ds h' -> KeepBut own s.heap h' -> Q v { s with heap := h', toks := tk }) ->
  wpAny (model pw w) A (pyNext (.ref I)) (fun r s1 => match r with | some v => wpAny (model pw w) A (letOwnedTupleGo tgt (.ref I) v) (fun _ s2 => Q v s2) E s1 | none => False) E s
 stop : ∀ (s : Shared) (Q : Shared -> Prop) (E : Value -> Shared -> Prop), S [] s.heap -> (∀ h' tk, KeepBut own s.heap h' -> Q { s with heap := h', toks := tk }) ->
  wpAny (model pw w) A (pyNext (.ref I)) (fun r s1 => match r with | some _ => False | none => Q s1) E s
 live : ∀ ds h, S ds h -> ∀ a ∈ own, ∃ o, h.get? a = some o
 again : ∀ ds (s : Shared) (Q : Value -> Shared -> Prop) (E : Value -> Shared -> Prop), S ds s.heap -> Q (.ref I) s -> wpAny (model pw w) A (pyIter (.ref I)) Q E s
noncomputable def TgtShape (tgt : Expr) : Prop := (∃ x p, tgt = .Name x p) ∨ ∃ es k p, tgt = .Tuple es k p
theorem letGo_name {M : Model} {A : Around} {E : Value -> Shared -> Prop} {s : Shared} {x : Str} {p : Pos} {it v : Value} {Q : Unit -> Shared -> Prop} (q : Q () s) : wpAny M A (letOwnedTupleGo (.Name x p) it v) Q E s := wpAny_pure q
theorem letGo_flat {M : Model} {A : Around} {E : Value -> Shared -> Prop} {s : Shared} {tgt : Expr} (ht : TgtShape tgt) {it v : Value} (hv : ∀ a, v ≠ .ref a) {Q : Unit -> Shared -> Prop} (q : Q () s) : wpAny M A (letOwnedTupleGo tgt it v) Q E s := by
 rcases ht with ⟨x, p, rfl⟩ | ⟨es, k, p, rfl⟩
 ·exact letGo_name q
 ·cases v
  case ref a => exact absurd rfl (hv a)
  all_goals (cases it <;> exact wpAny_pure q)
theorem letGo_list {w : World} {A : Around} {E : Value -> Shared -> Prop} {s : Shared} {tgt : Expr} (ht : TgtShape tgt) {I l : Addr} {i : Nat} {v : Value} {Q : Unit -> Shared -> Prop} (hit : s.heap.IsListIter I l i) (q : Q () s) : wpAny (model pw w) A (letOwnedTupleGo tgt (.ref I) v) Q E s := by
 rcases ht with ⟨x, p, rfl⟩ | ⟨es, k, p, rfl⟩
 ·exact letGo_name q
 ·cases v
  case ref a => exact wpAny_letOwnedTupleGo_listiter hit q
  all_goals exact wpAny_pure q
section
variable {w : World} {A : Around}
theorem rep_widen {g₀ : Part} {ads : List Addr} {h h' : Heap} {M' own : List Addr} {v : Value} {d : PV} (r : Rep g₀ ads v d) (hg : ∀ b o, g₀ b = some o -> vis h M' b = some o) (ho : ∀ a ∈ own, a ∈ M') (kk : KeepBut own h h') : Rep (vis h' M') ads v d :=
 r.keep fun b o e => vis_of (kk b o (fun hm => (vis_get (hg b o e)).2 (ho b hm)) (vis_get (hg b o e)).1) (vis_get (hg b o e)).2
theorem Src.list (hh : A.handled = none) {g₀ : Part} {ads : List Addr} {I l : Addr} {items : Array Value} {held : List Addr} {tgt : Expr} (ht : TgtShape tgt) (hne : l ≠ I) (hl : l ∈ held ∨ ∃ o, g₀ l = some o) :
  Src w A g₀ ads I [I] held tgt (fun ds h => ∃ i, h.IsListIter I l i /\ h.IsList l items /\ Reps g₀ ads (items.toList.drop i) ds /\ ∀ b o, g₀ b = some o -> h.get? b = some o) where
 frame := fun ds h h' ⟨i, h1, h2, h3, h4⟩ ko kh kg => ⟨i, h1.at (ko I (by simp)), h2.at (fun o e => by
  rcases hl with hl | ⟨o', hl⟩
  ·exact kh l hl o e
  ·have := h4 l o' hl; rw [e] at this; cases this; exact kg l o hl), h3, kg⟩
 step := fun d ds s M' Q E ⟨i, h1, h2, h3, h4⟩ hg hlive ho q => by
  generalize hd : items.toList.drop i = rest at h3
  cases h3 with
  | cons v _ vs _ rv rs =>
  have hi : items[i]? = some v := by
   have : (items.toList.drop i)[0]? = some v := by rw [hd]; rfl
   rw [List.getElem?_drop] at this; simpa using this
  refine wpAny_pyNext_list_item h1 h2 hi fun h' h1' hs => letGo_list ht h1' ?_
  have kk : KeepBut [I] s.heap h' := sameBut_keep hs (by simp)
  refine q v h' s.toks (rep_widen rv hg ho kk) ⟨i + 1, h1', h2.at (sameBut_at hs hne), ?_, fun b o e => kk b o (fun hm => ?_) (h4 b o e)⟩ kk
  ·have : items.toList.drop (i + 1) = vs := by rw [<- List.drop_drop, hd]; rfl
   rw [this]; exact rs
  ·exact (vis_get (hg b o e)).2 (ho b hm)
 stop := fun s Q E ⟨i, h1, h2, h3, h4⟩ q => by
  have hi : items[i]? = none := by
   have := h3.length
   simp at this
   exact Array.getElem?_eq_none (by grind)
  exact wpAny_pyNext_list_end hh h1 h2 hi fun h' kk => q h' s.toks fun b o hb e => kk b o (fun hm => hb (by simp [hm])) e
 live := fun ds h ⟨i, ⟨o, e, _⟩, _⟩ a ha => by simp at ha; subst ha; exact ⟨o, e⟩
 again := fun ds s Q E ⟨i, h1, _⟩ q => wpAny_pyIter_listiter h1 q
theorem Src.range (hh : A.handled = none) {g₀ : Part} {ads : List Addr} {I : Addr} {held : List Addr} {tgt : Expr} (ht : TgtShape tgt) :
  Src w A g₀ ads I [I] held tgt (fun ds h => ∃ (a : Int) (n : Nat), IsRangeIter h I a n 1 /\ ds = (List.range n).map fun (i : Nat) => .int (a + (i : Int))) where
 frame := fun ds h h' ⟨a, n, h1, h2⟩ ko kh kg => ⟨a, n, ko I (by simp) _ h1, h2⟩
 step := fun d ds s M' Q E ⟨a, n, h1, h2⟩ hg hlive ho q => by
  cases n with
  | zero => simp at h2
  | succ n =>
  rw [List.range_succ_eq_map, List.map_cons] at h2
  obtain ⟨rfl, rfl⟩ := List.cons.inj h2
  refine wpAny_pyNext_range_item h1 (by lia) fun h' h1' hs => letGo_flat ht (fun _ h => by cases h) ?_
  refine q _ h' _ (by simp; exact .int _ _) ⟨a + 1, n, by simpa using h1', ?_⟩ (sameBut_keep hs (by simp))
  rw [List.map_map]
  congr 1
  funext i
  simp
  lia
 stop := fun s Q E ⟨a, n, h1, h2⟩ q => by
  cases n with
  | succ n => rw [List.range_succ_eq_map, List.map_cons] at h2; cases h2
  | zero => exact wpAny_pyNext_range_end hh h1 (by exact Int.natCast_nonneg _) fun h' kk => q h' s.toks fun b o hb e => kk b o (fun hm => hb (by simp [hm])) e
 live := fun ds h ⟨x, n, h1, _⟩ a ha => by simp at ha; subst ha; exact ⟨_, h1⟩
 again := fun ds s Q E ⟨a, n, h1, h2⟩ q => wpAny_pyIter_rangeiter h1 q
theorem Src.str {g₀ : Part} {ads : List Addr} {I : Addr} {held : List Addr} {tgt : Expr} (ht : TgtShape tgt) {y : Str} {S' : Nat -> Heap -> Prop} (W : Walks pw w A I [I] [I] y.cps.size (SignAt y) S') (hlv : ∀ i h, S' i h -> ∃ o, h.get? I = some o) :
  Src w A g₀ ads I [I] held tgt (fun ds h => ∃ i, i <= y.cps.size /\ S' i h /\ ds = (y.cps.toList.drop i).map fun c => .str [c]) where
 frame := fun ds h h' ⟨i, h0, h1, h2⟩ ko kh kg => ⟨i, h0, W.frame i h h' h1 ko, h2⟩
 step := fun d ds s M' Q E ⟨i, h0, h1, h2⟩ hg hlive ho q => by
  by_cases hi : i < y.cps.size
  ·have hd : y.cps.toList.drop i = y.cps[i] :: y.cps.toList.drop (i + 1) := by rw [List.drop_eq_getElem_cons (by simpa using hi)]; simp
   rw [hd, List.map_cons] at h2
   obtain ⟨rfl, rfl⟩ := List.cons.inj h2
   refine W.item i s _ E hi h1 fun v h' tk hv h1' kk => ?_
   obtain ⟨c, u, hc, rfl⟩ := hv
   refine letGo_flat ht (fun _ h => by cases h) ?_
   rw [Array.getElem?_eq_getElem hi] at hc
   cases hc
   exact q _ h' tk (.str _ u) ⟨i + 1, hi, h1', rfl⟩ kk
  ·rw [List.drop_of_length_le (by simp; lia)] at h2; cases h2
 stop := fun s Q E ⟨i, h0, h1, h2⟩ q => by
  have : i = y.cps.size := by
   by_cases hi : i < y.cps.size
   ·rw [List.drop_eq_getElem_cons (by simpa using hi)] at h2; cases h2
   ·lia
  subst this
  exact W.done s _ E h1 fun h' tk kk => q h' tk kk
 live := fun ds h ⟨i, _, h1, _⟩ a ha => by simp at ha; subst ha; exact hlv i h h1
 again := fun ds s Q E ⟨i, h0, h1, h2⟩ q => W.self i s Q E h1 q
theorem enumFrom_cons (i : Nat) (d : PV) (ds : List PV) : enumFrom i (d :: ds) = .tup [.int i, d] :: enumFrom (i + 1) ds := rfl
theorem Src.enum (hh : A.handled = none) {g₀ : Part} {ads : List Addr} {e it l : Addr} {items : Array Value} {held : List Addr} {es : List Expr} {k : Nat} {p : Pos} (hne : e ≠ it) (hle : l ≠ e) (hli : l ≠ it) (hl : l ∈ held ∨ ∃ o, g₀ l = some o) :
  Src w A g₀ ads e [e, it] held (.Tuple es k p) (fun ds h => ∃ i old rest, IsEnum h e it (i : Nat) old /\ h.IsListIter it l i /\ h.IsList l items /\ Reps g₀ ads (items.toList.drop i) rest /\ ds = enumFrom i rest /\ ∀ b o, g₀ b = some o -> h.get? b = some o) where
 frame := fun ds h h' ⟨i, old, rest, h0, h1, h2, h3, h5, h4⟩ ko kh kg => ⟨i, old, rest, ko e (by simp) _ h0, h1.at (ko it (by simp)), h2.at (fun o e => by
  rcases hl with hl | ⟨o', hl⟩
  ·exact kh l hl o e
  ·have := h4 l o' hl; rw [e] at this; cases this; exact kg l o hl), h3, h5, kg⟩
 step := fun d ds s M' Q E ⟨i, old, rest, h0, h1, h2, h3, h5, h4⟩ hg hlive ho q => by
  generalize hd : items.toList.drop i = vs at h3
  cases h3 with
  | nil => cases h5
  | cons v d' vs rest rv rs =>
  obtain ⟨rfl, rfl⟩ := List.cons.inj h5
  have hi : items[i]? = some v := by
   have : (items.toList.drop i)[0]? = some v := by rw [hd]; rfl
   rw [List.getElem?_drop] at this; simpa using this
  refine wpAny_pyNext_enum_item h0 h1 h2 hi hne fun h' h0' h1' hT hsz kk => ?_
  refine wpAny_letOwnedTupleGo_enum h0' fun h2' h0'' hs => ?_
  have helt : e < s.heap.objs.size := Heap.lt_size h0
  have k1 : KeepBut [e, it] s.heap h' := fun b o hb x => kk b o (fun e' => hb (by simp [e'])) (fun e' => hb (by simp [e'])) x
  have k2 : KeepBut [e, it] h' h2' := sameBut_keep hs (by simp)
  have hTe : s.heap.objs.size ≠ e := Nat.ne_of_gt helt
  refine q _ h2' _ ?_ ⟨i + 1, _, rest, by simpa using h0'', h1'.at (sameBut_at hs hne.symm), (h2.at fun o x => sameBut_at hs hle o (kk l o hle hli x)), ?_, rfl, fun b o x => (k1.trans k2) b o (fun hm => (vis_get (hg b o x)).2 (ho b hm)) (h4 b o x)⟩ (k1.trans k2)
  ·refine .tup _ #[.int i s.toks, v] _ ⟨_, vis_of (sameBut_at hs hTe _ hT) ?_, rfl, _, rfl⟩ (.cons _ _ _ _ (.int _ _) (.cons _ _ _ _ (rep_widen rv hg ho (k1.trans k2)) .nil))
   intro hm
   obtain ⟨o, ho'⟩ := hlive _ hm
   exact absurd (Heap.lt_size ho') (Nat.lt_irrefl _)
  ·have : items.toList.drop (i + 1) = vs := by rw [<- List.drop_drop, hd]; rfl
   rw [this]; exact rs
 stop := fun s Q E ⟨i, old, rest, h0, h1, h2, h3, h5, h4⟩ q => by
  cases rest with
  | cons _ _ => cases h5
  | nil =>
  have hi : items[i]? = none := by
   have := h3.length
   simp at this
   exact Array.getElem?_eq_none (by grind)
  exact wpAny_pyNext_enum_end hh h0 h1 h2 hi fun h' kk => q h' s.toks fun b o hb x => kk b o (fun hm => hb (by simp [hm])) x
 live := fun ds h ⟨i, old, rest, h0, ⟨o, e', _⟩, _⟩ a ha => by
  simp at ha
  rcases ha with rfl | rfl
  ·exact ⟨_, h0⟩
  ·exact ⟨o, e'⟩
 again := fun ds s Q E ⟨i, old, rest, h0, _⟩ q => wpAny_pyIter_enum h0 q
end
theorem vis_grow {h h' : Heap} {M own : List Addr} (k : Keep h h') (hn : ∀ a ∈ own, h.get? a = none) : ∀ b o, vis h M b = some o -> vis h' (own ++ M) b = some o := fun b o e => by
 obtain ⟨h1, h2⟩ := vis_get e
 refine vis_of (k b o h1) fun hm => ?_
 rcases List.mem_append.mp hm with hm | hm
 ·rw [hn b hm] at h1; cases h1
 ·exact h2 hm
theorem St.grow {f : Fx} {M ads own : List Addr} {ρ : Env'} {μ : List MV} {h h' : Heap} (st : St f M ads ρ μ h) (k : Keep h h') (hn : ∀ a ∈ own, h.get? a = none) (hl : ∀ a ∈ own, ∃ o, h'.get? a = some o) : St f (own ++ M) ads ρ μ h' where
 mu := {
  base := fun b o e => k _ _ (st.mu.base _ _ e)
  fresh := fun a ha => by
   rcases List.mem_append.mp ha with ha | ha
   ·cases e : f.hO.get? a with
    | none => rfl
    | some o => have := st.mu.base _ _ e; rw [hn a ha] at this; cases this
   ·exact st.mu.fresh a ha
  live := fun a ha => by
   rcases List.mem_append.mp ha with ha | ha
   ·exact hl a ha
   ·obtain ⟨o, e⟩ := st.mu.live a ha; exact ⟨o, k _ _ e⟩
  adsM := fun a ha => List.mem_append_right _ (st.mu.adsM a ha)
  nod := st.mu.nod
  len := st.mu.len
  mus := fun i a m e1 e2 => by
   cases st.mu.mus i a m e1 e2 with
   | list vs ds e r => exact .list vs ds (e.at fun o e => k _ _ e) (r.keep (vis_grow k hn)) }
 kind := st.kind
 glob := st.glob
 blt := st.blt
 locM := List.mem_append_right _ st.locM
 locA := st.locA
 ns := by
  obtain ⟨m, hn', hv⟩ := st.ns
  refine ⟨m, Ns.at hn' fun o e => k _ _ e, fun y i d e1 e2 e3 => ?_⟩
  obtain ⟨v, a, b⟩ := hv y i d e1 e2 e3
  exact ⟨v, a, b.keep (vis_grow k hn)⟩
 cells := fun y hy => by
  obtain ⟨c, ov, e1, e2, e3, e4, e5, e6⟩ := st.cells y hy
  refine ⟨c, ov, e1, IsCell.at e2 fun o e => k _ _ e, List.mem_append_right _ e3, e4, e5, fun i d a b => ?_⟩
  obtain ⟨v, q1, q2⟩ := e6 i d a b
  exact ⟨v, q1, q2.keep (vis_grow k hn)⟩
 apart := st.apart
 inj := st.inj
 len := st.len
 bnd := st.bnd
structure InM (f : Fx) (M ads : List Addr) : Prop where
 loc : f.env.locals ∈ M
 ads : ∀ a ∈ ads, a ∈ M
 cell : ∀ x c, envCell f.env x -> f.env.cells.lookup x = some c -> c ∈ M
theorem St.inM {f : Fx} {M ads : List Addr} {ρ : Env'} {μ : List MV} {h : Heap} (st : St f M ads ρ μ h) : InM f M ads :=
 ⟨st.locM, st.mu.adsM, fun x c hx hc => by obtain ⟨c', ov, e1, e2, e3, _⟩ := st.cells x hx; rw [hc] at e1; cases e1; exact e3⟩
theorem St.shrink {f : Fx} {M M' ads : List Addr} {ρ : Env'} {μ : List MV} {h : Heap} (st : St f M' ads ρ μ h) (hM : InM f M ads) (hs : ∀ a ∈ M, a ∈ M') : St f M ads ρ μ h where
 mu := {
  base := st.mu.base
  fresh := fun a ha => st.mu.fresh a (hs a ha)
  live := fun a ha => st.mu.live a (hs a ha)
  adsM := hM.ads
  nod := st.mu.nod
  len := st.mu.len
  mus := fun i a m e1 e2 => by
   cases st.mu.mus i a m e1 e2 with
   | list vs ds e r => exact .list vs ds e (r.keep (vis_less hs)) }
 kind := st.kind
 glob := st.glob
 blt := st.blt
 locM := hM.loc
 locA := st.locA
 ns := by
  obtain ⟨m, hn', hv⟩ := st.ns
  refine ⟨m, hn', fun y i d e1 e2 e3 => ?_⟩
  obtain ⟨v, a, b⟩ := hv y i d e1 e2 e3
  exact ⟨v, a, b.keep (vis_less hs)⟩
 cells := fun y hy => by
  obtain ⟨c, ov, e1, e2, e3, e4, e5, e6⟩ := st.cells y hy
  refine ⟨c, ov, e1, e2, hM.cell y c hy e1, e4, e5, fun i d a b => ?_⟩
  obtain ⟨v, q1, q2⟩ := e6 i d a b
  exact ⟨v, q1, q2.keep (vis_less hs)⟩
 apart := st.apart
 inj := st.inj
 len := st.len
 bnd := st.bnd
theorem St.forget {f : Fx} {M ads : List Addr} {ρ ρ' : Env'} {μ : List MV} {h : Heap} (st : St f M ads ρ' μ h) (hl : ρ.length = f.n) (hf : ∀ (i : Nat) d, ρ[i]? = some (some d) -> ρ'[i]? = some (some d)) : St f M ads ρ μ h :=
 { st with
  len := hl
  ns := by
   obtain ⟨m, hn', hv⟩ := st.ns
   exact ⟨m, hn', fun y i d e1 e2 e3 => hv y i d e1 e2 (hf i d e3)⟩
  cells := fun y hy => by
   obtain ⟨c, ov, e1, e2, e3, e4, e5, e6⟩ := st.cells y hy
   exact ⟨c, ov, e1, e2, e3, e4, e5, fun i d a b => e6 i d a (hf i d b)⟩ }
theorem new_none {h : Heap} {a : Addr} (h1 : h.objs.size <= a) : h.get? a = none := by
 cases e : h.get? a with
 | none => rfl
 | some o => exact absurd (Heap.lt_size e) (Nat.not_lt.mpr h1)
noncomputable def IterQ (f : Fx) (M ads : List Addr) (ρ : Env') (μ : List MV) (s : Shared) (held : List Addr) (tgt : Expr) (items : List PV) (Q : Value -> Shared -> Prop) : Prop :=
 ∀ I own h' tk S, Keep s.heap h' -> St f (own ++ M) ads ρ μ h' -> (∀ a ∈ own, s.heap.get? a = none) -> Src f.w f.A (vis h' (own ++ M)) ads I own held tgt S -> S items h' -> Q (.ref I) { s with heap := h', toks := tk }
section
variable {f : Fx}
theorem iter_list (hh : f.A.handled = none) {M ads : List Addr} {ρ : Env'} {μ : List MV} {s : Shared} {held : List Addr} {tgt : Expr} (ht : TgtShape tgt) (st : St f M ads ρ μ s.heap) {l : Addr} {items : Array Value} {ds : List PV} (hl : s.heap.IsList l items)
  (hv : l ∈ held ∨ ∃ o, vis s.heap M l = some o) (r : Reps (vis s.heap M) ads items.toList ds) {Q : Value -> Shared -> Prop} {E : Value -> Shared -> Prop} (q : IterQ f M ads ρ μ s held tgt ds Q) : wpAny (model pw f.w) f.A (pyIter (.ref l)) Q E s := by
 refine wpAny_pyIter_list hl ?_
 have hn : ∀ a ∈ [s.heap.objs.size], s.heap.get? a = none := fun a ha => by simp at ha; subst ha; exact new_none (Nat.le_refl _)
 have hlne : l ≠ s.heap.objs.size := by obtain ⟨o, e, _⟩ := hl; exact Nat.ne_of_lt (Heap.lt_size e)
 have kk : Keep s.heap (s.heap.push { cls := .type "list_iterator", data := .fields #[.ref l, .int 0 0] }) := keep_push
 refine q s.heap.objs.size [s.heap.objs.size] _ s.toks _ kk (st.grow kk hn fun a ha => ?_) hn (Src.list hh ht hlne ?_ (items := items)) ⟨0, ⟨_, Heap.get?_push_size _ rfl, rfl, rfl⟩, hl.at (fun o e => kk _ _ e), ?_, fun b o e => (vis_get e).1⟩
 ·simp at ha; subst ha; exact ⟨_, Heap.get?_push_size _ rfl⟩
 ·rcases hv with hv | ⟨o, hv⟩
  ·exact .inl hv
  ·exact .inr ⟨o, vis_grow kk hn l o hv⟩
 ·exact r.keep (vis_grow kk hn)
theorem iter_str (hh : f.A.handled = none) {M ads : List Addr} {ρ : Env'} {μ : List MV} {s : Shared} {held : List Addr} {tgt : Expr} (ht : TgtShape tgt) (st : St f M ads ρ μ s.heap) {l : List Nat} {t : Tok}
  {Q : Value -> Shared -> Prop} {E : Value -> Shared -> Prop} (q : IterQ f M ads ρ μ s held tgt (l.map fun c => .str [c]) Q) : wpAny (model pw f.w) f.A (pyIter (.str (strOf l) t)) Q E s := by
 have hn : ∀ a ∈ [s.heap.objs.size], s.heap.get? a = none := fun a ha => by simp at ha; subst ha; exact new_none (Nat.le_refl _)
 have fin : ∀ (o : Obj) (S' : Nat -> Heap -> Prop), o.isFreed = false -> Walks pw f.w f.A s.heap.objs.size [s.heap.objs.size] [s.heap.objs.size] (strOf l).cps.size (SignAt (strOf l)) S' -> (∀ i h, S' i h -> ∃ o, h.get? s.heap.objs.size = some o) -> S' 0 (s.heap.push o) -> Q (.ref s.heap.objs.size) { s with heap := s.heap.push o } := fun o S' hf W hlv h0 =>
  q s.heap.objs.size [s.heap.objs.size] _ s.toks _ keep_push (st.grow keep_push hn fun a ha => (by simp at ha; subst ha; exact ⟨_, Heap.get?_push_size _ hf⟩)) hn (Src.str ht W hlv) ⟨0, Nat.zero_le _, h0, rfl⟩
 cases ha : (strOf l).cps.all (· < 128)
 ·exact wpAny_pyIter_wide ha (fin _ _ rfl (Walks.strWide hh _ _ t) (fun i h ⟨o, e, _⟩ => ⟨o, e⟩) ⟨_, Heap.get?_push_size _ rfl, rfl, rfl⟩)
 ·exact wpAny_pyIter_ascii ha (fin _ _ rfl (Walks.strAscii hh _ _ t) (fun i h ⟨o, e, _⟩ => ⟨o, e⟩) ⟨_, Heap.get?_push_size _ rfl, rfl, rfl⟩)
theorem iter_range (hh : f.A.handled = none) {M ads : List Addr} {ρ : Env'} {μ : List MV} {s : Shared} {held : List Addr} {tgt : Expr} (ht : TgtShape tgt) (st : St f M ads ρ μ s.heap) {r : Addr} {a b : Int} {t u v : Tok} (hr : IsRange s.heap r a b 1 t u v) (hb : 0 <= a /\ a <= b /\ b < 2 ^ 24)
  {Q : Value -> Shared -> Prop} {E : Value -> Shared -> Prop} (q : IterQ f M ads ρ μ s held tgt (rangeL a b) Q) : wpAny (model pw f.w) f.A (pyIter (.ref r)) Q E s := by
 obtain ⟨hs1, hs2⟩ := range_small hb
 refine wpAny_pyIter_range hr hs1 ?_
 have hn : ∀ a ∈ [s.heap.objs.size], s.heap.get? a = none := fun a ha => by simp at ha; subst ha; exact new_none (Nat.le_refl _)
 rw [hs2]
 refine q s.heap.objs.size [s.heap.objs.size] _ s.toks _ keep_push (st.grow keep_push hn fun a ha => (by simp at ha; subst ha; exact ⟨_, Heap.get?_push_size _ rfl⟩)) hn (Src.range hh ht) ⟨a, (b - a).toNat, Heap.get?_push_size _ rfl, rfl⟩
theorem iter_enum (hh : f.A.handled = none) {M ads : List Addr} {ρ : Env'} {μ : List MV} {s : Shared} {held : List Addr} {es : List Expr} {k : Nat} {p : Pos} (st : St f M ads ρ μ s.heap) {l : Addr} {items : Array Value} {ds : List PV} (hl : s.heap.IsList l items)
  (hv : l ∈ held ∨ ∃ o, vis s.heap M l = some o) (r : Reps (vis s.heap M) ads items.toList ds) {Q : Value -> Shared -> Prop} {E : Value -> Shared -> Prop} (q : IterQ f M ads ρ μ s held (.Tuple es k p) (enumFrom 0 ds) Q) :
  wpAny (model pw f.w) f.A (call (.type "enumerate") [.ref l]) (fun v s1 => wpAny (model pw f.w) f.A (pyIter v) Q E s1) E s := by
 refine call_enumerate_list hl fun h' he hit hsz kk => wpAny_pyIter_enum he ?_
 have hn : ∀ a ∈ [s.heap.objs.size + 1, s.heap.objs.size], s.heap.get? a = none := fun a ha => by
  simp at ha
  rcases ha with rfl | rfl
  ·exact new_none (Nat.le_succ _)
  ·exact new_none (Nat.le_refl _)
 have hlt : l < s.heap.objs.size := by obtain ⟨o, e, _⟩ := hl; exact Heap.lt_size e
 refine q (s.heap.objs.size + 1) [s.heap.objs.size + 1, s.heap.objs.size] h' s.toks _ kk (st.grow kk hn fun a ha => ?_) hn (Src.enum hh (Nat.succ_ne_self _) (Nat.ne_of_lt (Nat.lt_succ_of_lt hlt)) (Nat.ne_of_lt hlt) ?_ (items := items)) ⟨0, _, ds, he, hit, hl.at (fun o e => kk _ _ e), ?_, rfl, fun b o e => (vis_get e).1⟩
 ·simp at ha
  rcases ha with rfl | rfl
  ·exact ⟨_, he⟩
  ·obtain ⟨o, e, _⟩ := hit; exact ⟨o, e⟩
 ·rcases hv with hv | ⟨o, hv⟩
  ·exact .inl hv
  ·exact .inr ⟨o, vis_grow kk hn l o hv⟩
 ·exact r.keep (vis_grow kk hn)
end
section
variable {T : Tabs} {C : CT} {k : Nat} {f : Fx} {mg mb : Str -> Option Value}
variable (T C k f) in
noncomputable def SI (iter : Expr) (m : ME) (tgt : Expr) : Prop := ∀ M ads ρ μ (s : Shared) ro K, St f M ads ρ μ s.heap -> AOk k f.A -> EVS T C ρ μ ro m K -> ∀ (Q : Value -> Shared -> Prop) (E : Value -> Shared -> Prop),
 (∀ items ro1, K items ro1 -> ro <= ro1 -> IterQ f M ads ρ μ s (ads.take ro1) tgt items Q) -> wpAny (model pw f.w) f.A (eval iter f.env) (fun x s1 => wpAny (model pw f.w) f.A (pyIter x) Q E s1) E s
theorem IterQ.back {M ads : List Addr} {ρ : Env'} {μ : List MV} {s : Shared} {held : List Addr} {tgt : Expr} {items : List PV} {Q : Value -> Shared -> Prop} (q : IterQ f M ads ρ μ s held tgt items Q) {h1 : Heap} {tk1 : Nat} (kk : Keep s.heap h1) : IterQ f M ads ρ μ { s with heap := h1, toks := tk1 } held tgt items Q :=
 fun I own h' tk S k2 st hn hs h0 => q I own h' tk S (kk.trans k2) st (fun a ha => by
  cases e : s.heap.get? a with
  | none => rfl
  | some o => have := hn a ha; rw [show ({ s with heap := h1, toks := tk1 } : Shared).heap.get? a = h1.get? a from rfl, kk _ _ e] at this; cases this) hs h0
theorem iter_val {tgt : Expr} (ht : TgtShape tgt) {M ads : List Addr} {ρ : Env'} {μ : List MV} {s : Shared} {ro : Nat} {K : List PV -> Nat -> Prop} (st : St f M ads ρ μ s.heap) (ok : AOk k f.A) {v : Value} {d : PV} (r : Rep (vis s.heap M) ads v d) (e : itemsOf (view μ d) fun l => K l (srcOf d ro)) {Q : Value -> Shared -> Prop} {E : Value -> Shared -> Prop}
  (q : ∀ items ro1, K items ro1 -> ro <= ro1 -> IterQ f M ads ρ μ s (ads.take ro1) tgt items Q) : wpAny (model pw f.w) f.A (pyIter v) Q E s := by
 cases r with
 | list a vs ds hs rs => exact iter_list ok.handled ht st hs.list (.inr (let ⟨o, e, _⟩ := hs; ⟨o, e⟩)) rs (q ds ro e (Nat.le_refl _))
 | str x t => exact iter_str ok.handled ht st (q _ ro e (Nat.le_refl _))
 | ptr a j ha =>
  have hl : j < μ.length := by rw [<- st.mu.len]; exact (List.getElem?_eq_some_iff.mp ha).1
  obtain ⟨mv, hm⟩ : ∃ mv, μ[j]? = some mv := ⟨μ[j], List.getElem?_eq_getElem hl⟩
  cases st.mu.mus j a mv ha hm with
  | list vs ds h1 h2 =>
   replace e : itemsOf (match μ[j]? with | some (.list l) => .list l | _ => .ptr j) fun l => K l (max ro (j + 1)) := e
   rw [hm] at e
   refine iter_list ok.handled ht st h1.isList (.inl ?_) h2 (q ds _ e (Nat.le_max_left _ _))
   rw [List.mem_iff_getElem?]
   exact ⟨j, by rw [List.getElem?_take, if_pos (Nat.lt_of_lt_of_le (Nat.lt_succ_self _) (Nat.le_max_right _ _))]; exact ha⟩
 | _ => exact False.elim e
theorem si_var {x : Str} {i : Nat} {p : Pos} {tgt : Expr} (ht : TgtShape tgt) (hx : f.cx.lookup x = some i) (hk : f.env.kindOf x = some .local ∨ envCell f.env x) (hd : (x == ("__debug__" : Str)) = false) (hd' : (x == ("__classdict__" : Str)) = false) :
  SI T C k f (.Name x p) (.var i) tgt := fun M ads ρ μ s ro K st ok e Q E q => by
 obtain ⟨d, h, e⟩ := mOO e
 exact wpAny_Name (ld_var st hx hk hd' h fun v r => iter_val ht st ok r e q) hd
theorem si_rng1 (G : Glob f.hO mg mb) (hg : glv mg mb "range" (.type "range")) {p pos : Pos} {e1 : Expr} {m1 : ME} {tgt : Expr} (ht : TgtShape tgt) (hk : f.env.kindOf "range" = some .globalImplicit) (h1 : SE T C k f e1 m1) (hp : noStar [e1] = true) :
  SI T C k f (.Call (.Name "range" p) [e1] [] pos) (.rng (.lit (.int 0)) m1) tgt := fun M ads ρ μ s ro K st ok e Q E q => by
 refine range1_go G hg hk h1 hp st ok (P := fun y => (0 <= 0 /\ 0 <= y /\ y < 2 ^ 24) /\ K (rangeL 0 y) ro) e fun r y h' tk t u v hP kk hr => ?_
 exact iter_range (s := { s with heap := h', toks := tk }) ok.handled ht (st.keep kk) hr hP.1 ((q _ ro hP.2 (Nat.le_refl _)).back kk)
theorem si_enum (G : Glob f.hO mg mb) (hg : glv mg mb "enumerate" (.type "enumerate")) {p pos : Pos} {e1 : Expr} {m1 : ME} {es : List Expr} {n : Nat} {p' : Pos} (hk : f.env.kindOf "enumerate" = some .globalImplicit) (h1 : SE T C k f e1 m1) (hp : noStar [e1] = true) :
  SI T C k f (.Call (.Name "enumerate" p) [e1] [] pos) (.enum m1) (.Tuple es n p') := fun M ads ρ μ s ro K st ok e Q E q => by
 refine call_name (ld_glob G hg hk (by decide) st (callWith_bt (.inr ⟨_, rfl⟩) hp ?_))
 refine args1_go h1 hp st ok e fun v d h' tk kd kk ra => ?_
 obtain ⟨l, rfl, kd⟩ := mL kd
 have st2 := st.keep kk
 obtain ⟨a, vs, rfl, hs, rs⟩ := ra.listI
 exact iter_enum (s := { s with heap := h', toks := tk }) ok.handled st2 hs.list (.inr (let ⟨o, e, _⟩ := hs; ⟨o, e⟩)) rs ((q _ ro kd.2 (Nat.le_refl _)).back kk)
end
noncomputable def ifsTree (ifs : List Expr) (env : Env) : Sem Bool :=
 forIn ifs true fun c r => if r = true then do let ok <- isTrue c env (eval c env); pure (ForInStep.yield ok) else pure (ForInStep.yield r)
section
variable {w : World} {A : Around} {E : Value -> Shared -> Prop} {s : Shared} {elt : Expr} {gens : List Comprehension} {scope : Scope} {pos : Pos} {depth : Nat} {it acc : Value} {env : Env} {tgt iter : Expr} {ifs : List Expr} {P : Fin -> Shared -> Prop}
theorem turn_last (hg : gens[depth]? = some ⟨tgt, iter, ifs, 0⟩) (hg' : gens[depth + 1]? = none)
  (h : wpAny (model pw w) A (pyNext it) (fun r s1 => match r with
   | none => P (.done .next) s1
   | some v => wpAny (model pw w) A (letOwnedTupleGo tgt it v) (fun _ s2 => wpAny (model pw w) A (assign tgt env v) (fun _ s3 => wpAny (model pw w) A (ifsTree ifs env) (fun ok s4 => match ok with
    | true => wpAny (model pw w) A (eval elt env) (fun x s5 => wpAny (model pw w) A (call (.builtin "list.append") [acc, x]) (fun _ s6 => P (.again (.compLoop (.ListComp elt gens scope pos) depth it acc env)) s6) E s5) E s4
    | false => P (.again (.compLoop (.ListComp elt gens scope pos) depth it acc env)) s4) E s3) E s2) E s1) E s) :
  wpAny (model pw w) A (compTurn (.ListComp elt gens scope pos) depth it acc env) P E s := by
 unfold compTurn
 simp only [hg, hg']
 refine wpAny_bind (wpAny_standAt ?_)
 rw [if_neg (by decide)]
 refine wpAny_bind (wpAny_mono h (fun r s1 h1 => ?_) fun _ _ x => x)
 cases r with
 | none => exact wpAny_pure h1
 | some v =>
  refine wpAny_bind (wpAny_mono h1 (fun _ s2 h2 => wpAny_bind (wpAny_mono h2 (fun _ s3 h3 => wpAny_bind (wpAny_mono h3 (fun ok s4 h4 => ?_) fun _ _ x => x)) fun _ _ x => x)) fun _ _ x => x)
  cases ok with
  | false => exact wpAny_pure h4
  | true =>
   rw [if_pos rfl]
   exact wpAny_bind (wpAny_bind (wpAny_mono h4 (fun x s5 h5 => wpAny_bind (wpAny_mono h5 (fun _ s6 h6 => wpAny_pure (wpAny_pure h6)) fun _ _ x => x)) fun _ _ x => x))
theorem turn_more {tgt' iter' : Expr} {ifs' : List Expr} (hg : gens[depth]? = some ⟨tgt, iter, ifs, 0⟩) (hg' : gens[depth + 1]? = some ⟨tgt', iter', ifs', 0⟩) (hf : ∀ x, foldedSetIterable iter' env x = pure x)
  (h : wpAny (model pw w) A (pyNext it) (fun r s1 => match r with
   | none => P (.done .next) s1
   | some v => wpAny (model pw w) A (letOwnedTupleGo tgt it v) (fun _ s2 => wpAny (model pw w) A (assign tgt env v) (fun _ s3 => wpAny (model pw w) A (ifsTree ifs env) (fun ok s4 => match ok with
    | true => wpAny (model pw w) A (eval iter' env) (fun x s5 => wpAny (model pw w) A (pyIter x) (fun it' s6 => codeAny (model pw w) (A.mark none) (.compStart (.ListComp elt gens scope pos) (depth + 1) it' acc env)
      (fun r s7 => match r with | .ok _ => P (.again (.compLoop (.ListComp elt gens scope pos) depth it acc env)) s7 | .error _ => False) s6) E s5) E s4
    | false => P (.again (.compLoop (.ListComp elt gens scope pos) depth it acc env)) s4) E s3) E s2) E s1) E s) :
  wpAny (model pw w) A (compTurn (.ListComp elt gens scope pos) depth it acc env) P E s := by
 unfold compTurn
 simp only [hg, hg']
 refine wpAny_bind (wpAny_standAt ?_)
 rw [if_neg (by decide)]
 refine wpAny_bind (wpAny_mono h (fun r s1 h1 => ?_) fun _ _ x => x)
 cases r with
 | none => exact wpAny_pure h1
 | some v =>
  refine wpAny_bind (wpAny_mono h1 (fun _ s2 h2 => wpAny_bind (wpAny_mono h2 (fun _ s3 h3 => wpAny_bind (wpAny_mono h3 (fun ok s4 h4 => ?_) fun _ _ x => x)) fun _ _ x => x)) fun _ _ x => x)
  cases ok with
  | false => exact wpAny_pure h4
  | true =>
   rw [if_pos rfl]
   refine wpAny_bind (wpAny_mono h4 (fun x s5 h5 => wpAny_bind (wpAny_standAt ?_)) fun _ _ x => x)
   rw [if_neg (by decide)]
   refine wpAny_bind (wpAny_of_eq (hf x) ?_)
   refine wpAny_bind (wpAny_holding ?_)
   refine wpAny_mono h5 (fun it' s6 h6 => ?_) fun _ _ x => x
   refine wpAny_bind (wpAny_runOwn (codeAny_mono h6 fun r s7 h7 => ?_))
   cases r with
   | ok f => exact wpAny_pure h7
   | error e => exact h7.elim
theorem codeAny_compStart_any {R : Result -> Shared -> Prop} (hg : gens[depth]? = some ⟨tgt, iter, ifs, 0⟩)
  (h0 : codeAny (model pw w) A (.compLoop (.ListComp elt gens scope pos) depth it acc env) R s)
  (h : wpAny (model pw w) A (pyIter it) (fun it' s' => codeAny (model pw w) A (.compLoop (.ListComp elt gens scope pos) depth it' acc env) R s')
   (notedBy (model pw w) A env fun x s' => R (.error x) s') s) :
  codeAny (model pw w) A (.compStart (.ListComp elt gens scope pos) depth it acc env) R s := by
 refine codeAny_of_tree ?_
 show wpAny _ _ ((compStart (.ListComp elt gens scope pos) depth it acc env).onRaise (fun x => do noteFrame x env; standAt theWindowsPlace)) _ _ s
 refine wpAny_notedAt ?_
 unfold compStart
 rw [show clausesOf (.ListComp elt gens scope pos) = gens from rfl, hg, Option.elim_some]
 refine Eq.mpr (congrArg (fun x => wpAny _ _ x _ _ _) (if_neg (Bool.false_ne_true : ¬ (({ target := tgt, iter := iter, ifs := ifs, is_async := 0 } : Comprehension).is_async != 0) = true))) ?_
 refine wpAny_bind (wpAny_askSetting (wpAny_ite ?_))
 split
 ·first
   | exact wpAny_bind (wpAny_pure (wpAny_pure (And.intro rfl h0)))
   | exact wpAny_pure (And.intro rfl h0)
 ·refine wpAny_bind (wpAny_rule ?_)
  refine wpAny_bind (wpAny_standAt ?_)
  exact wpAny_bind (wpAny_mono h (fun it' s' h' => wpAny_pure (And.intro rfl h')) fun _ _ x => x)
end
noncomputable def AccAt (h : Heap) (M ads : List Addr) (D : Addr) (acc : List PV) : Prop := ∃ vs, h.PlainList D vs /\ Reps (vis h M) ads vs.toList acc
theorem AccAt.but {h h' : Heap} {M ads Z : List Addr} {D : Addr} {acc : List PV} (x : AccAt h M ads D acc) (k : KeepBut Z h h') (hz : ∀ a ∈ Z, a ∈ M) (hD : D ∉ Z) : AccAt h' M ads D acc :=
 let ⟨vs, h1, h2⟩ := x; ⟨vs, h1.at fun o e => k D o hD e, h2.keep (vis_keep fun b o hb e => k b o (fun hm => hb (hz b hm)) e)⟩
structure AccOK (f : Fx) (M ads : List Addr) (D : Addr) : Prop where
 M : D ∈ M
 ads : D ∉ ads
 loc : D ≠ f.env.locals
 cell : ∀ x c, envCell f.env x -> f.env.cells.lookup x = some c -> D ≠ c
theorem St.others {f : Fx} {M ads Z : List Addr} {ρ : Env'} {μ : List MV} {h h' : Heap} (st : St f M ads ρ μ h) (hD : ∀ D ∈ Z, AccOK f M ads D) (hs : KeepBut Z h h') (hl : ∀ D ∈ Z, ∃ o, h'.get? D = some o) : St f M ads ρ μ h' := by
 have vk : ∀ b o, vis h M b = some o -> vis h' M b = some o := vis_keep fun b o hb e => hs b o (fun q => hb (hD b q).M) e
 refine ⟨⟨fun b o e => ?_, st.mu.fresh, fun a ha => ?_, st.mu.adsM, st.mu.nod, st.mu.len, fun j a mv e1 e2 => ?_⟩, st.kind, st.glob, st.blt, st.locM, st.locA, ?_, fun y hy => ?_, st.apart, st.inj, st.len, st.bnd⟩
 ·refine hs b o (fun q => ?_) (st.mu.base b o e)
  have := st.mu.fresh _ (hD b q).M
  rw [e] at this; cases this
 ·by_cases hb : a ∈ Z
  ·exact hl a hb
  ·obtain ⟨o, e⟩ := st.mu.live a ha; exact ⟨o, hs a o hb e⟩
 ·have hne : a ∉ Z := fun q => (hD a q).ads (List.mem_of_getElem? e1)
  exact (st.mu.mus j a mv e1 e2).keep (fun o e => hs a o hne e) fun b o hb e => hs b o (fun q => hb (hD b q).M) e
 ·obtain ⟨m, hm, hv⟩ := st.ns
  refine ⟨m, Ns.at hm fun o e => hs _ o (fun q => (hD _ q).loc rfl) e, fun y j d' h1 h2 h3 => ?_⟩
  obtain ⟨w, a, b⟩ := hv y j d' h1 h2 h3
  exact ⟨w, a, b.keep vk⟩
 ·obtain ⟨c2, ov2, e1, e2, e3, e4, e5, e6⟩ := st.cells y hy
  have hne : c2 ∉ Z := fun q => (hD _ q).cell y c2 hy e1 rfl
  refine ⟨c2, ov2, e1, IsCell.at e2 fun o e => hs _ o hne e, e3, e4, e5, fun j d' h1 h3 => ?_⟩
  obtain ⟨w, a, b⟩ := e6 j d' h1 h3
  exact ⟨w, a, b.keep vk⟩
theorem St.other {f : Fx} {M ads : List Addr} {ρ : Env'} {μ : List MV} {h h' : Heap} (st : St f M ads ρ μ h) {D : Addr} (hD : AccOK f M ads D) (hs : KeepBut [D] h h') (hl : ∃ o, h'.get? D = some o) : St f M ads ρ μ h' :=
 st.others (Z := [D]) (fun a ha => by simp at ha; subst ha; exact hD) hs (fun a ha => by simp at ha; subst ha; exact hl)
theorem AccOK.of_not {f : Fx} {M₀ own ads : List Addr} (hIn : InM f M₀ ads) {a : Addr} (ha : a ∈ own) (hn : a ∉ M₀) : AccOK f (own ++ M₀) ads a :=
 ⟨List.mem_append_left _ ha, fun h => hn (hIn.ads a h), fun h => hn (h ▸ hIn.loc), fun x c hx hc h => hn (h ▸ hIn.cell x c hx hc)⟩
theorem vis_drop {h h' : Heap} {own M₀ : List Addr} (k : KeepBut own h h') : ∀ b o, vis h (own ++ M₀) b = some o -> vis h' M₀ b = some o := fun b o e => by
 obtain ⟨h1, h2⟩ := vis_get e
 exact vis_of (k b o (fun hm => h2 (List.mem_append_left _ hm)) h1) fun hm => h2 (List.mem_append_right _ hm)
theorem St.drop {f : Fx} {M₀ ads own : List Addr} {ρ : Env'} {μ : List MV} {h h' : Heap} (st : St f (own ++ M₀) ads ρ μ h) (hIn : InM f M₀ ads) (hn : ∀ a ∈ own, a ∉ M₀) (k : KeepBut own h h') : St f M₀ ads ρ μ h' where
 mu := {
  base := fun b o e => k b o (fun hm => by have := st.mu.fresh b (List.mem_append_left _ hm); rw [e] at this; cases this) (st.mu.base b o e)
  fresh := fun a ha => st.mu.fresh a (List.mem_append_right _ ha)
  live := fun a ha => by obtain ⟨o, e⟩ := st.mu.live a (List.mem_append_right _ ha); exact ⟨o, k a o (fun hm => hn a hm ha) e⟩
  adsM := hIn.ads
  nod := st.mu.nod
  len := st.mu.len
  mus := fun i a m e1 e2 => by
   cases st.mu.mus i a m e1 e2 with
   | list vs ds e r => exact .list vs ds (e.at fun o e => k a o (fun hm => hn a hm (hIn.ads a (List.mem_of_getElem? e1))) e) (r.keep (vis_drop k)) }
 kind := st.kind
 glob := st.glob
 blt := st.blt
 locM := hIn.loc
 locA := st.locA
 ns := by
  obtain ⟨m, hn', hv⟩ := st.ns
  refine ⟨m, Ns.at hn' fun o e => k _ o (fun hm => hn _ hm hIn.loc) e, fun y i d e1 e2 e3 => ?_⟩
  obtain ⟨v, a, b⟩ := hv y i d e1 e2 e3
  exact ⟨v, a, b.keep (vis_drop k)⟩
 cells := fun y hy => by
  obtain ⟨c, ov, e1, e2, e3, e4, e5, e6⟩ := st.cells y hy
  have hc := hIn.cell y c hy e1
  refine ⟨c, ov, e1, IsCell.at e2 fun o e => k _ o (fun hm => hn _ hm hc) e, hc, e4, e5, fun i d a b => ?_⟩
  obtain ⟨v, q1, q2⟩ := e6 i d a b
  exact ⟨v, q1, q2.keep (vis_drop k)⟩
 apart := st.apart
 inj := st.inj
 len := st.len
 bnd := st.bnd
theorem AccAt.drop {h h' : Heap} {own M₀ ads : List Addr} {D : Addr} {acc : List PV} (x : AccAt h (own ++ M₀) ads D acc) (hD : D ∉ own) (k : KeepBut own h h') : AccAt h' M₀ ads D acc :=
 let ⟨vs, h1, h2⟩ := x; ⟨vs, h1.at fun o e => k D o hD e, h2.keep (vis_drop k)⟩
theorem append_sound {f : Fx} {M ads : List Addr} {ρ : Env'} {μ : List MV} {s : Shared} {D : Addr} {acc : List PV} {v : Value} {d : PV} (st : St f M ads ρ μ s.heap) (hD : AccOK f M ads D) (ha : AccAt s.heap M ads D acc) (r : Rep (vis s.heap M) ads v d) (hsz : acc.length < sizeLine)
  {Q : Value -> Shared -> Prop} {E : Value -> Shared -> Prop} (q : ∀ h', St f M ads ρ μ h' -> AccAt h' M ads D (acc ++ [d]) -> KeepBut [D] s.heap h' -> Q .none { s with heap := h' }) : wpAny (model pw f.w) f.A (call (.builtin "list.append") [.ref D, v]) Q E s := by
 obtain ⟨vs, h1, h2⟩ := ha
 have hlen := h2.length
 simp at hlen
 refine wpAny_list_append_plain h1 (fun h' hl hs => ?_) (by lia)
 have kk : KeepBut [D] s.heap h' := sameBut_keep hs (by simp)
 have vk : ∀ b o, vis s.heap M b = some o -> vis h' M b = some o := vis_keep fun b o hb e => kk b o (fun q => hb (by simp at q; rw [q]; exact hD.M)) e
 refine q h' (st.other hD kk ?_) ⟨_, hl, ?_⟩ kk
 ·obtain ⟨n, e⟩ := hl; exact ⟨_, e⟩
 ·rw [Array.toList_push]; exact (h2.keep vk).append (.cons _ _ _ _ (r.keep vk) .nil)
section
variable {f : Fx} {M ads : List Addr} {μ : List MV} {D : Addr}
noncomputable def BodyOK (f : Fx) (M ads : List Addr) (μ : List MV) (D : Addr) (Z : List Addr) (bodyS : Env' -> List PV -> (List PV -> Prop) -> Prop) (tree : Sem Unit) : Prop :=
 ∀ ρ1 acc1 K1 (s : Shared), St f M ads ρ1 μ s.heap -> AccAt s.heap M ads D acc1 -> bodyS ρ1 acc1 K1 -> ∀ (Q : Shared -> Prop) (E : Value -> Shared -> Prop),
  (∀ acc' h' tk, K1 acc' -> St f M ads ρ1 μ h' -> AccAt h' M ads D acc' -> KeepBut Z s.heap h' -> Q { s with heap := h', toks := tk }) -> wpAny (model pw f.w) f.A tree (fun _ s' => Q s') E s
theorem setAll_get : ∀ (is : List Nat) (ds : List PV) (ρ : Env') (j : Nat), j ∉ is -> (setAll ρ is ds)[j]? = ρ[j]?
 | [], ds, ρ, j, _ => by rfl
 | i :: is, [], ρ, j, _ => by rfl
 | i :: is, x :: ds, ρ, j, h => by
  unfold setAll
  have hij : i ≠ j := fun e => h (by rw [e]; exact List.mem_cons_self)
  rw [setAll_get is ds _ j (fun hm => h (List.mem_cons_of_mem _ hm)), List.getElem?_set_ne hij]
theorem asgT_free {t : MT} {d : PV} {ρ : Env'} {K : Env' -> Prop} (hf : freeT t ρ) (e : asgT t d ρ K) : asgT t d ρ fun ρ' => K ρ' /\ ∀ (j : Nat) x, ρ[j]? = some (some x) -> ρ'[j]? = some (some x) := by
 cases t with
 | name i =>
  refine ⟨e, fun j x h => ?_⟩
  have hij : i ≠ j := fun q => by
   have hf' : ρ[i]? = some none := hf
   rw [q, h] at hf'; cases hf'
  rw [List.getElem?_set_ne hij]; exact h
 | tup is =>
  cases d <;> try (exact (show False from e).elim)
  rename_i ds
  refine ⟨e.1, e.2, fun j x h => ?_⟩
  rw [setAll_get is ds ρ j fun hm => ?_]
  ·exact h
  ·have hf' : ρ[j]? = some none := hf j hm
   rw [h] at hf'; cases hf'
theorem asgT_mono {t : MT} {d : PV} {ρ : Env'} {K K' : Env' -> Prop} (e : asgT t d ρ K) (hk : ∀ ρ', K ρ' -> K' ρ') : asgT t d ρ K' := by
 cases t with
 | name i => exact hk _ e
 | tup is =>
  cases d <;> try (exact (show False from e).elim)
  exact ⟨e.1, hk _ e.2⟩
noncomputable def IfsOK (T : Tabs) (C : CT) (k : Nat) (f : Fx) (ifs : List Expr) (ms : List ME) : Prop := ∀ M ads ρ μ (s : Shared) K, St f M ads ρ μ s.heap -> AOk k f.A -> EVIfs T C ρ μ ms K -> ∀ (Q : Bool -> Shared -> Prop) (E : Value -> Shared -> Prop),
 (∀ b h' tk, K b -> Keep s.heap h' -> Q b { s with heap := h', toks := tk }) -> wpAny (model pw f.w) f.A (ifsTree ifs f.env) Q E s
noncomputable def RestOK (f : Fx) (M ads : List Addr) (μ : List MV) (D : Addr) (Z : List Addr) (restS : Env' -> List PV -> (List PV -> Prop) -> Prop) (rest : (Shared -> Prop) -> (Value -> Shared -> Prop) -> Shared -> Prop) : Prop :=
 ∀ ρ1 acc1 K1 (s : Shared), St f M ads ρ1 μ s.heap -> AccAt s.heap M ads D acc1 -> restS ρ1 acc1 K1 -> ∀ (Q : Shared -> Prop) (E : Value -> Shared -> Prop),
  (∀ acc' h' tk, K1 acc' -> St f M ads ρ1 μ h' -> AccAt h' M ads D acc' -> KeepBut Z s.heap h' -> Q { s with heap := h', toks := tk }) -> rest Q E s
structure LoopOK (f : Fx) (k : Nat) (M₀ ads own Z : List Addr) : Prop where
 ok : AOk k f.A
 on : ∀ a ∈ own, a ∉ M₀
 ZM : ∀ a ∈ Z, a ∈ M₀
 Za : ∀ a ∈ Z, a ∉ ads
 In : InM f M₀ ads
theorem comp_step {T : Tabs} {C : CT} {k : Nat} {own M₀ Z : List Addr} (L : LoopOK f k M₀ ads own Z) (hD : AccOK f M₀ ads D) (hDZ : D ∉ Z)
  {I : Addr} {tgt : Expr} {ifs : List Expr} {g₀ : Part} {S : List PV -> Heap -> Prop} {t : MT} {ms : List ME} {ρ : Env'}
  (src : Src f.w f.A g₀ ads I own ads tgt S) (ht : TgtOK f Z tgt t) (hifs : IfsOK T C k f ifs ms) {restS : Env' -> List PV -> (List PV -> Prop) -> Prop} {rest : (Shared -> Prop) -> (Value -> Shared -> Prop) -> Shared -> Prop} (hrest : RestOK f (own ++ M₀) ads μ D (D :: Z) restS rest)
  {d : PV} {ds acc : List PV} {K : List PV -> Prop} {s : Shared} (st : St f (own ++ M₀) ads ρ μ s.heap) (ha : AccAt s.heap (own ++ M₀) ads D acc) (hS : S (d :: ds) s.heap) (hg : ∀ b o, g₀ b = some o -> vis s.heap (own ++ M₀) b = some o) (hf : freeT t ρ)
  (e : compLoop (fun ρ1 acc1 K1 => EVIfs T C ρ1 μ ms fun b => match b with | true => restS ρ1 acc1 K1 | false => K1 acc1) t ρ (d :: ds) acc K)
  {PN PA : Shared -> Prop} {E : Value -> Shared -> Prop}
  (next : ∀ acc' h' tk, St f (own ++ M₀) ads ρ μ h' -> AccAt h' (own ++ M₀) ads D acc' -> S ds h' -> (∀ b o, g₀ b = some o -> vis h' (own ++ M₀) b = some o) ->
   compLoop (fun ρ1 acc1 K1 => EVIfs T C ρ1 μ ms fun b => match b with | true => restS ρ1 acc1 K1 | false => K1 acc1) t ρ ds acc' K -> KeepBut (own ++ D :: Z) s.heap h' -> PA { s with heap := h', toks := tk }) :
  wpAny (model pw f.w) f.A (pyNext (.ref I)) (fun r s1 => match r with
   | none => PN s1
   | some v => wpAny (model pw f.w) f.A (letOwnedTupleGo tgt (.ref I) v) (fun _ s2 => wpAny (model pw f.w) f.A (assign tgt f.env v) (fun _ s3 => wpAny (model pw f.w) f.A (ifsTree ifs f.env) (fun ok s4 => match ok with
    | true => rest PA E s4
    | false => PA s4) E s3) E s2) E s1) E s := by
 have hZM : ∀ a ∈ Z, a ∈ own ++ M₀ := fun a h => List.mem_append_right _ (L.ZM a h)
 have hDZM : ∀ a ∈ D :: Z, a ∈ own ++ M₀ := fun a h => by
  rcases List.mem_cons.mp h with rfl | h
  ·exact List.mem_append_right _ hD.M
  ·exact hZM a h
 have hoZ : ∀ a ∈ own, a ∉ D :: Z := fun a h hz => by
  rcases List.mem_cons.mp hz with rfl | hz
  ·exact L.on _ h hD.M
  ·exact L.on a h (L.ZM a hz)
 have hDo : D ∉ own := fun h => L.on D h hD.M
 have e := asgT_free hf e
 have fin := src.step d ds s (own ++ M₀) (fun v s2 => wpAny (model pw f.w) f.A (assign tgt f.env v) (fun _ s3 => wpAny (model pw f.w) f.A (ifsTree ifs f.env) (fun ok s4 => match ok with
    | true => rest PA E s4
    | false => PA s4) E s3) E s2) E hS hg st.mu.live (fun a h => List.mem_append_left _ h) fun v h1 tk1 r1 hS1 k1 => ?_
 ·exact wpAny_mono fin (fun r s1 h1 => by cases r with | none => exact h1.elim | some v => exact h1) fun _ _ x => x
 have st1 := st.others (fun a h => AccOK.of_not L.In h (L.on a h)) k1 (src.live ds h1 hS1)
 have ha1 := ha.but k1 (fun a h => List.mem_append_left _ h) hDo
 have hg1 : ∀ b o, g₀ b = some o -> vis h1 (own ++ M₀) b = some o := fun b o x => vis_of (k1 b o (fun hm => (vis_get (hg b o x)).2 (List.mem_append_left _ hm)) (vis_get (hg b o x)).1) (vis_get (hg b o x)).2
 have adv : ∀ {h h' : Heap}, KeepBut (D :: Z) h h' -> S ds h -> (∀ b o, g₀ b = some o -> vis h (own ++ M₀) b = some o) -> S ds h' /\ ∀ b o, g₀ b = some o -> vis h' (own ++ M₀) b = some o := fun {h h'} kz hs hgg => by
  have hg' : ∀ b o, g₀ b = some o -> vis h' (own ++ M₀) b = some o := fun b o x => vis_of (kz b o (fun hm => (vis_get (hgg b o x)).2 (hDZM b hm)) (vis_get (hgg b o x)).1) (vis_get (hgg b o x)).2
  exact ⟨src.frame ds h h' hs (fun b hb o e => kz b o (hoZ b hb) e) (fun b hb o e => kz b o (fun hz => by
   rcases List.mem_cons.mp hz with rfl | hz
   ·exact hD.ads hb
   ·exact L.Za b hz hb) e) fun b o x => (vis_get (hg' b o x)).1, hg'⟩
 have up : ∀ a ∈ Z, a ∈ D :: Z := fun a h => List.mem_cons_of_mem _ h
 refine asg_sound L.ok.handled (s := { s with heap := h1, toks := tk1 }) st1 ht hZM r1 e fun ρ' h2 tk2 e2 st2 k2 => ?_
 obtain ⟨e2, hfree⟩ := e2
 obtain ⟨hS2, hg2⟩ := adv (k2.mono up) hS1 hg1
 have ha2 := ha1.but k2 hZM hDZ
 refine hifs (own ++ M₀) ads ρ' μ { s with heap := h2, toks := tk2 } _ st2 L.ok e2 _ _ fun b h3 tk3 e3 k3 => ?_
 have st3 := st2.keep k3
 obtain ⟨hS3, hg3⟩ := adv (KeepBut.of k3) hS2 hg2
 have ha3 : AccAt h3 (own ++ M₀) ads D acc := ha2.but (Z := []) (fun b o _ e => k3 b o e) (fun _ h => nomatch h) (fun h => nomatch h)
 have kk : KeepBut (own ++ D :: Z) s.heap h3 := fun b o n e => k3 b o (k2 b o (fun hm => n (List.mem_append_right _ (up b hm))) (k1 b o (fun hm => n (List.mem_append_left _ hm)) e))
 cases b with
 | false => exact next acc h3 tk3 (st3.forget st.len hfree) ha3 hS3 hg3 e3 kk
 | true =>
  refine hrest ρ' acc _ { s with heap := h3, toks := tk3 } st3 ha3 e3 PA E fun acc' h4 tk4 e4 st4 ha4 k4 => ?_
  obtain ⟨hS4, hg4⟩ := adv k4 hS3 hg3
  exact next acc' h4 tk4 (st4.forget st.len hfree) ha4 hS4 hg4 e4 (kk.trans (k4.mono fun a h => List.mem_append_right _ h))
theorem comp_loop {T : Tabs} {C : CT} {k : Nat} {own M₀ Z : List Addr} (L : LoopOK f k M₀ ads own Z) (hD : AccOK f M₀ ads D) (hDZ : D ∉ Z)
  {elt : Expr} {gens : List Comprehension} {scope : Scope} {pos : Pos} {depth : Nat} {I : Addr} {tgt : Expr} {ifs : List Expr} {g₀ : Part} {S : List PV -> Heap -> Prop} {t : MT} {ms : List ME} {ρ : Env'}
  (src : Src f.w f.A g₀ ads I own ads tgt S) (ht : TgtOK f Z tgt t) (hifs : IfsOK T C k f ifs ms) {restS : Env' -> List PV -> (List PV -> Prop) -> Prop} {rest : (Shared -> Prop) -> (Value -> Shared -> Prop) -> Shared -> Prop} (hrest : RestOK f (own ++ M₀) ads μ D (D :: Z) restS rest)
  (turn : ∀ (P : Fin -> Shared -> Prop) (E : Value -> Shared -> Prop) (s : Shared), wpAny (model pw f.w) f.A (pyNext (.ref I)) (fun r s1 => match r with
   | none => P (.done .next) s1
   | some v => wpAny (model pw f.w) f.A (letOwnedTupleGo tgt (.ref I) v) (fun _ s2 => wpAny (model pw f.w) f.A (assign tgt f.env v) (fun _ s3 => wpAny (model pw f.w) f.A (ifsTree ifs f.env) (fun ok s4 => match ok with
    | true => rest (fun s5 => P (.again (.compLoop (.ListComp elt gens scope pos) depth (.ref I) (.ref D) f.env)) s5) E s4
    | false => P (.again (.compLoop (.ListComp elt gens scope pos) depth (.ref I) (.ref D) f.env)) s4) E s3) E s2) E s1) E s ->
   wpAny (model pw f.w) f.A (compTurn (.ListComp elt gens scope pos) depth (.ref I) (.ref D) f.env) P E s)
  {ds : List PV} {acc : List PV} {K : List PV -> Prop} {s : Shared} {R : Result -> Shared -> Prop} (st : St f (own ++ M₀) ads ρ μ s.heap) (ha : AccAt s.heap (own ++ M₀) ads D acc) (hS : S ds s.heap) (hg₀ : ∀ b o, g₀ b = some o -> vis s.heap (own ++ M₀) b = some o) (hf : freeT t ρ)
  (e : compLoop (fun ρ1 acc1 K1 => EVIfs T C ρ1 μ ms fun b => match b with | true => restS ρ1 acc1 K1 | false => K1 acc1) t ρ ds acc K)
  (hR : ∀ acc' h' tk, K acc' -> St f M₀ ads ρ μ h' -> AccAt h' M₀ ads D acc' -> KeepBut (own ++ D :: Z) s.heap h' -> R (.ok .next) { s with heap := h', toks := tk }) :
  codeAny (model pw f.w) f.A (.compLoop (.ListComp elt gens scope pos) depth (.ref I) (.ref D) f.env) R s := by
 have hDo : D ∉ own := fun h => L.on D h hD.M
 refine codeAny_loop rfl (fun n s' => ∃ ds acc h' tk, s' = { s with heap := h', toks := tk } /\ n = ds.length + 1 /\ St f (own ++ M₀) ads ρ μ h' /\ AccAt h' (own ++ M₀) ads D acc /\ S ds h' /\ (∀ b o, g₀ b = some o -> vis h' (own ++ M₀) b = some o) /\
  compLoop (fun ρ1 acc1 K1 => EVIfs T C ρ1 μ ms fun b => match b with | true => restS ρ1 acc1 K1 | false => K1 acc1) t ρ ds acc K /\ KeepBut (own ++ D :: Z) s.heap h') ?_ (ds.length + 1) ⟨ds, acc, s.heap, s.toks, rfl, rfl, st, ha, hS, hg₀, e, fun _ _ _ e => e⟩
 rintro n s' ⟨ds, acc, h0, tk0, rfl, rfl, st, ha, hS, hg, e, kk⟩
 show wpAny _ f.A ((compTurn (.ListComp elt gens scope pos) depth (.ref I) (.ref D) f.env).onRaise (fun x => do noteFrame x f.env; theTreesLotGoes x)) _ _ _
 refine wpAny_noted (turn _ _ _ ?_)
 cases ds with
 | nil =>
  refine wpAny_mono (src.stop { s with heap := h0, toks := tk0 } (fun s1 => R (.ok .next) s1) _ hS fun h' tk k1 => hR acc h' tk e (st.drop L.In L.on k1) (ha.drop hDo k1) (kk.trans (k1.mono fun a h => List.mem_append_left _ h))) (fun r s1 h1 => ?_) fun _ _ x => x
  cases r with
  | none => exact h1
  | some v => exact h1.elim
 | cons d ds =>
  exact comp_step L hD hDZ src ht hifs hrest (s := { s with heap := h0, toks := tk0 }) st ha hS hg hf e (PN := fun s1 => R (.ok .next) s1) fun acc' h' tk st' ha' hS' hg' e' k' =>
   ⟨rfl, ds.length + 1, Nat.lt_succ_self _, ds, acc', h', tk, rfl, rfl, st', ha', hS', hg', e', kk.trans k'⟩
end
section
variable {T : Tabs} {C : CT} {k : Nat} {f : Fx}
theorem evi_evs {ρ : Env'} {μ : List MV} {m : ME} {K : List PV -> Prop} (ro : Nat) (e : EVI T C ρ μ m K) : EVS T C ρ μ ro m fun l _ => K l := by
 cases m <;> exact e
theorem ifs_nil : IfsOK T C k f [] [] := fun M ads ρ μ s K st ok e Q E q => by
 exact wpAny_pure (q true s.heap s.toks e fun _ _ e => e)
theorem ifs_one {c : Expr} {m : ME} (h : SB T C k f c m) : IfsOK T C k f [c] [m] := fun M ads ρ μ s K st ok e Q E q => by
 refine wpAny_tests_one (h M ads ρ μ s _ st ok e _ _ fun b h' tk e1 k1 => ?_)
 cases b <;> exact q _ h' tk e1 k1
theorem rest_last {M ads : List Addr} {μ : List MV} {D : Addr} {Z : List Addr} {elt : Expr} {m : ME} (ok : AOk k f.A) (hD : AccOK f M ads D) (h : SE T C k f elt m) :
  RestOK f M ads μ D (D :: Z) (fun ρ2 acc K1 => EV T C ρ2 μ m fun d => acc.length < sizeLine /\ K1 (acc ++ [d]))
   (fun Q E s => wpAny (model pw f.w) f.A (eval elt f.env) (fun x s5 => wpAny (model pw f.w) f.A (call (.builtin "list.append") [.ref D, x]) (fun _ s6 => Q s6) E s5) E s) := fun ρ1 acc1 K1 s st ha e Q E q => by
 refine h M ads ρ1 μ s _ st ok e _ _ fun v d h1 tk1 e1 k1 r1 => ?_
 have ha1 : AccAt h1 M ads D acc1 := ha.but (Z := []) (fun b o _ e => k1 b o e) (fun _ h => nomatch h) (fun h => nomatch h)
 exact append_sound (s := { s with heap := h1, toks := tk1 }) (st.keep k1) hD ha1 r1 e1.1 fun h' st' ha' kk => q _ h' tk1 e1.2 st' ha' fun b o n x => kk b o (fun hm => n (by simp at hm; subst hm; exact List.mem_cons_self)) (k1 b o x)
theorem fresh_notM {M ads own : List Addr} {ρ : Env'} {μ : List MV} {h : Heap} (st : St f M ads ρ μ h) (hn : ∀ a ∈ own, h.get? a = none) : ∀ a ∈ own, a ∉ M := fun a ha hm => by
 obtain ⟨o, e⟩ := st.mu.live a hm
 rw [hn a ha] at e; cases e
theorem AccAt.grow {h h' : Heap} {M ads own : List Addr} {D : Addr} {acc : List PV} (x : AccAt h M ads D acc) (k : Keep h h') (hn : ∀ a ∈ own, h.get? a = none) : AccAt h' (own ++ M) ads D acc :=
 let ⟨vs, h1, h2⟩ := x; ⟨vs, h1.at fun o e => k _ _ e, h2.keep (vis_grow k hn)⟩
theorem clause_ok {M ads : List Addr} {μ : List MV} {D : Addr} {Z : List Addr} (ok : AOk k f.A) (hD : AccOK f M ads D) (hDZ : D ∉ Z) (hZM : ∀ a ∈ Z, a ∈ M) (hZa : ∀ a ∈ Z, a ∉ ads) (hIn : InM f M ads)
  {elt : Expr} {gens : List Comprehension} {scope : Scope} {pos : Pos} {depth : Nat} {tgt iter : Expr} {ifs : List Expr} {t : MT} {ms : List ME} (hg : gens[depth]? = some ⟨tgt, iter, ifs, 0⟩)
  (ht : TgtOK f Z tgt t) (hifs : IfsOK T C k f ifs ms) {restS : Env' -> List PV -> (List PV -> Prop) -> Prop} {rest : (Shared -> Prop) -> (Value -> Shared -> Prop) -> Shared -> Prop}
  (hrest : ∀ own, (∀ a ∈ own, a ∉ M) -> RestOK f (own ++ M) ads μ D (D :: Z) restS rest)
  (turn : ∀ (I : Addr) (P : Fin -> Shared -> Prop) (E : Value -> Shared -> Prop) (s : Shared), wpAny (model pw f.w) f.A (pyNext (.ref I)) (fun r s1 => match r with
   | none => P (.done .next) s1
   | some v => wpAny (model pw f.w) f.A (letOwnedTupleGo tgt (.ref I) v) (fun _ s2 => wpAny (model pw f.w) f.A (assign tgt f.env v) (fun _ s3 => wpAny (model pw f.w) f.A (ifsTree ifs f.env) (fun ok s4 => match ok with
    | true => rest (fun s5 => P (.again (.compLoop (.ListComp elt gens scope pos) depth (.ref I) (.ref D) f.env)) s5) E s4
    | false => P (.again (.compLoop (.ListComp elt gens scope pos) depth (.ref I) (.ref D) f.env)) s4) E s3) E s2) E s1) E s ->
   wpAny (model pw f.w) f.A (compTurn (.ListComp elt gens scope pos) depth (.ref I) (.ref D) f.env) P E s)
  {I : Addr} {own : List Addr} {g₀ : Part} {S : List PV -> Heap -> Prop} {ds : List PV}
  {ρ : Env'} {acc : List PV} {K : List PV -> Prop} {s : Shared} {R : Result -> Shared -> Prop} (st : St f (own ++ M) ads ρ μ s.heap) (ha : AccAt s.heap (own ++ M) ads D acc) (hon : ∀ a ∈ own, a ∉ M)
  (src : Src f.w f.A g₀ ads I own ads tgt S) (hS : S ds s.heap) (hg₀ : ∀ b o, g₀ b = some o -> vis s.heap (own ++ M) b = some o) (hf : freeT t ρ)
  (e : compLoop (fun ρ1 acc1 K1 => EVIfs T C ρ1 μ ms fun b => match b with | true => restS ρ1 acc1 K1 | false => K1 acc1) t ρ ds acc K)
  (hR : ∀ acc' h' tk, K acc' -> St f M ads ρ μ h' -> AccAt h' M ads D acc' -> KeepBut (own ++ D :: Z) s.heap h' -> R (.ok .next) { s with heap := h', toks := tk }) :
  codeAny (model pw f.w) f.A (.compStart (.ListComp elt gens scope pos) depth (.ref I) (.ref D) f.env) R s := by
 have L : LoopOK f k M ads own Z := ⟨ok, hon, hZM, hZa, hIn⟩
 have key := comp_loop L hD hDZ (elt := elt) (gens := gens) (scope := scope) (pos := pos) (depth := depth) src ht hifs (hrest own hon) (turn I) st ha hS hg₀ hf e hR
 exact codeAny_compStart_any hg key (src.again ds s _ _ hS key)
theorem rest_more {M ads : List Addr} {μ : List MV} {D : Addr} {Z : List Addr} (ok : AOk k f.A) (hD : AccOK f M ads D) (hDZ : D ∉ Z) (hZM : ∀ a ∈ Z, a ∈ M) (hZa : ∀ a ∈ Z, a ∉ ads) (hIn : InM f M ads)
  {elt : Expr} {gens : List Comprehension} {scope : Scope} {pos : Pos} {depth : Nat} {tgt iter : Expr} {ifs : List Expr} {t : MT} {ms : List ME} {mit m : ME} (hg : gens[depth + 1]? = some ⟨tgt, iter, ifs, 0⟩) (hg' : gens[depth + 1 + 1]? = none)
  (hit : SI T C k f iter mit tgt) (ht : TgtOK f Z tgt t) (hifs : IfsOK T C k f ifs ms) (helt : SE T C k f elt m) :
  RestOK f M ads μ D (D :: Z) (fun ρ2 acc K1 => EVG T C ρ2 μ [.mk t mit ms] (fun ρ3 K3 => EV T C ρ3 μ m K3) acc K1)
   (fun Q E s => wpAny (model pw f.w) f.A (eval iter f.env) (fun x s5 => wpAny (model pw f.w) f.A (pyIter x) (fun it' s6 => codeAny (model pw f.w) (f.A.mark none) (.compStart (.ListComp elt gens scope pos) (depth + 1) it' (.ref D) f.env)
    (fun r s7 => match r with | .ok _ => Q s7 | .error _ => False) s6) E s5) E s) := fun ρ1 acc1 K1 s st ha e Q E q => by
 refine hit M ads ρ1 μ s ads.length _ st ok (evi_evs _ e) _ _ fun items ro1 e1 hro I own h' tk S kk st' hn src hS => ?_
 rw [List.take_of_length_le hro] at src
 have hA : f.A.mark none = f.A := rfl
 have hon := fresh_notM st hn
 refine clause_ok ok hD hDZ hZM hZa hIn hg ht hifs (fun own' hon' => rest_last (Z := Z) ok ⟨List.mem_append_right _ hD.M, hD.ads, hD.loc, hD.cell⟩ helt) (fun I P E s h => turn_last hg hg' h) (s := { s with heap := h', toks := tk }) st' (ha.grow kk hn) hon src hS (fun b o e => e) e1.1 e1.2 fun acc' h2 tk2 e2 st2 ha2 k2 => ?_
 exact q acc' h2 tk2 e2 st2 ha2 fun b o n x => k2 b o (fun hm => by
  rcases List.mem_append.mp hm with hm | hm
  ·rw [hn b hm] at x; cases x
  ·exact n hm) (kk b o x)
end
noncomputable def clOf (cells : List (Str × Addr)) : List (Str × NameKind) -> List (Str × Addr) -> List (Str × Addr)
 | [], acc => acc
 | (n, k) :: r, acc => if k == .free then (match cells.lookup n with | some a => clOf cells r ((n, a) :: acc) | none => clOf cells r acc) else clOf cells r acc
theorem closure_go {env : Env} : ∀ (names : List (Str × NameKind)) (acc : List (Str × Addr)), (∀ x ∈ names, x.2 = .free -> ∃ a, env.cells.lookup x.1 = some a) ->
  (forIn names acc fun (x : Str × NameKind) cs => (match x with | (name, kind) => if kind == .free then do let a <- cellOf env name; pure (ForInStep.yield ((name, a) :: cs)) else pure (ForInStep.yield cs) : Sem (ForInStep (List (Str × Addr))))) = pure (clOf env.cells names acc)
 | [], acc, _ => by rfl
 | (n, k) :: r, acc, h => by
  have hr : ∀ x ∈ r, x.2 = .free -> ∃ a, env.cells.lookup x.1 = some a := fun x hx => h x (List.mem_cons_of_mem _ hx)
  rw [List.forIn_cons]
  unfold clOf
  by_cases hk : k = .free
  ·subst hk
   obtain ⟨a, ha⟩ := h (n, .free) List.mem_cons_self rfl
   have hc : cellOf env n = pure a := by unfold cellOf; rw [ha]
   simp only [beq_self_eq_true, if_true, hc, ha]
   exact closure_go r _ hr
  ·have : (k == NameKind.free) = false := by simpa using hk
   simp only [this, Bool.false_eq_true, if_false]
   exact closure_go r _ hr
theorem closureFor_eq {scope : Scope} {env : Env} (h : ∀ x ∈ scope.names, x.2 = .free -> ∃ a, env.cells.lookup x.1 = some a) : closureFor scope env = pure (clOf env.cells scope.names []) := by
 have := closure_go scope.names [] h
 exact congrArg (fun t : Sem (List (Str × Addr)) => t >>= fun s => pure s) this
theorem lookup_none_of {α : Type} : ∀ {l : List (Str × α)} {x : Str}, x ∉ l.map (·.1) -> l.lookup x = none
 | [], _, _ => rfl
 | (n, v) :: r, x, h => by
  have hx : (x == n) = false := by
   cases hb : x == n with
   | false => rfl
   | true => exact absurd (by rw [beq_iff_eq.mp hb]; simp) h
  rw [List.lookup_cons, hx]
  exact lookup_none_of fun hm => h (by simp at hm ⊢; exact .inr hm)
theorem clOf_lookup (cells : List (Str × Addr)) : ∀ (names : List (Str × NameKind)) (acc : List (Str × Addr)) (x : Str), (names.map (·.1)).Nodup -> (∀ y ∈ names.map (·.1), acc.lookup y = none) ->
  (clOf cells names acc).lookup x = if names.lookup x = some .free then cells.lookup x else acc.lookup x
 | [], acc, x, _, _ => by simp [clOf]
 | (n, k) :: r, acc, x, hn, ha => by
  rw [List.map_cons, List.nodup_cons] at hn
  have har : ∀ y ∈ r.map (·.1), acc.lookup y = none := fun y hy => ha y (List.mem_cons_of_mem _ hy)
  have han : acc.lookup n = none := ha n List.mem_cons_self
  have hrn : r.lookup n = none := lookup_none_of hn.1
  unfold clOf
  cases hx : x == n with
  | true =>
   obtain rfl := beq_iff_eq.mp hx
   by_cases hk : k = .free
   ·subst hk
    simp only [beq_self_eq_true, if_true]
    split
    ·rename_i a h
     rw [clOf_lookup cells r _ x hn.2 (fun y hy => by
      have hyn : (y == x) = false := by
       cases hb : y == x with
       | false => rfl
       | true => rw [beq_iff_eq.mp hb] at hy; exact absurd hy hn.1
      rw [List.lookup_cons, hyn]; exact har y hy), hrn]
     simp [List.lookup_cons, h]
    ·rename_i h
     rw [clOf_lookup cells r _ x hn.2 har, hrn, h]
     simp [han]
   ·have hk' : (k == NameKind.free) = false := by simpa using hk
    rw [hk', if_neg (by simp), clOf_lookup cells r _ x hn.2 har, hrn, if_neg (by simp), if_neg (by simp [hk])]
  | false =>
   rw [List.lookup_cons, hx]
   by_cases hk : k = .free
   ·subst hk
    simp only [beq_self_eq_true, if_true]
    split
    ·rename_i a h
     rw [clOf_lookup cells r _ x hn.2 (fun y hy => by
      have hyn : (y == n) = false := by
       cases hb : y == n with
       | false => rfl
       | true => rw [beq_iff_eq.mp hb] at hy; exact absurd hy hn.1
      rw [List.lookup_cons, hyn]; exact har y hy), List.lookup_cons, hx]
    ·rw [clOf_lookup cells r _ x hn.2 har]
   ·have hk' : (k == NameKind.free) = false := by simpa using hk
    rw [hk', if_neg (by simp), clOf_lookup cells r _ x hn.2 har]
theorem cellsFrom_append : ∀ (names : List (Str × NameKind)) (n : Nat) (a b : List (Str × Addr)), cellsFrom n names (a ++ b) = cellsFrom n names a ++ b
 | [], _, _, _ => rfl
 | (x, k) :: r, n, a, b => by
  unfold cellsFrom
  split
  ·exact cellsFrom_append r _ ((x, n) :: a) b
  ·exact cellsFrom_append r _ a b
theorem cellsFrom_mem : ∀ (names : List (Str × NameKind)) (n : Nat) (acc : List (Str × Addr)) (x : Str) (c : Addr), (x, c) ∈ cellsFrom n names acc -> (x, c) ∈ acc ∨ (x, NameKind.cell) ∈ names
 | [], _, _, _, _, h => .inl h
 | (y, k) :: r, n, acc, x, c, h => by
  unfold cellsFrom at h
  split at h
  ·rename_i hk
   rcases cellsFrom_mem r _ _ x c h with h | h
   ·rcases List.mem_cons.mp h with h | h
    ·cases h; rw [beq_iff_eq.mp hk]; exact .inr List.mem_cons_self
    ·exact .inl h
   ·exact .inr (List.mem_cons_of_mem _ h)
  ·rcases cellsFrom_mem r _ _ x c h with h | h
   ·exact .inl h
   ·exact .inr (List.mem_cons_of_mem _ h)
theorem cellsFrom_some : ∀ (names : List (Str × NameKind)) (n : Nat) (acc : List (Str × Addr)) (x : Str), ((x, NameKind.cell) ∈ names ∨ x ∈ acc.map (·.1)) -> x ∈ (cellsFrom n names acc).map (·.1)
 | [], _, _, _, h => by rcases h with h | h; cases h; exact h
 | (y, k) :: r, n, acc, x, h => by
  unfold cellsFrom
  split
  ·rename_i hk
   refine cellsFrom_some r _ _ x ?_
   rcases h with h | h
   ·rcases List.mem_cons.mp h with h | h
    ·cases h; exact .inr (by simp)
    ·exact .inl h
   ·exact .inr (by simp at h ⊢; exact .inr h)
  ·rename_i hk
   refine cellsFrom_some r _ _ x ?_
   rcases h with h | h
   ·rcases List.mem_cons.mp h with h | h
    ·cases h; exact absurd rfl hk
    ·exact .inl h
   ·exact .inr h
theorem lookup_of_key {α : Type} : ∀ {l : List (Str × α)} {x : Str}, x ∈ l.map (·.1) -> ∃ v, l.lookup x = some v
 | (n, v) :: r, x, h => by
  rw [List.lookup_cons]
  cases hb : x == n with
  | true => exact ⟨v, rfl⟩
  | false =>
   refine lookup_of_key (l := r) ?_
   rcases List.mem_cons.mp h with h | h
   ·have h : x = n := h
    rw [h, beq_self_eq_true] at hb; cases hb
   ·exact h
theorem lookup_append {α : Type} : ∀ (l m : List (Str × α)) (x : Str), (l ++ m).lookup x = (l.lookup x).or (m.lookup x)
 | [], m, x => rfl
 | (n, v) :: r, m, x => by
  rw [List.cons_append, List.lookup_cons, List.lookup_cons]
  cases x == n with
  | true => rfl
  | false => exact lookup_append r m x
theorem lookup_of_mem_nodup {α : Type} : ∀ {l : List (Str × α)} {x : Str} {v : α}, (l.map (·.1)).Nodup -> (x, v) ∈ l -> l.lookup x = some v
 | (n, w) :: r, x, v, hn, h => by
  rw [List.map_cons, List.nodup_cons] at hn
  rw [List.lookup_cons]
  rcases List.mem_cons.mp h with h | h
  ·cases h; rw [beq_self_eq_true]
  ·have hx : (x == n) = false := by
    cases hb : x == n with
    | false => rfl
    | true => exact absurd (List.mem_map.mpr ⟨_, h, beq_iff_eq.mp hb⟩) hn.1
   rw [hx]; exact lookup_of_mem_nodup hn.2 h
noncomputable def ownCells (lo : Nat) (names : List (Str × NameKind)) : List Addr := (cellsFrom lo names []).map (·.2)
structure CompCells (h : Heap) (lo : Nat) (names : List (Str × NameKind)) (cells cells' : List (Str × Addr)) : Prop where
 own : ∀ x, names.lookup x = some .cell -> ∃ c, cells'.lookup x = some c /\ lo <= c /\ h.IsCell c none
 free : ∀ x, names.lookup x = some .free -> cells'.lookup x = cells.lookup x
 mem : ∀ x c, names.lookup x = some .cell -> cells'.lookup x = some c -> c ∈ ownCells lo names
 ok : ∀ c ∈ ownCells lo names, lo <= c /\ h.IsCell c none
 back : ∀ x c, cells'.lookup x = some c -> (names.lookup x = some .cell /\ lo <= c) ∨ (names.lookup x = some .free /\ cells.lookup x = some c)
 apart : ∀ x y c, names.lookup x = some .cell -> names.lookup y = some .cell -> cells'.lookup x = some c -> cells'.lookup y = some c -> x = y
theorem compCells {h : Heap} {names : List (Str × NameKind)} {cells : List (Str × Addr)} (hn : (names.map (·.1)).Nodup) : CompCells (pushCells h names) h.objs.size names cells (cellsFrom h.objs.size names (clOf cells names [])) := by
 have e : cellsFrom h.objs.size names (clOf cells names []) = cellsFrom h.objs.size names [] ++ clOf cells names [] := cellsFrom_append names _ [] _
 have ok := cellsFrom_ok names h h.objs.size [] ⟨fun _ _ hm => (nomatch hm), List.Pairwise.nil⟩ (Nat.le_refl _)
 have hcl := fun x => clOf_lookup cells names [] x hn fun _ _ => rfl
 have hown : ∀ x c, (cellsFrom h.objs.size names []).lookup x = some c -> names.lookup x = some .cell := fun x c hx => by
  rcases cellsFrom_mem names _ [] x c (mem_of_lookup hx) with h | h
  ·cases h
  ·exact lookup_of_mem_nodup hn h
 have hnot : ∀ x, names.lookup x ≠ some .cell -> (cellsFrom h.objs.size names []).lookup x = none := fun x hx => by
  cases hc : (cellsFrom h.objs.size names []).lookup x with
  | none => rfl
  | some c => exact absurd (hown x c hc) hx
 rw [e]
 refine ⟨fun x hx => ?_, fun x hx => ?_, fun x c hx hc => ?_, fun c hc => ?_, fun x c hx => ?_, fun x y c hx hy h1 h2 => ?_⟩
 ·obtain ⟨c, hc⟩ := lookup_of_key (cellsFrom_some names h.objs.size [] x (.inl (mem_of_lookup hx)))
  have := ok.empty x c (mem_of_lookup hc)
  exact ⟨c, by rw [lookup_append, hc]; rfl, this.2, this.1⟩
 ·rw [lookup_append, hnot x (by rw [hx]; simp), hcl, if_pos hx]; rfl
 ·obtain ⟨c', hc'⟩ := lookup_of_key (cellsFrom_some names h.objs.size [] x (.inl (mem_of_lookup hx)))
  rw [lookup_append, hc'] at hc
  cases hc
  exact List.mem_map.mpr ⟨_, mem_of_lookup hc', rfl⟩
 ·obtain ⟨y, hy, rfl⟩ := List.mem_map.mp hc
  have := ok.empty y.1 y.2 hy
  exact ⟨this.2, this.1⟩
 ·rw [lookup_append] at hx
  cases hc : (cellsFrom h.objs.size names []).lookup x with
  | some c' =>
   rw [hc] at hx
   cases hx
   exact .inl ⟨hown x c hc, (ok.empty x c (mem_of_lookup hc)).2⟩
  | none =>
   rw [hc, hcl] at hx
   split at hx
   ·exact .inr ⟨by assumption, hx⟩
   ·cases hx
 ·obtain ⟨cx, hcx⟩ := lookup_of_key (cellsFrom_some names h.objs.size [] x (.inl (mem_of_lookup hx)))
  obtain ⟨cy, hcy⟩ := lookup_of_key (cellsFrom_some names h.objs.size [] y (.inl (mem_of_lookup hy)))
  rw [lookup_append, hcx] at h1
  rw [lookup_append, hcy] at h2
  cases h1; cases h2
  exact name_of_addr ok.apart (mem_of_lookup hcx) (mem_of_lookup hcy)
structure CompFx (f f' : Fx) (scope : Scope) (cx' : List (Str × Nat)) (nl : Nat) : Prop where
 w : f'.w = f.w
 A : f'.A = f.A
 hO : f'.hO = f.hO
 scope : f'.env.scope = relabel scope f.env
 cx : f'.cx = cx'
 n : f'.n = f.n + nl
inductive TgtSh (names : List (Str × NameKind)) (cx : List (Str × Nat)) : Expr -> MT -> Prop
 | name (x p i) : cx.lookup x = some i -> (names.lookup x = some .local ∨ names.lookup x = some .cell) -> TgtSh names cx (.Name x p) (.name i)
 | tup (xs : List (Str × Pos)) (is : List Nat) (k p) : xs.length = is.length -> (∀ (j : Nat) (x : Str × Pos) (i : Nat), xs[j]? = some x -> is[j]? = some i -> cx.lookup x.1 = some i /\ (names.lookup x.1 = some .local ∨ names.lookup x.1 = some .cell)) ->
   TgtSh names cx (.Tuple (xs.map fun (x : Str × Pos) => Expr.Name x.1 x.2) k p) (.tup is)
theorem TgtSh.shape {names : List (Str × NameKind)} {cx : List (Str × Nat)} {e : Expr} {t : MT} (h : TgtSh names cx e t) : TgtShape e := by
 cases h with
 | name x p i => exact .inl ⟨x, p, rfl⟩
 | tup xs is k p => exact .inr ⟨_, k, p, rfl⟩
theorem lookup_map (g : Str -> NameKind -> NameKind) : ∀ (l : List (Str × NameKind)) (x : Str), (l.map fun p => (p.1, g p.1 p.2)).lookup x = (l.lookup x).map (g x)
 | [], _ => rfl
 | (n, k) :: r, x => by
  rw [List.map_cons, List.lookup_cons, List.lookup_cons]
  cases hx : x == n with
  | true => rw [beq_iff_eq.mp hx]; rfl
  | false => exact lookup_map g r x
noncomputable def relK (env : Env) (n : Str) (k : NameKind) : NameKind := if (k == .free && env.scope.kind == .function && env.kindOf n == some .cell) then .cell else k
theorem relabel_lookup {scope : Scope} {env : Env} (x : Str) : (relabel scope env).names.lookup x = (scope.names.lookup x).map (relK env x) := by
 rw [<- lookup_map]
 unfold relabel relK
 congr 1
 refine List.map_congr_left fun p _ => ?_
 obtain ⟨n, k⟩ := p
 dsimp only
 split <;> rfl
theorem newEnv_comp {M : Model} {A : Around} {E : Value -> Shared -> Prop} {s : Shared} {scope : Scope} {globals : Addr} {cl : List (Str × Addr)} {qual : Str} {env : Env} {Q : Env -> Shared -> Prop}
  (h : Q (newEnv scope s.heap.objs.size globals (cellsFrom (s.heap.objs.size + 1) scope.names cl) qual none .none (some env) builtinsNs) { s with heap := pushCells (s.heap.push { cls := .type "dict", data := .dict #[] }) scope.names }) :
  wpAny M A (newFunctionEnv scope globals cl [] qual none .none (some env)) Q E s := by
 simp only [newFunctionEnv, Option.isSome_some, if_true]
 refine wpAny_bind (wpAny_alloc ?_)
 refine wpAny_bind (wpAny_layCells _ (fun name kind cells => by cases hkc : kind == NameKind.cell <;> simp) _ _ _ _ ?_)
 rw [show ({ s with heap := s.heap.push { cls := .type "dict", data := .dict #[] } } : Shared).heap.objs.size = s.heap.objs.size + 1 from Heap.size_push ..]
 refine wpAny_bind ?_
 exact wpAny_pure (wpAny_pure h)
section
variable {T : Tabs} {C : CT} {k : Nat} {f : Fx}
noncomputable def compFx (f : Fx) (scope : Scope) (L : Addr) (cells' : List (Str × Addr)) (cx' : List (Str × Nat)) (nl : Nat) : Fx :=
 { w := f.w, A := f.A, env := { newEnv scope L f.env.globals cells' f.env.qual none .none (some f.env) builtinsNs with scope := relabel scope f.env }, hO := f.hO, cx := cx', n := f.n + nl }
theorem compFx_ok {scope : Scope} {L : Addr} {cells' : List (Str × Addr)} {cx' : List (Str × Nat)} {nl : Nat} : CompFx f (compFx f scope L cells' cx' nl) scope cx' nl := ⟨rfl, rfl, rfl, rfl, rfl, rfl⟩
structure CompSt (f : Fx) (scope : Scope) (cx' : List (Str × Nat)) (nl : Nat) : Prop where
 nod : (scope.names.map (·.1)).Nodup
 kind : scope.kind = .function
 free : ∀ x, scope.names.lookup x = some .free -> envCell f.env x
 cx : ∀ x i, cx'.lookup x = some i -> ((scope.names.lookup x = some .local ∨ scope.names.lookup x = some .cell) /\ f.n <= i /\ i < f.n + nl) ∨ (scope.names.lookup x ≠ some .local /\ scope.names.lookup x ≠ some .cell /\ f.cx.lookup x = some i)
 inj : ∀ x y i, f.n <= i -> cx'.lookup x = some i -> cx'.lookup y = some i -> x = y
theorem relK_inv {env : Env} {x : Str} {o : Option NameKind} {k : NameKind} (h : o.map (relK env x) = some k) : o = some k ∨ (o = some .free /\ k = .cell) := by
 cases o with
 | none => cases h
 | some k0 =>
  simp only [Option.map_some, Option.some.injEq] at h
  unfold relK at h
  split at h
  ·rename_i hc
   simp only [Bool.and_eq_true, beq_iff_eq] at hc
   exact .inr ⟨by rw [hc.1.1], h.symm⟩
  ·exact .inl (by rw [h])
theorem rho_old {ρ : Env'} {n nl i : Nat} (hl : ρ.length = n) (h : i < n) : (ρ ++ List.replicate nl none)[i]? = ρ[i]? := by rw [List.getElem?_append_left (by lia)]
theorem rho_new {ρ : Env'} {n nl i : Nat} {d : PV} (hl : ρ.length = n) (h : n <= i) : (ρ ++ List.replicate nl none)[i]? ≠ some (some d) := by
 rw [List.getElem?_append_right (by lia), List.getElem?_replicate]
 split <;> simp
theorem comp_enter {M ads : List Addr} {ρ : Env'} {μ : List MV} {h : Heap} {scope : Scope} {cx' : List (Str × Nat)} {nl : Nat} {L lo : Nat} {cells' : List (Str × Addr)} (st : St f M ads ρ μ h) (X : CompSt f scope cx' nl)
  (hL : h.Ns L fun _ => none) (hLM : L ∈ M) (hLA : L ∉ ads) (hlo : L < lo) (Y : CompCells h lo scope.names f.env.cells cells') (hown : ∀ c ∈ ownCells lo scope.names, c ∈ M /\ c ∉ ads) (hold : ∀ x (c : Nat), envCell f.env x -> f.env.cells.lookup x = some c -> c < L) :
  St (compFx f scope L cells' cx' nl) M ads (ρ ++ List.replicate nl none) μ h where
 mu := st.mu
 kind := X.kind
 glob := st.glob
 blt := st.blt
 locM := hLM
 locA := hLA
 ns := by
  refine ⟨_, hL, fun x i d h1 h2 h3 => ?_⟩
  have h2 : (relabel scope f.env).names.lookup x = some .local := h2
  rw [relabel_lookup] at h2
  have h4 : scope.names.lookup x = some .local := by
   rcases relK_inv h2 with h | ⟨_, h⟩
   ·exact h
   ·cases h
  rcases X.cx x i h1 with ⟨_, h5, _⟩ | ⟨h5, _⟩
  ·exact absurd h3 (rho_new st.len h5)
  ·exact absurd h4 h5
 cells := fun x hx => by
  have hk : scope.names.lookup x = some .cell ∨ scope.names.lookup x = some .free := by
   have hx : (relabel scope f.env).names.lookup x = some .cell ∨ (relabel scope f.env).names.lookup x = some .free := hx
   rw [relabel_lookup] at hx
   rcases hx with hx | hx
   ·rcases relK_inv hx with h | ⟨h, _⟩
    ·exact .inl h
    ·exact .inr h
   ·rcases relK_inv hx with h | ⟨h, _⟩
    ·exact .inr h
    ·exact .inr h
  rcases hk with hk | hk
  ·obtain ⟨c, h1, h2, h3⟩ := Y.own x hk
   have h4 := hown c (Y.mem x c hk h1)
   refine ⟨c, none, h1, h3, h4.1, h4.2, fun e => ?_, fun i d e1 e2 => ?_⟩
   ·have e : c = L := e
    exact absurd hlo (Nat.not_lt.mpr (e ▸ h2))
   ·rcases X.cx x i e1 with ⟨_, h5, _⟩ | ⟨_, h5, _⟩
    ·exact absurd e2 (rho_new st.len h5)
    ·exact absurd hk h5
  ·have hc := X.free x hk
   obtain ⟨c, ov, e1, e2, e3, e4, e5, e6⟩ := st.cells x hc
   refine ⟨c, ov, by show cells'.lookup x = some c; rw [Y.free x hk]; exact e1, e2, e3, e4, fun e => ?_, fun i d g1 g2 => ?_⟩
   ·have := hold x c hc e1
    exact absurd this (by rw [e]; exact Nat.lt_irrefl _)
   ·rcases X.cx x i g1 with ⟨h5, _⟩ | ⟨_, _, h5⟩
    ·rcases h5 with h5 | h5 <;> rw [hk] at h5 <;> cases h5
    ·rw [rho_old st.len (st.bnd x i h5)] at g2
     exact e6 i d h5 g2
 apart := fun x y c hx hy => by
  have hx : cells'.lookup x = some c := hx
  have hy : cells'.lookup y = some c := hy
  rcases Y.back x c hx with ⟨a1, a2⟩ | ⟨a1, a2⟩ <;> rcases Y.back y c hy with ⟨b1, b2⟩ | ⟨b1, b2⟩
  ·exact Y.apart x y c a1 b1 hx hy
  ·exact absurd (Nat.lt_trans (hold y c (X.free y b1) b2) hlo) (Nat.not_lt.mpr a2)
  ·exact absurd (Nat.lt_trans (hold x c (X.free x a1) a2) hlo) (Nat.not_lt.mpr b2)
  ·exact st.apart x y c a2 b2
 inj := fun x y i hx hy => by
  by_cases hi : f.n <= i
  ·exact X.inj x y i hi hx hy
  ·rcases X.cx x i hx with ⟨_, h, _⟩ | ⟨_, _, h⟩
   ·exact absurd h hi
   ·rcases X.cx y i hy with ⟨_, h', _⟩ | ⟨_, _, h'⟩
    ·exact absurd h' hi
    ·exact st.inj x y i h h'
 len := by simp [st.len, compFx]
 bnd := fun x i hx => by
  have hx : cx'.lookup x = some i := hx
  show i < f.n + nl
  rcases X.cx x i hx with ⟨_, _, h⟩ | ⟨_, _, h⟩
  ·exact h
  ·have := st.bnd x i h; lia
end
section
variable {T : Tabs} {C : CT} {k : Nat} {f : Fx}
inductive RestTr (T : Tabs) (C : CT) (k : Nat) (f' : Fx) (names : List (Str × NameKind)) (cx' : List (Str × Nat)) (elt : Expr) (m : ME) : List Comprehension -> List MG -> Prop
 | nil : SE T C k f' elt m -> RestTr T C k f' names cx' elt m [] []
 | one (tgt iter ifs t mit ms) : SI T C k f' iter mit tgt -> (∀ x, foldedSetIterable iter f'.env x = pure x) -> TgtSh names cx' tgt t -> IfsOK T C k f' ifs ms -> SE T C k f' elt m ->
   RestTr T C k f' names cx' elt m [⟨tgt, iter, ifs, 0⟩] [.mk t mit ms]
theorem tgt_ok {scope : Scope} {cx' : List (Str × Nat)} {nl : Nat} {L lo : Nat} {cells' : List (Str × Addr)} {h : Heap} (Y : CompCells h lo scope.names f.env.cells cells') {tgt : Expr} {t : MT} (ht : TgtSh scope.names cx' tgt t) : TgtOK (compFx f scope L cells' cx' nl) (L :: ownCells lo scope.names) tgt t := by
 have var : ∀ x i, cx'.lookup x = some i -> (scope.names.lookup x = some .local ∨ scope.names.lookup x = some .cell) -> VarOK (compFx f scope L cells' cx' nl) (L :: ownCells lo scope.names) x i := fun x i h1 h2 => by
  refine ⟨h1, ?_⟩
  have hk : ∀ k, scope.names.lookup x = some k -> (compFx f scope L cells' cx' nl).env.kindOf x = some (relK f.env x k) := fun k h => by
   show (relabel scope f.env).names.lookup x = _
   rw [relabel_lookup, h]; rfl
  rcases h2 with h2 | h2
  ·exact .inl ⟨hk _ h2, List.mem_cons_self⟩
  ·obtain ⟨c, h3, _⟩ := Y.own x h2
   exact .inr ⟨hk _ h2, c, h3, List.mem_cons_of_mem _ (Y.mem x c h2 h3)⟩
 cases ht with
 | name x p i h1 h2 => exact .name x p i (var x i h1 h2)
 | tup xs is k p hl hx => exact .tup xs is k p hl fun j x i e1 e2 => var x.1 i (hx j x i e1 e2).1 (hx j x i e1 e2).2
theorem St.move {M M₂ ads : List Addr} {ρ : Env'} {μ : List MV} {h h' : Heap} (st : St f M ads ρ μ h) (hIn : InM f M₂ ads) (hv : ∀ b o, vis h M b = some o -> vis h' M₂ b = some o) (hk : ∀ b ∈ M, b ∈ M₂ -> ∀ o, h.get? b = some o -> h'.get? b = some o) (hl : ∀ a ∈ M₂, ∃ o, h'.get? a = some o)
  (hf : ∀ a ∈ M₂, f.hO.get? a = none) (hs : ∀ x c, envCell f.env x -> f.env.cells.lookup x = some c -> c ∈ M) : St f M₂ ads ρ μ h' where
 mu := {
  base := fun b o e => by
   by_cases hb : b ∈ M
   ·have := st.mu.fresh b hb; rw [e] at this; cases this
   ·exact (vis_get (hv b o (vis_of (st.mu.base b o e) hb))).1
  fresh := hf
  live := hl
  adsM := hIn.ads
  nod := st.mu.nod
  len := st.mu.len
  mus := fun i a m e1 e2 => by
   have ha := List.mem_of_getElem? e1
   cases st.mu.mus i a m e1 e2 with
   | list vs ds e r => exact .list vs ds (e.at fun o e => hk a (st.mu.adsM a ha) (hIn.ads a ha) o e) (r.keep hv) }
 kind := st.kind
 glob := st.glob
 blt := st.blt
 locM := hIn.loc
 locA := st.locA
 ns := by
  obtain ⟨m, hn', hv'⟩ := st.ns
  refine ⟨m, Ns.at hn' fun o e => hk _ st.locM hIn.loc o e, fun y i d e1 e2 e3 => ?_⟩
  obtain ⟨v, a, b⟩ := hv' y i d e1 e2 e3
  exact ⟨v, a, b.keep hv⟩
 cells := fun y hy => by
  obtain ⟨c, ov, e1, e2, e3, e4, e5, e6⟩ := st.cells y hy
  have hc := hIn.cell y c hy e1
  refine ⟨c, ov, e1, IsCell.at e2 fun o e => hk c e3 hc o e, hc, e4, e5, fun i d a b => ?_⟩
  obtain ⟨v, q1, q2⟩ := e6 i d a b
  exact ⟨v, q1, q2.keep hv⟩
 apart := st.apart
 inj := st.inj
 len := st.len
 bnd := st.bnd
theorem comp_core {scope : Scope} {cx' : List (Str × Nat)} {nl : Nat} {elt iter tgt : Expr} {ifs : List Expr} {rest : List Comprehension} {pos : Pos} {t : MT} {ms : List ME} {m : ME} {mg : List MG} (X : CompSt f scope cx' nl)
  (htg : TgtSh scope.names cx' tgt t) (hsub : ∀ f', CompFx f f' scope cx' nl -> IfsOK T C k f' ifs ms /\ RestTr T C k f' scope.names cx' elt m rest mg) (ok : AOk k f.A)
  {M ads own : List Addr} {ρ : Env'} {μ : List MV} {h1 : Heap} {tk1 : Nat} {s : Shared} {I : Addr} {S : List PV -> Heap -> Prop} {items : List PV} {K : PV -> Prop} (st1 : St f (own ++ M) ads ρ μ h1) (hIn : InM f M ads) (hoM : ∀ a ∈ own, a ∉ M)
  (src : Src f.w f.A (vis h1 (own ++ M)) ads I own ads tgt S) (hS : S items h1)
  (e1 : freeT t (ρ ++ List.replicate nl none) /\ compLoop (fun ρ1 acc1 K1 => EVIfs T C ρ1 μ ms fun b => match b with
    | true => EVG T C ρ1 μ mg (fun ρ2 K2 => EV T C ρ2 μ m K2) acc1 K1
    | false => K1 acc1) t (ρ ++ List.replicate nl none) items [] fun out => K (.list out))
  {RR : Value -> Addr -> Result -> Shared -> Prop} {E : Value -> Shared -> Prop}
  (q : ∀ D L out h' tk, K (.list out) -> L ∉ M -> (∃ mL, h'.Ns L mL) -> St f (L :: M) ads ρ μ h' -> Rep (vis h' (L :: M)) ads (.ref D) (.list out) -> KeepBut own h1 h' -> h1.get? L = none -> RR (.ref D) L (.ok .next) { s with heap := h', toks := tk }) :
  wpAny (model pw f.w) f.A (newList []) (fun acc s₃ => wpAny (model pw f.w) f.A (newFunctionEnv scope f.env.globals (clOf f.env.cells scope.names []) [] f.env.qual none .none (some f.env)) (fun cenv s₄ =>
   codeAny (model pw f.w) f.A (.compStart (.ListComp elt (⟨tgt, iter, ifs, 0⟩ :: rest) scope pos) 0 (.ref I) acc { cenv with scope := relabel scope f.env }) (RR acc cenv.locals) s₄) E s₃) E { s with heap := h1, toks := tk1 } := by
 refine wpAny_newObj_type (newEnv_comp ?_) (by show ([] : List Value).toArray.size <= sizeLine; simp)
 generalize hh2 : h1.push { cls := .type "list", dict := none, data := .seq ([] : List Value).toArray } = h2
 have hs2 : h2.objs.size = h1.objs.size + 1 := by rw [<- hh2, Heap.size_push]
 have k12 : Keep h1 h2 := by rw [<- hh2]; exact keep_push
 generalize hh3 : h2.push { cls := .type "dict", data := .dict #[] } = h3
 have hs3 : h3.objs.size = h2.objs.size + 1 := by rw [<- hh3, Heap.size_push]
 have k23 : Keep h2 h3 := by rw [<- hh3]; exact keep_push
 have k34 : Keep h3 (pushCells h3 scope.names) := pushCells_keeps _ _
 have hDl : h2.PlainList h1.objs.size #[] := by rw [<- hh2]; exact ⟨0, Heap.get?_push_size _ rfl⟩
 have hCn : h3.Ns h2.objs.size fun _ => none := by rw [<- hh3]; exact Heap.Ns.new h2 (.type "dict")
 have Y := compCells (h := h3) (cells := f.env.cells) X.nod
 rw [hs3] at Y
 generalize hcells : cellsFrom (h2.objs.size + 1) scope.names (clOf f.env.cells scope.names []) = cells' at Y
 have k24 := k23.trans k34
 have k14 := k12.trans k24
 generalize hh4 : pushCells h3 scope.names = h4 at Y k34 k24 k14
 show codeAny (model pw f.w) f.A (.compStart (.ListComp elt (⟨tgt, iter, ifs, 0⟩ :: rest) scope pos) 0 (.ref I) (.ref h1.objs.size) (compFx f scope h2.objs.size cells' cx' nl).env) (RR (.ref h1.objs.size) h2.objs.size) { s with heap := h4, toks := tk1 }
 have hD4 : h4.PlainList h1.objs.size #[] := hDl.at fun o e => k24 _ _ e
 have hC4 : h4.Ns h2.objs.size fun _ => none := Ns.at hCn fun o e => k34 _ _ e
 generalize hDd : h1.objs.size = D at *
 generalize hLl : h2.objs.size = L at *
 have hDL : D < L := by rw [hs2]; exact Nat.lt_succ_self _
 have hnew : ∀ a ∈ D :: L :: ownCells (L + 1) scope.names, D <= a := fun a ha => by
  rcases List.mem_cons.mp ha with rfl | ha
  ·exact Nat.le_refl _
  ·rcases List.mem_cons.mp ha with rfl | ha
   ·exact Nat.le_of_lt hDL
   ·exact Nat.le_trans (Nat.le_of_lt (Nat.lt_succ_of_lt hDL)) (Y.ok a ha).1
 have hnew1 : ∀ a ∈ D :: L :: ownCells (L + 1) scope.names, h1.get? a = none := fun a ha => new_none (by rw [hDd]; exact hnew a ha)
 have hlive : ∀ a ∈ D :: L :: ownCells (L + 1) scope.names, ∃ o, h4.get? a = some o := fun a ha => by
  rcases List.mem_cons.mp ha with rfl | ha
  ·obtain ⟨n, e⟩ := hD4; exact ⟨_, e⟩
  ·rcases List.mem_cons.mp ha with rfl | ha
   ·obtain ⟨o, es, ep, e, _⟩ := hC4; exact ⟨o, e⟩
   ·obtain ⟨o, e, _⟩ := (Y.ok a ha).2; exact ⟨o, e⟩
 have hold : ∀ a o, h1.get? a = some o -> a ∉ D :: L :: ownCells (L + 1) scope.names := fun a o e hm => by rw [hnew1 a hm] at e; cases e
 have hMold : ∀ a ∈ M, a ∉ D :: L :: ownCells (L + 1) scope.names := fun a ha => by
  obtain ⟨o, e⟩ := st1.mu.live a (List.mem_append_right _ ha); exact hold a o e
 have hoold : ∀ a ∈ own, a ∉ D :: L :: ownCells (L + 1) scope.names := fun a ha => by
  obtain ⟨o, e⟩ := st1.mu.live a (List.mem_append_left _ ha); exact hold a o e
 have hM' : ∀ a, a ∈ own ++ (D :: L :: ownCells (L + 1) scope.names ++ M) -> a ∈ (D :: L :: ownCells (L + 1) scope.names) ++ (own ++ M) := fun a ha => by
  simp only [List.mem_append] at ha ⊢
  rcases ha with h | h | h
  ·exact .inr (.inl h)
  ·exact .inl h
  ·exact .inr (.inr h)
 have up : ∀ a ∈ M, a ∈ own ++ (D :: L :: ownCells (L + 1) scope.names ++ M) := fun a ha => List.mem_append_right _ (List.mem_append_right _ ha)
 have st4 : St f (own ++ (D :: L :: ownCells (L + 1) scope.names ++ M)) ads ρ μ h4 := (st1.grow k14 hnew1 hlive).shrink ⟨up _ hIn.loc, fun a ha => up _ (hIn.ads a ha), fun x c hx hc => up _ (hIn.cell x c hx hc)⟩ hM'
 have hadsn : ∀ a ∈ D :: L :: ownCells (L + 1) scope.names, a ∉ ads := fun a ha hm => hMold a (hIn.ads a hm) ha
 have hcold : ∀ x (c : Nat), envCell f.env x -> f.env.cells.lookup x = some c -> c < D := fun x c hx hc => by
  obtain ⟨c', ov, e1, ⟨o, e2, _⟩, _⟩ := st1.cells x hx
  rw [hc] at e1; cases e1
  rw [<- hDd]; exact Heap.lt_size e2
 have st5 := comp_enter (cx' := cx') (nl := nl) st4 X hC4 (List.mem_append_right _ (by simp)) (hadsn L (by simp)) (Nat.lt_succ_self L) Y (fun c hc => ⟨List.mem_append_right _ (by simp [hc]), hadsn c (by simp [hc])⟩) (fun x c hx hc => Nat.lt_trans (hcold x c hx hc) hDL)
 have hkc : ∀ x c, envCell (compFx f scope L cells' cx' nl).env x -> cells'.lookup x = some c -> c ∈ ownCells (L + 1) scope.names ∨ (envCell f.env x /\ f.env.cells.lookup x = some c) := fun x c hx hc => by
  rcases Y.back x c hc with ⟨a1, a2⟩ | ⟨a1, a2⟩
  ·exact .inl (Y.mem x c a1 hc)
  ·exact .inr ⟨X.free x a1, a2⟩
 have hAcc : ∀ Mx, D ∈ Mx -> AccOK (compFx f scope L cells' cx' nl) Mx ads D := fun Mx hm => ⟨hm, hadsn D (by simp), Nat.ne_of_lt hDL, fun x c hx hc e => by
  rcases hkc x c hx hc with h | ⟨h, h'⟩
  ·have := (Y.ok c h).1
   rw [<- e] at this
   exact absurd (Nat.lt_of_lt_of_le (Nat.lt_succ_of_lt hDL) this) (Nat.lt_irrefl _)
  ·have := hcold x c h h'
   rw [<- e] at this
   exact absurd this (Nat.lt_irrefl _)⟩
 have hDZ : D ∉ L :: ownCells (L + 1) scope.names := fun hm => by
  rcases List.mem_cons.mp hm with h | h
  ·exact absurd hDL (by rw [h]; exact Nat.lt_irrefl _)
  ·exact absurd (Nat.lt_of_lt_of_le (Nat.lt_succ_of_lt hDL) (Y.ok D h).1) (Nat.lt_irrefl _)
 have hInC : InM (compFx f scope L cells' cx' nl) (D :: L :: ownCells (L + 1) scope.names ++ M) ads := ⟨List.mem_append_left _ (by show L ∈ _; simp), fun a ha => List.mem_append_right _ (hIn.ads a ha), fun x c hx hc => by
  rcases hkc x c hx hc with h | ⟨h, h'⟩
  ·exact List.mem_append_left _ (by simp [h])
  ·exact List.mem_append_right _ (hIn.cell x c h h')⟩
 obtain ⟨hifs, hrt⟩ := hsub _ (compFx_ok (f := f) (scope := scope) (L := L) (cells' := cells') (cx' := cx') (nl := nl))
 have hZM : ∀ a ∈ L :: ownCells (L + 1) scope.names, a ∈ D :: L :: ownCells (L + 1) scope.names ++ M := fun a ha => List.mem_append_left _ (List.mem_cons_of_mem _ ha)
 have hZa : ∀ a ∈ L :: ownCells (L + 1) scope.names, a ∉ ads := fun a ha => hadsn a (List.mem_cons_of_mem _ ha)
 have hon' : ∀ a ∈ own, a ∉ D :: L :: ownCells (L + 1) scope.names ++ M := fun a ha hm => by
  rcases List.mem_append.mp hm with hm | hm
  ·exact hoold a ha hm
  ·exact hoM a ha hm
 have hg₀ : ∀ b o, vis h1 (own ++ M) b = some o -> vis h4 (own ++ (D :: L :: ownCells (L + 1) scope.names ++ M)) b = some o := fun b o e => by
  obtain ⟨e1, e2⟩ := vis_get e
  refine vis_of (k14 b o e1) fun hm => ?_
  rcases List.mem_append.mp hm with hm | hm
  ·exact e2 (List.mem_append_left _ hm)
  ·rcases List.mem_append.mp hm with hm | hm
   ·exact hold b o e1 hm
   ·exact e2 (List.mem_append_right _ hm)
 have hS4 : S items h4 := src.frame items h1 h4 hS (fun b _ o e => k14 b o e) (fun b _ o e => k14 b o e) fun b o e => k14 b o (vis_get e).1
 have ha4 : AccAt h4 (own ++ (D :: L :: ownCells (L + 1) scope.names ++ M)) ads D [] := ⟨#[], hD4, .nil⟩
 have fin : ∀ acc' h' tk, K (.list acc') -> St (compFx f scope L cells' cx' nl) (D :: L :: ownCells (L + 1) scope.names ++ M) ads (ρ ++ List.replicate nl none) μ h' -> AccAt h' (D :: L :: ownCells (L + 1) scope.names ++ M) ads D acc' ->
   KeepBut (own ++ D :: L :: ownCells (L + 1) scope.names) h4 h' -> RR (.ref D) L (.ok .next) { s with heap := h', toks := tk } := fun acc' h' tk hk st' ha' kk => by
  obtain ⟨mL, hm, _⟩ := st'.ns
  obtain ⟨vs, hv1, hv2⟩ := ha'
  have hDne : D ≠ L := Nat.ne_of_lt hDL
  have hLM : L ∉ M := fun hm => hMold L hm (by simp)
  have kk1 : KeepBut own h1 h' := fun b o hbo e1 => kk b o (fun hm => by
   rcases List.mem_append.mp hm with hm | hm
   ·exact hbo hm
   ·exact hold b o e1 hm) (k14 b o e1)
  refine q D L acc' h' tk hk hLM ⟨mL, hm⟩ (st1.move ⟨List.mem_cons_of_mem _ hIn.loc, fun a ha => List.mem_cons_of_mem _ (hIn.ads a ha), fun x c hx hc => List.mem_cons_of_mem _ (hIn.cell x c hx hc)⟩ (fun b o e => ?_) (fun b hb hb2 o e => ?_) (fun a ha => ?_) (fun a ha => ?_) fun x c hx hc => List.mem_append_right _ (hIn.cell x c hx hc))
   (.list D vs acc' ⟨_, vis_of hv1.choose_spec (fun hm => ?_), rfl, _, rfl⟩ (hv2.keep fun b o e => ?_)) kk1 (hnew1 L (by simp))
  ·obtain ⟨g1, g2⟩ := vis_get e
   exact vis_of (kk1 b o (fun hm => g2 (List.mem_append_left _ hm)) g1) fun hm => by
    rcases List.mem_cons.mp hm with hm | hm
    ·exact hold b o g1 (by rw [hm]; simp)
    ·exact g2 (List.mem_append_right _ hm)
  ·rcases List.mem_cons.mp hb2 with hm | hm
   ·exact absurd (by rw [hm]; simp) (hold b o e)
   ·exact kk1 b o (fun h => hoM b h hm) e
  ·exact st'.mu.live a (List.mem_append.mpr (by
    rcases List.mem_cons.mp ha with hm | hm
    ·exact .inl (by rw [hm]; simp)
    ·exact .inr hm))
  ·exact st'.mu.fresh a (List.mem_append.mpr (by
    rcases List.mem_cons.mp ha with hm | hm
    ·exact .inl (by rw [hm]; simp)
    ·exact .inr hm))
  ·rcases List.mem_cons.mp hm with hm | hm
   ·exact hDne hm
   ·exact hMold D hm (by simp)
  ·obtain ⟨g1, g2⟩ := vis_get e
   exact vis_of g1 fun hm => g2 (List.mem_append.mpr (by
    rcases List.mem_cons.mp hm with hm | hm
    ·exact .inl (by rw [hm]; simp)
    ·exact .inr hm))
 have hDin : D ∈ D :: L :: ownCells (L + 1) scope.names ++ M := List.mem_append_left _ List.mem_cons_self
 have hA0 := hAcc _ hDin
 cases hrt with
 | nil helt =>
  exact clause_ok (f := compFx f scope L cells' cx' nl) (depth := 0) (elt := elt) (gens := [⟨tgt, iter, ifs, 0⟩]) (scope := scope) (pos := pos) ok hA0 hDZ hZM hZa hInC rfl (tgt_ok Y htg) hifs
   (fun own' hon'' => rest_last (f := compFx f scope L cells' cx' nl) (Z := L :: ownCells (L + 1) scope.names) ok (hAcc _ (List.mem_append_right _ hDin)) helt)
   (fun I P E s h => turn_last (env := (compFx f scope L cells' cx' nl).env) rfl rfl h) (s := { s with heap := h4, toks := tk1 }) st5 ha4 hon' src hS4 hg₀ e1.1 e1.2 fun acc' h' tk hk st' ha' kk => fin acc' h' tk hk st' ha' kk
 | one tgt2 iter2 ifs2 t2 mit2 ms2 hsi hs2' htg2 hifs2 helt =>
  exact clause_ok (f := compFx f scope L cells' cx' nl) (depth := 0) (elt := elt) (gens := [⟨tgt, iter, ifs, 0⟩, ⟨tgt2, iter2, ifs2, 0⟩]) (scope := scope) (pos := pos) ok hA0 hDZ hZM hZa hInC rfl (tgt_ok Y htg) hifs
   (fun own' hon'' => rest_more (f := compFx f scope L cells' cx' nl) (Z := L :: ownCells (L + 1) scope.names) (depth := 0) ok (hAcc _ (List.mem_append_right _ hDin)) hDZ (fun a ha => List.mem_append_right _ (hZM a ha)) hZa
    ⟨List.mem_append_right _ hInC.loc, fun a ha => List.mem_append_right _ (hInC.ads a ha), fun x c hx hc => List.mem_append_right _ (hInC.cell x c hx hc)⟩ rfl rfl hsi (tgt_ok Y htg2) hifs2 helt)
   (fun I P E s h => turn_more (env := (compFx f scope L cells' cx' nl).env) rfl rfl hs2' h) (s := { s with heap := h4, toks := tk1 }) st5 ha4 hon' src hS4 hg₀ e1.1 e1.2 fun acc' h' tk hk st' ha' kk => fin acc' h' tk hk st' ha' kk
theorem comp_tail {scope : Scope} {cx' : List (Str × Nat)} {nl : Nat} {elt iter tgt : Expr} {ifs : List Expr} {rest : List Comprehension} {pos : Pos} {t : MT} {ms : List ME} {m : ME} {mg : List MG} (X : CompSt f scope cx' nl)
  (htg : TgtSh scope.names cx' tgt t) (hsub : ∀ f', CompFx f f' scope cx' nl -> IfsOK T C k f' ifs ms /\ RestTr T C k f' scope.names cx' elt m rest mg) (ok : AOk k f.A)
  {M ads own : List Addr} {ρ : Env'} {μ : List MV} {h1 : Heap} {tk1 : Nat} {s : Shared} {I : Addr} {S : List PV -> Heap -> Prop} {items : List PV} {K : PV -> Prop} (st1 : St f (own ++ M) ads ρ μ h1) (hIn : InM f M ads) (hoM : ∀ a ∈ own, a ∉ M)
  (src : Src f.w f.A (vis h1 (own ++ M)) ads I own ads tgt S) (hS : S items h1)
  (e1 : freeT t (ρ ++ List.replicate nl none) /\ compLoop (fun ρ1 acc1 K1 => EVIfs T C ρ1 μ ms fun b => match b with
    | true => EVG T C ρ1 μ mg (fun ρ2 K2 => EV T C ρ2 μ m K2) acc1 K1
    | false => K1 acc1) t (ρ ++ List.replicate nl none) items [] fun out => K (.list out))
  {Q : Value -> Shared -> Prop} {E : Value -> Shared -> Prop} (q : ∀ v out h' tk, K (.list out) -> KeepBut own h1 h' -> St f M ads ρ μ h' -> Rep (vis h' M) ads v (.list out) -> Q v { s with heap := h', toks := tk }) :
  wpAny (model pw f.w) f.A (newList []) (fun acc s₃ => wpAny (model pw f.w) f.A (newFunctionEnv scope f.env.globals (clOf f.env.cells scope.names []) [] f.env.qual none .none (some f.env)) (fun cenv s₄ =>
   codeAny (model pw f.w) f.A (.compStart (.ListComp elt (⟨tgt, iter, ifs, 0⟩ :: rest) scope pos) 0 (.ref I) acc { cenv with scope := relabel scope f.env }) (compPost (model pw f.w) f.A E none Q acc cenv.locals) s₄) E s₃) E { s with heap := h1, toks := tk1 } := by
 refine comp_core (RR := compPost (model pw f.w) f.A E none Q) X htg hsub ok st1 hIn hoM src hS e1 fun D L out h' tk hk hLM ⟨mL, hm⟩ st' r kk hLn => ⟨mL, hm, fun h'' hsb => ?_⟩
 have k2 : KeepBut [L] h' h'' := sameBut_keep hsb (by simp)
 exact q _ out h'' tk hk (fun b o hb e => k2 b o (fun hm => by simp at hm; rw [hm, hLn] at e; cases e) (kk b o hb e)) (St.drop (own := [L]) st' hIn (fun a ha => by simp at ha; subst ha; exact hLM) k2) (r.keep (vis_drop (own := [L]) k2))
theorem se_comp {scope : Scope} {cx' : List (Str × Nat)} {nl : Nat} {elt iter tgt : Expr} {ifs : List Expr} {rest : List Comprehension} {pos : Pos} {t : MT} {ms : List ME} {mit m : ME} {mg : List MG} (X : CompSt f scope cx' nl)
  (hit : SI T C k f iter mit tgt) (hs : ∀ x, foldedSetIterable iter f.env x = pure x) (htg : TgtSh scope.names cx' tgt t)
  (hsub : ∀ f', CompFx f f' scope cx' nl -> IfsOK T C k f' ifs ms /\ RestTr T C k f' scope.names cx' elt m rest mg) :
  SE T C k f (.ListComp elt (⟨tgt, iter, ifs, 0⟩ :: rest) scope pos) (.comp nl m mit t ms mg) := fun M ads ρ μ s K st ok e Q E q => by
 have hnames : ∀ x ∈ scope.names, x.2 = .local -> scope.names.lookup x.1 = some .local := fun x hx h => lookup_of_mem_nodup X.nod (by rw [<- h]; exact hx)
 have hfr : ∀ x ∈ scope.names, x.2 = .free -> ∃ a, f.env.cells.lookup x.1 = some a := fun x hx h => by
  have := X.free x.1 (lookup_of_mem_nodup X.nod (by rw [<- h]; exact hx))
  obtain ⟨c, ov, e1, _⟩ := st.cells x.1 this
  exact ⟨c, e1⟩
 refine wpAny_comprehension_free (cl := clOf f.env.cells scope.names []) rfl hs (closureFor_eq hfr) X.kind hnames ?_
 refine hit M ads ρ μ s ads.length _ st ok (evi_evs _ e) _ _ fun items ro1 e1 hro I own h1 tk1 S k1 st1 hn1 src hS => ?_
 rw [List.take_of_length_le hro] at src
 exact comp_tail (s := s) X htg hsub ok st1 st.inM (fresh_notM st hn1) src hS e1 fun v out h' tk hk kk _ r => q v (.list out) h' tk hk (fun b o e => kk b o (fun hm => by rw [hn1 b hm] at e; cases e) (k1 b o e)) r
end
section
variable {T : Tabs} {C : CT} {k : Nat} {f : Fx}
theorem St.addAds {M ads : List Addr} {ρ : Env'} {μ : List MV} {h : Heap} (st : St f M ads ρ μ h) {D : Addr} {vs : Array Value} {ds : List PV} (hD : AccOK f M ads D) (hl : h.PlainList D vs) (r : Reps (vis h M) ads vs.toList ds) :
  St f M (ads ++ [D]) ρ (μ ++ [.list ds]) h := by
 have up : ∀ (i : Nat) (a : Addr), ads[i]? = some a -> (ads ++ [D])[i]? = some a := fun i a e => by
  rw [List.getElem?_append_left (List.getElem?_eq_some_iff.mp e).1]; exact e
 refine ⟨⟨st.mu.base, st.mu.fresh, st.mu.live, fun a ha => ?_, ?_, by simp [st.mu.len], fun i a m e1 e2 => ?_⟩, st.kind, st.glob, st.blt, st.locM, ?_, ?_, fun y hy => ?_, st.apart, st.inj, st.len, st.bnd⟩
 ·rcases List.mem_append.mp ha with ha | ha
  ·exact st.mu.adsM a ha
  ·simp at ha; subst ha; exact hD.M
 ·rw [List.nodup_append]
  exact ⟨st.mu.nod, by simp, fun a ha b hb e => by simp at hb; subst hb; subst e; exact hD.ads ha⟩
 ·by_cases hi : i < ads.length
  ·rw [List.getElem?_append_left hi] at e1
   rw [List.getElem?_append_left (by rw [<- st.mu.len]; exact hi)] at e2
   cases st.mu.mus i a m e1 e2 with
   | list vs ds e r => exact .list vs ds e (r.mono (fun _ _ e => e) up)
  ·have hi' : i = ads.length := by
    have := (List.getElem?_eq_some_iff.mp e1).1
    simp at this; lia
   subst hi'
   simp at e1
   subst e1
   rw [st.mu.len] at e2
   simp at e2
   subst e2
   exact .list vs ds hl (r.mono (fun _ _ e => e) up)
 ·intro hm
  rcases List.mem_append.mp hm with hm | hm
  ·exact st.locA hm
  ·simp at hm; exact hD.loc hm.symm
 ·obtain ⟨m, hn, hv⟩ := st.ns
  refine ⟨m, hn, fun y j d h1 h2 h3 => ?_⟩
  obtain ⟨v, a, b⟩ := hv y j d h1 h2 h3
  exact ⟨v, a, b.mono (fun _ _ e => e) up⟩
 ·obtain ⟨c, ov, e1, e2, e3, e4, e5, e6⟩ := st.cells y hy
  refine ⟨c, ov, e1, e2, e3, fun hm => ?_, e5, fun j d h1 h3 => ?_⟩
  ·rcases List.mem_append.mp hm with hm | hm
   ·exact e4 hm
   ·simp at hm; exact hD.cell y c hy e1 hm.symm
  ·obtain ⟨v, a, b⟩ := e6 j d h1 h3
   exact ⟨v, a, b.mono (fun _ _ e => e) up⟩
theorem St.setMut {M ads : List Addr} {ρ : Env'} {μ : List MV} {h h' : Heap} (st : St f M ads ρ μ h) {i : Nat} {a : Addr} (ha : ads[i]? = some a) {vs : Array Value} {ds : List PV} (hs : Heap.SameBut a h h') (hl : h'.PlainList a vs) (r : Reps (vis h M) ads vs.toList ds) :
  St f M ads ρ (μ.set i (.list ds)) h' := by
 have haM : a ∈ M := st.mu.adsM a (List.mem_of_getElem? ha)
 have vk : ∀ b o, vis h M b = some o -> vis h' M b = some o := vis_keep fun b o hb e => sameBut_at hs (fun (q : b = a) => hb (by rw [q]; exact haM)) o e
 refine ⟨⟨fun b o e => ?_, st.mu.fresh, fun b hb => ?_, st.mu.adsM, st.mu.nod, by rw [List.length_set]; exact st.mu.len, fun j b m e1 e2 => ?_⟩, st.kind, st.glob, st.blt, st.locM, st.locA, ?_, fun y hy => ?_, st.apart, st.inj, st.len, st.bnd⟩
 ·refine sameBut_at hs (fun q => ?_) o (st.mu.base b o e)
  have := st.mu.fresh _ haM
  rw [<- q, e] at this; cases this
 ·by_cases hba : b = a
  ·subst hba; obtain ⟨n, e⟩ := hl; exact ⟨_, e⟩
  ·obtain ⟨o, e⟩ := st.mu.live b hb; exact ⟨o, sameBut_at hs hba o e⟩
 ·by_cases hij : i = j
  ·subst hij
   rw [ha] at e1; cases e1
   rw [List.getElem?_set] at e2
   simp only [if_true] at e2
   split at e2
   ·cases e2; exact .list vs ds hl (r.keep vk)
   ·cases e2
  ·rw [List.getElem?_set_ne hij] at e2
   have hba : b ≠ a := fun q => hij ((List.getElem?_inj (List.getElem?_eq_some_iff.mp ha).1 st.mu.nod).mp (by rw [ha, e1, q]))
   exact (st.mu.mus j b m e1 e2).keep (sameBut_at hs hba) fun c o hc e => sameBut_at hs (fun (q : c = a) => hc (by rw [q]; exact haM)) o e
 ·obtain ⟨m, hn, hv⟩ := st.ns
  refine ⟨m, Ns.at hn (sameBut_at hs fun q => st.locA (by rw [q]; exact List.mem_of_getElem? ha)), fun y j d h1 h2 h3 => ?_⟩
  obtain ⟨v, x, b⟩ := hv y j d h1 h2 h3
  exact ⟨v, x, b.keep vk⟩
 ·obtain ⟨c, ov, e1, e2, e3, e4, e5, e6⟩ := st.cells y hy
  refine ⟨c, ov, e1, IsCell.at e2 (sameBut_at hs fun q => e4 (by rw [q]; exact List.mem_of_getElem? ha)), e3, e4, e5, fun j d h1 h3 => ?_⟩
  obtain ⟨v, x, b⟩ := e6 j d h1 h3
  exact ⟨v, x, b.keep vk⟩
theorem MuAt.at {hO h : Heap} {M ads : List Addr} {μ : List MV} (m : MuAt hO M ads μ h) {v : Value} {i : Nat} {l : List PV} (r : Rep (vis h M) ads v (.ptr i)) (e : μ[i]? = some (.list l)) : ∃ a vs, v = .ref a /\ ads[i]? = some a /\ h.PlainList a vs /\ Reps (vis h M) ads vs.toList l := by
 cases r with
 | ptr a _ ha =>
  cases m.mus i a _ ha e with
  | list vs ds h1 h2 => exact ⟨a, vs, rfl, ha, h1, h2⟩
theorem mutAt_inv {μ : List MV} {ro : Nat} {d : PV} {K : Nat -> List PV -> Prop} (e : mutAt μ ro d K) : ∃ i l, d = .ptr i /\ μ[i]? = some (.list l) /\ ro <= i /\ K i l := by
 cases d with
 | ptr i =>
  replace e : match μ[i]? with | some (.list l) => ro <= i /\ K i l | _ => False := e
  revert e
  cases h : μ[i]? with
  | none => exact False.elim
  | some m => cases m; exact fun e => ⟨i, _, rfl, h, e⟩
 | _ => exact False.elim e
theorem pop_raw {w : World} {A : Around} {E : Value -> Shared -> Prop} {s : Shared} {a : Addr} {vs : Array Value} {y : Value} {Q : Value -> Shared -> Prop} (hl : s.heap.PlainList a vs) (hy : vs.toList[vs.toList.length - 1]? = some y) (hsz : vs.size <= sizeLine)
  (q : ∀ h' ws, h'.PlainList a ws -> ws.toList = vs.toList.dropLast -> Heap.SameBut a s.heap h' -> Q y { s with heap := h' }) : wpAny (model pw w) A (call (.builtin "list.pop") [.ref a]) Q E s := by
 obtain ⟨n, ho⟩ := hl
 refine call_meets PySem.F.slot_list_pop ⟨_, ho, rfl⟩ PySem.F.entry_list_pop (PySem.F.args_list_pop_1 _) (PySem.MeetsSeq.list_pop_last a vs n y (by simpa using hy) hsz) ⟨ho, ?_⟩
 refine q _ (vs.eraseIdxIfInBounds (vs.size - 1)) ?_ ?_ (Heap.SameBut.update ..)
 ·exact ⟨_, Heap.get?_update_self _ ho rfl⟩
 ·have hpos : vs.size - 1 < vs.size := by
   have := (List.getElem?_eq_some_iff.mp hy).1
   simp at this; lia
  rw [Array.eraseIdxIfInBounds, dif_pos hpos, Array.toList_eraseIdx]
  rw [show vs.size - 1 = vs.toList.length - 1 by simp, List.eraseIdx_length_sub_one]
end
noncomputable def varZ (f : Fx) : List Addr := f.env.locals :: f.env.cells.map (·.2)
noncomputable def FxOK (f : Fx) : Prop := ∀ p ∈ f.env.cells, envCell f.env p.1 /\ f.env.cells.lookup p.1 = some p.2
theorem varZ_M {f : Fx} (ho : FxOK f) {M ads : List Addr} {ρ : Env'} {μ : List MV} {h : Heap} (st : St f M ads ρ μ h) (ro : Nat) : ∀ a ∈ varZ f ++ ads.drop ro, a ∈ M := fun a ha => by
 rcases List.mem_append.mp ha with ha | ha
 ·rcases List.mem_cons.mp ha with rfl | ha
  ·exact st.locM
  ·obtain ⟨p, hp, rfl⟩ := List.mem_map.mp ha
   exact st.inM.cell p.1 p.2 (ho p hp).1 (ho p hp).2
 ·exact st.mu.adsM a (List.mem_of_mem_drop ha)
theorem varZ_ads {f : Fx} (ho : FxOK f) {M ads : List Addr} {ρ : Env'} {μ : List MV} {h : Heap} (st : St f M ads ρ μ h) : ∀ a ∈ ads, a ∉ varZ f := fun a ha hm => by
 rcases List.mem_cons.mp hm with rfl | hm
 ·exact st.locA ha
 ·obtain ⟨p, hp, rfl⟩ := List.mem_map.mp hm
  obtain ⟨c, ov, e1, e2, e3, e4, e5, e6⟩ := st.cells p.1 (ho p hp).1
  rw [(ho p hp).2] at e1
  cases e1
  exact e4 ha
noncomputable def FlowRep (g : Part) (ads : List Addr) : Flow -> Fl -> Prop
 | .next, .next => True
 | .brk, .brk => True
 | .cont, .cont => True
 | .ret v, .ret d => Rep g ads v d
 | _, _ => False
structure After (f : Fx) (ro : Nat) (M ads : List Addr) (h : Heap) (M' ads' : List Addr) (h' : Heap) : Prop where
 mem : ∀ a ∈ M, a ∈ M'
 more : ∃ more, ads' = ads ++ more /\ ∀ a ∈ more, h.get? a = none
 new : ∀ a ∈ M', a ∈ M ∨ h.get? a = none
 keep : KeepBut (varZ f ++ ads.drop ro) h h'
theorem After.refl (f : Fx) (ro : Nat) (M ads : List Addr) (h : Heap) : After f ro M ads h M ads h :=
 ⟨fun _ h => h, ⟨[], by simp, by simp⟩, fun _ h => .inl h, fun _ _ _ e => e⟩
theorem After.gone {f : Fx} {ro : Nat} {M ads M1 ads1 : List Addr} {h h1 : Heap} (a : After f ro M ads h M1 ads1 h1) (hz : ∀ x ∈ varZ f ++ ads.drop ro, x ∈ M) (hl : ∀ a ∈ M1, ∃ o, h1.get? a = some o) {x : Addr} (e : h1.get? x = none) : h.get? x = none := by
 cases e' : h.get? x with
 | none => rfl
 | some o =>
  by_cases hx : x ∈ varZ f ++ ads.drop ro
  ·obtain ⟨o', e2⟩ := hl x (a.mem x (hz x hx)); rw [e] at e2; cases e2
  ·have := a.keep x o hx e'; rw [e] at this; cases this
theorem After.trans {f : Fx} {ro ro1 : Nat} {M ads M1 ads1 M2 ads2 : List Addr} {h h1 h2 : Heap} (hr : ro <= ro1) (a : After f ro M ads h M1 ads1 h1) (b : After f ro1 M1 ads1 h1 M2 ads2 h2) (hz : ∀ x ∈ varZ f ++ ads.drop ro, x ∈ M) (hl : ∀ a ∈ M1, ∃ o, h1.get? a = some o) : After f ro M ads h M2 ads2 h2 := by
 obtain ⟨m1, rfl, n1⟩ := a.more
 obtain ⟨m2, rfl, n2⟩ := b.more
 refine ⟨fun x hx => b.mem x (a.mem x hx), ⟨m1 ++ m2, by simp, fun x hx => ?_⟩, fun x hx => ?_, fun x o hx e => b.keep x o (fun hm => ?_) (a.keep x o hx e)⟩
 ·rcases List.mem_append.mp hx with hx | hx
  ·exact n1 x hx
  ·exact a.gone hz hl (n2 x hx)
 ·rcases b.new x hx with hx | hx
  ·exact a.new x hx
  ·exact .inr (a.gone hz hl hx)
 ·rcases List.mem_append.mp hm with hm | hm
  ·exact hx (List.mem_append_left _ hm)
  ·rw [List.drop_append] at hm
   rcases List.mem_append.mp hm with hm | hm
   ·refine hx (List.mem_append_right _ ?_)
    rw [show ro1 = ro + (ro1 - ro) by grind, <- List.drop_drop] at hm
    exact List.mem_of_mem_drop hm
   ·have := n1 x (List.mem_of_mem_drop hm)
    rw [e] at this; cases this
theorem After.vis {f : Fx} {ro : Nat} {M ads M1 ads1 : List Addr} {h h1 : Heap} (a : After f ro M ads h M1 ads1 h1) (hz : ∀ x ∈ varZ f ++ ads.drop ro, x ∈ M) : ∀ b o, vis h M b = some o -> vis h1 M1 b = some o := fun b o e => by
 obtain ⟨e1, e2⟩ := vis_get e
 refine vis_of (a.keep b o (fun hm => e2 (hz b hm)) e1) fun hm => ?_
 rcases a.new b hm with hm | hm
 ·exact e2 hm
 ·rw [e1] at hm; cases hm
theorem After.at {f : Fx} {ro : Nat} {M ads M1 ads1 : List Addr} {h h1 : Heap} (a : After f ro M ads h M1 ads1 h1) : ∀ (i : Nat) (x : Addr), ads[i]? = some x -> ads1[i]? = some x := fun i x e => by
 obtain ⟨m, rfl, _⟩ := a.more
 rw [List.getElem?_append_left (List.getElem?_eq_some_iff.mp e).1]; exact e
theorem After.of_keep {f : Fx} {ro : Nat} {M ads own : List Addr} {h h' : Heap} (k : Keep h h') (hn : ∀ a ∈ own, h.get? a = none) : After f ro M ads h (own ++ M) ads h' :=
 ⟨fun a ha => List.mem_append_right _ ha, ⟨[], by simp, by simp⟩, fun a ha => by
  rcases List.mem_append.mp ha with ha | ha
  ·exact .inr (hn a ha)
  ·exact .inl ha, fun b o _ e => k b o e⟩
theorem After.of_keep0 {f : Fx} {ro : Nat} {M ads : List Addr} {h h' : Heap} (k : Keep h h') : After f ro M ads h M ads h' := After.of_keep (own := []) k (fun _ h => by cases h)
theorem After.of_but {f : Fx} {ro : Nat} {M ads : List Addr} {h h' : Heap} (k : KeepBut (varZ f) h h') : After f ro M ads h M ads h' :=
 ⟨fun a ha => ha, ⟨[], by simp, by simp⟩, fun a ha => .inl ha, k.mono fun a ha => List.mem_append_left _ ha⟩
section
variable (T : Tabs) (C : CT) (k : Nat) (f : Fx)
noncomputable def S1 (x : Stmt) (m : MS) : Prop := ∀ M ads ρ μ (s : Shared) ro K, St f M ads ρ μ s.heap -> AOk k f.A -> EX1 T C ro ρ μ m K -> ∀ (Q : Flow -> Shared -> Prop) (E : Value -> Shared -> Prop),
 (∀ fl fl' ρ' μ' M' ads' h' tk, K fl' ρ' μ' -> St f M' ads' ρ' μ' h' -> After f ro M ads s.heap M' ads' h' -> FlowRep (vis h' M') ads' fl fl' -> Q fl { s with heap := h', toks := tk }) -> wpAny (model pw f.w) f.A (exec x f.env) Q E s
noncomputable def SS (xs : List Stmt) (ms : List MS) : Prop := ∀ M ads ρ μ (s : Shared) ro K, St f M ads ρ μ s.heap -> AOk k f.A -> EX T C ro ρ μ ms K -> ∀ (Q : Flow -> Shared -> Prop) (E : Value -> Shared -> Prop),
 (∀ fl fl' ρ' μ' M' ads' h' tk, K fl' ρ' μ' -> St f M' ads' ρ' μ' h' -> After f ro M ads s.heap M' ads' h' -> FlowRep (vis h' M') ads' fl fl' -> Q fl { s with heap := h', toks := tk }) -> wpAny (model pw f.w) f.A (execs xs f.env) Q E s
end
section
variable {T : Tabs} {C : CT} {k : Nat} {f : Fx}
theorem ss_nil : SS T C k f [] [] := fun M ads ρ μ s ro K st ok e Q E q => by
 exact wpAny_execs_nil (q .next .next ρ μ M ads s.heap s.toks e st (.refl ..) trivial)
theorem ss_cons {x : Stmt} {m : MS} {xs : List Stmt} {ms : List MS} (ho : FxOK f) (h1 : S1 T C k f x m) (h2 : SS T C k f xs ms) : SS T C k f (x :: xs) (m :: ms) := fun M ads ρ μ s ro K st ok e Q E q => by
 refine wpAny_execs_cons (h1 M ads ρ μ s ro _ st ok e _ _ fun fl fl' ρ' μ' M' ads' h' tk kk st' af fr => ?_)
 have hz := varZ_M ho st ro
 cases fl <;> cases fl' <;> try (exact fr.elim)
 ·exact h2 M' ads' ρ' μ' { s with heap := h', toks := tk } ro K st' ok kk _ _ fun fl fl' ρ2 μ2 M2 ads2 h2 tk2 k2 st2 af2 fr2 => q fl fl' ρ2 μ2 M2 ads2 h2 tk2 k2 st2 (af.trans (Nat.le_refl _) af2 hz st'.mu.live) fr2
 ·exact q _ .brk _ _ _ _ _ _ kk st' af trivial
 ·exact q _ .cont _ _ _ _ _ _ kk st' af trivial
 ·exact q _ (.ret _) _ _ _ _ _ _ kk st' af fr
theorem s1_brk {p : Pos} : S1 T C k f (.Break p) .brk := fun M ads ρ μ s ro K st ok e Q E q => by
 exact wpAny_Break (q .brk .brk ρ μ M ads s.heap s.toks e st (.refl ..) trivial)
theorem s1_ret {x : Expr} {m : ME} {p : Pos} (h : SE T C k f x m) : S1 T C k f (.Return (some x) p) (.ret m) := fun M ads ρ μ s ro K st ok e Q E q => by
 exact wpAny_Return_some (h M ads ρ μ s _ st ok e _ _ fun v d h' tk kd kk r => q (.ret v) (.ret d) ρ μ M ads h' tk kd (st.keep kk) (.of_keep0 kk) r)
theorem s1_ife {t : Expr} {m : ME} {a b : List Stmt} {ma mb : List MS} {p : Pos} (ho : FxOK f) (ht : SB T C k f t m) (ha : SS T C k f a ma) (hb : SS T C k f b mb) : S1 T C k f (.If t a b p) (.ife m ma mb) := fun M ads ρ μ s ro K st ok e Q E q => by
 have hz := varZ_M ho st ro
 refine wpAny_If (ht M ads ρ μ s _ st ok e _ _ fun c h' tk kc kk => ?_)
 have st' := st.keep kk
 have go : ∀ fl fl' ρ' μ' M' ads' h2 tk2, K fl' ρ' μ' -> St f M' ads' ρ' μ' h2 -> After f ro M ads h' M' ads' h2 -> FlowRep (vis h2 M') ads' fl fl' -> Q fl { s with heap := h2, toks := tk2 } := fun fl fl' ρ' μ' M' ads' h2 tk2 k2 st2 af fr =>
  q fl fl' ρ' μ' M' ads' h2 tk2 k2 st2 ((After.of_keep0 kk).trans (Nat.le_refl _) af hz st'.mu.live) fr
 cases c
 ·exact hb M ads ρ μ { s with heap := h', toks := tk } ro K st' ok kc Q E go
 ·exact ha M ads ρ μ { s with heap := h', toks := tk } ro K st' ok kc Q E go
theorem s1_asg_name {x : Str} {p p' : Pos} {i : Nat} {v : Expr} {m : ME} (hx : VarOK f (varZ f) x i) (h : SE T C k f v m) (ho : FxOK f) (hs : swapsWith v (some (.Name x p)) p'.line f.env = pure false) :
  S1 T C k f (.Assign [.Name x p] v p') (.asg (.name i) m) := fun M ads ρ μ s ro K st ok e Q E q => by
 have hz := varZ_M ho st ro
 refine wpAny_Assign_Name (h M ads ρ μ s _ st ok e _ _ fun v d h' tk kd kk r => ?_) hs
 refine store_sound (s := { s with heap := h', toks := tk }) (st.keep kk) hx r fun h2 tk2 st2 k2 => ?_
 exact q .next .next _ μ M ads h2 tk2 kd st2 ((After.of_keep0 kk).trans (Nat.le_refl _) (.of_but k2) hz (st.keep kk).mu.live) trivial
theorem s1_aug {x : Str} {p p' : Pos} {i : Nat} {op : Operator} {v : Expr} {m : ME} (hx : VarOK f (varZ f) x i) (h : SE T C k f v m) (ho : FxOK f) (hop : op = .Add ∨ op = .Sub ∨ op = .BitXor) (hd' : (x == ("__classdict__" : Str)) = false) :
  S1 T C k f (.AugAssign (.Name x p) op v p') (.aug i op m) := fun M ads ρ μ s ro K st ok e Q E q => by
 have hz := varZ_M ho st ro
 ·obtain ⟨_, ha, e⟩ := mOO e
  obtain ⟨a, rfl, e⟩ := mI e
  refine wpAny_AugAssign_Name (ld_var st hx.1 (by rcases hx.2 with h | h; exact .inl h.1; exact .inr (.inl h.1)) hd' ha fun u ru => ?_)
  obtain ⟨t, rfl⟩ := ru.intI
  refine h M ads ρ μ s _ st ok e _ _ fun v d h' tk kd kk r => ?_
  obtain ⟨h1, h2⟩ := kd
  obtain ⟨_, rfl, _⟩ := mI (P := fun _ => True) h1
  obtain ⟨u, rfl⟩ := r.intI
  have fin : ∀ (j : Int) tk' t', K .next (ρ.set i (some (.int j))) μ -> wpAny (model pw f.w) f.A (storeName f.env x (.int j t')) (fun _ => Q .next) E { s with heap := h', toks := tk' } := fun j tk' t' kj =>
   store_sound (s := { s with heap := h', toks := tk' }) (st.keep kk) hx (.int j t') fun h2 tk2 st2 k2 =>
    q .next .next _ μ M ads h2 tk2 kj st2 ((After.of_keep0 kk).trans (Nat.le_refl _) (.of_but k2) hz (st.keep kk).mu.live) trivial
  rcases hop with rfl | rfl | rfl
  ·exact PyProof.Rows.iadd_int (fin _ _ _ h2)
  ·exact PyProof.Rows.isub_int (fin _ _ _ h2)
  ·exact PyProof.Rows.ixor_int (fin _ _ _ h2)
theorem s1_whil {t : Expr} {m : ME} {b : List Stmt} {mb : List MS} {p : Pos} (ho : FxOK f) (ht : SB T C k f t m) (hb : SS T C k f b mb) : S1 T C k f (.While t b [] p) (.whil m mb) := fun M ads ρ μ s ro K st ok e Q E q => by
 have hz := varZ_M ho st ro
 obtain ⟨n, e⟩ := e
 refine wpAny_While (codeAny_whileLoop (fun n s' => ∃ M' ads' ρ' μ' h' tk, s' = { s with heap := h', toks := tk } /\ St f M' ads' ρ' μ' h' /\ After f ro M ads s.heap M' ads' h' /\
  whileRun (fun ρ μ K => EVT T C ρ μ m K) (fun ρ μ K => EX T C ro ρ μ mb K) n ρ' μ' K) (fun n s' hI => ?_) n ⟨M, ads, ρ, μ, s.heap, s.toks, rfl, st, .refl .., e⟩)
 obtain ⟨M', ads', ρ', μ', h', tk, rfl, st', af, hr⟩ := hI
 cases n with
 | zero => exact hr.elim
 | succ n =>
 refine ht M' ads' ρ' μ' _ _ st' ok hr _ _ fun c h2 tk2 kc kk => ?_
 have af2 := af.trans (Nat.le_refl _) (After.of_keep0 kk) hz st'.mu.live
 cases c
 ·exact wpAny_execs_nil (q .next .next ρ' μ' M' ads' h2 tk2 kc (st'.keep kk) af2 trivial)
 ·refine hb M' ads' ρ' μ' { s with heap := h2, toks := tk2 } ro _ (st'.keep kk) ok kc _ _ fun fl fl' ρ3 μ3 M3 ads3 h3 tk3 k3 st3 af3 fr => ?_
  have af4 := af2.trans (Nat.le_refl _) af3 hz (st'.keep kk).mu.live
  cases fl <;> cases fl' <;> try (exact fr.elim)
  ·exact ⟨n, Nat.lt_succ_self _, M3, ads3, ρ3, μ3, h3, tk3, rfl, st3, af4, k3⟩
  ·exact q .next .next ρ3 μ3 M3 ads3 h3 tk3 k3 st3 af4 trivial
  ·exact ⟨n, Nat.lt_succ_self _, M3, ads3, ρ3, μ3, h3, tk3, rfl, st3, af4, k3⟩
  ·exact q _ (.ret _) ρ3 μ3 M3 ads3 h3 tk3 k3 st3 af4 fr
noncomputable def BodyPost (I : Nat -> Shared -> Prop) (n : Nat) (Q : Flow -> Shared -> Prop) (f : Flow) (s : Shared) : Prop := match f with
 | .next | .cont => ∃ m, m < n /\ I m s
 | .brk => Q .next s
 | .ret v => Q (.ret v) s
theorem forLoop_raw {w : World} {A : Around} {s : Shared} {Q : Flow -> Shared -> Prop} {X : Value -> Shared -> Prop} {target : Expr} {it : Value} {body orelse : List Stmt} {env : Env} (I : Nat -> Shared -> Prop)
  (turn : ∀ n s, I n s -> ∀ E, wpAny (model pw w) A (pyNext it) (fun r s₁ => match r with
   | none => ∀ E', wpAny (model pw w) A (execs orelse env) Q E' s₁
   | some v => wpAny (model pw w) A (letOwnedTupleGo target it v) (fun _ s1' => wpAny (model pw w) A (assign target env v) (fun _ s₂ => wpAny (model pw w) A (execs body env) (BodyPost I n Q) E s₂) E s1') E s₁) E s)
  (n : Nat) (h : I n s) : codeAny (model pw w) A (.forLoop target it body orelse env) (fun r s' => match r with | .ok f => Q f s' | .error e => X e s') s := by
 refine codeAny_loop' rfl I (fun n s hI => ?_) n h
 refine wpAny_noted ?_
 refine wpAny_bind (wpAny_standAt (wpAny_bind (wpAny_onRaise (wpAny_mono (turn n s hI _) (fun r s₁ h₁ => ?_) fun _ _ h' => wpAny_standAt h'))))
 cases r with
 | none => exact wpAny_pure (.inr ⟨rfl, codeAny_block (h₁ _)⟩)
 | some v =>
  refine wpAny_bind (wpAny_mono h₁ (fun _ s₂' h₂' => ?_) fun _ _ h' => h')
  refine wpAny_bind (wpAny_mono h₂' (fun _ s₂ h₂ => wpAny_bind (wpAny_mono h₂ (fun f s₃ h₃ => ?_) fun _ _ h' => h')) fun _ _ h' => h')
  cases f with
  | next => exact wpAny_pure (.inl ⟨rfl, h₃⟩)
  | cont => exact wpAny_pure (.inl ⟨rfl, h₃⟩)
  | brk => exact wpAny_pure h₃
  | ret v => exact wpAny_pure h₃
theorem not_drop {ads : List Addr} (nod : ads.Nodup) {a : Addr} {r : Nat} (h : a ∈ ads.take r) : a ∉ ads.drop r := fun hm => by
 have := nod
 rw [<- List.take_append_drop r ads, List.nodup_append] at this
 exact this.2.2 a h a hm rfl
theorem s1_for {tgt iter : Expr} {b els : List Stmt} {t : MT} {m : ME} {mb me : List MS} {p : Pos} (ho : FxOK f) (hi : SI T C k f iter m tgt) (ht : TgtOK f (varZ f) tgt t) (hb : SS T C k f b mb) (he : SS T C k f els me)
  (hs : ∀ x, foldedSetIterable iter f.env x = pure x) : S1 T C k f (.For tgt iter b els p) (.fr t m mb me) := fun M ads ρ μ s ro K st ok e Q E q => by
 have hz := varZ_M ho st ro
 replace e : EVS T C ρ μ ro m fun items ro1 => forRun (fun ρ μ K => EX T C ro1 ρ μ mb K) (fun ρ μ K => EX T C ro ρ μ me K) t items ρ μ K := e
 refine wpAny_For (hi M ads ρ μ s ro _ st ok e _ _ fun items ro1 hr hro I own h1 tk1 S k1 st1 hn src hS => ?_) hs
 have hzM : ∀ a ∈ varZ f, a ∈ M := fun a ha => hz a (List.mem_append_left _ ha)
 have hown : ∀ a ∈ own, a ∉ M := fresh_notM st hn
 let INV : Nat -> Shared -> Prop := fun n s' => ∃ M' ads' ρ' μ' h' tk items, n = items.length /\ s' = { s with heap := h', toks := tk } /\ St f M' ads' ρ' μ' h' /\ (After f ro M ads s.heap M' ads' h' /\ (∀ b o, vis h1 (own ++ M) b = some o -> vis h' M' b = some o) /\ (∀ a ∈ own, a ∈ M') /\ (∀ a ∈ own, a ∉ ads') /\ ∀ a ∈ ads.take ro1, a ∈ ads'.take ro1 /\ a ∉ varZ f) /\ S items h' /\
  forRun (fun ρ μ K => EX T C ro1 ρ μ mb K) (fun ρ μ K => EX T C ro ρ μ me K) t items ρ' μ' K
 refine forLoop_raw INV (fun n s' hI E' => ?_) items.length ⟨own ++ M, ads, ρ, μ, h1, tk1, items, rfl, rfl, st1, ⟨.of_keep k1 hn, fun _ _ e => e, fun a ha => List.mem_append_left _ ha, fun a ha hm => hown a ha (st.mu.adsM a hm), fun a ha => ⟨ha, varZ_ads ho st a (List.mem_of_mem_take ha)⟩⟩, hS, hr⟩
 obtain ⟨M', ads', ρ', μ', h', tk, items, rfl, rfl, st', ⟨af0, hg, hoM, hoa, hheld⟩, hS', hr⟩ := hI
 have hoZ : ∀ a ∈ own, a ∉ varZ f := fun a ha hm => hown a ha (hzM a hm)
 have hoMM : ∀ a ∈ own, AccOK f M' ads' a := fun a ha => ⟨hoM a ha, hoa a ha, fun q => hoZ a ha (by rw [q]; exact List.mem_cons_self), fun x c hx hc q => hoZ a ha (by
    refine List.mem_cons_of_mem _ (List.mem_map.mpr ⟨(x, c), ?_, q.symm⟩)
    exact mem_of_lookup hc)⟩
 cases items with
 | nil =>
  refine wpAny_mono (src.stop _ (fun s1 => ∀ E', wpAny (model pw f.w) f.A (execs els f.env) Q E' s1) E' hS' fun h2 tk2 kk E2 => ?_) (fun r s1 h1 => ?_) fun _ _ h => h
  case refine_2 =>
   cases r with
   | none => exact h1
   | some v => exact h1.elim
  have hM2 : ∀ a, a ∈ M'.filter (fun a => decide (a ∉ own)) ↔ a ∈ M' /\ a ∉ own := fun a => by simp [List.mem_filter]
  have hMM : ∀ a ∈ M, a ∈ M'.filter (fun a => decide (a ∉ own)) := fun a ha => (hM2 a).mpr ⟨af0.mem a ha, fun h => hown a h ha⟩
  have hIn := st'.inM
  have st2 : St f (M'.filter (fun a => decide (a ∉ own))) ads' ρ' μ' h2 := st'.move ⟨hMM _ (st.locM), fun a ha => (hM2 a).mpr ⟨hIn.ads a ha, fun h => (hoMM a h).ads ha⟩, fun x c hx hc => (hM2 c).mpr ⟨hIn.cell x c hx hc, fun h => (hoMM c h).cell x c hx hc rfl⟩⟩
   (fun b o e => vis_of (kk b o (fun hm => (vis_get e).2 (hoM b hm)) (vis_get e).1) fun hm => (vis_get e).2 ((hM2 b).mp hm).1)
   (fun b _ hb o e => kk b o ((hM2 b).mp hb).2 e)
   (fun a ha => by obtain ⟨o, e⟩ := st'.mu.live a ((hM2 a).mp ha).1; exact ⟨o, kk a o ((hM2 a).mp ha).2 e⟩)
   (fun a ha => st'.mu.fresh a ((hM2 a).mp ha).1) fun x c hx hc => hIn.cell x c hx hc
  refine he _ ads' ρ' μ' { s with heap := h2, toks := tk2 } ro K st2 ok hr _ _ fun fl fl' ρ3 μ3 M3 ads3 h3 tk3 k3 st3 af3 fr => q fl fl' ρ3 μ3 M3 ads3 h3 tk3 k3 st3 (After.trans (Nat.le_refl _) ?_ af3 hz st2.mu.live) fr
  exact ⟨hMM, af0.more, fun x hx => af0.new x ((hM2 x).mp hx).1, fun x o hx e => kk x o (fun hm => by rw [hn x hm] at e; cases e) (af0.keep x o hx e)⟩
 | cons d ds =>
  refine wpAny_mono (src.step d ds _ M' (fun v s2 => wpAny (model pw f.w) f.A (assign tgt f.env v) (fun _ s₂ => wpAny (model pw f.w) f.A (execs b f.env) (BodyPost INV (d :: ds).length Q) E' s₂) E' s2) E' hS' hg st'.mu.live hoM fun v h2 tk2 rv hS2 kk => ?_) (fun r s1 h1 => ?_) fun _ _ h => h
  case refine_2 =>
   cases r with
   | none => exact h1.elim
   | some v => exact h1
  have st2 : St f M' ads' ρ' μ' h2 := st'.others hoMM kk (src.live _ _ hS2)
  have hzM' : ∀ a ∈ varZ f, a ∈ M' := fun a ha => varZ_M ho st2 ro1 a (List.mem_append_left _ ha)
  refine asg_sound (s := { s with heap := h2, toks := tk2 }) ok.handled st2 ht hzM' (rv.mono (fun _ _ e => e) af0.at) hr fun ρ3 h3 tk3 k3 st3 kk3 => ?_
  refine hb M' ads' ρ3 μ' { s with heap := h3, toks := tk3 } ro1 _ st3 ok k3 _ _ fun fl fl' ρ4 μ4 M4 ads4 h4 tk4 k4 st4 af4 fr => ?_
  have af3 : After f ro M ads s.heap M' ads' h3 := ⟨af0.mem, af0.more, af0.new, fun x o hx e => kk3 x o (fun hm => hx (List.mem_append_left _ hm)) (kk x o (fun hm => by rw [hn x hm] at e; cases e) (af0.keep x o hx e))⟩
  have af5 : After f ro M ads s.heap M4 ads4 h4 := af3.trans hro af4 hz st3.mu.live
  have hg3 : ∀ b o, vis h1 (own ++ M) b = some o -> vis h3 M' b = some o := fun b o e => by
   obtain ⟨e1, e2⟩ := vis_get (hg b o e)
   exact vis_of (kk3 b o (fun hm => e2 (hzM' b hm)) (kk b o (fun hm => e2 (hoM b hm)) e1)) e2
  have hg4 : ∀ b o, vis h1 (own ++ M) b = some o -> vis h4 M4 b = some o := fun b o e => af4.vis (varZ_M ho st3 ro1) b o (hg3 b o e)
  have hkb : ∀ b, b ∉ varZ f -> b ∉ ads'.drop ro1 -> ∀ o, h2.get? b = some o -> h4.get? b = some o := fun b h1 h2 o e => af4.keep b o (fun hm => by
   rcases List.mem_append.mp hm with hm | hm
   ·exact h1 hm
   ·exact h2 hm) (kk3 b o h1 e)
  have hS4 : S ds h4 := src.frame ds h2 h4 hS2 (fun b hb o e => hkb b (hoZ b hb) (fun hm => hoa b hb (List.mem_of_mem_drop hm)) o e) (fun b hb o e => hkb b (hheld b hb).2 (not_drop st2.mu.nod (hheld b hb).1) o e) fun b o e => (vis_get (hg4 b o e)).1
  have fin : ∀ (kf : forRun (fun ρ μ K => EX T C ro1 ρ μ mb K) (fun ρ μ K => EX T C ro ρ μ me K) t ds ρ4 μ4 K), ∃ m, m < (d :: ds).length /\ INV m { s with heap := h4, toks := tk4 } := fun kf => by
   refine ⟨ds.length, Nat.lt_succ_self _, M4, ads4, ρ4, μ4, h4, tk4, ds, rfl, rfl, st4, ⟨af5, hg4, fun a ha => af4.mem a (hoM a ha), fun a ha hm => ?_, fun a ha => ⟨?_, (hheld a ha).2⟩⟩, hS4, kf⟩
   ·obtain ⟨more, rfl, hmore⟩ := af4.more
    rcases List.mem_append.mp hm with hm | hm
    ·exact hoa a ha hm
    ·obtain ⟨o, e⟩ := st3.mu.live a (hoM a ha)
     have := hmore a hm; rw [e] at this; cases this
   ·obtain ⟨more, rfl, _⟩ := af4.more
    rw [List.take_append]
    exact List.mem_append_left _ (hheld a ha).1
  cases fl <;> cases fl' <;> try (exact fr.elim)
  ·exact fin k4
  ·exact q .next .next ρ4 μ4 M4 ads4 h4 tk4 k4 st4 af5 trivial
  ·exact fin k4
  ·exact q _ (.ret _) ρ4 μ4 M4 ads4 h4 tk4 k4 st4 af5 fr
end
section
variable {T : Tabs} {C : CT} {k : Nat} {f : Fx}
theorem varZ_notL {M ads : List Addr} {ρ : Env'} {μ : List MV} {h : Heap} (ho : FxOK f) (st : St f M ads ρ μ h) {L : Addr} (hL : L ∉ M) : L ∉ varZ f := fun hm => hL (varZ_M ho st 0 L (List.mem_append_left _ hm))
theorem s1_asg_comp {x : Str} {p spos : Pos} {i : Nat} {scope : Scope} {cx' : List (Str × Nat)} {nl : Nat} {elt iter tgt : Expr} {ifs : List Expr} {rest : List Comprehension} {pos : Pos} {t : MT} {ms : List ME} {mit m : ME} {mg : List MG} (X : CompSt f scope cx' nl)
  (hsw : swapsWith (.ListComp elt (⟨tgt, iter, ifs, 0⟩ :: rest) scope pos) (some (.Name x p)) spos.line f.env = pure true)
  (hx : VarOK f (varZ f) x i) (ho : FxOK f)
  (hit : SI T C k f iter mit tgt) (hs : ∀ x, foldedSetIterable iter f.env x = pure x) (htg : TgtSh scope.names cx' tgt t)
  (hsub : ∀ f', CompFx f f' scope cx' nl -> IfsOK T C k f' ifs ms /\ RestTr T C k f' scope.names cx' elt m rest mg) :
  S1 T C k f (.Assign [.Name x p] (.ListComp elt (⟨tgt, iter, ifs, 0⟩ :: rest) scope pos) spos) (.asg (.name i) (.comp nl m mit t ms mg)) := fun M ads ρ μ s ro K st ok e Q E q => by
 rw [exec_Assign_Name_used _ _ _ _ hsw]
 refine wpAny_bind (wpAny_standAt (wpAny_bind ?_))
 have hnames : ∀ x ∈ scope.names, x.2 = .local -> scope.names.lookup x.1 = some .local := fun x hx h => lookup_of_mem_nodup X.nod (by rw [<- h]; exact hx)
 have hfr : ∀ x ∈ scope.names, x.2 = .free -> ∃ a, f.env.cells.lookup x.1 = some a := fun x hx h => by
  have := X.free x.1 (lookup_of_mem_nodup X.nod (by rw [<- h]; exact hx))
  obtain ⟨c, ov, e1, _⟩ := st.cells x.1 this
  exact ⟨c, e1⟩
 refine wpAny_bind (wpAny_mono (wpAny_comprehension_free (cl := clOf f.env.cells scope.names []) (use := some (assign (.Name x p) f.env)) (Q := fun _ s' => Q .next s') rfl hs (closureFor_eq hfr) X.kind hnames ?_) (fun _ s' hq => wpAny_pure (wpAny_pure hq)) fun _ _ e => e)
 refine hit M ads ρ μ s ads.length _ st ok (evi_evs _ e) _ _ fun items ro1 e1 hro I own h1 tk1 S k1 st1 hn1 src hS => ?_
 rw [List.take_of_length_le hro] at src
 refine comp_core (s := s) (K := fun d => asgT (.name i) d ρ fun ρ1 => K .next ρ1 μ) (RR := compPost (model pw f.w) f.A E (some (assign (.Name x p) f.env)) fun _ s' => Q .next s') X htg hsub ok st1 st.inM (fresh_notM st hn1) src hS e1 fun D L out h' tk hk hLM ⟨mL, hm⟩ st' r kk hLn => ?_
 have hLZ := varZ_notL ho st hLM
 refine wpAny_assign_Name (store_sound (s := { s with heap := h', toks := tk }) st' hx r fun h2 tk2 st2 k2 => ⟨mL, Ns.at hm fun o e => k2 L o hLZ e, fun h3 hsb => ?_⟩)
 have k3 : KeepBut [L] h2 h3 := sameBut_keep hsb (by simp)
 have st3 := St.drop (own := [L]) st2 st.inM (fun a ha => by simp at ha; subst ha; exact hLM) k3
 have hLs : s.heap.get? L = none := by
  cases e : s.heap.get? L with
  | none => rfl
  | some o => have := k1 _ _ e; rw [hLn] at this; cases this
 refine q .next .next _ μ M ads h3 tk2 hk st3 ?_ trivial
 refine ⟨fun _ h => h, ⟨[], by simp, by simp⟩, fun _ h => .inl h, fun b o hb e => k3 b o (fun hm => ?_) (k2 b o (fun hm => hb (List.mem_append_left _ hm)) (kk b o (fun hm => ?_) (k1 b o e)))⟩
 ·simp at hm; rw [hm, hLs] at e; cases e
 ·rw [hn1 b hm] at e; cases e
theorem s1_asg_tup {es : List Expr} {n : Nat} {p spos : Pos} {is : List Nat} {v : Expr} {m : ME} (ht : TgtOK f (varZ f) (.Tuple es n p) (.tup is)) (h : SE T C k f v m) (ho : FxOK f)
  (hs : swapsWithSole [.Tuple es n p] v spos.line f.env = pure false) (hw : swappedStores [.Tuple es n p] v f.env = pure none) :
  S1 T C k f (.Assign [.Tuple es n p] v spos) (.asg (.tup is) m) := fun M ads ρ μ s ro K st ok e Q E q => by
 have hz := varZ_M ho st ro
 refine Assign_Tuple (h M ads ρ μ s _ st ok e _ _ fun v d h' tk kd kk r => ?_) hs hw
 refine asg_sound (s := { s with heap := h', toks := tk }) ok.handled (st.keep kk) ht (fun a ha => hz a (List.mem_append_left _ ha)) r kd fun ρ' h2 tk2 kd2 st2 k2 => ?_
 exact q .next .next ρ' μ M ads h2 tk2 kd2 st2 ((After.of_keep0 kk).trans (Nat.le_refl _) (.of_but k2) hz (st.keep kk).mu.live) trivial
theorem s1_own {x : Str} {p p' lp : Pos} {i : Nat} {xs : List Expr} {as : List ME} (hx : VarOK f (varZ f) x i) (ho : FxOK f) (hs : SEs T C k f xs as) : S1 T C k f (.Assign [.Name x p] (.List xs lp) p') (.own i as) := fun M ads ρ μ s ro K st ok e Q E q => by
 refine wpAny_Assign_Name (wpAny_List (hs M ads ρ μ s _ st ok e lp _ _ fun vs ds h1 tk1 e1 k1 r1 => ⟨by rw [r1.length]; exact e1.1, ?_⟩)) rfl
 have st1 := st.keep k1
 have hk : Keep h1 (h1.push { cls := .type "list", data := .seq vs.toArray }) := keep_push
 have hn : ∀ a ∈ [h1.objs.size], h1.get? a = none := fun a ha => by simp at ha; subst ha; exact new_none (Nat.le_refl _)
 have hpl : (h1.push { cls := .type "list", data := .seq vs.toArray }).PlainList h1.objs.size vs.toArray := ⟨0, Heap.get?_push_size _ rfl⟩
 have st2 := st1.grow (own := [h1.objs.size]) hk hn fun a ha => by simp at ha; subst ha; exact ⟨_, Heap.get?_push_size _ rfl⟩
 have hDn : h1.objs.size ∉ M := fun hm => by obtain ⟨o, e⟩ := st1.mu.live _ hm; rw [hn _ (by simp)] at e; cases e
 have st3 := st2.addAds (D := h1.objs.size) (vs := vs.toArray) (ds := ds) (AccOK.of_not st.inM (by simp) hDn) hpl (by simpa using r1.keep (vis_grow hk hn))
 have r3 : Rep (vis (h1.push { cls := .type "list", data := .seq vs.toArray }) ([h1.objs.size] ++ M)) (ads ++ [h1.objs.size]) (.ref h1.objs.size) (.ptr μ.length) := .ptr _ _ (by rw [<- st.mu.len]; simp)
 refine store_sound (s := { s with heap := h1.push { cls := .type "list", data := .seq vs.toArray }, toks := tk1 }) st3 hx r3 fun h2 tk2 st4 k2 => ?_
 have hnS : s.heap.get? h1.objs.size = none := by
  cases e : s.heap.get? h1.objs.size with
  | none => rfl
  | some o => have := k1 _ _ e; rw [hn _ (by simp)] at this; cases this
 refine q .next .next _ _ _ _ h2 tk2 e1.2 st4 ⟨fun a h => List.mem_append_right _ h, ⟨[h1.objs.size], rfl, fun a ha => by simp at ha; subst ha; exact hnS⟩, fun a ha => ?_, fun b o hb e => k2 b o (fun hm => hb (List.mem_append_left _ hm)) (hk b o (k1 b o e))⟩ trivial
 rcases List.mem_append.mp ha with ha | ha
 ·simp at ha; subst ha; exact .inr hnS
 ·exact .inl ha
theorem getMethod_listpop {M : Model} {A : Around} {E : Value -> Shared -> Prop} {s : Shared} {a : Addr} {vs : Array Value} (hl : s.heap.PlainList a vs) {pl : Sem Bool} {Q : Value × List Value -> Shared -> Prop}
  (h : Q (.builtin "list.pop", [.ref a]) s) : wpAny M A (getMethod (.ref a) "pop" pl) Q E s := by
 obtain ⟨n, e⟩ := hl
 exact getMethod_builtin ⟨_, e, rfl⟩ PySem.F.plainAttrs_list PySem.F.slot_list_pop PySem.F.type_list_pop (fun b e' => by cases e'; exact ⟨_, e, rfl⟩) h
theorem getMethod_listappend {M : Model} {A : Around} {E : Value -> Shared -> Prop} {s : Shared} {a : Addr} {vs : Array Value} (hl : s.heap.PlainList a vs) {pl : Sem Bool} {Q : Value × List Value -> Shared -> Prop}
  (h : Q (.builtin "list.append", [.ref a]) s) : wpAny M A (getMethod (.ref a) "append" pl) Q E s := by
 obtain ⟨n, e⟩ := hl
 exact PySem.Calls.getMethod_list_append e rfl rfl h
theorem mem_drop_of {l : List Addr} {i ro : Nat} {a : Addr} (e : l[i]? = some a) (h : ro <= i) : a ∈ l.drop ro := by
 rw [List.mem_iff_getElem?]
 exact ⟨i - ro, by rw [List.getElem?_drop, show ro + (i - ro) = i by grind]; exact e⟩
theorem ptr_of_mutAt {hO h : Heap} {M ads : List Addr} {μ : List MV} (m : MuAt hO M ads μ h) {v : Value} {x : PV} {ro : Nat} {K : Nat -> List PV -> Prop} (r : Rep (vis h M) ads v x) (e : mutAt μ ro x K) :
  ∃ i l a vs, x = .ptr i /\ μ[i]? = some (.list l) /\ ro <= i /\ K i l /\ v = .ref a /\ ads[i]? = some a /\ h.PlainList a vs /\ Reps (vis h M) ads vs.toList l := by
 obtain ⟨i, l, rfl, h1, h2, h3⟩ := mutAt_inv e
 obtain ⟨a, vs, h4, h5, h6, h7⟩ := m.at r h1
 exact ⟨i, l, a, vs, rfl, h1, h2, h3, h4, h5, h6, h7⟩
theorem append_mut {M ads : List Addr} {ρ : Env'} {μ : List MV} {s : Shared} (st : St f M ads ρ μ s.heap) {i ro : Nat} {l : List PV} {a : Addr} {vs : Array Value} (ha : ads[i]? = some a) (hro : ro <= i) (hpl : s.heap.PlainList a vs) (hr : Reps (vis s.heap M) ads vs.toList l)
  {v : Value} {d : PV} (rv : Rep (vis s.heap M) ads v d) (hsz : l.length < sizeLine) {Q : Value -> Shared -> Prop} {E : Value -> Shared -> Prop}
  (q : ∀ h', St f M ads ρ (μ.set i (.list (l ++ [d]))) h' -> KeepBut (ads.drop ro) s.heap h' -> Q .none { s with heap := h' }) : wpAny (model pw f.w) f.A (call (.builtin "list.append") [.ref a, v]) Q E s := by
 have hlen := hr.length
 simp at hlen
 refine wpAny_list_append_plain hpl (fun h' hl hs => ?_) (by lia)
 exact q h' (st.setMut ha hs hl (by rw [Array.toList_push]; exact hr.append (.cons _ _ _ _ rv .nil))) (sameBut_keep hs (mem_drop_of ha hro))
theorem pop_mut {M ads : List Addr} {ρ : Env'} {μ : List MV} {s : Shared} (st : St f M ads ρ μ s.heap) {i ro : Nat} {l : List PV} {a : Addr} {vs : Array Value} (ha : ads[i]? = some a) (hro : ro <= i) (hpl : s.heap.PlainList a vs) (hr : Reps (vis s.heap M) ads vs.toList l)
  (hne : l ≠ []) (hsz : l.length <= sizeLine) {Q : Value -> Shared -> Prop} {E : Value -> Shared -> Prop}
  (q : ∀ v h', St f M ads ρ (μ.set i (.list l.dropLast)) h' -> KeepBut (ads.drop ro) s.heap h' -> Rep (vis h' M) ads v (l.getLastD .none) -> Q v { s with heap := h' }) : wpAny (model pw f.w) f.A (call (.builtin "list.pop") [.ref a]) Q E s := by
 have hlen := hr.length
 simp at hlen
 obtain ⟨y, hy, ry⟩ := hr.last hne
 refine pop_raw hpl hy (by lia) fun h' ws hl hw hs => ?_
 have hr2 : Reps (vis s.heap M) ads ws.toList l.dropLast := by
  rw [hw, List.dropLast_eq_take, List.dropLast_eq_take, hr.length]; exact hr.take _
 have st' := st.setMut ha hs hl hr2
 refine q y h' st' (sameBut_keep hs (mem_drop_of ha hro)) (ry.keep (vis_keep fun b o hb e => sameBut_at hs (fun (e' : b = a) => hb (by rw [e']; exact st.mu.adsM a (List.mem_of_getElem? ha))) o e))
theorem After.of_drop {ro : Nat} {M ads : List Addr} {h h' : Heap} (k : KeepBut (ads.drop ro) h h') : After f ro M ads h M ads h' :=
 ⟨fun a ha => ha, ⟨[], by simp, by simp⟩, fun a ha => .inl ha, k.mono fun a ha => List.mem_append_right _ ha⟩
theorem s1_app {o e1 : Expr} {m m1 : ME} {apos pos p : Pos} (ho : FxOK f) (h0 : SE T C k f o m) (h1 : SE T C k f e1 m1) (hb : ∀ whole, attributeBase o "append" f.env whole = whole) (hp : noStar [e1] = true) (hline : (apos.endLine == pos.line) = true)
  (hi : interactive f.env = false) : S1 T C k f (.Expr (.Call (.Attribute o "append" apos) [e1] [] pos) p) (.app m m1) := fun M ads ρ μ s ro K st ok e Q E q => by
 have hz := varZ_M ho st ro
 refine wpAny_Expr_any (meth_call hb hp (by simp) hline (h0 M ads ρ μ s _ st ok e _ _ fun v d h1' tk1 e1' k1 r1 => ?_)) hi rfl
 have st1 := st.keep k1
 obtain ⟨e0, e1'⟩ := e1'
 obtain ⟨i, l, a, vs, rfl, hm, hro, -, rfl, ha, hpl, hrs⟩ := ptr_of_mutAt st1.mu r1 e0
 refine ⟨"list.append", [.ref a], fun pl P hP => getMethod_listappend (s := { s with heap := h1', toks := tk1 }) hpl hP, ?_⟩
 refine callWith_builtin (noStar_any hp _ _) (args1_go h1 hp (s := { s with heap := h1', toks := tk1 }) st1 ok e1' fun v d h2 tk2 e2 k2 rv => ?_)
 replace e2 : match μ[i]? with | some (.list l) => ro <= i /\ l.length < sizeLine /\ K .next ρ (μ.set i (.list (l ++ [d]))) | _ => False := e2
 rw [hm] at e2
 refine append_mut (s := { s with heap := h2, toks := tk2 }) (st1.keep k2) ha hro (hpl.at fun o e => k2 _ _ e) (hrs.keep (vis_keepK k2)) rv e2.2.1 fun h3 st3 k3 => ?_
 exact q .next .next ρ _ M ads h3 tk2 e2.2.2 st3 ((After.of_keep0 (k1.trans k2)).trans (Nat.le_refl _) (.of_drop k3) hz (st1.keep k2).mu.live) trivial
theorem pop_call {o : Expr} {m : ME} {apos pos : Pos} (h0 : SE T C k f o m) (hb : ∀ whole, attributeBase o "pop" f.env whole = whole) (hline : (apos.endLine == pos.line) = true)
  {M ads : List Addr} {ρ : Env'} {μ : List MV} {s : Shared} {ro : Nat} {K : Nat -> List PV -> Prop} (st : St f M ads ρ μ s.heap) (ok : AOk k f.A) (e : EV T C ρ μ m fun x => mutAt μ ro x fun i l => (l ≠ [] /\ l.length <= sizeLine) /\ K i l) {Q : Value -> Shared -> Prop} {E : Value -> Shared -> Prop}
  (q : ∀ v i l h' tk, K i l -> μ[i]? = some (.list l) -> St f M ads ρ (μ.set i (.list l.dropLast)) h' -> KeepBut (ads.drop ro) s.heap h' -> Rep (vis h' M) ads v (l.getLastD .none) -> Q v { s with heap := h', toks := tk }) :
  wpAny (model pw f.w) f.A (eval (.Call (.Attribute o "pop" apos) [] [] pos) f.env) Q E s := by
 refine meth_call hb rfl (by decide) hline (h0 M ads ρ μ s _ st ok e _ _ fun v d h1' tk1 e1' k1 r1 => ?_)
 have st1 := st.keep k1
 obtain ⟨i, l, a, vs, rfl, hm, hro, ⟨hne, hK⟩, rfl, ha, hpl, hrs⟩ := ptr_of_mutAt st1.mu r1 e1'
 refine ⟨"list.pop", [.ref a], fun pl P hP => getMethod_listpop (s := { s with heap := h1', toks := tk1 }) hpl hP, ?_⟩
 refine callWith_builtin (noStar_any (es := []) rfl _ _) (evalArgs_nilS (wpAny_items_nil (env := f.env) (pos := pos) (pop_mut (s := { s with heap := h1', toks := tk1 }) st1 ha hro hpl hrs hne.1 hne.2 fun v h2 st2 k2 r2 => ?_)))
 exact q v i l h2 tk1 hK hm st2 (fun b o hb e => k2 b o hb (k1 b o e)) r2
theorem s1_popD {o : Expr} {m : ME} {apos pos p : Pos} (ho : FxOK f) (h0 : SE T C k f o m) (hb : ∀ whole, attributeBase o "pop" f.env whole = whole) (hline : (apos.endLine == pos.line) = true)
  (hi : interactive f.env = false) : S1 T C k f (.Expr (.Call (.Attribute o "pop" apos) [] [] pos) p) (.popD m) := fun M ads ρ μ s ro K st ok e Q E q => by
 exact wpAny_Expr_any (pop_call h0 hb hline st ok e fun v i l h' tk kd hm st' kk r => q .next .next ρ _ M ads h' tk kd st' (.of_drop kk) trivial) hi rfl
theorem s1_pop {x : Str} {px p : Pos} {j : Nat} {o : Expr} {m : ME} {apos pos : Pos} (hx : VarOK f (varZ f) x j) (ho : FxOK f) (h0 : SE T C k f o m) (hb : ∀ whole, attributeBase o "pop" f.env whole = whole) (hline : (apos.endLine == pos.line) = true) :
  S1 T C k f (.Assign [.Name x px] (.Call (.Attribute o "pop" apos) [] [] pos) p) (.pop j m) := fun M ads ρ μ s ro K st ok e Q E q => by
 have hz := varZ_M ho st ro
 refine wpAny_Assign_Name (pop_call h0 hb hline st ok e fun v i l h' tk kd hm st' kk r => ?_) rfl
 refine store_sound (s := { s with heap := h', toks := tk }) st' hx r fun h2 tk2 st2 k2 => ?_
 exact q .next .next _ _ M ads h2 tk2 kd st2 ((After.of_drop kk).trans (Nat.le_refl _) (.of_but k2) hz st'.mu.live) trivial
theorem s1_appc {o o2 : Expr} {m mo mo2 : ME} {apos pos p apos2 pos2 : Pos} {scope : Scope} {cx' : List (Str × Nat)} {nl : Nat} {elt tgt : Expr} {cpos : Pos} {j : Nat} (ho : FxOK f) (h0 : SE T C k f o mo) (h2 : SE T C k f o2 mo2) (hb : ∀ whole, attributeBase o "append" f.env whole = whole) (hline : (apos.endLine == pos.line) = true)
  (hi : interactive f.env = false) (hb2 : ∀ whole, attributeBase o2 "pop" f.env whole = whole) (hline2 : (apos2.endLine == pos2.line) = true) (X : CompSt f scope cx' nl)
  (hs : ∀ x, foldedSetIterable (.Call (.Attribute o2 "pop" apos2) [] [] pos2) f.env x = pure x) (htg : TgtSh scope.names cx' tgt (.name j)) (hsub : ∀ f', CompFx f f' scope cx' nl -> SE T C k f' elt m) :
  S1 T C k f (.Expr (.Call (.Attribute o "append" apos) [.ListComp elt [⟨tgt, .Call (.Attribute o2 "pop" apos2) [] [] pos2, [], 0⟩] scope cpos] [] pos) p) (.appc mo m nl j mo2) := fun M ads ρ μ s ro K st ok e Q E q => by
 have hz := varZ_M ho st ro
 refine wpAny_Expr_any (meth_call hb rfl (by simp) hline (h0 M ads ρ μ s _ st ok e _ _ fun v d h1' tk1 e1' k1 r1 => ?_)) hi rfl
 have st1 := st.keep k1
 obtain ⟨e0, e1'⟩ := e1'
 obtain ⟨i, l, a, vs, rfl, hm, hro, -, rfl, ha, hpl, hrs⟩ := ptr_of_mutAt st1.mu r1 e0
 refine ⟨"list.append", [.ref a], fun pl P hP => getMethod_listappend (s := { s with heap := h1', toks := tk1 }) hpl hP, ?_⟩
 have key : wpAny (model pw f.w) f.A (spliced (backTo pos (starEach [.ListComp elt [⟨tgt, .Call (.Attribute o2 "pop" apos2) [] [] pos2, [], 0⟩] scope cpos] f.env))) (fun vs s₂ => wpAny (model pw f.w) f.A (call (.builtin "list.append") ([.ref a] ++ vs) []) (fun _ => Q .next) E s₂) E { s with heap := h1', toks := tk1 } := ?_
 ·exact callWith_builtin rfl (evalArgs_plain key)
 refine wpAny_items_cons ?_ rfl
 have hnames : ∀ x ∈ scope.names, x.2 = .local -> scope.names.lookup x.1 = some .local := fun x hx h => lookup_of_mem_nodup X.nod (by rw [<- h]; exact hx)
 have hfr : ∀ x ∈ scope.names, x.2 = .free -> ∃ a, f.env.cells.lookup x.1 = some a := fun x hx h => by
  have := X.free x.1 (lookup_of_mem_nodup X.nod (by rw [<- h]; exact hx))
  obtain ⟨c, ov, e1, _⟩ := st.cells x.1 this
  exact ⟨c, e1⟩
 refine wpAny_comprehension_free (cl := clOf f.env.cells scope.names []) rfl hs (closureFor_eq hfr) X.kind hnames ?_
 refine pop_call (s := { s with heap := h1', toks := tk1 }) h2 hb2 hline2 st1 ok e1' fun v i2 l2 h2 tk2 kd hm2 st2 kk2 r2 => ?_
 have go : ∀ items, (freeT (.name j) (ρ ++ List.replicate nl none) /\ compLoop (fun ρ1 acc1 K1 => EV T C ρ1 (μ.set i2 (.list l2.dropLast)) m fun d => acc1.length < sizeLine /\ K1 (acc1 ++ [d])) (.name j) (ρ ++ List.replicate nl none) items [] fun out =>
    mutAt (μ.set i2 (.list l2.dropLast)) ro (.ptr i) fun i2' l2' => l2'.length < sizeLine /\ K .next ρ ((μ.set i2 (.list l2.dropLast)).set i2' (.list (l2' ++ [.list out])))) ->
   IterQ f M ads ρ (μ.set i2 (.list l2.dropLast)) { s with heap := h2, toks := tk2 } ads tgt items (fun it s₂ => wpAny (model pw f.w) f.A (newList []) (fun acc s₃ => wpAny (model pw f.w) f.A (newFunctionEnv scope f.env.globals (clOf f.env.cells scope.names []) [] f.env.qual none .none (some f.env)) (fun cenv s₄ =>
    codeAny (model pw f.w) f.A (.compStart (.ListComp elt [⟨tgt, .Call (.Attribute o2 "pop" apos2) [] [] pos2, [], 0⟩] scope cpos) 0 it acc { cenv with scope := relabel scope f.env })
     (compPost (model pw f.w) f.A E none (fun v s₁ => wpAny (model pw f.w) f.A (spliced (backTo pos (starEach [] f.env))) (fun vs s₂ => wpAny (model pw f.w) f.A (call (.builtin "list.append") ([.ref a] ++ (v :: vs)) []) (fun _ => Q .next) E s₂) E s₁) acc cenv.locals) s₄) E s₃) E s₂) := fun items ei I own h3 tk3 S k3 st3 hn3 src hS => by
  refine comp_tail (s := s) (mg := []) (ms := []) X htg (fun f' hf' => ⟨ifs_nil, .nil (hsub f' hf')⟩) ok (K := fun d => mutAt (μ.set i2 (.list l2.dropLast)) ro (.ptr i) fun i2' l2' => l2'.length < sizeLine /\ K .next ρ ((μ.set i2 (.list l2.dropLast)).set i2' (.list (l2' ++ [d])))) st3 st2.inM (fresh_notM st2 hn3) src hS ei fun v3 out h4 tk4 k4 kk4 st4 r4 => wpAny_items_nil ?_
  obtain ⟨i4, l4, e4, hm4, hro4, hK4⟩ := mutAt_inv k4
  cases e4
  have ka4 : KeepBut (ads.drop ro) h1' h4 := fun b o hb e => kk4 b o (fun hm => by
   have h : h2.get? b = some o := kk2 b o hb e
   rw [show h2.get? b = none from hn3 b hm] at h; cases h) (k3 b o (kk2 b o hb e))
  obtain ⟨a4, vs4, e5, ha4, hpl4, hr4⟩ := st4.mu.at (v := .ref a) (.ptr a i ha) hm4
  cases e5
  refine append_mut (s := { s with heap := h4, toks := tk4 }) st4 ha hro hpl4 hr4 r4 hK4.1 fun h5 st5 k5 => ?_
  exact q .next .next ρ _ M ads h5 tk4 hK4.2 st5 ((After.of_keep0 k1).trans (Nat.le_refl _) (.of_drop (ka4.trans k5)) hz st1.mu.live) trivial
 generalize l2.getLastD .none = d2 at kd r2
 cases d2 with
 | list =>
  obtain ⟨a2, vs2, rfl, hs2, rs2⟩ := r2.listI
  exact iter_list (s := { s with heap := h2, toks := tk2 }) ok.handled htg.shape st2 hs2.list (.inr (let ⟨o, e, _⟩ := hs2; ⟨o, e⟩)) rs2 (go _ kd)
 | str =>
  obtain ⟨t, rfl⟩ := r2.strI
  exact iter_str (s := { s with heap := h2, toks := tk2 }) ok.handled htg.shape st2 (go _ kd)
 | _ => exact False.elim kd
end
mutual
noncomputable def noPtr : PV -> Bool
 | .ptr _ => false
 | .tab _ => false
 | .ftab l => noPtrs l
 | .list l => noPtrs l
 | .tup l => noPtrs l
 | _ => true
noncomputable def noPtrs : List PV -> Bool
 | [] => true
 | d :: r => noPtr d && noPtrs r
end
theorem Rep.noPtr {g : Part} {ads ads' : List Addr} {v d} (r : Rep g ads v d) (h : noPtr d = true) : Rep g ads' v d :=
 Rep.rec (motive_1 := fun v d _ => Mine.noPtr d = true -> Rep g ads' v d) (motive_2 := fun vs ds _ => noPtrs ds = true -> Reps g ads' vs ds) (fun _ => .none) (fun b _ => .bool b) (fun i t _ => .int i t) (fun s t _ => .str s t) (fun a vs ds e _ ih h => .list a vs ds e (ih h)) (fun a vs ds e _ ih h => .tup a vs ds e (ih h)) (fun _ _ _ h => nomatch h) (fun _ _ _ _ _ h => nomatch h) (fun a l vs ds x e _ ih h => .ftab a l vs ds x e (ih h)) (fun a _ => .ob a) (fun _ => .nil) (fun v d vs ds _ _ a r h => .cons v d vs ds (a (Bool.and_eq_true_iff.mp h).1) (r (Bool.and_eq_true_iff.mp h).2)) r h
theorem noPtrs_iff {l : List PV} : noPtrs l = true ↔ ∀ d ∈ l, noPtr d = true := by
 induction l with
 | nil => exact ⟨(fun _ _ h => nomatch h), fun _ => rfl⟩
 | cons d r ih => exact ⟨fun h => List.forall_mem_cons.mpr ⟨(Bool.and_eq_true_iff.mp h).1, ih.mp (Bool.and_eq_true_iff.mp h).2⟩, fun h => Bool.and_eq_true_iff.mpr ⟨(List.forall_mem_cons.mp h).1, ih.mpr (List.forall_mem_cons.mp h).2⟩⟩
theorem Reps.noPtr {g : Part} {ads ads' : List Addr} {vs ds} (r : Reps g ads vs ds) (h : noPtrs ds = true) : Reps g ads' vs ds :=
 r.ind (P := fun vs ds => noPtrs ds = true -> Reps g ads' vs ds) (fun _ => .nil) (fun _ _ _ _ a _ ih h => .cons _ _ _ _ (a.noPtr (Bool.and_eq_true_iff.mp h).1) (ih (Bool.and_eq_true_iff.mp h).2)) h
noncomputable def outR (μ : List MV) (d : PV) (K : PV -> Prop) : Prop := match d with
 | .ptr i => match μ[i]? with
  | some (.list l) => noPtrs l = true /\ K (.list l)
  | _ => False
 | .tab i => match μ[i]? with
  | some (.list l) => noPtrs l = true /\ K (.ftab l)
  | _ => False
 | d => noPtr d = true /\ K d
noncomputable def FC (T : Tabs) (C : CT) (np n : Nat) (ms : List MS) (ds : List PV) (K : PV -> Prop) : Prop :=
 ds.length = np /\ noPtrs ds = true /\ EX T C 0 (ds.map some ++ List.replicate (n - np) none) [] ms fun fl _ μ => match fl with
  | .ret d => outR μ d K
  | .next => K .none
  | _ => False
structure FnB (fd : FuncData) (ps ls : List Str) (body : List Stmt) : Prop where
 glob : fd.globals = mainGlobals
 blt : fd.builtins = builtinsNs
 clo : fd.closure = []
 body : fd.body = .stmts body
 co : fd.scope.isCoroutine = false
 gen : fd.scope.isGenerator = false
 kind : fd.scope.kind = .function
 nod : (fd.scope.names.map (·.1)).Nodup
 cxn : (ps ++ ls).Nodup
 par : ∀ x ∈ ps, fd.scope.names.lookup x = some .local ∨ fd.scope.names.lookup x = some .cell
 nofree : ∀ x : Str × NameKind, x ∈ fd.scope.names -> x.2 ≠ .free
structure FnOk (fd : FuncData) (ps ls : List Str) (body : List Stmt) : Prop extends FnB fd ps ls body where
 bind : ∀ vs : List Value, vs.length = ps.length -> bindArgs fd ⟨vs, []⟩ = pure (ps.zip vs)
theorem zipIdx_lookup : ∀ (l : List Str) (o : Nat) (x : Str) (i : Nat), (l.zipIdx o).lookup x = some i -> o <= i /\ l[i - o]? = some x
 | [], o, x, i, h => by simp at h
 | y :: r, o, x, i, h => by
  rw [List.zipIdx_cons, List.lookup_cons] at h
  cases hb : x == y with
  | true =>
   rw [hb] at h
   obtain rfl : o = i := Option.some.inj h
   rw [beq_iff_eq.mp hb]
   simp
  | false =>
   rw [hb] at h
   obtain ⟨h1, h2⟩ := zipIdx_lookup r (o + 1) x i h
   refine ⟨by exact Nat.le_of_lt ‹_›, ?_⟩
   rw [show i - o = (i - (o + 1)) + 1 by grind]; exact h2
theorem bindL_old {kindOf : Str -> Option NameKind} : ∀ (bs : List (Str × Value)) (m : Str -> Option Value) (x : Str), x ∉ bs.map (·.1) -> bindL kindOf bs m x = m x
 | [], m, x, _ => rfl
 | (n, v) :: r, m, x, h => by
  unfold bindL
  simp only [List.map_cons, List.mem_cons, not_or] at h
  rw [bindL_old r _ x h.2]
  split
  ·simp [h.1]
  ·rfl
theorem bindC_old {kindOf : Str -> Option NameKind} : ∀ (bs : List (Str × Value)) (m : Str -> Option Value) (x : Str), x ∉ bs.map (·.1) -> bindC kindOf bs m x = m x
 | [], m, x, _ => rfl
 | (n, v) :: r, m, x, h => by
  unfold bindC
  simp only [List.map_cons, List.mem_cons, not_or] at h
  rw [bindC_old r _ x h.2]
  split
  ·rfl
  ·simp [h.1]
theorem zip_keys : ∀ (ps : List Str) (vs : List Value), vs.length = ps.length -> (ps.zip vs).map (·.1) = ps
 | [], _, _ => rfl
 | p :: ps, [], h => by simp at h
 | p :: ps, v :: vs, h => by simp [zip_keys ps vs (by simpa using h)]
theorem bindL_at {kindOf : Str -> Option NameKind} : ∀ (ps : List Str) (vs : List Value) (m : Str -> Option Value) (i : Nat) (x : Str) (v : Value), vs.length = ps.length -> ps.Nodup -> ps[i]? = some x -> vs[i]? = some v -> kindOf x = some .local -> bindL kindOf (ps.zip vs) m x = some v
 | [], _, _, _, _, _, _, _, h, _, _ => by simp at h
 | p :: ps, [], _, _, _, _, h, _, _, _, _ => by simp at h
 | p :: ps, v :: vs, m, 0, x, w, hl, hn, h1, h2, hk => by
  simp at h1 h2
  subst h1 h2
  rw [List.nodup_cons] at hn
  rw [List.zip_cons_cons]
  unfold bindL
  rw [bindL_old _ _ _ (by rw [zip_keys ps vs (by simpa using hl)]; exact hn.1), if_pos hk]
  simp
 | p :: ps, v :: vs, m, i + 1, x, w, hl, hn, h1, h2, hk => by
  rw [List.nodup_cons] at hn
  exact bindL_at ps vs _ i x w (by simpa using hl) hn.2 (by simpa using h1) (by simpa using h2) hk
theorem bindC_at {kindOf : Str -> Option NameKind} : ∀ (ps : List Str) (vs : List Value) (m : Str -> Option Value) (i : Nat) (x : Str) (v : Value), vs.length = ps.length -> ps.Nodup -> ps[i]? = some x -> vs[i]? = some v -> kindOf x ≠ some .local -> bindC kindOf (ps.zip vs) m x = some v
 | [], _, _, _, _, _, _, _, h, _, _ => by simp at h
 | p :: ps, [], _, _, _, _, h, _, _, _, _ => by simp at h
 | p :: ps, v :: vs, m, 0, x, w, hl, hn, h1, h2, hk => by
  simp at h1 h2
  subst h1 h2
  rw [List.nodup_cons] at hn
  rw [List.zip_cons_cons]
  unfold bindC
  rw [bindC_old _ _ _ (by rw [zip_keys ps vs (by simpa using hl)]; exact hn.1), if_neg hk]
  simp
 | p :: ps, v :: vs, m, i + 1, x, w, hl, hn, h1, h2, hk => by
  rw [List.nodup_cons] at hn
  exact bindC_at ps vs _ i x w (by simpa using hl) hn.2 (by simpa using h1) (by simpa using h2) hk
theorem cellsFrom_nodup : ∀ (names : List (Str × NameKind)) (n : Nat) (acc : List (Str × Addr)), (names.map (·.1)).Nodup -> (acc.map (·.1)).Nodup -> (∀ y ∈ names.map (·.1), y ∉ acc.map (·.1)) -> ((cellsFrom n names acc).map (·.1)).Nodup
 | [], _, _, _, h, _ => h
 | (x, k) :: r, n, acc, h1, h2, h3 => by
  rw [List.map_cons, List.nodup_cons] at h1
  unfold cellsFrom
  split
  ·refine cellsFrom_nodup r _ _ h1.2 ?_ ?_
   ·rw [List.map_cons, List.nodup_cons]; exact ⟨h3 x (by simp), h2⟩
   ·intro y hy hm
    rw [List.map_cons, List.mem_cons] at hm
    rcases hm with hm | hm
    ·exact h1.1 (hm ▸ hy)
    ·exact h3 y (List.mem_cons_of_mem _ hy) hm
  ·exact cellsFrom_nodup r _ _ h1.2 h2 fun y hy => h3 y (List.mem_cons_of_mem _ hy)
structure InFn (f : Fx) (w : World) (hO : Heap) (fd : FuncData) (ps ls : List Str) : Prop where
 w : f.w = w
 hO : f.hO = hO
 scope : f.env.scope = fd.scope
 cx : f.cx = (ps ++ ls).zipIdx
 n : f.n = (ps ++ ls).length
 ok : FxOK f
 inter : interactive f.env = false
 cells : ∀ x, fd.scope.names.lookup x = some .cell -> ∃ c, f.env.cells.lookup x = some c /\ c ∈ varZ f
 bk : f.env.blockKind = .function
theorem InFn.kindOf {f : Fx} {w : World} {hO : Heap} {fd : FuncData} {ps ls : List Str} (I : InFn f w hO fd ps ls) (x : Str) : f.env.kindOf x = fd.scope.names.lookup x := by
 show f.env.scope.names.lookup x = _
 rw [I.scope]
theorem call_enter {k : Nat} {w : World} {hO : Heap} {a : Addr} {o : Obj} {fd : FuncData} {ps ls : List Str} {body : List Stmt}
  (ho : hO.get? a = some o) (hd : o.data = .func fd) (X : FnB fd ps ls body) (hlim : hO.NoLimit) (hcd : hO.CodeRec fd.code fd.qualname) {ds : List PV} {pos : List Value} {kw : List (Str × Value)}
  {A : Around} {M ads : List Addr} {μ : List MV} {s : Shared} {vs : List Value} (hbind : Looks (model pw w) s.heap (bindArgs fd ⟨pos, kw⟩) (ps.zip vs)) (hvl : vs.length = ps.length) (ok : AOk (k + 1) A) (m : MuAt hO M ads μ s.heap) (r : Reps (vis s.heap M) ads vs ds)
  {R : Result -> Shared -> Prop}
  (q : ∀ f h₁ tk M₁, InFn f w hO fd ps ls -> AOk k f.A -> St f M₁ ads (ds.map some ++ List.replicate ((ps ++ ls).length - ps.length) none) μ h₁ -> Keep s.heap h₁ -> (∀ a ∈ M, a ∈ M₁) -> (∀ b ∈ M₁, b ∈ M ∨ s.heap.get? b = none) -> (∀ b ∈ varZ f, s.heap.get? b = none) ->
   ∀ E, wpAny (model pw f.w) f.A (execs body f.env) (fun fl s' => R (.ok (.ret (match fl with | .ret v => v | _ => .none))) s') E { s with heap := h₁, toks := tk }) : codeAny (model pw w) A (.call (.ref a) ⟨pos, kw⟩) R s := by
 have e1 : ds.length = ps.length := by rw [<- r.length, hvl]
 generalize hL : s.heap.objs.size = L
 have hL' : s.heap.objs.size = L := hL
 generalize hcs : cellsFrom (L + 1) fd.scope.names [] = cs
 have hkeys : (cs.map (·.1)).Nodup := by rw [<- hcs]; exact cellsFrom_nodup _ _ [] X.nod (by simp) (by simp)
 have hcell : ∀ x c, (x, c) ∈ cs -> fd.scope.names.lookup x = some .cell /\ cs.lookup x = some c := fun x c hm => by
  refine ⟨?_, lookup_of_mem_nodup hkeys hm⟩
  rcases cellsFrom_mem _ _ [] x c (by rw [hcs]; exact hm) with h | h
  ·cases h
  ·exact lookup_of_mem_nodup X.nod h
 have hsome : ∀ x, fd.scope.names.lookup x = some .cell -> ∃ c, cs.lookup x = some c := fun x hx =>
  lookup_of_key (by rw [<- hcs]; exact cellsFrom_some _ _ [] x (.inl (mem_of_lookup hx)))
 have hnodps : ps.Nodup := (List.nodup_append.mp X.cxn).1
 have hkind : ∀ x ∈ ps.zip vs, fd.scope.names.lookup x.1 = some .local ∨ (fd.scope.names.lookup x.1 = some .cell /\ ((cellsFrom (s.heap.objs.size + 1) fd.scope.names []).lookup x.1).isSome = true) := fun x hx => ?_
 refine codeAny_call_function (fd := fd) (Nat.lt_of_lt_of_le (by have := ok.depth; lia : A.depth < 1000) (by decide)) (m.base _ _ ho) hd X.co X.gen X.body (hcd.keeps m.base) (hbind.here ?_)
 rw [X.clo]
 refine wpAny_newFunctionEnv_cells X.kind hkind fun env he s₁ I => ?_
 subst he
 refine ⟨(hlim.keeps m.base).keeps I.toInCall.keep, codeAny_func ?_⟩
 change InCallC s (callEnvC fd s.heap.objs.size a).locals (bindL (callEnvC fd s.heap.objs.size a).kindOf (ps.zip vs) fun _ => none) (callEnvC fd s.heap.objs.size a).cells (bindC (callEnvC fd s.heap.objs.size a).kindOf (ps.zip vs) fun _ => none) s₁ at I
 show wpAny (model pw w) (A.deeper (callEnvC fd s.heap.objs.size a)) (execs body (callEnvC fd s.heap.objs.size a)) _ _ s₁
 rotate_left
 ·have hx1 : x.1 ∈ ps := by rw [<- zip_keys ps vs hvl]; exact List.mem_map.mpr ⟨x, hx, rfl⟩
  rcases X.par x.1 hx1 with h | h
  ·exact .inl h
  ·obtain ⟨c, hc⟩ := hsome x.1 h
   exact .inr ⟨h, by rw [hL, hcs, hc]; rfl⟩
 rw [hL] at I ⊢
 obtain ⟨h₁, tk, rfl, kk⟩ := I.done
 have hcells : (callEnvC fd L a).cells = cs := hcs
 let f : Fx := { w := w, A := A.deeper (callEnvC fd L a), env := callEnvC fd L a, hO := hO, cx := (ps ++ ls).zipIdx, n := (ps ++ ls).length }
 have hfx : FxOK f := fun p hp => by
  have hp : p ∈ cs := by rw [<- hcells]; exact hp
  obtain ⟨h1, h2⟩ := hcell p.1 p.2 hp
  exact ⟨.inl h1, by show (callEnvC fd L a).cells.lookup p.1 = _; rw [hcells]; exact h2⟩
 have hI : InFn f w hO fd ps ls := ⟨rfl, rfl, rfl, rfl, rfl, hfx, by
   show (fd.scope.kind == .module && _) = false
   rw [X.kind]; rfl, fun x hx => by
   obtain ⟨c, hc⟩ := hsome x hx
   exact ⟨c, by show (callEnvC fd L a).cells.lookup x = _; rw [hcells]; exact hc, List.mem_cons_of_mem _ (List.mem_map.mpr ⟨(x, c), by show _ ∈ (callEnvC fd L a).cells; rw [hcells]; exact mem_of_lookup hc, rfl⟩)⟩, by
   show (if fd.scope.kind.isAnnotationScope then _ else fd.scope.kind) = _
   rw [X.kind]; rfl⟩
 have hown : ∀ b ∈ L :: cs.map (·.2), L <= b := fun b hb => by
  rcases List.mem_cons.mp hb with rfl | hb
  ·exact Nat.le_refl _
  ·obtain ⟨p, hp, rfl⟩ := List.mem_map.mp hb
   exact Nat.le_of_lt (I.above p.1 p.2 (by rw [hcells]; exact hp))
 have hnew : ∀ b ∈ L :: cs.map (·.2), s.heap.get? b = none := fun b hb => new_none (by rw [hL]; exact hown b hb)
 have hlive : ∀ b ∈ L :: cs.map (·.2), ∃ o, h₁.get? b = some o := fun b hb => by
  rcases List.mem_cons.mp hb with rfl | hb
  ·obtain ⟨o, es, ep, e, _⟩ := I.toInCall.ns; exact ⟨o, e⟩
  ·obtain ⟨p, hp, rfl⟩ := List.mem_map.mp hb
   obtain ⟨o, e, _⟩ := I.cell p.1 p.2 (by rw [hcells]; exact (hcell p.1 p.2 hp).2)
   exact ⟨o, e⟩
 have hcx : ∀ x i, f.cx.lookup x = some i -> (ps ++ ls)[i]? = some x := fun x i h => by
  have := (zipIdx_lookup (ps ++ ls) 0 x i h).2; simpa using this
 have harg : ∀ x i d, f.cx.lookup x = some i -> (ds.map some ++ List.replicate ((ps ++ ls).length - ps.length) none)[i]? = some (some d) -> ps[i]? = some x /\ ∃ v, vs[i]? = some v /\ Rep (vis h₁ (L :: cs.map (·.2) ++ M)) ads v d := fun x i d h1 h2 => by
  by_cases hi : i < ps.length
  ·rw [List.getElem?_append_left (by simp; lia)] at h2
   simp at h2
   obtain ⟨v, hv, rv⟩ := r.get h2
   have hx := hcx x i h1
   rw [List.getElem?_append_left hi] at hx
   exact ⟨hx, v, hv, rv.keep (vis_grow kk hnew)⟩
  ·rw [List.getElem?_append_right (by simp; lia), List.getElem?_replicate] at h2
   split at h2 <;> simp at h2
 have st : St f (L :: cs.map (·.2) ++ M) ads (ds.map some ++ List.replicate ((ps ++ ls).length - ps.length) none) μ h₁ := {
  mu := {
   base := fun b o e => kk b o (m.base b o e)
   fresh := fun b hb => by
    rcases List.mem_append.mp hb with hb | hb
    ·cases e : hO.get? b with
     | none => rfl
     | some o => have := m.base _ _ e; rw [hnew b hb] at this; cases this
    ·exact m.fresh b hb
   live := fun b hb => by
    rcases List.mem_append.mp hb with hb | hb
    ·exact hlive b hb
    ·obtain ⟨o, e⟩ := m.live b hb; exact ⟨o, kk _ _ e⟩
   adsM := fun b hb => List.mem_append_right _ (m.adsM b hb)
   nod := m.nod
   len := m.len
   mus := fun i a mv e1 e2 => by
    cases m.mus i a mv e1 e2 with
    | list vs ds e r => exact .list vs ds (e.at fun o e => kk _ _ e) (r.keep (vis_grow kk hnew)) }
  kind := X.kind
  glob := X.glob
  blt := X.blt
  locM := List.mem_append_left _ List.mem_cons_self
  locA := fun h => by
   obtain ⟨o, e⟩ := m.live _ (m.adsM _ h)
   rw [hnew _ (by show L ∈ _; exact List.mem_cons_self)] at e; cases e
  ns := ⟨_, I.toInCall.ns, fun x i d h1 h2 h3 => by
   obtain ⟨hx, v, hv, rv⟩ := harg x i d h1 h3
   exact ⟨v, bindL_at ps vs _ i x v hvl hnodps hx hv h2, rv⟩⟩
  cells := fun x hx => by
   have hx : fd.scope.names.lookup x = some .cell := by
    rcases hx with hx | hx
    ·exact hx
    ·exact absurd rfl (X.nofree _ (mem_of_lookup hx))
   obtain ⟨c, hc⟩ := hsome x hx
   have hcm := mem_of_lookup hc
   refine ⟨c, bindC (callEnvC fd L a).kindOf (ps.zip vs) (fun _ => none) x, by show (callEnvC fd L a).cells.lookup x = _; rw [hcells]; exact hc, I.cell x c (by rw [hcells]; exact hc), List.mem_append_left _ (List.mem_cons_of_mem _ (List.mem_map.mpr ⟨_, hcm, rfl⟩)), fun h => ?_, fun e => ?_, fun i d h1 h3 => ?_⟩
   ·obtain ⟨o, e⟩ := m.live _ (m.adsM _ h)
    rw [hnew c (List.mem_cons_of_mem _ (List.mem_map.mpr ⟨_, hcm, rfl⟩))] at e; cases e
   ·have := I.above x c (by rw [hcells]; exact hcm)
    rw [e] at this
    exact absurd this (Nat.lt_irrefl _)
   ·obtain ⟨hx', v, hv, rv⟩ := harg x i d h1 h3
    exact ⟨v, bindC_at ps vs _ i x v hvl hnodps hx' hv (by show fd.scope.names.lookup x ≠ _; rw [hx]; simp), rv⟩
  apart := fun x y c h1 h2 => by
   have h1 : cs.lookup x = some c := by rw [<- hcells]; exact h1
   have h2 : cs.lookup y = some c := by rw [<- hcells]; exact h2
   exact name_of_addr (by rw [<- hcells]; exact I.apart) (mem_of_lookup h1) (mem_of_lookup h2)
  inj := fun x y i h1 h2 => by
   have := hcx x i h1; rw [hcx y i h2] at this; exact (Option.some.inj this).symm
  len := by
   show (ds.map some ++ List.replicate ((ps ++ ls).length - ps.length) none).length = (ps ++ ls).length
   simp; lia
  bnd := fun x i h => by
   have := hcx x i h
   exact (List.getElem?_eq_some_iff.mp this).1 }
 have okf : AOk k f.A := ⟨ok.handled, by have := ok.depth; show A.depth + 1 + k < 1000; lia, by have := ok.units; show A.units + 3 + 10 * k + 1000 < 9000; lia⟩
 have hzv : ∀ b ∈ varZ f, s.heap.get? b = none := fun b hb => hnew b (by
  rcases List.mem_cons.mp hb with rfl | hb
  ·exact List.mem_cons_self
  ·rw [hcells] at hb
   exact List.mem_cons_of_mem _ hb)
 exact q f h₁ tk _ hI okf st kk (fun b hb => List.mem_append_right _ hb) (fun b hb => by
  rcases List.mem_append.mp hb with hb | hb
  ·exact .inr (hnew b hb)
  ·exact .inl hb) hzv _
theorem call_raw {T : Tabs} {C : CT} {k : Nat} {w : World} {hO : Heap} {a : Addr} {o : Obj} {fd : FuncData} {ps ls : List Str} {body : List Stmt} {ms : List MS}
  (ho : hO.get? a = some o) (hd : o.data = .func fd) (X : FnB fd ps ls body) (hlim : hO.NoLimit) (hcd : hO.CodeRec fd.code fd.qualname)
  (hb : ∀ f, InFn f w hO fd ps ls -> SS T C k f body ms) {ds : List PV} {pos : List Value} {kw : List (Str × Value)}
  {A : Around} {M ads : List Addr} {μ : List MV} {s : Shared} {vs : List Value} (hbind : Looks (model pw w) s.heap (bindArgs fd ⟨pos, kw⟩) (ps.zip vs)) (hvl : vs.length = ps.length) (ok : AOk (k + 1) A) (m : MuAt hO M ads μ s.heap) (r : Reps (vis s.heap M) ads vs ds)
  {K : Fl -> List MV -> Prop} (e3 : EX T C 0 (ds.map some ++ List.replicate ((ps ++ ls).length - ps.length) none) μ ms fun fl _ μ' => K fl μ')
  {Q : Value -> Shared -> Prop} {E : Value -> Shared -> Prop}
  (q : ∀ fl fl' μ' M' ads' h' tk, K fl' μ' -> KeepBut ads s.heap h' -> MuAt hO M' ads' μ' h' -> (∀ a ∈ M, a ∈ M') -> (∃ more, ads' = ads ++ more /\ ∀ a ∈ more, s.heap.get? a = none) -> (∀ a ∈ M', a ∈ M ∨ s.heap.get? a = none) ->
   FlowRep (vis h' M') ads' fl fl' -> Q (match fl with | .ret v => v | _ => .none) { s with heap := h', toks := tk }) : wpAny (model pw w) A (call (.ref a) pos kw) Q E s := by
 refine wpAny_call (call_enter ho hd X hlim hcd hbind hvl ok m r fun f h₁ tk M₁ hI okf st kk hM hN hzv E' => ?_)
 refine hb f hI _ _ _ _ { s with heap := h₁, toks := tk } 0 _ st okf e3 _ _ fun fl fl' ρ' μ' M' ads' h' tk' kd st' af fr => ?_
 have kfin : KeepBut ads s.heap h' := fun b o hb e => af.keep b o (fun hm => by
  rcases List.mem_append.mp hm with hm | hm
  ·rw [hzv b hm] at e; cases e
  ·exact hb hm) (kk b o e)
 obtain ⟨more, hmo, hmore⟩ := af.more
 have hgone : ∀ x, h₁.get? x = none -> s.heap.get? x = none := fun x hx => by
  cases e : s.heap.get? x with
  | none => rfl
  | some o => have := kk _ _ e; rw [hx] at this; cases this
 have fin := q fl fl' μ' M' ads' h' tk' kd kfin (by rw [<- hI.hO]; exact st'.mu) (fun b hb => af.mem b (hM b hb)) ⟨more, hmo, fun x hx => hgone x (hmore x hx)⟩ (fun x hx => by
  rcases af.new x hx with hx | hx
  ·exact hN x hx
  ·exact .inr (hgone x hx)) fr
 cases fl <;> exact fin
theorem MuAt.none {hO h : Heap} {M ads : List Addr} {μ : List MV} (m : MuAt hO M ads μ h) : MuAt hO M [] [] h :=
 ⟨m.base, m.fresh, m.live, fun _ h => (nomatch h), List.nodup_nil, rfl, fun i a mv e1 _ => by simp at e1⟩
theorem call_fn {T : Tabs} {C : CT} {k : Nat} {w : World} {hO : Heap} {a : Addr} {o : Obj} {fd : FuncData} {ps ls : List Str} {body : List Stmt} {ms : List MS}
  (ho : hO.get? a = some o) (hd : o.data = .func fd) (X : FnOk fd ps ls body) (hlim : hO.NoLimit) (hcd : hO.CodeRec fd.code fd.qualname)
  (hb : ∀ f, InFn f w hO fd ps ls -> SS T C k f body ms) {ds : List PV} {K : PV -> Prop} (e : FC T C ps.length (ps ++ ls).length ms ds K)
  {A : Around} {M ads : List Addr} {μ : List MV} {s : Shared} {vs : List Value} (ok : AOk (k + 1) A) (m : MuAt hO M ads μ s.heap) (r : Reps (vis s.heap M) ads vs ds) : Go w A M ads (call (.ref a) vs) s K := fun Q E q => by
 obtain ⟨e1, e2, e3⟩ := e
 have hvl : vs.length = ps.length := by rw [r.length, e1]
 refine call_raw ho hd X.toFnB hlim hcd hb (Looks.of_pure (X.bind vs hvl)) hvl ok m.none (Reps.noPtr r e2) e3 fun fl fl' μ' M' ads' h' tk' kd kfin m' hM hmo _ fr => ?_
 have kfin : Keep s.heap h' := fun b o e => kfin b o (fun h => by cases h) e
 have vfin : ∀ b o, vis h' M' b = some o -> vis h' M b = some o := vis_less hM
 cases fl <;> cases fl' <;> try (exact fr.elim)
 ·exact q .none .none h' tk' kd kfin .none
 ·exact kd.elim
 ·exact kd.elim
 ·rename_i v d
  have kd : outR μ' d K := kd
  unfold outR at kd
  split at kd
  ·split at kd
   ·rename_i l hm
    obtain ⟨b, ws, rfl, hb1, hb2, hb3⟩ := m'.at fr hm
    obtain ⟨more, hmo, hmore⟩ := hmo
    have hbm : b ∈ more := by
     rw [hmo] at hb1
     exact List.mem_of_getElem? (by simpa using hb1)
    have hbM : b ∉ M := fun hm => by
     obtain ⟨o, e⟩ := m.live b hm
     rw [hmore b hbm] at e; cases e
    obtain ⟨nn, hnn⟩ := hb2
    exact q (.ref b) (.list l) h' tk' kd.2 kfin (.list b ws l ⟨_, vis_of hnn hbM, rfl, nn, rfl⟩ ((Reps.noPtr hb3 kd.1).keep vfin))
   ·exact kd.elim
  ·split at kd
   ·rename_i l hm
    cases fr with
    | tab b lst i' hx hl =>
    obtain ⟨more, hmo, hmore⟩ := hmo
    have hbm : lst ∈ more := by
     rw [hmo] at hl
     exact List.mem_of_getElem? (by simpa using hl)
    have hbM : lst ∉ M := fun hm => by
     obtain ⟨o, e⟩ := m.live _ hm
     rw [hmore _ hbm] at e; cases e
    cases m'.mus _ lst _ hl hm with
    | list ws ds h1 h2 =>
    obtain ⟨nn, hnn⟩ := h1
    exact q (.ref b) (.ftab l) h' tk' kd.2 kfin (.ftab b lst ws l (hx.mono vfin) ⟨_, vis_of hnn hbM, rfl, nn, rfl⟩ ((Reps.noPtr h2 kd.1).keep vfin))
   ·exact kd.elim
  ·exact q v d h' tk' kd.2 kfin ((Rep.noPtr fr kd.1).keep vfin)
theorem St.store_raw {f : Fx} {M ads : List Addr} {ρ : Env'} {μ : List MV} {h h' : Heap} (st : St f M ads ρ μ h) {x : Str} {i : Nat} {v : Value} (hx : f.cx.lookup x = some i) (hk : f.env.kindOf x = some .local) (hi : ρ[i]? = some none)
  {m : Str -> Option Value} (hv : ∀ x (i : Nat) d, f.cx.lookup x = some i -> f.env.kindOf x = some .local -> ρ[i]? = some (some d) -> ∃ v, m x = some v /\ Rep (vis h M) ads v d)
  (hn : h'.Ns f.env.locals (fun y => if y = x then some v else m y)) (hs : Heap.SameBut f.env.locals h h') : St f M ads ρ μ h' := by
 have vk : ∀ b o, vis h M b = some o -> vis h' M b = some o := vis_keep fun b o hb e => sameBut_at hs (fun (q : b = f.env.locals) => hb (by rw [q]; exact st.locM)) o e
 refine ⟨⟨fun b o e => ?_, st.mu.fresh, fun a ha => ?_, st.mu.adsM, st.mu.nod, st.mu.len, fun j a mv e1 e2 => ?_⟩, st.kind, st.glob, st.blt, st.locM, st.locA, ⟨_, hn, fun y j d' h1 h2 h3 => ?_⟩, fun y hy => ?_, st.apart, st.inj, st.len, st.bnd⟩
 ·refine sameBut_at hs (fun q => ?_) o (st.mu.base b o e)
  have := st.mu.fresh _ st.locM
  rw [<- q, e] at this; cases this
 ·by_cases hb : a = f.env.locals
  ·subst hb; obtain ⟨o, es, ep, e, _⟩ := hn; exact ⟨o, e⟩
  ·obtain ⟨o, e⟩ := st.mu.live a ha; exact ⟨o, sameBut_at hs hb o e⟩
 ·refine (st.mu.mus j a mv e1 e2).keep (sameBut_at hs fun q => st.locA (q ▸ List.mem_of_getElem? e1)) fun b o hb e => sameBut_at hs (fun (q : b = f.env.locals) => hb (by rw [q]; exact st.locM)) o e
 ·by_cases hy : y = x
  ·subst hy
   rw [hx] at h1
   obtain rfl : i = j := Option.some.inj h1
   rw [hi] at h3; cases h3
  ·obtain ⟨w, a, b⟩ := hv y j d' h1 h2 h3
   exact ⟨w, by simp [hy, a], b.keep vk⟩
 ·obtain ⟨c, ov, e1, e2, e3, e4, e5, e6⟩ := st.cells y hy
  refine ⟨c, ov, e1, IsCell.at e2 (sameBut_at hs e5), e3, e4, e5, fun j d' h1 h3 => ?_⟩
  obtain ⟨w, a, b⟩ := e6 j d' h1 h3
  exact ⟨w, a, b.keep vk⟩
inductive PairsOk (T : Tabs) (C : CT) (k : Nat) (f : Fx) : List (Option Expr) -> List Expr -> List Int -> List ME -> Prop
 | nil : PairsOk T C k f [] [] [] []
 | cons (i n p ks e es js m ms) : SE T C k f e m -> PairsOk T C k f ks es js ms -> PairsOk T C k f (some (.Constant (.int i) n p) :: ks) (e :: es) (i :: js) (m :: ms)
section
variable {T : Tabs} {C : CT} {k : Nat} {f : Fx}
theorem pairs_sound {ks : List (Option Expr)} {es : List Expr} {js : List Int} {ms : List ME} (h : PairsOk T C k f ks es js ms) : ∀ M ads ρ μ (s : Shared) K, St f M ads ρ μ s.heap -> AOk k f.A -> EVs T C ρ μ ms K -> ∀ pos Q E,
  (∀ prs ds vs h' tk, K ds -> Keep s.heap h' -> Reps (vis h' M) ads vs ds -> Carries (intKind pw f.w) prs (js.zip vs) -> vs.length = js.length -> Q prs { s with heap := h', toks := tk }) -> wpAny (model pw f.w) f.A (evalPairs (pairTrees ks es f.env pos)) Q E s := by
 induction h with
 | nil =>
  intro M ads ρ μ s K st ok e pos Q E q
  exact pairTrees_nil_walk (q [] [] [] s.heap s.toks e (fun _ _ e => e) .nil trivial rfl)
 | cons i n p ks e' es js m ms he hs ih =>
  intro M ads ρ μ s K st ok e pos Q E q
  refine pairTrees_cons_walk (wpAny_Constant_int ?_)
  refine he M ads ρ μ { s with toks := s.toks + 1 } _ st ok e _ _ fun v d h1 tk1 e1 k1 r1 => ?_
  refine ih M ads ρ μ { s with heap := h1, toks := tk1 } _ (st.keep k1) ok e1 pos _ _ fun prs ds vs h2 tk2 e2 k2 r2 c2 l2 => ?_
  exact q _ (d :: ds) (v :: vs) h2 tk2 e2 (k1.trans k2) (.cons _ _ _ _ (r1.keep (vis_keepK k2)) r2) ⟨intKind_is .., rfl, c2⟩ (by simp [l2])
theorem zip_at {g : Part} {ads : List Addr} {js : List Int} {vs : List Value} {ds : List PV} {j : Int} {d : PV} (r : Reps g ads vs ds) (h : (js.zip ds).lookup j = some d) : ∃ v, valueAt (js.zip vs) j = some v /\ Rep g ads v d :=
 r.ind (P := fun vs ds => ∀ js : List Int, (js.zip ds).lookup j = some d -> ∃ v, valueAt (js.zip vs) j = some v /\ Rep g ads v d) (fun js h => by rw [List.zip_nil_right] at h; cases h) (fun v d' vs ds a _ ih js h => by
  cases js with
  | nil => cases h
  | cons i js =>
  rw [List.zip_cons_cons, List.lookup_cons] at h
  show ∃ v', ((_ :: _).find? _).map _ = _ /\ _
  rw [List.find?_cons]
  cases hij : j == i with
  | true =>
   obtain rfl := beq_iff_eq.mp hij
   rw [hij] at h
   obtain rfl := Option.some.inj h
   rw [decide_eq_true rfl]
   exact ⟨v, rfl, a⟩
  | false =>
   rw [hij] at h
   rw [decide_eq_false fun e => beq_eq_false_iff_ne.mp hij e.symm]
   exact ih js h) js h
theorem PairsOk.lens {ks : List (Option Expr)} {es : List Expr} {js : List Int} {ms : List ME} (h : PairsOk T C k f ks es js ms) : ks.all (·.isSome) = true /\ ks.length = es.length /\ ks.length = js.length := by
 induction h with
 | nil => exact ⟨rfl, rfl, rfl⟩
 | cons i n p ks e es js m ms he hs ih => exact ⟨by simpa using ih.1, by simp [ih.2.1], by simp [ih.2.2]⟩
theorem ss_dret {x : Str} {p p1 p2 p3 p4 p5 : Pos} {i : Nat} {ks : List (Option Expr)} {es : List Expr} {js : List Int} {ms : List ME} {e' : Expr} {mj : ME} (ho : FxOK f) (hx : f.cx.lookup x = some i) (hk : f.env.kindOf x = some .local) (hd : (x == ("__debug__" : Str)) = false)
  (hp : PairsOk T C k f ks es js ms) (hj : SE T C k f e' mj) (hn : js.Nodup) (h0 : ks ≠ []) (hlen : js.length <= 15) (hns : notSlice e' = true) :
  SS T C k f [.Assign [.Name x p] (.Dict ks es p1) p2, .Return (some (.Subscript (.Name x p3) e' p4)) p5] [.dret i js ms mj] := fun M ads ρ μ s ro K st ok e Q E q => by
 obtain ⟨hi, e⟩ := e
 obtain ⟨hl1, hl2, hl3⟩ := hp.lens
 generalize hD : s.heap.objs.size = D
 have hDn : ∀ a ∈ [D], s.heap.get? a = none := fun a ha => by simp at ha; subst ha; rw [<- hD]; exact new_none (Nat.le_refl _)
 have hDM : D ∉ M := fun hm => by obtain ⟨o, e⟩ := st.mu.live _ hm; rw [hDn D (by simp)] at e; cases e
 have kp : Keep s.heap (s.heap.push { cls := .type "dict", data := .dict #[] }) := keep_push
 have hDat : (s.heap.push { cls := .type "dict", data := .dict #[] }).get? D = some { cls := .type "dict", data := .dict #[] } := by rw [<- hD]; exact Heap.get?_push_size _ rfl
 have st0 := st.grow (own := [D]) kp hDn fun a ha => by simp at ha; subst ha; exact ⟨_, hDat⟩
 have hacc : ∀ {M' : List Addr}, AccOK f ([D] ++ M) ads D := AccOK.of_not (own := [D]) st.inM (by simp) hDM
 refine wpAny_execs_cons (wpAny_Assign_Name (wpAny_Dict_walk (knd := intKind pw f.w) hl1 hl2 h0 (by omega) ?_) rfl)
 refine pairs_sound hp ([D] ++ M) ads ρ μ { s with heap := s.heap.push { cls := .type "dict", data := .dict #[] } } _ st0 ok e _ _ _ fun prs ds vs h1 tk1 e1 k1 r1 c1 l1 => ?_
 have hzk : (js.zip vs).map (·.1) = js := by
  rw [List.map_fst_zip]; omega
 refine ⟨js.zip vs, c1, ?_, fun h2 hd2 hs2 => ?_⟩
 ·rw [hD]
  exact let ⟨o, es, ep, x1, x2⟩ := Heap.DictOf.new (knd := intKind pw f.w) s.heap; ⟨o, es, ep, k1 _ _ (by rw [<- hD]; exact x1), x2⟩
 rw [hD] at hd2 hs2 ⊢
 rw [merged_nil_of_nodup _ (by rw [hzk]; exact hn)] at hd2
 have st1 := st0.keep k1
 have st2 : St f ([D] ++ M) ads ρ μ h2 := st1.others (Z := [D]) (fun a ha => by simp at ha; subst ha; exact hacc (M' := [])) (sameBut_keep hs2 (by simp)) fun a ha => by
  simp at ha; subst ha; obtain ⟨o, es, ep, e, _⟩ := hd2; exact ⟨o, e⟩
 obtain ⟨m, hm, hv⟩ := st2.ns
 have hDL : D ≠ f.env.locals := (hacc (M' := [])).loc
 refine wpAny_storeName_local hk hm (fun h3 hn3 hs3 => ?_) (by show (f.env.scope.kind == .class || (f.env.scope.kind == .module && _)) = false; rw [st.kind]; rfl)
 have st3 := st2.store_raw hx hk hi hv hn3 hs3
 refine wpAny_execs_cons (wpAny_Return_some (Subscript_ (wpAny_Name (wpAny_loadName_local st.kind hk hn3 (if_pos rfl) ?_) hd)))
 refine hj ([D] ++ M) ads ρ μ { s with heap := h3, toks := _ } _ st3 ok e1 _ _ fun u d h4 tk4 e4 k4 r4 => ?_
 ·obtain ⟨z, rfl, e4⟩ := mI e4
  obtain ⟨t, rfl⟩ := r4.intI
  obtain ⟨d, hlook, e4⟩ := mOP e4
  have r1' : Reps (vis h4 ([D] ++ M)) ads vs ds := (r1.keep (vis_keep fun b o hb e => sameBut_at hs2 (fun (q : b = D) => hb (by rw [q]; simp)) o e)).keep (vis_keep fun b o hb e => k4 b o (sameBut_at hs3 (fun (q : b = f.env.locals) => hb (by rw [q]; exact st2.locM)) o e))
  obtain ⟨v, hv1, hv2⟩ := zip_at r1' hlook
  have hd4 : h4.DictOf (intKind pw f.w) D (js.zip vs) := let ⟨o, es, ep, x1, x2⟩ := hd2; ⟨o, es, ep, k4 _ _ (sameBut_at hs3 hDL o x1), x2⟩
  refine tail_any (s := { s with heap := h4, toks := tk4 }) (Heap.DictOf.typeIs (knd := intKind pw f.w) hd4) PySem.slot_dict_getitem.lookup (wpAny_getItem_of (knd := intKind pw f.w) (intKind_is ..) hd4.mapOf hv1 ?_) (notSlice_eq hns _ _)
  refine q (.ret v) (.ret d) ρ μ ([D] ++ M) ads h4 _ e4 (st3.keep k4) ?_ hv2
  refine ⟨fun a h => List.mem_append_right _ h, ⟨[], by simp, by simp⟩, fun a ha => ?_, fun b o hb e => k4 b o (sameBut_at hs3 (fun (q : b = f.env.locals) => hb (List.mem_append_left _ (by rw [q]; exact List.mem_cons_self))) o (sameBut_at hs2 (fun (q : b = D) => ?_) o (k1 b o (kp b o e))))⟩
  ·rcases List.mem_append.mp ha with ha | ha
   ·exact .inr (hDn a ha)
   ·exact .inl ha
  ·rw [q, hDn D (by simp)] at e; cases e
end
set_option compiler.extract_closed false
theorem len0 {P : List Value -> Prop} (h : P []) (vs : List Value) (e : vs.length = 0) : P vs := List.eq_nil_of_length_eq_zero e ▸ h
theorem lenS {n : Nat} {P : List Value -> Prop} (h : ∀ a vs, vs.length = n -> P (a :: vs)) (vs : List Value) (e : vs.length = n + 1) : P vs := by
 cases vs with
 | nil => cases e
 | cons a vs => exact h a vs (Nat.succ.inj e)
theorem len1 {P : List Value -> Prop} (h : ∀ a, P [a]) (vs : List Value) (e : vs.length = 1) : P vs := lenS (fun a => len0 (h a)) vs e
theorem len2 {P : List Value -> Prop} (h : ∀ a b, P [a, b]) (vs : List Value) (e : vs.length = 2) : P vs := lenS (fun a => len1 (h a)) vs e
theorem len3 {P : List Value -> Prop} (h : ∀ a b c, P [a, b, c]) (vs : List Value) (e : vs.length = 3) : P vs := lenS (fun a => len2 (h a)) vs e
theorem A1 (h : True := by intros; first | rfl | decide | assumption) : True := h
structure VE (T : Tabs) (C : CT) (k : Nat) (f : Fx) (e : Expr) (m : ME) : Prop where go : SE T C k f e m
structure VEs (T : Tabs) (C : CT) (k : Nat) (f : Fx) (e : List Expr) (m : List ME) : Prop where go : SEs T C k f e m
structure VB (T : Tabs) (C : CT) (k : Nat) (f : Fx) (e : Expr) (m : ME) : Prop where go : SB T C k f e m
structure VO (T : Tabs) (C : CT) (k : Nat) (f : Fx) (e : Option Expr) (m : ME) : Prop where go : SO T C k f e m
structure VI (T : Tabs) (C : CT) (k : Nat) (f : Fx) (e : Expr) (m : ME) (tgt : Expr) : Prop where go : SI T C k f e m tgt
structure VF (T : Tabs) (C : CT) (k : Nat) (f : Fx) (e : List Expr) (m : List ME) : Prop where go : IfsOK T C k f e m
structure V1 (T : Tabs) (C : CT) (k : Nat) (f : Fx) (e : Stmt) (m : MS) : Prop where go : S1 T C k f e m
structure VS (T : Tabs) (C : CT) (k : Nat) (f : Fx) (e : List Stmt) (m : List MS) : Prop where go : SS T C k f e m
structure VP (T : Tabs) (C : CT) (k : Nat) (f : Fx) (ks : List (Option Expr)) (es : List Expr) (js : List Int) (ms : List ME) : Prop where go : PairsOk T C k f ks es js ms
section
variable {T : Tabs} {C : CT} {k : Nat} {f : Fx}
theorem e_int {i : Int} {n : Nat} {pos : Pos} : VE T C k f (.Constant (.int i) n pos) (.lit (.int i)) := ⟨se_int⟩
theorem e_bool {b : Bool} {n : Nat} {pos : Pos} : VE T C k f (.Constant (.bool b) n pos) (.lit (.bool b)) := ⟨se_bool⟩
theorem e_none {n : Nat} {pos : Pos} : VE T C k f (.Constant .none n pos) (.lit .none) := ⟨se_none⟩
theorem e_bin {l r : Expr} {op : Operator} {pos : Pos} {a b : ME} (hl : VE T C k f l a) (hr : VE T C k f r b) : VE T C k f (.BinOp l op r pos) (.bin op a b) := ⟨se_bin hl.go hr.go⟩
theorem e_cmp {l r : Expr} {op : CmpOp} {pos : Pos} {a b : ME} (hl : VE T C k f l a) (hr : VE T C k f r b) (hm : autoParam (behindInMarks op r = false) A1._auto_1) : VE T C k f (.Compare l [op] [r] pos) (.cmp op a b) := ⟨se_cmp hl.go hr.go hm⟩
theorem b_cmp {l r : Expr} {op : CmpOp} {pos : Pos} {a b : ME} (hl : VE T C k f l a) (hr : VE T C k f r b) (hm : autoParam (behindInMarks op r = false) A1._auto_1) : VB T C k f (.Compare l [op] [r] pos) (.cmp op a b) := ⟨st_cmp hl.go hr.go hm⟩
theorem b_of {e : Expr} {m : ME} (h : VE T C k f e m) (he : autoParam (∀ env whole, isTrue e env whole = (do let v <- whole; standAt e.pos; holding [v] (truthy v))) A1._auto_1)
  (hm : autoParam (∀ ρ μ K, EVT T C ρ μ m K -> EV T C ρ μ m fun d => TRU (view μ d) K) A1._auto_1) : VB T C k f e m := ⟨st_of h.go he hm⟩
theorem e_not {x : Expr} {pos : Pos} {a : ME} (h : VE T C k f x a) : VE T C k f (.UnaryOp .Not x pos) (.not a) := ⟨se_not h.go⟩
theorem b_not {x : Expr} {pos : Pos} {a : ME} (h : VB T C k f x a) : VB T C k f (.UnaryOp .Not x pos) (.not a) := ⟨st_not h.go⟩
theorem e_and {x y : Expr} {pos : Pos} {a b : ME} (hx : VE T C k f x a) (hy : VE T C k f y b) : VE T C k f (.BoolOp .And [x, y] pos) (.bop true a b) := ⟨se_and hx.go hy.go⟩
theorem e_or {x y : Expr} {pos : Pos} {a b : ME} (hx : VE T C k f x a) (hy : VE T C k f y b) : VE T C k f (.BoolOp .Or [x, y] pos) (.bop false a b) := ⟨se_or hx.go hy.go⟩
theorem b_and {x y : Expr} {pos : Pos} {a b : ME} (hx : VB T C k f x a) (hy : VB T C k f y b) : VB T C k f (.BoolOp .And [x, y] pos) (.bop true a b) := ⟨st_and hx.go hy.go⟩
theorem e_ite {t x y : Expr} {pos : Pos} {c a b : ME} (ht : VB T C k f t c) (hx : VE T C k f x a) (hy : VE T C k f y b) : VE T C k f (.IfExp t x y pos) (.ite c a b) := ⟨se_ite ht.go hx.go hy.go⟩
theorem e_list {xs : List Expr} {as : List ME} {pos : Pos} (hs : VEs T C k f xs as) : VE T C k f (.List xs pos) (.list as) := ⟨se_list hs.go⟩
theorem e_tup {xs : List Expr} {as : List ME} {n : Nat} {pos : Pos} (hs : VEs T C k f xs as) : VE T C k f (.Tuple xs n pos) (.tup as) := ⟨se_tup hs.go⟩
theorem e_sub {v i : Expr} {pos : Pos} {a b : ME} (hv : VE T C k f v a) (hi : VE T C k f i b) (hn : autoParam (notSlice i = true) A1._auto_1) : VE T C k f (.Subscript v i pos) (.sub a b) := ⟨se_sub hv.go hi.go hn⟩
theorem e_last {v : Expr} {p1 p2 pos : Pos} {n : Nat} {a : ME} (hv : VE T C k f v a) : VE T C k f (.Subscript v (.UnaryOp .USub (.Constant (.int 1) n p1) p2) pos) (.last a) := ⟨se_last hv.go⟩
theorem o_none : VO T C k f none (.lit .none) := ⟨rfl⟩
theorem o_some {e : Expr} {m : ME} (h : VE T C k f e m) : VO T C k f (some e) m := ⟨h.go⟩
theorem e_slice {v : Expr} {lo hi : Option Expr} {p pos : Pos} {a b c : ME} (hv : VE T C k f v a) (hlo : VO T C k f lo b) (hhi : VO T C k f hi c) (ht : autoParam (∀ o r, letTemporaryGo v o r = pure ()) A1._auto_1) : VE T C k f (.Subscript v (.Slice lo hi none p) pos) (.slice a b c) := ⟨se_slice hv.go hlo.go hhi.go ht⟩
theorem e_slice3 {v lo hi sx : Expr} {p pos : Pos} {a b c d : ME} (hv : VE T C k f v a) (hlo : VE T C k f lo b) (hhi : VE T C k f hi c) (hst : VE T C k f sx d) : VE T C k f (.Subscript v (.Slice (some lo) (some hi) (some sx) p) pos) (.slice3 a b c d) := ⟨se_slice3 hv.go hlo.go hhi.go hst.go⟩
theorem f_nil : VF T C k f [] [] := ⟨ifs_nil⟩
theorem f_one {c : Expr} {m : ME} (h : VB T C k f c m) : VF T C k f [c] [m] := ⟨ifs_one h.go⟩
theorem p_nil : VP T C k f [] [] [] [] := ⟨.nil⟩
theorem p_cons {i : Int} {n : Nat} {p : Pos} {ks : List (Option Expr)} {e : Expr} {es : List Expr} {js : List Int} {m : ME} {ms : List ME} (h : VE T C k f e m) (hs : VP T C k f ks es js ms) : VP T C k f (some (.Constant (.int i) n p) :: ks) (e :: es) (i :: js) (m :: ms) := ⟨.cons _ _ _ _ _ _ _ _ _ h.go hs.go⟩
theorem s_nil : VS T C k f [] [] := ⟨ss_nil⟩
theorem s_cons {x : Stmt} {m : MS} {xs : List Stmt} {ms : List MS} (ho : FxOK f) (h1 : V1 T C k f x m) (h2 : VS T C k f xs ms) : VS T C k f (x :: xs) (m :: ms) := ⟨ss_cons ho h1.go h2.go⟩
theorem s_brk {p : Pos} : V1 T C k f (.Break p) .brk := ⟨s1_brk⟩
theorem s_ret {x : Expr} {m : ME} {p : Pos} (h : VE T C k f x m) : V1 T C k f (.Return (some x) p) (.ret m) := ⟨s1_ret h.go⟩
theorem s_ife {t : Expr} {m : ME} {a b : List Stmt} {ma mb : List MS} {p : Pos} (ho : FxOK f) (ht : VB T C k f t m) (ha : VS T C k f a ma) (hb : VS T C k f b mb) : V1 T C k f (.If t a b p) (.ife m ma mb) := ⟨s1_ife ho ht.go ha.go hb.go⟩
theorem s_whil {t : Expr} {m : ME} {b : List Stmt} {mb : List MS} {p : Pos} (ho : FxOK f) (ht : VB T C k f t m) (hb : VS T C k f b mb) : V1 T C k f (.While t b [] p) (.whil m mb) := ⟨s1_whil ho ht.go hb.go⟩
end
noncomputable def gEs (P : Params) : Array DictEntry := match (k3 P).data with
 | .dict es _ => es
 | _ => #[]
noncomputable def mgOf (P : Params) (x : Str) : Option Value := nsFind (gEs P) x
structure Dat (T : Tabs) (C : CT) (k : Nat) (w : World) (hO : Heap) (mb : Str -> Option Value) : Prop where
 kin : (Mine.K w.params).In hO
 g : hO.Ns mainGlobals (mgOf w.params)
 b : hO.Ns builtinsNs mb
 boot : ∀ x : Str, x ≠ "__name__" -> mb x = bootBuiltins x
 lim : hO.NoLimit
 tabs : TabsOk w hO (mgOf w.params) mb T
 cs : CSound k w hO C
structure CX (w : World) (hO : Heap) (f : Fx) (S : Scope) (cx : List (Str × Nat)) (n : Nat) : Prop where
 w : f.w = w
 hO : f.hO = hO
 sc : f.env.scope = S
 cx : f.cx = cx
 n : f.n = n
theorem InFn.toCX {f : Fx} {w : World} {hO : Heap} {fd : FuncData} {ps ls : List Str} (I : InFn f w hO fd ps ls) : CX w hO f fd.scope ((ps ++ ls).zipIdx) (ps ++ ls).length := ⟨I.w, I.hO, I.scope, I.cx, I.n⟩
noncomputable def lc (o : Option NameKind) : Bool := o == some .local || o == some .cell
theorem lc_inv {o : Option NameKind} (h : lc o = true) : o = some .local ∨ o = some .cell := (Bool.or_eq_true_iff.mp h).imp beq_iff_eq.mp beq_iff_eq.mp
theorem and4 {a b c d : Bool} (h : (a && b && !c && !d) = true) : a = true /\ b = true /\ c = false /\ d = false :=
 have h1 := Bool.and_eq_true_iff.mp h
 have h2 := Bool.and_eq_true_iff.mp h1.1
 have h3 := Bool.and_eq_true_iff.mp h2.1
 ⟨h3.1, h3.2, Bool.not_eq_true' _ ▸ h2.2, Bool.not_eq_true' _ ▸ h1.2⟩
noncomputable def varB (S : Scope) (cx : List (Str × Nat)) (x : Str) (i : Nat) : Bool := cx.lookup x == some i && (lc (S.names.lookup x) || S.names.lookup x == some .free) && !(x == ("__debug__" : Str)) && !(x == ("__classdict__" : Str))
noncomputable def globB (S : Scope) (x : Str) : Bool := S.names.lookup x == some .globalImplicit && !(x == ("__debug__" : Str))
section
variable {T : Tabs} {C : CT} {k : Nat} {w : World} {hO : Heap} {mb : Str -> Option Value} {f : Fx} {S : Scope} {cx : List (Str × Nat)} {n : Nat}
theorem CX.kind (c : CX w hO f S cx n) {x : Str} {kd : Option NameKind} (h : S.names.lookup x = kd) : f.env.kindOf x = kd := by
 show f.env.scope.names.lookup x = _
 rw [c.sc]; exact h
theorem varB_inv (c : CX w hO f S cx n) {x : Str} {i : Nat} (h : varB S cx x i = true) : f.cx.lookup x = some i /\ (f.env.kindOf x = some .local ∨ envCell f.env x) /\ (x == ("__debug__" : Str)) = false /\ (x == ("__classdict__" : Str)) = false := by
 obtain ⟨h1, h2, h3, h4⟩ := and4 h
 refine ⟨c.cx ▸ beq_iff_eq.mp h1, ?_, h3, h4⟩
 rcases Bool.or_eq_true_iff.mp h2 with h | h
 ·exact (lc_inv h).imp c.kind fun h => .inl (c.kind h)
 ·exact .inr (.inr (c.kind (beq_iff_eq.mp h)))
theorem globB_inv (c : CX w hO f S cx n) {x : Str} (h : globB S x = true) : f.env.kindOf x = some .globalImplicit /\ (x == ("__debug__" : Str)) = false := by
 have h := Bool.and_eq_true_iff.mp h
 exact ⟨c.kind (beq_iff_eq.mp h.1), Bool.not_eq_true' _ ▸ h.2⟩
theorem e_str {x : Str} {l : List Nat} {n : Nat} {pos : Pos} (h : x.cps.toList = l) : VE T C k f (.Constant (.str x) n pos) (.lit (.str l)) := by subst h; exact ⟨se_str⟩
theorem e_var (c : CX w hO f S cx n) {x : Str} {i : Nat} {pos : Pos} (h : varB S cx x i = true) : VE T C k f (.Name x pos) (.var i) :=
 let ⟨a, b, d, e⟩ := varB_inv c h; ⟨se_var a b d e⟩
theorem Dat.G (d : Dat T C k w hO mb) (c : CX w hO f S cx n) : Glob f.hO (mgOf w.params) mb := ⟨by rw [c.hO]; exact d.g, by rw [c.hO]; exact d.b⟩
theorem Dat.X (d : Dat T C k w hO mb) (c : CX w hO f S cx n) : TabsOk f.w f.hO (mgOf w.params) mb T := by rw [c.w, c.hO]; exact d.tabs
theorem Dat.blt (d : Dat T C k w hO mb) {x : Str} {v : Value} (h1 : mgOf w.params x = none) (h2 : bootBuiltins x = some v) (h3 : x ≠ "__name__") : glv (mgOf w.params) mb x v := .inr ⟨h1, by rw [d.boot x h3]; exact h2⟩
theorem e_glit (d : Dat T C k w hO mb) (c : CX w hO f S cx n) {x : Str} {pos : Pos} {i : Int} {t : Tok} (h : globB S x = true) (hv : mgOf w.params x = some (.int i t)) : VE T C k f (.Name x pos) (.lit (.int i)) :=
 let ⟨a, b⟩ := globB_inv c h; ⟨se_glit (d.G c) (.inl hv) a b⟩
theorem e_bi (d : Dat T C k w hO mb) (c : CX w hO f S cx n) {b : BI} {x : Str} {p pos : Pos} {es : List Expr} {ms : List ME} (h : globB S x = true) (hv : glv (mgOf w.params) mb x b.val) (hs : VEs T C k f es ms) (hp : autoParam (noStar es = true) A1._auto_1) (hb : autoParam (b ≠ .isStr) A1._auto_1) (hb' : autoParam (b ≠ .lrange) A1._auto_1) :
  VE T C k f (.Call (.Name x p) es [] pos) (.bi b ms) :=
 let ⟨a, b⟩ := globB_inv c h; ⟨se_bi (d.G c) hv a b hs.go hp hb hb'⟩
theorem e_call (d : Dat T C k w hO mb) (c : CX w hO f S cx n) {x : Str} {p pos : Pos} {es : List Expr} {ms : List ME} {a : Addr} (h : globB S x = true) (hv : mgOf w.params x = some (.ref a)) (ha : ∃ o fd, (Mine.K w.params).lookup a = some o /\ o.data = .func fd) (hs : VEs T C k f es ms) (hp : autoParam (noStar es = true) A1._auto_1) :
  VE T C k f (.Call (.Name x p) es [] pos) (.call a ms) :=
 let ⟨a', b⟩ := globB_inv c h; ⟨se_call c.hO (d.G c) (by rw [c.w]; exact d.cs) (.inl hv) a' b (let ⟨o, fd, h1, h2⟩ := ha; ⟨o, fd, d.kin _ _ h1, h2⟩) hs.go hp⟩
theorem e_isStr (d : Dat T C k w hO mb) (c : CX w hO f S cx n) {p pos pz : Pos} {e : Expr} {m : ME} (h : globB S "isinstance" = true) (h' : globB S "str" = true)
  (hv : glv (mgOf w.params) mb "isinstance" (.builtin "isinstance")) (hv' : glv (mgOf w.params) mb "str" (.type "str")) (he : VE T C k f e m) (hp : autoParam (noStar [e] = true) A1._auto_1) : VE T C k f (.Call (.Name "isinstance" p) [e, .Name "str" pz] [] pos) (.bi .isStr [m]) :=
 let ⟨a1, b1⟩ := globB_inv c h; let ⟨a2, b2⟩ := globB_inv c h'; ⟨se_isStr (d.G c) hv a1 b1 hv' a2 b2 he.go hp⟩
theorem e_getTok (d : Dat T C k w hO mb) (c : CX w hO f S cx n) {p apos pos : Pos} {e1 e2 : Expr} {m1 m2 : ME} (h : globB S "EXACT_TOKEN_TYPES" = true) (h1 : VE T C k f e1 m1) (h2 : VE T C k f e2 m2) (hp : autoParam (noStar [e1, e2] = true) A1._auto_1) (hline : autoParam ((apos.endLine == pos.line) = true) A1._auto_1) :
  VE T C k f (.Call (.Attribute (.Name "EXACT_TOKEN_TYPES" p) "get" apos) [e1, e2] [] pos) (.gop .getTok [m1, m2]) := ⟨se_getTok (d.G c) (d.X c) (globB_inv c h).1 h1.go h2.go hp hline⟩
theorem e_getFlag (d : Dat T C k w hO mb) (c : CX w hO f S cx n) {p apos pos : Pos} {e1 e2 : Expr} {m1 m2 : ME} (h : globB S "COMPILER_FLAG_NAMES" = true) (h1 : VE T C k f e1 m1) (h2 : VE T C k f e2 m2) (hp : autoParam (noStar [e1, e2] = true) A1._auto_1) (hline : autoParam ((apos.endLine == pos.line) = true) A1._auto_1) :
  VE T C k f (.Call (.Attribute (.Name "COMPILER_FLAG_NAMES" p) "get" apos) [e1, e2] [] pos) (.gop .getFlag [m1, m2]) := ⟨se_getFlag (d.G c) (d.X c) (globB_inv c h).1 h1.go h2.go hp hline⟩
theorem e_getB3 (d : Dat T C k w hO mb) (c : CX w hO f S cx n) {p apos pos : Pos} {e1 : Expr} {m1 : ME} (h : globB S "b3_exceptions" = true) (h1 : VE T C k f e1 m1) (hp : autoParam (noStar [e1] = true) A1._auto_1) (hline : autoParam ((apos.endLine == pos.line) = true) A1._auto_1) :
  VE T C k f (.Call (.Attribute (.Name "b3_exceptions" p) "get" apos) [e1] [] pos) (.gop .getB3 [m1]) := ⟨se_getB3 (d.G c) (d.X c) (globB_inv c h).1 h1.go hp hline⟩
theorem e_inB1 (d : Dat T C k w hO mb) (c : CX w hO f S cx n) {p pos : Pos} {e1 : Expr} {m1 : ME} (h : globB S "b1_set" = true) (h1 : VE T C k f e1 m1) : VE T C k f (.Compare e1 [.In] [.Name "b1_set" p] pos) (.gop .inB1 [m1]) := ⟨se_inB1 (d.G c) (d.X c) (globB_inv c h).1 h1.go⟩
theorem b_notInTok (d : Dat T C k w hO mb) (c : CX w hO f S cx n) {p pos : Pos} {e1 : Expr} {m1 : ME} (h : globB S "EXACT_TOKEN_TYPES" = true) (h1 : VE T C k f e1 m1) : VB T C k f (.Compare e1 [.NotIn] [.Name "EXACT_TOKEN_TYPES" p] pos) (.gop .notInTok [m1]) := ⟨sb_notInTok (d.G c) (d.X c) (globB_inv c h).1 h1.go⟩
theorem e_lrange (d : Dat T C k w hO mb) (c : CX w hO f S cx n) {p p' pos pos' : Pos} {e1 e2 : Expr} {m1 m2 : ME} (h : globB S "range" = true) (h' : globB S "list" = true) (hg : glv (mgOf w.params) mb "range" (.type "range")) (hg' : glv (mgOf w.params) mb "list" (.type "list"))
  (h1 : VE T C k f e1 m1) (h2 : VE T C k f e2 m2) (hp : autoParam (noStar [e1, e2] = true) A1._auto_1) : VE T C k f (.Call (.Name "list" p) [.Call (.Name "range" p') [e1, e2] [] pos'] [] pos) (.bi .lrange [m1, m2]) :=
 ⟨se_lrange (d.G c) hg hg' (globB_inv c h).1 (globB_inv c h').1 h1.go h2.go hp⟩
theorem e_meth {m : MI} {o : Expr} {name : Str} {apos pos : Pos} {es : List Expr} {a : ME} {ms : List ME} (ho : VE T C k f o a) (hs : VEs T C k f es ms) (hn : autoParam (name = m.name) A1._auto_1) (hb : autoParam (∀ whole, attributeBase o m.name f.env whole = whole) A1._auto_1) (hp : autoParam (noStar es = true) A1._auto_1) (hlen : autoParam (es.length < 30) A1._auto_1)
  (hline : autoParam ((apos.endLine == pos.line) = true) A1._auto_1) : VE T C k f (.Call (.Attribute o name apos) es [] pos) (.meth m a ms) := by subst hn; exact ⟨se_meth ho.go hs.go hb hp hlen hline⟩
theorem es_cons {x : Expr} {xs : List Expr} {a : ME} {as : List ME} (h : VE T C k f x a) (hs : VEs T C k f xs as) (he : autoParam (noStar (x :: xs) = true) A1._auto_1) : VEs T C k f (x :: xs) (a :: as) := ⟨ses_cons h.go hs.go (noStar_head he)⟩
theorem es_nil : VEs T C k f [] [] := ⟨ses_nil⟩
theorem i_var (c : CX w hO f S cx n) {x : Str} {i : Nat} {p : Pos} {tgt : Expr} (ht : TgtShape tgt) (h : varB S cx x i = true) : VI T C k f (.Name x p) (.var i) tgt :=
 let ⟨a, b, d, e⟩ := varB_inv c h; ⟨si_var ht a b d e⟩
theorem i_rng1 (d : Dat T C k w hO mb) (c : CX w hO f S cx n) {p pos : Pos} {e1 : Expr} {m1 : ME} {tgt : Expr} (ht : TgtShape tgt) (h : globB S "range" = true) (hg : glv (mgOf w.params) mb "range" (.type "range")) (h1 : VE T C k f e1 m1) (hp : autoParam (noStar [e1] = true) A1._auto_1) :
  VI T C k f (.Call (.Name "range" p) [e1] [] pos) (.rng (.lit (.int 0)) m1) tgt := ⟨si_rng1 (d.G c) hg ht (globB_inv c h).1 h1.go hp⟩
theorem i_enum (d : Dat T C k w hO mb) (c : CX w hO f S cx n) {p pos : Pos} {e1 : Expr} {m1 : ME} {es : List Expr} {n' : Nat} {p' : Pos} (h : globB S "enumerate" = true) (hg : glv (mgOf w.params) mb "enumerate" (.type "enumerate")) (h1 : VE T C k f e1 m1) (hp : autoParam (noStar [e1] = true) A1._auto_1) :
  VI T C k f (.Call (.Name "enumerate" p) [e1] [] pos) (.enum m1) (.Tuple es n' p') := ⟨si_enum (d.G c) hg (globB_inv c h).1 h1.go hp⟩
theorem sh_name {x : Str} {p : Pos} : TgtShape (.Name x p) := .inl ⟨x, p, rfl⟩
theorem sh_tup {es : List Expr} {k : Nat} {p : Pos} : TgtShape (.Tuple es k p) := .inr ⟨es, k, p, rfl⟩
theorem inj_of_nodup {l : List Str} (hn : l.Nodup) {i : Nat} {x y : Str} (h : l[i]? = some x) (h' : l[i]? = some y) : x = y := by rw [h] at h'; exact Option.some.inj h'
noncomputable def relabelS (scope S : Scope) : Scope := { scope with names := scope.names.map fun (n, k) => if (k == .free && S.kind == .function && S.names.lookup n == some .cell) then (n, .cell) else (n, k) }
theorem CX.comp (c : CX w hO f S cx n) {f' : Fx} {scope : Scope} {cx' : List (Str × Nat)} {nl : Nat} (h : CompFx f f' scope cx' nl) : CX w hO f' (relabelS scope S) cx' (n + nl) :=
 ⟨h.w.trans c.w, h.hO.trans c.hO, by rw [h.scope]; unfold relabel relabelS Env.kindOf; rw [c.sc], h.cx, by rw [h.n, c.n]⟩
noncomputable def compB (scope S : Scope) (cx : List (Str × Nat)) (n : Nat) (own : List Str) : Bool :=
 decide (scope.names.map (·.1)).Nodup && decide own.Nodup && scope.kind == .function &&
 scope.names.all (fun p => !(p.2 == .free) || (S.names.lookup p.1 == some .cell || S.names.lookup p.1 == some .free)) &&
 own.all (fun x => lc (scope.names.lookup x)) &&
 cx.all (fun p => decide (p.2 < n)) && cx.all (fun p => own.contains p.1 || !lc (scope.names.lookup p.1))
theorem compSt (c : CX w hO f S cx n) {scope : Scope} {own : List Str} (h : compB scope S cx n own = true) : CompSt f scope (own.zipIdx n ++ cx) own.length := by
 obtain ⟨h, h6⟩ := Bool.and_eq_true_iff.mp h
 obtain ⟨h, h7⟩ := Bool.and_eq_true_iff.mp h
 obtain ⟨h, h5⟩ := Bool.and_eq_true_iff.mp h
 obtain ⟨h, h4⟩ := Bool.and_eq_true_iff.mp h
 obtain ⟨h, h3⟩ := Bool.and_eq_true_iff.mp h
 obtain ⟨h1, h2⟩ := Bool.and_eq_true_iff.mp h
 have h2 := of_decide_eq_true h2
 have h4 := List.all_eq_true.mp h4
 have h5 := List.all_eq_true.mp h5
 have h6 := List.all_eq_true.mp h6
 have h7 := List.all_eq_true.mp h7
 have hown : ∀ x i, (own.zipIdx n).lookup x = some i -> x ∈ own /\ n <= i /\ i < n + own.length /\ own[i - n]? = some x := fun x i hx => by
  obtain ⟨a, b⟩ := zipIdx_lookup own n x i hx
  exact ⟨List.mem_of_getElem? b, a, by have := (List.getElem?_eq_some_iff.mp b).1; lia, b⟩
 have hnot : ∀ x, (own.zipIdx n).lookup x = none -> x ∉ own := fun x hx hm => by
  have : x ∈ (own.zipIdx n).map (·.1) := by rw [List.zipIdx_map_fst]; exact hm
  obtain ⟨v, hv⟩ := lookup_of_key this
  rw [hx] at hv; cases hv
 refine ⟨of_decide_eq_true h1, beq_iff_eq.mp h3, fun x hx => ?_, fun x i hx => ?_, fun x y i hi hx hy => ?_⟩
 ·exact (Bool.or_eq_true_iff.mp (show (S.names.lookup x == some .cell || S.names.lookup x == some .free) = true from h4 (x, .free) (mem_of_lookup hx))).imp (fun h => c.kind (beq_iff_eq.mp h)) fun h => c.kind (beq_iff_eq.mp h)
 ·rw [lookup_append] at hx
  rw [c.n]
  cases ho : (own.zipIdx n).lookup x with
  | some j =>
   rw [ho] at hx
   obtain rfl : j = i := Option.some.inj hx
   obtain ⟨a, b, d, _⟩ := hown x j ho
   exact .inl ⟨lc_inv (h5 x a), b, d⟩
  | none =>
   rw [ho] at hx
   have hx : cx.lookup x = some i := hx
   rcases Bool.or_eq_true_iff.mp (h6 (x, i) (mem_of_lookup hx)) with h | h
   ·exact absurd (List.contains_iff_mem.mp h) (hnot x ho)
   ·refine .inr ⟨fun e => ?_, fun e => ?_, by rw [c.cx]; exact hx⟩
    ·have h : (!lc (scope.names.lookup x)) = true := h
     rw [e] at h; cases h
    ·have h : (!lc (scope.names.lookup x)) = true := h
     rw [e] at h; cases h
 ·have key : ∀ z, (own.zipIdx n ++ cx).lookup z = some i -> own[i - n]? = some z ∨ cx.lookup z = some i := fun z hz => by
   rw [lookup_append] at hz
   cases ho : (own.zipIdx n).lookup z with
   | some j =>
    rw [ho] at hz
    obtain rfl : j = i := Option.some.inj hz
    exact .inl (hown z j ho).2.2.2
   | none => rw [ho] at hz; exact .inr hz
  have hlt : ∀ z, cx.lookup z = some i -> False := fun z hz => by
   exact absurd (of_decide_eq_true (h7 (z, i) (mem_of_lookup hz))) (Nat.not_lt.mpr (c.n ▸ hi))
  rcases key x hx with h | h
  ·rcases key y hy with h' | h'
   ·exact inj_of_nodup h2 h h'
   ·exact (hlt y h').elim
  ·exact (hlt x h).elim
noncomputable def tgtB (names : List (Str × NameKind)) (cx : List (Str × Nat)) (x : Str) (i : Nat) : Bool := cx.lookup x == some i && lc (names.lookup x)
theorem tgtB_inv {names : List (Str × NameKind)} {cx : List (Str × Nat)} {x : Str} {i : Nat} (h : tgtB names cx x i = true) : cx.lookup x = some i /\ (names.lookup x = some .local ∨ names.lookup x = some .cell) := by
 exact (Bool.and_eq_true_iff.mp h).imp beq_iff_eq.mp lc_inv
theorem tup_nil {P : Str × Pos -> Nat -> Prop} (j : Nat) (x : Str × Pos) (i : Nat) (h : ([] : List (Str × Pos))[j]? = some x) (_ : ([] : List Nat)[j]? = some i) : P x i := nomatch h
theorem tup_cons {P : Str × Pos -> Nat -> Prop} {x : Str × Pos} {i : Nat} {xs : List (Str × Pos)} {is : List Nat} (h : P x i) (hs : ∀ (j : Nat) x i, xs[j]? = some x -> is[j]? = some i -> P x i) (j : Nat) (y : Str × Pos) (k : Nat) (e1 : (x :: xs)[j]? = some y) (e2 : (i :: is)[j]? = some k) : P y k := by
 cases j with
 | zero => cases e1; cases e2; exact h
 | succ j => exact hs j y k e1 e2
theorem t_name {names : List (Str × NameKind)} {cx : List (Str × Nat)} {x : Str} {p : Pos} {i : Nat} (h : tgtB names cx x i = true) : TgtSh names cx (.Name x p) (.name i) := let ⟨a, b⟩ := tgtB_inv h; .name x p i a b
theorem t_tup2 {names : List (Str × NameKind)} {cx : List (Str × Nat)} {x y : Str} {p q r : Pos} {i j n : Nat} (h : tgtB names cx x i = true) (h' : tgtB names cx y j = true) : TgtSh names cx (.Tuple [.Name x p, .Name y q] n r) (.tup [i, j]) :=
 .tup [(x, p), (y, q)] [i, j] n r rfl (tup_cons (P := fun x i => cx.lookup x.1 = some i /\ (names.lookup x.1 = some .local ∨ names.lookup x.1 = some .cell)) (tgtB_inv h) (tup_cons (tgtB_inv h') tup_nil))
theorem e_comp0 (c : CX w hO f S cx n) {scope : Scope} (own : List Str) {elt iter tgt : Expr} {ifs : List Expr} {pos : Pos} {t : MT} {ms : List ME} {mit m : ME} (h : compB scope S cx n own = true) (hit : VI T C k f iter mit tgt) (htg : TgtSh scope.names (own.zipIdx n ++ cx) tgt t)
  (hsub : ∀ f', CX w hO f' (relabelS scope S) (own.zipIdx n ++ cx) (n + own.length) -> VF T C k f' ifs ms /\ VE T C k f' elt m) (hs : autoParam (∀ x, foldedSetIterable iter f.env x = pure x) A1._auto_1) :
  VE T C k f (.ListComp elt [⟨tgt, iter, ifs, 0⟩] scope pos) (.comp own.length m mit t ms []) :=
 ⟨se_comp (compSt c h) hit.go hs htg fun f' hf => let ⟨a, b⟩ := hsub f' (c.comp hf); ⟨a.go, .nil b.go⟩⟩
end
section
variable {T : Tabs} {C : CT} {k : Nat} {w : World} {hO : Heap} {mb : Str -> Option Value} {f : Fx} {fd : FuncData} {ps ls : List Str}
noncomputable def stoB (S : Scope) (l : List Str) (x : Str) (i : Nat) : Bool := (l.zipIdx).lookup x == some i && lc (S.names.lookup x)
theorem v_ok (I : InFn f w hO fd ps ls) {x : Str} {i : Nat} (h : stoB fd.scope (ps ++ ls) x i = true) : VarOK f (varZ f) x i := by
 have h := Bool.and_eq_true_iff.mp h
 exact ⟨I.cx ▸ beq_iff_eq.mp h.1, (lc_inv h.2).imp (fun h => ⟨(I.kindOf x).trans h, List.mem_cons_self⟩) fun h => ⟨(I.kindOf x).trans h, I.cells x h⟩⟩
theorem s_asg (I : InFn f w hO fd ps ls) {x : Str} {p p' : Pos} {i : Nat} {v : Expr} {m : ME} (h : stoB fd.scope (ps ++ ls) x i = true) (hv : VE T C k f v m) (hs : autoParam (swapsWith v (some (.Name x p)) p'.line f.env = pure false) A1._auto_1) : V1 T C k f (.Assign [.Name x p] v p') (.asg (.name i) m) :=
 ⟨s1_asg_name (v_ok I h) hv.go I.ok hs⟩
theorem s_tup4 (I : InFn f w hO fd ps ls) {x1 x2 x3 x4 y : Str} {p1 p2 p3 p4 p q r : Pos} {n i1 i2 i3 i4 : Nat} {m : ME} (h1 : stoB fd.scope (ps ++ ls) x1 i1 = true) (h2 : stoB fd.scope (ps ++ ls) x2 i2 = true) (h3 : stoB fd.scope (ps ++ ls) x3 i3 = true) (h4 : stoB fd.scope (ps ++ ls) x4 i4 = true)
  (hv : VE T C k f (.Name y r) m) : V1 T C k f (.Assign [.Tuple [.Name x1 p1, .Name x2 p2, .Name x3 p3, .Name x4 p4] n p] (.Name y r) q) (.asg (.tup [i1, i2, i3, i4]) m) :=
 ⟨s1_asg_tup (.tup [(x1, p1), (x2, p2), (x3, p3), (x4, p4)] [i1, i2, i3, i4] n p rfl (tup_cons (P := fun x i => VarOK f (varZ f) x.1 i) (v_ok I h1) (tup_cons (v_ok I h2) (tup_cons (v_ok I h3) (tup_cons (v_ok I h4) tup_nil))))) hv.go I.ok rfl rfl⟩
theorem ok_name (I : InFn f w hO fd ps ls) {x : Str} {p : Pos} {i : Nat} (h : stoB fd.scope (ps ++ ls) x i = true) : TgtOK f (varZ f) (.Name x p) (.name i) := .name x p i (v_ok I h)
theorem ok_tup2 (I : InFn f w hO fd ps ls) {x y : Str} {p q r : Pos} {i j n : Nat} (h : stoB fd.scope (ps ++ ls) x i = true) (h' : stoB fd.scope (ps ++ ls) y j = true) : TgtOK f (varZ f) (.Tuple [.Name x p, .Name y q] n r) (.tup [i, j]) :=
 .tup [(x, p), (y, q)] [i, j] n r rfl (tup_cons (P := fun x i => VarOK f (varZ f) x.1 i) (v_ok I h) (tup_cons (v_ok I h') tup_nil))
noncomputable def swB (S scope : Scope) (x : Str) (l1 l2 : Nat) : Bool := S.kind == .function && S.names.lookup x == some .local && l1 == l2 && !(scope.names.any fun (n, k) => n == x && (k == .local || k == .cell))
theorem sw_true (I : InFn f w hO fd ps ls) {scope : Scope} {x : Str} {p pos : Pos} (hw : swB fd.scope scope x p.line pos.line = true) : (pure (f.env.blockKind == .function && f.env.kindOf x == some .local && p.line == pos.line && !(scope.names.any fun (n, k) => n == x && (k == .local || k == .cell))) : Sem Bool) = pure true := by
 have h := Bool.and_eq_true_iff.mp hw
 have h1 := Bool.and_eq_true_iff.mp h.1
 rw [I.bk, I.kindOf, h.2, h1.2, (Bool.and_eq_true_iff.mp h1.1).2]; rfl
theorem s_asgc0 (I : InFn f w hO fd ps ls) {x : Str} {p p' : Pos} {i : Nat} {scope : Scope} (own : List Str) {elt iter tgt : Expr} {ifs : List Expr} {pos : Pos} {t : MT} {ms : List ME} {mit m : ME} (h : stoB fd.scope (ps ++ ls) x i = true) (hw : swB fd.scope scope x p.line pos.line = true)
  (hc : compB scope fd.scope ((ps ++ ls).zipIdx) (ps ++ ls).length own = true) (hit : VI T C k f iter mit tgt) (htg : TgtSh scope.names (own.zipIdx (ps ++ ls).length ++ (ps ++ ls).zipIdx) tgt t)
  (hsub : ∀ f', CX w hO f' (relabelS scope fd.scope) (own.zipIdx (ps ++ ls).length ++ (ps ++ ls).zipIdx) ((ps ++ ls).length + own.length) -> VF T C k f' ifs ms /\ VE T C k f' elt m) (hs : autoParam (∀ x, foldedSetIterable iter f.env x = pure x) A1._auto_1) :
  V1 T C k f (.Assign [.Name x p] (.ListComp elt [⟨tgt, iter, ifs, 0⟩] scope pos) p') (.asg (.name i) (.comp own.length m mit t ms [])) := by
 refine ⟨s1_asg_comp (compSt I.toCX hc) ?_ (v_ok I h) I.ok hit.go hs htg fun f' hf => let ⟨a, b⟩ := hsub f' (I.toCX.comp hf); ⟨a.go, .nil b.go⟩⟩
 exact sw_true I hw
theorem s_asgc1 (I : InFn f w hO fd ps ls) {x : Str} {p p' : Pos} {i : Nat} {scope : Scope} (own : List Str) {elt iter tgt iter2 tgt2 : Expr} {ifs ifs2 : List Expr} {pos : Pos} {t t2 : MT} {ms ms2 : List ME} {mit mit2 m : ME} (h : stoB fd.scope (ps ++ ls) x i = true) (hw : swB fd.scope scope x p.line pos.line = true)
  (hc : compB scope fd.scope ((ps ++ ls).zipIdx) (ps ++ ls).length own = true) (hit : VI T C k f iter mit tgt) (htg : TgtSh scope.names (own.zipIdx (ps ++ ls).length ++ (ps ++ ls).zipIdx) tgt t) (htg2 : TgtSh scope.names (own.zipIdx (ps ++ ls).length ++ (ps ++ ls).zipIdx) tgt2 t2)
  (hsub : ∀ f', CX w hO f' (relabelS scope fd.scope) (own.zipIdx (ps ++ ls).length ++ (ps ++ ls).zipIdx) ((ps ++ ls).length + own.length) -> VF T C k f' ifs ms /\ VI T C k f' iter2 mit2 tgt2 /\ VF T C k f' ifs2 ms2 /\ VE T C k f' elt m) (hs : autoParam (∀ x, foldedSetIterable iter f.env x = pure x) A1._auto_1)
  (hs2 : autoParam (∀ (f' : Fx) x, foldedSetIterable iter2 f'.env x = pure x) A1._auto_1) :
  V1 T C k f (.Assign [.Name x p] (.ListComp elt [⟨tgt, iter, ifs, 0⟩, ⟨tgt2, iter2, ifs2, 0⟩] scope pos) p') (.asg (.name i) (.comp own.length m mit t ms [.mk t2 mit2 ms2])) := by
 refine ⟨s1_asg_comp (compSt I.toCX hc) ?_ (v_ok I h) I.ok hit.go hs htg fun f' hf => let ⟨a, b, d, e⟩ := hsub f' (I.toCX.comp hf); ⟨a.go, .one tgt2 iter2 ifs2 t2 mit2 ms2 b.go (hs2 f') htg2 d.go e.go⟩⟩
 exact sw_true I hw
theorem s_own (I : InFn f w hO fd ps ls) {x : Str} {p p' lp : Pos} {i : Nat} {xs : List Expr} {as : List ME} (h : stoB fd.scope (ps ++ ls) x i = true) (hs : VEs T C k f xs as) : V1 T C k f (.Assign [.Name x p] (.List xs lp) p') (.own i as) := ⟨s1_own (v_ok I h) I.ok hs.go⟩
theorem s_aug (I : InFn f w hO fd ps ls) {x : Str} {p p' : Pos} {i : Nat} {op : Operator} {v : Expr} {m : ME} (h : stoB fd.scope (ps ++ ls) x i = true) (hv : VE T C k f v m) (hop : autoParam (op = .Add ∨ op = .Sub ∨ op = .BitXor) A1._auto_1)
  (hd : autoParam ((x == ("__classdict__" : Str)) = false) A1._auto_1) : V1 T C k f (.AugAssign (.Name x p) op v p') (.aug i op m) := ⟨s1_aug (v_ok I h) hv.go I.ok hop hd⟩
theorem s_app (I : InFn f w hO fd ps ls) {o e1 : Expr} {name : Str} {m m1 : ME} {apos pos p : Pos} (h0 : VE T C k f o m) (h1 : VE T C k f e1 m1) (hn : autoParam (name = "append") A1._auto_1) (hb : autoParam (∀ whole, attributeBase o "append" f.env whole = whole) A1._auto_1) (hp : autoParam (noStar [e1] = true) A1._auto_1) (hline : autoParam ((apos.endLine == pos.line) = true) A1._auto_1) :
  V1 T C k f (.Expr (.Call (.Attribute o name apos) [e1] [] pos) p) (.app m m1) := by subst hn; exact ⟨s1_app I.ok h0.go h1.go hb hp hline I.inter⟩
theorem s_popD (I : InFn f w hO fd ps ls) {o : Expr} {name : Str} {m : ME} {apos pos p : Pos} (h0 : VE T C k f o m) (hn : autoParam (name = "pop") A1._auto_1) (hb : autoParam (∀ whole, attributeBase o "pop" f.env whole = whole) A1._auto_1) (hline : autoParam ((apos.endLine == pos.line) = true) A1._auto_1) :
  V1 T C k f (.Expr (.Call (.Attribute o name apos) [] [] pos) p) (.popD m) := by subst hn; exact ⟨s1_popD I.ok h0.go hb hline I.inter⟩
theorem s_pop (I : InFn f w hO fd ps ls) {x : Str} {px p : Pos} {j : Nat} {o : Expr} {name : Str} {m : ME} {apos pos : Pos} (h : stoB fd.scope (ps ++ ls) x j = true) (h0 : VE T C k f o m) (hn : autoParam (name = "pop") A1._auto_1) (hb : autoParam (∀ whole, attributeBase o "pop" f.env whole = whole) A1._auto_1) (hline : autoParam ((apos.endLine == pos.line) = true) A1._auto_1) :
  V1 T C k f (.Assign [.Name x px] (.Call (.Attribute o name apos) [] [] pos) p) (.pop j m) := by subst hn; exact ⟨s1_pop (v_ok I h) I.ok h0.go hb hline⟩
theorem s_appc (I : InFn f w hO fd ps ls) {o o2 : Expr} {n1 n2 : Str} {m mo mo2 : ME} {apos pos p apos2 pos2 : Pos} {scope : Scope} (own : List Str) {elt tgt : Expr} {cpos : Pos} {j : Nat} (h0 : VE T C k f o mo) (h2 : VE T C k f o2 mo2) (hc : compB scope fd.scope ((ps ++ ls).zipIdx) (ps ++ ls).length own = true)
  (htg : TgtSh scope.names (own.zipIdx (ps ++ ls).length ++ (ps ++ ls).zipIdx) tgt (.name j)) (hsub : ∀ f', CX w hO f' (relabelS scope fd.scope) (own.zipIdx (ps ++ ls).length ++ (ps ++ ls).zipIdx) ((ps ++ ls).length + own.length) -> VE T C k f' elt m)
  (hn1 : autoParam (n1 = "append") A1._auto_1) (hn2 : autoParam (n2 = "pop") A1._auto_1) (hb : autoParam (∀ whole, attributeBase o "append" f.env whole = whole) A1._auto_1) (hline : autoParam ((apos.endLine == pos.line) = true) A1._auto_1)
  (hb2 : autoParam (∀ whole, attributeBase o2 "pop" f.env whole = whole) A1._auto_1) (hline2 : autoParam ((apos2.endLine == pos2.line) = true) A1._auto_1) :
  V1 T C k f (.Expr (.Call (.Attribute o n1 apos) [.ListComp elt [⟨tgt, .Call (.Attribute o2 n2 apos2) [] [] pos2, [], 0⟩] scope cpos] [] pos) p) (.appc mo m own.length j mo2) := by
 subst hn1 hn2
 exact ⟨s1_appc I.ok h0.go h2.go hb hline I.inter hb2 hline2 (compSt I.toCX hc) (fun _ => rfl) htg fun f' hf => (hsub f' (I.toCX.comp hf)).go⟩
theorem s_for (I : InFn f w hO fd ps ls) {tgt iter : Expr} {b els : List Stmt} {t : MT} {m : ME} {mb me : List MS} {p : Pos} (hi : VI T C k f iter m tgt) (ht : TgtOK f (varZ f) tgt t) (hb : VS T C k f b mb) (he : VS T C k f els me)
  (hs : autoParam (∀ x, foldedSetIterable iter f.env x = pure x) A1._auto_1) : V1 T C k f (.For tgt iter b els p) (.fr t m mb me) := ⟨s1_for I.ok hi.go ht hb.go he.go hs⟩
theorem s_dret (I : InFn f w hO fd ps ls) {x : Str} {p p1 p2 p3 p4 p5 : Pos} {i : Nat} {ks : List (Option Expr)} {es : List Expr} {js : List Int} {ms : List ME} {e' : Expr} {mj : ME} (h : stoB fd.scope (ps ++ ls) x i = true) (hk : (fd.scope.names.lookup x == some .local && !(x == ("__debug__" : Str))) = true)
  (hp : VP T C k f ks es js ms) (hj : VE T C k f e' mj) (hn : autoParam (js.Nodup) A1._auto_1) (h0 : autoParam (ks.isEmpty = false) A1._auto_1) (hlen : autoParam (js.length <= 15) A1._auto_1) (hns : autoParam (notSlice e' = true) A1._auto_1) :
  VS T C k f [.Assign [.Name x p] (.Dict ks es p1) p2, .Return (some (.Subscript (.Name x p3) e' p4)) p5] [.dret i js ms mj] := by
 have hk := Bool.and_eq_true_iff.mp hk
 exact ⟨ss_dret I.ok (v_ok I h).1 ((I.kindOf x).trans (beq_iff_eq.mp hk.1)) (Bool.not_eq_true' _ ▸ hk.2) hp.go hj.go hn (fun e => by rw [e] at h0; cases h0) hlen hns⟩
theorem sw_cell (I : InFn f w hO fd ps ls) {x : Str} {p : Pos} {line : Nat} {elt : Expr} {gens : List Comprehension} {scope : Scope} {pos : Pos} (h : (!(fd.scope.names.lookup x == some .local)) = true) : swapsWith (.ListComp elt gens scope pos) (some (.Name x p)) line f.env = pure false := by
 show (pure (f.env.blockKind == .function && f.env.kindOf x == some .local && p.line == pos.line && !(scope.names.any fun (n, k) => n == x && (k == .local || k == .cell))) : Sem Bool) = pure false
 rw [I.kindOf, show (fd.scope.names.lookup x == some .local) = false from Bool.not_eq_true' _ ▸ h, Bool.and_false]; rfl
end
section
variable {T : Tabs} {C : CT} {k : Nat} {w : World} {hO : Heap} {mb : Str -> Option Value}
theorem Dat.g_len (d : Dat T C k w hO mb) : glv (mgOf w.params) mb "len" (.builtin "len") := d.blt (by kernel_rfl) (by decide +kernel) (by decide +kernel)
theorem Dat.g_sum (d : Dat T C k w hO mb) : glv (mgOf w.params) mb "sum" (.builtin "sum") := d.blt (by kernel_rfl) (by decide +kernel) (by decide +kernel)
theorem Dat.g_chr (d : Dat T C k w hO mb) : glv (mgOf w.params) mb "chr" (.builtin "chr") := d.blt (by kernel_rfl) (by decide +kernel) (by decide +kernel)
theorem Dat.g_ord (d : Dat T C k w hO mb) : glv (mgOf w.params) mb "ord" (.builtin "ord") := d.blt (by kernel_rfl) (by decide +kernel) (by decide +kernel)
theorem Dat.g_int (d : Dat T C k w hO mb) : glv (mgOf w.params) mb "int" (.type "int") := d.blt (by kernel_rfl) (by decide +kernel) (by decide +kernel)
theorem Dat.g_str (d : Dat T C k w hO mb) : glv (mgOf w.params) mb "str" (.type "str") := d.blt (by kernel_rfl) (by decide +kernel) (by decide +kernel)
theorem Dat.g_hex (d : Dat T C k w hO mb) : glv (mgOf w.params) mb "hex" (.builtin "hex") := d.blt (by kernel_rfl) (by decide +kernel) (by decide +kernel)
theorem Dat.g_sorted (d : Dat T C k w hO mb) : glv (mgOf w.params) mb "sorted" (.builtin "sorted") := d.blt (by kernel_rfl) (by decide +kernel) (by decide +kernel)
theorem Dat.g_range (d : Dat T C k w hO mb) : glv (mgOf w.params) mb "range" (.type "range") := d.blt (by kernel_rfl) (by decide +kernel) (by decide +kernel)
theorem Dat.g_list (d : Dat T C k w hO mb) : glv (mgOf w.params) mb "list" (.type "list") := d.blt (by kernel_rfl) (by decide +kernel) (by decide +kernel)
theorem Dat.g_enumerate (d : Dat T C k w hO mb) : glv (mgOf w.params) mb "enumerate" (.type "enumerate") := d.blt (by kernel_rfl) (by decide +kernel) (by decide +kernel)
theorem Dat.g_isinstance (d : Dat T C k w hO mb) : glv (mgOf w.params) mb "isinstance" (.builtin "isinstance") := d.blt (by kernel_rfl) (by decide +kernel) (by decide +kernel)
theorem Dat.g_type (d : Dat T C k w hO mb) : glv (mgOf w.params) mb "type" (.type "type") := d.blt (by kernel_rfl) (by decide +kernel) (by decide +kernel)
end
noncomputable def ms_pretty_flags : List MS := [(.own 1 []), (.fr (.name 2) (.rng (.lit (.int 0)) (.lit (.int 32))) [(.asg (.name 3) (.bin .LShift (.lit (.int 1)) (.var 2))), (.ife (.bin .BitAnd (.var 0) (.var 3)) [(.app (.var 1) (.gop .getFlag [(.var 3), (.bi .hex [(.var 3)])])), (.aug 0 .BitXor (.var 3)), (.ife (.not (.var 0)) [.brk] [])] [])] [(.app (.var 1) (.bi .hex [(.var 0)]))]), (.ret (.meth .join (.lit (.str [44, 32])) [(.var 1)]))]
noncomputable def fn_pretty_flags : FuncData := (Fn (fdAt 4) (Str.ofString "pretty_flags") (Str.ofString "pretty_flags") 3 .none .none .none (.str (Str.ofString "cpy313.dis") 289) none (.ref 45) .none 0)
theorem lk_pretty_flags {P : Params} : (Mine.K P).lookup 46 = some ⟨.type "function", none, .func fn_pretty_flags, ⟨[]⟩⟩ := by kernel_rfl
theorem ok_pretty_flags : FnOk fn_pretty_flags ["flags"] ["names", "i", "flag"] (fdAt 4).body where
 glob := rfl
 blt := rfl
 clo := rfl
 body := rfl
 bind := len1 fun _ => by kernel_rfl
 co := by kernel_rfl
 gen := by kernel_rfl
 kind := by kernel_rfl
 nod := by decide +kernel
 cxn := by decide +kernel
 par := by decide +kernel
 nofree := by decide +kernel
noncomputable def ms_in_table_b1 : List MS := [(.ret (.gop .inB1 [(.bi .ord [(.var 0)])]))]
noncomputable def fn_in_table_b1 : FuncData := (Fn (fdAt 7) (Str.ofString "in_table_b1") (Str.ofString "in_table_b1") 3 .none .none .none (.str (Str.ofString "cpy313.stringprep") 332) none (.ref 63) .none 0)
theorem lk_in_table_b1 {P : Params} : (Mine.K P).lookup 64 = some ⟨.type "function", none, .func fn_in_table_b1, ⟨[]⟩⟩ := by kernel_rfl
theorem ok_in_table_b1 : FnOk fn_in_table_b1 ["code"] [] (fdAt 7).body where
 glob := rfl
 blt := rfl
 clo := rfl
 body := rfl
 bind := len1 fun _ => by kernel_rfl
 co := by kernel_rfl
 gen := by kernel_rfl
 kind := by kernel_rfl
 nod := by decide +kernel
 cxn := by decide +kernel
 par := by decide +kernel
 nofree := by decide +kernel
noncomputable def ms_map_table_b3 : List MS := [(.asg (.name 1) (.gop .getB3 [(.bi .ord [(.var 0)])])), (.ife (.cmp .IsNot (.var 1) (.lit .none)) [(.ret (.var 1))] []), (.ret (.meth .lower (.var 0) []))]
noncomputable def fn_map_table_b3 : FuncData := (Fn (fdAt 9) (Str.ofString "map_table_b3") (Str.ofString "map_table_b3") 3 .none .none .none (.str (Str.ofString "cpy313.stringprep") 332) none (.ref 109) .none 0)
theorem lk_map_table_b3 {P : Params} : (Mine.K P).lookup 110 = some ⟨.type "function", none, .func fn_map_table_b3, ⟨[]⟩⟩ := by kernel_rfl
theorem ok_map_table_b3 : FnOk fn_map_table_b3 ["code"] ["r"] (fdAt 9).body where
 glob := rfl
 blt := rfl
 clo := rfl
 body := rfl
 bind := len1 fun _ => by kernel_rfl
 co := by kernel_rfl
 gen := by kernel_rfl
 kind := by kernel_rfl
 nod := by decide +kernel
 cxn := by decide +kernel
 par := by decide +kernel
 nofree := by decide +kernel
noncomputable def ms_ISTERMINAL : List MS := [(.ret (.cmp .Lt (.var 0) (.lit (.int 256))))]
noncomputable def fn_ISTERMINAL : FuncData := (Fn (fdAt 62) (Str.ofString "ISTERMINAL") (Str.ofString "ISTERMINAL") 3 .none .none .none (.str (Str.ofString "cpy313.token") 2360) none (.ref 119) .none 0)
theorem lk_ISTERMINAL {P : Params} : (Mine.K P).lookup 120 = some ⟨.type "function", none, .func fn_ISTERMINAL, ⟨[]⟩⟩ := by kernel_rfl
theorem ok_ISTERMINAL : FnOk fn_ISTERMINAL ["x"] [] (fdAt 62).body where
 glob := rfl
 blt := rfl
 clo := rfl
 body := rfl
 bind := len1 fun _ => by kernel_rfl
 co := by kernel_rfl
 gen := by kernel_rfl
 kind := by kernel_rfl
 nod := by decide +kernel
 cxn := by decide +kernel
 par := by decide +kernel
 nofree := by decide +kernel
noncomputable def ms_ISNONTERMINAL : List MS := [(.ret (.cmp .GtE (.var 0) (.lit (.int 256))))]
noncomputable def fn_ISNONTERMINAL : FuncData := (Fn (fdAt 63) (Str.ofString "ISNONTERMINAL") (Str.ofString "ISNONTERMINAL") 3 .none .none .none (.str (Str.ofString "cpy313.token") 2360) none (.ref 126) .none 0)
theorem lk_ISNONTERMINAL {P : Params} : (Mine.K P).lookup 127 = some ⟨.type "function", none, .func fn_ISNONTERMINAL, ⟨[]⟩⟩ := by kernel_rfl
theorem ok_ISNONTERMINAL : FnOk fn_ISNONTERMINAL ["x"] [] (fdAt 63).body where
 glob := rfl
 blt := rfl
 clo := rfl
 body := rfl
 bind := len1 fun _ => by kernel_rfl
 co := by kernel_rfl
 gen := by kernel_rfl
 kind := by kernel_rfl
 nod := by decide +kernel
 cxn := by decide +kernel
 par := by decide +kernel
 nofree := by decide +kernel
noncomputable def ms_ISEOF : List MS := [(.ret (.cmp .Eq (.var 0) (.lit (.int 0))))]
noncomputable def fn_ISEOF : FuncData := (Fn (fdAt 64) (Str.ofString "ISEOF") (Str.ofString "ISEOF") 3 .none .none .none (.str (Str.ofString "cpy313.token") 2360) none (.ref 133) .none 0)
theorem lk_ISEOF {P : Params} : (Mine.K P).lookup 134 = some ⟨.type "function", none, .func fn_ISEOF, ⟨[]⟩⟩ := by kernel_rfl
theorem ok_ISEOF : FnOk fn_ISEOF ["x"] [] (fdAt 64).body where
 glob := rfl
 blt := rfl
 clo := rfl
 body := rfl
 bind := len1 fun _ => by kernel_rfl
 co := by kernel_rfl
 gen := by kernel_rfl
 kind := by kernel_rfl
 nod := by decide +kernel
 cxn := by decide +kernel
 par := by decide +kernel
 nofree := by decide +kernel
noncomputable def ms_law_formula : List MS := [(.asg (.name 1) (.list [(.lit (.str [102])), (.lit (.str [105])), (.lit (.str [108])), (.lit (.str [102, 102])), (.lit (.str [102, 105])), (.lit (.str [102, 108])), (.lit (.str [105, 108])), (.lit (.str [102, 102, 105])), (.lit (.str [102, 102, 108]))])), (.asg (.name 2) (.list [(.lit (.str [38])), (.lit (.str [124])), (.lit (.str [94])), (.lit (.str [60, 61])), (.lit (.str [60])), (.lit (.str [62, 61])), (.lit (.str [62])), (.lit (.str [61, 61])), (.lit (.str [33, 61]))])), (.asg (.name 3) (.comp 1 (.sub (.var 1) (.bin .Mod (.bin .FloorDiv (.sub (.var 0) (.lit (.int 0))) (.bin .Pow (.lit (.int 9)) (.var 8))) (.lit (.int 9)))) (.rng (.lit (.int 0)) (.lit (.int 4))) (.name 8) [] [])), (.fr (.name 4) (.rng (.lit (.int 0)) (.lit (.int 3))) [(.asg (.name 5) (.bin .Mod (.bin .FloorDiv (.sub (.var 0) (.lit (.int 1))) (.bin .Pow (.lit (.int 18)) (.var 4))) (.lit (.int 18)))), (.asg (.name 6) (.bin .Mod (.bin .FloorDiv (.sub (.var 0) (.lit (.int 2))) (.bin .Pow (.lit (.int 3)) (.var 4))) (.bin .Sub (.lit (.int 3)) (.var 4)))), (.asg (.name 7) (.tup [(.cmp .Gt (.var 5) (.lit (.int 8))), (.sub (.var 2) (.bin .Mod (.var 5) (.lit (.int 9)))), (.sub (.var 3) (.var 6)), (.sub (.var 3) (.bin .Add (.var 6) (.lit (.int 1))))])), (.asg (.name 3) (.bin .Add (.bin .Add (.slice (.var 3) (.lit .none) (.var 6)) (.list [(.var 7)])) (.slice (.var 3) (.bin .Add (.var 6) (.lit (.int 2))) (.lit .none))))] []), (.ret (.sub (.var 3) (.lit (.int 0))))]
noncomputable def fn_law_formula : FuncData := (Fn (fdAt 70) (Str.ofString "_law_formula") (Str.ofString "_law_formula") 3 .none .none .none (.str (Str.ofString "law_wf0114_01") 2799) none (.ref 275) .none 0)
theorem lk_law_formula {P : Params} : (Mine.K P).lookup 276 = some ⟨.type "function", none, .func fn_law_formula, ⟨[]⟩⟩ := by kernel_rfl
theorem ok_law_formula : FnOk fn_law_formula ["numbers"] ["words", "signs", "parts", "k", "figure", "at", "joined"] (fdAt 70).body where
 glob := rfl
 blt := rfl
 clo := rfl
 body := rfl
 bind := len1 fun _ => by kernel_rfl
 co := by kernel_rfl
 gen := by kernel_rfl
 kind := by kernel_rfl
 nod := by decide +kernel
 cxn := by decide +kernel
 par := by decide +kernel
 nofree := by decide +kernel
noncomputable def ms_law_text : List MS := [(.ife (.bi .isStr [(.var 0)]) [(.ret (.var 0))] []), (.asg (.tup [1, 2, 3, 4]) (.var 0)), (.ret (.bin .Add (.bin .Add (.bin .Add (.bin .Add (.ite (.var 1) (.lit (.str [126, 40])) (.lit (.str [40]))) (.call 283 [(.var 3)])) (.var 2)) (.call 283 [(.var 4)])) (.lit (.str [41]))))]
noncomputable def fn_law_text : FuncData := (Fn (fdAt 71) (Str.ofString "_law_text") (Str.ofString "_law_text") 3 .none .none .none (.str (Str.ofString "law_wf0114_01") 2799) none (.ref 282) .none 0)
theorem lk_law_text {P : Params} : (Mine.K P).lookup 283 = some ⟨.type "function", none, .func fn_law_text, ⟨[]⟩⟩ := by kernel_rfl
theorem ok_law_text : FnOk fn_law_text ["part"] ["turned", "sign", "left", "right"] (fdAt 71).body where
 glob := rfl
 blt := rfl
 clo := rfl
 body := rfl
 bind := len1 fun _ => by kernel_rfl
 co := by kernel_rfl
 gen := by kernel_rfl
 kind := by kernel_rfl
 nod := by decide +kernel
 cxn := by decide +kernel
 par := by decide +kernel
 nofree := by decide +kernel
noncomputable def ms_law_holds : List MS := [(.ife (.bi .isStr [(.var 0)]) [(.ret (.cmp .Eq (.comp 1 (.var 9) (.var 0) (.name 9) [(.cmp .NotIn (.var 9) (.var 1))] []) (.list [])))] []), (.asg (.tup [2, 3, 4, 5]) (.var 0)), (.asg (.name 6) (.call 288 [(.var 4), (.var 1)])), (.asg (.name 7) (.call 288 [(.var 5), (.var 1)])), (.ife (.cmp .Eq (.var 3) (.lit (.str [38]))) [(.asg (.name 8) (.bop true (.var 6) (.var 7)))] [(.ife (.cmp .Eq (.var 3) (.lit (.str [124]))) [(.asg (.name 8) (.bop false (.var 6) (.var 7)))] [(.ife (.cmp .Eq (.var 3) (.lit (.str [60, 61]))) [(.asg (.name 8) (.bop false (.var 7) (.not (.var 6))))] [(.ife (.cmp .Eq (.var 3) (.lit (.str [60]))) [(.asg (.name 8) (.bop true (.var 7) (.not (.var 6))))] [(.ife (.cmp .Eq (.var 3) (.lit (.str [62, 61]))) [(.asg (.name 8) (.bop false (.var 6) (.not (.var 7))))] [(.ife (.cmp .Eq (.var 3) (.lit (.str [62]))) [(.asg (.name 8) (.bop true (.var 6) (.not (.var 7))))] [(.ife (.cmp .Eq (.var 3) (.lit (.str [61, 61]))) [(.asg (.name 8) (.cmp .Eq (.var 6) (.var 7)))] [(.asg (.name 8) (.cmp .NotEq (.var 6) (.var 7)))])])])])])])]), (.ret (.cmp .NotEq (.var 8) (.var 2)))]
noncomputable def fn_law_holds : FuncData := (Fn (fdAt 72) (Str.ofString "_law_holds") (Str.ofString "_law_holds") 3 .none .none .none (.str (Str.ofString "law_wf0114_01") 2799) none (.ref 287) .none 0)
theorem lk_law_holds {P : Params} : (Mine.K P).lookup 288 = some ⟨.type "function", none, .func fn_law_holds, ⟨[]⟩⟩ := by kernel_rfl
theorem ok_law_holds : FnOk fn_law_holds ["part", "held"] ["turned", "sign", "left", "right", "a", "b", "truth"] (fdAt 72).body where
 glob := rfl
 blt := rfl
 clo := rfl
 body := rfl
 bind := len2 fun _ _ => by kernel_rfl
 co := by kernel_rfl
 gen := by kernel_rfl
 kind := by kernel_rfl
 nod := by decide +kernel
 cxn := by decide +kernel
 par := by decide +kernel
 nofree := by decide +kernel
noncomputable def ms_law_typed : List MS := [(.asg (.name 3) (.list [(.tup [(.lit (.str [102, 102, 105])), (.lit (.int 64259))]), (.tup [(.lit (.str [102, 102, 108])), (.lit (.int 64260))]), (.tup [(.lit (.str [102, 102])), (.lit (.int 64256))]), (.tup [(.lit (.str [102, 105])), (.lit (.int 64257))]), (.tup [(.lit (.str [102, 108])), (.lit (.int 64258))])])), (.asg (.name 4) (.list [(.lit (.int 65)), (.lit (.int 119808)), (.lit (.int 119860)), (.lit (.int 119912)), (.lit (.int 120016)), (.lit (.int 120172)), (.lit (.int 120224)), (.lit (.int 120276)), (.lit (.int 120328)), (.lit (.int 120380)), (.lit (.int 120432))])), (.asg (.name 5) (.bin .Add (.list [(.lit (.int 173)), (.lit (.int 847)), (.lit (.int 6150)), (.lit (.int 6155)), (.lit (.int 6156)), (.lit (.int 6157)), (.lit (.int 8203)), (.lit (.int 8204)), (.lit (.int 8205)), (.lit (.int 8288)), (.lit (.int 65279))]) (.bi .lrange [(.lit (.int 65024)), (.lit (.int 65040))]))), (.own 6 []), (.asg (.name 7) (.lit (.int 0))), (.whil (.cmp .Lt (.var 7) (.bi .len [(.var 0)])) [(.asg (.name 8) (.comp 1 (.var 10) (.var 3) (.name 10) [(.cmp .Eq (.slice (.var 0) (.var 7) (.bin .Add (.var 7) (.bi .len [(.sub (.var 10) (.lit (.int 0)))]))) (.sub (.var 10) (.lit (.int 0))))] [])), (.ife (.bop true (.cmp .NotEq (.var 8) (.list [])) (.cmp .Eq (.bin .Mod (.bin .Add (.var 1) (.var 7)) (.lit (.int 2))) (.lit (.int 0)))) [(.app (.var 6) (.bi .chr [(.sub (.sub (.var 8) (.lit (.int 0))) (.lit (.int 1)))])), (.aug 7 .Add (.bi .len [(.sub (.sub (.var 8) (.lit (.int 0))) (.lit (.int 0)))]))] [(.asg (.name 9) (.bin .Mod (.bin .Add (.bin .FloorDiv (.var 1) (.lit (.int 2))) (.bin .Mult (.lit (.int 5)) (.var 7))) (.lit (.int 12)))), (.ife (.bop true (.meth .isalpha (.sub (.var 0) (.var 7)) []) (.cmp .Gt (.var 9) (.lit (.int 0)))) [(.app (.var 6) (.bi .chr [(.bin .Sub (.bin .Add (.sub (.var 4) (.bin .Sub (.var 9) (.lit (.int 1)))) (.bi .ord [(.sub (.var 0) (.var 7))])) (.lit (.int 97)))]))] [(.app (.var 6) (.sub (.var 0) (.var 7)))]), (.aug 7 .Add (.lit (.int 1)))]), (.ife (.cmp .Eq (.bin .Mod (.bin .Add (.var 2) (.var 7)) (.lit (.int 4))) (.lit (.int 0))) [(.app (.var 6) (.bi .chr [(.sub (.var 5) (.bin .Mod (.bin .Add (.bin .FloorDiv (.var 2) (.lit (.int 4))) (.var 7)) (.lit (.int 27))))]))] [])]), (.ret (.var 6))]
noncomputable def fn_law_typed : FuncData := (Fn (fdAt 73) (Str.ofString "_law_typed") (Str.ofString "_law_typed") 3 .none .none .none (.str (Str.ofString "law_wf0114_01") 2799) none (.ref 292) .none 0)
theorem lk_law_typed {P : Params} : (Mine.K P).lookup 293 = some ⟨.type "function", none, .func fn_law_typed, ⟨[]⟩⟩ := by kernel_rfl
theorem ok_law_typed : FnOk fn_law_typed ["text", "style", "hidden"] ["ligatures", "capitals", "unseen", "typed", "at", "fits", "way"] (fdAt 73).body where
 glob := rfl
 blt := rfl
 clo := rfl
 body := rfl
 bind := len3 fun _ _ _ => by kernel_rfl
 co := by kernel_rfl
 gen := by kernel_rfl
 kind := by kernel_rfl
 nod := by decide +kernel
 cxn := by decide +kernel
 par := by decide +kernel
 nofree := by decide +kernel
noncomputable def ms_law_prepared : List MS := [(.ret (.meth .join (.lit (.str [])) [(.comp 1 (.call 110 [(.var 1)]) (.var 0) (.name 1) [(.not (.call 64 [(.var 1)]))] [])]))]
noncomputable def fn_law_prepared : FuncData := (Fn (fdAt 74) (Str.ofString "_law_prepared") (Str.ofString "_law_prepared") 3 .none .none .none (.str (Str.ofString "law_wf0114_01") 2799) none (.ref 297) .none 0)
theorem lk_law_prepared {P : Params} : (Mine.K P).lookup 298 = some ⟨.type "function", none, .func fn_law_prepared, ⟨[]⟩⟩ := by kernel_rfl
theorem ok_law_prepared : FnOk fn_law_prepared ["signs"] [] (fdAt 74).body where
 glob := rfl
 blt := rfl
 clo := rfl
 body := rfl
 bind := len1 fun _ => by kernel_rfl
 co := by kernel_rfl
 gen := by kernel_rfl
 kind := by kernel_rfl
 nod := by decide +kernel
 cxn := by decide +kernel
 par := by decide +kernel
 nofree := by decide +kernel
noncomputable def ms_law_cut : List MS := [(.own 1 []), (.whil (.cmp .NotEq (.var 0) (.lit (.str []))) [(.asg (.name 2) (.lit (.int 3))), (.whil (.bop true (.cmp .Gt (.var 2) (.lit (.int 1))) (.gop .notInTok [(.slice (.var 0) (.lit .none) (.var 2))])) [(.aug 2 .Sub (.lit (.int 1)))]), (.app (.var 1) (.gop .getTok [(.slice (.var 0) (.lit .none) (.var 2)), (.bin .Add (.lit (.int 256)) (.meth .find (.lit (.str [102, 105, 108])) [(.sub (.var 0) (.lit (.int 0)))]))])), (.asg (.name 0) (.slice (.var 0) (.var 2) (.lit .none)))]), (.ret (.bin .Add (.var 1) (.list [(.lit (.int 0))])))]
noncomputable def fn_law_cut : FuncData := (Fn (fdAt 75) (Str.ofString "_law_cut") (Str.ofString "_law_cut") 3 .none .none .none (.str (Str.ofString "law_wf0114_01") 2799) none (.ref 304) .none 0)
theorem lk_law_cut {P : Params} : (Mine.K P).lookup 305 = some ⟨.type "function", none, .func fn_law_cut, ⟨[]⟩⟩ := by kernel_rfl
theorem ok_law_cut : FnOk fn_law_cut ["text"] ["row", "size"] (fdAt 75).body where
 glob := rfl
 blt := rfl
 clo := rfl
 body := rfl
 bind := len1 fun _ => by kernel_rfl
 co := by kernel_rfl
 gen := by kernel_rfl
 kind := by kernel_rfl
 nod := by decide +kernel
 cxn := by decide +kernel
 par := by decide +kernel
 nofree := by decide +kernel
noncomputable def ms_law_sets : List MS := [(.asg (.name 3) (.comp 2 (.bin .BitOr (.var 5) (.var 6)) (.var 1) (.name 5) [] [.mk (.name 6) (.var 2) []])), .dret 4 [18, 19, 20, 21, 27, 28, 29, 30, 32] [(.bin .Add (.bin .Add (.var 1) (.var 2)) (.var 3)), (.var 3), (.bin .Add (.var 2) (.var 3)), (.bin .Add (.var 1) (.var 3)), (.bin .Add (.bin .Add (.list [(.lit (.int 0))]) (.var 1)) (.var 2)), (.bin .Add (.var 1) (.var 2)), (.bin .Add (.bin .Add (.list [(.lit (.int 0))]) (.var 1)) (.var 3)), (.bin .Add (.bin .Add (.list [(.lit (.int 0))]) (.var 2)) (.var 3)), (.bin .Add (.var 1) (.var 2))] (.var 0)]
noncomputable def fn_law_sets : FuncData := (Fn (fdAt 76) (Str.ofString "_law_sets") (Str.ofString "_law_sets") 3 .none .none .none (.str (Str.ofString "law_wf0114_01") 2799) none (.ref 309) .none 0)
theorem lk_law_sets {P : Params} : (Mine.K P).lookup 310 = some ⟨.type "function", none, .func fn_law_sets, ⟨[]⟩⟩ := by kernel_rfl
theorem ok_law_sets : FnOk fn_law_sets ["sign", "left", "right"] ["both", "sides"] (fdAt 76).body where
 glob := rfl
 blt := rfl
 clo := rfl
 body := rfl
 bind := len3 fun _ _ _ => by kernel_rfl
 co := by kernel_rfl
 gen := by kernel_rfl
 kind := by kernel_rfl
 nod := by decide +kernel
 cxn := by decide +kernel
 par := by decide +kernel
 nofree := by decide +kernel
noncomputable def ms_law_multiplied_out : List MS := [(.own 2 []), (.asg (.name 3) (.list [])), (.asg (.name 4) (.lit (.bool false))), (.fr (.name 5) (.var 0) [(.ife (.call 134 [(.var 5)]) [(.asg (.name 3) (.comp 2 (.var 11) (.var 2) (.name 10) [] [.mk (.name 11) (.var 10) []]))] [(.ife (.cmp .Eq (.var 5) (.lit (.int 8))) [(.pop 6 (.var 2)), (.pop 7 (.var 2)), (.pop 8 (.var 2)), (.popD (.var 2)), (.asg (.name 9) (.call 310 [(.var 7), (.var 8), (.var 6)])), (.ife (.bop true (.cmp .NotEq (.var 2) (.list [])) (.cmp .Eq (.last (.var 2)) (.lit (.int 31)))) [(.popD (.var 2)), (.asg (.name 9) (.bin .Add (.var 9) (.list [(.lit (.int 0))])))] []), (.app (.var 2) (.var 9))] [(.ife (.call 120 [(.var 5)]) [(.app (.var 2) (.var 5))] [(.ife (.var 4) [(.appc (.var 2) (.bin .BitOr (.var 10) (.sub (.var 1) (.bin .Sub (.var 5) (.lit (.int 256))))) 1 10 (.var 2))] [(.app (.var 2) (.list [(.sub (.var 1) (.bin .Sub (.var 5) (.lit (.int 256))))]))])])])]), (.asg (.name 4) (.call 127 [(.var 5)]))] []), (.ret (.var 3))]
noncomputable def fn_law_multiplied_out : FuncData := (Fn (fdAt 77) (Str.ofString "_law_multiplied_out") (Str.ofString "_law_multiplied_out") 3 .none .none .none (.str (Str.ofString "law_wf0114_01") 2799) none (.ref 314) .none 0)
theorem lk_law_multiplied_out {P : Params} : (Mine.K P).lookup 315 = some ⟨.type "function", none, .func fn_law_multiplied_out, ⟨[]⟩⟩ := by kernel_rfl
theorem ok_law_multiplied_out : FnOk fn_law_multiplied_out ["row", "bits"] ["pile", "done", "within", "symbol", "right", "sign", "left", "sets"] (fdAt 77).body where
 glob := rfl
 blt := rfl
 clo := rfl
 body := rfl
 bind := len2 fun _ _ => by kernel_rfl
 co := by kernel_rfl
 gen := by kernel_rfl
 kind := by kernel_rfl
 nod := by decide +kernel
 cxn := by decide +kernel
 par := by decide +kernel
 nofree := by decide +kernel
noncomputable def ms_law_places : List MS := [(.asg (.name 1) (.bin .Mod (.var 0) (.lit (.int 12)))), (.asg (.name 2) (.bin .Mod (.bin .Add (.bin .Add (.var 1) (.lit (.int 1))) (.bin .Mod (.bin .FloorDiv (.var 0) (.lit (.int 12))) (.lit (.int 11)))) (.lit (.int 12)))), (.asg (.name 3) (.comp 1 (.var 4) (.rng (.lit (.int 0)) (.lit (.int 12))) (.name 4) [(.cmp .NotIn (.var 4) (.tup [(.var 1), (.var 2)]))] [])), (.ret (.list [(.var 1), (.var 2), (.sub (.var 3) (.bin .Mod (.bin .FloorDiv (.var 0) (.lit (.int 132))) (.lit (.int 10))))]))]
noncomputable def fn_law_places : FuncData := (Fn (fdAt 79) (Str.ofString "_law_places") (Str.ofString "_law_places") 3 .none .none .none (.str (Str.ofString "law_wf0114_01") 2799) none (.ref 326) .none 0)
theorem lk_law_places {P : Params} : (Mine.K P).lookup 327 = some ⟨.type "function", none, .func fn_law_places, ⟨[]⟩⟩ := by kernel_rfl
theorem ok_law_places : FnOk fn_law_places ["number"] ["first", "second", "rest"] (fdAt 79).body where
 glob := rfl
 blt := rfl
 clo := rfl
 body := rfl
 bind := len1 fun _ => by kernel_rfl
 co := by kernel_rfl
 gen := by kernel_rfl
 kind := by kernel_rfl
 nod := by decide +kernel
 cxn := by decide +kernel
 par := by decide +kernel
 nofree := by decide +kernel
section
variable {T : Tabs} {C : CT} {k : Nat} {w : World} {hO : Heap} {mb : Str -> Option Value}
theorem walk_pretty_flags (d : Dat T C k w hO mb) {f : Fx} (I : InFn f w hO fn_pretty_flags ["flags"] ["names", "i", "flag"]) : VS T C k f (fdAt 4).body ms_pretty_flags :=
 have c := I.toCX
 (s_cons I.ok (s_own I (by kernel_rfl) es_nil)
 (s_cons I.ok (s_for I (i_rng1 d c sh_name (by kernel_rfl) d.g_range e_int) (ok_name I (by kernel_rfl)) (s_cons I.ok (s_asg I (by kernel_rfl) (e_bin e_int (e_var c (by kernel_rfl))))
 (s_cons I.ok (s_ife I.ok (b_of (e_bin (e_var c (by kernel_rfl)) (e_var c (by kernel_rfl)))) (s_cons I.ok (s_app I (e_var c (by kernel_rfl)) (e_getFlag d c (by kernel_rfl) (e_var c (by kernel_rfl)) (e_bi d c (b := .hex) (by kernel_rfl) d.g_hex (es_cons (e_var c (by kernel_rfl)) es_nil))))
 (s_cons I.ok (s_aug I (by kernel_rfl) (e_var c (by kernel_rfl)))
 (s_cons I.ok (s_ife I.ok (b_not (b_of (e_var c (by kernel_rfl)))) (s_cons I.ok s_brk
 s_nil) s_nil)
 s_nil))) s_nil)
 s_nil)) (s_cons I.ok (s_app I (e_var c (by kernel_rfl)) (e_bi d c (b := .hex) (by kernel_rfl) d.g_hex (es_cons (e_var c (by kernel_rfl)) es_nil)))
 s_nil))
 (s_cons I.ok (s_ret (e_meth (m := .join) (e_str (by kernel_rfl)) (es_cons (e_var c (by kernel_rfl)) es_nil)))
 s_nil)))
theorem walk_in_table_b1 (d : Dat T C k w hO mb) {f : Fx} (I : InFn f w hO fn_in_table_b1 ["code"] []) : VS T C k f (fdAt 7).body ms_in_table_b1 :=
 have c := I.toCX
 (s_cons I.ok (s_ret (e_inB1 d c (by kernel_rfl) (e_bi d c (b := .ord) (by kernel_rfl) d.g_ord (es_cons (e_var c (by kernel_rfl)) es_nil))))
 s_nil)
theorem walk_map_table_b3 (d : Dat T C k w hO mb) {f : Fx} (I : InFn f w hO fn_map_table_b3 ["code"] ["r"]) : VS T C k f (fdAt 9).body ms_map_table_b3 :=
 have c := I.toCX
 (s_cons I.ok (s_asg I (by kernel_rfl) (e_getB3 d c (by kernel_rfl) (e_bi d c (b := .ord) (by kernel_rfl) d.g_ord (es_cons (e_var c (by kernel_rfl)) es_nil))))
 (s_cons I.ok (s_ife I.ok (b_cmp (e_var c (by kernel_rfl)) e_none) (s_cons I.ok (s_ret (e_var c (by kernel_rfl)))
 s_nil) s_nil)
 (s_cons I.ok (s_ret (e_meth (m := .lower) (e_var c (by kernel_rfl)) es_nil))
 s_nil)))
theorem walk_ISTERMINAL (d : Dat T C k w hO mb) {f : Fx} (I : InFn f w hO fn_ISTERMINAL ["x"] []) : VS T C k f (fdAt 62).body ms_ISTERMINAL :=
 have c := I.toCX
 (s_cons I.ok (s_ret (e_cmp (e_var c (by kernel_rfl)) (e_glit d c (by kernel_rfl) (t := 2460) (by kernel_rfl))))
 s_nil)
theorem walk_ISNONTERMINAL (d : Dat T C k w hO mb) {f : Fx} (I : InFn f w hO fn_ISNONTERMINAL ["x"] []) : VS T C k f (fdAt 63).body ms_ISNONTERMINAL :=
 have c := I.toCX
 (s_cons I.ok (s_ret (e_cmp (e_var c (by kernel_rfl)) (e_glit d c (by kernel_rfl) (t := 2460) (by kernel_rfl))))
 s_nil)
theorem walk_ISEOF (d : Dat T C k w hO mb) {f : Fx} (I : InFn f w hO fn_ISEOF ["x"] []) : VS T C k f (fdAt 64).body ms_ISEOF :=
 have c := I.toCX
 (s_cons I.ok (s_ret (e_cmp (e_var c (by kernel_rfl)) (e_glit d c (by kernel_rfl) (t := 2362) (by kernel_rfl))))
 s_nil)
theorem walk_law_formula (d : Dat T C k w hO mb) {f : Fx} (I : InFn f w hO fn_law_formula ["numbers"] ["words", "signs", "parts", "k", "figure", "at", "joined"]) : VS T C k f (fdAt 70).body ms_law_formula :=
 have c := I.toCX
 (s_cons I.ok (s_asg I (by kernel_rfl) (e_list (es_cons (e_str (by kernel_rfl)) (es_cons (e_str (by kernel_rfl)) (es_cons (e_str (by kernel_rfl)) (es_cons (e_str (by kernel_rfl)) (es_cons (e_str (by kernel_rfl)) (es_cons (e_str (by kernel_rfl)) (es_cons (e_str (by kernel_rfl)) (es_cons (e_str (by kernel_rfl)) (es_cons (e_str (by kernel_rfl)) es_nil)))))))))))
 (s_cons I.ok (s_asg I (by kernel_rfl) (e_list (es_cons (e_str (by kernel_rfl)) (es_cons (e_str (by kernel_rfl)) (es_cons (e_str (by kernel_rfl)) (es_cons (e_str (by kernel_rfl)) (es_cons (e_str (by kernel_rfl)) (es_cons (e_str (by kernel_rfl)) (es_cons (e_str (by kernel_rfl)) (es_cons (e_str (by kernel_rfl)) (es_cons (e_str (by kernel_rfl)) es_nil)))))))))))
 (s_cons I.ok (s_asgc0 I ([("k" : Str)]) (by kernel_rfl) (by kernel_rfl) (by kernel_rfl) (i_rng1 d c sh_name (by kernel_rfl) d.g_range e_int) (t_name (by kernel_rfl)) fun f1 c1 => ⟨f_nil, (e_sub (e_var c1 (by kernel_rfl)) (e_bin (e_bin (e_sub (e_var c1 (by kernel_rfl)) e_int) (e_bin e_int (e_var c1 (by kernel_rfl)))) e_int))⟩)
 (s_cons I.ok (s_for I (i_rng1 d c sh_name (by kernel_rfl) d.g_range e_int) (ok_name I (by kernel_rfl)) (s_cons I.ok (s_asg I (by kernel_rfl) (e_bin (e_bin (e_sub (e_var c (by kernel_rfl)) e_int) (e_bin e_int (e_var c (by kernel_rfl)))) e_int))
 (s_cons I.ok (s_asg I (by kernel_rfl) (e_bin (e_bin (e_sub (e_var c (by kernel_rfl)) e_int) (e_bin e_int (e_var c (by kernel_rfl)))) (e_bin e_int (e_var c (by kernel_rfl)))))
 (s_cons I.ok (s_asg I (by kernel_rfl) (e_tup (es_cons (e_cmp (e_var c (by kernel_rfl)) e_int) (es_cons (e_sub (e_var c (by kernel_rfl)) (e_bin (e_var c (by kernel_rfl)) e_int)) (es_cons (e_sub (e_var c (by kernel_rfl)) (e_var c (by kernel_rfl))) (es_cons (e_sub (e_var c (by kernel_rfl)) (e_bin (e_var c (by kernel_rfl)) e_int)) es_nil))))))
 (s_cons I.ok (s_asg I (by kernel_rfl) (e_bin (e_bin (e_slice (e_var c (by kernel_rfl)) o_none (o_some (e_var c (by kernel_rfl)))) (e_list (es_cons (e_var c (by kernel_rfl)) es_nil))) (e_slice (e_var c (by kernel_rfl)) (o_some (e_bin (e_var c (by kernel_rfl)) e_int)) o_none)))
 s_nil)))) s_nil)
 (s_cons I.ok (s_ret (e_sub (e_var c (by kernel_rfl)) e_int))
 s_nil)))))
theorem walk_law_text (d : Dat T C k w hO mb) {f : Fx} (I : InFn f w hO fn_law_text ["part"] ["turned", "sign", "left", "right"]) : VS T C k f (fdAt 71).body ms_law_text :=
 have c := I.toCX
 (s_cons I.ok (s_ife I.ok (b_of (e_isStr d c (by kernel_rfl) (by kernel_rfl) d.g_isinstance d.g_str (e_var c (by kernel_rfl)))) (s_cons I.ok (s_ret (e_var c (by kernel_rfl)))
 s_nil) s_nil)
 (s_cons I.ok (s_tup4 I (by kernel_rfl) (by kernel_rfl) (by kernel_rfl) (by kernel_rfl) (e_var c (by kernel_rfl)))
 (s_cons I.ok (s_ret (e_bin (e_bin (e_bin (e_bin (e_ite (b_of (e_var c (by kernel_rfl))) (e_str (by kernel_rfl)) (e_str (by kernel_rfl))) (e_call d c (a := 283) (by kernel_rfl) (by kernel_rfl) ⟨_, fn_law_text, lk_law_text, rfl⟩ (es_cons (e_var c (by kernel_rfl)) es_nil))) (e_var c (by kernel_rfl))) (e_call d c (a := 283) (by kernel_rfl) (by kernel_rfl) ⟨_, fn_law_text, lk_law_text, rfl⟩ (es_cons (e_var c (by kernel_rfl)) es_nil))) (e_str (by kernel_rfl))))
 s_nil)))
theorem walk_law_holds (d : Dat T C k w hO mb) {f : Fx} (I : InFn f w hO fn_law_holds ["part", "held"] ["turned", "sign", "left", "right", "a", "b", "truth"]) : VS T C k f (fdAt 72).body ms_law_holds :=
 have c := I.toCX
 (s_cons I.ok (s_ife I.ok (b_of (e_isStr d c (by kernel_rfl) (by kernel_rfl) d.g_isinstance d.g_str (e_var c (by kernel_rfl)))) (s_cons I.ok (s_ret (e_cmp (e_comp0 c ([("letter" : Str)]) (by kernel_rfl) (i_var c sh_name (by kernel_rfl)) (t_name (by kernel_rfl)) fun f1 c1 => ⟨(f_one (b_cmp (e_var c1 (by kernel_rfl)) (e_var c1 (by kernel_rfl)))), (e_var c1 (by kernel_rfl))⟩) (e_list es_nil)))
 s_nil) s_nil)
 (s_cons I.ok (s_tup4 I (by kernel_rfl) (by kernel_rfl) (by kernel_rfl) (by kernel_rfl) (e_var c (by kernel_rfl)))
 (s_cons I.ok (s_asg I (by kernel_rfl) (e_call d c (a := 288) (by kernel_rfl) (by kernel_rfl) ⟨_, fn_law_holds, lk_law_holds, rfl⟩ (es_cons (e_var c (by kernel_rfl)) (es_cons (e_var c (by kernel_rfl)) es_nil))))
 (s_cons I.ok (s_asg I (by kernel_rfl) (e_call d c (a := 288) (by kernel_rfl) (by kernel_rfl) ⟨_, fn_law_holds, lk_law_holds, rfl⟩ (es_cons (e_var c (by kernel_rfl)) (es_cons (e_var c (by kernel_rfl)) es_nil))))
 (s_cons I.ok (s_ife I.ok (b_cmp (e_var c (by kernel_rfl)) (e_str (by kernel_rfl))) (s_cons I.ok (s_asg I (by kernel_rfl) (e_and (e_var c (by kernel_rfl)) (e_var c (by kernel_rfl))))
 s_nil) (s_cons I.ok (s_ife I.ok (b_cmp (e_var c (by kernel_rfl)) (e_str (by kernel_rfl))) (s_cons I.ok (s_asg I (by kernel_rfl) (e_or (e_var c (by kernel_rfl)) (e_var c (by kernel_rfl))))
 s_nil) (s_cons I.ok (s_ife I.ok (b_cmp (e_var c (by kernel_rfl)) (e_str (by kernel_rfl))) (s_cons I.ok (s_asg I (by kernel_rfl) (e_or (e_var c (by kernel_rfl)) (e_not (e_var c (by kernel_rfl)))))
 s_nil) (s_cons I.ok (s_ife I.ok (b_cmp (e_var c (by kernel_rfl)) (e_str (by kernel_rfl))) (s_cons I.ok (s_asg I (by kernel_rfl) (e_and (e_var c (by kernel_rfl)) (e_not (e_var c (by kernel_rfl)))))
 s_nil) (s_cons I.ok (s_ife I.ok (b_cmp (e_var c (by kernel_rfl)) (e_str (by kernel_rfl))) (s_cons I.ok (s_asg I (by kernel_rfl) (e_or (e_var c (by kernel_rfl)) (e_not (e_var c (by kernel_rfl)))))
 s_nil) (s_cons I.ok (s_ife I.ok (b_cmp (e_var c (by kernel_rfl)) (e_str (by kernel_rfl))) (s_cons I.ok (s_asg I (by kernel_rfl) (e_and (e_var c (by kernel_rfl)) (e_not (e_var c (by kernel_rfl)))))
 s_nil) (s_cons I.ok (s_ife I.ok (b_cmp (e_var c (by kernel_rfl)) (e_str (by kernel_rfl))) (s_cons I.ok (s_asg I (by kernel_rfl) (e_cmp (e_var c (by kernel_rfl)) (e_var c (by kernel_rfl))))
 s_nil) (s_cons I.ok (s_asg I (by kernel_rfl) (e_cmp (e_var c (by kernel_rfl)) (e_var c (by kernel_rfl))))
 s_nil))
 s_nil))
 s_nil))
 s_nil))
 s_nil))
 s_nil))
 s_nil))
 (s_cons I.ok (s_ret (e_cmp (e_var c (by kernel_rfl)) (e_var c (by kernel_rfl))))
 s_nil))))))
theorem walk_law_typed (d : Dat T C k w hO mb) {f : Fx} (I : InFn f w hO fn_law_typed ["text", "style", "hidden"] ["ligatures", "capitals", "unseen", "typed", "at", "fits", "way"]) : VS T C k f (fdAt 73).body ms_law_typed :=
 have c := I.toCX
 (s_cons I.ok (s_asg I (by kernel_rfl) (e_list (es_cons (e_tup (es_cons (e_str (by kernel_rfl)) (es_cons e_int es_nil))) (es_cons (e_tup (es_cons (e_str (by kernel_rfl)) (es_cons e_int es_nil))) (es_cons (e_tup (es_cons (e_str (by kernel_rfl)) (es_cons e_int es_nil))) (es_cons (e_tup (es_cons (e_str (by kernel_rfl)) (es_cons e_int es_nil))) (es_cons (e_tup (es_cons (e_str (by kernel_rfl)) (es_cons e_int es_nil))) es_nil)))))))
 (s_cons I.ok (s_asg I (by kernel_rfl) (e_list (es_cons e_int (es_cons e_int (es_cons e_int (es_cons e_int (es_cons e_int (es_cons e_int (es_cons e_int (es_cons e_int (es_cons e_int (es_cons e_int (es_cons e_int es_nil)))))))))))))
 (s_cons I.ok (s_asg I (by kernel_rfl) (e_bin (e_list (es_cons e_int (es_cons e_int (es_cons e_int (es_cons e_int (es_cons e_int (es_cons e_int (es_cons e_int (es_cons e_int (es_cons e_int (es_cons e_int (es_cons e_int es_nil)))))))))))) (e_lrange d c (by kernel_rfl) (by kernel_rfl) d.g_range d.g_list e_int e_int)))
 (s_cons I.ok (s_own I (by kernel_rfl) es_nil)
 (s_cons I.ok (s_asg I (by kernel_rfl) e_int)
 (s_cons I.ok (s_whil I.ok (b_cmp (e_var c (by kernel_rfl)) (e_bi d c (b := .len) (by kernel_rfl) d.g_len (es_cons (e_var c (by kernel_rfl)) es_nil))) (s_cons I.ok (s_asgc0 I ([("pair" : Str)]) (by kernel_rfl) (by kernel_rfl) (by kernel_rfl) (i_var c sh_name (by kernel_rfl)) (t_name (by kernel_rfl)) fun f1 c1 => ⟨(f_one (b_cmp (e_slice (e_var c1 (by kernel_rfl)) (o_some (e_var c1 (by kernel_rfl))) (o_some (e_bin (e_var c1 (by kernel_rfl)) (e_bi d c1 (b := .len) (by kernel_rfl) d.g_len (es_cons (e_sub (e_var c1 (by kernel_rfl)) e_int) es_nil))))) (e_sub (e_var c1 (by kernel_rfl)) e_int))), (e_var c1 (by kernel_rfl))⟩)
 (s_cons I.ok (s_ife I.ok (b_and (b_cmp (e_var c (by kernel_rfl)) (e_list es_nil)) (b_cmp (e_bin (e_bin (e_var c (by kernel_rfl)) (e_var c (by kernel_rfl))) e_int) e_int)) (s_cons I.ok (s_app I (e_var c (by kernel_rfl)) (e_bi d c (b := .chr) (by kernel_rfl) d.g_chr (es_cons (e_sub (e_sub (e_var c (by kernel_rfl)) e_int) e_int) es_nil)))
 (s_cons I.ok (s_aug I (by kernel_rfl) (e_bi d c (b := .len) (by kernel_rfl) d.g_len (es_cons (e_sub (e_sub (e_var c (by kernel_rfl)) e_int) e_int) es_nil)))
 s_nil)) (s_cons I.ok (s_asg I (by kernel_rfl) (e_bin (e_bin (e_bin (e_var c (by kernel_rfl)) e_int) (e_bin e_int (e_var c (by kernel_rfl)))) e_int))
 (s_cons I.ok (s_ife I.ok (b_and (b_of (e_meth (m := .isalpha) (e_sub (e_var c (by kernel_rfl)) (e_var c (by kernel_rfl))) es_nil)) (b_cmp (e_var c (by kernel_rfl)) e_int)) (s_cons I.ok (s_app I (e_var c (by kernel_rfl)) (e_bi d c (b := .chr) (by kernel_rfl) d.g_chr (es_cons (e_bin (e_bin (e_sub (e_var c (by kernel_rfl)) (e_bin (e_var c (by kernel_rfl)) e_int)) (e_bi d c (b := .ord) (by kernel_rfl) d.g_ord (es_cons (e_sub (e_var c (by kernel_rfl)) (e_var c (by kernel_rfl))) es_nil))) e_int) es_nil)))
 s_nil) (s_cons I.ok (s_app I (e_var c (by kernel_rfl)) (e_sub (e_var c (by kernel_rfl)) (e_var c (by kernel_rfl))))
 s_nil))
 (s_cons I.ok (s_aug I (by kernel_rfl) e_int)
 s_nil))))
 (s_cons I.ok (s_ife I.ok (b_cmp (e_bin (e_bin (e_var c (by kernel_rfl)) (e_var c (by kernel_rfl))) e_int) e_int) (s_cons I.ok (s_app I (e_var c (by kernel_rfl)) (e_bi d c (b := .chr) (by kernel_rfl) d.g_chr (es_cons (e_sub (e_var c (by kernel_rfl)) (e_bin (e_bin (e_bin (e_var c (by kernel_rfl)) e_int) (e_var c (by kernel_rfl))) e_int)) es_nil)))
 s_nil) s_nil)
 s_nil))))
 (s_cons I.ok (s_ret (e_var c (by kernel_rfl)))
 s_nil)))))))
theorem walk_law_prepared (d : Dat T C k w hO mb) {f : Fx} (I : InFn f w hO fn_law_prepared ["signs"] []) : VS T C k f (fdAt 74).body ms_law_prepared :=
 have c := I.toCX
 (s_cons I.ok (s_ret (e_meth (m := .join) (e_str (by kernel_rfl)) (es_cons (e_comp0 c ([("sign" : Str)]) (by kernel_rfl) (i_var c sh_name (by kernel_rfl)) (t_name (by kernel_rfl)) fun f1 c1 => ⟨(f_one (b_not (b_of (e_call d c1 (a := 64) (by kernel_rfl) (by kernel_rfl) ⟨_, fn_in_table_b1, lk_in_table_b1, rfl⟩ (es_cons (e_var c1 (by kernel_rfl)) es_nil))))), (e_call d c1 (a := 110) (by kernel_rfl) (by kernel_rfl) ⟨_, fn_map_table_b3, lk_map_table_b3, rfl⟩ (es_cons (e_var c1 (by kernel_rfl)) es_nil))⟩) es_nil)))
 s_nil)
theorem walk_law_cut (d : Dat T C k w hO mb) {f : Fx} (I : InFn f w hO fn_law_cut ["text"] ["row", "size"]) : VS T C k f (fdAt 75).body ms_law_cut :=
 have c := I.toCX
 (s_cons I.ok (s_own I (by kernel_rfl) es_nil)
 (s_cons I.ok (s_whil I.ok (b_cmp (e_var c (by kernel_rfl)) (e_str (by kernel_rfl))) (s_cons I.ok (s_asg I (by kernel_rfl) e_int)
 (s_cons I.ok (s_whil I.ok (b_and (b_cmp (e_var c (by kernel_rfl)) e_int) (b_notInTok d c (by kernel_rfl) (e_slice (e_var c (by kernel_rfl)) o_none (o_some (e_var c (by kernel_rfl)))))) (s_cons I.ok (s_aug I (by kernel_rfl) e_int)
 s_nil))
 (s_cons I.ok (s_app I (e_var c (by kernel_rfl)) (e_getTok d c (by kernel_rfl) (e_slice (e_var c (by kernel_rfl)) o_none (o_some (e_var c (by kernel_rfl)))) (e_bin e_int (e_meth (m := .find) (e_str (by kernel_rfl)) (es_cons (e_sub (e_var c (by kernel_rfl)) e_int) es_nil)))))
 (s_cons I.ok (s_asg I (by kernel_rfl) (e_slice (e_var c (by kernel_rfl)) (o_some (e_var c (by kernel_rfl))) o_none))
 s_nil)))))
 (s_cons I.ok (s_ret (e_bin (e_var c (by kernel_rfl)) (e_list (es_cons e_int es_nil))))
 s_nil)))
theorem walk_law_sets (d : Dat T C k w hO mb) {f : Fx} (I : InFn f w hO fn_law_sets ["sign", "left", "right"] ["both", "sides"]) : VS T C k f (fdAt 76).body ms_law_sets :=
 have c := I.toCX
 (s_cons I.ok (s_asgc1 I ([("one" : Str), ("other" : Str)]) (by kernel_rfl) (by kernel_rfl) (by kernel_rfl) (i_var c sh_name (by kernel_rfl)) (t_name (by kernel_rfl)) (t_name (by kernel_rfl)) fun f1 c1 => ⟨f_nil, (i_var c1 sh_name (by kernel_rfl)), f_nil, (e_bin (e_var c1 (by kernel_rfl)) (e_var c1 (by kernel_rfl)))⟩)
 (s_dret I (by kernel_rfl) (by kernel_rfl) (p_cons (e_bin (e_bin (e_var c (by kernel_rfl)) (e_var c (by kernel_rfl))) (e_var c (by kernel_rfl))) (p_cons (e_var c (by kernel_rfl)) (p_cons (e_bin (e_var c (by kernel_rfl)) (e_var c (by kernel_rfl))) (p_cons (e_bin (e_var c (by kernel_rfl)) (e_var c (by kernel_rfl))) (p_cons (e_bin (e_bin (e_list (es_cons e_int es_nil)) (e_var c (by kernel_rfl))) (e_var c (by kernel_rfl))) (p_cons (e_bin (e_var c (by kernel_rfl)) (e_var c (by kernel_rfl))) (p_cons (e_bin (e_bin (e_list (es_cons e_int es_nil)) (e_var c (by kernel_rfl))) (e_var c (by kernel_rfl))) (p_cons (e_bin (e_bin (e_list (es_cons e_int es_nil)) (e_var c (by kernel_rfl))) (e_var c (by kernel_rfl))) (p_cons (e_bin (e_var c (by kernel_rfl)) (e_var c (by kernel_rfl))) p_nil))))))))) (e_var c (by kernel_rfl))))
theorem walk_law_multiplied_out (d : Dat T C k w hO mb) {f : Fx} (I : InFn f w hO fn_law_multiplied_out ["row", "bits"] ["pile", "done", "within", "symbol", "right", "sign", "left", "sets"]) : VS T C k f (fdAt 77).body ms_law_multiplied_out :=
 have c := I.toCX
 (s_cons I.ok (s_own I (by kernel_rfl) es_nil)
 (s_cons I.ok (s_asg I (by kernel_rfl) (e_list es_nil))
 (s_cons I.ok (s_asg I (by kernel_rfl) e_bool)
 (s_cons I.ok (s_for I (i_var c sh_name (by kernel_rfl)) (ok_name I (by kernel_rfl)) (s_cons I.ok (s_ife I.ok (b_of (e_call d c (a := 134) (by kernel_rfl) (by kernel_rfl) ⟨_, fn_ISEOF, lk_ISEOF, rfl⟩ (es_cons (e_var c (by kernel_rfl)) es_nil))) (s_cons I.ok (s_asgc1 I ([("side" : Str), ("one" : Str)]) (by kernel_rfl) (by kernel_rfl) (by kernel_rfl) (i_var c sh_name (by kernel_rfl)) (t_name (by kernel_rfl)) (t_name (by kernel_rfl)) fun f1 c1 => ⟨f_nil, (i_var c1 sh_name (by kernel_rfl)), f_nil, (e_var c1 (by kernel_rfl))⟩)
 s_nil) (s_cons I.ok (s_ife I.ok (b_cmp (e_var c (by kernel_rfl)) e_int) (s_cons I.ok (s_pop I (by kernel_rfl) (e_var c (by kernel_rfl)))
 (s_cons I.ok (s_pop I (by kernel_rfl) (e_var c (by kernel_rfl)))
 (s_cons I.ok (s_pop I (by kernel_rfl) (e_var c (by kernel_rfl)))
 (s_cons I.ok (s_popD I (e_var c (by kernel_rfl)))
 (s_cons I.ok (s_asg I (by kernel_rfl) (e_call d c (a := 310) (by kernel_rfl) (by kernel_rfl) ⟨_, fn_law_sets, lk_law_sets, rfl⟩ (es_cons (e_var c (by kernel_rfl)) (es_cons (e_var c (by kernel_rfl)) (es_cons (e_var c (by kernel_rfl)) es_nil)))))
 (s_cons I.ok (s_ife I.ok (b_and (b_cmp (e_var c (by kernel_rfl)) (e_list es_nil)) (b_cmp (e_last (e_var c (by kernel_rfl))) e_int)) (s_cons I.ok (s_popD I (e_var c (by kernel_rfl)))
 (s_cons I.ok (s_asg I (by kernel_rfl) (e_bin (e_var c (by kernel_rfl)) (e_list (es_cons e_int es_nil))))
 s_nil)) s_nil)
 (s_cons I.ok (s_app I (e_var c (by kernel_rfl)) (e_var c (by kernel_rfl)))
 s_nil))))))) (s_cons I.ok (s_ife I.ok (b_of (e_call d c (a := 120) (by kernel_rfl) (by kernel_rfl) ⟨_, fn_ISTERMINAL, lk_ISTERMINAL, rfl⟩ (es_cons (e_var c (by kernel_rfl)) es_nil))) (s_cons I.ok (s_app I (e_var c (by kernel_rfl)) (e_var c (by kernel_rfl)))
 s_nil) (s_cons I.ok (s_ife I.ok (b_of (e_var c (by kernel_rfl))) (s_cons I.ok (s_appc I ([("one" : Str)]) (e_var c (by kernel_rfl)) (e_var c (by kernel_rfl)) (by kernel_rfl) (t_name (by kernel_rfl)) fun f1 c1 => (e_bin (e_var c1 (by kernel_rfl)) (e_sub (e_var c1 (by kernel_rfl)) (e_bin (e_var c1 (by kernel_rfl)) e_int))))
 s_nil) (s_cons I.ok (s_app I (e_var c (by kernel_rfl)) (e_list (es_cons (e_sub (e_var c (by kernel_rfl)) (e_bin (e_var c (by kernel_rfl)) e_int)) es_nil)))
 s_nil))
 s_nil))
 s_nil))
 s_nil))
 (s_cons I.ok (s_asg I (by kernel_rfl) (e_call d c (a := 127) (by kernel_rfl) (by kernel_rfl) ⟨_, fn_ISNONTERMINAL, lk_ISNONTERMINAL, rfl⟩ (es_cons (e_var c (by kernel_rfl)) es_nil)))
 s_nil)) s_nil)
 (s_cons I.ok (s_ret (e_var c (by kernel_rfl)))
 s_nil)))))
theorem walk_law_places (d : Dat T C k w hO mb) {f : Fx} (I : InFn f w hO fn_law_places ["number"] ["first", "second", "rest"]) : VS T C k f (fdAt 79).body ms_law_places :=
 have c := I.toCX
 (s_cons I.ok (s_asg I (by kernel_rfl) (e_bin (e_var c (by kernel_rfl)) e_int))
 (s_cons I.ok (s_asg I (by kernel_rfl) (e_bin (e_bin (e_bin (e_var c (by kernel_rfl)) e_int) (e_bin (e_bin (e_var c (by kernel_rfl)) e_int) e_int)) e_int))
 (s_cons I.ok (s_asgc0 I ([("k" : Str)]) (by kernel_rfl) (by kernel_rfl) (by kernel_rfl) (i_rng1 d c sh_name (by kernel_rfl) d.g_range e_int) (t_name (by kernel_rfl)) fun f1 c1 => ⟨(f_one (b_cmp (e_var c1 (by kernel_rfl)) (e_tup (es_cons (e_var c1 (by kernel_rfl)) (es_cons (e_var c1 (by kernel_rfl)) es_nil))))), (e_var c1 (by kernel_rfl))⟩)
 (s_cons I.ok (s_ret (e_list (es_cons (e_var c (by kernel_rfl)) (es_cons (e_var c (by kernel_rfl)) (es_cons (e_sub (e_var c (by kernel_rfl)) (e_bin (e_bin (e_var c (by kernel_rfl)) e_int) e_int)) es_nil)))))
 s_nil))))
end
theorem plainAttrs_rep : PlainAttrs "re.Pattern" :=
 ⟨⟨"object.__getattribute__", by kernel_rfl, by decide +kernel⟩, by kernel_rfl⟩
theorem slot_rep_search : Slot "re.Pattern" "search" "re.Pattern.search" :=
 .of (owner := "re.Pattern") (n := "search") (by kernel_rfl) (by decide +kernel) (by decide +kernel) (by decide +kernel)
  (by first | exact .inl (by decide +kernel) | exact .inr (by decide +kernel)) (by kernel_rfl)
theorem type_rep_search : typeOf (.builtin "re.Pattern.search") = pure (.type "method_descriptor") := by show builtinType _ = _; kernel_rfl
theorem entry_rep_search : entryFor table "re.Pattern.search" = some Builtin.«re.Pattern.search» := entryFor_of_tree (by kernel_rfl)
theorem args_rep_search (a b : Value) : argsOk "re.Pattern.search" ⟨[a, b], []⟩ := by kernel_rfl
open PySem.Builtin.Re PySem.Sre in
structure SaidNo (m : Sre.M) : Prop where
 ans : m.answer = some false
 fr : m.frames = []
 out : m.outcome = none
section
variable {M : Model} {A : Around} {E : Value -> Shared -> Prop} {s : Shared}
theorem rules_walk {f : Nat -> PUnit -> Sem (ForInStep PUnit)} (hf : ∀ i u, (∃ x, f i u = (do rule x; pure (.yield ⟨⟩))) ∨ f i u = pure (.yield ⟨⟩)) : ∀ (l : List Nat) {Q : PUnit -> Shared -> Prop}, Q ⟨⟩ s -> wpAny M A (forIn l ⟨⟩ f) Q E s
 | [], Q, h => by exact wpAny_pure h
 | i :: r, Q, h => by
  rw [List.forIn_cons]
  rcases hf i ⟨⟩ with ⟨x, e⟩ | e
  ·rw [e]; exact wpAny_bind (wpAny_bind (wpAny_rule (wpAny_pure (rules_walk hf r h))))
  ·rw [e]; exact wpAny_bind (wpAny_pure (rules_walk hf r h))
theorem runToEnd_no {m : Sre.M} (x : SaidNo m) {Q : Option Sre.M -> Shared -> Prop} (h : Q none s) : wpAny M A (Builtin.Re.reRunToEnd m) Q E s := by
 obtain ⟨h1, h2, h3⟩ := x
 have e1 : m.step = { m with outcome := some .failed } := by
  unfold Sre.M.step
  rw [h3, h1, h2]; rfl
 have e2 : m.runFor 4 = { m with outcome := some .failed } := by
  show (if m.outcome.isSome then m else Sre.M.runFor 3 m.step) = _
  rw [h3, e1]; rfl
 have e3 : Builtin.Re.reDrive (2 ^ 64) m = pure { m with outcome := some .failed } := by
  show (if (m.runFor 4).outcome.isSome then pure (m.runFor 4) else _) = _
  rw [e2]; rfl
 unfold Builtin.Re.reRunToEnd
 rw [e3]
 refine wpAny_bind (wpAny_pure ?_)
 refine wpAny_bind (rules_walk (fun i u => ?_) _ (wpAny_pure h))
 by_cases c : ({ m with outcome := some .failed } : Sre.M).seen.has i
 ·exact .inl ⟨Sre.names.getD i "", by simp only [c, if_true]⟩
 ·exact .inr (by simp only [c, Bool.false_eq_true, if_false])
end
noncomputable def reCode1 : Array Nat := #[14, 10, 4, 1, 1, 22, 0, 31, 16, 127, 0, 13, 7, 22, 0, 31, 16, 127, 0, 1]
noncomputable def reCode2 : Array Nat := #[14, 14, 4, 1, 1, 9, 4294966783, 0, 0, 2147483648, 0, 0, 0, 0, 0, 13, 11, 9, 4294966783, 0, 0, 2147483648, 0, 0, 0, 0, 0, 1]
noncomputable def Refuses (code : Array Nat) : Prop := ∀ c seen, 32 <= c -> c ≠ 127 -> ∃ seen', Sre.inSet code c code.size 5 true seen = .ok (false, seen')
theorem refuses1 : Refuses reCode1 := fun c seen h1 h2 => by
 have e1 : (0 <= c && c <= 31) = false := by simp; trivial
 have e2 : (c == 127) = false := by simpa using h2
 refine ⟨((seen.add 22).add 16).add 0, ?_⟩
 show (if (0 <= c && c <= 31) = true then _ else (if (c == 127) = true then _ else _)) = _
 rw [e1, e2]; rfl
theorem charset2 : ∀ c, c < 256 -> 32 <= c -> c ≠ 127 -> (reCode2.getD (5 + (1 + c / 32)) 0).testBit (c % 32) = false := by decide +kernel
theorem refuses2 : Refuses reCode2 := fun c seen h1 h2 => by
 have e1 : (decide (c < 256) && (reCode2.getD (5 + (1 + c / 32)) 0).testBit (c % 32)) = false := by
  by_cases h : c < 256
  ·rw [charset2 c h h1 h2, Bool.and_false]
  ·simp [h]
 refine ⟨(seen.add 9).add 0, ?_⟩
 show (if (decide (c < 256) && (reCode2.getD (5 + (1 + c / 32)) 0).testBit (c % 32)) = true then _ else _) = _
 rw [e1]; rfl
theorem admitted_no {m : Sre.M} (hr : Refuses m.code) (ht : ∀ i, i < m.lim -> 32 <= m.text.getD i 0 /\ m.text.getD i 0 ≠ 127) : ∀ fuel s seen, ∃ seen', Sre.M.admitted m fuel s seen = .ok (none, seen')
 | 0, s, seen => ⟨seen, rfl⟩
 | fuel + 1, s, seen => by
  unfold Sre.M.admitted
  by_cases h : s ≥ m.lim
  ·exact ⟨seen, by rw [if_pos h]⟩
  ·rw [if_neg h]
   obtain ⟨h1, h2⟩ := ht s (by lia)
   obtain ⟨seen', e⟩ := hr _ seen h1 h2
   rw [e]
   exact admitted_no hr ht fuel (s + 1) seen'
theorem attempt_no {m : Sre.M} (hf : m.hasFirstSet = true) (hr : Refuses m.code) (ht : ∀ i, i < m.lim -> 32 <= m.text.getD i 0 /\ m.text.getD i 0 ≠ 127) (h2 : m.frames = []) (h3 : m.outcome = none) (s : Nat) (first : Bool) : SaidNo (m.attemptFrom s first) := by
 unfold Sre.M.attemptFrom
 rw [hf]
 obtain ⟨seen', e⟩ := admitted_no hr ht (m.lim + 1 - s) s m.seen
 simp only [Bool.not_true, Bool.false_eq_true, if_false, e]
 exact ⟨rfl, h2, h3⟩
theorem search_no {code text : Array Nat} {pos lim : Nat} (hc : code = reCode1 ∨ code = reCode2) (ht : ∀ i, i < lim -> 32 <= text.getD i 0 /\ text.getD i 0 ≠ 127) : SaidNo (Sre.forSearch code text 0 pos lim false) := by
 unfold Sre.forSearch
 dsimp only
 split
 ·exact ⟨rfl, rfl, rfl⟩
 ·rcases hc with rfl | rfl
  ·exact attempt_no rfl refuses1 ht rfl rfl _ _
  ·exact attempt_no rfl refuses2 ht rfl rfl _ _
noncomputable def Plain (x : List Nat) : Prop := ∀ c ∈ x, 32 <= c /\ c ≠ 127
noncomputable def reT (a : Addr) (code : Array Nat) (x : Str) (t : Tok) : Builtin.Re.ReTarget := { pattern := .ref a, string := .str x t, code := code, text := x.cps, kind := 0, groups := 0, pos := min (Int.toNat 0) x.cps.size, lim := min (Int.toNat (2 ^ 63 - 1)) x.cps.size }
theorem target1 {P : Params} {x : Str} {t : Tok} : peek (Mine.K P) ⟨pw, P⟩ (Builtin.Re.reTarget "re.Pattern.search" "search" ⟨[.ref 139, .str x t], []⟩) = some (reT 139 reCode1 x t) := by kernel_rfl
theorem target2 {P : Params} {x : Str} {t : Tok} : peek (Mine.K P) ⟨pw, P⟩ (Builtin.Re.reTarget "re.Pattern.search" "search" ⟨[.ref 144, .str x t], []⟩) = some (reT 144 reCode2 x t) := by kernel_rfl
theorem search_go {w : World} {A : Around} {E : Value -> Shared -> Prop} {s : Shared} (X : (Mine.K w.params).In s.heap) {a : Addr} (ha : a = 139 ∨ a = 144) {x : Str} {t : Tok} (hx : Plain x.cps.toList) {Q : Value -> Shared -> Prop} (h : Q .none s) :
  wpAny (model pw w) A (call (.builtin "re.Pattern.search") [.ref a, .str x t]) Q E s := by
 have hT : s.TypeIs (.ref a) "re.Pattern" := by
  rcases ha with rfl | rfl
  ·exact ⟨_, X 139 (k139 w.params) (by kernel_rfl), rfl⟩
  ·exact ⟨_, X 144 (k144 w.params) (by kernel_rfl), rfl⟩
 obtain ⟨code, hc, hp⟩ : ∃ code, (code = reCode1 ∨ code = reCode2) /\ peek (Mine.K w.params) ⟨pw, w.params⟩ (Builtin.Re.reTarget "re.Pattern.search" "search" ⟨[.ref a, .str x t], []⟩) = some (reT a code x t) := by
  rcases ha with rfl | rfl
  ·exact ⟨_, .inl rfl, target1⟩
  ·exact ⟨_, .inr rfl, target2⟩
 refine wpAny_call_entry slot_rep_search hT entry_rep_search ?_ (args_rep_search _ _)
 refine wpAny_bind ((Looks.of_peek (M := model pw w) X hp).here ?_)
 refine wpAny_bind (runToEnd_no (search_no hc fun i hi => ?_) ?_)
 ·have hi' : i < x.cps.size := by
   have : i < min (Int.toNat (2 ^ 63 - 1)) x.cps.size := hi
   grind
  have : (reT a code x t).text.getD i 0 ∈ x.cps.toList := by
   show x.cps.getD i 0 ∈ _
   simp [Array.getD, hi']
  exact hx _ this
 ·exact wpAny_pure ⟨_, rfl, h⟩
noncomputable abbrev P0 := Env' -> List MV -> (PV -> Prop) -> Prop
noncomputable def noC : CT := fun _ _ _ _ => False
theorem Dat.zero {T : Tabs} {C : CT} {k : Nat} {w : World} {hO : Heap} {mb : Str -> Option Value} (d : Dat T C k w hO mb) (k' : Nat) : Dat T noC k' w hO mb :=
 ⟨d.kin, d.g, d.b, d.boot, d.lim, d.tabs, fun _ _ _ _ h => h.elim⟩
noncomputable def deadS : Nat -> Env' -> List MV -> (Fl -> Env' -> List MV -> Prop) -> Prop := fun _ _ _ _ => False
theorem s_dead {T : Tabs} {C : CT} {k : Nat} {f : Fx} {x : Stmt} : V1 T C k f x (.ext deadS) := ⟨fun M ads ρ μ s ro K st ok e => by
 exact False.elim e⟩
section
variable {T : Tabs} {C : CT} {k : Nat} {w : World} {hO : Heap} {mb : Str -> Option Value} {f : Fx} {S : Scope} {cx : List (Str × Nat)} {n : Nat}
theorem kin_at (d : Dat T C k w hO mb) {f : Fx} (hh : f.hO = hO) {M ads : List Addr} {ρ : Env'} {μ : List MV} {h : Heap} (st : St f M ads ρ μ h) : (Mine.K w.params).In h := d.kin.keeps (hh ▸ st.mu.base)
noncomputable def pTyStr (i : Nat) : P0 := fun ρ μ K => ∃ x, ρ[i]? = some (some (.str x)) /\ K (.bool true)
theorem b_tyStr (d : Dat T C k w hO mb) (c : CX w hO f S cx n) {x : Str} {i : Nat} {p pos p2 pos2 : Pos} (h : varB S cx x i = true) (ht : globB S "type" = true) (hs : globB S "str" = true) {p3 : Pos} :
  VB T C k f (.Compare (.Call (.Name "type" p) [.Name x pos] [] p2) [.Is] [.Name "str" p3] pos2) (.ext (pTyStr i)) := ⟨fun M ads ρ μ s K st ok e Q E q => by
 obtain ⟨a1, a2, a3, a4⟩ := varB_inv c h
 ·obtain ⟨l, hl, e⟩ : pTyStr i ρ μ fun d => TRU (view μ d) K := e
  refine wpAny_isTrue_Compare1 ?_ rfl
  refine call_name (ld_glob (d.G c) d.g_type (globB_inv c ht).1 (by decide +kernel) st (callWith_bt (.inr ⟨_, rfl⟩) rfl ?_))
  refine evalArgs_plain (wpAny_items_cons (e := .Name x pos) (rest := []) (wpAny_Name (ld_var st a1 a2 a4 hl fun v r => ?_) a3) rfl)
  obtain ⟨t, rfl⟩ := r.strI
  refine wpAny_items_nil (call_type_of (typeIs_str _ _ _) (by decide) ?_)
  refine ld_glob (d.G c) d.g_str (globB_inv c hs).1 (by decide +kernel) st ?_
  refine wpAny_is_plain (by decide) ?_
  exact wpAny_truthy_bool (q true s.heap s.toks e fun _ _ e => e)⟩
theorem e_ob (d : Dat T C k w hO mb) (c : CX w hO f S cx n) {x : Str} {pos : Pos} {a : Addr} (h : globB S x = true) (hv : mgOf w.params x = some (.ref a)) : VE T C k f (.Name x pos) (.lit (.ob a)) := ⟨fun M ads ρ μ s K st ok e Q E q => by
 exact ld_glob (d.G c) (.inl hv) (globB_inv c h).1 (globB_inv c h).2 st (q _ _ s.heap s.toks e (fun _ _ e => e) (.ob a))⟩
noncomputable def pSearch (i j : Nat) : P0 := fun ρ μ K => ∃ a x, ρ[i]? = some (some (.ob a)) /\ ρ[j]? = some (some (.str x)) /\ (a = 139 ∨ a = 144) /\ Plain x /\ K (.bool false)
theorem b_search (d : Dat T C k w hO mb) (c : CX w hO f S cx n) {x y : Str} {i j : Nat} {p p2 p3 p4 : Pos} (h : varB S cx x i = true) (h' : varB S cx y j = true) (hline : autoParam ((p2.endLine == p4.line) = true) A1._auto_1) :
  VB T C k f (.Call (.Attribute (.Name x p) "search" p2) [.Name y p3] [] p4) (.ext (pSearch i j)) := ⟨fun M ads ρ μ s K st ok e Q E q => by
 obtain ⟨a, l, hi, hj, ha, hx, hK⟩ : pSearch i j ρ μ fun d => TRU (view μ d) K := e
 obtain ⟨a1, a2, a3, a4⟩ := varB_inv c h
 obtain ⟨b1, b2, b3, b4⟩ := varB_inv c h'
 ·refine wpAny_isTrue_value ?_ rfl
  refine meth_call (fun _ => rfl) rfl (by simp) hline (wpAny_Name (ld_var st a1 a2 a4 hi fun v r => ?_) a3)
  cases r
  have X := kin_at d c.hO st
  have hT : ∃ o, s.heap.get? a = some o /\ o.cls = .type "re.Pattern" /\ o.dict = none := by
   rcases ha with rfl | rfl
   ·exact ⟨_, X 139 (k139 w.params) (by kernel_rfl), rfl, rfl⟩
   ·exact ⟨_, X 144 (k144 w.params) (by kernel_rfl), rfl, rfl⟩
  obtain ⟨o, ho, hc, hd⟩ := hT
  refine ⟨"re.Pattern.search", [.ref a], fun pl P hP => getMethod_builtin ⟨o, ho, hc⟩ plainAttrs_rep slot_rep_search type_rep_search (fun b e' => by cases e'; exact ⟨o, ho, hd⟩) hP, ?_⟩
  refine callWith_builtin rfl (evalArgs_plain (wpAny_items_cons (e := .Name y p3) (rest := []) (wpAny_Name (ld_var st b1 b2 b4 hj fun v r => ?_) b3) rfl))
  obtain ⟨t, rfl⟩ := r.strI
  refine wpAny_items_nil ?_
  rw [c.w]
  exact search_go X ha hx (truthy_none (q false s.heap s.toks hK fun _ _ e => e))⟩
end
noncomputable def fn_conv : FuncData := Fn (mdAt 68 1) (Str.ofString "_convert_string_type") (Str.ofString "Headers._convert_string_type") 3 .none .none .none (.str (Str.ofString "cpy313.wsgiref.headers") 2580) none (.ref 165) .none 0
theorem lk_conv {P : Params} : (Mine.K P).lookup 166 = some ⟨.type "function", none, .func fn_conv, ⟨[]⟩⟩ := by kernel_rfl
theorem ok_conv : FnB fn_conv ["self", "value", "name"] ["regex"] (mdAt 68 1).body where
 glob := rfl
 blt := rfl
 clo := rfl
 body := rfl
 co := by kernel_rfl
 gen := by kernel_rfl
 kind := by kernel_rfl
 nod := by decide +kernel
 cxn := by decide +kernel
 par := by decide +kernel
 nofree := by decide +kernel
noncomputable def ms_conv : List MS := [.ife (.ext (pTyStr 1)) [.asg (.name 3) (.ite (.var 2) (.lit (.ob 139)) (.lit (.ob 144))), .ife (.ext (pSearch 3 1)) [.ext deadS] [], .ret (.var 1)] [], .ext deadS]
theorem walk_conv {T : Tabs} {C : CT} {k : Nat} {w : World} {hO : Heap} {mb : Str -> Option Value} (d : Dat T C k w hO mb) {f : Fx} (I : InFn f w hO fn_conv ["self", "value", "name"] ["regex"]) : VS T C k f (mdAt 68 1).body ms_conv :=
 have c := I.toCX
 s_cons I.ok (s_ife I.ok (b_tyStr d c (by kernel_rfl) (by kernel_rfl) (by kernel_rfl))
  (s_cons I.ok (s_asg I (by kernel_rfl) (e_ite (b_of (e_var c (by kernel_rfl))) (e_ob d c (by kernel_rfl) (by kernel_rfl)) (e_ob d c (by kernel_rfl) (by kernel_rfl))))
   (s_cons I.ok (s_ife I.ok (b_search d c (by kernel_rfl) (by kernel_rfl)) (s_cons I.ok s_dead s_nil) s_nil)
    (s_cons I.ok (s_ret (e_var c (by kernel_rfl))) s_nil))) s_nil) (s_cons I.ok s_dead s_nil)
theorem code_at {w : World} {hO : Heap} (X : (Mine.K w.params).In hO) {a : Addr} {q : Str} (o : Obj) (h : (Mine.K w.params).lookup a = some o) {vs : Array Value} {t : Tok} (hd : o.data = .fields vs) (hv : vs[1]? = some (.str q t)) : hO.CodeRec (.ref a) q := ⟨a, o, vs, t, rfl, X _ _ h, hd, hv⟩
theorem conv_go {T : Tabs} {C : CT} {k : Nat} {w : World} {hO : Heap} {mb : Str -> Option Value} (d : Dat T C k w hO mb) {A : Around} {M ads : List Addr} {μ : List MV} {s : Shared} (ok : AOk 1 A) (m : MuAt hO M ads μ s.heap) {a : Addr} {x : List Nat} {t : Tok} {b : Bool} (hx : Plain x)
  {Q : Value -> Shared -> Prop} {E : Value -> Shared -> Prop} (q : ∀ h' tk t', Keep s.heap h' -> Q (.str (strOf x) t') { s with heap := h', toks := tk }) :
  wpAny (model pw w) A (call (.ref 166) [.ref a, .str (strOf x) t] [("name", .bool b)]) Q E s := by
 refine call_raw (T := T) (C := noC) (k := 0) (ds := [.ob a, .str x, .bool b]) (vs := [.ref a, .str (strOf x) t, .bool b]) (d.kin _ _ lk_conv) rfl ok_conv d.lim (code_at d.kin o165x8 (by kernel_rfl) rfl rfl) (fun f I => (walk_conv (d.zero 0) I).go) (Looks.of_pure (by kernel_rfl)) rfl ok m.none
  (.cons _ _ _ _ (.ob a) (.cons _ _ _ _ (.str _ t) (.cons _ _ _ _ (.bool b) .nil))) (K := fun fl μ' => fl = .ret (.str x)) ?_ ?_
 ·cases b
  ·exact ⟨_, rfl, _, _, rfl, rfl, .inr rfl, hx, rfl⟩
  ·exact ⟨_, rfl, _, _, rfl, rfl, .inl rfl, hx, rfl⟩
 ·rintro fl fl' μ' M' ads' h' tk rfl kk m' _ _ _ fr
  cases fl <;> try (exact fr.elim)
  obtain ⟨t', rfl⟩ := Rep.strI fr
  exact q h' tk t' fun b o e => kk b o (fun h => by cases h) e
noncomputable def tabD (hs : Int) (tk : Tok) (l : Addr) : Obj := dictOf [⟨hs, .str "_headers" tk, .ref l⟩] 1
theorem TabIn.inst {h : Heap} {M : List Addr} {a l : Addr} (x : TabIn (vis h M) a l) : ∃ dx hs tk, InstAt h a (instObj 267 dx) 267 (some (tabD hs tk l)) :=
 let ⟨dx, hs, tk, e1, e2⟩ := x; ⟨dx, hs, tk, (vis_get e1).1, rfl, rfl, (vis_get e2).1⟩
theorem hga_H {P : Params} : findIn (Mine.K P) (.ref 267) "__getattribute__" = some (some (.builtin "object.__getattribute__")) := by kernel_rfl
theorem hgk_H {P : Params} : findIn (Mine.K P) (.ref 267) "__getattr__" = some none := by kernel_rfl
section
variable {w : World} {A : Around} {E : Value -> Shared -> Prop} {s : Shared}
theorem getHeaders {M : List Addr} {a l : Addr} {expr : Bool} (X : (Mine.K w.params).In s.heap) (x : TabIn (vis s.heap M) a l) {Q : Value -> Shared -> Prop} (q : Q (.ref l) { s with toks := s.toks + 1 }) :
  wpAny (model pw w) A (getAttr (.ref a) "_headers" expr) Q E s := by
 obtain ⟨dx, hs, tk, I⟩ := x.inst
 exact get_value X I hga_H (findObj_own (attr := none) (by kernel_rfl) (by kernel_rfl) (by kernel_rfl) (by kernel_rfl)) rfl q
theorem methTab {M : List Addr} {a l : Addr} {name : Str} {f : Addr} {pl : Sem Bool} (X : (Mine.K w.params).In s.heap) (x : TabIn (vis s.heap M) a l) (hf : findIn (Mine.K w.params) (.ref 267) name = some (some (.ref f))) (ht : typeIn (Mine.K w.params) (.ref f) = some (.type "function"))
  (hs : ∀ hs tk l, shadowIn (some (tabD hs tk l)) name = some false) {Q : Value × List Value -> Shared -> Prop} (q : Q (.ref f, [.ref a]) s) : wpAny (model pw w) A (getMethod (.ref a) name pl) Q E s := by
 obtain ⟨dx, hs', tk, I⟩ := x.inst
 exact method_fn X I hga_H hgk_H hf ht (hs _ _ _) q
end
noncomputable def tabOf (μ : List MV) (d : PV) (K : PV -> Prop) : Prop := match d with
 | .tab j => K (.ptr j)
 | .ftab ds => K (.list ds)
 | _ => False
theorem tab_inv {hO h : Heap} {M ads : List Addr} {μ : List MV} {v : Value} {d : PV} {K : PV -> Prop} (r : Rep (vis h M) ads v d) (e : tabOf μ d K) : ∃ a l dl, v = .ref a /\ TabIn (vis h M) a l /\ Rep (vis h M) ads (.ref l) dl /\ K dl /\ (dl = .ptr 0 ∨ True) := by
 cases r with
 | tab a l i x e' => exact ⟨_, _, _, rfl, x, .ptr _ _ e', e, .inr trivial⟩
 | ftab a l vs ds x hs rs => exact ⟨_, _, _, rfl, x, .list _ vs ds hs rs, e, .inr trivial⟩
 | _ => exact False.elim e
theorem kw30 {n : Nat} (b : Bool) (h : n < 29) : n + (if b = true then 0 else 1) < 30 := by
 cases b
 ·exact Nat.succ_lt_succ h
 ·exact Nat.lt_succ_of_lt h
theorem meth_callF {o : Expr} {name : Str} {apos pos : Pos} {es : List Expr} {kws : List Keyword} {Q : Value -> Shared -> Prop} {M : Model} {A : Around} {E : Value -> Shared -> Prop} {s : Shared} {env : Env} (hb : ∀ whole, attributeBase o name env whole = whole) (hp : noStar es = true) (hlen : es.length + kws.length < 29) (hk : kws.all (·.arg.isSome) = true) (hline : (apos.endLine == pos.line) = true)
  (h : wpAny M A (eval o env) (fun v s₁ => ∃ g vs, (∀ (pl : Sem Bool) (P : Value × List Value -> Shared -> Prop), P (g, vs) s₁ -> wpAny M A (getMethod v name pl) P E s₁) /\ wpAny M A (callWith pos g vs (backTo pos (starEach es env)) (backToKw pos (keywordEach kws env))) Q E s₁) E s) :
  wpAny M A (eval (.Call (.Attribute o name apos) es kws pos) env) Q E s := by
 rw [arm_eval_Call, hb]
 refine wpAny_bind (wpAny_mono h (fun v s₁ h₁ => ?_) fun _ _ e => e)
 obtain ⟨id, vs, h1, h2⟩ := h₁
 refine wpAny_bind (wpAny_standAt ?_)
 have hkw : ∀ (kws : List Keyword), kws.all (·.arg.isSome) = true -> (backToKw pos (keywordEach kws env)).all (·.1.isSome) = true := by
  intro kws
  induction kws with
  | nil => intro _; rfl
  | cons k r ih =>
   obtain ⟨a, v, p⟩ := k
   intro h
   exact Bool.and_eq_true_iff.mpr ⟨(Bool.and_eq_true_iff.mp h).1, ih (Bool.and_eq_true_iff.mp h).2⟩
 have hform : methodCallForm (es.length + kws.length) (backTo pos (starEach es env)) (backToKw pos (keywordEach kws env)) = true := by
  unfold methodCallForm
  rw [noStar_all hp, hkw kws hk]
  exact decide_eq_true (kw30 _ hlen)
 have hpos : methodCallPos true o env apos pos = pure pos := by unfold methodCallPos; rw [hline]; rfl
 unfold methodCall
 rw [hform]
 refine wpAny_bind (wpAny_holding (h1 _ _ ?_))
 exact wpAny_bind (wpAny_of_eq hpos h2)
section
variable {T : Tabs} {C : CT} {k : Nat} {w : World} {hO : Heap} {mb : Str -> Option Value} {f : Fx} {S : Scope} {cx : List (Str × Nat)} {n : Nat}
noncomputable def pVar (i : Nat) (ρ : Env') (K : PV -> Prop) : Prop := match ρ[i]? with | some (some d) => K d | _ => False
theorem pVar_inv {i : Nat} {ρ : Env'} {K : PV -> Prop} (e : pVar i ρ K) : ∃ d, ρ[i]? = some (some d) /\ K d := by
 exact mOO e
theorem var_go (c : CX w hO f S cx n) {x : Str} {i : Nat} {pos : Pos} (h : varB S cx x i = true) {M ads : List Addr} {ρ : Env'} {μ : List MV} {s : Shared} (st : St f M ads ρ μ s.heap) {d : PV} (hd : ρ[i]? = some (some d)) {Q : Value -> Shared -> Prop} {E : Value -> Shared -> Prop} (q : ∀ v, Rep (vis s.heap M) ads v d -> Q v s) :
  wpAny (model pw f.w) f.A (eval (.Name x pos) f.env) Q E s :=
 let ⟨a1, a2, a3, a4⟩ := varB_inv c h; wpAny_Name (ld_var st a1 a2 a4 hd q) a3
noncomputable def pHdr (i : Nat) : P0 := fun ρ μ K => pVar i ρ fun d => tabOf μ d K
theorem hdr_go (d : Dat T C k w hO mb) (c : CX w hO f S cx n) {x : Str} {i : Nat} {p p2 : Pos} (h : varB S cx x i = true) {M ads : List Addr} {ρ : Env'} {μ : List MV} {s : Shared} {K : PV -> Prop} (st : St f M ads ρ μ s.heap) (e : pHdr i ρ μ K) {Q : Value -> Shared -> Prop} {E : Value -> Shared -> Prop}
  (q : ∀ l dl tk, K dl -> Rep (vis s.heap M) ads (.ref l) dl -> Q (.ref l) { s with toks := tk }) : wpAny (model pw f.w) f.A (eval (.Attribute (.Name x p) "_headers" p2) f.env) Q E s := by
 obtain ⟨dv, hd, e⟩ := pVar_inv e
 refine Attribute_name (var_go c h st hd fun v r => ?_)
 obtain ⟨a, l, dl, rfl, hx, hr, hk, _⟩ := tab_inv (hO := hO) r e
 have X := kin_at d c.hO st
 rw [c.w]
 exact getHeaders X hx (q l dl _ hk hr)
theorem e_hdr (d : Dat T C k w hO mb) (c : CX w hO f S cx n) {x : Str} {i : Nat} {p p2 : Pos} (h : varB S cx x i = true) : VE T C k f (.Attribute (.Name x p) "_headers" p2) (.ext (pHdr i)) := ⟨fun M ads ρ μ s K st ok e Q E q => by
 exact hdr_go d c h st e fun l dl tk hk hr => q _ dl s.heap tk hk (fun _ _ e => e) hr⟩
theorem i_hdr (d : Dat T C k w hO mb) (c : CX w hO f S cx n) {x : Str} {i : Nat} {p p2 : Pos} {tgt : Expr} (ht : TgtShape tgt) (h : varB S cx x i = true) : VI T C k f (.Attribute (.Name x p) "_headers" p2) (.ext (pHdr i)) tgt := ⟨fun M ads ρ μ s ro K st ok e Q E q => by
 refine hdr_go d c h st e fun l dl tk hk hr => ?_
 have st' : St f M ads ρ μ ({ s with toks := tk } : Shared).heap := st
 exact iter_val (s := { s with toks := tk }) ht st' ok hr hk fun items ro1 k l => (q items ro1 k l).back fun _ _ e => e⟩
noncomputable def pConv (T : Tabs) (C : CT) (i : Nat) (m : ME) : P0 := fun ρ μ K => pVar i ρ fun d => tabOf μ d (fun _ => True) /\ EV T C ρ μ m fun d => match d with
 | .str x => Plain x /\ K (.str x)
 | _ => False
theorem e_conv (d : Dat T C (k + 1) w hO mb) (c : CX w hO f S cx n) {x : Str} {i : Nat} {p p2 p3 p4 p5 : Pos} {e1 : Expr} {m1 : ME} {b : Bool} {nk : Nat} (h : varB S cx x i = true) (h1 : VE T C (k + 1) f e1 m1) (hp : autoParam (noStar [e1] = true) A1._auto_1)
  (hline : autoParam ((p2.endLine == p3.line) = true) A1._auto_1) :
  VE T C (k + 1) f (.Call (.Attribute (.Name x p) "_convert_string_type" p2) [e1] [⟨some "name", .Constant (.bool b) nk p4, p5⟩] p3) (.ext (pConv T C i m1)) := ⟨fun M ads ρ μ s K st ok e Q E q => by
 obtain ⟨dv, hd, e0, e⟩ := pVar_inv e
 refine meth_callF (fun _ => rfl) hp (by simp) rfl hline (var_go c h st hd fun v r => ?_)
 obtain ⟨a, l, dl, rfl, hx, -⟩ := tab_inv (hO := hO) r e0
 have X := kin_at d c.hO st
 refine ⟨.ref 166, [.ref a], fun pl P hP => ?_, ?_⟩
 ·rw [c.w]
  exact methTab X hx (by kernel_rfl) (by kernel_rfl) (fun _ _ _ => by kernel_rfl) hP
 refine callWith_KW (K := Mine.K w.params) X (by kernel_rfl) rfl ?_ (by rw [noStar_any hp]; rfl) (noStar_head hp _)
 have hs : SEs T C (k + 1) f [e1] [m1] := ses_cons h1.go ses_nil (noStar_head hp)
 refine hs M ads ρ μ s (on1 fun d => match d with | .str x => Plain x /\ K (.str x) | _ => False) st ok e p3 _ _ fun vs ds h2 tk2 e2 k2 r2 => ?_
 ·obtain ⟨d', rfl, e2⟩ := on1_inv e2
  obtain ⟨x, rfl, e2⟩ := mS e2
  obtain ⟨v, rfl, rv⟩ := r2.one
  obtain ⟨t, rfl⟩ := rv.strI
  have st2 := st.keep k2
  refine wpAny_evalAll_cons (wpAny_bind (wpAny_Constant_bool (wpAny_bind (wpAny_standAt (wpAny_pure (wpAny_evalAll_nil ⟨kin_at d c.hO st2, ?_⟩))))))
  rw [c.w]
  exact conv_go d (s := { s with heap := h2, toks := tk2 }) (ok.le (Nat.le_add_left ..)) (c.hO ▸ st2.mu) e2.1 fun h3 tk3 t' k3 => q _ (.str x) h3 tk3 e2.2 (k2.trans k3) (.str _ t')⟩
end
noncomputable def lowL (x : List Nat) : List Nat := (Txt.lower (strOf x)).cps.toList
noncomputable abbrev Tb := List (List Nat × List Nat)
noncomputable def tbPV (tb : Tb) : List PV := tb.map fun p => .tup [.str p.1, .str p.2]
noncomputable def getR (tb : Tb) (x : List Nat) : PV := match tb.find? (fun p => lowL p.1 == lowL x) with
 | some p => .str p.2
 | none => .none
structure TbOk (tb : Tb) : Prop where
 len : tb.length < 1000
 key : ∀ p ∈ tb, p.1.length <= 1000
theorem tbPV_noPtr (tb : Tb) : noPtrs (tbPV tb) = true := noPtrs_iff.mpr fun d hd => by
 obtain ⟨p, _, rfl⟩ := List.mem_map.mp hd
 rfl
noncomputable def fn_get : FuncData := Fn (mdAt 68 8) (Str.ofString "get") (Str.ofString "Headers.get") 3 (.ref 207) .none .none (.str (Str.ofString "cpy313.wsgiref.headers") 2580) none (.ref 213) .none 0
theorem lk_get {P : Params} : (Mine.K P).lookup 214 = some ⟨.type "function", none, .func fn_get, ⟨[]⟩⟩ := by kernel_rfl
theorem ok_get : FnB fn_get ["self", "name", "default"] ["k", "v"] (mdAt 68 8).body where
 glob := rfl
 blt := rfl
 clo := rfl
 body := rfl
 co := by kernel_rfl
 gen := by kernel_rfl
 kind := by kernel_rfl
 nod := by decide +kernel
 cxn := by decide +kernel
 par := by decide +kernel
 nofree := by decide +kernel
noncomputable def bd_get : List MS := [.ife (.cmp .Eq (.meth .lower (.var 3) []) (.var 1)) [.ret (.var 4)] []]
noncomputable def ms_get (T : Tabs) (C : CT) : List MS :=
 [.asg (.name 1) (.ext (pConv T C 0 (.meth .lower (.var 1) []))), .fr (.tup [3, 4]) (.ext (pHdr 0)) bd_get [], .ret (.var 2)]
theorem walk_get {T : Tabs} {C : CT} {k : Nat} {w : World} {hO : Heap} {mb : Str -> Option Value} (d : Dat T C (k + 1) w hO mb) {f : Fx} (I : InFn f w hO fn_get ["self", "name", "default"] ["k", "v"]) : VS T C (k + 1) f (mdAt 68 8).body (ms_get T C) :=
 have c := I.toCX
 s_cons I.ok (s_asg I (by kernel_rfl) (e_conv d c (by kernel_rfl) (e_meth (m := .lower) (e_var c (by kernel_rfl)) es_nil)))
  (s_cons I.ok (s_for I (i_hdr d c sh_tup (by kernel_rfl)) (ok_tup2 I (by kernel_rfl) (by kernel_rfl)) (s_cons I.ok (s_ife I.ok (b_cmp (e_meth (m := .lower) (e_var c (by kernel_rfl)) es_nil) (e_var c (by kernel_rfl))) (s_cons I.ok (s_ret (e_var c (by kernel_rfl))) s_nil) s_nil) s_nil) s_nil)
   (s_cons I.ok (s_ret (e_var c (by kernel_rfl))) s_nil))
theorem get_ex {T : Tabs} {C : CT} {tb : Tb} {x : List Nat} (hx : Plain (lowL x)) (hl : x.length <= 1000) (ht : TbOk tb) {K : Fl -> List MV -> Prop} (hK : K (.ret (getR tb x)) []) :
  EX T C 0 [some (.ftab (tbPV tb)), some (.str x), some .none, none, none] [] (ms_get T C) fun fl _ μ' => K fl μ' := by
 have loop : ∀ (l : Tb), (∀ p ∈ l, p.1.length <= 1000) -> K (.ret (getR l x)) [] -> ∀ (a b : Option PV) (ro1 : Nat), forRun (fun ρ μ K => EX T C ro1 ρ μ bd_get K) (fun ρ μ K => EX T C 0 ρ μ [] K) (.tup [3, 4]) (tbPV l)
   [some (.ftab (tbPV tb)), some (.str (lowL x)), some .none, a, b] [] fun fl ρ1 μ1 => match fl with
    | .next => EX T C 0 ρ1 μ1 [.ret (.var 2)] fun fl _ μ' => K fl μ'
    | .brk => K .brk μ1
    | .cont => K .cont μ1
    | .ret d => K (.ret d) μ1 := by
  intro l
  induction l with
  | nil => intro _ hk a b ro1; exact hk
  | cons p r ih =>
   intro hp hk a b ro1
   refine ⟨rfl, ?_⟩
   have h1 : p.1.length <= 5592405 := by have := hp p (by simp); lia
   refine ⟨h1, ?_⟩
   by_cases hc : lowL p.1 == lowL x
   ·have hk' : K (.ret (.str p.2)) [] := by
     have : getR (p :: r) x = .str p.2 := by unfold getR; rw [List.find?_cons, hc]
     rw [this] at hk; exact hk
    show (match (lowL p.1 == lowL x) with | true => _ | false => _ : Prop)
    rw [hc]; exact hk'
   ·have hc : (lowL p.1 == lowL x) = false := by simpa using hc
    show (match (lowL p.1 == lowL x) with | true => _ | false => _ : Prop)
    rw [hc]
    refine ih (fun q hq => hp q (List.mem_cons_of_mem _ hq)) ?_ _ _ ro1
    have : getR (p :: r) x = getR r x := by unfold getR; rw [List.find?_cons, hc]
    rw [this] at hk; exact hk
 exact ⟨trivial, by lia, hx, loop tb ht.key hK none none _⟩
noncomputable def tabIs (μ : List MV) (d : PV) (tb : Tb) : Prop := (∃ j, d = .tab j /\ μ[j]? = some (.list (tbPV tb))) ∨ d = .ftab (tbPV tb)
theorem tab_frozen {hO h : Heap} {M ads : List Addr} {μ : List MV} {v : Value} {d : PV} {tb : Tb} (m : MuAt hO M ads μ h) (r : Rep (vis h M) ads v d) (e : tabIs μ d tb) : Rep (vis h []) [] v (.ftab (tbPV tb)) := by
 have up : ∀ b o, vis h M b = some o -> vis h [] b = some o := vis_less fun _ h => by cases h
 rcases e with ⟨j, rfl, hm⟩ | rfl
 ·cases r with
  | tab a l _ hx hl =>
  cases m.mus j l _ hl hm with
  | list vs ds h1 h2 =>
  obtain ⟨n, hn⟩ := h1
  exact .ftab a l vs _ (hx.mono up) ⟨_, vis_of hn (by simp), rfl, n, rfl⟩ ((Reps.noPtr h2 (tbPV_noPtr tb)).keep up)
 ·exact (Rep.noPtr (ads' := []) r (tbPV_noPtr tb)).keep up
theorem MuAt.bare {hO h : Heap} {M ads : List Addr} {μ : List MV} (m : MuAt hO M ads μ h) : MuAt hO [] [] [] h :=
 ⟨m.base, fun _ h => (nomatch h), fun _ h => (nomatch h), fun _ h => (nomatch h), List.nodup_nil, rfl, fun i a mv e1 _ => by simp at e1⟩
theorem getR_flat {tb : Tb} {x : List Nat} {v : Value} {g : Part} {ads : List Addr} (r : Rep g ads v (getR tb x)) : ∀ g' ads', Rep g' ads' v (getR tb x) := by
 unfold getR at *
 split at r
 ·obtain ⟨t, rfl⟩ := r.strI; intro _ _; exact .str _ t
 ·cases r; intro _ _; exact .none
section
variable {T : Tabs} {C : CT} {k : Nat} {w : World} {hO : Heap} {mb : Str -> Option Value}
theorem get_go (d : Dat T C k w hO mb) {A : Around} {M ads : List Addr} {μ : List MV} {s : Shared} (ok : AOk 2 A) (m : MuAt hO M ads μ s.heap) {v : Value} {dt : PV} {tb : Tb} (r : Rep (vis s.heap M) ads v dt) (e : tabIs μ dt tb) (ht : TbOk tb) {x : List Nat} {t : Tok} (hx : Plain (lowL x)) (hl : x.length <= 1000)
  {Q : Value -> Shared -> Prop} {E : Value -> Shared -> Prop} (q : ∀ v' h' tk, (∀ g ads, Rep g ads v' (getR tb x)) -> Keep s.heap h' -> Q v' { s with heap := h', toks := tk }) : wpAny (model pw w) A (call (.ref 214) [v, .str (strOf x) t]) Q E s := by
 have X : (Mine.K w.params).In s.heap := d.kin.keeps m.base
 refine call_raw (T := T) (C := noC) (k := 1) (ds := [.ftab (tbPV tb), .str x, .none]) (vs := [v, .str (strOf x) t, .none]) (d.kin _ _ lk_get) rfl ok_get d.lim (code_at d.kin o213x8 (by kernel_rfl) rfl rfl) (fun f I => (walk_get (d.zero 1) I).go)
  (Looks.of_peek (M := model pw w) X (by kernel_rfl)) rfl ok m.bare (.cons _ _ _ _ (tab_frozen m r e) (.cons _ _ _ _ (.str _ t) (.cons _ _ _ _ .none .nil))) (K := fun fl μ' => fl = .ret (getR tb x)) (get_ex hx hl ht rfl) ?_
 rintro fl fl' μ' M' ads' h' tk rfl kk m' _ _ _ fr
 cases fl <;> try (exact fr.elim)
 exact q _ h' tk (getR_flat fr) fun b o e => kk b o (fun h => by cases h) e
noncomputable def pGet (i j : Nat) : P0 := fun ρ μ K => pVar i ρ fun dt => pVar j ρ fun dx => ∃ tb x, tabIs μ dt tb /\ dx = .str x /\ TbOk tb /\ Plain (lowL x) /\ x.length <= 1000 /\ K (getR tb x)
theorem tabIs_inv {hO h : Heap} {M ads : List Addr} {μ : List MV} {v : Value} {d : PV} {tb : Tb} (r : Rep (vis h M) ads v d) (e : tabIs μ d tb) : ∃ a l, v = .ref a /\ TabIn (vis h M) a l := by
 rcases e with ⟨j, rfl, hm⟩ | rfl
 ·cases r with | tab a l _ hx hl => exact ⟨a, l, rfl, hx⟩
 ·cases r with | ftab a l vs ds hx hs rs => exact ⟨a, l, rfl, hx⟩
variable {f : Fx} {S : Scope} {cx : List (Str × Nat)} {n : Nat}
theorem e_get (d : Dat T C (k + 2) w hO mb) (c : CX w hO f S cx n) {x y : Str} {i j : Nat} {p p2 p3 p4 : Pos} (h : varB S cx x i = true) (h' : varB S cx y j = true) (hline : autoParam ((p2.endLine == p4.line) = true) A1._auto_1) :
  VE T C (k + 2) f (.Call (.Attribute (.Name x p) "get" p2) [.Name y p3] [] p4) (.ext (pGet i j)) := ⟨fun M ads ρ μ s K st ok e Q E q => by
 obtain ⟨dt, hd, e⟩ := pVar_inv e
 obtain ⟨dx, hdx, tb, z, e1, rfl, e2, e3, e4, e5⟩ := pVar_inv e
 refine meth_callF (fun _ => rfl) rfl (by simp) rfl hline (var_go c h st hd fun v r => ?_)
 obtain ⟨a, l, rfl, hx⟩ := tabIs_inv (hO := hO) r e1
 have X := kin_at d c.hO st
 refine ⟨.ref 214, [.ref a], fun pl P hP => ?_, ?_⟩
 ·rw [c.w]
  exact methTab X hx (by kernel_rfl) (by kernel_rfl) (fun _ _ _ => by kernel_rfl) hP
 refine callWith_K (K := Mine.K w.params) X (by kernel_rfl) (wpAny_items_cons (e := .Name y p3) (rest := []) (var_go c h' st hdx fun v2 r2 => wpAny_items_nil ?_) rfl)
 obtain ⟨t, rfl⟩ := r2.strI
 refine ⟨X, ?_⟩
 rw [c.w]
 exact get_go d (ok.le (Nat.le_add_left ..)) (c.hO ▸ st.mu) r e1 e2 e3 e4 fun v' h' tk hr kk => q v' _ h' tk e5 kk (hr _ _)⟩
end
noncomputable def fn_has : FuncData := Fn (mdAt 68 6) (Str.ofString "__contains__") (Str.ofString "Headers.__contains__") 3 .none .none .none (.str (Str.ofString "cpy313.wsgiref.headers") 2580) none (.ref 198) .none 0
theorem lk_has {P : Params} : (Mine.K P).lookup 199 = some ⟨.type "function", none, .func fn_has, ⟨[]⟩⟩ := by kernel_rfl
theorem ok_has : FnB fn_has ["self", "name"] [] (mdAt 68 6).body where
 glob := rfl
 blt := rfl
 clo := rfl
 body := rfl
 co := by kernel_rfl
 gen := by kernel_rfl
 kind := by kernel_rfl
 nod := by decide +kernel
 cxn := by decide +kernel
 par := by decide +kernel
 nofree := by decide +kernel
noncomputable def ms_has : List MS := [.ret (.cmp .IsNot (.ext (pGet 0 1)) (.lit .none))]
theorem walk_has {T : Tabs} {C : CT} {k : Nat} {w : World} {hO : Heap} {mb : Str -> Option Value} (d : Dat T C (k + 2) w hO mb) {f : Fx} (I : InFn f w hO fn_has ["self", "name"] []) : VS T C (k + 2) f (mdAt 68 6).body ms_has :=
 have c := I.toCX
 s_cons I.ok (s_ret (e_cmp (e_get d c (by kernel_rfl) (by kernel_rfl)) e_none)) s_nil
noncomputable def hasB (tb : Tb) (x : List Nat) : Bool := tb.any fun p => lowL p.1 == lowL x
theorem getR_has (tb : Tb) (x : List Nat) {K : Bool -> Prop} (h : K (hasB tb x)) : CMP .IsNot (getR tb x) .none K := by
 unfold getR
 cases hf : tb.find? (fun p => lowL p.1 == lowL x) with
 | none =>
  have : hasB tb x = false := by
   unfold hasB
   rw [List.any_eq_false]
   intro p hp
   have := List.find?_eq_none.mp hf p hp
   exact this
  rw [this] at h
  exact h
 | some p =>
  have hb := List.find?_some hf
  have : hasB tb x = true := List.any_eq_true.mpr ⟨p, List.mem_of_find?_eq_some hf, hb⟩
  rw [this] at h
  exact h
theorem getR_view (μ : List MV) (tb : Tb) (x : List Nat) : view μ (getR tb x) = getR tb x := by
 unfold getR
 split <;> rfl
section
variable {T : Tabs} {C : CT} {k : Nat} {w : World} {hO : Heap} {mb : Str -> Option Value}
theorem has_go (d : Dat T C k w hO mb) {A : Around} {M ads : List Addr} {μ : List MV} {s : Shared} (ok : AOk 3 A) (m : MuAt hO M ads μ s.heap) {v : Value} {dt : PV} {tb : Tb} (r : Rep (vis s.heap M) ads v dt) (e : tabIs μ dt tb) (ht : TbOk tb) {x : List Nat} {t : Tok} (hx : Plain (lowL x)) (hl : x.length <= 1000)
  {Q : Value -> Shared -> Prop} {E : Value -> Shared -> Prop} (q : ∀ h' tk, Keep s.heap h' -> Q (.bool (hasB tb x)) { s with heap := h', toks := tk }) : wpAny (model pw w) A (call (.ref 199) [v, .str (strOf x) t]) Q E s := by
 have X : (Mine.K w.params).In s.heap := d.kin.keeps m.base
 refine call_raw (T := T) (C := noC) (k := 2) (ds := [.ftab (tbPV tb), .str x]) (vs := [v, .str (strOf x) t]) (d.kin _ _ lk_has) rfl ok_has d.lim (code_at d.kin o198x8 (by kernel_rfl) rfl rfl) (fun f I => (walk_has (d.zero 2) I).go)
  (Looks.of_pure (by kernel_rfl)) rfl ok m.bare (.cons _ _ _ _ (tab_frozen m r e) (.cons _ _ _ _ (.str _ t) .nil)) (K := fun fl μ' => fl = .ret (.bool (hasB tb x))) ?_ ?_
 ·refine ⟨tb, x, .inr rfl, rfl, ht, hx, hl, ?_⟩
  show CMP .IsNot (view [] (getR tb x)) (view [] .none) fun c => Fl.ret (.bool c) = .ret (.bool (hasB tb x))
  rw [getR_view]
  exact getR_has tb x rfl
 ·rintro fl fl' μ' M' ads' h' tk rfl kk m' _ _ _ fr
  cases fl <;> try (exact fr.elim)
  cases fr
  exact q h' tk fun b o e => kk b o (fun h => by cases h) e
end
theorem setItem_all {w : World} {A : Around} {E : Value -> Shared -> Prop} {s : Shared} {l sl D : Addr} {items new : Array Value} (hl : s.heap.PlainList l items) (hs : s.heap.IsSliceOf sl .none .none .none) (hD : s.heap.IsList D new) (hne : l ≠ D) {Q : Unit -> Shared -> Prop}
  (q : ∀ h', h'.PlainList l new -> Heap.SameBut l s.heap h' -> Q () { s with heap := h' }) (hsz : items.size + new.size <= sizeLine) : wpAny (model pw w) A (setItem (.ref l) (.ref sl) (.ref D)) Q E s := by
 obtain ⟨n, ho⟩ := hl
 obtain ⟨os, hos, hcs, hds⟩ := id hs
 obtain ⟨oD, hoD, hcD, nD, hdD⟩ := id hD
 have hT : s.TypeIs (.ref l) "list" := ⟨_, ho, rfl⟩
 have hTs : s.TypeIs (.ref sl) "slice" := ⟨os, hos, hcs⟩
 unfold setItem
 try with_reducible refine wpAny_holding ?_
 refine wpAny_bind (wpAny_sequenceKey hT (by decide) ?_)
 refine wpAny_bind (wpAny_callSpecial?_slot (name := Str.ofString "__setitem__") hT PySem.slot_list_setitem
  (wpAny_call_entry PySem.slot_list_setitem hT PySem.entry_list_setitem ?_ (PySem.args_list_setitem _ _ _)))
 show wpAny _ _ (Builtin.List.listSubscript? (.ref sl) >>= _) _ _ s
 refine wpAny_bind ?_
 refine wpAny_bind (wpAny_specialOf hTs slice_no_index ?_)
 dsimp only [Option.isNone_none, if_true]
 refine wpAny_pure ?_
 refine wpAny_bind (wpAny_typeOf hTs ?_)
 refine wpAny_bind (wpAny_bind (wpAny_field hos hds (x := .none) rfl (wpAny_bind (wpAny_listPart .none ?_))))
 refine wpAny_bind (wpAny_field hos hds (x := .none) rfl (wpAny_bind (wpAny_listPart .none ?_)))
 refine wpAny_bind (wpAny_field hos hds (x := .none) rfl (wpAny_bind (wpAny_listPart .none (wpAny_pure ?_))))
 have hsame : Builtin.List.listSameRef (.ref l) (.ref D) = false := by show (l == D) = false; simpa using hne
 rw [hsame, if_neg (by decide)]
 refine wpAny_bind ?_
 refine wpAny_bind (wpAny_typeOf hD.typeIs ?_)
 refine listItems_at hoD hdD ?_
 refine wpAny_bind (listItems_at ho rfl ?_)
 refine wpAny_bind (wpAny_of_eq (sliceIndices_raw none none none items.size (by decide)) ?_)
 show wpAny _ _ (if ((1 : Int) == 1) = true then _ else _) _ _ s
 refine wpAny_bind (wpAny_rule ?_)
 have hlong : Builtin.List.listTooLong (items.size + new.size) = false := by
  unfold Builtin.List.listTooLong; simp; lia
 rw [hlong, if_neg (by decide)]
 refine wpAny_bind (listUpdate_at ho rfl ?_ (by lia) ?_)
 ·refine wpAny_bind (wpAny_letGo ?_)
  have h1 := get?_update_seq ho fun xs => xs.extract 0 (Int.toNat 0) ++ new ++ xs.extract (max 0 (items.size : Int)).toNat
  have he : items.extract 0 (Int.toNat 0) ++ new ++ items.extract (max 0 (items.size : Int)).toNat = new := by simp
  simp only [he] at h1
  exact wpAny_pure ⟨.none, rfl, wpAny_pure (q _ ⟨_, h1⟩ (Heap.SameBut.update ..))⟩
 ·have he : items.extract 0 (Int.toNat 0) ++ new ++ items.extract (max 0 (items.size : Int)).toNat = new := by simp
  show (items.extract 0 (Int.toNat 0) ++ new ++ items.extract (max 0 (items.size : Int)).toNat).size <= _
  rw [he]; lia
section
variable {T : Tabs} {C : CT} {k : Nat} {w : World} {hO : Heap} {mb : Str -> Option Value} {f : Fx} {fd : FuncData} {ps ls : List Str}
noncomputable def pSetAll (T : Tabs) (C : CT) (i : Nat) (m : ME) : Nat -> Env' -> List MV -> (Fl -> Env' -> List MV -> Prop) -> Prop := fun ro ρ μ K => pVar i ρ fun dt => EV T C ρ μ m fun dv =>
 ∃ j old new, dt = .tab j /\ dv = .list new /\ μ[j]? = some (.list old) /\ ro <= j /\ old.length + new.length <= sizeLine /\ K .next ρ (μ.set j (.list new))
theorem s_setAll (d : Dat T C k w hO mb) (I : InFn f w hO fd ps ls) {x : Str} {i : Nat} {v : Expr} {m : ME} {p p2 p3 p4 p5 : Pos} (h : varB fd.scope ((ps ++ ls).zipIdx) x i = true) (hv : VE T C k f v m)
  (hsw : autoParam (swapsWith v (some (.Subscript (.Attribute (.Name x p) "_headers" p2) (.Slice none none none p3) p4)) p5.line f.env = pure false) A1._auto_1) :
  V1 T C k f (.Assign [.Subscript (.Attribute (.Name x p) "_headers" p2) (.Slice none none none p3) p4] v p5) (.ext (pSetAll T C i m)) := ⟨fun M ads ρ μ s ro K st ok e Q E q => by
 have hz := varZ_M I.ok st ro
 obtain ⟨dt, hd, e⟩ := pVar_inv e
 refine wpAny_Assign_Subscript (hv.go M ads ρ μ s _ st ok e _ _ fun v1 a1 h1 tk1 e1 k1 r1 => ?_) hsw
 obtain ⟨j, old, new, rfl, rfl, hm, hro, hsz, hK⟩ := e1
 have st1 := st.keep k1
 refine hdr_go d I.toCX (s := { s with heap := h1, toks := tk1 }) (K := fun dl => dl = .ptr j) h st1 (by show pVar i ρ _; unfold pVar; rw [hd]; rfl) fun l dl tk hk hr => ?_
 subst hk
 obtain ⟨a, vs, hla, ha, hpl, hrs⟩ := st1.mu.at hr hm
 cases hla
 cases r1 with
 | list D vn _ hD rn =>
 refine wpAny_Slice (wpAny_evalPart_none (wpAny_evalPart_none (wpAny_evalPart_none ?_)))
 have k2 : Keep h1 (h1.push { cls := .type "slice", data := .fields #[.none, .none, .none] }) := keep_push
 have st2 := st1.keep k2
 have hlD : l ≠ D := fun e => by
  obtain ⟨o, ho, _⟩ := hD
  exact (vis_get ho).2 (e ▸ st.mu.adsM l (List.mem_of_getElem? ha))
 refine setItem_all (s := { s with heap := h1.push { cls := .type "slice", data := .fields #[.none, .none, .none] }, toks := tk }) (hpl.at fun o e => k2 _ _ e) (Heap.IsSliceOf.new ..) (hD.list.at fun o e => k2 _ _ e) hlD (fun h' hl' hs' => ?_) (Nat.le_trans (Nat.le_of_eq (congr (congrArg Nat.add hrs.length) rn.length)) hsz)
 refine q .next .next ρ _ M ads h' tk hK (st2.setMut ha hs' hl' (rn.keep (vis_keepK k2))) ?_ trivial
 exact (After.of_keep0 (k1.trans k2)).trans (Nat.le_refl _) (.of_drop (sameBut_keep hs' (mem_drop_of ha hro))) hz st2.mu.live⟩
end
noncomputable def fn_del : FuncData := Fn (mdAt 68 4) (Str.ofString "__delitem__") (Str.ofString "Headers.__delitem__") 3 .none .none .none (.str (Str.ofString "cpy313.wsgiref.headers") 2580) none (.ref 184) .none 0
theorem lk_del {P : Params} : (Mine.K P).lookup 185 = some ⟨.type "function", none, .func fn_del, ⟨[]⟩⟩ := by kernel_rfl
theorem ok_del : FnB fn_del ["self", "name"] [] (mdAt 68 4).body where
 glob := rfl
 blt := rfl
 clo := rfl
 body := rfl
 co := by kernel_rfl
 gen := by kernel_rfl
 kind := by kernel_rfl
 nod := by decide +kernel
 cxn := by decide +kernel
 par := by decide +kernel
 nofree := by decide +kernel
noncomputable def cm_del : ME := .comp 1 (.var 2) (.ext (pHdr 0)) (.name 2) [.cmp .NotEq (.meth .lower (.sub (.var 2) (.lit (.int 0))) []) (.var 1)] []
noncomputable def ms_del (T : Tabs) (C : CT) : List MS :=
 [.asg (.name 1) (.ext (pConv T C 0 (.meth .lower (.var 1) []))), .ext (pSetAll T C 0 cm_del)]
theorem walk_del {T : Tabs} {C : CT} {k : Nat} {w : World} {hO : Heap} {mb : Str -> Option Value} (d : Dat T C (k + 1) w hO mb) {f : Fx} (I : InFn f w hO fn_del ["self", "name"] []) : VS T C (k + 1) f (mdAt 68 4).body (ms_del T C) :=
 have c := I.toCX
 s_cons I.ok (s_asg I (by kernel_rfl) (e_conv d c (by kernel_rfl) (e_meth (m := .lower) (e_var c (by kernel_rfl)) es_nil)))
  (s_cons I.ok (s_setAll d I (by kernel_rfl) (e_comp0 c ([("kv" : Str)]) (by kernel_rfl) (i_hdr d c sh_name (by kernel_rfl)) (t_name (by kernel_rfl)) fun f1 c1 =>
   ⟨f_one (b_cmp (e_meth (m := .lower) (e_sub (e_var c1 (by kernel_rfl)) e_int) es_nil) (e_var c1 (by kernel_rfl))), e_var c1 (by kernel_rfl)⟩)) s_nil)
noncomputable def delT (tb : Tb) (x : List Nat) : Tb := tb.filter fun p => !(lowL p.1 == lowL x)
theorem tbPV_append (a b : Tb) : tbPV (a ++ b) = tbPV a ++ tbPV b := List.map_append ..
theorem tbPV_length (a : Tb) : (tbPV a).length = a.length := List.length_map ..
theorem del_loop {T : Tabs} {C : CT} {x : List Nat} {μ : List MV} {d0 : Option PV} {K : List PV -> Prop} (l acc : Tb) (hp : ∀ p ∈ l, p.1.length <= 1000) (hl : acc.length + l.length <= 1000) (hk : K (tbPV (acc ++ delT l x))) :
  compLoop (fun ρ1 acc1 K1 => EVIfs T C ρ1 μ [.cmp .NotEq (.meth .lower (.sub (.var 2) (.lit (.int 0))) []) (.var 1)] fun b => match b with
    | true => EVG T C ρ1 μ [] (fun ρ2 K2 => EV T C ρ2 μ (.var 2) K2) acc1 K1
    | false => K1 acc1) (.name 2) [d0, some (.str (lowL x)), none] (tbPV l) (tbPV acc) K := by
 induction l generalizing acc with
 | nil => rw [show delT [] x = [] from rfl, List.append_nil] at hk; exact hk
 | cons p r ih =>
  have hl' : acc.length + r.length < 1000 := hl
  have ih := fun acc' => ih acc' (fun q hq => hp q (List.mem_cons_of_mem _ hq))
  refine ⟨by decide, by decide, (by decide : 0 < 2), Nat.le_trans (hp p List.mem_cons_self) (by decide), ?_⟩
  show (match (lowL p.1 != lowL x) with | true => _ | false => _ : Prop)
  cases hc : lowL p.1 == lowL x with
  | true =>
   have e : delT (p :: r) x = delT r x := List.filter_cons_of_neg (by rw [hc]; decide)
   rw [e] at hk
   rw [bne, hc]
   exact ih acc (Nat.le_of_lt hl') hk
  | false =>
   have e : delT (p :: r) x = p :: delT r x := List.filter_cons_of_pos (by rw [hc]; rfl)
   rw [e] at hk
   rw [bne, hc]
   refine ⟨Nat.lt_of_lt_of_le (Nat.lt_of_le_of_lt (Nat.le_trans (Nat.le_of_eq (tbPV_length acc)) (Nat.le_add_right ..)) hl') (by decide), ?_⟩
   have := ih (acc ++ [p]) (by rw [List.length_append, Nat.add_assoc, Nat.add_comm _ r.length]; exact hl) (by rw [List.append_assoc]; exact hk)
   rw [tbPV_append] at this
   exact this
theorem mu_back {hO h h' : Heap} {M M' ads ads' : List Addr} {μ μ' : List MV} (m : MuAt hO M ads μ h) (m' : MuAt hO M' ads' μ' h') (hM : ∀ a ∈ M, a ∈ M') (hmo : ∃ more, ads' = ads ++ more /\ ∀ a ∈ more, h.get? a = none) (hl : μ'.length = μ.length) : MuAt hO M ads μ' h' := by
 obtain ⟨more, rfl, _⟩ := hmo
 have h1 := m'.len
 have h2 := m.len
 have : more = [] := by
  rw [List.length_append, hl, <- h2] at h1
  exact List.length_eq_zero_iff.mp (Nat.add_left_cancel h1)
 subst this
 rw [List.append_nil] at m'
 exact ⟨m'.base, fun a ha => m'.fresh a (hM a ha), fun a ha => m'.live a (hM a ha), m.adsM, m'.nod, m'.len, fun i a mv e1 e2 => by
  cases m'.mus i a mv e1 e2 with
  | list vs ds e r => exact .list vs ds e (r.keep (vis_less hM))⟩
theorem del_ex {T : Tabs} {C : CT} {μ : List MV} {j : Nat} {tb : Tb} {x : List Nat} (hm : μ[j]? = some (.list (tbPV tb))) (hx : Plain (lowL x)) (hl : x.length <= 1000) (ht : TbOk tb) {K : Fl -> List MV -> Prop} (hK : K .next (μ.set j (.list (tbPV (delT tb x))))) :
  EX T C 0 [some (.tab j), some (.str x)] μ (ms_del T C) fun fl _ μ' => K fl μ' := by
 have hv : view μ (.ptr j) = .list (tbPV tb) := by show (match μ[j]? with | some (.list l) => PV.list l | _ => _) = _; rw [hm]
 refine ⟨trivial, Nat.le_trans hl (by decide), hx, ?_⟩
 show itemsOf (view μ (.ptr j)) _
 rw [hv]
 refine ⟨rfl, ?_⟩
 exact del_loop tb [] ht.key (Nat.le_trans (Nat.le_of_eq (Nat.zero_add _)) (Nat.le_of_lt ht.len)) ⟨j, tbPV tb, _, rfl, rfl, hm, Nat.zero_le _, by
  rw [tbPV_length, tbPV_length]
  exact Nat.le_trans (Nat.add_le_add (Nat.le_of_lt ht.len) (Nat.le_trans (List.length_filter_le _ _) (Nat.le_of_lt ht.len))) (by decide), hK⟩
section
variable {T : Tabs} {C : CT} {k : Nat} {w : World} {hO : Heap} {mb : Str -> Option Value}
theorem del_go (d : Dat T C k w hO mb) {A : Around} {M ads : List Addr} {μ : List MV} {s : Shared} (ok : AOk 2 A) (m : MuAt hO M ads μ s.heap) {v : Value} {j : Nat} {tb : Tb} (r : Rep (vis s.heap M) ads v (.tab j)) (hm : μ[j]? = some (.list (tbPV tb))) (ht : TbOk tb) {x : List Nat} {t : Tok} (hx : Plain (lowL x)) (hl : x.length <= 1000)
  {Q : Value -> Shared -> Prop} {E : Value -> Shared -> Prop} (q : ∀ h' tk, KeepBut ads s.heap h' -> MuAt hO M ads (μ.set j (.list (tbPV (delT tb x)))) h' -> Q .none { s with heap := h', toks := tk }) : wpAny (model pw w) A (call (.ref 185) [v, .str (strOf x) t]) Q E s := by
 refine call_raw (T := T) (C := noC) (k := 1) (ds := [.tab j, .str x]) (vs := [v, .str (strOf x) t]) (d.kin _ _ lk_del) rfl ok_del d.lim (code_at d.kin o184x8 (by kernel_rfl) rfl rfl) (fun f I => (walk_del (d.zero 1) I).go)
  (Looks.of_pure (by kernel_rfl)) rfl ok m (.cons _ _ _ _ r (.cons _ _ _ _ (.str _ t) .nil)) (K := fun fl μ' => fl = .next /\ μ' = μ.set j (.list (tbPV (delT tb x)))) (del_ex hm hx hl ht ⟨rfl, rfl⟩) ?_
 rintro fl fl' μ' M' ads' h' tk ⟨rfl, rfl⟩ kk m' hM hmo _ fr
 cases fl <;> try (exact fr.elim)
 exact q h' tk kk (mu_back m m' hM hmo List.length_set)
end
noncomputable def fn_setd : FuncData := Fn (mdAt 68 15) (Str.ofString "setdefault") (Str.ofString "Headers.setdefault") 3 .none .none .none (.str (Str.ofString "cpy313.wsgiref.headers") 2580) none (.ref 256) .none 0
theorem lk_setd {P : Params} : (Mine.K P).lookup 257 = some ⟨.type "function", none, .func fn_setd, ⟨[]⟩⟩ := by kernel_rfl
theorem ok_setd : FnB fn_setd ["self", "name", "value"] ["result"] (mdAt 68 15).body where
 glob := rfl
 blt := rfl
 clo := rfl
 body := rfl
 co := by kernel_rfl
 gen := by kernel_rfl
 kind := by kernel_rfl
 nod := by decide +kernel
 cxn := by decide +kernel
 par := by decide +kernel
 nofree := by decide +kernel
noncomputable def ms_setd (T : Tabs) (C : CT) : List MS :=
 [.asg (.name 3) (.ext (pGet 0 1)), .ife (.cmp .Is (.var 3) (.lit .none)) [.app (.ext (pHdr 0)) (.tup [.ext (pConv T C 0 (.var 1)), .ext (pConv T C 0 (.var 2))]), .ret (.var 2)] [.ret (.var 3)]]
theorem walk_setd {T : Tabs} {C : CT} {k : Nat} {w : World} {hO : Heap} {mb : Str -> Option Value} (d : Dat T C (k + 2) w hO mb) {f : Fx} (I : InFn f w hO fn_setd ["self", "name", "value"] ["result"]) : VS T C (k + 2) f (mdAt 68 15).body (ms_setd T C) :=
 have c := I.toCX
 s_cons I.ok (s_asg I (by kernel_rfl) (e_get d c (by kernel_rfl) (by kernel_rfl)))
  (s_cons I.ok (s_ife I.ok (b_cmp (e_var c (by kernel_rfl)) e_none)
   (s_cons I.ok (s_app I (e_hdr d c (by kernel_rfl)) (e_tup (es_cons (e_conv (k := k + 1) d c (by kernel_rfl) (e_var c (by kernel_rfl))) (es_cons (e_conv (k := k + 1) d c (by kernel_rfl) (e_var c (by kernel_rfl))) es_nil))))
    (s_cons I.ok (s_ret (e_var c (by kernel_rfl))) s_nil))
   (s_cons I.ok (s_ret (e_var c (by kernel_rfl))) s_nil)) s_nil)
theorem getR_not {tb : Tb} {x : List Nat} (h : hasB tb x = false) : getR tb x = .none := by
 unfold getR
 cases hf : tb.find? (fun p => lowL p.1 == lowL x) with
 | none => rfl
 | some p =>
  have hb := List.find?_some hf
  have := List.any_eq_false.mp h p (List.mem_of_find?_eq_some hf)
  exact absurd hb this
theorem setd_ex {T : Tabs} {C : CT} {μ : List MV} {j : Nat} {tb : Tb} {x y : List Nat} (hm : μ[j]? = some (.list (tbPV tb))) (hx : Plain (lowL x)) (hx' : Plain x) (hy : Plain y) (hl : x.length <= 1000) (ht : TbOk tb) (hn : hasB tb x = false) {K : Fl -> List MV -> Prop} (hK : K (.ret (.str y)) (μ.set j (.list (tbPV (tb ++ [(x, y)]))))) :
  EX T C 0 [some (.tab j), some (.str x), some (.str y), none] μ (ms_setd T C) fun fl _ μ' => K fl μ' := by
 refine ⟨tb, x, .inl ⟨j, rfl, hm⟩, rfl, ht, hx, hl, ?_⟩
 rw [getR_not hn]
 have hmut : ∀ (K : Nat -> List PV -> Prop), K j (tbPV tb) -> mutAt μ 0 (.ptr j) K := fun K hK => by
  show match μ[j]? with | some (.list l) => 0 <= j /\ K j l | _ => False
  rw [hm]; exact ⟨Nat.zero_le _, hK⟩
 refine ⟨hmut _ trivial, trivial, hx', trivial, hy, show 2 <= sizeLine by decide, hmut _ ⟨by rw [tbPV_length]; exact Nat.lt_of_lt_of_le ht.len (by decide), ?_⟩⟩
 rw [tbPV_append] at hK
 exact hK
section
variable {T : Tabs} {C : CT} {k : Nat} {w : World} {hO : Heap} {mb : Str -> Option Value}
theorem setd_go (d : Dat T C k w hO mb) {A : Around} {M ads : List Addr} {μ : List MV} {s : Shared} (ok : AOk 3 A) (m : MuAt hO M ads μ s.heap) {v : Value} {j : Nat} {tb : Tb} (r : Rep (vis s.heap M) ads v (.tab j)) (hm : μ[j]? = some (.list (tbPV tb))) (ht : TbOk tb) {x y : List Nat} {t t2 : Tok} (hx : Plain (lowL x)) (hx' : Plain x) (hy : Plain y) (hl : x.length <= 1000) (hn : hasB tb x = false)
  {Q : Value -> Shared -> Prop} {E : Value -> Shared -> Prop} (q : ∀ v' h' tk, KeepBut ads s.heap h' -> MuAt hO M ads (μ.set j (.list (tbPV (tb ++ [(x, y)])))) h' -> Q v' { s with heap := h', toks := tk }) : wpAny (model pw w) A (call (.ref 257) [v, .str (strOf x) t, .str (strOf y) t2]) Q E s := by
 refine call_raw (T := T) (C := noC) (k := 2) (ds := [.tab j, .str x, .str y]) (vs := [v, .str (strOf x) t, .str (strOf y) t2]) (d.kin _ _ lk_setd) rfl ok_setd d.lim (code_at d.kin o256x8 (by kernel_rfl) rfl rfl) (fun f I => (walk_setd (d.zero 2) I).go)
  (Looks.of_pure (by kernel_rfl)) rfl ok m (.cons _ _ _ _ r (.cons _ _ _ _ (.str _ t) (.cons _ _ _ _ (.str _ t2) .nil))) (K := fun fl μ' => fl = .ret (.str y) /\ μ' = μ.set j (.list (tbPV (tb ++ [(x, y)])))) (setd_ex hm hx hx' hy hl ht hn ⟨rfl, rfl⟩) ?_
 rintro fl fl' μ' M' ads' h' tk ⟨rfl, rfl⟩ kk m' hM hmo _ fr
 exact q _ h' tk kk (mu_back m m' hM hmo List.length_set)
end
section
variable {w : World} {A : Around} {E : Value -> Shared -> Prop} {s : Shared}
theorem setHeaders {x dx : Addr} {v : Value} {Q : Unit -> Shared -> Prop} (X : (Mine.K w.params).In s.heap) (hx : s.heap.get? x = some (instObj 267 dx)) (hdx : s.heap.get? dx = some emptyDict)
  (q : ∀ h' tk hs tk', h'.get? dx = some (dictOf [⟨hs, .str "_headers" tk', v⟩] 1) -> Heap.SameBut dx s.heap h' -> Q () { s with heap := h', toks := tk }) : wpAny (model pw w) A (setAttr (.ref x) "_headers" v) Q E s := by
 have I : InstAt s.heap x (instObj 267 dx) 267 (some emptyDict) := ⟨hx, rfl, rfl, hdx⟩
 refine set_plain X I (by kernel_rfl) ?_
 refine osa_open (r := none) (s := { s with toks := s.toks + 1 }) X I (by kernel_rfl) (by kernel_rfl) fun b => ?_
 obtain ⟨cd, hc, hd'⟩ := any_some (show (clsIn (Mine.K w.params) 267).any (·.hasDict) = true by kernel_rfl)
 refine wpAny_bind (wpAny_pure (wpAny_bind (wpAny_bind (wpAny_loadPart (s := { s with toks := s.toks + 1 }) hx (wpAny_bind (Looks.here (s := { s with toks := s.toks + 1 }) (looks_clsIn X hc) ?_))))))
 rw [hd']
 refine wpAny_pure (a := some dx) (wpAny_bind (wpAny_pure (wpAny_bind ?_)))
 refine wpAny_bind (wpAny_bind (wpAny_askSetting (wpAny_pure (wpAny_bind (wpAny_mkText (wpAny_bind (wpAny_loadPart (s := { s with toks := s.toks + 1 + 1 }) hdx ?_)))))))
 have hno : aRefKeyMayBeTheName (Str.ofString "_headers") #[] = false := by kernel_rfl
 dsimp only
 generalize (if (Str.ofString "_headers").cps.isEmpty = true then (0 : Int) else reduceHash ({ program := (model pw w).prog, params := (model pw w).w.params : Setting }.params.strHash (Str.ofString "_headers").cps)) = hs
 refine wpAny_updatePart hdx ?_
 have D' : (s.heap.update dx (Obj.putName (Str.ofString "_headers") hs (.str (Str.ofString "_headers") (s.toks + 1)) v)).get? dx = some (dictOf [⟨hs, .str "_headers" (s.toks + 1), v⟩] 1) := Heap.get?_update_self _ hdx (by kernel_rfl)
 refine wpAny_bind (wpAny_lookBehind D' (pastItsLine_dict (show 1 <= sizeLine + 1 by exact Nat.succ_pos _)) ?_)
 exact wpAny_pure (q _ _ hs _ D' (Heap.SameBut.update ..))
end
section
variable {T : Tabs} {C : CT} {k : Nat} {w : World} {hO : Heap} {mb : Str -> Option Value} {f : Fx} {S : Scope} {cx : List (Str × Nat)} {n : Nat}
noncomputable def pTyList (i : Nat) : P0 := fun ρ μ K => ∃ l, ρ[i]? = some (some (.list l)) /\ K (.bool false)
theorem b_tyList (d : Dat T C k w hO mb) (c : CX w hO f S cx n) {x : Str} {i : Nat} {p pos p2 pos2 : Pos} (h : varB S cx x i = true) (ht : globB S "type" = true) (hs : globB S "list" = true) {p3 : Pos} :
  VB T C k f (.Compare (.Call (.Name "type" p) [.Name x pos] [] p2) [.IsNot] [.Name "list" p3] pos2) (.ext (pTyList i)) := ⟨fun M ads ρ μ s K st ok e Q E q => by
 ·obtain ⟨l, hl, e⟩ : pTyList i ρ μ fun d => TRU (view μ d) K := e
  refine wpAny_isTrue_Compare1 ?_ rfl
  refine call_name (ld_glob (d.G c) d.g_type (globB_inv c ht).1 (by decide +kernel) st (callWith_bt (.inr ⟨_, rfl⟩) rfl ?_))
  refine evalArgs_plain (wpAny_items_cons (e := .Name x pos) (rest := []) (var_go c h st hl fun v r => ?_) rfl)
  obtain ⟨a, vs, rfl, hq, rs⟩ := r.listI
  refine wpAny_items_nil (call_type_of hq.list.typeIs (by decide) ?_)
  refine ld_glob (d.G c) d.g_list (globB_inv c hs).1 (by decide +kernel) st ?_
  refine wpAny_isNot_plain (by decide) ?_
  exact wpAny_truthy_bool (q false s.heap s.toks e fun _ _ e => e)⟩
noncomputable def pYes : P0 := fun ρ μ K => K (.bool true)
theorem b_yes {n : Nat} {p : Pos} : VB T C k f (.Constant (.bool true) n p) (.ext pYes) := ⟨fun M ads ρ μ s K st ok e Q E q => by
 exact wpAny_isTrue_value (wpAny_Constant_bool (wpAny_truthy_bool (q true s.heap s.toks e fun _ _ e => e))) rfl⟩
end
noncomputable def fn_init : FuncData := Fn (mdAt 68 0) (Str.ofString "__init__") (Str.ofString "Headers.__init__") 3 (.ref 152) .none .none (.str (Str.ofString "cpy313.wsgiref.headers") 2580) none (.ref 158) .none 0
theorem lk_init {P : Params} : (Mine.K P).lookup 159 = some ⟨.type "function", none, .func fn_init, ⟨[]⟩⟩ := by kernel_rfl
theorem ok_init : FnB fn_init ["self", "headers"] ["k", "v"] (mdAt 68 0).body where
 glob := rfl
 blt := rfl
 clo := rfl
 body := rfl
 co := by kernel_rfl
 gen := by kernel_rfl
 kind := by kernel_rfl
 nod := by decide +kernel
 cxn := by decide +kernel
 par := by decide +kernel
 nofree := by decide +kernel
structure InitSt (T : Tabs) (C : CT) (k : Nat) (f : Fx) (y : Str) (s1 s2 s3 s4 : Stmt) : Prop where
 yok : VarOK f (varZ f) y 1 /\ f.env.kindOf y = some .local /\ (y == ("__debug__" : Str)) = false
 a : ∃ p p' t xx yy q, s1 = .Assign [.Name y p] (.IfExp t xx (.List [] yy) q) p' /\ VB T C k f t (.cmp .IsNot (.var 1) (.lit .none))
 b : ∃ t b p, s2 = .If t b [] p /\ VB T C k f t (.ext (pTyList 1))
 c : ∃ x p1 p2 p3 p4, s3 = .Assign [.Attribute (.Name x p2) "_headers" p3] (.Name y p1) p4 /\ VE T C k f (.Name x p2) (.var 0)
 d : V1 T C k f s4 (.ife (.ext pYes) [.fr (.tup [2, 3]) (.var 1) [.ext deadS, .ext deadS] []] [])
theorem walk_init {T : Tabs} {C : CT} {k : Nat} {w : World} {hO : Heap} {mb : Str -> Option Value} (d : Dat T C k w hO mb) {f : Fx} (I : InFn f w hO fn_init ["self", "headers"] ["k", "v"]) :
  ∃ s1 s2 s3 s4, (mdAt 68 0).body = [s1, s2, s3, s4] /\ InitSt T C k f "headers" s1 s2 s3 s4 :=
 have c := I.toCX
 ⟨_, _, _, _, rfl, ⟨v_ok I (by kernel_rfl), c.kind (by kernel_rfl), by kernel_rfl⟩, ⟨_, _, _, _, _, _, rfl, b_cmp (e_var c (by kernel_rfl)) e_none⟩,
  ⟨_, _, _, rfl, b_tyList d c (by kernel_rfl) (by kernel_rfl) (by kernel_rfl)⟩,
  ⟨_, _, _, _, _, rfl, e_var c (by kernel_rfl)⟩,
  s_ife I.ok b_yes (s_cons I.ok (s_for I (i_var c sh_tup (by kernel_rfl)) (ok_tup2 I (by kernel_rfl) (by kernel_rfl)) (s_cons I.ok s_dead (s_cons I.ok s_dead s_nil)) s_nil) s_nil) s_nil⟩
theorem init_go {T : Tabs} {C : CT} {k : Nat} {w : World} {hO : Heap} {mb : Str -> Option Value} (d : Dat T C k w hO mb) {A : Around} {M : List Addr} {s : Shared} (ok : AOk 1 A) (m : MuAt hO M [] [] s.heap) {x dx : Addr} (hdM : dx ∈ M) (hx : s.heap.get? x = some (instObj 267 dx)) (hdx : s.heap.get? dx = some emptyDict) (hxd : x ≠ dx)
  {R : Result -> Shared -> Prop} (q : ∀ h' tk hs tk' l, h'.get? x = some (instObj 267 dx) -> h'.get? dx = some (dictOf [⟨hs, .str "_headers" tk', .ref l⟩] 1) -> h'.PlainList l #[] -> s.heap.get? l = none -> KeepBut [dx] s.heap h' -> R (.ok (.ret .none)) { s with heap := h', toks := tk }) :
  codeAny (model pw w) A (.call (.ref 159) ⟨[.ref x], []⟩) R s := by
 have X0 : (Mine.K w.params).In s.heap := d.kin.keeps m.base
 refine call_enter (k := 0) (ds := [.ob x, .none]) (vs := [.ref x, .none]) (d.kin _ _ lk_init) rfl ok_init d.lim (code_at d.kin o158x8 (by kernel_rfl) rfl rfl) (Looks.of_peek (M := model pw w) X0 (by kernel_rfl)) rfl ok m (.cons _ _ _ _ (.ob x) (.cons _ _ _ _ .none .nil))
  fun f h₁ tk M₁ I okf st kk hM hN hzv E => ?_
 obtain ⟨s1, s2, s3, s4, hb, hS⟩ := walk_init (d.zero 0) I
 rw [hb]
 have hz := varZ_M I.ok st 0
 have c := I.toCX
 obtain ⟨hvy, hky, hdy⟩ := hS.yok
 obtain ⟨p, p', t, xx, yy, qq, rfl, ht⟩ := hS.a
 refine wpAny_execs_cons (wpAny_Assign_Name (wpAny_IfExp (ht.go M₁ [] _ [] { s with heap := h₁, toks := tk } (fun b => b = false) st okf rfl _ _ fun b h2 tk2 hb2 k2 => ?_)) rfl)
 subst hb2
 refine wpAny_List (wpAny_items_nil ⟨by simp, ?_⟩)
 have st2 := st.keep k2
 generalize hl : h2.objs.size = l
 have k3 : Keep h2 (h2.push { cls := .type "list", data := .seq ([] : List Value).toArray }) := keep_push
 have st3 := st2.keep k3
 have hlg : (h2.push { cls := .type "list", data := .seq ([] : List Value).toArray }).get? l = some { cls := .type "list", data := .seq #[] } := by rw [<- hl]; exact Heap.get?_push_size _ rfl
 have hl2 : h2.get? l = none := new_none (by rw [hl]; exact Nat.le_refl _)
 have hls : s.heap.get? l = none := by
  cases e : s.heap.get? l with
  | none => rfl
  | some o => have := k2 _ _ (kk _ _ e); rw [hl2] at this; cases this
 have hlL : l ≠ f.env.locals := fun e => by
  obtain ⟨o, ho⟩ := st2.mu.live _ st2.locM
  rw [<- e, hl2] at ho; cases ho
 obtain ⟨mm, hmm, hv⟩ := st3.ns
 have r3 : Rep (vis (h2.push { cls := .type "list", data := .seq ([] : List Value).toArray }) M₁) [] (.ref l) (.list []) := by
  rw [<- hl]; exact .list _ #[] [] (SeqIn.new (T := "list") (vs := ([] : List Value).toArray) st2.mu) .nil
 refine wpAny_storeName_local (s := { s with heap := h2.push { cls := .type "list", data := .seq ([] : List Value).toArray }, toks := tk2 }) hky hmm (fun h4 hn4 hs4 => ?_) (by show (f.env.scope.kind == .class || (f.env.scope.kind == .module && _)) = false; rw [st.kind]; rfl)
 have st4 := st3.store_local hvy.1 hky r3 hv hn4 hs4
 have k4 : KeepBut (varZ f) (h2.push { cls := .type "list", data := .seq ([] : List Value).toArray }) h4 := sameBut_keep hs4 List.mem_cons_self
 obtain ⟨t2, b2, p2, rfl, ht2⟩ := hS.b
 refine wpAny_execs_cons (wpAny_If (ht2.go M₁ [] _ [] { s with heap := h4, toks := _ } (fun b => b = false) st4 okf ⟨_, rfl, rfl⟩ _ _ fun b h5 tk5 hb5 k5 => ?_))
 subst hb5
 refine wpAny_execs_nil ?_
 have st5 := st4.keep k5
 have hn5 := Ns.at hn4 fun o e => k5 _ _ e
 obtain ⟨x', q1, q2, q3, q4, rfl, hx'⟩ := hS.c
 refine wpAny_execs_cons (plainObj_wpAny_Assign_Attribute (wpAny_Name (wpAny_loadName_local st5.kind hky hn5 (if_pos rfl) ?_) hdy) rfl)
 refine hx'.go M₁ [] _ [] { s with heap := h5, toks := tk5 } (fun d => d = .ob x) st5 okf rfl _ _ fun v6 d6 h6 tk6 hd6 k6 r6 => ?_
 subst hd6
 cases r6
 have st6 := st5.keep k6
 have kxd : ∀ b o, b ∉ varZ f -> s.heap.get? b = some o -> h6.get? b = some o := fun b o hb e => k6 b o (k5 b o (k4 b o hb (k3 b o (k2 b o (kk b o e)))))
 have hnz : ∀ b o, s.heap.get? b = some o -> b ∉ varZ f := fun b o e hm => by rw [hzv b hm] at e; cases e
 have hx6 := kxd x _ (hnz x _ hx) hx
 have hdx6 := kxd dx _ (hnz dx _ hdx) hdx
 rw [c.w]
 refine setHeaders (s := { s with heap := h6, toks := tk6 }) (d.kin.keeps (c.hO ▸ st6.mu.base)) hx6 hdx6 fun h7 tk7 hs7 tk7' hd7 hsb => ?_
 rw [<- c.w]
 have k7 : KeepBut [dx] h6 h7 := sameBut_keep hsb (by simp)
 have hdn := hnz dx _ hdx
 have st7 : St f M₁ [] _ [] h7 := st6.others (Z := [dx]) (fun a ha => by
  simp at ha; subst ha
  exact ⟨hM _ hdM, fun h => (nomatch h), fun e => hdn (by rw [e]; exact List.mem_cons_self), fun x c hx hc e => hdn (by
   rw [e]; exact List.mem_cons_of_mem _ (List.mem_map.mpr ⟨_, mem_of_lookup hc, rfl⟩))⟩) k7 fun a ha => by simp at ha; subst ha; exact ⟨_, hd7⟩
 have hlz : l ∉ varZ f := fun hm => by
  obtain ⟨o, ho⟩ := st2.mu.live _ (hz l (List.mem_append_left _ hm))
  rw [hl2] at ho; cases ho
 have hldx : l ≠ dx := fun e => by rw [e, hdx] at hls; cases hls
 refine wpAny_execs_cons (hS.d.go M₁ [] _ [] { s with heap := h7, toks := tk7 } 0 (fun fl _ _ => fl = .next) st7 okf ?_ _ _ fun fl fl' ρ8 μ8 M8 ads8 h8 tk8 hfl st8 af8 fr => ?_)
 ·exact (rfl : Fl.next = Fl.next)
 subst hfl
 cases fl <;> try (exact fr.elim)
 refine wpAny_execs_nil ?_
 have k8 : KeepBut (varZ f) h7 h8 := fun b o hb e => af8.keep b o (fun hm => by
  rcases List.mem_append.mp hm with hm | hm
  ·exact hb hm
  ·simp at hm) e
 refine q h8 tk8 hs7 tk7' l (k8 x _ (hnz x _ hx) (k7 x _ (by simpa using hxd) hx6)) (k8 dx _ hdn hd7) ⟨0, k8 l _ hlz (k7 l _ (by simpa using hldx) (k6 l _ (k5 l _ (k4 l _ hlz hlg))))⟩ hls fun b o hb e => ?_
 exact k8 b o (hnz b o e) (k7 b o hb (kxd b o (hnz b o e) e))
theorem tc_weight : (Code.builtin "type.__call__" ⟨[.ref 267], []⟩).weight = 1 := by decide +kernel
theorem tc_units : (Code.builtin "type.__call__" ⟨[.ref 267], []⟩).cUnits <= 10 := by decide +kernel
section
variable {T : Tabs} {C : CT} {k : Nat} {w : World} {hO : Heap} {mb : Str -> Option Value} {f : Fx} {fd : FuncData} {ps ls : List Str}
theorem make_tab (d : Dat T C k w hO mb) {A : Around} (ok : AOk 3 A) {M ads : List Addr} {μ : List MV} {s : Shared} (m : MuAt hO M ads μ s.heap) {Q : Value -> Shared -> Prop} {E : Value -> Shared -> Prop}
  (q : ∀ x dx l h' tk hs tk', Keep s.heap h' -> s.heap.get? x = none -> s.heap.get? dx = none -> s.heap.get? l = none -> h'.get? x = some (instObj 267 dx) -> h'.get? dx = some (dictOf [⟨hs, .str "_headers" tk', .ref l⟩] 1) -> h'.PlainList l #[] -> Q (.ref x) { s with heap := h', toks := tk }) :
  wpAny (model pw w) A (call (.ref 267) []) Q E s := by
 have X : (Mine.K w.params).In s.heap := d.kin.keeps m.base
 obtain ⟨hh, gg, dr, tk, os⟩ := s
 refine wpAny_call (make_core (makes_of X (by kernel_rfl)) (looks_findIn X (r := some (.ref 159)) (by kernel_rfl)) (fun self => bind_fn X self (by kernel_rfl)) (.inl (by decide)) ?_)
 generalize hdx : hh.objs.size = dx
 have k1 : Keep hh (hh.push emptyDict) := keep_push
 have k2 : Keep (hh.push emptyDict) ((hh.push emptyDict).push (instObj 267 dx)) := keep_push
 have e1 : (hh.push emptyDict).get? dx = some emptyDict := by rw [<- hdx]; exact Heap.get?_push_size _ rfl
 have e2 : ((hh.push emptyDict).push (instObj 267 dx)).get? (dx + 1) = some (instObj 267 dx) := by
  have : (hh.push emptyDict).objs.size = dx + 1 := by rw [Heap.size_push, hdx]
  rw [<- this]; exact Heap.get?_push_size _ rfl
 have n1 : hh.get? dx = none := new_none (by rw [hdx]; exact Nat.le_refl _)
 have n2 : hh.get? (dx + 1) = none := new_none (by rw [hdx]; exact Nat.le_succ _)
 have m1 : MuAt hO (dx :: M) [] [] ((hh.push emptyDict).push (instObj 267 dx)) := {
  base := fun b o e => k2 _ _ (k1 _ _ (m.base b o e))
  fresh := fun b hb => by
   rcases List.mem_cons.mp hb with rfl | hb
   ·cases e : hO.get? b with
    | none => rfl
    | some o => have := m.base _ _ e; rw [show hh.get? b = none from n1] at this; cases this
   ·exact m.fresh b hb
  live := fun b hb => by
   rcases List.mem_cons.mp hb with rfl | hb
   ·exact ⟨_, k2 _ _ e1⟩
   ·obtain ⟨o, e⟩ := m.live b hb; exact ⟨o, k2 _ _ (k1 _ _ e)⟩
  adsM := fun _ h => (nomatch h)
  nod := List.nodup_nil
  len := rfl
  mus := fun i a mv e1 _ => by simp at e1 }
 have okU : AOk 1 (A.under (.builtin "type.__call__" ⟨[.ref 267], []⟩)) := ⟨ok.handled, by
  have := ok.depth
  show A.depth + (Code.builtin "type.__call__" ⟨[.ref 267], []⟩).weight + 1 < 1000
  exact Nat.le_of_lt ‹_›, by
  have := ok.units
  have h2 := tc_units
  show A.units + (Code.builtin "type.__call__" ⟨[.ref 267], []⟩).cUnits + 10 * 1 + 1000 < 9000
  lia⟩
 refine init_go d (s := ⟨(hh.push emptyDict).push (instObj 267 dx), gg, dr, tk, os⟩) okU m1 List.mem_cons_self e2 (k2 _ _ e1) (Nat.succ_ne_self dx) fun h' tk2 hs tk' l f1 f2 f3 f4 kk => ⟨rfl, ?_⟩
 refine q (dx + 1) dx l h' tk2 hs tk' (fun b o e => kk b o (fun hm => ?_) (k2 _ _ (k1 _ _ e))) n2 n1 ?_ f1 f2 f3
 ·simp at hm; rw [hm, show hh.get? dx = none from n1] at e; cases e
 ·cases e : hh.get? l with
  | none => rfl
  | some o => have := k2 _ _ (k1 _ _ e); rw [show ((hh.push emptyDict).push (instObj 267 dx)).get? l = none from f4] at this; cases this
noncomputable def pNewT (i : Nat) : Nat -> Env' -> List MV -> (Fl -> Env' -> List MV -> Prop) -> Prop := fun ro ρ μ K => K .next (ρ.set i (some (.tab μ.length))) (μ ++ [.list []])
theorem s_newT (d : Dat T C (k + 3) w hO mb) (I : InFn f w hO fd ps ls) {x : Str} {i : Nat} {p p2 p3 p4 : Pos} (h : stoB fd.scope (ps ++ ls) x i = true) (hg : globB fd.scope "Headers" = true) (hv : mgOf w.params "Headers" = some (.ref 267)) :
  V1 T C (k + 3) f (.Assign [.Name x p] (.Call (.Name "Headers" p2) [] [] p3) p4) (.ext (pNewT i)) := ⟨fun M ads ρ μ s ro K st ok e Q E q => by
 have c := I.toCX
 have X := kin_at d c.hO st
 refine wpAny_Assign_Name (call_name (ld_glob (d.G c) (.inl hv) (globB_inv c hg).1 (by decide +kernel) st (callWith_K0 (K := Mine.K w.params) X (by kernel_rfl) ?_))) rfl
 rw [c.w]
 refine make_tab d (ok.le (Nat.le_add_left ..)) (c.hO ▸ st.mu) fun a dx l h' tk hs tk' kk na nd nl f1 f2 f3 => ?_
 rw [<- c.w]
 have hl : ∃ o, h'.get? l = some o := let ⟨n, e⟩ := f3; ⟨_, e⟩
 have st2 := st.grow (own := [l]) kk (fun b hb => by simp at hb; subst hb; exact nl) fun b hb => by simp at hb; subst hb; exact hl
 have hlM : l ∉ M := fun hm => by obtain ⟨o, e⟩ := st.mu.live _ hm; rw [nl] at e; cases e
 have haM : a ∉ M := fun hm => by obtain ⟨o, e⟩ := st.mu.live _ hm; rw [na] at e; cases e
 have hdM : dx ∉ M := fun hm => by obtain ⟨o, e⟩ := st.mu.live _ hm; rw [nd] at e; cases e
 have hal : a ≠ l := fun e => by
  obtain ⟨n, e'⟩ := f3
  rw [e, e'] at f1; exact absurd (congrArg Obj.cls (Option.some.inj f1)) (by simp)
 have hdl : dx ≠ l := fun e => by
  obtain ⟨n, e'⟩ := f3
  rw [e, e'] at f2; exact absurd (congrArg Obj.cls (Option.some.inj f2)) (show ¬ (Value.type "list" = Value.type "dict") by decide)
 have st3 := st2.addAds (D := l) (vs := #[]) (ds := []) (AccOK.of_not st.inM (by simp) hlM) f3 .nil
 have hx : TabIn (vis h' ([l] ++ M)) a l := ⟨dx, hs, tk', vis_of f1 (by simp [hal, haM]), vis_of f2 (by simp [hdl, hdM])⟩
 have r3 : Rep (vis h' ([l] ++ M)) (ads ++ [l]) (.ref a) (.tab μ.length) := .tab a l _ hx (by rw [<- st.mu.len]; simp)
 refine store_sound (s := { s with heap := h', toks := tk }) st3 (v_ok I h) r3 fun h2 tk2 st4 k2 => ?_
 refine q .next .next _ _ _ _ h2 tk2 e st4 ⟨fun a h => List.mem_append_right _ h, ⟨[l], rfl, fun a ha => by simp at ha; subst ha; exact nl⟩, fun b hb => ?_, fun b o hb e => k2 b o (fun hm => hb (List.mem_append_left _ hm)) (kk b o e)⟩ trivial
 rcases List.mem_append.mp hb with hb | hb
 ·simp at hb; subst hb; exact .inr nl
 ·exact .inl hb⟩
end
theorem St.muts {f : Fx} {M ads : List Addr} {ρ : Env'} {μ μ' : List MV} {h h' : Heap} (st : St f M ads ρ μ h) (k : KeepBut ads h h') (m : MuAt f.hO M ads μ' h') : St f M ads ρ μ' h' where
 mu := m
 kind := st.kind
 glob := st.glob
 blt := st.blt
 locM := st.locM
 locA := st.locA
 ns := by
  obtain ⟨mm, hn, hv⟩ := st.ns
  refine ⟨mm, Ns.at hn fun o e => k _ _ st.locA e, fun y i d e1 e2 e3 => ?_⟩
  obtain ⟨v, a, b⟩ := hv y i d e1 e2 e3
  exact ⟨v, a, b.keep (vis_keep fun b o hb e => k b o (fun hm => hb (st.mu.adsM b hm)) e)⟩
 cells := fun y hy => by
  obtain ⟨c, ov, e1, e2, e3, e4, e5, e6⟩ := st.cells y hy
  refine ⟨c, ov, e1, IsCell.at e2 fun o e => k _ _ e4 e, e3, e4, e5, fun i d a b => ?_⟩
  obtain ⟨v, q1, q2⟩ := e6 i d a b
  exact ⟨v, q1, q2.keep (vis_keep fun b o hb e => k b o (fun hm => hb (st.mu.adsM b hm)) e)⟩
 apart := st.apart
 inj := st.inj
 len := st.len
 bnd := st.bnd
theorem After.of_ads {f : Fx} {M ads : List Addr} {h h' : Heap} (k : KeepBut ads h h') : After f 0 M ads h M ads h' :=
 ⟨fun a ha => ha, ⟨[], by simp, by simp⟩, fun a ha => .inl ha, k.mono fun a ha => List.mem_append_right _ (by simpa using ha)⟩
section
variable {T : Tabs} {C : CT} {k : Nat} {w : World} {hO : Heap} {mb : Str -> Option Value} {f : Fx} {fd : FuncData} {ps ls : List Str} {S : Scope} {cx : List (Str × Nat)} {n : Nat}
noncomputable def pInT (i j : Nat) : P0 := fun ρ μ K => pVar i ρ fun dt => pVar j ρ fun dx => ∃ tb x, tabIs μ dt tb /\ dx = .str x /\ TbOk tb /\ Plain (lowL x) /\ x.length <= 1000 /\ K (.bool (hasB tb x))
theorem b_inT (d : Dat T C (k + 3) w hO mb) (c : CX w hO f S cx n) {x y : Str} {i j : Nat} {p p2 p3 : Pos} (h : varB S cx x i = true) (h' : varB S cx y j = true) :
  VB T C (k + 3) f (.Compare (.Name y p) [.In] [.Name x p2] p3) (.ext (pInT i j)) := ⟨fun M ads ρ μ s K st ok e Q E q => by
 obtain ⟨dt, hd, e⟩ := pVar_inv e
 obtain ⟨dx, hdx, tb, z, e1, rfl, e2, e3, e4, e5⟩ := pVar_inv e
 refine wpAny_isTrue_Compare1 (var_go c h' st hdx fun v2 r2 => var_go c h st hd fun v r => ?_) rfl
 obtain ⟨t, rfl⟩ := r2.strI
 obtain ⟨a, l, rfl, hx⟩ := tabIs_inv (hO := hO) r e1
 have X := kin_at d c.hO st
 obtain ⟨dx, hs, tk, I⟩ := hx.inst
 refine wpAny_bind ?_
 refine wpAny_holding (wpAny_bind (wpAny_bind (I.type.here ((looks_findIn X (r := some (.ref 199)) (by kernel_rfl)).here ?_))))
 refine wpAny_bind (unlessNone_K (f := 199) X I (by kernel_rfl) (by kernel_rfl) ?_)
 rw [c.w]
 refine has_go d (ok.le (Nat.le_add_left ..)) (c.hO ▸ st.mu) r e1 e2 e3 e4 fun h' tk kk => ?_
 exact wpAny_truthy_bool (wpAny_pure (wpAny_truthy_bool (q _ h' tk e5 kk)))⟩
noncomputable def pDelT (i j : Nat) : Nat -> Env' -> List MV -> (Fl -> Env' -> List MV -> Prop) -> Prop := fun ro ρ μ K => ro = 0 /\ pVar i ρ fun dt => pVar j ρ fun dx => ∃ jj tb x, dt = .tab jj /\ μ[jj]? = some (.list (tbPV tb)) /\ dx = .str x /\ TbOk tb /\ Plain (lowL x) /\ x.length <= 1000 /\ K .next ρ (μ.set jj (.list (tbPV (delT tb x))))
theorem s_delT (d : Dat T C (k + 3) w hO mb) (I : InFn f w hO fd ps ls) {x y : Str} {i j : Nat} {p p2 p3 p4 : Pos} (h : varB fd.scope ((ps ++ ls).zipIdx) x i = true) (h' : varB fd.scope ((ps ++ ls).zipIdx) y j = true) :
  V1 T C (k + 3) f (.Delete [.Subscript (.Name x p) (.Name y p2) p3] p4) (.ext (pDelT i j)) := ⟨fun M ads ρ μ s ro K st ok e Q E q => by
 have c := I.toCX
 obtain ⟨rfl, e⟩ := e
 obtain ⟨dt, hd, e⟩ := pVar_inv e
 obtain ⟨dx, hdx, jj, tb, z, rfl, e1, rfl, e2, e3, e4, e5⟩ := pVar_inv e
 refine wpAny_Delete (wpAny_deleteEach_cons (wpAny_delete_Subscript (var_go c h st hd fun v r => var_go c h' st hdx fun v2 r2 => ?_)))
 obtain ⟨t, rfl⟩ := r2.strI
 obtain ⟨a, l, rfl, hx⟩ := tabIs_inv (hO := hO) r (.inl ⟨jj, rfl, e1⟩)
 have X := kin_at d c.hO st
 obtain ⟨dx, hs, tk, I'⟩ := hx.inst
 refine wpAny_holding (wpAny_bind (wpAny_bind (I'.type.here ?_)))
 refine wpAny_bind ((anyM_none (C := 267) X (by kernel_rfl)).here ?_)
 refine wpAny_pure (wpAny_bind (special_fn (f := 185) X I' (by kernel_rfl) (by kernel_rfl) ?_))
 rw [c.w]
 refine del_go d (ok.le (Nat.le_add_left ..)) (c.hO ▸ st.mu) r e1 e2 e3 e4 fun h' tk kk m' => ?_
 exact wpAny_pure (wpAny_deleteEach_nil (q .next .next ρ _ M ads h' tk e5 (st.muts kk (c.hO ▸ m')) (.of_ads kk) trivial))⟩
noncomputable def pSetT (T : Tabs) (C : CT) (i j : Nat) (m : ME) : Nat -> Env' -> List MV -> (Fl -> Env' -> List MV -> Prop) -> Prop := fun ro ρ μ K => ro = 0 /\ pVar i ρ fun dt => pVar j ρ fun dx => ∃ jj tb x, dt = .tab jj /\ μ[jj]? = some (.list (tbPV tb)) /\ dx = .str x /\ TbOk tb /\ Plain (lowL x) /\ Plain x /\ x.length <= 1000 /\ hasB tb x = false /\
 EV T C ρ μ m fun dy => match dy with
  | .str y => Plain y /\ K .next ρ (μ.set jj (.list (tbPV (tb ++ [(x, y)]))))
  | _ => False
theorem s_setT (d : Dat T C (k + 3) w hO mb) (I : InFn f w hO fd ps ls) {x y : Str} {i j : Nat} {e1 : Expr} {m1 : ME} {p p2 p3 p4 p5 : Pos} (h : varB fd.scope ((ps ++ ls).zipIdx) x i = true) (h' : varB fd.scope ((ps ++ ls).zipIdx) y j = true) (h1 : VE T C (k + 3) f e1 m1) (hp : autoParam (noStar [.Name y p3, e1] = true) A1._auto_1) (hline : autoParam ((p2.endLine == p4.line) = true) A1._auto_1) :
  V1 T C (k + 3) f (.Expr (.Call (.Attribute (.Name x p) "setdefault" p2) [.Name y p3, e1] [] p4) p5) (.ext (pSetT T C i j m1)) := ⟨fun M ads ρ μ s ro K st ok e Q E q => by
 have c := I.toCX
 have hz := varZ_M I.ok st ro
 obtain ⟨rfl, e⟩ := e
 obtain ⟨dt, hd, e⟩ := pVar_inv e
 obtain ⟨dx, hdx, jj, tb, z, rfl, f1, rfl, f2, f3, f4, f5, f6, e⟩ := pVar_inv e
 refine wpAny_Expr_any (meth_callF (fun _ => rfl) hp (by simp) rfl hline (var_go c h st hd fun v r => ?_)) I.inter rfl
 obtain ⟨a, l, rfl, hx⟩ := tabIs_inv (hO := hO) r (.inl ⟨jj, rfl, f1⟩)
 have X := kin_at d c.hO st
 refine ⟨.ref 257, [.ref a], fun pl P hP => ?_, ?_⟩
 ·rw [c.w]
  exact methTab X hx (by kernel_rfl) (by kernel_rfl) (fun _ _ _ => by kernel_rfl) hP
 have key : wpAny (model pw f.w) f.A (spliced (backTo p4 (starEach [.Name y p3, e1] f.env))) (fun vs s₁ => (Mine.K w.params).In s₁.heap /\ wpAny (model pw f.w) f.A (call (.ref 257) ([.ref a] ++ vs)) (fun _ => Q .next) E s₁) E s := by
  refine wpAny_items_cons (var_go c h' st hdx fun v2 r2 => ?_) (noStar_head hp _)
  obtain ⟨t, rfl⟩ := r2.strI
  refine wpAny_items_cons (h1.go M ads ρ μ s _ st ok e _ _ fun v3 d3 h2 tk2 e2 k2 r3 => wpAny_items_nil ?_) (noStar_head (Bool.and_eq_true_iff.mp hp).2 _)
  split at e2
  ·rename_i yy
   obtain ⟨t3, rfl⟩ := r3.strI
   have st2 := st.keep k2
   refine ⟨kin_at d c.hO st2, ?_⟩
   rw [c.w]
   refine setd_go d (s := { s with heap := h2, toks := tk2 }) (ok.le (Nat.le_add_left ..)) (c.hO ▸ st2.mu) (r.keep (vis_keepK k2)) f1 f2 f3 f4 e2.1 f5 f6 fun v' h3 tk3 k3 m3 => ?_
   exact q .next .next ρ _ M ads h3 tk3 e2.2 (st2.muts k3 (c.hO ▸ m3)) ((After.of_keep0 k2).trans (Nat.le_refl _) (.of_ads k3) hz st2.mu.live) trivial
  ·exact e2.elim
 rw [noStar_head hp] at key ⊢
 exact callWith_of (by rw [<- noStar_head hp, noStar_any hp]; rfl) (keeps_K (by kernel_rfl)) (evalArgs_plain key)⟩
end
section
variable {T : Tabs} {C : CT} {k : Nat} {w : World} {hO : Heap} {mb : Str -> Option Value} {f : Fx} {S : Scope} {cx : List (Str × Nat)} {n : Nat}
noncomputable def pAll (i : Nat) : P0 := fun ρ μ K => pVar i ρ fun dt => ∃ ds, dt = .ftab ds /\ ds.length <= sizeLine /\ K (.list ds)
theorem e_all (d : Dat T C k w hO mb) (c : CX w hO f S cx n) {x : Str} {i : Nat} {p p2 p3 p4 : Pos} (h : varB S cx x i = true) : VE T C k f (.Subscript (.Attribute (.Name x p) "_headers" p2) (.Slice none none none p3) p4) (.ext (pAll i)) := ⟨fun M ads ρ μ s K st ok e Q E q => by
 obtain ⟨dt, hd, ds, rfl, hsz, hK⟩ := pVar_inv e
 refine Subscript_ (hdr_go d c (K := fun dl => dl = .list ds) h st (by show pVar i ρ _; unfold pVar; rw [hd]; exact rfl) fun l dl tk hk hr => ?_)
 subst hk
 obtain ⟨_, vs, hl0, hl, rl⟩ := hr.listI
 cases hl0
 refine wpAny_Slice (wpAny_evalPart_none (wpAny_evalPart_none (wpAny_evalPart_none ?_)))
 have k1 : Keep s.heap (s.heap.push { cls := .type "slice", data := .fields #[.none, .none, .none] }) := keep_push
 have hl2 := Heap.IsList.at hl.list (h' := s.heap.push { cls := .type "slice", data := .fields #[.none, .none, .none] }) fun o e => k1 _ _ e
 refine tail_any (s := { s with heap := s.heap.push { cls := .type "slice", data := .fields #[.none, .none, .none] }, toks := tk }) hl2.typeIs slot_list_getitem.lookup (wpAny_getItem_list_slice hl2 (Heap.IsSliceOf.new ..) .none .none .none (fun h => nomatch h) ?_ (Nat.le_trans (Nat.le_of_eq rl.length) hsz)) rfl
 rw [listSlice_plain vs none none 0 vs.toList.length (.inl ⟨rfl, rfl⟩) (.inl ⟨rfl, rfl⟩)]
 have st4 := (st.keep k1)
 have e1 : ((vs.toList.drop 0).take (vs.toList.length - 0)) = vs.toList := by rw [List.drop_zero, Nat.sub_zero, List.take_length]
 rw [e1]
 exact q _ _ _ _ hK (k1.trans keep_push) (.list _ _ _ (SeqIn.new st4.mu) (rl.keep (vis_keepK (k1.trans keep_push))))⟩
end
noncomputable def fn_items : FuncData := Fn (mdAt 68 11) (Str.ofString "items") (Str.ofString "Headers.items") 3 .none .none .none (.str (Str.ofString "cpy313.wsgiref.headers") 2580) none (.ref 230) .none 0
theorem lk_items {P : Params} : (Mine.K P).lookup 231 = some ⟨.type "function", none, .func fn_items, ⟨[]⟩⟩ := by kernel_rfl
theorem ok_items : FnB fn_items ["self"] [] (mdAt 68 11).body where
 glob := rfl
 blt := rfl
 clo := rfl
 body := rfl
 co := by kernel_rfl
 gen := by kernel_rfl
 kind := by kernel_rfl
 nod := by decide +kernel
 cxn := by decide +kernel
 par := by decide +kernel
 nofree := by decide +kernel
noncomputable def ms_items : List MS := [.ret (.ext (pAll 0))]
theorem walk_items {T : Tabs} {C : CT} {k : Nat} {w : World} {hO : Heap} {mb : Str -> Option Value} (d : Dat T C k w hO mb) {f : Fx} (I : InFn f w hO fn_items ["self"] []) : VS T C k f (mdAt 68 11).body ms_items :=
 have c := I.toCX
 s_cons I.ok (s_ret (e_all d c (by kernel_rfl))) s_nil
section
variable {T : Tabs} {C : CT} {k : Nat} {w : World} {hO : Heap} {mb : Str -> Option Value}
theorem items_go (d : Dat T C k w hO mb) {A : Around} {M ads : List Addr} {μ : List MV} {s : Shared} (ok : AOk 1 A) (m : MuAt hO M ads μ s.heap) {v : Value} {ds : List PV} (r : Rep (vis s.heap M) ads v (.ftab ds)) (hn : noPtrs ds = true) (hsz : ds.length <= sizeLine)
  {Q : Value -> Shared -> Prop} {E : Value -> Shared -> Prop} (q : ∀ v' h' tk, Keep s.heap h' -> Rep (vis h' M) ads v' (.list ds) -> Q v' { s with heap := h', toks := tk }) : wpAny (model pw w) A (call (.ref 231) [v]) Q E s := by
 refine call_raw (T := T) (C := noC) (k := 0) (ds := [.ftab ds]) (vs := [v]) (d.kin _ _ lk_items) rfl ok_items d.lim (code_at d.kin o230x8 (by kernel_rfl) rfl rfl) (fun f I => (walk_items (d.zero 0) I).go)
  (Looks.of_pure (by kernel_rfl)) rfl ok m.none (.cons _ _ _ _ (Rep.noPtr (ads' := []) r hn) .nil) (K := fun fl μ' => fl = .ret (.list ds)) ⟨ds, rfl, hsz, rfl⟩ ?_
 rintro fl fl' μ' M' ads' h' tk rfl kk m' hM _ _ fr
 cases fl <;> try (exact fr.elim)
 exact q _ h' tk (fun b o e => kk b o (fun h => by cases h) e) ((Rep.noPtr (ads' := ads) fr hn).keep (vis_less hM))
variable {f : Fx} {S : Scope} {cx : List (Str × Nat)} {n : Nat}
noncomputable def pItems (i : Nat) : P0 := fun ρ μ K => pVar i ρ fun dt => ∃ ds, dt = .ftab ds /\ noPtrs ds = true /\ ds.length <= sizeLine /\ K (.list ds)
theorem e_items (d : Dat T C (k + 1) w hO mb) (c : CX w hO f S cx n) {x : Str} {i : Nat} {p p2 p3 : Pos} (h : varB S cx x i = true) (hline : autoParam ((p2.endLine == p3.line) = true) A1._auto_1) : VE T C (k + 1) f (.Call (.Attribute (.Name x p) "items" p2) [] [] p3) (.ext (pItems i)) := ⟨fun M ads ρ μ s K st ok e Q E q => by
 obtain ⟨dt, hd, ds, rfl, hn, hsz, hK⟩ := pVar_inv e
 refine meth_callF (fun _ => rfl) rfl (by decide) rfl hline (var_go c h st hd fun v r => ?_)
 have r' := r
 cases r with
 | ftab a l vs ds hx hl rl =>
 have X := kin_at d c.hO st
 refine ⟨.ref 231, [.ref a], fun pl P hP => ?_, ?_⟩
 ·rw [c.w]
  exact methTab X hx (by kernel_rfl) (by kernel_rfl) (fun _ _ _ => by kernel_rfl) hP
 refine callWith_K0 (K := Mine.K w.params) X (by kernel_rfl) ?_
 rw [c.w]
 exact items_go d (ok.le (Nat.le_add_left ..)) (c.hO ▸ st.mu) r' hn hsz fun v' h' tk kk hr => q v' _ h' tk hK kk hr⟩
theorem i_items (d : Dat T C (k + 1) w hO mb) (c : CX w hO f S cx n) {x : Str} {i : Nat} {p p2 p3 : Pos} {tgt : Expr} (ht : TgtShape tgt) (h : varB S cx x i = true) (hline : autoParam ((p2.endLine == p3.line) = true) A1._auto_1) : VI T C (k + 1) f (.Call (.Attribute (.Name x p) "items" p2) [] [] p3) (.ext (pItems i)) tgt := ⟨fun M ads ρ μ s ro K st ok e Q E q => by
 obtain ⟨dt, hd, ds, rfl, hn, hsz, hK⟩ := pVar_inv e
 refine (e_items d c h hline).go M ads ρ μ s (fun dl => dl = .list ds) st ok (by show pVar i ρ _; unfold pVar; rw [hd]; exact ⟨ds, rfl, hn, hsz, rfl⟩) _ _ fun v dl h' tk hk kk r => ?_
 subst hk
 obtain ⟨a, vs, rfl, hs, rs⟩ := r.listI
 exact iter_list (s := { s with heap := h', toks := tk }) ok.handled ht (st.keep kk) hs.list (.inr (let ⟨o, e, _⟩ := hs; ⟨o, e⟩)) rs ((q ds ro hK (Nat.le_refl _)).back kk)⟩
end
noncomputable def Post {α : Type} (n : Nat) (lt : Nat -> Nat -> Bool) : KasT α -> (α -> Prop) -> Prop
 | .ret a, Q => Q a
 | .ask i j k, Q => i < n /\ j < n /\ Post n lt (k (lt i j)) Q
theorem Post.bind {α β : Type} {n : Nat} {lt : Nat -> Nat -> Bool} {f : α -> KasT β} {Q : β -> Prop} : ∀ {t : KasT α}, Post n lt t (fun a => Post n lt (f a) Q) -> Post n lt (t.bind f) Q
 | .ret _, h => h
 | .ask i j k, h => ⟨h.1, h.2.1, Post.bind h.2.2⟩
theorem Post.mono {α : Type} {n : Nat} {lt : Nat -> Nat -> Bool} {Q Q' : α -> Prop} (h : ∀ a, Q a -> Q' a) : ∀ {t : KasT α}, Post n lt t Q -> Post n lt t Q'
 | .ret a, x => h a x
 | .ask i j k, x => ⟨x.1, x.2.1, Post.mono h x.2.2⟩
structure GoodP (n : Nat) (p : Array Nat) : Prop where
 size : p.size = n
 perm : p.toList.Perm (List.range n)
noncomputable abbrev gt (p : Array Nat) (k : Nat) : Nat := p.getD k 0
theorem gt_eq (p : Array Nat) (k : Nat) : gt p k = (p[k]?).getD 0 := by
 by_cases h : k < p.size
 ·simp [gt, Array.getD, h]
 ·simp [gt, Array.getD, h]
theorem GoodP.lt {n : Nat} {p : Array Nat} (g : GoodP n p) {k : Nat} (h : k < n) : gt p k < n := by
 have hk : k < p.size := by rw [g.size]; exact h
 have : gt p k ∈ p.toList := by
  rw [gt_eq, Array.getElem?_eq_getElem hk]; simp
 exact List.mem_range.mp (g.perm.mem_iff.mp this)
theorem GoodP.inj {n : Nat} {p : Array Nat} (g : GoodP n p) {i j : Nat} (hi : i < n) (hj : j < n) (e : gt p i = gt p j) : i = j := by
 have nd : p.toList.Nodup := g.perm.nodup_iff.mpr List.nodup_range
 have hi' : i < p.size := by rw [g.size]; exact hi
 have hj' : j < p.size := by rw [g.size]; exact hj
 rw [gt_eq, gt_eq, Array.getElem?_eq_getElem hi', Array.getElem?_eq_getElem hj'] at e
 exact (List.getElem?_inj (l := p.toList) (by simpa using hi') nd).mp (by
  simp only [Option.getD_some] at e
  rw [Array.getElem?_toList, Array.getElem?_toList, Array.getElem?_eq_getElem hi', Array.getElem?_eq_getElem hj', e])
section
variable {n : Nat} {key : Nat -> Int} {p : Array Nat}
noncomputable def Up (key : Nat -> Int) (p : Array Nat) (k : Nat) : Prop := ∀ i j, i < j -> j < k -> key (gt p i) < key (gt p j)
noncomputable def Down (key : Nat -> Int) (p : Array Nat) (k : Nat) : Prop := ∀ i j, i < j -> j < k -> key (gt p j) < key (gt p i)
noncomputable abbrev ltK (key : Nat -> Int) (i j : Nat) : Bool := decide (key i < key j)
noncomputable def Inj (n : Nat) (key : Nat -> Int) : Prop := ∀ i j, i < n -> j < n -> key i = key j -> i = j
theorem up_one : Up key p 1 := fun i j h1 h2 => by lia
theorem Up.succ {k : Nat} (hk : 1 <= k) (u : Up key p k) (h : key (gt p (k - 1)) < key (gt p k)) : Up key p (k + 1) := fun i j h1 h2 => by
 by_cases hj : j < k
 ·exact u i j h1 hj
 ·obtain rfl : j = k := by lia
  by_cases hi : i = j - 1
  ·subst hi; exact h
  ·exact Int.lt_trans (u i (j - 1) (by lia) (by lia)) h
theorem Down.succ {k : Nat} (hk : 1 <= k) (u : Down key p k) (h : key (gt p k) < key (gt p (k - 1))) : Down key p (k + 1) := fun i j h1 h2 => by
 by_cases hj : j < k
 ·exact u i j h1 hj
 ·obtain rfl : j = k := by lia
  by_cases hi : i = j - 1
  ·subst hi; exact h
  ·exact Int.lt_trans h (u i (j - 1) (by lia) (by lia))
theorem GoodP.not_lt (g : GoodP n p) (hi : Inj n key) {a b : Nat} (ha : a < n) (hb : b < n) (hab : a ≠ b) (h : ¬ key (gt p a) < key (gt p b)) : key (gt p b) < key (gt p a) := by
 have : key (gt p a) ≠ key (gt p b) := fun e => hab (g.inj ha hb (hi _ _ (g.lt ha) (g.lt hb) e))
 lia
theorem asc_post (g : GoodP n p) (hi : Inj n key) : ∀ (f k : Nat), 1 <= k -> k + f <= n -> Up key p k -> Post n (ltK key) (kas_asc p f k) fun m => k <= m /\ m <= k + f /\ Up key p m /\ (m < k + f -> key (gt p m) < key (gt p (m - 1)))
 | 0, k, h1, h2, u => ⟨Nat.le_refl _, by exact Nat.le_refl _, u, fun h => by lia⟩
 | f + 1, k, h1, h2, u => by
  refine ⟨g.lt (by lia), g.lt (by lia), ?_⟩
  by_cases h : key (gt p k) < key (gt p (k - 1))
  ·show Post n _ (if ltK key (gt p k) (gt p (k - 1)) = true then _ else _) _
   rw [if_pos (by simpa using h)]
   exact ⟨Nat.le_refl _, by exact Nat.le_add_right _ _, u, fun _ => h⟩
  ·show Post n _ (if ltK key (gt p k) (gt p (k - 1)) = true then _ else _) _
   rw [if_neg (by simpa using h)]
   refine Post.mono (fun m hm => ?_) (asc_post g hi f (k + 1) (by exact Nat.succ_pos _) (by lia) (u.succ h1 (g.not_lt hi (by lia) (by lia) (by lia) h)))
   exact ⟨by lia, by lia, hm.2.2.1, fun h => hm.2.2.2 (by lia)⟩
theorem desc_post (g : GoodP n p) (hi : Inj n key) : ∀ (f k : Nat), 1 <= k -> k + f <= n -> Down key p k -> Post n (ltK key) (kas_desc f p k 0) fun r => r.1 = p /\ r.2.2 = 0 /\ k <= r.2.1 /\ r.2.1 <= k + f /\ Down key p r.2.1
 | 0, k, h1, h2, u => ⟨rfl, rfl, Nat.le_refl _, by simp, u⟩
 | f + 1, k, h1, h2, u => by
  refine ⟨g.lt (by lia), g.lt (by lia), ?_⟩
  by_cases h : key (gt p k) < key (gt p (k - 1))
  ·show Post n _ (if ltK key (gt p k) (gt p (k - 1)) = true then (if 0 > 0 then _ else _) else _) _
   rw [if_pos (by simpa using h), if_neg (by decide)]
   refine Post.mono (fun m hm => ?_) (desc_post g hi f (k + 1) (by exact Nat.succ_pos _) (by lia) (u.succ h1 h))
   exact ⟨hm.1, hm.2.1, by lia, by lia, hm.2.2.2.2⟩
  ·show Post n _ (if ltK key (gt p k) (gt p (k - 1)) = true then _ else _) _
   rw [if_neg (by simpa using h)]
   refine ⟨g.lt (by lia), g.lt (by lia), ?_⟩
   have h' := g.not_lt hi (a := k) (b := k - 1) (by lia) (by lia) (by lia) h
   show Post n _ (if ltK key (gt p (k - 1)) (gt p k) = true then _ else _) _
   rw [if_pos (by simpa using h')]
   exact ⟨rfl, rfl, Nat.le_refl _, (by show k <= k + (f + 1); exact Nat.le_add_right _ _), u⟩
theorem GoodP.rev (g : GoodP n p) (i j : Nat) : GoodP n (kas_rev p i j) := ⟨(mirror_size _ _ _ _).trans g.size, ((mirror_perm p i j _).toList).trans g.perm⟩
theorem GoodP.bub (g : GoodP n p) (i j : Nat) : GoodP n (bubble p i j) := ⟨(bubble_size _ _ _).trans g.size, ((bubble_perm p i j).toList).trans g.perm⟩
theorem rev_up (g : GoodP n p) {m : Nat} (hm : m <= n) (d : Down key p m) : Up key (kas_rev p 0 m) m := fun i j h1 h2 => by
 have e : ∀ k, k < m -> gt (kas_rev p 0 m) k = gt p (m - 1 - k) := fun k hk => by
  rw [gt_eq, gt_eq]
  unfold kas_rev
  rw [getElem?_mirror_all (by rw [g.size]; exact hm), if_pos ⟨Nat.zero_le _, hk⟩, Nat.zero_add]
 rw [e i (by lia), e j h2]
 exact d _ _ (by lia) (by lia)
theorem count_post (g : GoodP n p) (hi : Inj n key) (h2 : 2 <= n) : Post n (ltK key) (kas_count n p) fun r => 1 <= r.1 /\ r.1 <= n /\ GoodP n r.2 /\ Up key r.2 r.1 := by
 unfold kas_count
 refine Post.bind (Post.mono (fun m hm => ?_) (asc_post g hi (n - 1) 1 (Nat.le_refl _) (by lia) up_one))
 obtain ⟨m1, m2, m3, m4⟩ := hm
 by_cases hmn : m = n
 ·subst hmn
  rw [if_pos (by simp)]
  exact ⟨m1, Nat.le_refl _, g, m3⟩
 ·rw [if_neg (by simpa using hmn)]
  by_cases hm1 : m > 1
  ·rw [if_pos hm1]
   refine ⟨g.lt (by exact Nat.le_of_lt ‹_›), g.lt (by grind), ?_⟩
   show Post n _ (if ltK key (gt p 0) (gt p (m - 1)) = true then _ else _) _
   rw [if_pos (by simpa using m3 0 (m - 1) (by lia) (by lia))]
   exact ⟨m1, by grind, g, m3⟩
  ·rw [if_neg hm1]
   obtain rfl : m = 1 := by lia
   have hd : Down key p 2 := fun i j h1 h3 => by
    obtain rfl : i = 0 := by lia
    obtain rfl : j = 1 := by lia
    exact m4 (by lia)
   refine Post.bind (Post.mono (fun r hr => ?_) (desc_post g hi (n - (1 + 1)) (1 + 1) (by exact Nat.le_succ _) (by lia) hd))
   obtain ⟨r1, r2, r3, r4, r5⟩ := hr
   rw [r2, if_neg (by decide)]
   rw [r1]
   refine Post.bind (Post.mono (fun m hm => ?_) (asc_post (g.rev 0 r.2.1) hi (n - r.2.1) r.2.1 (by exact Nat.le_of_lt ‹_›) (by grind) (rev_up g (by grind) r5)))
   exact ⟨by lia, by grind, g.rev _ _, hm.2.2.1⟩
theorem place_post (g : GoodP n p) (hi : Inj n key) {k : Nat} (hk : k < n) : ∀ (f l r : Nat), r - l <= f -> l <= r -> r <= k -> (∀ i, i < l -> key (gt p i) < key (gt p k)) -> (∀ i, r <= i -> i < k -> key (gt p k) < key (gt p i)) -> Up key p k ->
  Post n (ltK key) (kas_place p k f l r) fun l' => l' <= k /\ (∀ i, i < l' -> key (gt p i) < key (gt p k)) /\ ∀ i, l' <= i -> i < k -> key (gt p k) < key (gt p i)
 | 0, l, r, h1, h2, h3, a, b, u => by
  obtain rfl : l = r := by grind
  exact ⟨h3, a, b⟩
 | f + 1, l, r, h1, h2, h3, a, b, u => by
  unfold kas_place
  by_cases hlr : l ≥ r
  ·rw [if_pos hlr]
   obtain rfl : l = r := by lia
   exact ⟨h3, a, b⟩
  ·rw [if_neg hlr]
   have hm : (l + r) / 2 < r := by lia
   have hm' : l <= (l + r) / 2 := by lia
   generalize (l + r) / 2 = m at hm hm'
   refine ⟨g.lt hk, g.lt (by lia), ?_⟩
   by_cases h : key (gt p k) < key (gt p m)
   ·show Post n _ (if ltK key (gt p k) (gt p m) = true then _ else _) _
    rw [if_pos (by simpa using h)]
    refine place_post g hi hk f l m (by grind) hm' (by lia) a (fun i h4 h5 => ?_) u
    by_cases him : i = m
    ·subst him; exact h
    ·exact Int.lt_trans h (u m i (by lia) h5)
   ·show Post n _ (if ltK key (gt p k) (gt p m) = true then _ else _) _
    rw [if_neg (by simpa using h)]
    have h' := g.not_lt hi hk (b := m) (by lia) (by lia) h
    refine place_post g hi hk f (m + 1) r (by grind) (by trivial) h3 (fun i h4 => ?_) b u
    by_cases him : i = m
    ·subst him; exact h'
    ·exact Int.lt_trans (u i m (by lia) (by exact Nat.le_trans ‹_› ‹_›)) h'
theorem bub_up (g : GoodP n p) {k l : Nat} (hk : k < n) (hl : l <= k) (a : ∀ i, i < l -> key (gt p i) < key (gt p k)) (b : ∀ i, l <= i -> i < k -> key (gt p k) < key (gt p i)) (u : Up key p k) : Up key (bubble p k (k - l)) (k + 1) := fun i j h1 h2 => by
 have e : ∀ m, gt (bubble p k (k - l)) m = if m = l then gt p k else if l < m /\ m <= k then gt p (m - 1) else gt p m := fun m => by
  rw [gt_eq, getElem?_bubble (by rw [g.size]; exact hk) _ (Nat.sub_le _ _), show k - (k - l) = l by lia]
  split
  ·rw [<- gt_eq]
  ·split <;> rw [<- gt_eq]
 rw [e i, e j]
 by_cases hi : i = l
 ·subst hi
  rw [if_pos rfl, if_neg (by exact Nat.ne_of_gt ‹_›), if_pos ⟨by lia, by exact Nat.le_of_lt_succ ‹_›⟩]
  exact b _ (by lia) (by lia)
 ·rw [if_neg hi]
  by_cases hj : j = l
  ·subst hj
   rw [if_pos rfl, if_neg (by lia)]
   exact a _ h1
  ·rw [if_neg hj]
   by_cases hi2 : l < i /\ i <= k
   ·rw [if_pos hi2, if_pos ⟨by lia, by exact Nat.le_of_lt_succ ‹_›⟩]
    exact u _ _ (by lia) (by lia)
   ·rw [if_neg hi2]
    by_cases hj2 : l < j /\ j <= k
    ·rw [if_pos hj2]
     exact u _ _ (by lia) (by lia)
    ·rw [if_neg hj2]
     exact u _ _ h1 (by lia)
theorem bin_post (hi : Inj n key) : ∀ (f : Nat) (p : Array Nat) (k : Nat), GoodP n p -> k + f = n -> Up key p k -> Post n (ltK key) (kas_bin f p k) fun p' => GoodP n p' /\ Up key p' n
 | 0, p, k, g, h, u => by
  obtain rfl : k = n := by lia
  exact ⟨g, u⟩
 | f + 1, p, k, g, h, u => by
  refine Post.bind (Post.mono (fun l hl => ?_) (place_post g hi (by lia) k 0 k (by exact Nat.le_refl _) (by exact Nat.zero_le _) (Nat.le_refl _) (fun i h => by exact absurd ‹_› (Nat.not_lt_zero _)) (fun i h1 h2 => by grind) u))
  exact bin_post hi f _ (k + 1) (g.bub _ _) (by grind) (bub_up g (by lia) hl.1 hl.2.1 hl.2.2 u)
theorem sort_post (hi : Inj n key) (h2 : 2 <= n) : Post n (ltK key) (kas_sort n) fun p' => GoodP n p' /\ Up key p' n := by
 unfold kas_sort
 have g0 : GoodP n (List.toArray (List.range n)) := ⟨by simp, by simp⟩
 refine Post.bind (Post.mono (fun r hr => ?_) (count_post g0 hi h2))
 obtain ⟨r1, r2, r3, r4⟩ := hr
 have hm : max r.1 1 = r.1 := by lia
 by_cases h : r.1 < n
 ·rw [if_pos h, hm]
  exact bin_post hi _ _ _ r3 (by grind) r4
 ·rw [if_neg h]
  have : r.1 = n := by lia
  rw [this] at r4
  exact ⟨r3, r4⟩
end
noncomputable def PairAt (h : Heap) (v : Value) (k : Int) : Prop := ∃ a o t s u n, v = .ref a /\ h.get? a = some o /\ o.cls = .type "tuple" /\ o.data = .seq #[.int k t, .str s u] n
theorem PairAt.keep {h h' : Heap} (kp : ∀ b o, h.get? b = some o -> h'.get? b = some o) {v : Value} {k : Int} : PairAt h v k -> PairAt h' v k
 | ⟨a, o, t, s, u, n, e1, e2, e3, e4⟩ => ⟨a, o, t, s, u, n, e1, kp _ _ e2, e3, e4⟩
section
variable {prog : Program} {w : World} {A : Around} {E : Value -> Shared -> Prop} {s : Shared}
theorem pairs_tups {h : Heap} {key : Value -> Int} : ∀ {vs : List Value}, (∀ v ∈ vs, PairAt h v (key v)) -> ∃ fs, KatTups h vs fs /\ fs.length = vs.length /\ ∀ v ∈ fs, ∃ k t, v = .int k t
 | [], _ => ⟨[], .nil, rfl, by simp⟩
 | v :: vs, p => by
  obtain ⟨fs, f1, f2, f3⟩ := pairs_tups (vs := vs) fun v hv => p v (.tail _ hv)
  obtain ⟨a, o, t, s, u, n, rfl, e2, e3, e4⟩ := p v (.head _)
  exact ⟨.int _ t :: fs, .cons e2 e3 e4 rfl f1, by simp [f2], fun v hv => (List.mem_cons.mp hv).elim (fun e => ⟨_, _, e⟩) (f3 v)⟩
theorem pairs_kind {vs : List Value} {key : Value -> Int} {Q : SortKind -> Shared -> Prop} (p : ∀ v ∈ vs, PairAt s.heap v (key v)) (h0 : 0 < vs.length) (q : Q (tuples' true) s) : wpAny (model prog w) A (keyKind' vs.toArray) Q E s := by
 obtain ⟨fs, f1, f2, f3⟩ := pairs_tups p
 refine kat_kind (T := .type "int") f1 (by lia) (fun v hv => ?_) (by rfl) (by exact q)
 obtain ⟨k, t, rfl⟩ := f3 v hv
 exact (Looks.now : Looks (model prog w) s.heap (pure (Value.type "int")) (.type "int"))
theorem pairs_lt {x y : Value} {a b : Int} (px : PairAt s.heap x a) (py : PairAt s.heap y b) (hxy : a = b -> x = y) {Q : Bool -> Shared -> Prop} (q : Q (decide (a < b)) s) : wpAny (model prog w) A (keyLt' (tuples' true) x y) Q E s := by
 by_cases e : a = b
 ·obtain rfl := hxy e
  subst e
  obtain ⟨ax, ox, t, sx, u, n, rfl, e2, e3, e4⟩ := px
  refine kat_lt e2 e4 e2 e4 (kat_cons (wpAny_eqBool_int ?_))
  rw [beq_self_eq_true]
  refine kat_yes (kat_cons (eqBool_str ?_))
  rw [beq_self_eq_true]
  refine kat_yes (kat_nil ?_)
  rw [show decide (a < a) = false by simp] at q
  exact q
 ·obtain ⟨ax, ox, t, sx, u, n, rfl, e2, e3, e4⟩ := px
  obtain ⟨ay, oy, t', sy, u', n', rfl, f2, f3, f4⟩ := py
  refine kat_lt e2 e4 f2 f4 (kat_cons (wpAny_eqBool_int ?_))
  rw [show (a == b) = false by simpa using e]
  exact kat_no (oneLt_int q)
theorem post_wp {vs : List Value} {key : Value -> Int} (p : ∀ v ∈ vs, PairAt s.heap v (key v)) (hxy : ∀ i j, i < vs.length -> j < vs.length -> key (vs.getD i .none) = key (vs.getD j .none) -> i = j) {α : Type} : ∀ {t : KasT α} {Q : α -> Prop} {G : α -> Shared -> Prop}, Post vs.length (ltK fun i => key (vs.getD i .none)) t Q -> (∀ a, Q a -> G a s) -> t.kasWp (kas_ask prog w A (tuples' true) vs) G s
 | .ret a, Q, G, h, q => q a h
 | .ask i j k, Q, G, h, q => by
  have at' : ∀ i, i < vs.length -> PairAt s.heap (vs.getD i .none) (key (vs.getD i .none)) := fun i hi => by
   have : vs.getD i Value.none = vs[i] := by simp [hi]
   rw [this]
   exact p _ (List.getElem_mem hi)
  refine pairs_lt (at' i h.1) (at' j h.2.1) (fun e => by rw [hxy i j h.1 h.2.1 e]) ?_
  exact post_wp p hxy h.2.2 q
end
section
variable {prog : Program} {w : World} {A : Around} {E : Value -> Shared -> Prop} {s : Shared}
noncomputable def OutP (vs : List Value) (key : Value -> Int) (out : Array Value) : Prop := ∃ p : Array Nat, GoodP vs.length p /\ Up (fun i => key (vs.getD i .none)) p vs.length /\ out = List.toArray (p.toList.map fun i => vs.getD i Value.none)
theorem self_out (vs : List Value) (key : Value -> Int) (h : vs.length < 2) : OutP vs key vs.toArray := by
 refine ⟨(List.range vs.length).toArray, ⟨by simp, by simp⟩, fun i j h1 h2 => by lia, ?_⟩
 congr 1
 apply List.ext_getElem
 ·simp
 ·intro i h1 h2
  simp [h1]
theorem list_sort_pairs {a : Addr} {vs : List Value} {n : Nat} {key : Value -> Int} {P : PySem.Fin -> Shared -> Prop} (ho : s.heap.get? a = some (seqObj "list" vs.toArray n)) (h64 : vs.length < 64)
  (hp : ∀ v ∈ vs, PairAt s.heap v (key v)) (hna : ∀ v ∈ vs, v ≠ .ref a) (hxy : ∀ i j, i < vs.length -> j < vs.length -> key (vs.getD i .none) = key (vs.getD j .none) -> i = j)
  (h : ∀ out, OutP vs key out -> P (.done (.ret .none)) { s with heap := sortedHeap s.heap a vs out }) :
  wpAny (model prog w) A (Builtin.«list.sort» ⟨[.ref a], []⟩) P E s := by
 rw [list_sort_plain]
 have ha : a < s.heap.objs.size := Heap.lt_size ho
 refine wpAny_bind (listItems_at ho rfl ?_)
 refine wpAny_bind (listUpdate_at ho rfl ?_)
 obtain ⟨e1, ho1⟩ : ∃ e1, (s.heap.update a (Obj.mapSeq fun _ => #[])).get? a = some (seqObj "list" #[] e1) := ⟨_, get?_update_seq ho (fun _ => #[])⟩
 refine wpAny_bind (seqEpoch_at ho1 rfl ?_)
 refine wpAny_bind (wpAny_newTuple ?_)
 refine wpAny_bind (wpAny_newList ?_)
 refine wpAny_holding ?_
 have ho6 : (((s.heap.update a (Obj.mapSeq fun _ => #[])).push (seqObj "tuple" vs.toArray 0)).push (seqObj "list" #[] 0)).get? a = some (seqObj "list" #[] e1) := by
  rw [Heap.get?_push_ne _ _ _ (by rw [size_push', Heap.size_update]; exact Nat.ne_of_lt (Nat.lt_succ_of_lt ha)), Heap.get?_push_ne _ _ _ (by rw [Heap.size_update]; exact Nat.ne_of_lt ha)]
  exact ho1
 have hp6 : ∀ v ∈ vs, PairAt (((s.heap.update a (Obj.mapSeq fun _ => #[])).push (seqObj "tuple" vs.toArray 0)).push (seqObj "list" #[] 0)) v (key v) := fun v hv => by
  obtain ⟨b, o, t, sx, u, n, e1, e2, e3, e4⟩ := hp v hv
  have hb := Heap.lt_size e2
  have hne : b ≠ a := fun e => hna v hv (by rw [e1, e])
  refine ⟨b, o, t, sx, u, n, e1, ?_, e3, e4⟩
  rw [Heap.get?_push_ne _ _ _ (by rw [size_push', Heap.size_update]; exact Nat.ne_of_lt (Nat.lt_succ_of_lt hb)), Heap.get?_push_ne _ _ _ (by rw [Heap.size_update]; exact Nat.ne_of_lt hb), Heap.get?_update_ne _ _ _ _ hne]
  exact e2
 dsimp only
 have hsz : vs.toArray.size = vs.length := by simp
 by_cases h2 : vs.toArray.size < 2
 ·rw [if_pos h2, if_pos h2]
  refine wpAny_bind (wpAny_pure ?_)
  refine wpAny_bind (wpAny_pure ?_)
  dsimp only
  refine wpAny_bind (seqEpoch_at ho6 rfl ?_)
  refine wpAny_bind (listUpdate_at ho6 rfl ?_ (hsz2 := by rw [Array.size_map]; show (pairsOf vs).size <= _; rw [pairsOf_size, sizeLine_eq]; lia))
  simp only [bne_self_eq_false, Bool.false_eq_true, if_false]
  refine wpAny_pure (h _ ?_)
  have : Array.map (·.2) (arrOf (SortSt.mk' general' (vs.toArray.zip vs.toArray) #[] 7 none)) = vs.toArray := by
   show Array.map (·.2) (vs.toArray.zip vs.toArray) = _
   apply Array.toList_inj.mp
   simp [List.map_snd_zip]
  rw [this]
  exact self_out _ _ (by lia)
 ·rw [if_neg h2, if_neg h2]
  refine wpAny_bind (pairs_kind (s := { s with heap := ((s.heap.update a (Obj.mapSeq fun _ => #[])).push (seqObj "tuple" vs.toArray 0)).push (seqObj "list" #[] 0) }) hp6 (by lia) ?_)
  refine wpAny_bind (wpAny_mono (kat_run (G := fun p s' => s' = { s with heap := ((s.heap.update a (Obj.mapSeq fun _ => #[])).push (seqObj "tuple" vs.toArray 0)).push (seqObj "list" #[] 0) } /\ GoodP vs.length p /\ Up (fun i => key (vs.getD i .none)) p vs.length) (Q := fun st' s' => s' = { s with heap := ((s.heap.update a (Obj.mapSeq fun _ => #[])).push (seqObj "tuple" vs.toArray 0)).push (seqObj "list" #[] 0) } /\ ∃ p : Array Nat, p.size = vs.length /\ arrOf st' = p.map (kas_item (vs.toArray.zip vs.toArray)) /\ failedOf st' = none /\ GoodP vs.length p /\ Up (fun i => key (vs.getD i .none)) p vs.length)
   rfl (by lia) h64 (fun p' st' s' a1 a2 a3 a4 => ⟨a4.1, p', a1, a2, a3, a4.2⟩) (post_wp hp6 hxy (sort_post hxy (by lia)) fun p hp => ⟨rfl, hp⟩)) ?_ fun _ _ e => e)
  rintro ⟨⟨⟩, st'⟩ s' ⟨rfl, p, hps, har, hf, gp, up⟩
  dsimp only
  refine wpAny_bind (seqEpoch_at ho6 rfl ?_)
  have hout := kat_snds rfl har
  refine wpAny_bind (listUpdate_at ho6 rfl ?_ (hsz2 := by rw [hout, List.size_toArray, List.length_map, Array.length_toList, hps, sizeLine_eq]; lia))
  rw [hf]
  simp only [bne_self_eq_false, Bool.false_eq_true, if_false]
  exact wpAny_pure (h _ ⟨p, gp, up, hout⟩)
theorem sorted_pairs {l : Addr} {vs : List Value} {key : Value -> Int} {Q : Value -> Shared -> Prop} (hl : s.heap.IsList l vs.toArray) (h64 : vs.length < 64)
  (hp : ∀ v ∈ vs, PairAt s.heap v (key v)) (hxy : ∀ i j, i < vs.length -> j < vs.length -> key (vs.getD i .none) = key (vs.getD j .none) -> i = j)
  (h : ∀ out, OutP vs key out -> Q (.ref (s.heap.objs.size + 1)) { s with heap := sortedAll s.heap vs out }) :
  wpAny (model prog w) A (call (.builtin "sorted") [.ref l]) Q E s := by
 refine Calls.call_function_entry kind_sorted plain_sorted entry_sorted (args_sorted1 _) ?_
 refine wpAny_bind (m := checkCount "sorted" 1 1 _) (wpAny_pure ?_)
 refine wpAny_bind (collect_list hl ?_)
 refine wpAny_bind (wpAny_newList ?_)
 have hsz : ((s.heap.push (seqObj "list" #[] 0)).update s.heap.objs.size (Obj.mapSeq (· ++ vs.toArray))).objs.size = s.heap.objs.size + 1 := by
  rw [Heap.size_update, size_push']
 have hoL : (((s.heap.push (seqObj "list" #[] 0)).update s.heap.objs.size (Obj.mapSeq (· ++ vs.toArray))).push (seqObj "list" vs.toArray 0)).get? (s.heap.objs.size + 1) = some (seqObj "list" vs.toArray 0) := by
  rw [<- hsz]; exact Heap.get?_push_size _ rfl
 have keep : ∀ b o, s.heap.get? b = some o -> (((s.heap.push (seqObj "list" #[] 0)).update s.heap.objs.size (Obj.mapSeq (· ++ vs.toArray))).push (seqObj "list" vs.toArray 0)).get? b = some o := fun b o q => by
  have hlt : b < s.heap.objs.size := Heap.lt_size q
  rw [Heap.get?_push_ne _ _ _ (by rw [hsz]; exact Nat.ne_of_lt (Nat.lt_succ_of_lt hlt)), Heap.get?_update_ne _ _ _ _ (Nat.ne_of_lt hlt), Heap.get?_push_ne _ _ _ (Nat.ne_of_lt hlt)]
  exact q
 rw [hsz]
 refine wpAny_bind (wpAny_holding (wpAny_call_entry slot_list_sort ⟨_, hoL, rfl⟩ entry_list_sort (list_sort_pairs (s := { s with heap := ((s.heap.push (seqObj "list" #[] 0)).update s.heap.objs.size (Obj.mapSeq (· ++ vs.toArray))).push (seqObj "list" vs.toArray 0) }) hoL h64 (fun v hv => (hp v hv).keep keep) (fun v hv e => ?_) hxy fun out a1 => ⟨_, rfl, ?_⟩) (args_list_sort _)))
 ·obtain ⟨b, o, t, sx, u, n, e1, e2, e3, e4⟩ := hp v hv
  have hb := Heap.lt_size e2
  rw [e] at e1
  have := Value.ref.inj e1
  have hb' : b < s.heap.objs.size := hb
  exact absurd hb' (by rw [<- this]; exact Nat.not_lt.mpr (Nat.le_succ _))
 ·exact wpAny_pure ⟨_, rfl, h out a1⟩
end
noncomputable abbrev PR := Int × List Nat
noncomputable def prPV (p : PR) : PV := .tup [.int p.1, .str p.2]
noncomputable def dfl : PR := (0, [])
noncomputable def keyAt (h : Heap) (v : Value) : Int := Classical.epsilon (PairAt h v)
theorem PairAt.uniq {h : Heap} {v : Value} {k k' : Int} (x : PairAt h v k) (y : PairAt h v k') : k = k' := by
 obtain ⟨a, o, t, s, u, n, e1, e2, e3, e4⟩ := x
 obtain ⟨a', o', t', s', u', n', f1, f2, f3, f4⟩ := y
 rw [e1] at f1
 obtain rfl := Value.ref.inj f1
 rw [e2] at f2
 obtain rfl := Option.some.inj f2
 rw [e4] at f4
 have e : (#[Value.int k t, .str s u] : Array Value) = #[.int k' t', .str s' u'] := (Data.seq.inj f4).1
 exact (Value.int.inj (Option.some.inj (congrArg (fun a => a[0]?) e))).1
theorem PairAt.key {h : Heap} {v : Value} {k : Int} (x : PairAt h v k) : keyAt h v = k := (Classical.epsilon_spec (p := PairAt h v) ⟨k, x⟩).uniq x
theorem PairAt.self {h : Heap} {v : Value} {k : Int} (x : PairAt h v k) : PairAt h v (keyAt h v) := by rw [x.key]; exact x
theorem rep_pair {h : Heap} {M ads : List Addr} {v : Value} {p : PR} (r : Rep (vis h M) ads v (prPV p)) : PairAt h v p.1 := by
 obtain ⟨a, vs, rfl, e, r⟩ := r.tupI
 obtain ⟨x, y, e2, r1, r2⟩ := r.two
 obtain ⟨t, rfl⟩ := r1.intI
 obtain ⟨u, rfl⟩ := r2.strI
 obtain ⟨o, ho, hc, n, hd⟩ := e.tup
 have : vs = #[.int p.1 t, .str (strOf p.2) u] := by rw [<- Array.toList_inj, e2]
 exact ⟨a, o, t, _, u, n, rfl, ho, hc, by rw [hd, this]⟩
theorem sorted_ps {n : Nat} {ps : List PR} (hn : ps.length = n) {p : Array Nat} (g : GoodP n p) : (p.toList.map fun i => ps.getD i dfl).Perm ps := by
 have h1 := g.perm.map fun i => ps.getD i dfl
 have : ((List.range n).map fun i => ps.getD i dfl) = ps := by
  apply List.ext_getElem
  ·simp [hn]
  ·intro i h1 h2; simp [h2]
 rw [this] at h1
 exact h1
theorem up_pairs {n : Nat} {key : Nat -> Int} {ps : List PR} {p : Array Nat} (g : GoodP n p) (hk : ∀ i, i < n -> key i = (ps.getD i dfl).1) (u : Up key p n) : (p.toList.map fun i => ps.getD i dfl).Pairwise fun a b => a.1 < b.1 := by
 rw [List.pairwise_iff_getElem]
 intro i j hi hj hij
 simp only [List.length_map, Array.length_toList] at hi hj
 have hs := g.size
 have e : ∀ i (h : i < p.size), p.toList[i]'(by simpa using h) = gt p i := fun i h => by simp [Array.getElem?_eq_getElem h]
 simp only [List.getElem_map]
 rw [e i hi, e j hj, <- hk _ (g.lt (by lia)), <- hk _ (g.lt (by lia))]
 exact u i j hij (by lia)
section
variable {w : World} {A : Around} {M ads : List Addr} {s : Shared} {K : PV -> Prop} {hO : Heap} {μ : List MV}
theorem sortedP_go (m : MuAt hO M ads μ s.heap) {v : Value} {ps : List PR} (r : RepV s.heap M ads v (.list (ps.map prPV))) (hd : (ps.map (·.1)).Nodup) (h64 : ps.length < 64)
  (e : ∀ ps' : List PR, ps'.Perm ps -> ps'.Pairwise (fun a b => a.1 < b.1) -> K (.list (ps'.map prPV))) : Go w A M ads (call (.builtin "sorted") [v]) s K := by
 obtain ⟨l, vs, rfl, hl, rl⟩ := r.list
 have hlen := rl.length
 simp only [List.length_map] at hlen
 have at' : ∀ i, i < ps.length -> PairAt s.heap (vs.toList.getD i .none) (ps.getD i dfl).1 /\ Rep (vis s.heap M) ads (vs.toList.getD i .none) (prPV (ps.getD i dfl)) := fun i hi => by
  obtain ⟨x, e1, e2⟩ := rl.get (i := i) (d := prPV (ps.getD i dfl)) (by simp [hi])
  have : vs.toList.getD i Value.none = x := by rw [List.getD_eq_getElem?_getD, e1]; rfl
  rw [this]
  exact ⟨rep_pair e2, e2⟩
 have hk : ∀ i, i < vs.toList.length -> keyAt s.heap (vs.toList.getD i .none) = (ps.getD i dfl).1 := fun i hi => (at' i (by lia)).1.key
 intro Q E q
 refine sorted_pairs (vs := vs.toList) (key := keyAt s.heap) (by simpa using hl) (by lia) (fun v hv => ?_) (fun i j hi hj he => ?_) fun out ho => ?_
 ·obtain ⟨i, hi, rfl⟩ := List.getElem_of_mem hv
  have := (at' i (by lia)).1.self
  rw [show vs.toList.getD i Value.none = vs.toList[i] by rw [List.getD_eq_getElem?_getD, List.getElem?_eq_getElem hi]; rfl] at this
  exact this
 ·rw [hk i hi, hk j hj] at he
  refine (List.getElem?_inj (l := ps.map (·.1)) (by simp; lia) hd).mp ?_
  have hi' : i < ps.length := by lia
  have hj' : j < ps.length := by lia
  simp only [List.getD_eq_getElem?_getD, List.getElem?_eq_getElem hi', List.getElem?_eq_getElem hj', Option.getD_some] at he
  simp [hi', hj', he]
 ·obtain ⟨p, gp, up, rfl⟩ := ho
  have gs : vs.toList.length = ps.length := hlen
  have eK := e _ (sorted_ps (gs ▸ rfl) gp) (up_pairs gp hk up)
  have all : ∀ i ∈ p.toList, i < ps.length := fun i hi => by have := List.mem_range.mp (gp.perm.mem_iff.mp hi); lia
  have R : Reps (vis s.heap M) ads (p.toList.map fun i => vs.toList.getD i Value.none) ((p.toList.map fun i => ps.getD i dfl).map prPV) := by
   clear q eK up gp
   revert all
   generalize p.toList = pl
   intro all
   induction pl with
   | nil => exact .nil
   | cons i r ih => exact .cons _ _ _ _ ((at' i (all i (.head _))).2) (ih fun j hj => all j (.tail _ hj))
  generalize (p.toList.map fun i => vs.toList.getD i Value.none) = os at R
  generalize ((p.toList.map fun i => ps.getD i dfl).map prPV) = ds at R eK
  obtain ⟨ep, he⟩ := sortedAll_at s.heap vs.toList (List.toArray os)
  have kp : Keep s.heap (sortedAll s.heap vs.toList (List.toArray os)) := fun b o hb => sortedAll_old hb
  generalize sortedAll s.heap vs.toList (List.toArray os) = h' at he kp
  have nm : s.heap.objs.size + 1 ∉ M := fun hm => by
   obtain ⟨o, ho⟩ := m.live _ hm
   exact absurd (Heap.lt_size ho) (Nat.not_lt.mpr (Nat.le_succ _))
  exact q _ (.list ds) h' s.toks eK kp (.list _ (List.toArray os) _ ⟨_, vis_of he nm, rfl, _, rfl⟩ (R.keep (vis_keepK kp)))
end
section
variable {T : Tabs} {C : CT} {k : Nat} {w : World} {hO : Heap} {mb : Str -> Option Value} {f : Fx} {S : Scope} {cx : List (Str × Nat)} {n : Nat}
noncomputable def pSortP (T : Tabs) (C : CT) (m : ME) : P0 := fun ρ μ K => EV T C ρ μ m fun d => ∃ ps : List PR, view μ d = .list (ps.map prPV) /\ (ps.map (·.1)).Nodup /\ ps.length < 64 /\ ∀ ps' : List PR, ps'.Perm ps -> ps'.Pairwise (fun a b => a.1 < b.1) -> K (.list (ps'.map prPV))
theorem e_sortP (d : Dat T C k w hO mb) (c : CX w hO f S cx n) {p pos : Pos} {e1 : Expr} {m1 : ME} (h : globB S "sorted" = true) (h1 : VE T C k f e1 m1) (hp : autoParam (noStar [e1] = true) A1._auto_1) : VE T C k f (.Call (.Name "sorted" p) [e1] [] pos) (.ext (pSortP T C m1)) :=
 let ⟨ha, hb⟩ := globB_inv c h; ⟨fun M ads ρ μ s K st ok e Q E q => by
 refine call_name (ld_glob (d.G c) d.g_sorted ha hb st (callWith_bt (.inl ⟨_, rfl⟩) hp (args1_go h1.go hp st ok e fun v d1 h1' tk1 e1 k1 rv => ?_)))
 have st1 := st.keep k1
 obtain ⟨ps, hv, hd, h64, hK⟩ := e1
 have rv' : RepV h1' M ads v (view μ d1) := rv.view st1.mu
 rw [hv] at rv'
 exact sortedP_go (s := { s with heap := h1', toks := tk1 }) st1.mu rv' hd h64 hK _ _ fun v d h3 tk3 e3 k3 r3 => q v d h3 tk3 e3 (k1.trans k3) r3⟩
end
section
variable {T : Tabs} {C : CT} {k : Nat} {w : World} {hO : Heap} {mb : Str -> Option Value}
noncomputable def ms_law_due (T : Tabs) (C : CT) : List MS := [(.asg (.name 2) (.list [(.lit (.str [111, 112, 116, 105, 109, 105, 122, 101, 100])), (.lit (.str [110, 101, 119, 108, 111, 99, 97, 108, 115])), (.lit (.str [118, 97, 114, 97, 114, 103, 115])), (.lit (.str [118, 97, 114, 107, 101, 121, 119, 111, 114, 100, 115])), (.lit (.str [110, 101, 115, 116, 101, 100])), (.lit (.str [103, 101, 110, 101, 114, 97, 116, 111, 114])), (.lit (.str [110, 111, 102, 114, 101, 101])), (.lit (.str [99, 111, 114, 111, 117, 116, 105, 110, 101])), (.lit (.str [105, 116, 101, 114, 97, 98, 108, 101, 95, 99, 111, 114, 111, 117, 116, 105, 110, 101])), (.lit (.str [97, 115, 121, 110, 99, 95, 103, 101, 110, 101, 114, 97, 116, 111, 114])), (.lit (.str [48, 120, 52, 48, 48])), (.lit (.str [48, 120, 56, 48, 48]))])), (.asg (.name 3) (.comp 1 (.call 288 [(.var 0), (.comp 1 (.sub (.lit (.str [102, 105, 108])) (.var 8)) (.rng (.lit (.int 0)) (.lit (.int 3))) (.name 8) [(.bin .BitAnd (.bin .RShift (.var 7) (.var 8)) (.lit (.int 1)))] [])]) (.rng (.lit (.int 0)) (.lit (.int 8))) (.name 7) [] [])), (.own 4 []), (.fr (.name 5) (.rng (.lit (.int 0)) (.lit (.int 8))) [(.ife (.cmp .Eq (.bin .Mod (.bi .len [(.comp 1 (.var 7) (.rng (.lit (.int 0)) (.lit (.int 8))) (.name 7) [(.bop true (.cmp .Eq (.bin .BitAnd (.var 7) (.var 5)) (.var 7)) (.sub (.var 3) (.var 7)))] [])]) (.lit (.int 2))) (.lit (.int 1))) [(.asg (.name 6) (.bi .sorted [(.comp 1 (.sub (.var 1) (.var 7)) (.rng (.lit (.int 0)) (.lit (.int 3))) (.name 7) [(.bin .BitAnd (.bin .RShift (.var 5) (.var 7)) (.lit (.int 1)))] [])])), (.app (.var 4) (.tup [(.bi .sum [(.comp 1 (.bin .Pow (.lit (.int 2)) (.var 7)) (.var 6) (.name 7) [] [])]), (.ite (.cmp .NotEq (.var 6) (.list [])) (.meth .join (.lit (.str [44, 32])) [(.comp 1 (.sub (.var 2) (.var 7)) (.var 6) (.name 7) [] [])]) (.lit (.str [48, 120, 48])))]))] [])] []), (.ret (.ext (pSortP T C (.var 4))))]
noncomputable def fn_law_due : FuncData := (Fn (fdAt 80) (Str.ofString "_law_due") (Str.ofString "_law_due") 3 .none .none .none (.str (Str.ofString "law_wf0114_01") 2799) none (.ref 331) .none 0)
theorem lk_law_due {P : Params} : (Mine.K P).lookup 332 = some ⟨.type "function", none, .func fn_law_due, ⟨[]⟩⟩ := by kernel_rfl
theorem ok_law_due : FnOk fn_law_due ["formula", "places"] ["words", "truths", "due", "chosen", "flags"] (fdAt 80).body where
 glob := rfl
 blt := rfl
 clo := rfl
 body := rfl
 bind := len2 fun _ _ => by kernel_rfl
 co := by kernel_rfl
 gen := by kernel_rfl
 kind := by kernel_rfl
 nod := by decide +kernel
 cxn := by decide +kernel
 par := by decide +kernel
 nofree := by decide +kernel
noncomputable def ms_law_table (T : Tabs) (C : CT) : List MS := [(.ext (pNewT 1)), (.fr (.tup [2, 3]) (.enum (.var 0)) [(.asg (.name 4) (.call 46 [(.var 3)])), (.ife (.cmp .Eq (.bin .Mod (.var 2) (.lit (.int 2))) (.lit (.int 1))) [(.asg (.name 4) (.meth .lower (.var 4) []))] []), (.ife (.ext (pInT 1 4)) [(.ext (pDelT 1 4))] [(.ext (pSetT T C 1 4 (.bi .str [(.var 3)])))])] []), (.ret (.var 1))]
noncomputable def fn_law_table : FuncData := (Fn (fdAt 78) (Str.ofString "_law_table") (Str.ofString "_law_table") 3 .none .none .none (.str (Str.ofString "law_wf0114_01") 2799) none (.ref 321) .none 0)
theorem lk_law_table {P : Params} : (Mine.K P).lookup 322 = some ⟨.type "function", none, .func fn_law_table, ⟨[]⟩⟩ := by kernel_rfl
theorem ok_law_table : FnOk fn_law_table ["sets"] ["table", "turn", "one", "name"] (fdAt 78).body where
 glob := rfl
 blt := rfl
 clo := rfl
 body := rfl
 bind := len1 fun _ => by kernel_rfl
 co := by kernel_rfl
 gen := by kernel_rfl
 kind := by kernel_rfl
 nod := by decide +kernel
 cxn := by decide +kernel
 par := by decide +kernel
 nofree := by decide +kernel
noncomputable def ms_law (T : Tabs) (C : CT) : List MS := [(.asg (.name 1) (.comp 2 (.bin .Mod (.bin .Add (.var 9) (.bi .sum [(.slice3 (.var 0) (.var 8) (.lit (.int 60)) (.lit (.int 6)))])) (.lit (.int 1000000))) (.enum (.list [(.lit (.int 511)), (.lit (.int 831)), (.lit (.int 3)), (.lit (.int 1105)), (.lit (.int 7)), (.lit (.int 40))])) (.tup [8, 9]) [] [])), (.asg (.name 2) (.call 276 [(.var 1)])), (.asg (.name 3) (.call 327 [(.sub (.var 1) (.lit (.int 3)))])), (.asg (.name 4) (.call 293 [(.call 283 [(.var 2)]), (.sub (.var 1) (.lit (.int 4))), (.sub (.var 1) (.lit (.int 5)))])), (.asg (.name 5) (.call 315 [(.call 305 [(.call 298 [(.var 4)])]), (.comp 1 (.bin .Pow (.lit (.int 2)) (.var 8)) (.var 3) (.name 8) [] [])])), (.asg (.name 6) (.call 322 [(.var 5)])), (.asg (.name 7) (.ext (pSortP T C (.comp 2 (.tup [(.bi .int [(.var 9)]), (.meth .lower (.var 8) [])]) (.ext (pItems 6)) (.tup [8, 9]) [] [])))), (.ret (.cmp .Eq (.var 7) (.call 332 [(.var 2), (.var 3)])))]
noncomputable def fn_law : FuncData := (Fn (fdAt 81) (Str.ofString "law") (Str.ofString "law") 3 .none .none .none (.str (Str.ofString "law_wf0114_01") 2799) none (.ref 336) .none 0)
theorem lk_law {P : Params} : (Mine.K P).lookup 337 = some ⟨.type "function", none, .func fn_law, ⟨[]⟩⟩ := by kernel_rfl
theorem ok_law : FnOk fn_law ["script"] ["numbers", "formula", "places", "typed", "sets", "table", "told"] (fdAt 81).body where
 glob := rfl
 blt := rfl
 clo := rfl
 body := rfl
 bind := len1 fun _ => by kernel_rfl
 co := by kernel_rfl
 gen := by kernel_rfl
 kind := by kernel_rfl
 nod := by decide +kernel
 cxn := by decide +kernel
 par := by decide +kernel
 nofree := by decide +kernel
theorem walk_law_due (d : Dat T C k w hO mb) {f : Fx} (I : InFn f w hO fn_law_due ["formula", "places"] ["words", "truths", "due", "chosen", "flags"]) : VS T C k f (fdAt 80).body (ms_law_due T C) :=
 have c := I.toCX
 (s_cons I.ok (s_asg I (by kernel_rfl) (e_list (es_cons (e_str (by kernel_rfl)) (es_cons (e_str (by kernel_rfl)) (es_cons (e_str (by kernel_rfl)) (es_cons (e_str (by kernel_rfl)) (es_cons (e_str (by kernel_rfl)) (es_cons (e_str (by kernel_rfl)) (es_cons (e_str (by kernel_rfl)) (es_cons (e_str (by kernel_rfl)) (es_cons (e_str (by kernel_rfl)) (es_cons (e_str (by kernel_rfl)) (es_cons (e_str (by kernel_rfl)) (es_cons (e_str (by kernel_rfl)) es_nil))))))))))))))
 (s_cons I.ok (s_asg I (by kernel_rfl) (e_comp0 c ([("chosen" : Str)]) (by kernel_rfl) (i_rng1 d c sh_name (by kernel_rfl) d.g_range e_int) (t_name (by kernel_rfl)) fun f1 c1 => ⟨f_nil, (e_call d c1 (a := 288) (by kernel_rfl) (by kernel_rfl) ⟨_, fn_law_holds, lk_law_holds, rfl⟩ (es_cons (e_var c1 (by kernel_rfl)) (es_cons (e_comp0 c1 ([("k" : Str)]) (by kernel_rfl) (i_rng1 d c1 sh_name (by kernel_rfl) d.g_range e_int) (t_name (by kernel_rfl)) fun f2 c2 => ⟨(f_one (b_of (e_bin (e_bin (e_var c2 (by kernel_rfl)) (e_var c2 (by kernel_rfl))) e_int))), (e_sub (e_str (by kernel_rfl)) (e_var c2 (by kernel_rfl)))⟩) es_nil)))⟩) (hs := sw_cell I (by kernel_rfl)))
 (s_cons I.ok (s_own I (by kernel_rfl) es_nil)
 (s_cons I.ok (s_for I (i_rng1 d c sh_name (by kernel_rfl) d.g_range e_int) (ok_name I (by kernel_rfl)) (s_cons I.ok (s_ife I.ok (b_cmp (e_bin (e_bi d c (b := .len) (by kernel_rfl) d.g_len (es_cons (e_comp0 c ([("part" : Str)]) (by kernel_rfl) (i_rng1 d c sh_name (by kernel_rfl) d.g_range e_int) (t_name (by kernel_rfl)) fun f1 c1 => ⟨(f_one (b_and (b_cmp (e_bin (e_var c1 (by kernel_rfl)) (e_var c1 (by kernel_rfl))) (e_var c1 (by kernel_rfl))) (b_of (e_sub (e_var c1 (by kernel_rfl)) (e_var c1 (by kernel_rfl)))))), (e_var c1 (by kernel_rfl))⟩) es_nil)) e_int) e_int) (s_cons I.ok (s_asg I (by kernel_rfl) (e_bi d c (b := .sorted) (by kernel_rfl) d.g_sorted (es_cons (e_comp0 c ([("k" : Str)]) (by kernel_rfl) (i_rng1 d c sh_name (by kernel_rfl) d.g_range e_int) (t_name (by kernel_rfl)) fun f1 c1 => ⟨(f_one (b_of (e_bin (e_bin (e_var c1 (by kernel_rfl)) (e_var c1 (by kernel_rfl))) e_int))), (e_sub (e_var c1 (by kernel_rfl)) (e_var c1 (by kernel_rfl)))⟩) es_nil)))
 (s_cons I.ok (s_app I (e_var c (by kernel_rfl)) (e_tup (es_cons (e_bi d c (b := .sum) (by kernel_rfl) d.g_sum (es_cons (e_comp0 c ([("flag" : Str)]) (by kernel_rfl) (i_var c sh_name (by kernel_rfl)) (t_name (by kernel_rfl)) fun f1 c1 => ⟨f_nil, (e_bin e_int (e_var c1 (by kernel_rfl)))⟩) es_nil)) (es_cons (e_ite (b_cmp (e_var c (by kernel_rfl)) (e_list es_nil)) (e_meth (m := .join) (e_str (by kernel_rfl)) (es_cons (e_comp0 c ([("flag" : Str)]) (by kernel_rfl) (i_var c sh_name (by kernel_rfl)) (t_name (by kernel_rfl)) fun f1 c1 => ⟨f_nil, (e_sub (e_var c1 (by kernel_rfl)) (e_var c1 (by kernel_rfl)))⟩) es_nil)) (e_str (by kernel_rfl))) es_nil))))
 s_nil)) s_nil)
 s_nil) s_nil)
 (s_cons I.ok (s_ret (e_sortP d c (by kernel_rfl) (e_var c (by kernel_rfl))))
 s_nil)))))
theorem walk_law_table (d : Dat T C (k + 3) w hO mb) {f : Fx} (I : InFn f w hO fn_law_table ["sets"] ["table", "turn", "one", "name"]) : VS T C (k + 3) f (fdAt 78).body (ms_law_table T C) :=
 have c := I.toCX
 (s_cons I.ok (s_newT d I (by kernel_rfl) (by kernel_rfl) (by kernel_rfl))
 (s_cons I.ok (s_for I (i_enum d c (by kernel_rfl) d.g_enumerate (e_var c (by kernel_rfl))) (ok_tup2 I (by kernel_rfl) (by kernel_rfl)) (s_cons I.ok (s_asg I (by kernel_rfl) (e_call d c (a := 46) (by kernel_rfl) (by kernel_rfl) ⟨_, fn_pretty_flags, lk_pretty_flags, rfl⟩ (es_cons (e_var c (by kernel_rfl)) es_nil)))
 (s_cons I.ok (s_ife I.ok (b_cmp (e_bin (e_var c (by kernel_rfl)) e_int) e_int) (s_cons I.ok (s_asg I (by kernel_rfl) (e_meth (m := .lower) (e_var c (by kernel_rfl)) es_nil))
 s_nil) s_nil)
 (s_cons I.ok (s_ife I.ok (b_inT d c (by kernel_rfl) (by kernel_rfl)) (s_cons I.ok (s_delT d I (by kernel_rfl) (by kernel_rfl))
 s_nil) (s_cons I.ok (s_setT d I (by kernel_rfl) (by kernel_rfl) (e_bi d c (b := .str) (by kernel_rfl) d.g_str (es_cons (e_var c (by kernel_rfl)) es_nil)))
 s_nil))
 s_nil))) s_nil)
 (s_cons I.ok (s_ret (e_var c (by kernel_rfl)))
 s_nil)))
theorem walk_law (d : Dat T C (k + 1) w hO mb) {f : Fx} (I : InFn f w hO fn_law ["script"] ["numbers", "formula", "places", "typed", "sets", "table", "told"]) : VS T C (k + 1) f (fdAt 81).body (ms_law T C) :=
 have c := I.toCX
 (s_cons I.ok (s_asgc0 I ([("k" : Str), ("base" : Str)]) (by kernel_rfl) (by kernel_rfl) (by kernel_rfl) (i_enum d c (by kernel_rfl) d.g_enumerate (e_list (es_cons e_int (es_cons e_int (es_cons e_int (es_cons e_int (es_cons e_int (es_cons e_int es_nil)))))))) (t_tup2 (by kernel_rfl) (by kernel_rfl)) fun f1 c1 => ⟨f_nil, (e_bin (e_bin (e_var c1 (by kernel_rfl)) (e_bi d c1 (b := .sum) (by kernel_rfl) d.g_sum (es_cons (e_slice3 (e_var c1 (by kernel_rfl)) (e_var c1 (by kernel_rfl)) e_int e_int) es_nil))) e_int)⟩)
 (s_cons I.ok (s_asg I (by kernel_rfl) (e_call d c (a := 276) (by kernel_rfl) (by kernel_rfl) ⟨_, fn_law_formula, lk_law_formula, rfl⟩ (es_cons (e_var c (by kernel_rfl)) es_nil)))
 (s_cons I.ok (s_asg I (by kernel_rfl) (e_call d c (a := 327) (by kernel_rfl) (by kernel_rfl) ⟨_, fn_law_places, lk_law_places, rfl⟩ (es_cons (e_sub (e_var c (by kernel_rfl)) e_int) es_nil)))
 (s_cons I.ok (s_asg I (by kernel_rfl) (e_call d c (a := 293) (by kernel_rfl) (by kernel_rfl) ⟨_, fn_law_typed, lk_law_typed, rfl⟩ (es_cons (e_call d c (a := 283) (by kernel_rfl) (by kernel_rfl) ⟨_, fn_law_text, lk_law_text, rfl⟩ (es_cons (e_var c (by kernel_rfl)) es_nil)) (es_cons (e_sub (e_var c (by kernel_rfl)) e_int) (es_cons (e_sub (e_var c (by kernel_rfl)) e_int) es_nil)))))
 (s_cons I.ok (s_asg I (by kernel_rfl) (e_call d c (a := 315) (by kernel_rfl) (by kernel_rfl) ⟨_, fn_law_multiplied_out, lk_law_multiplied_out, rfl⟩ (es_cons (e_call d c (a := 305) (by kernel_rfl) (by kernel_rfl) ⟨_, fn_law_cut, lk_law_cut, rfl⟩ (es_cons (e_call d c (a := 298) (by kernel_rfl) (by kernel_rfl) ⟨_, fn_law_prepared, lk_law_prepared, rfl⟩ (es_cons (e_var c (by kernel_rfl)) es_nil)) es_nil)) (es_cons (e_comp0 c ([("flag" : Str)]) (by kernel_rfl) (i_var c sh_name (by kernel_rfl)) (t_name (by kernel_rfl)) fun f1 c1 => ⟨f_nil, (e_bin e_int (e_var c1 (by kernel_rfl)))⟩) es_nil))))
 (s_cons I.ok (s_asg I (by kernel_rfl) (e_call d c (a := 322) (by kernel_rfl) (by kernel_rfl) ⟨_, fn_law_table, lk_law_table, rfl⟩ (es_cons (e_var c (by kernel_rfl)) es_nil)))
 (s_cons I.ok (s_asg I (by kernel_rfl) (e_sortP d c (by kernel_rfl) (e_comp0 c ([("name" : Str), ("value" : Str)]) (by kernel_rfl) (i_items d c sh_tup (by kernel_rfl)) (t_tup2 (by kernel_rfl) (by kernel_rfl)) fun f1 c1 => ⟨f_nil, (e_tup (es_cons (e_bi d c1 (b := .int) (by kernel_rfl) d.g_int (es_cons (e_var c1 (by kernel_rfl)) es_nil)) (es_cons (e_meth (m := .lower) (e_var c1 (by kernel_rfl)) es_nil) es_nil)))⟩)))
 (s_cons I.ok (s_ret (e_cmp (e_var c (by kernel_rfl)) (e_call d c (a := 332) (by kernel_rfl) (by kernel_rfl) ⟨_, fn_law_due, lk_law_due, rfl⟩ (es_cons (e_var c (by kernel_rfl)) (es_cons (e_var c (by kernel_rfl)) es_nil)))))
 s_nil))))))))
end
noncomputable def flagL : List (Int × List Nat) := [(1, [79, 80, 84, 73, 77, 73, 90, 69, 68]), (2, [78, 69, 87, 76, 79, 67, 65, 76, 83]), (4, [86, 65, 82, 65, 82, 71, 83]), (8, [86, 65, 82, 75, 69, 89, 87, 79, 82, 68, 83]), (16, [78, 69, 83, 84, 69, 68]), (32, [71, 69, 78, 69, 82, 65, 84, 79, 82]), (64, [78, 79, 70, 82, 69, 69]), (128, [67, 79, 82, 79, 85, 84, 73, 78, 69]), (256, [73, 84, 69, 82, 65, 66, 76, 69, 95, 67, 79, 82, 79, 85, 84, 73, 78, 69]), (512, [65, 83, 89, 78, 67, 95, 71, 69, 78, 69, 82, 65, 84, 79, 82])]
noncomputable def tokL : List (List Nat × Int) := [([33], 54), ([33, 61], 28), ([37], 24), ([37, 61], 40), ([38], 19), ([38, 61], 41), ([40], 7), ([41], 8), ([42], 16), ([42, 42], 35), ([42, 42, 61], 46), ([42, 61], 38), ([43], 14), ([43, 61], 36), ([44], 12), ([45], 15), ([45, 61], 37), ([45, 62], 51), ([46], 23), ([46, 46, 46], 52), ([47], 17), ([47, 47], 47), ([47, 47, 61], 48), ([47, 61], 39), ([58], 11), ([58, 61], 53), ([59], 13), ([60], 20), ([60, 60], 33), ([60, 60, 61], 44), ([60, 61], 29), ([61], 22), ([61, 61], 27), ([62], 21), ([62, 61], 30), ([62, 62], 34), ([62, 62, 61], 45), ([64], 49), ([64, 61], 50), ([91], 9), ([93], 10), ([94], 32), ([94, 61], 43), ([123], 25), ([124], 18), ([124, 61], 42), ([125], 26), ([126], 31)]
noncomputable def b1L : List Int := [65024, 65025, 65026, 65027, 65028, 65029, 6150, 65030, 65031, 65032, 65033, 6155, 6156, 6157, 8203, 8204, 8205, 65034, 65035, 65036, 65037, 65038, 65039, 173, 847, 8288, 65279]
noncomputable def b3L : List (Int × List Nat) := b3c.map fun p => ((p.1 : Int), p.2)
noncomputable def TT : Tabs where
 tok x := tokL.lookup x
 flag i := flagL.lookup i
 b3 i := b3L.lookup i
 b1 i := b1L.contains i
noncomputable def iOf : Value -> Option Int
 | .int k _ => some k
 | _ => none
noncomputable def sOf : Value -> Option (List Nat)
 | .str x _ => some x.cps.toList
 | _ => none
theorem iOf_inv {v : Value} {k : Int} (h : iOf v = some k) : ∃ t, v = .int k t := by
 cases v with
 | int i t => exact ⟨t, congrArg (Value.int · t) (Option.some.inj h)⟩
 | _ => cases h
theorem sOf_inv {v : Value} {l : List Nat} (h : sOf v = some l) : ∃ t, v = .str (strOf l) t := by
 cases v with
 | str x t => obtain rfl := Option.some.inj h; exact ⟨t, rfl⟩
 | _ => cases h
noncomputable def all2 {α β : Type} (ok : α -> β -> Bool) : List α -> List β -> Bool
 | [], L => L.isEmpty
 | e :: r, L => match L with
  | [] => false
  | p :: q => ok e p && all2 ok r q
theorem all2_ind {α β : Type} {ok : α -> β -> Bool} {P : List α -> List β -> Prop} (n : P [] []) (c : ∀ e r p q, ok e p = true -> P r q -> P (e :: r) (p :: q)) {l : List α} {L : List β} (h : all2 ok l L = true) : P l L := by
 induction l generalizing L with
 | nil => cases L with
  | nil => exact n
  | cons => cases h
 | cons e r ih => cases L with
  | nil => cases h
  | cons p q => exact c _ _ _ _ (Bool.and_eq_true_iff.mp h).1 (ih (Bool.and_eq_true_iff.mp h).2)
noncomputable def okI (e : DictEntry) (p : Int × List Nat) : Bool := iOf e.key == some p.1 && e.hash == hashInt p.1 && sOf e.val == some p.2
noncomputable def okS (e : DictEntry) (p : List Nat × Int) : Bool := sOf e.key == some p.1 && iOf e.val == some p.2
noncomputable abbrev okIs := all2 okI
noncomputable abbrev okSs := all2 okS
theorem okIs_ok {l : List DictEntry} {L : List (Int × List Nat)} (h : okIs l L = true) : (∀ e ∈ l, ∃ k t, e.key = .int k t /\ e.hash = hashInt k) /\
  ∀ i : Int, (L.lookup i = none /\ l.find? (fun e => Value.isInt i e.key) = none) ∨ ∃ x t e, L.lookup i = some x.cps.toList /\ l.find? (fun e => Value.isInt i e.key) = some e /\ e.val = .str x t :=
 all2_ind (P := fun l L => (∀ e ∈ l, ∃ k t, e.key = .int k t /\ e.hash = hashInt k) /\
  ∀ i : Int, (L.lookup i = none /\ l.find? (fun e => Value.isInt i e.key) = none) ∨ ∃ x t e, L.lookup i = some x.cps.toList /\ l.find? (fun e => Value.isInt i e.key) = some e /\ e.val = .str x t)
  ⟨(fun e h => nomatch h), fun i => .inl ⟨rfl, rfl⟩⟩ (fun e r p q h ih => by
   have h := Bool.and_eq_true_iff.mp h
   have h' := Bool.and_eq_true_iff.mp h.1
   obtain ⟨t, ek⟩ := iOf_inv (beq_iff_eq.mp h'.1)
   obtain ⟨t', ev⟩ := sOf_inv (beq_iff_eq.mp h.2)
   refine ⟨fun e' h2 => (List.mem_cons.mp h2).elim (fun q => q ▸ ⟨p.1, t, ek, beq_iff_eq.mp h'.2⟩) (ih.1 e'), fun i => ?_⟩
   have hb : Value.isInt i e.key = (i == p.1) := by rw [ek]; exact Bool.eq_iff_iff.mpr (beq_iff_eq.trans (eq_comm.trans beq_iff_eq.symm))
   rw [List.find?_cons, hb]
   show ((match i == p.1 with | true => some p.2 | false => q.lookup i) = none /\ _) ∨ ∃ x t e, (match i == p.1 with | true => some p.2 | false => q.lookup i) = _ /\ _
   cases i == p.1 with
   | true => exact .inr ⟨_, t', e, rfl, rfl, ev⟩
   | false => exact ih.2 i) h
theorem okSs_ok {l : List DictEntry} {L : List (List Nat × Int)} (h : okSs l L = true) :
  ∀ x : Str, (L.lookup x.cps.toList = none /\ l.find? (fun e => Value.isStrOf x e.key) = none) ∨ ∃ i t e, L.lookup x.cps.toList = some i /\ l.find? (fun e => Value.isStrOf x e.key) = some e /\ e.val = .int i t :=
 all2_ind (P := fun l L => ∀ x : Str, (L.lookup x.cps.toList = none /\ l.find? (fun e => Value.isStrOf x e.key) = none) ∨ ∃ i t e, L.lookup x.cps.toList = some i /\ l.find? (fun e => Value.isStrOf x e.key) = some e /\ e.val = .int i t)
  (fun i => .inl ⟨rfl, rfl⟩) (fun e r p q h ih x => by
   have h := Bool.and_eq_true_iff.mp h
   obtain ⟨t, ek⟩ := sOf_inv (beq_iff_eq.mp h.1)
   obtain ⟨t', ev⟩ := iOf_inv (beq_iff_eq.mp h.2)
   have hb : Value.isStrOf x e.key = (x.cps.toList == p.1) := by rw [ek]; show (strOf p.1 == strOf x.cps.toList) = _; rw [strEq']; exact Bool.eq_iff_iff.mpr (beq_iff_eq.trans (eq_comm.trans beq_iff_eq.symm))
   rw [List.find?_cons, hb]
   show ((match x.cps.toList == p.1 with | true => some p.2 | false => q.lookup x.cps.toList) = none /\ _) ∨ ∃ i t e, (match x.cps.toList == p.1 with | true => some p.2 | false => q.lookup x.cps.toList) = _ /\ _
   cases x.cps.toList == p.1 with
   | true => exact .inr ⟨_, t', e, rfl, rfl, ev⟩
   | false => exact ih x) h
theorem ints_map {h : Heap} {a : Addr} {o : Obj} {es : Array DictEntry} {n : Nat} {w : World} (ho : h.get? a = some o) (hc : o.ExactDict) (hd : o.data = .dict es n) {L : List (Int × List Nat)} (e : okIs es.toList L = true) :
  ∃ F, h.MapOf (intKind pw w) a F /\ ∀ i : Int, (L.lookup i = none /\ F i = none) ∨ ∃ x t, L.lookup i = some x.cps.toList /\ F i = some (.str x t) := by
 obtain ⟨h1, h2⟩ := okIs_ok e
 refine ⟨fun i => findBy Value.isInt es i, ⟨o, es, n, ho, hc, hd, fun e he => ?_, fun _ => rfl⟩, fun i => ?_⟩
 ·obtain ⟨k, t, a1, a2⟩ := h1 e (Array.mem_toList_iff.mpr he)
  exact ⟨k, by rw [a1]; simp [intKind, Value.isInt], a2⟩
 ·obtain ⟨l⟩ := es
  show _ /\ (Option.map _ (Array.find? _ _)) = _ ∨ ∃ x t, _ /\ (Option.map _ (Array.find? _ _)) = _
  rw [List.find?_toArray]
  rcases h2 i with ⟨a1, a2⟩ | ⟨x, t, e, a1, a2, a3⟩
  ·exact .inl ⟨a1, by rw [show List.find? (fun e => Value.isInt i e.key) l = none from a2]; rfl⟩
  ·exact .inr ⟨x, t, a1, by rw [show List.find? (fun e => Value.isInt i e.key) l = some e from a2]; simp [a3]⟩
theorem strs_map {h : Heap} {a : Addr} {K : Frag} {es : Array DictEntry} {n : Nat} {w : World} (X : K.In h) (hl : K.lookup a = some ⟨.type "dict", none, .dict es n, #[]⟩) (hk : KeysLit w.params es.toList) {L : List (List Nat × Int)} (e : okSs es.toList L = true) :
  ∃ F, h.MapOf (strKind pw w) a F /\ ∀ x : Str, (L.lookup x.cps.toList = none /\ F x = none) ∨ ∃ i t, L.lookup x.cps.toList = some i /\ F x = some (.int i t) := by
 refine ⟨_, mapOf_K X hl hk, fun x => ?_⟩
 obtain ⟨l⟩ := es
 show _ /\ (Option.map _ (Array.find? _ _)) = _ ∨ ∃ i t, _ /\ (Option.map _ (Array.find? _ _)) = _
 rw [List.find?_toArray]
 rcases okSs_ok e x with ⟨a1, a2⟩ | ⟨i, t, e, a1, a2, a3⟩
 ·exact .inl ⟨a1, by rw [show List.find? (fun e => Value.isStrOf x e.key) l = none from a2]; rfl⟩
 ·exact .inr ⟨i, t, a1, by rw [show List.find? (fun e => Value.isStrOf x e.key) l = some e from a2]; simp [a3]⟩
noncomputable def esOf (o : Obj) : Array DictEntry := match o.data with | .dict es _ => es | _ => #[]
noncomputable def fixE (P : Params) (e : DictEntry) : DictEntry := match e.key with
 | .str x t => ⟨PyData.keyHash P x, .str x t, e.val⟩
 | _ => e
theorem keysLit_of {P : Params} {l : List DictEntry} (h : l.map (fixE P) = l) (h2 : l.all (fun e => (sOf e.key).isSome) = true) : KeysLit P l := by
 induction l with
 | nil => trivial
 | cons e r ih =>
  obtain ⟨x, hx⟩ := Option.isSome_iff_exists.mp (Bool.and_eq_true_iff.mp h2).1
  obtain ⟨t, ek⟩ := sOf_inv hx
  have h0 : fixE P e = e := (List.cons.inj h).1
  have h3 : (fixE P e).hash = PyData.keyHash P (strOf x) := by unfold fixE; rw [ek]
  exact ⟨⟨_, t, ek, h0 ▸ h3⟩, ih (List.cons.inj h).2 (Bool.and_eq_true_iff.mp h2).2⟩
theorem keys111 (P : Params) : KeysLit P (esOf (k111 P)).toList := keysLit_of (by kernel_rfl) (by kernel_rfl)
noncomputable def okE (e : Int × Value) (i : Int) : Bool := iOf e.2 == some i && e.1 == hashInt i && e.2.scannable
noncomputable abbrev okEs := all2 okE
theorem okEs_ok {w : World} {l : List (Int × Value)} {L : List Int} (h : okEs l L = true) : ElemsOf (intKind pw w) l /\ ∀ k : Int, L.contains k = true ↔ ∃ e ∈ l, (intKind pw w).is k e.2 = true :=
 all2_ind (P := fun l L => ElemsOf (intKind pw w) l /\ ∀ k : Int, L.contains k = true ↔ ∃ e ∈ l, (intKind pw w).is k e.2 = true)
  ⟨(fun e h => nomatch h), fun k => ⟨(fun h => nomatch h), fun ⟨_, h, _⟩ => nomatch h⟩⟩ (fun e r p q h ih => by
   have h := Bool.and_eq_true_iff.mp h
   have h' := Bool.and_eq_true_iff.mp h.1
   obtain ⟨t, ek⟩ := iOf_inv (beq_iff_eq.mp h'.1)
   have hb : ∀ i, (intKind pw w).is i e.2 = true ↔ i = p := fun i => by rw [ek]; exact beq_iff_eq.trans eq_comm
   refine ⟨fun e' h2 => (List.mem_cons.mp h2).elim (fun q => q ▸ ⟨⟨p, (hb p).mpr rfl, beq_iff_eq.mp h'.2⟩, h.2⟩) (ih.1 e'), fun i => ?_⟩
   rw [List.contains_cons, Bool.or_eq_true, beq_iff_eq, ih.2 i, <- hb i]
   exact ⟨fun h => h.elim (fun h => ⟨e, .head _, h⟩) fun ⟨e', h, h'⟩ => ⟨e', .tail _ h, h'⟩, fun ⟨e', h, h'⟩ => (List.mem_cons.mp h).elim (fun q => .inl (q ▸ h')) fun h => .inr ⟨e', h, h'⟩⟩) h
theorem int_scan {A : Around} {w : World} {hO : Heap} {s : Shared} {a : Addr} (S : hO.SetOf (intKind pw w) a (fun i => b1L.contains i) 27) (kp : Keep hO s.heap) : s.heap.SetOf (intKind pw w) a (fun i => b1L.contains i) 27 :=
 S.imp fun _ => Exists.imp fun _ => Exists.imp fun _ => Exists.imp fun _ => And.imp_left (kp _ _)
theorem tabs_ok {w : World} {hO : Heap} {mb : Str -> Option Value} (X : (Mine.K w.params).In hO) : TabsOk w hO (mgOf w.params) mb TT where
 tok := by
  obtain ⟨F, h1, h2⟩ := strs_map (a := 111) (es := esOf (k111 w.params)) (n := 48) (L := tokL) X (by kernel_rfl) (keys111 _) (by kernel_rfl)
  exact ⟨111, F, .inl (by kernel_rfl), by decide, h1, h2⟩
 flag := by
  obtain ⟨F, h1, h2⟩ := ints_map (w := w) (a := 39) (o := k39 w.params) (es := esOf (k39 w.params)) (n := 10) (L := flagL) (X _ _ (by kernel_rfl)) ⟨by kernel_rfl, by kernel_rfl, by kernel_rfl⟩ (by kernel_rfl) (by kernel_rfl)
  exact ⟨39, F, .inl (by kernel_rfl), by decide, h1, h2⟩
 b3 := by
  obtain ⟨F, h1, h2⟩ := ints_map (w := w) (a := 65) (o := k65 w.params) (es := esOf (k65 w.params)) (n := 650) (L := b3L) (X _ _ (by kernel_rfl)) ⟨by kernel_rfl, by kernel_rfl, by kernel_rfl⟩ (by kernel_rfl) (by kernel_rfl)
  exact ⟨65, F, .inl (by kernel_rfl), by decide, h1, h2⟩
 b1 := by
  refine ⟨54, .inl (by kernel_rfl), fun A s i t Q E kp q => ?_⟩
  have S : hO.SetOf (intKind pw w) 54 (fun i => b1L.contains i) 27 := by
   have hE : ∃ es ep tb, (k54 w.params).data = .set es ep tb /\ okEs es.toList b1L = true /\ es.size < scanBound /\ tb.fits es.size = true /\ es.size = 27 := by
    refine ⟨_, _, _, rfl, by kernel_rfl, by decide +kernel, by kernel_rfl, by kernel_rfl⟩
   obtain ⟨es, ep, tb, h1, h2, h3, h4, h5⟩ := hE
   obtain ⟨e1, e2⟩ := okEs_ok (w := w) h2
   exact ⟨k54 w.params, es, ep, tb, X _ _ (by kernel_rfl), ⟨by kernel_rfl, by kernel_rfl, by kernel_rfl⟩, h1, e1, e2, h3, h4, h5⟩
  exact wpAny_inSet_of (knd := intKind pw w) (k := i) (by simp [intKind, Value.isInt]) rfl (int_scan (A := A) S kp) (q s.heap (s.toks + 1) fun _ _ h => h)
section
variable {T : Tabs} {C : CT} {k : Nat} {w : World} {hO : Heap} {mb : Str -> Option Value}
noncomputable def Snd (k : Nat) (w : World) (hO : Heap) (a : Addr) (ds : List PV) (K : PV -> Prop) : Prop := (∃ o fd, hO.get? a = some o /\ o.data = .func fd) /\
  ∀ A M ads μ s vs, AOk k A -> MuAt hO M ads μ s.heap -> Reps (vis s.heap M) ads vs ds -> Go w A M ads (call (.ref a) vs) s K
theorem snd_of {T : Tabs} {C : CT} {k : Nat} {w : World} {hO : Heap} {a : Addr} {o : Obj} {fd : FuncData} {ps ls : List Str} {body : List Stmt} {ms : List MS}
  (ho : hO.get? a = some o) (hd : o.data = .func fd) (X : FnOk fd ps ls body) (hlim : hO.NoLimit) (hcd : hO.CodeRec fd.code fd.qualname)
  (hb : ∀ f, InFn f w hO fd ps ls -> VS T C k f body ms) {ds : List PV} {K : PV -> Prop} {np n : Nat} (h1 : ps.length = np) (h2 : (ps ++ ls).length = n) (e : FC T C np n ms ds K) : Snd (k + 1) w hO a ds K := by
 subst h1 h2
 exact ⟨⟨_, _, ho, hd⟩, fun A M ads μ s vs ok m r => call_fn ho hd X hlim hcd (fun f I => (hb f I).go) e ok m r⟩
theorem snd_pretty_flags (d : Dat T C (k + 3) w hO mb) {ds : List PV} {K : PV -> Prop} (e : FC T C 1 4 ms_pretty_flags ds K) : Snd (k + 3 + 1) w hO 46 ds K := by
 have hcd : hO.CodeRec fn_pretty_flags.code fn_pretty_flags.qualname := code_at d.kin o45x0 (by kernel_rfl) rfl rfl
 have hb : ∀ f, InFn f w hO fn_pretty_flags ["flags"] ["names", "i", "flag"] -> VS T C (k + 3) f (fdAt 4).body ms_pretty_flags := fun f I => walk_pretty_flags d I
 have ho := d.kin _ _ lk_pretty_flags
 exact snd_of ho rfl ok_pretty_flags d.lim hcd hb rfl rfl e
theorem snd_in_table_b1 (d : Dat T C (k + 3) w hO mb) {ds : List PV} {K : PV -> Prop} (e : FC T C 1 1 ms_in_table_b1 ds K) : Snd (k + 3 + 1) w hO 64 ds K := by
 have hcd : hO.CodeRec fn_in_table_b1.code fn_in_table_b1.qualname := code_at d.kin o63x2 (by kernel_rfl) rfl rfl
 have hb : ∀ f, InFn f w hO fn_in_table_b1 ["code"] [] -> VS T C (k + 3) f (fdAt 7).body ms_in_table_b1 := fun f I => walk_in_table_b1 d I
 have ho := d.kin _ _ lk_in_table_b1
 exact snd_of ho rfl ok_in_table_b1 d.lim hcd hb rfl rfl e
theorem snd_map_table_b3 (d : Dat T C (k + 3) w hO mb) {ds : List PV} {K : PV -> Prop} (e : FC T C 1 2 ms_map_table_b3 ds K) : Snd (k + 3 + 1) w hO 110 ds K := by
 have hcd : hO.CodeRec fn_map_table_b3.code fn_map_table_b3.qualname := code_at d.kin o109x4 (by kernel_rfl) rfl rfl
 have hb : ∀ f, InFn f w hO fn_map_table_b3 ["code"] ["r"] -> VS T C (k + 3) f (fdAt 9).body ms_map_table_b3 := fun f I => walk_map_table_b3 d I
 have ho := d.kin _ _ lk_map_table_b3
 exact snd_of ho rfl ok_map_table_b3 d.lim hcd hb rfl rfl e
theorem snd_ISTERMINAL (d : Dat T C (k + 3) w hO mb) {ds : List PV} {K : PV -> Prop} (e : FC T C 1 1 ms_ISTERMINAL ds K) : Snd (k + 3 + 1) w hO 120 ds K := by
 have hcd : hO.CodeRec fn_ISTERMINAL.code fn_ISTERMINAL.qualname := code_at d.kin o119x7 (by kernel_rfl) rfl rfl
 have hb : ∀ f, InFn f w hO fn_ISTERMINAL ["x"] [] -> VS T C (k + 3) f (fdAt 62).body ms_ISTERMINAL := fun f I => walk_ISTERMINAL d I
 have ho := d.kin _ _ lk_ISTERMINAL
 exact snd_of ho rfl ok_ISTERMINAL d.lim hcd hb rfl rfl e
theorem snd_ISNONTERMINAL (d : Dat T C (k + 3) w hO mb) {ds : List PV} {K : PV -> Prop} (e : FC T C 1 1 ms_ISNONTERMINAL ds K) : Snd (k + 3 + 1) w hO 127 ds K := by
 have hcd : hO.CodeRec fn_ISNONTERMINAL.code fn_ISNONTERMINAL.qualname := code_at d.kin o126x7 (by kernel_rfl) rfl rfl
 have hb : ∀ f, InFn f w hO fn_ISNONTERMINAL ["x"] [] -> VS T C (k + 3) f (fdAt 63).body ms_ISNONTERMINAL := fun f I => walk_ISNONTERMINAL d I
 have ho := d.kin _ _ lk_ISNONTERMINAL
 exact snd_of ho rfl ok_ISNONTERMINAL d.lim hcd hb rfl rfl e
theorem snd_ISEOF (d : Dat T C (k + 3) w hO mb) {ds : List PV} {K : PV -> Prop} (e : FC T C 1 1 ms_ISEOF ds K) : Snd (k + 3 + 1) w hO 134 ds K := by
 have hcd : hO.CodeRec fn_ISEOF.code fn_ISEOF.qualname := code_at d.kin o133x7 (by kernel_rfl) rfl rfl
 have hb : ∀ f, InFn f w hO fn_ISEOF ["x"] [] -> VS T C (k + 3) f (fdAt 64).body ms_ISEOF := fun f I => walk_ISEOF d I
 have ho := d.kin _ _ lk_ISEOF
 exact snd_of ho rfl ok_ISEOF d.lim hcd hb rfl rfl e
theorem snd_law_formula (d : Dat T C (k + 3) w hO mb) {ds : List PV} {K : PV -> Prop} (e : FC T C 1 8 ms_law_formula ds K) : Snd (k + 3 + 1) w hO 276 ds K := by
 have hcd : hO.CodeRec fn_law_formula.code fn_law_formula.qualname := code_at d.kin o275x9 (by kernel_rfl) rfl rfl
 have hb : ∀ f, InFn f w hO fn_law_formula ["numbers"] ["words", "signs", "parts", "k", "figure", "at", "joined"] -> VS T C (k + 3) f (fdAt 70).body ms_law_formula := fun f I => walk_law_formula d I
 have ho := d.kin _ _ lk_law_formula
 exact snd_of ho rfl ok_law_formula d.lim hcd hb rfl rfl e
theorem snd_law_text (d : Dat T C (k + 3) w hO mb) {ds : List PV} {K : PV -> Prop} (e : FC T C 1 5 ms_law_text ds K) : Snd (k + 3 + 1) w hO 283 ds K := by
 have hcd : hO.CodeRec fn_law_text.code fn_law_text.qualname := code_at d.kin o282x9 (by kernel_rfl) rfl rfl
 have hb : ∀ f, InFn f w hO fn_law_text ["part"] ["turned", "sign", "left", "right"] -> VS T C (k + 3) f (fdAt 71).body ms_law_text := fun f I => walk_law_text d I
 have ho := d.kin _ _ lk_law_text
 exact snd_of ho rfl ok_law_text d.lim hcd hb rfl rfl e
theorem snd_law_holds (d : Dat T C (k + 3) w hO mb) {ds : List PV} {K : PV -> Prop} (e : FC T C 2 9 ms_law_holds ds K) : Snd (k + 3 + 1) w hO 288 ds K := by
 have hcd : hO.CodeRec fn_law_holds.code fn_law_holds.qualname := code_at d.kin o287x9 (by kernel_rfl) rfl rfl
 have hb : ∀ f, InFn f w hO fn_law_holds ["part", "held"] ["turned", "sign", "left", "right", "a", "b", "truth"] -> VS T C (k + 3) f (fdAt 72).body ms_law_holds := fun f I => walk_law_holds d I
 have ho := d.kin _ _ lk_law_holds
 exact snd_of ho rfl ok_law_holds d.lim hcd hb rfl rfl e
theorem snd_law_typed (d : Dat T C (k + 3) w hO mb) {ds : List PV} {K : PV -> Prop} (e : FC T C 3 10 ms_law_typed ds K) : Snd (k + 3 + 1) w hO 293 ds K := by
 have hcd : hO.CodeRec fn_law_typed.code fn_law_typed.qualname := code_at d.kin o292x9 (by kernel_rfl) rfl rfl
 have hb : ∀ f, InFn f w hO fn_law_typed ["text", "style", "hidden"] ["ligatures", "capitals", "unseen", "typed", "at", "fits", "way"] -> VS T C (k + 3) f (fdAt 73).body ms_law_typed := fun f I => walk_law_typed d I
 have ho := d.kin _ _ lk_law_typed
 exact snd_of ho rfl ok_law_typed d.lim hcd hb rfl rfl e
theorem snd_law_prepared (d : Dat T C (k + 3) w hO mb) {ds : List PV} {K : PV -> Prop} (e : FC T C 1 1 ms_law_prepared ds K) : Snd (k + 3 + 1) w hO 298 ds K := by
 have hcd : hO.CodeRec fn_law_prepared.code fn_law_prepared.qualname := code_at d.kin o297x9 (by kernel_rfl) rfl rfl
 have hb : ∀ f, InFn f w hO fn_law_prepared ["signs"] [] -> VS T C (k + 3) f (fdAt 74).body ms_law_prepared := fun f I => walk_law_prepared d I
 have ho := d.kin _ _ lk_law_prepared
 exact snd_of ho rfl ok_law_prepared d.lim hcd hb rfl rfl e
theorem snd_law_cut (d : Dat T C (k + 3) w hO mb) {ds : List PV} {K : PV -> Prop} (e : FC T C 1 3 ms_law_cut ds K) : Snd (k + 3 + 1) w hO 305 ds K := by
 have hcd : hO.CodeRec fn_law_cut.code fn_law_cut.qualname := code_at d.kin o304x9 (by kernel_rfl) rfl rfl
 have hb : ∀ f, InFn f w hO fn_law_cut ["text"] ["row", "size"] -> VS T C (k + 3) f (fdAt 75).body ms_law_cut := fun f I => walk_law_cut d I
 have ho := d.kin _ _ lk_law_cut
 exact snd_of ho rfl ok_law_cut d.lim hcd hb rfl rfl e
theorem snd_law_sets (d : Dat T C (k + 3) w hO mb) {ds : List PV} {K : PV -> Prop} (e : FC T C 3 5 ms_law_sets ds K) : Snd (k + 3 + 1) w hO 310 ds K := by
 have hcd : hO.CodeRec fn_law_sets.code fn_law_sets.qualname := code_at d.kin o309x10 (by kernel_rfl) rfl rfl
 have hb : ∀ f, InFn f w hO fn_law_sets ["sign", "left", "right"] ["both", "sides"] -> VS T C (k + 3) f (fdAt 76).body ms_law_sets := fun f I => walk_law_sets d I
 have ho := d.kin _ _ lk_law_sets
 exact snd_of ho rfl ok_law_sets d.lim hcd hb rfl rfl e
theorem snd_law_multiplied_out (d : Dat T C (k + 3) w hO mb) {ds : List PV} {K : PV -> Prop} (e : FC T C 2 10 ms_law_multiplied_out ds K) : Snd (k + 3 + 1) w hO 315 ds K := by
 have hcd : hO.CodeRec fn_law_multiplied_out.code fn_law_multiplied_out.qualname := code_at d.kin o314x10 (by kernel_rfl) rfl rfl
 have hb : ∀ f, InFn f w hO fn_law_multiplied_out ["row", "bits"] ["pile", "done", "within", "symbol", "right", "sign", "left", "sets"] -> VS T C (k + 3) f (fdAt 77).body ms_law_multiplied_out := fun f I => walk_law_multiplied_out d I
 have ho := d.kin _ _ lk_law_multiplied_out
 exact snd_of ho rfl ok_law_multiplied_out d.lim hcd hb rfl rfl e
theorem snd_law_table (d : Dat T C (k + 3) w hO mb) {ds : List PV} {K : PV -> Prop} (e : FC T C 1 5 (ms_law_table T C) ds K) : Snd (k + 3 + 1) w hO 322 ds K := by
 have hcd : hO.CodeRec fn_law_table.code fn_law_table.qualname := code_at d.kin o321x10 (by kernel_rfl) rfl rfl
 have hb : ∀ f, InFn f w hO fn_law_table ["sets"] ["table", "turn", "one", "name"] -> VS T C (k + 3) f (fdAt 78).body (ms_law_table T C) := fun f I => walk_law_table d I
 have ho := d.kin _ _ lk_law_table
 exact snd_of ho rfl ok_law_table d.lim hcd hb rfl rfl e
theorem snd_law_places (d : Dat T C (k + 3) w hO mb) {ds : List PV} {K : PV -> Prop} (e : FC T C 1 4 ms_law_places ds K) : Snd (k + 3 + 1) w hO 327 ds K := by
 have hcd : hO.CodeRec fn_law_places.code fn_law_places.qualname := code_at d.kin o326x10 (by kernel_rfl) rfl rfl
 have hb : ∀ f, InFn f w hO fn_law_places ["number"] ["first", "second", "rest"] -> VS T C (k + 3) f (fdAt 79).body ms_law_places := fun f I => walk_law_places d I
 have ho := d.kin _ _ lk_law_places
 exact snd_of ho rfl ok_law_places d.lim hcd hb rfl rfl e
theorem snd_law_due (d : Dat T C (k + 3) w hO mb) {ds : List PV} {K : PV -> Prop} (e : FC T C 2 7 (ms_law_due T C) ds K) : Snd (k + 3 + 1) w hO 332 ds K := by
 have hcd : hO.CodeRec fn_law_due.code fn_law_due.qualname := code_at d.kin o331x10 (by kernel_rfl) rfl rfl
 have hb : ∀ f, InFn f w hO fn_law_due ["formula", "places"] ["words", "truths", "due", "chosen", "flags"] -> VS T C (k + 3) f (fdAt 80).body (ms_law_due T C) := fun f I => walk_law_due d I
 have ho := d.kin _ _ lk_law_due
 exact snd_of ho rfl ok_law_due d.lim hcd hb rfl rfl e
theorem snd_law (d : Dat T C (k + 3) w hO mb) {ds : List PV} {K : PV -> Prop} (e : FC T C 1 8 (ms_law T C) ds K) : Snd (k + 3 + 1) w hO 337 ds K := by
 have hcd : hO.CodeRec fn_law.code fn_law.qualname := code_at d.kin o336x10 (by kernel_rfl) rfl rfl
 have hb : ∀ f, InFn f w hO fn_law ["script"] ["numbers", "formula", "places", "typed", "sets", "table", "told"] -> VS T C (k + 3) f (fdAt 81).body (ms_law T C) := fun f I => walk_law d I
 have ho := d.kin _ _ lk_law
 exact snd_of ho rfl ok_law d.lim hcd hb rfl rfl e
inductive FnC (T : Tabs) (C : CT) : Addr -> List PV -> (PV -> Prop) -> Prop
 | pretty_flags {ds K} : FC T C 1 4 ms_pretty_flags ds K -> FnC T C 46 ds K
 | in_table_b1 {ds K} : FC T C 1 1 ms_in_table_b1 ds K -> FnC T C 64 ds K
 | map_table_b3 {ds K} : FC T C 1 2 ms_map_table_b3 ds K -> FnC T C 110 ds K
 | ISTERMINAL {ds K} : FC T C 1 1 ms_ISTERMINAL ds K -> FnC T C 120 ds K
 | ISNONTERMINAL {ds K} : FC T C 1 1 ms_ISNONTERMINAL ds K -> FnC T C 127 ds K
 | ISEOF {ds K} : FC T C 1 1 ms_ISEOF ds K -> FnC T C 134 ds K
 | law_formula {ds K} : FC T C 1 8 ms_law_formula ds K -> FnC T C 276 ds K
 | law_text {ds K} : FC T C 1 5 ms_law_text ds K -> FnC T C 283 ds K
 | law_holds {ds K} : FC T C 2 9 ms_law_holds ds K -> FnC T C 288 ds K
 | law_typed {ds K} : FC T C 3 10 ms_law_typed ds K -> FnC T C 293 ds K
 | law_prepared {ds K} : FC T C 1 1 ms_law_prepared ds K -> FnC T C 298 ds K
 | law_cut {ds K} : FC T C 1 3 ms_law_cut ds K -> FnC T C 305 ds K
 | law_sets {ds K} : FC T C 3 5 ms_law_sets ds K -> FnC T C 310 ds K
 | law_multiplied_out {ds K} : FC T C 2 10 ms_law_multiplied_out ds K -> FnC T C 315 ds K
 | law_table {ds K} : FC T C 1 5 (ms_law_table T C) ds K -> FnC T C 322 ds K
 | law_places {ds K} : FC T C 1 4 ms_law_places ds K -> FnC T C 327 ds K
 | law_due {ds K} : FC T C 2 7 (ms_law_due T C) ds K -> FnC T C 332 ds K
 | law {ds K} : FC T C 1 8 (ms_law T C) ds K -> FnC T C 337 ds K
theorem fnC_snd (d : Dat T C (k + 3) w hO mb) {a : Addr} {ds : List PV} {K : PV -> Prop} (h : FnC T C a ds K) : Snd (k + 3 + 1) w hO a ds K := by
 cases h with
 | pretty_flags e => exact snd_pretty_flags d e
 | in_table_b1 e => exact snd_in_table_b1 d e
 | map_table_b3 e => exact snd_map_table_b3 d e
 | ISTERMINAL e => exact snd_ISTERMINAL d e
 | ISNONTERMINAL e => exact snd_ISNONTERMINAL d e
 | ISEOF e => exact snd_ISEOF d e
 | law_formula e => exact snd_law_formula d e
 | law_text e => exact snd_law_text d e
 | law_holds e => exact snd_law_holds d e
 | law_typed e => exact snd_law_typed d e
 | law_prepared e => exact snd_law_prepared d e
 | law_cut e => exact snd_law_cut d e
 | law_sets e => exact snd_law_sets d e
 | law_multiplied_out e => exact snd_law_multiplied_out d e
 | law_table e => exact snd_law_table d e
 | law_places e => exact snd_law_places d e
 | law_due e => exact snd_law_due d e
 | law e => exact snd_law d e
theorem fnC_sound (d : Dat T C (k + 3) w hO mb) : CSound (k + 3 + 1) w hO (fun a _ ds K => FnC T C a ds K) := fun a μ ds K h => let ⟨h1, h2⟩ := fnC_snd d h; ⟨h1, fun A M ads s vs => h2 A M ads μ s vs⟩
noncomputable def CC (T : Tabs) : Nat -> CT
 | 0 => noC
 | n + 1 => fun a _ ds K => FnC T (CC T n) a ds K
theorem cc_dat {T : Tabs} {w : World} {hO : Heap} {mb : Str -> Option Value} {k : Nat} (d : Dat T noC k w hO mb) : ∀ n, Dat T (CC T n) (n + 3) w hO mb
 | 0 => d.zero 3
 | n + 1 => let d' := cc_dat d n; ⟨d.kin, d.g, d.b, d.boot, d.lim, d.tabs, by have := fnC_sound (k := n) d'; exact this⟩
end
section
variable {n : Nat} {μ : List MV} {K : PV -> Prop}
theorem c_eof (i : Int) (h : K (.bool (i == 0))) : CC TT (n + 1) 134 μ [.int i] K := .ISEOF ⟨rfl, rfl, rfl, h⟩
theorem c_term (i : Int) (h : K (.bool (decide (i < 256)))) : CC TT (n + 1) 120 μ [.int i] K := .ISTERMINAL ⟨rfl, rfl, rfl, h⟩
theorem c_nont (i : Int) (h : K (.bool (decide (256 <= i)))) : CC TT (n + 1) 127 μ [.int i] K := .ISNONTERMINAL ⟨rfl, rfl, rfl, h⟩
theorem c_b1 (c : Nat) (h : K (.bool (b1L.contains (c : Int)))) : CC TT (n + 1) 64 μ [.str [c]] K := .in_table_b1 ⟨rfl, rfl, rfl, h⟩
noncomputable def m3 (c : Nat) : List Nat := (b3L.lookup (c : Int)).getD (lowL [c])
theorem c_b3 (c : Nat) (h : K (.str (m3 c))) : CC TT (n + 1) 110 μ [.str [c]] K := .map_table_b3 ⟨rfl, rfl, by
 have key : ∀ o : Option (List Nat), K (.str (o.getD (lowL [c]))) -> EX TT (CC TT n) 0 [some (.str [c]), some ((o.map .str).getD .none)] [] ms_map_table_b3.tail fun fl _ μ => match fl with | .ret d => outR μ d K | .next => K .none | _ => False := fun o h => by
  cases o with
  | none => exact ⟨(by decide : 1 <= 5592405), rfl, h⟩
  | some x => exact ⟨rfl, h⟩
 exact key (b3L.lookup (c : Int)) h⟩
end
inductive Fm where
 | w (i : Fin 9)
 | n (t : Bool) (s : Fin 9) (l r : Fm)
noncomputable def wl (i : Fin 9) : List Nat := [[102], [105], [108], [102, 102], [102, 105], [102, 108], [105, 108], [102, 102, 105], [102, 102, 108]].getD i.val []
noncomputable def sg (i : Fin 9) : List Nat := [[38], [124], [94], [60, 61], [60], [62, 61], [62], [61, 61], [33, 61]].getD i.val []
noncomputable def fmPV : Fm -> PV
 | .w i => .str (wl i)
 | .n t s l r => .tup [.bool t, .str (sg s), fmPV l, fmPV r]
theorem fm_noPtr (f : Fm) : noPtr (fmPV f) = true := by
 induction f with
 | w i => rfl
 | n t s l r ihl ihr => show (noPtr (fmPV l) && (noPtr (fmPV r) && true)) = true; rw [ihl, ihr]; rfl
noncomputable def Fm.ht : Fm -> Nat
 | .w _ => 0
 | .n _ _ l r => max l.ht r.ht + 1
noncomputable def Fm.nodes : Fm -> Nat
 | .w _ => 0
 | .n _ _ l r => l.nodes + r.nodes + 1
noncomputable def opn (t : Bool) : List Nat := if t then [126, 40] else [40]
noncomputable def tx : Fm -> List Nat
 | .w i => wl i
 | .n t s l r => opn t ++ tx l ++ sg s ++ tx r ++ [41]
theorem sg_len : ∀ i, (sg i).length <= 2 := by decide
theorem wl_len : ∀ i, (wl i).length <= 3 := by decide
theorem opn_len : ∀ t, (opn t).length <= 2 := by decide
theorem tx_len (f : Fm) : (tx f).length <= 8 * f.nodes + 3 := by
 induction f with
 | w i => exact Nat.le_trans (wl_len i) (Nat.le_add_left ..)
 | n t s l r ihl ihr =>
  show (opn t ++ tx l ++ sg s ++ tx r ++ [41]).length <= 8 * (l.nodes + r.nodes + 1) + 3
  rw [List.length_append, List.length_append, List.length_append, List.length_append]
  refine Nat.le_trans (Nat.add_le_add (Nat.add_le_add (Nat.add_le_add (Nat.add_le_add (opn_len t) ihl) (sg_len s)) ihr) (Nat.le_refl 1)) (Nat.le_of_eq ?_)
  generalize l.nodes = a; generalize r.nodes = b; lia
theorem ht_le (f : Fm) : f.ht <= f.nodes := by
 induction f with
 | w i => exact Nat.le_refl _
 | n t s l r ihl ihr => exact Nat.succ_le_succ (Nat.max_le.mpr ⟨Nat.le_trans ihl (Nat.le_add_right ..), Nat.le_trans ihr (Nat.le_add_left ..)⟩)
theorem sz_le {a b : Nat} (h : a <= b) (hb : autoParam (b <= 2000) A1._auto_1) : a <= sizeLine := Nat.le_trans h (Nat.le_trans hb (by decide))
theorem c_text (f : Fm) : ∀ (n : Nat) (μ : List MV) (K : PV -> Prop), f.ht <= n -> f.nodes <= 100 -> K (.str (tx f)) -> CC TT (n + 1) 283 μ [fmPV f] K := by
 induction f with
 | w i => exact fun n μ K hn hc h => .law_text ⟨rfl, rfl, rfl, h⟩
 | n t s l r ihl ihr =>
  intro n μ K hn hc h
  cases n with
  | zero => exact absurd hn (Nat.not_succ_le_zero _)
  | succ n =>
  have hn := Nat.max_le.mp (Nat.le_of_succ_le_succ hn)
  have hcl : l.nodes <= 100 := Nat.le_trans (Nat.le_trans (Nat.le_add_right _ _) (Nat.le_succ _)) hc
  have hcr : r.nodes <= 100 := Nat.le_trans (Nat.le_trans (Nat.le_add_left _ _) (Nat.le_succ _)) hc
  have hl : (tx l).length <= 803 := Nat.le_trans (tx_len l) (Nat.add_le_add_right (Nat.mul_le_mul_left 8 hcl) 3)
  have hr : (tx r).length <= 803 := Nat.le_trans (tx_len r) (Nat.add_le_add_right (Nat.mul_le_mul_left 8 hcr) 3)
  have h1 := Nat.add_le_add (opn_len t) hl
  have h2 := Nat.add_le_add h1 (sg_len s)
  have h3 := Nat.add_le_add h2 hr
  have main : ∀ Q : PV -> Prop, Q (.str (tx (.n t s l r))) -> CC TT (n + 1) 283 [] [fmPV l] fun b => BIN .Add (view [] (.str (opn t))) (view [] b) fun a => BIN .Add (view [] a) (.str (sg s)) fun a => CC TT (n + 1) 283 [] [fmPV r] fun b => BIN .Add (view [] a) (view [] b) fun a => BIN .Add (view [] a) (.str [41]) Q := fun Q q => by
   refine ihl n _ _ hn.1 hcl ⟨sz_le h1, sz_le (b := 807) (by rw [List.length_append]; exact h2), ?_⟩
   refine ihr n _ _ hn.2 hcr ⟨sz_le (b := 1610) ?_, sz_le (b := 1611) ?_, q⟩
   ·rw [List.length_append, List.length_append]; exact h3
   ·rw [List.length_append, List.length_append, List.length_append]; exact Nat.succ_le_succ h3
  exact .law_text ⟨rfl, fm_noPtr (.n t s l r) |> fun e => by show (noPtr _ && true) = true; rw [e]; rfl, by
   cases t
   ·exact ⟨rfl, main (fun d => outR [] d K) ⟨rfl, h⟩⟩
   ·exact ⟨rfl, main (fun d => outR [] d K) ⟨rfl, h⟩⟩⟩
theorem comp_of {body : Env' -> List PV -> (List PV -> Prop) -> Prop} {t : MT} {ρ : Env'} {F : PV -> List PV} {K : List PV -> Prop} (items acc : List PV)
  (hb : ∀ d ∈ items, ∀ acc K1, acc.length + (F d).length <= sizeLine -> K1 (acc ++ F d) -> asgT t d ρ fun ρ1 => body ρ1 acc K1) (hl : acc.length + (items.flatMap F).length <= sizeLine) (h : K (acc ++ items.flatMap F)) : compLoop body t ρ items acc K := by
 induction items generalizing acc with
 | nil => rw [List.flatMap_nil, List.append_nil] at h; exact h
 | cons d ds ih =>
  rw [List.flatMap_cons, List.length_append, <- Nat.add_assoc] at hl
  rw [List.flatMap_cons, <- List.append_assoc] at h
  exact hb d (.head _) acc _ (Nat.le_trans (Nat.le_add_right _ _) hl) (ih _ (fun d' hd' => hb d' (.tail _ hd')) (by rw [List.length_append]; exact hl) h)
theorem strsOf_map (l : List Nat) : strsOf (l.map fun c => .str [c]) = some (l.map fun c => [c]) := by
 induction l with
 | nil => rfl
 | cons c r ih => show (strsOf _).map _ = _; rw [ih]; rfl
theorem intsOf_map (l : List Int) : intsOf (l.map .int) = some l := by
 induction l with
 | nil => rfl
 | cons c r ih => show (intsOf _).map _ = _; rw [ih]; rfl
theorem single_contains (H : List Nat) (c : Nat) : (H.map fun c => [c]).contains [c] = H.contains c := by
 induction H with
 | nil => rfl
 | cons x r ih => rw [List.map_cons, List.contains_cons, List.contains_cons, ih, show ([c] == [x]) = (c == x && true) from rfl, Bool.and_true]
theorem flatMap_if {α β : Type} (p : α -> Bool) (g : α -> β) (l : List α) : l.flatMap (fun c => if p c then [g c] else []) = (l.filter p).map g := by
 induction l with
 | nil => rfl
 | cons c r ih => rw [List.flatMap_cons, ih, List.filter_cons]; split <;> simp
noncomputable def opS (s : Fin 9) (a b : Bool) : Bool := match s.val with
 | 0 => a && b
 | 1 => a || b
 | 3 => b || !a
 | 4 => b && !a
 | 5 => a || !b
 | 6 => a && !b
 | 7 => a == b
 | _ => a != b
noncomputable def hd : Fm -> List Nat -> Bool
 | .w i, H => (wl i).all fun c => H.contains c
 | .n t s l r, H => opS s (hd l H) (hd r H) != t
noncomputable def htPV (H : List Nat) : PV := .list (H.map fun c => .str [c])
theorem ht_noPtr (H : List Nat) : noPtr (htPV H) = true := noPtrs_iff.mpr fun d hd => by
 obtain ⟨c, _, rfl⟩ := List.mem_map.mp hd; rfl
theorem word_go {n : Nat} {K : PV -> Prop} (i : Fin 9) (H : List Nat) (h : K (.bool ((wl i).all fun c => H.contains c))) :
  EV TT (CC TT n) [some (.str (wl i)), some (htPV H), none, none, none, none, none, none, none] [] (.cmp .Eq (.comp 1 (.var 9) (.var 0) (.name 9) [(.cmp .NotIn (.var 9) (.var 1))] []) (.list [])) K := by
 have hF : ∀ l : List Nat, (l.map fun c => PV.str [c]).flatMap (fun d => match d with | .str l => if !(H.map fun c => [c]).contains l then [.str l] else [] | _ => []) = (l.filter fun c => !H.contains c).map fun c => PV.str [c] := fun l => by
  rw [List.flatMap_map]
  refine Eq.trans (congrArg (fun f => List.flatMap f l) (funext fun c => ?_)) (flatMap_if (fun c => !H.contains c) (fun c => PV.str [c]) l)
  show (if (!(H.map fun c => [c]).contains [c]) = true then _ else _) = _
  rw [single_contains]
 refine ⟨rfl, comp_of (F := fun d => match d with | .str l => if !(H.map fun c => [c]).contains l then [.str l] else [] | _ => []) _ _ (fun d hd acc K1 hl hk => ?_) ?_ ?_⟩
 ·obtain ⟨c, hc, rfl⟩ := List.mem_map.mp hd
  show match strsOf (H.map fun c => PV.str [c]) with | some xs => _ | none => False
  rw [strsOf_map]
  show match !(H.map fun c => [c]).contains [c] with | true => _ | false => _
  replace hl : acc.length + (if (!(H.map fun c => [c]).contains [c]) = true then [PV.str [c]] else []).length <= sizeLine := hl
  replace hk : K1 (acc ++ if (!(H.map fun c => [c]).contains [c]) = true then [PV.str [c]] else []) := hk
  cases e : !(H.map fun c => [c]).contains [c] with
  | true => rw [e] at hl hk; exact ⟨hl, hk⟩
  | false => rw [e] at hk; exact List.append_nil acc ▸ hk
 ·rw [hF]
  exact sz_le (b := 0 + 3) (Nat.add_le_add_left (Nat.le_trans (Nat.le_of_eq (List.length_map ..)) (Nat.le_trans (List.length_filter_le _ _) (wl_len i))) _)
 ·rw [hF]
  refine ⟨Nat.zero_le _, ?_⟩
  have e : (((wl i).filter fun c => !H.contains c).map fun c => PV.str [c]).isEmpty = (wl i).all fun c => H.contains c := by
   generalize wl i = l
   induction l with
   | nil => rfl
   | cons c r ih =>
    rw [List.filter_cons, List.all_cons]
    cases H.contains c with
    | true => exact ih
    | false => rfl
  show K (.bool (List.isEmpty ([] ++ ((wl i).filter fun c => !H.contains c).map fun c => PV.str [c])))
  rw [List.nil_append, e]; exact h
theorem f9 {P : Fin 9 -> Prop} (h0 : P 0) (h1 : P 1) (h2 : P 2) (h3 : P 3) (h4 : P 4) (h5 : P 5) (h6 : P 6) (h7 : P 7) (h8 : P 8) : ∀ i, P i := fun ⟨i, hi⟩ => by
 match i, hi with
 | 0, _ => exact h0
 | 1, _ => exact h1
 | 2, _ => exact h2
 | 3, _ => exact h3
 | 4, _ => exact h4
 | 5, _ => exact h5
 | 6, _ => exact h6
 | 7, _ => exact h7
 | 8, _ => exact h8
 | (n + 9), h => exact absurd h (Nat.not_lt.mpr (Nat.le_add_left 9 n))
theorem holds_end {T : Tabs} {C : CT} {K : PV -> Prop} {H L R : PV} {t a b : Bool} (s : Fin 9) (h : K (.bool (opS s a b != t))) : EX T C 0 [some (.tup [.bool t, .str (sg s), L, R]), some H, some (.bool t), some (.str (sg s)), some L, some R, some (.bool a), some (.bool b), none] [] (ms_law_holds.drop 4) fun fl _ μ => match fl with | .ret d => outR μ d K | .next => K .none | _ => False :=
 Eq.mpr (f9 (P := fun s => (EX T C 0 [some (.tup [.bool t, .str (sg s), L, R]), some H, some (.bool t), some (.str (sg s)), some L, some R, some (.bool a), some (.bool b), none] [] (ms_law_holds.drop 4) fun fl _ μ => match fl with | .ret d => outR μ d K | .next => K .none | _ => False) = outR [] (.bool (opS s a b != t)) K)
  (by cases a <;> kernel_rfl) (by cases a <;> kernel_rfl) (by kernel_rfl) (by cases b <;> kernel_rfl) (by cases b <;> kernel_rfl) (by cases a <;> kernel_rfl) (by cases a <;> kernel_rfl) (by kernel_rfl) (by kernel_rfl) s) ⟨rfl, h⟩
theorem noPtrs2 {a b : PV} (ha : noPtr a = true) (hb : noPtr b = true) : noPtrs [a, b] = true := by show (noPtr a && (noPtr b && true)) = true; rw [ha, hb]; rfl
theorem c_holds (f : Fm) : ∀ (n : Nat) (μ : List MV) (H : List Nat) (K : PV -> Prop), f.ht <= n -> K (.bool (hd f H)) -> CC TT (n + 1) 288 μ [fmPV f, htPV H] K := by
 induction f with
 | w i => exact fun n μ H K hn h => .law_holds ⟨rfl, noPtrs2 (fm_noPtr _) (ht_noPtr H), word_go (K := fun d => outR [] d K) i H ⟨rfl, h⟩⟩
 | n t s l r ihl ihr =>
  intro n μ H K hn h
  cases n with
  | zero => exact absurd hn (Nat.not_succ_le_zero _)
  | succ n =>
  have hn := Nat.max_le.mp (Nat.le_of_succ_le_succ hn)
  exact .law_holds ⟨rfl, noPtrs2 (fm_noPtr _) (ht_noPtr H), rfl, ihl n [] H _ hn.1 (ihr n [] H _ hn.2 (holds_end s h))⟩
section
variable {T : Tabs} {C : CT} {ro : Nat} {ρ : Env'} {μ : List MV} {r a b : List MS} {K : Fl -> Env' -> List MV -> Prop}
noncomputable def Ev (T : Tabs) (C : CT) (ρ : Env') (μ : List MV) (e : ME) (d : PV) : Prop := ∀ K : PV -> Prop, K d -> EV T C ρ μ e K
noncomputable def EvB (T : Tabs) (C : CT) (ρ : Env') (μ : List MV) (e : ME) (d : Bool) : Prop := ∀ K : Bool -> Prop, K d -> EVT T C ρ μ e K
theorem ex_append (a r : List MS) (ρ : Env') (μ : List MV) {K : Fl -> Env' -> List MV -> Prop} : EX T C ro ρ μ a (fun fl ρ1 μ1 => match fl with
  | .next => EX T C ro ρ1 μ1 r K
  | .brk => K .brk ρ1 μ1
  | .cont => K .cont ρ1 μ1
  | .ret d => K (.ret d) ρ1 μ1) = EX T C ro ρ μ (a ++ r) K := by
 induction a generalizing ρ μ with
 | nil => rfl
 | cons s a ih =>
  refine congrArg (EX1 T C ro ρ μ s) (funext fun fl => funext fun ρ1 => funext fun μ1 => ?_)
  cases fl with
  | next => exact ih ρ1 μ1
  | _ => rfl
theorem ex_nil (h : K .next ρ μ) : EX T C ro ρ μ [] K := h
theorem ex_asg {i : Nat} {e : ME} {d : PV} (h : Ev T C ρ μ e d) (k : EX T C ro (ρ.set i (some d)) μ r K) : EX T C ro ρ μ (.asg (.name i) e :: r) K := h _ k
theorem ex_asgV {i : Nat} {e : ME} (h : EV T C ρ μ e fun d => EX T C ro (ρ.set i (some d)) μ r K) : EX T C ro ρ μ (.asg (.name i) e :: r) K := h
theorem ex_own {i : Nat} {es : List ME} {ds : List PV} (h : ∀ K : List PV -> Prop, K ds -> EVs T C ρ μ es K) (hl : ds.length <= sizeLine) (k : EX T C ro (ρ.set i (some (.ptr μ.length))) (μ ++ [.list ds]) r K) : EX T C ro ρ μ (.own i es :: r) K := h _ ⟨hl, k⟩
theorem ex_own0 {i : Nat} (k : EX T C ro (ρ.set i (some (.ptr μ.length))) (μ ++ [.list []]) r K) : EX T C ro ρ μ (.own i [] :: r) K :=
 ex_own (ds := []) (fun K h => h) (Nat.zero_le _) k
theorem ex_aug {i : Nat} {op : Operator} {e : ME} {x y : Int} {d : PV} (hi : ρ[i]? = some (some (.int x))) (h : Ev T C ρ μ e (.int y)) (hb : ∀ K : PV -> Prop, K d -> BIN op (.int x) (.int y) K) (k : EX T C ro (ρ.set i (some d)) μ r K) : EX T C ro ρ μ (.aug i op e :: r) K :=
 rOO (P := fun d => match d with | .int a => EV T C ρ μ e fun b => (match b with | .int _ => True | _ => False) /\ BIN op (.int a) b fun d => EX T C ro (ρ.set i (some d)) μ r K | _ => False) hi (h _ ⟨trivial, hb _ k⟩)
theorem ex_ife {t : ME} {c : Bool} (h : EvB T C ρ μ t c) (k : EX T C ro ρ μ ((if c then a else b) ++ r) K) : EX T C ro ρ μ (.ife t a b :: r) K := by
 refine h _ ?_
 cases c with
 | false => exact (ex_append b r ρ μ).mpr k
 | true => exact (ex_append a r ρ μ).mpr k
theorem ex_ret {e : ME} {d : PV} (h : Ev T C ρ μ e d) (k : K (.ret d) ρ μ) : EX T C ro ρ μ (.ret e :: r) K := h _ k
theorem ex_brk (k : K .brk ρ μ) : EX T C ro ρ μ (.brk :: r) K := k
theorem mutI {i : Nat} {l : List PV} {K : Nat -> List PV -> Prop} (hi : μ[i]? = some (.list l)) (hr : ro <= i) (h : K i l) : mutAt μ ro (.ptr i) K := by
 show match μ[i]? with | some (.list l) => ro <= i /\ K i l | _ => False
 rw [hi]; exact ⟨hr, h⟩
theorem ex_app {o e : ME} {i : Nat} {l : List PV} {d : PV} (ho : Ev T C ρ μ o (.ptr i)) (h : Ev T C ρ μ e d) (hi : μ[i]? = some (.list l)) (hr : ro <= i) (hl : l.length < sizeLine) (k : EX T C ro ρ (μ.set i (.list (l ++ [d]))) r K) : EX T C ro ρ μ (.app o e :: r) K :=
 ho _ ⟨mutI hi hr trivial, h _ (mutI hi hr ⟨hl, k⟩)⟩
theorem ex_pop {o : ME} {i j : Nat} {l : List PV} {d : PV} (ho : Ev T C ρ μ o (.ptr i)) (hi : μ[i]? = some (.list (l ++ [d]))) (hr : ro <= i) (hl : l.length < sizeLine) (k : EX T C ro (ρ.set j (some d)) (μ.set i (.list l)) r K) : EX T C ro ρ μ (.pop j o :: r) K := by
 refine ho _ (mutI hi hr ⟨⟨List.append_ne_nil_of_right_ne_nil _ (List.cons_ne_nil _ _), by rw [List.length_append]; exact hl⟩, ?_⟩)
 rw [List.getLastD_concat, List.dropLast_concat]; exact k
theorem ex_popD {o : ME} {i : Nat} {l : List PV} {d : PV} (ho : Ev T C ρ μ o (.ptr i)) (hi : μ[i]? = some (.list (l ++ [d]))) (hr : ro <= i) (hl : l.length < sizeLine) (k : EX T C ro ρ (μ.set i (.list l)) r K) : EX T C ro ρ μ (.popD o :: r) K := by
 refine ho _ (mutI hi hr ⟨⟨List.append_ne_nil_of_right_ne_nil _ (List.cons_ne_nil _ _), by rw [List.length_append]; exact hl⟩, ?_⟩)
 rw [List.dropLast_concat]; exact k
theorem ex_appendK {a r : List MS} {ρ : Env'} {μ : List MV} {K K' : Fl -> Env' -> List MV -> Prop} (hk : K' = fun fl ρ1 μ1 => match fl with
  | .next => EX T C ro ρ1 μ1 r K
  | .brk => K .brk ρ1 μ1
  | .cont => K .cont ρ1 μ1
  | .ret d => K (.ret d) ρ1 μ1) (h : EX T C ro ρ μ (a ++ r) K) : EX T C ro ρ μ a K' := by
 subst hk
 rw [ex_append]
 exact h
theorem ex_for {t : MT} {it : ME} {items : List PV} {ro1 : Nat} {J : List PV -> Env' -> List MV -> Prop} (hs : ∀ Q : List PV -> Nat -> Prop, Q items ro1 -> EVS T C ρ μ ro it Q) (h0 : J items ρ μ)
  (hb : ∀ d ds ρ μ, J (d :: ds) ρ μ -> asgT t d ρ fun ρ0 => ∀ K' : Fl -> Env' -> List MV -> Prop, (∀ ρ1 μ1, J ds ρ1 μ1 -> K' .next ρ1 μ1) -> (∀ ρ1 μ1, J ds ρ1 μ1 -> K' .cont ρ1 μ1) -> (∀ ρ1 μ1, EX T C ro ρ1 μ1 r K -> K' .brk ρ1 μ1) -> EX T C ro1 ρ0 μ b K')
  (he : ∀ ρ μ, J [] ρ μ -> EX T C ro ρ μ (a ++ r) K) : EX T C ro ρ μ (.fr t it b a :: r) K := by
 show EVS T C ρ μ ro it fun items ro1 => forRun (fun ρ μ K => EX T C ro1 ρ μ b K) (fun ρ μ K => EX T C ro ρ μ a K) t items ρ μ (fun fl ρ1 μ1 => match fl with
  | .next => EX T C ro ρ1 μ1 r K
  | .brk => K .brk ρ1 μ1
  | .cont => K .cont ρ1 μ1
  | .ret d => K (.ret d) ρ1 μ1)
 refine hs _ ?_
 clear hs
 induction items generalizing ρ μ with
 | nil => exact ex_appendK rfl (he _ _ h0)
 | cons d ds ih =>
  refine asgT_mono (hb d ds ρ μ h0) fun ρ0 h => ?_
  exact h _ (fun ρ1 μ1 h1 => ih h1) (fun ρ1 μ1 h1 => ih h1) fun ρ1 μ1 h1 => h1
theorem ex_while {t : ME} {J : Nat -> Env' -> List MV -> Prop} {m : Nat} (h0 : J m ρ μ)
  (hb : ∀ m ρ μ, J m ρ μ -> ∃ c, EvB T C ρ μ t c /\ (c = false -> EX T C ro ρ μ r K) /\ (c = true -> ∀ K' : Fl -> Env' -> List MV -> Prop, (∀ m' ρ1 μ1, m' < m -> J m' ρ1 μ1 -> K' .next ρ1 μ1) -> EX T C ro ρ μ b K')) : EX T C ro ρ μ (.whil t b :: r) K := by
 refine ⟨m + 1, ?_⟩
 suffices ∀ (n m : Nat) (ρ : Env') (μ : List MV), m < n -> J m ρ μ -> whileRun (fun ρ μ K => EVT T C ρ μ t K) (fun ρ μ K => EX T C ro ρ μ b K) n ρ μ (fun fl ρ1 μ1 => match fl with
  | .next => EX T C ro ρ1 μ1 r K
  | .brk => K .brk ρ1 μ1
  | .cont => K .cont ρ1 μ1
  | .ret d => K (.ret d) ρ1 μ1) from this (m + 1) m ρ μ (Nat.lt_succ_self _) h0
 intro n
 induction n with
 | zero => exact fun m ρ μ h => absurd h (Nat.not_lt_zero _)
 | succ n ih =>
  intro m ρ μ hm hj
  obtain ⟨c, h1, h2, h3⟩ := hb m ρ μ hj
  refine h1 _ ?_
  cases c with
  | false => exact h2 rfl
  | true => exact h3 rfl _ fun m' ρ1 μ1 h4 h5 => ih m' ρ1 μ1 (Nat.lt_of_lt_of_le h4 (Nat.le_of_lt_succ hm)) h5
end
noncomputable def hexL (i : Int) : List Nat := (baseText "0x" 16 i).cps.toList
noncomputable def fnm (i : Int) : List Nat := (flagL.lookup i).getD (hexL i)
noncomputable def pfGo : List Nat -> Int -> List (List Nat) -> Option (List (List Nat))
 | [], fl, ns => if (baseText "0x" 16 fl).length <= sizeLine then some (ns ++ [hexL fl]) else none
 | i :: r, fl, ns => if Builtin.bitAnd fl (2 ^ i) != 0 then
   (if Builtin.bitXor fl (2 ^ i) != 0 then pfGo r (Builtin.bitXor fl (2 ^ i)) (ns ++ [fnm (2 ^ i)]) else some (ns ++ [fnm (2 ^ i)]))
  else pfGo r fl ns
noncomputable def joinL (ns : List (List Nat)) : Option (List Nat) := if JoinOk (strOf [44, 32]) (ns.map strOf) then some (Txt.join (strOf [44, 32]) (ns.map strOf)).cps.toList else none
noncomputable def pf (m : Int) : Option (List Nat) := (pfGo (List.range 32) m []).bind joinL
theorem strsOf_all (l : List (List Nat)) : strsOf (l.map .str) = some l := by
 induction l with
 | nil => rfl
 | cons c r ih => simp [strsOf, ih]
theorem ev_var {T : Tabs} {C : CT} {ρ : Env'} {μ : List MV} {i : Nat} {d : PV} (h : ρ[i]? = some (some d)) : Ev T C ρ μ (.var i) d := fun K k => rOO (P := K) h k
theorem hex_ok : ∀ i, i < 32 -> (baseText "0x" 16 (1 * 2 ^ i)).length <= sizeLine := by decide +kernel
theorem pf_end {T : Tabs} {C : CT} {fl : Int} {ns : List (List Nat)} {a b : Option PV} {x : List Nat} {K : Fl -> Env' -> List MV -> Prop} (h : joinL ns = some x)
  (k : K (.ret (.str x)) [some (.int fl), some (.ptr 0), a, b] [.list (ns.map .str)]) : EX T C 0 [some (.int fl), some (.ptr 0), a, b] [.list (ns.map .str)] [.ret (.meth .join (.lit (.str [44, 32])) [(.var 1)])] K := by
 unfold joinL at h
 split at h
 ·rename_i hj
  refine ex_ret (d := .str x) (fun Q q => ?_) k
  show match strsOf (ns.map .str) with | some xs => JoinOk (strOf [44, 32]) (xs.map strOf) = true /\ Q (.str (Txt.join (strOf [44, 32]) (xs.map strOf)).cps.toList) | none => False
  rw [strsOf_all]
  simp only [Option.some.injEq] at h
  subst h
  exact ⟨hj, q⟩
 ·cases h
theorem c_pretty {n : Nat} {μ : List MV} {K : PV -> Prop} {m : Int} {x : List Nat} (hx : pf m = some x) (h : K (.str x)) : CC TT (n + 1) 46 μ [.int m] K := .pretty_flags ⟨rfl, rfl, by
 unfold pf at hx
 obtain ⟨ns, h1, h2⟩ := Option.bind_eq_some_iff.mp hx
 simp only [List.map, List.replicate, List.cons_append, List.nil_append, Nat.reduceSub]
 refine ex_own0 ?_
 simp only [List.set, List.length_nil, List.nil_append]
 refine ex_for (items := (List.range 32).map fun (i : Nat) => .int (0 + (i : Int))) (ro1 := 0)
  (J := fun ds ρ μ => ∃ (is : List Nat) (fl : Int) (ms : List (List Nat)) (a b : Option PV), ds = is.map (fun (i : Nat) => .int (0 + (i : Int))) /\ (∀ i ∈ is, i < 32) /\ ms.length + is.length <= 32 /\ ρ = [some (.int fl), some (.ptr 0), a, b] /\ μ = [.list (ms.map .str)] /\ pfGo is fl ms = some ns)
  (fun Q q => ?_) ⟨List.range 32, m, [], none, none, rfl, fun i hi => List.mem_range.mp hi, by decide, rfl, rfl, h1⟩ ?_ ?_
 ·exact ⟨by decide, q⟩
 ·rintro d ds ρ μ ⟨is, fl, ms, a, b, e1, e2, e3, rfl, rfl, e4⟩
  match is, e1, e2, e3, e4 with
  | i :: is, e1, e2, e3, e4 =>
  simp only [List.map_cons, List.cons.injEq] at e1
  obtain ⟨rfl, rfl⟩ := e1
  have hi := e2 i (.head _)
  dsimp only [asgT, List.set]
  intro K' kn kc kb
  have ei : ((0 : Int) + (i : Int)).toNat = i := by lia
  have p1 : (1 : Int) * 2 ^ i = 2 ^ i := Int.one_mul _
  refine ex_asg (d := .int (1 * 2 ^ i)) (fun Q q => ?_) ?_
  ·refine ⟨⟨by lia, by lia, by decide⟩, ?_⟩
   rw [ei]
   exact q
  simp only [List.set]
  unfold pfGo at e4
  refine ex_ife (c := Builtin.bitAnd fl (1 * 2 ^ i) != 0) (fun Q q => ?_) ?_
  ·exact q
  rw [p1]
  cases hb : (Builtin.bitAnd fl (2 ^ i) != 0) with
  | false =>
   rw [hb] at e4
   exact ex_nil (kn _ _ ⟨is, fl, ms, _, _, rfl, fun j hj => e2 j (.tail _ hj), by simp at e3; exact Nat.le_of_lt ‹_›, rfl, rfl, e4⟩)
  | true =>
   rw [hb] at e4
   simp only [if_true] at e4 ⊢
   refine ex_app (i := 0) (l := ms.map .str) (d := .str (fnm (2 ^ i))) (ev_var rfl) (fun Q q => ?_) rfl (Nat.le_refl _) (by rw [sizeLine_eq]; simp at e3 ⊢; lia) ?_
   ·refine ⟨p1 ▸ hex_ok i hi, ?_⟩
    show Q (((flagL.lookup (2 ^ i)).map PV.str).getD (.str (baseText "0x" 16 (2 ^ i)).cps.toList))
    have : ((flagL.lookup (2 ^ i)).map PV.str).getD (.str (baseText "0x" 16 (2 ^ i)).cps.toList) = .str (fnm (2 ^ i)) := by
     unfold fnm hexL
     cases flagL.lookup (2 ^ i) <;> rfl
    rw [this]
    exact q
   refine ex_aug (x := fl) (y := 2 ^ i) (d := .int (Builtin.bitXor fl (2 ^ i))) rfl (ev_var rfl) (fun Q q => by exact q) ?_
   simp only [List.set]
   refine ex_ife (c := !(Builtin.bitXor fl (2 ^ i) != 0)) (fun Q q => ?_) ?_
   ·exact q
   have es : ms.map PV.str ++ [.str (fnm (2 ^ i))] = (ms ++ [fnm (2 ^ i)]).map .str := by simp
   rw [es]
   cases hc : (Builtin.bitXor fl (2 ^ i) != 0) with
   | false =>
    rw [hc] at e4
    simp only [Bool.false_eq_true, if_false, Option.some.injEq] at e4
    subst e4
    exact ex_brk (kb _ _ (pf_end h2 ⟨rfl, h⟩))
   | true =>
    rw [hc] at e4
    exact ex_nil (kn _ _ ⟨is, _, _, _, _, rfl, fun j hj => e2 j (.tail _ hj), by simp at e3 ⊢; lia, rfl, rfl, e4⟩)
 ·rintro ρ μ ⟨is, fl, ms, a, b, e1, e2, e3, rfl, rfl, e4⟩
  match is, e1, e4 with
  | [], _, e4 =>
  unfold pfGo at e4
  split at e4
  ·rename_i hz
   simp only [Option.some.injEq] at e4
   subst e4
   refine ex_app (i := 0) (l := ms.map .str) (d := .str (hexL fl)) (ev_var rfl) (fun Q q => ?_) rfl (Nat.le_refl _) (by rw [sizeLine_eq]; simp at e3 ⊢; lia) ?_
   ·exact ⟨hz, q⟩
   have es : ms.map PV.str ++ [.str (hexL fl)] = (ms ++ [hexL fl]).map .str := by simp
   rw [es]
   exact pf_end h2 ⟨rfl, h⟩
  ·cases e4⟩
noncomputable def sgc (s : Fin 9) : Int := [19, 18, 32, 29, 20, 30, 21, 27, 28].getD s.val 0
noncomputable def stS (s : Fin 9) (l r both : List Int) : List Int := match s.val with
 | 0 => both
 | 1 => l ++ r ++ both
 | 2 => l ++ r
 | 3 => [0] ++ l ++ both
 | 4 => r ++ both
 | 5 => [0] ++ r ++ both
 | 6 => l ++ both
 | 7 => [0] ++ l ++ r
 | _ => l ++ r
noncomputable def bothI (l r : List Int) : List Int := l.flatMap fun a => r.map fun b => Builtin.bitOr a b
theorem ints_noPtr (l : List Int) : noPtrs (l.map .int) = true := noPtrs_iff.mpr fun d hd => by
 obtain ⟨c, _, rfl⟩ := List.mem_map.mp hd; rfl
theorem both_len (l r : List Int) : (bothI l r).length = l.length * r.length := by
 unfold bothI
 induction l with
 | nil => simp
 | cons a l ih => rw [List.flatMap_cons, List.length_append, ih]; simp [Nat.succ_mul]; lia
theorem ex_dret {T : Tabs} {C : CT} {ro : Nat} {ρ : Env'} {μ : List MV} {i : Nat} {ks : List Int} {es : List ME} {j : ME} {r : List MS} {K : Fl -> Env' -> List MV -> Prop} {ds : List PV} {x : Int} {d : PV} (hi : ρ[i]? = some none) (he : ∀ Q : List PV -> Prop, Q ds -> EVs T C ρ μ es Q) (hj : Ev T C ρ μ j (.int x))
  (hl : (ks.zip ds).lookup x = some d) (k : K (.ret d) ρ μ) : EX T C ro ρ μ (.dret i ks es j :: r) K := ⟨hi, he _ (hj _ (by
 show match (ks.zip ds).lookup x with | some d => K (.ret d) ρ μ | none => False
 rw [hl]; exact k))⟩
theorem c_sets {n : Nat} {μ : List MV} {K : PV -> Prop} (s : Fin 9) (l r : List Int) (hl : l.length <= 1000) (hr : r.length <= 1000) (h : K (.list ((stS s l r (bothI l r)).map .int))) :
  CC TT (n + 1) 310 μ [.int (sgc s), .list (l.map .int), .list (r.map .int)] K := .law_sets ⟨rfl, by simp [noPtrs, noPtr, ints_noPtr], by
 have hz := sizeLine_eq
 have hbl := both_len l r
 have hm : l.length * r.length <= 1000 * 1000 := Nat.mul_le_mul hl hr
 have inner : ∀ a : Int, (r.map PV.int).flatMap (fun d => match d with | PV.int b => [PV.int (Builtin.bitOr a b)] | _ => []) = (r.map fun b => Builtin.bitOr a b).map .int := fun a => by
  rw [List.flatMap_map]
  generalize r = r
  induction r with
  | nil => rfl
  | cons b r ih => rw [List.flatMap_cons, ih]; rfl
 have outer : (l.map PV.int).flatMap (fun d => match d with | PV.int a => (r.map fun b => Builtin.bitOr a b).map PV.int | _ => []) = (bothI l r).map .int := by
  unfold bothI
  rw [List.flatMap_map, List.map_flatMap]
 refine ex_asg (d := .list ((bothI l r).map .int)) (fun Q q => ?_) ?_
 ·refine ⟨rfl, comp_of (F := fun d => match d with | PV.int a => (r.map fun b => Builtin.bitOr a b).map PV.int | _ => []) _ _ (fun d hd acc K1 hl1 hk => ?_) ?_ ?_⟩
  ·obtain ⟨a, ha, rfl⟩ := List.mem_map.mp hd
   refine ⟨rfl, comp_of (F := fun d => match d with | PV.int b => [PV.int (Builtin.bitOr a b)] | _ => []) _ _ (fun d hd acc K1 hl1 hk => ?_) ?_ ?_⟩
   ·obtain ⟨b, hb, rfl⟩ := List.mem_map.mp hd
    simp only [List.length_singleton] at hl1
    exact ⟨by trivial, hk⟩
   ·rw [inner]; exact hl1
   ·rw [inner]; exact hk
  ·rw [outer]; simp only [List.length_map, List.length_nil]; lia
  ·rw [outer]; exact q
 have evs : ∀ Q : List PV -> Prop, Q [.list ((l ++ r ++ bothI l r).map .int), .list ((bothI l r).map .int), .list ((r ++ bothI l r).map .int), .list ((l ++ bothI l r).map .int), .list (([0] ++ l ++ r).map .int), .list ((l ++ r).map .int), .list (([0] ++ l ++ bothI l r).map .int), .list (([0] ++ r ++ bothI l r).map .int), .list ((l ++ r).map .int)] ->
   EVs TT (CC TT n) [some (.int (sgc s)), some (.list (l.map .int)), some (.list (r.map .int)), some (.list ((bothI l r).map .int)), none] [] [(.bin .Add (.bin .Add (.var 1) (.var 2)) (.var 3)), (.var 3), (.bin .Add (.var 2) (.var 3)), (.bin .Add (.var 1) (.var 3)), (.bin .Add (.bin .Add (.list [(.lit (.int 0))]) (.var 1)) (.var 2)), (.bin .Add (.var 1) (.var 2)), (.bin .Add (.bin .Add (.list [(.lit (.int 0))]) (.var 1)) (.var 3)), (.bin .Add (.bin .Add (.list [(.lit (.int 0))]) (.var 2)) (.var 3)), (.bin .Add (.var 1) (.var 2))] Q := fun Q q => by
  simp only [List.map_append, List.map_cons, List.map_nil] at q
  have L : (l.map PV.int).length <= 1000 := by rw [List.length_map]; exact hl
  have R : (r.map PV.int).length <= 1000 := by rw [List.length_map]; exact hr
  have B : ((bothI l r).map PV.int).length <= 1000000 := by rw [List.length_map, hbl]; exact hm
  have LR := @List.length_append _ (l.map PV.int) (r.map PV.int)
  have z1 : 1 <= sizeLine := sz_le (Nat.le_refl 1)
  have zl : 1 + (l.map PV.int).length <= sizeLine := by lia
  have zr : 1 + (r.map PV.int).length <= sizeLine := by lia
  have OL := @List.length_append _ [PV.int 0] (l.map PV.int)
  have OR := @List.length_append _ [PV.int 0] (r.map PV.int)
  have c1 : [PV.int 0].length = 1 := rfl
  have lr : (l.map PV.int).length + (r.map PV.int).length <= sizeLine := by lia
  exact ⟨lr, by lia, by lia, by lia, z1, zl, by lia, lr, z1, zl, by lia, z1, zr, by lia, lr, q⟩
 refine ex_dret (d := .list ((stS s l r (bothI l r)).map .int)) rfl evs (ev_var rfl) ?_ ⟨ints_noPtr _, h⟩
 obtain ⟨s, hs⟩ := s
 match s, hs with
 | 0, _ => rfl
 | 1, _ => rfl
 | 2, _ => rfl
 | 3, _ => rfl
 | 4, _ => rfl
 | 5, _ => rfl
 | 6, _ => rfl
 | 7, _ => rfl
 | 8, _ => rfl
 | (s + 9), hs => lia⟩
set_option genInjectivity true in
inductive PE where
 | i (k : Int)
 | s (l : List Int)
noncomputable def pePV : PE -> PV
 | .i k => .int k
 | .s l => .list (l.map .int)
noncomputable def pil (P : List PE) : List PV := P.reverse.map pePV
theorem pil_cons (x : PE) (P : List PE) : pil (x :: P) = pil P ++ [pePV x] := by simp [pil]
theorem pil_len (P : List PE) : (pil P).length = P.length := by simp [pil]
noncomputable def notTop (P : List PE) : Prop := P.head? ≠ some (.i 31)
inductive Run (b : Nat -> Int) : List Int -> List PE -> Bool -> List Int -> Prop
 | eof {fin w} : Run b [0] [.s fin] w fin
 | close {ts s l r P w fin} : l.length <= 1000 -> r.length <= 1000 -> Run b ts (.s (stS s l r (bothI l r) ++ [0]) :: P) false fin -> Run b (8 :: ts) (.s r :: .i (sgc s) :: .s l :: .i 7 :: .i 31 :: P) w fin
 | close0 {ts s l r P w fin} : l.length <= 1000 -> r.length <= 1000 -> notTop P -> Run b ts (.s (stS s l r (bothI l r)) :: P) false fin -> Run b (8 :: ts) (.s r :: .i (sgc s) :: .s l :: .i 7 :: P) w fin
 | term {ts x P w fin} : x < 256 -> x ≠ 0 -> x ≠ 8 -> Run b ts (.i x :: P) false fin -> Run b (x :: ts) P w fin
 | more {ts} {c : Nat} {l P fin} : c < 3 -> l.length <= 1000 -> Run b ts (.s (l.map fun a => Builtin.bitOr a (b c)) :: P) true fin -> Run b ((256 + (c : Int)) :: ts) (.s l :: P) true fin
 | new {ts} {c : Nat} {P fin} : c < 3 -> Run b ts (.s [b c] :: P) true fin -> Run b ((256 + (c : Int)) :: ts) P false fin
section
variable {n : Nat} {b : Nat -> Int}
noncomputable def mEnv (row bits : PV) (dn : PV) (w : Bool) (e5 e6 e7 e8 e9 : Option PV) : Env' := [some row, some bits, some (.ptr 0), some dn, some (.bool w), e5, e6, e7, e8, e9]
noncomputable def bitsPV (b : Nat -> Int) : PV := .list [.int (b 0), .int (b 1), .int (b 2)]
noncomputable def mBody : List MS := [(.ife (.call 134 [(.var 5)]) [(.asg (.name 3) (.comp 2 (.var 11) (.var 2) (.name 10) [] [.mk (.name 11) (.var 10) []]))] [(.ife (.cmp .Eq (.var 5) (.lit (.int 8))) [(.pop 6 (.var 2)), (.pop 7 (.var 2)), (.pop 8 (.var 2)), (.popD (.var 2)), (.asg (.name 9) (.call 310 [(.var 7), (.var 8), (.var 6)])), (.ife (.bop true (.cmp .NotEq (.var 2) (.list [])) (.cmp .Eq (.last (.var 2)) (.lit (.int 31)))) [(.popD (.var 2)), (.asg (.name 9) (.bin .Add (.var 9) (.list [(.lit (.int 0))])))] []), (.app (.var 2) (.var 9))] [(.ife (.call 120 [(.var 5)]) [(.app (.var 2) (.var 5))] [(.ife (.var 4) [(.appc (.var 2) (.bin .BitOr (.var 10) (.sub (.var 1) (.bin .Sub (.var 5) (.lit (.int 256))))) 1 10 (.var 2))] [(.app (.var 2) (.list [(.sub (.var 1) (.bin .Sub (.var 5) (.lit (.int 256))))]))])])])]), (.asg (.name 4) (.call 127 [(.var 5)]))]
noncomputable abbrev EC (n : Nat) := EX TT (CC TT (n + 1)) 0
theorem evb_call1 {T : Tabs} {C : CT} {ρ : Env'} {μ : List MV} {a : Addr} {i : Nat} {d : PV} {c : Bool} (h : ρ[i]? = some (some d)) (k : ∀ K : PV -> Prop, K (.bool c) -> C a μ [d] K) : EvB T C ρ μ (.call a [.var i]) c := fun K q => rOO (P := fun d => C a μ [d] fun d => TRU (view μ d) K) h (k _ q)
theorem ev_call1 {T : Tabs} {C : CT} {ρ : Env'} {μ : List MV} {a : Addr} {i : Nat} {d x : PV} (h : ρ[i]? = some (some d)) (k : ∀ K : PV -> Prop, K x -> C a μ [d] K) : Ev T C ρ μ (.call a [.var i]) x := fun K q => rOO (P := fun d => C a μ [d] K) h (k K q)
theorem evb_eqi {T : Tabs} {C : CT} {ρ : Env'} {μ : List MV} {i : Nat} {x y : Int} {c : Bool} (h : ρ[i]? = some (some (.int x))) (e : (x == y) = c) : EvB T C ρ μ (.cmp .Eq (.var i) (.lit (.int y))) c := fun K q => rOO (P := fun d => CMP .Eq (view μ d) (.int y) K) h (show K (x == y) from e.symm ▸ q)
theorem evb_var {T : Tabs} {C : CT} {ρ : Env'} {μ : List MV} {i : Nat} {x : Bool} (h : ρ[i]? = some (some (.bool x))) : EvB T C ρ μ (.var i) x := fun K q => rOO (P := fun d => TRU (view μ d) K) h q
theorem ev_list1 {T : Tabs} {C : CT} {ρ : Env'} {μ : List MV} {e : ME} {d : PV} (h : Ev T C ρ μ e d) : Ev T C ρ μ (.list [e]) (.list [d]) := fun K q => h _ ⟨sz_le (b := 1) (Nat.le_refl _), q⟩
theorem m_end {row bits dn : PV} {w : Bool} {x : Int} {e6 e7 e8 e9 : Option PV} {μ : List MV} {K : Fl -> Env' -> List MV -> Prop} (k : K .next (mEnv row bits dn (decide (256 <= x)) (some (.int x)) e6 e7 e8 e9) μ) :
  EC n (mEnv row bits dn w (some (.int x)) e6 e7 e8 e9) μ [(.asg (.name 4) (.call 127 [(.var 5)]))] K :=
 ex_asg (d := .bool (decide (256 <= x))) (ev_call1 (d := .int x) rfl fun K q => c_nont x q) (ex_nil k)
theorem m_eof {row bits dn : PV} {w : Bool} {fin : List Int} {e6 e7 e8 e9 : Option PV} {K : Fl -> Env' -> List MV -> Prop} (hl : fin.length <= sizeLine) (k : K .next (mEnv row bits (.list (fin.map .int)) false (some (.int 0)) e6 e7 e8 e9) [.list (pil [.s fin])]) :
  EC n (mEnv row bits dn w (some (.int 0)) e6 e7 e8 e9) [.list (pil [.s fin])] mBody K := by
 refine ex_ife (c := true) (evb_call1 (d := .int 0) rfl fun K q => c_eof 0 q) ?_
 refine ex_asg (d := .list (fin.map .int)) (fun Q q => ?_) (m_end k)
 have e0 : ∀ l : List Int, (l.map PV.int).flatMap (fun d => [d]) = l.map .int := fun l => List.flatMap_singleton' _
 refine ⟨rfl, comp_of (F := fun _ => fin.map .int) _ _ (fun d hd acc K1 hl1 hk => ?_) ?_ ?_⟩
 ·cases List.mem_singleton.mp hd
  refine ⟨rfl, comp_of (F := fun d => [d]) _ _ (fun d hd acc K1 hl1 hk => ⟨hl1, hk⟩) ?_ ?_⟩
  ·rw [e0]; exact hl1
  ·rw [e0]; exact hk
 ·show 0 + (fin.map PV.int ++ []).length <= _
  rw [List.append_nil, Nat.zero_add, List.length_map]; exact hl
 ·show Q (.list (fin.map PV.int ++ []))
  rw [List.append_nil]; exact q
theorem sz3 {a : Nat} (h : a <= 1000) : a < sizeLine := sz_le (b := 1001) (Nat.succ_le_succ h)
theorem m_term {row bits dn : PV} {w : Bool} {x : Int} {P : List PE} {e6 e7 e8 e9 : Option PV} {K : Fl -> Env' -> List MV -> Prop} (hx : x < 256) (h0 : x ≠ 0) (h8 : x ≠ 8) (hl : P.length <= 1000) (k : K .next (mEnv row bits dn false (some (.int x)) e6 e7 e8 e9) [.list (pil (.i x :: P))]) :
  EC n (mEnv row bits dn w (some (.int x)) e6 e7 e8 e9) [.list (pil P)] mBody K := by
 refine ex_ife (c := false) (evb_call1 (d := .int x) rfl fun K q => c_eof x (beq_false_of_ne h0 ▸ q)) ?_
 refine ex_ife (c := false) (evb_eqi (x := x) rfl (beq_false_of_ne h8)) ?_
 refine ex_ife (c := true) (evb_call1 (d := .int x) rfl fun K q => c_term x ((decide_eq_true hx).symm ▸ q)) ?_
 refine ex_app (i := 0) (l := pil P) (d := .int x) (ev_var rfl) (ev_var rfl) rfl (Nat.le_refl _) (by rw [pil_len]; exact sz3 hl) ?_
 refine m_end ?_
 rw [pil_cons] at k
 rw [decide_eq_false (Int.not_le.mpr hx)]
 exact k
theorem sub_bit {T : Tabs} {C : CT} {ρ : Env'} {μ : List MV} {c : Nat} (hc : c < 3) (h1 : ρ[1]? = some (some (bitsPV b))) (h5 : ρ[5]? = some (some (.int (256 + (c : Int))))) : Ev T C ρ μ (.sub (.var 1) (.bin .Sub (.var 5) (.lit (.int 256)))) (.int (b c)) := fun Q q => by
 refine rOO (P := fun a => EV T C ρ μ (.bin .Sub (.var 5) (.lit (.int 256))) fun b => SUB (view μ a) b Q) h1 (rOO (P := fun a => BIN .Sub (view μ a) (.int 256) fun d => SUB (bitsPV b) d Q) h5 ?_)
 show nth [.int (b 0), .int (b 1), .int (b 2)] (256 + (c : Int) - 256) Q
 match c, hc with
 | 0, _ => exact ⟨by decide, by decide, show 0 < 3 by decide, q⟩
 | 1, _ => exact ⟨by decide, by decide, show 1 < 3 by decide, q⟩
 | 2, _ => exact ⟨by decide, by decide, show 2 < 3 by decide, q⟩
theorem tc0 (c : Nat) : (256 + (c : Int) == 0) = false := beq_false_of_ne (by lia)
theorem tc8 (c : Nat) : (256 + (c : Int) == 8) = false := beq_false_of_ne (by lia)
theorem tcl (c : Nat) : false = decide (256 + (c : Int) < 256) := (decide_eq_false (by lia)).symm
theorem tcg (c : Nat) : decide (256 <= 256 + (c : Int)) = true := decide_eq_true (by lia)
theorem m_new {row dn : PV} {c : Nat} {P : List PE} {e6 e7 e8 e9 : Option PV} {K : Fl -> Env' -> List MV -> Prop} (hc : c < 3) (hl : P.length <= 1000) (k : K .next (mEnv row (bitsPV b) dn true (some (.int (256 + (c : Int)))) e6 e7 e8 e9) [.list (pil (.s [b c] :: P))]) :
  EC n (mEnv row (bitsPV b) dn false (some (.int (256 + (c : Int)))) e6 e7 e8 e9) [.list (pil P)] mBody K := by
 refine ex_ife (c := false) (evb_call1 (d := .int (256 + (c : Int))) rfl fun K q => c_eof _ (tc0 c ▸ q)) ?_
 refine ex_ife (c := false) (evb_eqi (x := 256 + (c : Int)) rfl (tc8 c)) ?_
 refine ex_ife (c := false) (evb_call1 (d := .int (256 + (c : Int))) rfl fun K q => c_term _ (tcl c ▸ q)) ?_
 refine ex_ife (c := false) (evb_var rfl) ?_
 refine ex_app (i := 0) (l := pil P) (d := .list [.int (b c)]) (ev_var rfl) (ev_list1 (sub_bit hc rfl rfl)) rfl (Nat.le_refl _) (by rw [pil_len]; exact sz3 hl) ?_
 refine m_end ?_
 rw [pil_cons] at k
 rw [tcg]
 exact k
theorem m_more {row dn : PV} {c : Nat} {l : List Int} {P : List PE} {e6 e7 e8 e9 : Option PV} {K : Fl -> Env' -> List MV -> Prop} (hc : c < 3) (hl : P.length <= 1000) (hll : l.length <= 1000) (k : K .next (mEnv row (bitsPV b) dn true (some (.int (256 + (c : Int)))) e6 e7 e8 e9) [.list (pil (.s (l.map fun a => Builtin.bitOr a (b c)) :: P))]) :
  EC n (mEnv row (bitsPV b) dn true (some (.int (256 + (c : Int)))) e6 e7 e8 e9) [.list (pil (.s l :: P))] mBody K := by
 refine ex_ife (c := false) (evb_call1 (d := .int (256 + (c : Int))) rfl fun K q => c_eof _ (tc0 c ▸ q)) ?_
 refine ex_ife (c := false) (evb_eqi (x := 256 + (c : Int)) rfl (tc8 c)) ?_
 refine ex_ife (c := false) (evb_call1 (d := .int (256 + (c : Int))) rfl fun K q => c_term _ (tcl c ▸ q)) ?_
 refine ex_ife (c := true) (evb_var rfl) ?_
 have hpl := pil_len P
 have fm : (l.map PV.int).flatMap (fun d => match d with | PV.int a => [PV.int (Builtin.bitOr a (b c))] | _ => []) = (l.map fun a => Builtin.bitOr a (b c)).map .int := by
  rw [List.flatMap_map]
  clear hll k
  induction l with
  | nil => rfl
  | cons a l ih => rw [List.flatMap_cons, ih]; rfl
 rw [pil_cons] at k ⊢
 refine ⟨⟨Nat.zero_le _, trivial⟩, Nat.zero_le _, ⟨List.append_ne_nil_of_right_ne_nil _ (List.cons_ne_nil _ _), by rw [List.length_append, hpl]; exact sz_le (b := 1001) (Nat.succ_le_succ hl)⟩, ?_⟩
 rw [List.getLastD_concat, List.dropLast_concat]
 refine ⟨rfl, comp_of (F := fun d => match d with | PV.int a => [PV.int (Builtin.bitOr a (b c))] | _ => []) (l.map PV.int) [] (fun d hd acc K1 hl1 hk => ?_) ?_ ?_⟩
 ·obtain ⟨a, ha, rfl⟩ := List.mem_map.mp hd
  exact sub_bit (b := b) (T := TT) (C := CC TT (n + 1)) (ρ := (mEnv row (bitsPV b) dn true (some (.int (256 + (c : Int)))) e6 e7 e8 e9 ++ List.replicate 1 none).set 10 (some (.int a))) (μ := [.list (pil P)]) hc rfl rfl (fun d => BIN .BitOr (.int a) (view [.list (pil P)] d) fun d => acc.length < sizeLine /\ K1 (acc ++ [d])) ⟨hl1, hk⟩
 ·rw [fm, List.length_map, List.length_map, List.length_nil, Nat.zero_add]; exact Nat.le_of_lt (sz3 hll)
 ·rw [fm]
  refine ⟨Nat.zero_le _, by rw [hpl]; exact sz3 hl, m_end ?_⟩
  rw [tcg]
  exact k
theorem pil_at (x : PE) (P : List PE) : some (MV.list (pil (x :: P))) = some (.list (pil P ++ [pePV x])) := by rw [pil_cons]
theorem evb_top {row bits dn : PV} {w : Bool} {x : Int} {P : List PE} {e6 e7 e8 e9 : Option PV} {c : Bool} (hc : (P.head? = some (.i 31) /\ c = true) ∨ (notTop P /\ c = false)) :
  EvB TT (CC TT (n + 1)) (mEnv row bits dn w (some (.int x)) e6 e7 e8 e9) [.list (pil P)] (.bop true (.cmp .NotEq (.var 2) (.list [])) (.cmp .Eq (.last (.var 2)) (.lit (.int 31)))) c := fun Q q => by
 refine ⟨Nat.zero_le _, ?_⟩
 match P, hc with
 | [], hc =>
  rcases hc with ⟨h, _⟩ | ⟨_, rfl⟩
  ·cases h
  ·exact q
 | y :: P, hc =>
  show match !(pil (y :: P)).isEmpty with | true => pil (y :: P) ≠ [] /\ CMP .Eq (view [.list (pil (y :: P))] ((pil (y :: P)).getLastD .none)) (.int 31) Q | false => Q false
  rw [pil_cons, List.getLastD_concat, List.isEmpty_eq_false_iff.mpr (List.append_ne_nil_of_right_ne_nil _ (List.cons_ne_nil _ _))]
  refine ⟨List.append_ne_nil_of_right_ne_nil _ (List.cons_ne_nil _ _), ?_⟩
  rcases hc with ⟨h, rfl⟩ | ⟨h, rfl⟩
  ·cases h; exact q
  ·cases y with
   | i k =>
    show Q (k == 31)
    rw [beq_false_of_ne fun e => h (congrArg (fun k => some (PE.i k)) e)]; exact q
   | s l => exact ⟨rfl, q⟩
theorem ev_call3 {T : Tabs} {C : CT} {ρ : Env'} {μ : List MV} {a : Addr} {i j m : Nat} {d1 d2 d3 x : PV} (h1 : ρ[i]? = some (some d1)) (h2 : ρ[j]? = some (some d2)) (h3 : ρ[m]? = some (some d3)) (k : ∀ K : PV -> Prop, K x -> C a μ [d1, d2, d3] K) : Ev T C ρ μ (.call a [.var i, .var j, .var m]) x := fun K q =>
 rOO (P := fun d => EVs T C ρ μ [.var j, .var m] fun ds => C a μ (d :: ds) K) h1 (rOO (P := fun d => EVs T C ρ μ [.var m] fun ds => C a μ (d1 :: d :: ds) K) h2 (rOO (P := fun d => C a μ [d1, d2, d] K) h3 (k K q)))
theorem stS_le (s : Fin 9) (l r both : List Int) : (stS s l r both).length <= 1 + l.length + r.length + both.length :=
 f9 (P := fun s => (stS s l r both).length <= 1 + l.length + r.length + both.length)
  (show both.length <= _ by lia) (show (l ++ r ++ both).length <= _ by simp only [List.length_append]; lia) (show (l ++ r).length <= _ by rw [List.length_append]; lia) (show ([0] ++ l ++ both).length <= _ by simp only [List.length_append, List.length_singleton]; lia) (show (r ++ both).length <= _ by rw [List.length_append]; lia) (show ([0] ++ r ++ both).length <= _ by simp only [List.length_append, List.length_singleton]; lia) (show (l ++ both).length <= _ by rw [List.length_append]; lia) (show ([0] ++ l ++ r).length <= _ by simp only [List.length_append, List.length_singleton]; lia) (show (l ++ r).length <= _ by rw [List.length_append]; lia) s
theorem stS_len (s : Fin 9) (l r : List Int) (hl : l.length <= 1000) (hr : r.length <= 1000) : (stS s l r (bothI l r)).length <= 1002001 := by
 refine Nat.le_trans (stS_le s l r _) ?_
 rw [both_len]
 exact Nat.add_le_add (Nat.add_le_add (Nat.add_le_add_left hl 1) hr) (Nat.mul_le_mul hl hr)
theorem m_close {row dn : PV} {w : Bool} {s : Fin 9} {l r : List Int} {P Q : List PE} {z : List Int} {e6 e7 e8 e9 : Option PV} {K : Fl -> Env' -> List MV -> Prop} (hl : P.length <= 1000) (hll : l.length <= 1000) (hlr : r.length <= 1000)
  (hq : (Q = .i 31 :: P /\ z = stS s l r (bothI l r) ++ [0]) ∨ (notTop P /\ Q = P /\ z = stS s l r (bothI l r)))
  (k : ∀ e6 e7 e8 e9, K .next (mEnv row (bitsPV b) dn false (some (.int 8)) e6 e7 e8 e9) [.list (pil (.s z :: P))]) :
  EC n (mEnv row (bitsPV b) dn w (some (.int 8)) e6 e7 e8 e9) [.list (pil (.s r :: .i (sgc s) :: .s l :: .i 7 :: Q))] mBody K := by
 have hz := sizeLine_eq
 have hQ : Q.length <= 1001 := by
  rcases hq with ⟨rfl, _⟩ | ⟨_, rfl, _⟩
  ·simp; lia
  ·lia
 refine ex_ife (c := false) (evb_call1 (d := .int 8) rfl fun K q => c_eof _ q) ?_
 refine ex_ife (c := true) (evb_eqi (x := 8) rfl rfl) ?_
 refine ex_pop (i := 0) (l := pil (.i (sgc s) :: .s l :: .i 7 :: Q)) (d := .list (r.map .int)) (ev_var rfl) (pil_at (.s r) (.i (sgc s) :: .s l :: .i 7 :: Q)) (Nat.le_refl _) (by rw [pil_len]; simp; lia) ?_
 refine ex_pop (i := 0) (l := pil (.s l :: .i 7 :: Q)) (d := .int (sgc s)) (ev_var rfl) (pil_at (.i (sgc s)) (.s l :: .i 7 :: Q)) (Nat.le_refl _) (by rw [pil_len]; simp; lia) ?_
 refine ex_pop (i := 0) (l := pil (.i 7 :: Q)) (d := .list (l.map .int)) (ev_var rfl) (pil_at (.s l) (.i 7 :: Q)) (Nat.le_refl _) (by rw [pil_len]; simp; lia) ?_
 refine ex_popD (i := 0) (l := pil Q) (d := .int 7) (ev_var rfl) (pil_at (.i 7) Q) (Nat.le_refl _) (by rw [pil_len]; lia) ?_
 refine ex_asg (d := .list ((stS s l r (bothI l r)).map .int)) (ev_call3 (d1 := .int (sgc s)) (d2 := .list (l.map .int)) (d3 := .list (r.map .int)) rfl rfl rfl fun K q => c_sets s l r hll hlr q) ?_
 have hs := stS_len s l r hll hlr
 show EC n (mEnv row (bitsPV b) dn w (some (.int 8)) (some (.list (r.map .int))) (some (.int (sgc s))) (some (.list (l.map .int))) (some (.list ((stS s l r (bothI l r)).map .int)))) [.list (pil Q)] _ K
 rcases hq with ⟨rfl, rfl⟩ | ⟨ht, rfl, rfl⟩
 ·refine ex_ife (c := true) (evb_top (.inl ⟨rfl, rfl⟩)) ?_
  refine ex_popD (i := 0) (l := pil P) (d := .int 31) (ev_var rfl) (pil_at (.i 31) P) (Nat.le_refl _) (by rw [pil_len]; lia) ?_
  refine ex_asg (d := .list ((stS s l r (bothI l r) ++ [0]).map .int)) (fun R q => ?_) ?_
  ·rw [List.map_append] at q
   exact ⟨sz_le (b := 1) (Nat.le_refl _), by rw [List.length_map, hz]; exact Nat.succ_le_of_lt (Nat.lt_of_le_of_lt hs (by decide)), q⟩
  refine ex_app (i := 0) (l := pil P) (d := .list ((stS s l r (bothI l r) ++ [0]).map .int)) (ev_var rfl) (ev_var rfl) rfl (Nat.le_refl _) (by rw [pil_len]; lia) ?_
  refine m_end ?_
  have := k (some (.list (r.map .int))) (some (.int (sgc s))) (some (.list (l.map .int))) (some (.list ((stS s l r (bothI l r) ++ [0]).map .int)))
  rw [pil_cons] at this
  exact this
 ·refine ex_ife (c := false) (evb_top (.inr ⟨ht, rfl⟩)) ?_
  refine ex_app (i := 0) (l := pil Q) (d := .list ((stS s l r (bothI l r)).map .int)) (ev_var rfl) (ev_var rfl) rfl (Nat.le_refl _) (by rw [pil_len]; lia) ?_
  refine m_end ?_
  have := k (some (.list (r.map .int))) (some (.int (sgc s))) (some (.list (l.map .int))) (some (.list ((stS s l r (bothI l r)).map .int)))
  rw [pil_cons] at this
  exact this
end
noncomputable def wI (i : Fin 9) : List Nat := [[0], [1], [2], [0, 0], [0, 1], [0, 2], [1, 2], [0, 0, 1], [0, 0, 2]].getD i.val []
noncomputable def orW (b : Nat -> Int) : List Nat -> Int
 | [] => 0
 | c :: cs => cs.foldl (fun a c => Builtin.bitOr a (b c)) (b c)
noncomputable def tcode (c : Nat) : Int := 256 + (c : Int)
noncomputable def tk : Fm -> List Int
 | .w i => (wI i).map tcode
 | .n t s l r => (if t then [31, 7] else [7]) ++ (tk l ++ (sgc s :: (tk r ++ [8])))
noncomputable def stI (b : Nat -> Int) : Fm -> List Int
 | .w i => [orW b (wI i)]
 | .n t s l r => stS s (stI b l) (stI b r) (bothI (stI b l) (stI b r)) ++ (if t then [0] else [])
theorem stI_len (b : Nat -> Int) : ∀ f : Fm, (stI b f).length + 1 <= 2 ^ (2 * f.nodes + 1)
 | .w i => by simp [stI, Fm.nodes]
 | .n t s l r => by
  have hl := stI_len b l
  have hr := stI_len b r
  have hb := both_len (stI b l) (stI b r)
  simp only [stI, Fm.nodes]
  generalize stI b l = L at *
  generalize stI b r = R at *
  have hm : (L.length + 1) * (R.length + 1) <= 2 ^ (2 * l.nodes + 1) * 2 ^ (2 * r.nodes + 1) := Nat.mul_le_mul hl hr
  rw [<- Nat.pow_add] at hm
  have e1 : 2 ^ (2 * (l.nodes + r.nodes + 1) + 1) = 2 ^ (2 * l.nodes + 1 + (2 * r.nodes + 1)) * 2 := by
   rw [<- Nat.pow_succ]; congr 1; lia
  have h4 : 2 ^ 2 <= 2 ^ (2 * l.nodes + 1 + (2 * r.nodes + 1)) := Nat.pow_le_pow_right (by exact Nat.succ_pos _) (by lia)
  generalize 2 ^ (2 * l.nodes + 1 + (2 * r.nodes + 1)) = Z at *
  have hx : ∀ x y : Nat, (x + 1) * (y + 1) = x * y + x + y + 1 := fun x y => by rw [Nat.succ_mul, Nat.mul_succ]; rfl
  have hy : (stS s L R (bothI L R)).length <= L.length * R.length + L.length + R.length + 1 := by
   have := stS_le s L R (bothI L R)
   lia
  rw [List.length_append]
  have hz : (if t = true then [(0 : Int)] else []).length <= 1 := by split <;> simp
  lia
theorem run_more {b : Nat -> Int} {ts : List Int} {P : List PE} {fin : List Int} : ∀ (cs : List Nat) (a : Int), (∀ c ∈ cs, c < 3) -> Run b ts (.s [cs.foldl (fun a c => Builtin.bitOr a (b c)) a] :: P) true fin -> Run b (cs.map tcode ++ ts) (.s [a] :: P) true fin
 | [], a, _, h => h
 | c :: cs, a, hc, h => .more (hc c (.head _)) (by simp) (run_more cs _ (fun d hd => hc d (.tail _ hd)) h)
theorem wI_ok : ∀ i, ∀ c ∈ wI i, c < 3 := by decide
theorem wI_ne : ∀ i, wI i ≠ [] := by decide
theorem run_word {b : Nat -> Int} {ts : List Int} {P : List PE} {fin : List Int} (i : Fin 9) (h : Run b ts (.s [orW b (wI i)] :: P) true fin) : Run b ((wI i).map tcode ++ ts) P false fin := by
 have h1 := wI_ok i
 have h2 := wI_ne i
 match wI i, h1, h2, h with
 | c :: cs, h1, h2, h => exact .new (h1 c (.head _)) (run_more cs _ (fun d hd => h1 d (.tail _ hd)) h)
theorem sgc_ok : ∀ s, sgc s < 256 /\ sgc s ≠ 0 /\ sgc s ≠ 8 /\ sgc s ≠ 31 := by decide
theorem run_fm {b : Nat -> Int} {fin : List Int} : ∀ (f : Fm) (P : List PE) (ts : List Int), f.nodes <= 4 -> notTop P -> (∀ w, Run b ts (.s (stI b f) :: P) w fin) -> Run b (tk f ++ ts) P false fin
 | .w i, P, ts, _, _, h => run_word i (h true)
 | .n t s l r, P, ts, hn, hp, h => by
  simp only [Fm.nodes] at hn
  have hl : (stI b l).length <= 1000 := by
   have := stI_len b l
   have h2 : 2 ^ (2 * l.nodes + 1) <= 2 ^ 9 := Nat.pow_le_pow_right (by exact Nat.succ_pos _) (by lia)
   grind
  have hr : (stI b r).length <= 1000 := by
   have := stI_len b r
   have h2 : 2 ^ (2 * r.nodes + 1) <= 2 ^ 9 := Nat.pow_le_pow_right (by lia) (by lia)
   grind
  obtain ⟨s1, s2, s3, s4⟩ := sgc_ok s
  cases t with
  | true =>
   simp only [tk, if_true, List.cons_append, List.nil_append, List.append_assoc]
   refine .term (by exact Int.natCast_nonneg _) (by decide) (by decide) (.term (by exact Int.natCast_nonneg _) (by decide) (by decide) ?_)
   refine run_fm l _ _ (by lia) (by simp [notTop]) fun w => ?_
   refine .term s1 s2 s3 ?_
   refine run_fm r _ _ (by lia) (by simpa [notTop] using s4) fun w' => ?_
   exact .close hl hr (h false)
  | false =>
   simp only [tk, List.cons_append, List.nil_append, List.append_assoc, Bool.false_eq_true, if_false]
   refine .term (by lia) (by lia) (by lia) ?_
   refine run_fm l _ _ (by lia) (by simp [notTop]) fun w => ?_
   refine .term s1 s2 s3 ?_
   refine run_fm r _ _ (by lia) (by simpa [notTop] using s4) fun w' => ?_
   refine .close0 hl hr hp ?_
   have := h false
   simpa [stI] using this
theorem run_all {b : Nat -> Int} (f : Fm) (hn : f.nodes <= 4) : Run b (tk f ++ [0]) [] false (stI b f) := run_fm f [] [0] hn (by simp [notTop]) fun w => .eof
theorem m_run {n : Nat} {b : Nat -> Int} {row dn : PV} {w : Bool} {t : Int} {ts : List Int} {P : List PE} {fin : List Int} {e6 e7 e8 e9 : Option PV} {K : Fl -> Env' -> List MV -> Prop} (rn : Run b (t :: ts) P w fin) (hp : P.length + (ts.length + 1) <= 1000) (hf : fin.length <= sizeLine)
  (k : ∀ w P e6 e7 e8 e9, Run b ts P w fin -> P.length + ts.length <= 1000 -> K .next (mEnv row (bitsPV b) dn w (some (.int t)) e6 e7 e8 e9) [.list (pil P)])
  (k0 : ts = [] -> K .next (mEnv row (bitsPV b) (.list (fin.map .int)) false (some (.int t)) e6 e7 e8 e9) [.list (pil [.s fin])]) :
  EC n (mEnv row (bitsPV b) dn w (some (.int t)) e6 e7 e8 e9) [.list (pil P)] mBody K := by
 have hP : P.length <= 1000 := Nat.le_trans (Nat.le_add_right _ _) hp
 cases rn with
 | eof => exact m_eof hf (k0 rfl)
 | close h1 h2 h3 => exact m_close (Nat.le_trans (Nat.le_add_right _ 5) hP) h1 h2 (.inl ⟨rfl, rfl⟩) fun _ _ _ _ => k _ _ _ _ _ _ h3 (Nat.le_trans (by simp only [List.length_cons]; lia) hp)
 | close0 h1 h2 h4 h3 => exact m_close (Nat.le_trans (Nat.le_add_right _ 4) hP) h1 h2 (.inr ⟨h4, rfl, rfl⟩) fun _ _ _ _ => k _ _ _ _ _ _ h3 (Nat.le_trans (by simp only [List.length_cons]; lia) hp)
 | term h1 h2 h3 h4 => exact m_term h1 h2 h3 hP (k _ _ _ _ _ _ h4 (Nat.le_trans (Nat.le_of_eq (Nat.succ_add_eq_add_succ _ _)) hp))
 | more h1 h2 h3 => exact m_more h1 (Nat.le_trans (Nat.le_succ _) hP) h2 (k _ _ _ _ _ _ h3 (Nat.le_trans (Nat.le_succ _) hp))
 | new h1 h3 => exact m_new h1 hP (k _ _ _ _ _ _ h3 (Nat.le_trans (Nat.le_of_eq (Nat.succ_add_eq_add_succ _ _)) hp))
inductive MJ (b : Nat -> Int) (row : PV) (fin : List Int) : List PV -> Env' -> List MV -> Prop
 | go {ts P w dn e5 e6 e7 e8 e9} : Run b ts P w fin -> P.length + ts.length <= 1000 -> MJ b row fin (ts.map .int) (mEnv row (bitsPV b) dn w e5 e6 e7 e8 e9) [.list (pil P)]
 | fin {μ e5 e6 e7 e8 e9} : MJ b row fin [] (mEnv row (bitsPV b) (.list (fin.map .int)) false e5 e6 e7 e8 e9) μ
theorem mj_nil {b : Nat -> Int} {row : PV} {fin : List Int} {ds : List PV} {ρ : Env'} {μ : List MV} (j : MJ b row fin ds ρ μ) : ds = [] -> ρ[3]? = some (some (.list (fin.map .int))) := by
 cases j with
 | fin => exact fun _ => rfl
 | @go ts _ _ _ _ _ _ _ _ rn h =>
  cases ts with
  | nil => cases rn
  | cons t ts => exact fun e => nomatch e
theorem mj_cons {n : Nat} {b : Nat -> Int} {row : PV} {ds' : List PV} {ls : List Int} {ρ : Env'} {μ : List MV} (hf : ls.length <= sizeLine) (j : MJ b row ls ds' ρ μ) : ∀ (d : PV) (ds : List PV), ds' = d :: ds -> ∀ K' : Fl -> Env' -> List MV -> Prop, (∀ ρ1 μ1, MJ b row ls ds ρ1 μ1 -> K' .next ρ1 μ1) -> EC n (ρ.set 5 (some d)) μ mBody K' := by
 cases j with
 | fin => exact fun _ _ e => nomatch e
 | @go ts _ _ _ _ _ _ _ _ rn h =>
  cases ts with
  | nil => exact fun _ _ e => nomatch e
  | cons t ts =>
   intro d ds e K' k
   cases e
   exact m_run rn h hf (fun _ _ _ _ _ _ r h => k _ _ (.go r h)) fun e => k _ _ (by cases e; exact .fin)
theorem c_mult {n : Nat} {μ : List MV} {K : PV -> Prop} {b : Nat -> Int} (f : Fm) (hn : f.nodes <= 4) (hlen : (tk f).length <= 900) (h : K (.list ((stI b f).map .int))) :
  CC TT (n + 2) 315 μ [.list ((tk f ++ [0]).map .int), bitsPV b] K := by
 have hfl : (stI b f).length <= sizeLine := sz_le (b := 512) (Nat.le_of_succ_le (Nat.le_trans (stI_len b f) (Nat.pow_le_pow_right (by decide) (Nat.succ_le_succ (Nat.mul_le_mul_left 2 hn)))))
 have rn := run_all (b := b) f hn
 have hlen : (tk f ++ [0]).length <= 1000 := by rw [List.length_append]; exact Nat.le_trans (Nat.add_le_add_right hlen 1) (by decide)
 generalize tk f ++ [0] = row at *
 generalize stI b f = fin at *
 refine .law_multiplied_out ⟨rfl, ?_, ?_⟩
 ·show (noPtrs (row.map .int) && (noPtrs [.int (b 0), .int (b 1), .int (b 2)] && true)) = true
  rw [ints_noPtr]; rfl
 refine ex_own0 (ex_asg (d := .list []) (fun Q q => ⟨Nat.zero_le _, q⟩) (ex_asg (d := .bool false) (fun Q q => q) ?_))
 exact ex_for (items := row.map .int) (ro1 := 0) (J := MJ b (.list (row.map .int)) fin) (fun Q q => q) (MJ.go (dn := .list []) rn (by rw [List.length_nil, Nat.zero_add]; exact hlen))
  (fun d ds ρ μ j K' kn _ _ => mj_cons hfl j d ds rfl K' kn)
  fun ρ μ j => ex_ret (ev_var (mj_nil j rfl)) ⟨ints_noPtr _, h⟩
noncomputable def fnd (c : Nat) : Int := Txt.find (strOf [102, 105, 108]) (strOf [c])
noncomputable def tokX (t : List Nat) (sz : Nat) : Int := (tokL.lookup (t.take sz)).getD (256 + fnd (t.getD 0 0))
inductive Cut : List Nat -> List Int -> Prop
 | nil : Cut [] []
 | cons {t xs} (sz : Nat) : t ≠ [] -> 1 <= sz -> sz <= 3 -> (∀ s, sz < s -> s <= 3 -> tokL.lookup (t.take s) = none) -> (sz = 1 ∨ (tokL.lookup (t.take sz)).isSome = true) -> Cut (t.drop sz) xs -> Cut t (tokX t sz :: xs)
section
variable {n : Nat} {C : CT}
theorem ev_pre {ρ : Env'} {μ : List MV} {t : List Nat} {i : Nat} {sz : Nat} (hl : t.length <= sizeLine) (h0 : ρ[0]? = some (some (.str t))) (h2 : ρ[i]? = some (some (.int (sz : Int)))) : Ev TT C ρ μ (.slice (.var 0) (.lit .none) (.var i)) (.str (t.take sz)) := fun K q =>
 rOO (P := fun a => EV TT C ρ μ (.var i) fun c => SLICE (view μ a) .none c K) h0 (rOO (P := fun c => SLICE (.str t) .none c K) h2 ⟨hl, Int.natCast_nonneg _, q⟩)
theorem ev_post {ρ : Env'} {μ : List MV} {t : List Nat} {i : Nat} {sz : Nat} (hl : t.length <= sizeLine) (h0 : ρ[0]? = some (some (.str t))) (h2 : ρ[i]? = some (some (.int (sz : Int)))) : Ev TT C ρ μ (.slice (.var 0) (.var i) (.lit .none)) (.str (t.drop sz)) := fun K q => by
 refine rOO (P := fun a => EV TT C ρ μ (.var i) fun c => SLICE (view μ a) c .none K) h0 (rOO (P := fun c => SLICE (.str t) c .none K) h2 ⟨hl, Int.natCast_nonneg _, ?_⟩)
 show K (.str ((t.drop sz).take (t.length - sz)))
 rw [List.take_of_length_le (Nat.le_of_eq (List.length_drop ..))]
 exact q
theorem evb_grow {ρ : Env'} {μ : List MV} {t : List Nat} {sz : Nat} (hl : t.length <= sizeLine) (h0 : ρ[0]? = some (some (.str t))) (h2 : ρ[2]? = some (some (.int (sz : Int)))) :
  EvB TT C ρ μ (.bop true (.cmp .Gt (.var 2) (.lit (.int 1))) (.gop .notInTok [(.slice (.var 0) (.lit .none) (.var 2))])) (decide (1 < sz) && !(tokL.lookup (t.take sz)).isSome) := fun K q => by
 have hp := ev_pre (C := C) (μ := μ) hl h0 h2
 have e1 : EvB TT C ρ μ (.cmp .Gt (.var 2) (.lit (.int 1))) (decide (1 < sz)) := fun K q => by
  refine rOO (P := fun a => CMP .Gt (view μ a) (.int 1) K) h2 ?_
  show K (decide ((1 : Int) < (sz : Int)))
  rw [show decide ((1 : Int) < (sz : Int)) = decide (1 < sz) from decide_eq_decide.mpr Int.ofNat_lt]
  exact q
 have e2 : EvB TT C ρ μ (.gop .notInTok [(.slice (.var 0) (.lit .none) (.var 2))]) (!(tokL.lookup (t.take sz)).isSome) := fun K q => by
  refine hp _ ?_
  exact q
 refine e1 _ ?_
 cases h : decide (1 < sz) with
 | false => rw [h] at q; exact q
 | true =>
  rw [h] at q
  exact e2 _ (by simpa using q)
theorem c_cut {μ : List MV} {K : PV -> Prop} {t : List Nat} {xs : List Int} (hc : Cut t xs) (hl : t.length <= 1000) (h : K (.list ((xs ++ [0]).map .int))) : CC TT (n + 1) 305 μ [.str t] K := .law_cut ⟨rfl, rfl, by
 have hz := sizeLine_eq
 refine ex_own0 ?_
 refine ex_while (m := t.length) (J := fun m ρ μ => ∃ (t : List Nat) (acc ys : List Int) (e2 : Option PV), m = t.length /\ ρ = [some (.str t), some (.ptr 0), e2] /\ μ = [.list (acc.map .int)] /\ acc ++ ys = xs /\ Cut t ys /\ acc.length + t.length <= 1000)
  ⟨t, [], xs, none, rfl, rfl, rfl, rfl, hc, by simpa using hl⟩ ?_
 rintro m ρ μ' ⟨t, acc, ys, e2, rfl, rfl, rfl, e3, hc, hlen⟩
 refine ⟨t != [], fun K q => ?_, fun hf => ?_, fun ht K' kn => ?_⟩
 ·exact q
 ·have : t = [] := by simpa using hf
  subst this
  cases hc with
  | nil =>
   rw [List.append_nil] at e3
   subst e3
   refine ex_ret (d := .list ((acc ++ [0]).map .int)) (fun Q q => ?_) ?_
   rotate_left
   ·exact ⟨ints_noPtr _, h⟩
   rw [List.map_append] at q
   exact ⟨sz_le (b := 1) (Nat.le_refl _), by rw [List.length_map]; exact sz_le (b := 1001) (Nat.succ_le_succ hlen), q⟩
  | cons sz h0 => exact absurd rfl h0
 ·cases hc with
  | nil => simp at ht
  | @cons _ ys sz h0 h1 h2 h3 h4 hc =>
   refine ex_asg (d := .int 3) (fun Q q => by exact q) ?_
   refine ex_while (m := 3) (J := fun m ρ μ => sz <= m /\ m <= 3 /\ ρ = [some (.str t), some (.ptr 0), some (.int (m : Int))] /\ μ = [.list (acc.map .int)]) ⟨h2, Nat.le_refl _, rfl, rfl⟩ ?_
   rintro m ρ μ2 ⟨a1, a2, rfl, rfl⟩
   refine ⟨_, evb_grow (by lia) rfl rfl, fun hf => ?_, fun ht' K2 kn2 => ?_⟩
   ·have hm : m = sz := by
     by_cases hm : m = sz
     ·exact hm
     ·have := h3 m (by lia) a2
      rw [this] at hf
      simp at hf
      lia
    subst hm
    refine ex_app (i := 0) (l := acc.map .int) (d := .int (tokX t m)) (ev_var rfl) (fun Q q => ?_) rfl (Nat.le_refl _) (by simp; lia) ?_
    ·refine ⟨Nat.le_trans (Nat.le_add_left _ _) (Nat.le_trans hlen (sz_le (Nat.le_refl 1000))), Int.natCast_nonneg _, by decide, by decide, List.length_pos_iff.mpr h0, ?_⟩
     unfold tokX fnd at q
     have : ∀ (o : Option Int) (d : Int), (o.map PV.int).getD (.int d) = .int (o.getD d) := fun o d => by cases o <;> rfl
     show Q (((tokL.lookup (t.take m)).map PV.int).getD (.int (256 + Txt.find (strOf [102, 105, 108]) (strOf [t.getD 0 0]))))
     rw [this]; exact q
    refine ex_asg (d := .str (t.drop m)) (ev_post (by lia) rfl rfl) ?_
    have hd : (t.drop m).length < t.length := by
     have hpos : 0 < t.length := List.length_pos_iff.mpr h0
     rw [List.length_drop]; lia
    refine ex_nil (kn (t.drop m).length _ _ hd ⟨t.drop m, acc ++ [tokX t m], ys, _, rfl, rfl, ?_, ?_, hc, ?_⟩)
    ·simp
    ·simpa using e3
    ·simp only [List.length_append, List.length_singleton]; lia
   ·have hm : 1 < m /\ m ≠ sz := by
     simp only [Bool.and_eq_true, decide_eq_true_eq] at ht'
     refine ⟨ht'.1, fun e => ?_⟩
     subst e
     rcases h4 with h4 | h4
     ·lia
     ·rw [h4] at ht'; simp at ht'
    refine ex_aug (x := (m : Int)) (y := 1) (d := .int ((m - 1 : Nat) : Int)) rfl (fun Q q => by exact q) (fun Q q => ?_) ?_
    ·show Q (.int ((m : Int) - 1))
     rw [show (m : Int) - 1 = ((m - 1 : Nat) : Int) by grind]
     exact q
    exact ex_nil (kn2 (m - 1) _ _ (by lia) ⟨by lia, by lia, rfl, rfl⟩)⟩
end
theorem lookup_none {x : List Nat} (h : ∀ p ∈ tokL, p.1 ≠ x) : tokL.lookup x = none := by
 generalize tokL = l at h
 induction l with
 | nil => rfl
 | cons p r ih =>
  rw [List.lookup_cons, show (x == p.1) = false by simpa using fun e => h p (.head _) e.symm]
  exact ih fun q hq => h q (.tail _ hq)
noncomputable def S6 : List Nat := [40, 41, 126, 102, 105, 108]
noncomputable def S5 : List Nat := [40, 126, 102, 105, 108]
theorem key1 : ∀ p ∈ tokL, 2 <= p.1.length -> p.1.getD 0 0 ∉ S6 := by decide +kernel
theorem key2 : ∀ p ∈ tokL, p.1.getD 1 0 ∉ S5 := by decide +kernel
theorem key3 : ∀ p ∈ tokL, p.1.getD 2 0 ∉ S5 := by decide +kernel
theorem cut_one {c : Nat} {rest : List Nat} {xs : List Int} {x : Int} (hc : c ∈ S6) (hx : (tokL.lookup [c]).getD (256 + fnd c) = x) (h : Cut rest xs) : Cut (c :: rest) (x :: xs) := by
 subst hx
 match rest, h with
 | [], h =>
  cases e : tokL.lookup [c] with
  | none =>
   have := Cut.cons (t := [c]) (xs := xs) 1 (by simp) (by exact Nat.le_refl _) (by exact Nat.succ_pos _) (fun s h1 h2 => by
    rw [List.take_of_length_le (by simp; exact Nat.le_of_lt ‹_›)]; exact e) (.inl rfl) h
   unfold tokX at this
   simp only [List.take_succ_cons, List.take_nil, e] at this
   exact this
  | some v =>
   have := Cut.cons (t := [c]) (xs := xs) 3 (by simp) (by lia) (by exact Nat.le_refl _) (fun s h1 h2 => by lia) (.inr (by simp [e])) h
   unfold tokX at this
   simp only [List.take_succ_cons, List.take_nil, e] at this
   exact this
 | d :: rest, h =>
  have := Cut.cons (t := c :: d :: rest) (xs := xs) 1 (by simp) (by lia) (by lia) (fun s h1 h2 => lookup_none fun p hp e => by
   have h3 := key1 p hp
   rw [e] at h3
   match s, h1, h2 with
   | 2, _, _ => exact h3 (by simp) (by simpa using hc)
   | 3, _, _ => exact h3 (by simp) (by simpa using hc)) (.inl rfl) h
  unfold tokX at this
  simp only [List.take_succ_cons, List.take_zero] at this
  exact this
theorem sg_cut : ∀ s : _root_.Fin 9, (∃ a, sg s = [a] /\ tokL.lookup [a] = some (sgc s)) ∨ (∃ a b, sg s = [a, b] /\ tokL.lookup [a, b] = some (sgc s)) := by
 intro s
 obtain ⟨s, hs⟩ := s
 match s, hs with
 | 0, _ => exact .inl ⟨_, rfl, by kernel_rfl⟩
 | 1, _ => exact .inl ⟨_, rfl, by kernel_rfl⟩
 | 2, _ => exact .inl ⟨_, rfl, by kernel_rfl⟩
 | 3, _ => exact .inr ⟨_, _, rfl, by kernel_rfl⟩
 | 4, _ => exact .inl ⟨_, rfl, by kernel_rfl⟩
 | 5, _ => exact .inr ⟨_, _, rfl, by kernel_rfl⟩
 | 6, _ => exact .inl ⟨_, rfl, by kernel_rfl⟩
 | 7, _ => exact .inr ⟨_, _, rfl, by kernel_rfl⟩
 | 8, _ => exact .inr ⟨_, _, rfl, by kernel_rfl⟩
 | (s + 9), hs => lia
theorem cut_sign {s : _root_.Fin 9} {c : Nat} {rest : List Nat} {xs : List Int} (hc : c ∈ S5) (h : Cut (c :: rest) xs) : Cut (sg s ++ c :: rest) (sgc s :: xs) := by
 rcases sg_cut s with ⟨a, e, e1⟩ | ⟨a, b, e, e1⟩
 ·rw [e]
  have := Cut.cons (t := a :: c :: rest) (xs := xs) 1 (by simp) (by exact Nat.le_refl _) (by exact Nat.succ_pos _) (fun s h1 h2 => lookup_none fun p hp e => by
   have h3 := key2 p hp
   rw [e] at h3
   match s, h1, h2 with
   | 2, _, _ => exact h3 (by simpa using hc)
   | 3, _, _ => exact h3 (by simpa using hc)) (.inl rfl) h
  unfold tokX at this
  simp only [List.take_succ_cons, List.take_zero, e1] at this
  exact this
 ·rw [e]
  have := Cut.cons (t := a :: b :: c :: rest) (xs := xs) 2 (by simp) (by exact Nat.le_succ _) (by exact Nat.le_succ _) (fun s h1 h2 => lookup_none fun p hp e => by
   have h3 := key3 p hp
   rw [e] at h3
   match s, h1, h2 with
   | 3, _, _ => exact h3 (by simpa using hc)) (.inr (by simp [e1])) h
  unfold tokX at this
  simp only [List.take_succ_cons, List.take_zero, e1] at this
  exact this
theorem tx_head : ∀ f, ∃ c r, tx f = c :: r /\ c ∈ S5
 | .w ⟨i, hi⟩ => by
  match i, hi with
  | 0, _ => exact ⟨_, _, rfl, by decide⟩
  | 1, _ => exact ⟨_, _, rfl, by decide⟩
  | 2, _ => exact ⟨_, _, rfl, by decide⟩
  | 3, _ => exact ⟨_, _, rfl, by decide⟩
  | 4, _ => exact ⟨_, _, rfl, by decide⟩
  | 5, _ => exact ⟨_, _, rfl, by decide⟩
  | 6, _ => exact ⟨_, _, rfl, by decide⟩
  | 7, _ => exact ⟨_, _, rfl, by decide⟩
  | 8, _ => exact ⟨_, _, rfl, by decide⟩
  | (i + 9), hi => lia
 | .n t s l r => by cases t <;> exact ⟨_, _, rfl, by decide⟩
theorem cut_word {rest : List Nat} {xs : List Int} (i : Fin 9) (h : Cut rest xs) : Cut (wl i ++ rest) ((wI i).map tcode ++ xs) := by
 have f0 : (tokL.lookup [102]).getD (256 + fnd 102) = tcode 0 := by decide +kernel
 have f1 : (tokL.lookup [105]).getD (256 + fnd 105) = tcode 1 := by decide +kernel
 have f2 : (tokL.lookup [108]).getD (256 + fnd 108) = tcode 2 := by decide +kernel
 have g0 : ∀ {rest xs}, Cut rest xs -> Cut (102 :: rest) (tcode 0 :: xs) := fun h => cut_one (by decide) f0 h
 have g1 : ∀ {rest xs}, Cut rest xs -> Cut (105 :: rest) (tcode 1 :: xs) := fun h => cut_one (by decide) f1 h
 have g2 : ∀ {rest xs}, Cut rest xs -> Cut (108 :: rest) (tcode 2 :: xs) := fun h => cut_one (by decide) f2 h
 obtain ⟨i, hi⟩ := i
 match i, hi with
 | 0, _ => exact g0 h
 | 1, _ => exact g1 h
 | 2, _ => exact g2 h
 | 3, _ => exact g0 (g0 h)
 | 4, _ => exact g0 (g1 h)
 | 5, _ => exact g0 (g2 h)
 | 6, _ => exact g1 (g2 h)
 | 7, _ => exact g0 (g0 (g1 h))
 | 8, _ => exact g0 (g0 (g2 h))
 | (i + 9), hi => assumption
theorem cut_fm : ∀ (f : Fm) (rest : List Nat) (xs : List Int), Cut rest xs -> Cut (tx f ++ rest) (tk f ++ xs)
 | .w i, rest, xs, h => cut_word i h
 | .n t s l r, rest, xs, h => by
  have p40 : (tokL.lookup [40]).getD (256 + fnd 40) = 7 := by decide +kernel
  have p41 : (tokL.lookup [41]).getD (256 + fnd 41) = 8 := by decide +kernel
  have p126 : (tokL.lookup [126]).getD (256 + fnd 126) = 31 := by decide +kernel
  have h1 := cut_fm r _ _ (cut_one (c := 41) (by decide) p41 h)
  obtain ⟨c, q, hq, hc⟩ := tx_head r
  have h2 : Cut (sg s ++ (tx r ++ 41 :: rest)) (sgc s :: (tk r ++ 8 :: xs)) := by
   rw [hq] at h1 ⊢
   exact cut_sign hc h1
  have h3 := cut_fm l _ _ h2
  cases t with
  | true =>
   have := cut_one (c := 126) (by decide) p126 (cut_one (c := 40) (by decide) p40 h3)
   simpa [tx, tk, opn, List.append_assoc] using this
  | false =>
   have := cut_one (c := 40) (by decide) p40 h3
   simpa [tx, tk, opn, List.append_assoc] using this
noncomputable def wordsPV : List PV := [.str [102], .str [105], .str [108], .str [102, 102], .str [102, 105], .str [102, 108], .str [105, 108], .str [102, 102, 105], .str [102, 102, 108]]
noncomputable def signsPV : List PV := [.str [38], .str [124], .str [94], .str [60, 61], .str [60], .str [62, 61], .str [62], .str [61, 61], .str [33, 61]]
theorem words_at (i : Nat) (h : i < 9) : wordsPV.getD i .none = fmPV (.w ⟨i, h⟩) := by
 match i, h with
 | 0, _ => rfl
 | 1, _ => rfl
 | 2, _ => rfl
 | 3, _ => rfl
 | 4, _ => rfl
 | 5, _ => rfl
 | 6, _ => rfl
 | 7, _ => rfl
 | 8, _ => rfl
theorem signs_at (i : Nat) (h : i < 9) : signsPV.getD i .none = .str (sg ⟨i, h⟩) := by
 match i, h with
 | 0, _ => rfl
 | 1, _ => rfl
 | 2, _ => rfl
 | 3, _ => rfl
 | 4, _ => rfl
 | 5, _ => rfl
 | 6, _ => rfl
 | 7, _ => rfl
 | 8, _ => rfl
theorem fmod_range (a : Int) {b : Int} (h : 0 < b) : 0 <= a.fmod b /\ a.fmod b < b := ⟨Int.fmod_nonneg_of_pos a h, Int.fmod_lt_of_pos a h⟩
section
variable {n : Nat} {a b c x y z : Int}
noncomputable abbrev fEnv (a b c x y z : Int) (ps : List Fm) (e4 e5 e6 e7 : Option PV) : Env' := [some (.list [.int a, .int b, .int c, .int x, .int y, .int z]), some (.list wordsPV), some (.list signsPV), some (.list (ps.map fmPV)), e4, e5, e6, e7]
noncomputable def fBody : List MS := [(.asg (.name 5) (.bin .Mod (.bin .FloorDiv (.sub (.var 0) (.lit (.int 1))) (.bin .Pow (.lit (.int 18)) (.var 4))) (.lit (.int 18)))), (.asg (.name 6) (.bin .Mod (.bin .FloorDiv (.sub (.var 0) (.lit (.int 2))) (.bin .Pow (.lit (.int 3)) (.var 4))) (.bin .Sub (.lit (.int 3)) (.var 4)))), (.asg (.name 7) (.tup [(.cmp .Gt (.var 5) (.lit (.int 8))), (.sub (.var 2) (.bin .Mod (.var 5) (.lit (.int 9)))), (.sub (.var 3) (.var 6)), (.sub (.var 3) (.bin .Add (.var 6) (.lit (.int 1))))])), (.asg (.name 3) (.bin .Add (.bin .Add (.slice (.var 3) (.lit .none) (.var 6)) (.list [(.var 7)])) (.slice (.var 3) (.bin .Add (.var 6) (.lit (.int 2))) (.lit .none))))]
theorem f_step {k : Nat} (hk : k < 3) {ps : List Fm} (hl : ps.length = 4 - k) (hs : (ps.map Fm.nodes).sum = k) {e4 e5 e6 e7 : Option PV} {K : Fl -> Env' -> List MV -> Prop}
  (q : ∀ (ps' : List Fm) (e4 e5 e6 e7 : Option PV), ps'.length = 4 - (k + 1) -> (ps'.map Fm.nodes).sum = k + 1 -> K .next (fEnv a b c x y z ps' e4 e5 e6 e7) []) :
  EX TT (CC TT n) 0 (fEnv a b c x y z ps (some (.int (0 + (k : Int)))) e5 e6 e7) [] fBody K := by
 have hz := sizeLine_eq
 obtain ⟨g1, g2⟩ := fmod_range (b.fdiv (18 ^ k)) (b := 18) (by exact Int.natCast_nonneg _)
 obtain ⟨t1, t2⟩ := fmod_range (c.fdiv (3 ^ k)) (b := 3 - (k : Int)) (by lia)
 have ek : ((0 : Int) + (k : Int)) = (k : Int) := by lia
 rw [ek]
 refine ex_asg (d := .int ((b.fdiv (18 ^ k)).fmod 18)) (fun Q r => ?_) ?_
 ·have p : ∀ k : Nat, k < 3 -> (Builtin.Int.intBits 18 : Int) * (k : Int) <= 2 ^ 27 /\ (18 : Int) ^ ((k : Int)).toNat ≠ 0 /\ ((18 : Int) ^ ((k : Int)).toNat).natAbs < 2 ^ 64 := by decide +kernel
  exact ⟨by decide, by decide, show 1 < 6 by decide, ⟨Int.natCast_nonneg _, (p k hk).1⟩, (p k hk).2, by decide, r⟩
 generalize (b.fdiv (18 ^ k)).fmod 18 = g at g1 g2 ⊢
 refine ex_asg (d := .int ((c.fdiv (3 ^ k)).fmod (3 - (k : Int)))) (fun Q r => ?_) ?_
 ·have p : ∀ k : Nat, k < 3 -> (Builtin.Int.intBits 3 : Int) * (k : Int) <= 2 ^ 27 /\ ((3 : Int) ^ ((k : Int)).toNat ≠ 0 /\ ((3 : Int) ^ ((k : Int)).toNat).natAbs < 2 ^ 64) /\ (3 : Int) - (k : Int) ≠ 0 := by decide +kernel
  exact ⟨by decide, by decide, show 2 < 6 by decide, ⟨Int.natCast_nonneg _, (p k hk).1⟩, (p k hk).2.1, (p k hk).2.2, r⟩
 generalize (c.fdiv (3 ^ k)).fmod (3 - (k : Int)) = t at t1 t2 ⊢
 obtain ⟨m, rfl⟩ : ∃ m : Nat, t = (m : Int) := ⟨t.toNat, by lia⟩
 have hm : m + 1 < ps.length := by lia
 obtain ⟨l, r, pr, po, hps, hpl⟩ : ∃ l r pr po, ps = pr ++ l :: r :: po /\ pr.length = m := by
  refine ⟨ps[m], ps[m + 1], ps.take m, ps.drop (m + 2), ?_, by simp; grind⟩
  have e1 := List.take_append_drop m ps
  have e2 : ps.drop m = ps[m] :: ps.drop (m + 1) := List.drop_eq_getElem_cons (by omega)
  have e3 : ps.drop (m + 1) = ps[m + 1] :: ps.drop (m + 2) := List.drop_eq_getElem_cons (by omega)
  rw [e2, e3] at e1
  exact e1.symm
 obtain ⟨s1, s2⟩ := fmod_range g (b := 9) (by exact Int.natCast_nonneg _)
 have hsg : (g.fmod 9).toNat < 9 := by grind
 refine ex_asg (d := fmPV (.n (decide (8 < g)) ⟨(g.fmod 9).toNat, hsg⟩ l r)) (fun Q w => ?_) ?_
 ·have eg := signs_at _ hsg
  refine ⟨by decide, s1, by grind, by simp [signsPV]; omega, ?_⟩
  rw [eg]
  have e1 : ((ps.map fmPV).getD m .none) = fmPV l := by
   rw [hps, <- hpl]; simp
  have e2 : ((ps.map fmPV).getD (m + 1) .none) = fmPV r := by
   rw [hps, <- hpl]; simp [List.getElem?_append_right]
  refine ⟨by omega, by lia, by simp; exact Nat.le_of_lt ‹_›, ?_⟩
  rw [show ((m : Int)).toNat = m by rfl, e1]
  refine ⟨by exact Int.natCast_nonneg _, by lia, by simp; omega, ?_⟩
  rw [show ((m : Int) + 1).toNat = m + 1 by rfl, e2]
  refine ⟨by simp [hz], w⟩
 refine ex_asg (d := .list ((pr ++ .n (decide (8 < g)) ⟨(g.fmod 9).toNat, hsg⟩ l r :: po).map fmPV)) (fun Q w => ?_) ?_
 ·refine ⟨by simp; grind, by omega, by simp; exact Nat.succ_pos _, ⟨by simp; grind, by simp; omega, by exact Int.natCast_nonneg _, by simp; grind, ?_⟩⟩
  have : (List.drop 0 (ps.map fmPV)).take (((m : Int)).toNat - 0) ++ [fmPV (.n (decide (8 < g)) ⟨(g.fmod 9).toNat, hsg⟩ l r)] ++ (List.drop (((m : Int) + 2)).toNat (ps.map fmPV)).take ((ps.map fmPV).length - (((m : Int) + 2)).toNat) = (pr ++ .n (decide (8 < g)) ⟨(g.fmod 9).toNat, hsg⟩ l r :: po).map fmPV := by
   rw [show ((m : Int)).toNat = m by rfl, show ((m : Int) + 2).toNat = m + 2 by rfl, List.take_of_length_le (l := List.drop (m + 2) _) (by simp), hps, <- hpl]
   have e4 : List.drop (pr.length + 2) (List.map fmPV pr ++ fmPV l :: fmPV r :: List.map fmPV po) = List.map fmPV po := by
    rw [show List.map fmPV pr ++ fmPV l :: fmPV r :: List.map fmPV po = (List.map fmPV pr ++ [fmPV l, fmPV r]) ++ List.map fmPV po by simp]
    exact List.drop_left' (by simp)
   simp [e4]
  rw [this]
  exact w
 refine ex_nil (q _ _ _ _ _ ?_ ?_)
 ·rw [hps] at hl; simp at hl ⊢; grind
 ·rw [hps] at hs; simp [Fm.nodes] at hs ⊢; lia
noncomputable def gI (a : Int) : PV -> Nat := fun d => match d with | .int k => ((a.fdiv (9 ^ k.toNat)).fmod 9).toNat | _ => 0
theorem gI_lt (a : Int) (d : PV) : gI a d < 9 := by
 unfold gI
 split
 ·rename_i k
  have := fmod_range (a.fdiv (9 ^ k.toNat)) (b := 9) (by exact Int.natCast_nonneg _)
  omega
 ·exact Nat.succ_pos _
theorem c_formula {μ : List MV} {K : PV -> Prop} (h : ∀ f : Fm, f.nodes = 3 -> K (fmPV f)) : CC TT (n + 1) 276 μ [.list [.int a, .int b, .int c, .int x, .int y, .int z]] K := .law_formula ⟨rfl, rfl, by
 have hz := sizeLine_eq
 simp only [List.map, List.replicate, List.cons_append, List.nil_append, Nat.reduceSub]
 refine ex_asg (d := .list wordsPV) (fun Q q => ⟨show 9 <= sizeLine from sz_le (Nat.le_refl 9), q⟩) ?_
 refine ex_asg (d := .list signsPV) (fun Q q => ⟨show 9 <= sizeLine from sz_le (Nat.le_refl 9), q⟩) ?_
 refine ex_asgV ?_
 refine ⟨by decide, rfl, ?_⟩
 have hgi : ∀ d, gI a d < 9 := gI_lt a
 refine comp_of (F := fun d => [wordsPV.getD (gI a d) .none]) [.int 0, .int 1, .int 2, .int 3] [] (fun d hd acc K1 hl1 hk => ?_) (by simp [hz]) ?_
 ·simp only [List.length_singleton] at hl1
  simp only [List.mem_cons, List.not_mem_nil, or_false] at hd
  have p0 : ∀ k : Nat, k < 4 -> (0 <= ((k : Nat) : Int) /\ (Builtin.Int.intBits 9 : Int) * (k : Int) <= 2 ^ 27) /\ ((9 : Int) ^ ((k : Int)).toNat ≠ 0 /\ ((9 : Int) ^ ((k : Int)).toNat).natAbs < 2 ^ 64) := by decide +kernel
  have go : ∀ k : Nat, k < 4 -> d = .int (k : Int) -> asgT (.name 8) d (([some (PV.list [.int a, .int b, .int c, .int x, .int y, .int z]), some (.list wordsPV), some (.list signsPV), none, none, none, none, none, none])) fun ρ1 => EVIfs TT (CC TT n) ρ1 [] [] fun b_1 => match b_1 with
    | true => EVG TT (CC TT n) ρ1 [] [] (fun ρ2 K2 => EV TT (CC TT n) ρ2 [] (.sub (.var 1) (.bin .Mod (.bin .FloorDiv (.sub (.var 0) (.lit (.int 0))) (.bin .Pow (.lit (.int 9)) (.var 8))) (.lit (.int 9)))) K2) acc K1
    | false => K1 acc := fun k hk4 e => by
   subst e
   obtain ⟨p1, p2⟩ := p0 k hk4
   obtain ⟨s1, s2⟩ := fmod_range (a.fdiv (9 ^ ((k : Int)).toNat)) (b := 9) (by exact Int.natCast_nonneg _)
   refine ⟨by decide, by decide, show 0 < 6 by decide, p1, p2, by decide, s1, Int.lt_trans s2 (by decide), (by show ((a.fdiv _).fmod 9).toNat < 9; omega), by trivial, hk⟩
  rcases hd with rfl | rfl | rfl | rfl
  ·exact go 0 (by exact Nat.succ_pos _) rfl
  ·exact go 1 (by decide) rfl
  ·exact go 2 (by exact Nat.le_succ _) rfl
  ·exact go 3 (by exact Nat.le_refl _) rfl
 ·simp only [List.flatMap_cons, List.flatMap_nil, List.nil_append, List.cons_append]
  rw [words_at _ (hgi (.int 0)), words_at _ (hgi (.int 1)), words_at _ (hgi (.int 2)), words_at _ (hgi (.int 3))]
  generalize (⟨gI a (.int 0), hgi (.int 0)⟩ : _root_.Fin 9) = w0
  generalize (⟨gI a (.int 1), hgi (.int 1)⟩ : _root_.Fin 9) = w1
  generalize (⟨gI a (.int 2), hgi (.int 2)⟩ : _root_.Fin 9) = w2
  generalize (⟨gI a (.int 3), hgi (.int 3)⟩ : _root_.Fin 9) = w3
  refine ex_for (items := (List.range' 0 3).map fun (i : Nat) => .int (0 + (i : Int))) (ro1 := 0)
   (J := fun ds ρ μ => ∃ (k : Nat) (ps : List Fm) (e4 e5 e6 e7 : Option PV), k <= 3 /\ ds = (List.range' k (3 - k)).map (fun (i : Nat) => .int (0 + (i : Int))) /\ ps.length = 4 - k /\ (ps.map Fm.nodes).sum = k /\ ρ = fEnv a b c x y z ps e4 e5 e6 e7 /\ μ = [])
   (fun Q q => ?_) ⟨0, [.w w0, .w w1, .w w2, .w w3], none, none, none, none, by exact Nat.zero_le _, rfl, rfl, rfl, rfl, rfl⟩ ?_ ?_
  ·exact ⟨by decide, q⟩
  ·rintro d ds ρ μ ⟨k, ps, e4, e5, e6, e7, h1, h2, h3, h4, rfl, rfl⟩
   have hk : k < 3 := by
    by_cases hk : k < 3
    ·exact hk
    ·rw [show 3 - k = 0 by grind] at h2; simp at h2
   rw [show 3 - k = (3 - (k + 1)) + 1 by grind, List.range'_succ] at h2
   simp only [List.map_cons, List.cons.injEq] at h2
   obtain ⟨rfl, rfl⟩ := h2
   intro K' kn kc kb
   exact f_step (n := n) (e4 := e4) hk h3 h4 fun ps' e4 e5 e6 e7 a1 a2 => kn _ _ ⟨k + 1, ps', e4, e5, e6, e7, by trivial, rfl, a1, a2, rfl, rfl⟩
  ·rintro ρ μ ⟨k, ps, e4, e5, e6, e7, h1, h2, h3, h4, rfl, rfl⟩
   have hk : k = 3 := by
    by_cases hk : k = 3
    ·exact hk
    ·rw [show 3 - k = (3 - (k + 1)) + 1 by lia, List.range'_succ] at h2; simp at h2
   subst hk
   match ps, h3, h4 with
   | [f], _, h4 =>
    have hn : f.nodes = 3 := by simpa using h4
    refine ex_ret (d := fmPV f) (fun Q q => ?_) ?_
    ·exact ⟨by exact Int.natCast_nonneg _, by exact Int.natCast_nonneg _, by simp, q⟩
    ·have : ∀ d : PV, noPtr d = true -> K d -> outR [] d K := fun d h1 h2 => by
      cases d <;> first | exact ⟨h1, h2⟩ | cases h1
     exact this _ (fm_noPtr f) (h f hn)⟩
end
noncomputable def restL (p q : Nat) : List Nat := (List.range 12).filter fun k => !(k == p || k == q)
theorem restL_all : ((List.range 12).all fun p => (List.range 12).all fun q => p == q || ((restL p q).length == 10 && (List.range 10).all fun i => decide ((restL p q).getD i 0 < 12) && (restL p q).getD i 0 != p && (restL p q).getD i 0 != q)) = true := by decide +kernel
theorem restL_ok (p : Nat) (hp : p < 12) (q : Nat) (hq : q < 12) (h : p ≠ q) : (restL p q).length = 10 /\ ∀ i, i < 10 -> (restL p q).getD i 0 < 12 /\ (restL p q).getD i 0 ≠ p /\ (restL p q).getD i 0 ≠ q := by
 have h1 := List.all_eq_true.mp (List.all_eq_true.mp restL_all p (List.mem_range.mpr hp)) q (List.mem_range.mpr hq)
 simp only [Bool.or_eq_true, beq_iff_eq, h, false_or, Bool.and_eq_true] at h1
 refine ⟨h1.1, fun i hi => ?_⟩
 have h2 := List.all_eq_true.mp h1.2 i (List.mem_range.mpr hi)
 simp only [Bool.and_eq_true, decide_eq_true_eq, bne_iff_ne] at h2
 exact ⟨h2.1.1, h2.1.2, h2.2⟩
theorem evb_notin {T : Tabs} {C : CT} {ρ : Env'} {μ : List MV} {i j m : Nat} {k p q : Int} (h : ρ[i]? = some (some (.int k))) (hj : ρ[j]? = some (some (.int p))) (hm : ρ[m]? = some (some (.int q))) :
  EvB T C ρ μ (.cmp .NotIn (.var i) (.tup [.var j, .var m])) (!(k == p || k == q)) := fun K w => by
 refine rOO (P := fun a => EVs T C ρ μ [.var j, .var m] fun ds => ds.length <= sizeLine /\ CMP .NotIn (view μ a) (.tup ds) K) h (rOO (P := fun a => EVs T C ρ μ [.var m] fun ds => (a :: ds).length <= sizeLine /\ CMP .NotIn (.int k) (.tup (a :: ds)) K) hj (rOO (P := fun a => [.int p, a].length <= sizeLine /\ CMP .NotIn (.int k) (.tup [.int p, a]) K) hm ⟨sz_le (Nat.le_refl 2), rfl, ?_⟩))
 show K (!(k == p || (k == q || false)))
 rw [Bool.or_false]; exact w
theorem c_places {n : Nat} {μ : List MV} {K : PV -> Prop} {num : Int} (h : ∀ p0 p1 p2 : Nat, p0 < 12 -> p1 < 12 -> p2 < 12 -> p0 ≠ p1 -> p0 ≠ p2 -> p1 ≠ p2 -> K (.list [.int (p0 : Int), .int (p1 : Int), .int (p2 : Int)])) :
  CC TT (n + 1) 327 μ [.int num] K := .law_places ⟨rfl, rfl, by
 dsimp only [List.map, List.replicate, List.cons_append, List.nil_append, Nat.reduceSub]
 obtain ⟨a1, a2⟩ := fmod_range num (b := 12) (by lia)
 refine ex_asg (d := .int (num.fmod 12)) (fun Q q => ?_) ?_
 ·exact ⟨by lia, q⟩
 generalize hf : num.fmod 12 = f at a1 a2 ⊢
 obtain ⟨p0, rfl⟩ : ∃ m : Nat, f = (m : Int) := ⟨f.toNat, by lia⟩
 obtain ⟨b1, b2⟩ := fmod_range (num.fdiv 12) (b := 11) (by lia)
 obtain ⟨c1, c2⟩ := fmod_range ((p0 : Int) + 1 + (num.fdiv 12).fmod 11) (b := 12) (by lia)
 have e2 : ((p0 : Int) + 1 + (num.fdiv 12).fmod 11).fmod 12 = ((p0 : Int) + 1 + (num.fdiv 12).fmod 11) % 12 := Int.fmod_eq_emod_of_nonneg _ (by lia)
 refine ex_asg (d := .int (((p0 : Int) + 1 + (num.fdiv 12).fmod 11).fmod 12)) (fun Q q => ?_) ?_
 ·exact ⟨⟨by decide, by decide⟩, by decide, by decide, q⟩
 generalize ((p0 : Int) + 1 + (num.fdiv 12).fmod 11).fmod 12 = g at c1 c2 e2 ⊢
 obtain ⟨p1, rfl⟩ : ∃ m : Nat, g = (m : Int) := ⟨g.toNat, by lia⟩
 have h01 : p0 ≠ p1 := by lia
 obtain ⟨r1, r2⟩ := restL_ok p0 (by lia) p1 (by lia) h01
 have fm : ((List.range 12).map fun (i : Nat) => PV.int (0 + (i : Int))).flatMap (fun d => match d with | PV.int k => if !(k == (p0 : Int) || k == (p1 : Int)) then [PV.int k] else [] | _ => []) = (restL p0 p1).map fun (i : Nat) => .int (i : Int) := by
  unfold restL
  generalize List.range 12 = l
  induction l with
  | nil => rfl
  | cons k l ih =>
   rw [List.map_cons, List.flatMap_cons, ih, List.filter_cons]
   have e : (((0 : Int) + (k : Int)) == (p0 : Int) || ((0 : Int) + (k : Int)) == (p1 : Int)) = (k == p0 || k == p1) := by
    rw [Bool.eq_iff_iff]; simp; omega
   simp only [e]
   cases (k == p0 || k == p1) <;> simp
 refine ex_asg (d := .list ((restL p0 p1).map fun (i : Nat) => .int (i : Int))) (fun Q q => ?_) ?_
 ·refine ⟨by decide, rfl, ?_⟩
  refine comp_of (F := fun d => match d with | PV.int k => if !(k == (p0 : Int) || k == (p1 : Int)) then [PV.int k] else [] | _ => []) ((List.range 12).map fun (i : Nat) => .int (0 + (i : Int))) [] (fun d hd acc K1 hl1 hk => ?_) ?_ ?_
  ·obtain ⟨i, hi, rfl⟩ := List.mem_map.mp hd
   refine evb_notin (T := TT) (C := CC TT n) (ρ := [some (.int num), some (.int (p0 : Int)), some (.int (p1 : Int)), none, some (.int (0 + (i : Int)))]) (μ := []) (i := 4) (j := 1) (m := 2) rfl rfl rfl _ ?_
   cases hb : ((0 + (i : Int)) == (p0 : Int) || (0 + (i : Int)) == (p1 : Int)) with
   | false =>
    simp only [hb] at hk hl1
    exact ⟨hl1, hk⟩
   | true =>
    simp only [hb] at hk
    exact List.append_nil acc ▸ hk
  ·rw [fm, List.length_map, r1]; exact sz_le (Nat.le_refl 10)
  ·rw [fm]; exact q
 obtain ⟨d1, d2⟩ := fmod_range (num.fdiv 132) (b := 10) (by lia)
 generalize hd : (num.fdiv 132).fmod 10 = t at d1 d2
 obtain ⟨m, rfl⟩ : ∃ m : Nat, t = (m : Int) := ⟨t.toNat, by lia⟩
 obtain ⟨q1, q2, q3⟩ := r2 m (by lia)
 refine ex_ret (d := .list [.int (p0 : Int), .int (p1 : Int), .int ((restL p0 p1).getD m 0 : Nat)]) (fun Q q => ?_) ⟨rfl, h p0 p1 _ (by lia) (by lia) q1 h01 (Ne.symm q2) (Ne.symm q3)⟩
 refine ⟨⟨by decide, by decide⟩, by decide, ?_⟩
 show nth ((restL p0 p1).map fun (i : Nat) => .int (i : Int)) ((num.fdiv 132).fmod 10) fun d => 3 <= sizeLine /\ Q (.list [.int (p0 : Int), .int (p1 : Int), d])
 rw [hd]
 refine ⟨by lia, by lia, by rw [List.length_map, r1]; lia, sz_le (Nat.le_refl 3), ?_⟩
 have : ((restL p0 p1).map fun (i : Nat) => PV.int (i : Int)).getD ((m : Int)).toNat .none = .int ((restL p0 p1).getD m 0 : Nat) := by
  have hm : m < (restL p0 p1).length := by lia
  simp [hm]
 rw [this]
 exact q⟩
noncomputable def prep (ts : List Nat) : List Nat := (ts.filter fun c : Nat => !b1L.contains (c : Int)).flatMap m3
theorem join_nil (xs : List (List Nat)) : (Txt.join (strOf []) (xs.map strOf)).cps.toList = xs.flatten := by
 show (Builtin.Str.glued (strOf []) (xs.map strOf)).cps.toList = _
 rw [StrLaws.glued_eq_join]
 induction xs with
 | nil => rfl
 | cons x r ih =>
  cases r with
  | nil => simp [Str.join]
  | cons y r =>
   show ((strOf x).cps ++ (strOf []).cps ++ (Str.join (strOf []) ((y :: r).map strOf)).cps).toList = _
   rw [Array.toList_append, Array.toList_append, ih]
   simp
theorem join_ok {sep : Str} {texts : List Str} (h : (texts.map (·.length)).sum + texts.length * sep.length <= 1000000) : JoinOk sep texts = true := by
 unfold JoinOk
 rw [StrLaws.joinTotal]
 unfold Builtin.Str.tooLong
 rw [sizeLine_eq]
 simp
 omega
theorem c_prep {n : Nat} {μ : List MV} {K : PV -> Prop} (ts : List Nat) (hl : (prep ts).length <= 1000) (h1 : ts.length <= 1000) (h : K (.str (prep ts))) : CC TT (n + 2) 298 μ [.list (ts.map fun c => .str [c])] K := .law_prepared ⟨rfl, by
  have := ht_noPtr ts
  simpa [noPtrs, htPV] using this, by
 have fm : (ts.map fun c => PV.str [c]).flatMap (fun d => match d with | PV.str [c] => if !b1L.contains (c : Int) then [PV.str (m3 c)] else [] | _ => []) = ((ts.filter fun c : Nat => !b1L.contains (c : Int)).map m3).map .str := by
  rw [List.flatMap_map, List.map_map]
  exact flatMap_if (fun c : Nat => !b1L.contains (c : Int)) (fun c => PV.str (m3 c)) ts
 refine ex_ret (d := .str (prep ts)) (fun Q q => ?_) ⟨rfl, h⟩
 refine ⟨rfl, comp_of (F := fun d => match d with | PV.str [c] => if !b1L.contains (c : Int) then [PV.str (m3 c)] else [] | _ => []) _ _ (fun d hd acc K1 hl1 hk => ?_) ?_ ?_⟩
 ·obtain ⟨c, hc, rfl⟩ := List.mem_map.mp hd
  refine c_b1 (n := n) (μ := []) c ?_
  show match !b1L.contains (c : Int) with | true => _ | false => _
  cases hb : b1L.contains (c : Int) with
  | true =>
   simp only [hb] at hk
   exact List.append_nil acc ▸ hk
  | false =>
   simp only [hb] at hk hl1
   exact c_b3 (n := n) (μ := []) c ⟨hl1, hk⟩
 ·rw [fm]
  rw [List.length_map, List.length_map, List.length_nil, Nat.zero_add]
  exact Nat.le_trans (List.length_filter_le ..) (sz_le h1)
 ·rw [fm]
  show match strsOf (((ts.filter fun c : Nat => !b1L.contains (c : Int)).map m3).map .str) with | some xs => JoinOk (strOf []) (xs.map strOf) = true /\ Q (.str (Txt.join (strOf []) (xs.map strOf)).cps.toList) | none => False
  rw [strsOf_all]
  show _ /\ Q _
  rw [join_nil, show ((ts.filter fun c : Nat => !b1L.contains (c : Int)).map m3).flatten = prep ts from rfl]
  refine ⟨join_ok ?_, q⟩
  have e : ((((ts.filter fun c : Nat => !b1L.contains (c : Int)).map m3).map strOf).map (·.length)).sum = (prep ts).length := by
   unfold prep
   rw [List.length_flatMap, List.map_map, List.map_map]
   rfl
  rw [e]
  simp [Str.length]
  omega⟩
noncomputable def lig : List (List Nat × Nat) := [([102, 102, 105], 64259), ([102, 102, 108], 64260), ([102, 102], 64256), ([102, 105], 64257), ([102, 108], 64258)]
noncomputable def caps : List Nat := [65, 119808, 119860, 119912, 120016, 120172, 120224, 120276, 120328, 120380, 120432]
noncomputable def unseenL : List Nat := [173, 847, 6150, 6155, 6156, 6157, 8203, 8204, 8205, 8288, 65279] ++ (List.range 16).map (65024 + ·)
noncomputable def AL : List Nat := [102, 105, 108, 38, 124, 94, 60, 62, 61, 33, 126, 40, 41]
theorem lig_ok : ∀ p ∈ lig, prep [p.2] = p.1 := by decide +kernel
theorem caps_ok : ∀ c ∈ caps, ∀ x ∈ [102, 105, 108], prep [c + x - 97] = [x] := by decide +kernel
theorem al_ok : ∀ x ∈ AL, prep [x] = [x] := by decide +kernel
theorem unseen_ok : ∀ x ∈ unseenL, prep [x] = [] := by decide +kernel
theorem alpha_ok : ∀ x ∈ AL, Txt.isalpha (strOf [x]) = true -> x ∈ [102, 105, 108] := by decide +kernel
theorem prep_append (a b : List Nat) : prep (a ++ b) = prep a ++ prep b := by simp [prep]
noncomputable def ligPV : List PV := lig.map fun p => .tup [.str p.1, .int (p.2 : Int)]
noncomputable def capsPV : List PV := caps.map fun (c : Nat) => .int (c : Int)
noncomputable def unseenPV : List PV := unseenL.map fun (c : Nat) => .int (c : Int)
noncomputable def onesPV (ts : List Nat) : List PV := ts.map fun c => .str [c]
noncomputable def fitsL (t : List Nat) (a : Nat) : List (List Nat × Nat) := lig.filter fun p => (t.drop a).take p.1.length == p.1
noncomputable def fitsPV (t : List Nat) (a : Nat) : PV := .list ((fitsL t a).map fun p => .tup [.str p.1, .int (p.2 : Int)])
section
variable {n : Nat} {t : List Nat} {style hidden : Int}
noncomputable abbrev tEnv (t : List Nat) (style hidden : Int) (a : Nat) (e8 e9 : Option PV) : Env' := [some (.str t), some (.int style), some (.int hidden), some (.list ligPV), some (.list capsPV), some (.list unseenPV), some (.ptr 0), some (.int (a : Int)), e8, e9]
theorem evb_fit {C : CT} {μ : List MV} {a : Nat} {w : List Nat} {c : Int} {e8 e9 : Option PV} (hl : t.length <= sizeLine) (hw : w.length < 100) :
  EvB TT C (tEnv t style hidden a e8 e9 ++ [some (.tup [.str w, .int c])]) μ (.cmp .Eq (.slice (.var 0) (.var 7) (.bin .Add (.var 7) (.bi .len [(.sub (.var 10) (.lit (.int 0)))]))) (.sub (.var 10) (.lit (.int 0)))) ((t.drop a).take w.length == w) := fun K q => by
 refine ⟨by decide, by decide, show 0 < 2 by decide, Nat.lt_trans hw (by decide), hl, Int.natCast_nonneg _, Int.natCast_nonneg (a + w.length), by decide, by decide, show 0 < 2 by decide, ?_⟩
 show K ((t.drop a).take (a + w.length - a) == w)
 rw [Nat.add_sub_cancel_left]
 exact q
theorem lig_len : ∀ p ∈ lig, p.1.length < 100 := by decide
theorem fits_go {e8 e9 : Option PV} {a : Nat} {μ : List MV} (hl : t.length <= sizeLine) : Ev TT (CC TT n) (tEnv t style hidden a e8 e9) μ (.comp 1 (.var 10) (.var 3) (.name 10) [(.cmp .Eq (.slice (.var 0) (.var 7) (.bin .Add (.var 7) (.bi .len [(.sub (.var 10) (.lit (.int 0)))]))) (.sub (.var 10) (.lit (.int 0))))] []) (fitsPV t a) := fun Q q => by
 have fm : ligPV.flatMap (fun d => match d with | .tup [.str w, .int c] => if (t.drop a).take w.length == w then [PV.tup [.str w, .int c]] else [] | _ => []) = ((fitsL t a).map fun p => PV.tup [.str p.1, .int (p.2 : Int)]) := by
  exact flatMap_if (fun p : List Nat × Nat => (t.drop a).take p.1.length == p.1) (fun p => PV.tup [.str p.1, .int (p.2 : Int)]) lig
 refine ⟨rfl, comp_of (F := fun d => match d with | .tup [.str w, .int c] => if (t.drop a).take w.length == w then [PV.tup [.str w, .int c]] else [] | _ => []) ligPV [] (fun d hd acc K1 hl1 hk => ?_) ?_ ?_⟩
 ·obtain ⟨p, hp, rfl⟩ := List.mem_map.mp hd
  refine evb_fit (style := style) (hidden := hidden) (C := CC TT n) (μ := μ) (w := p.1) (c := (p.2 : Int)) (e8 := e8) (e9 := e9) hl (lig_len p hp) _ ?_
  cases hb : ((t.drop a).take p.1.length == p.1) with
  | true =>
   simp only [hb] at hk hl1
   exact ⟨hl1, hk⟩
  | false =>
   simp only [hb] at hk
   exact List.append_nil acc ▸ hk
 ·rw [fm, List.length_map, List.length_nil, Nat.zero_add]
  exact Nat.le_trans (List.length_filter_le ..) (sz_le (b := 5) (Nat.le_refl 5))
 ·rw [fm]; exact q
noncomputable def tBody3 : MS := (.ife (.cmp .Eq (.bin .Mod (.bin .Add (.var 2) (.var 7)) (.lit (.int 4))) (.lit (.int 0))) [(.app (.var 6) (.bi .chr [(.sub (.var 5) (.bin .Mod (.bin .Add (.bin .FloorDiv (.var 2) (.lit (.int 4))) (.var 7)) (.lit (.int 27))))]))] [])
theorem t_end {a : Nat} {ts : List Nat} {e8 e9 : Option PV} {K : Fl -> Env' -> List MV -> Prop} (hl : ts.length <= 1000)
  (q : ∀ ts' : List Nat, prep ts' = prep ts -> ts'.length <= ts.length + 1 -> K .next (tEnv t style hidden a e8 e9) [.list (onesPV ts')]) :
  EX TT (CC TT n) 0 (tEnv t style hidden a e8 e9) [.list (onesPV ts)] [tBody3] K := by
 have hz := sizeLine_eq
 refine ex_ife (c := (hidden + (a : Int)).fmod 4 == 0) (fun Q w => ?_) ?_
 ·exact ⟨by decide, w⟩
 cases (hidden + (a : Int)).fmod 4 == 0 with
 | false => exact ex_nil (q ts rfl (by exact Nat.le_succ _))
 | true =>
  obtain ⟨b1, b2⟩ := fmod_range (hidden.fdiv 4 + (a : Int)) (b := 27) (by exact Int.natCast_nonneg _)
  have hu : unseenL.length = 27 := rfl
  have hup : unseenPV.length = 27 := rfl
  generalize hg : (hidden.fdiv 4 + (a : Int)).fmod 27 = g at b1 b2
  have hm : unseenL.getD g.toNat 0 ∈ unseenL := by
   rw [List.getD_eq_getElem?_getD, List.getElem?_eq_getElem (by lia : g.toNat < unseenL.length)]
   exact List.getElem_mem _
  have hub : ∀ c ∈ unseenL, c <= 1114111 := by decide
  refine ex_app (i := 0) (l := onesPV ts) (d := .str [unseenL.getD g.toNat 0]) (ev_var rfl) (fun Q w => ?_) rfl (Nat.le_refl _) (by simp [onesPV]; lia) ?_
  ·refine ⟨⟨by decide, by decide⟩, by decide, ?_⟩
   rw [hg]
   refine ⟨b1, by lia, by lia, ?_⟩
   have e : unseenPV.getD g.toNat .none = .int ((unseenL.getD g.toNat 0 : Nat) : Int) := by
    unfold unseenPV
    have hlt : g.toNat < unseenL.length := by lia
    simp [hlt]
   rw [e]
   refine ⟨⟨by exact Int.natCast_nonneg _, by have := hub _ hm; lia⟩, ?_⟩
   exact w
  have e : onesPV ts ++ [.str [unseenL.getD g.toNat 0]] = onesPV (ts ++ [unseenL.getD g.toNat 0]) := by simp [onesPV]
  rw [e]
  refine ex_nil (q _ ?_ (by simp))
  rw [prep_append, unseen_ok _ hm, List.append_nil]
noncomputable def tBody : List MS := [(.asg (.name 8) (.comp 1 (.var 10) (.var 3) (.name 10) [(.cmp .Eq (.slice (.var 0) (.var 7) (.bin .Add (.var 7) (.bi .len [(.sub (.var 10) (.lit (.int 0)))]))) (.sub (.var 10) (.lit (.int 0))))] [])), (.ife (.bop true (.cmp .NotEq (.var 8) (.list [])) (.cmp .Eq (.bin .Mod (.bin .Add (.var 1) (.var 7)) (.lit (.int 2))) (.lit (.int 0)))) [(.app (.var 6) (.bi .chr [(.sub (.sub (.var 8) (.lit (.int 0))) (.lit (.int 1)))])), (.aug 7 .Add (.bi .len [(.sub (.sub (.var 8) (.lit (.int 0))) (.lit (.int 0)))]))] [(.asg (.name 9) (.bin .Mod (.bin .Add (.bin .FloorDiv (.var 1) (.lit (.int 2))) (.bin .Mult (.lit (.int 5)) (.var 7))) (.lit (.int 12)))), (.ife (.bop true (.meth .isalpha (.sub (.var 0) (.var 7)) []) (.cmp .Gt (.var 9) (.lit (.int 0)))) [(.app (.var 6) (.bi .chr [(.bin .Sub (.bin .Add (.sub (.var 4) (.bin .Sub (.var 9) (.lit (.int 1)))) (.bi .ord [(.sub (.var 0) (.var 7))])) (.lit (.int 97)))]))] [(.app (.var 6) (.sub (.var 0) (.var 7)))]), (.aug 7 .Add (.lit (.int 1)))]), tBody3]
theorem evb_fits {a : Nat} {e9 : Option PV} {μ : List MV} : EvB TT (CC TT n) (tEnv t style hidden a (some (fitsPV t a)) e9) μ (.bop true (.cmp .NotEq (.var 8) (.list [])) (.cmp .Eq (.bin .Mod (.bin .Add (.var 1) (.var 7)) (.lit (.int 2))) (.lit (.int 0)))) (!(fitsL t a).isEmpty && (style + (a : Int)).fmod 2 == 0) := fun Q q => by
 refine ⟨Nat.zero_le _, ?_⟩
 show match !((fitsL t a).map fun p => PV.tup [.str p.1, .int (p.2 : Int)]).isEmpty with | true => _ | false => _
 rw [List.isEmpty_map]
 cases hb : (!(fitsL t a).isEmpty) with
 | false => rw [hb] at q; exact q
 | true =>
  rw [hb] at q
  exact ⟨by decide, q⟩
theorem ev_at {C : CT} {ρ : Env'} {μ : List MV} {a : Nat} (hl : t.length <= sizeLine) (ha : a < t.length) (h0 : ρ[0]? = some (some (.str t))) (h7 : ρ[7]? = some (some (.int (a : Int)))) : Ev TT C ρ μ (.sub (.var 0) (.var 7)) (.str [t.getD a 0]) := fun K q => by
 have hz := sizeLine_eq
 exact rOO (P := fun x => EV TT C ρ μ (.var 7) fun i => SUB (view μ x) i K) h0 (rOO (P := fun i => SUB (.str t) i K) h7 ⟨Int.natCast_nonneg _, by lia, ha, q⟩)
theorem t_step {a : Nat} {ts : List Nat} {e8 e9 : Option PV} {K : Fl -> Env' -> List MV -> Prop} (ht : ∀ x ∈ t, x ∈ AL) (hl : t.length <= 200) (ha : a < t.length) (hp : prep ts = t.take a) (hn : ts.length <= 2 * a)
  (q : ∀ (a' : Nat) (ts' : List Nat) (e8 e9 : Option PV), a < a' -> a' <= t.length -> prep ts' = t.take a' -> ts'.length <= 2 * a' -> K .next (tEnv t style hidden a' e8 e9) [.list (onesPV ts')]) :
  EX TT (CC TT n) 0 (tEnv t style hidden a e8 e9) [.list (onesPV ts)] tBody K := by
 have hz := sizeLine_eq
 refine ex_asg (d := fitsPV t a) (fits_go (by lia)) ?_
 show EX TT (CC TT n) 0 (tEnv t style hidden a (some (fitsPV t a)) e9) [.list (onesPV ts)] _ K
 refine ex_ife evb_fits ?_
 cases hb : (!(fitsL t a).isEmpty && (style + (a : Int)).fmod 2 == 0) with
 | true =>
  obtain ⟨p, r, hf⟩ : ∃ p r, fitsL t a = p :: r := by
   cases h : fitsL t a with
   | nil => rw [h] at hb; simp at hb
   | cons p r => exact ⟨p, r, rfl⟩
  have hmem : p ∈ fitsL t a := by rw [hf]; exact .head _
  rw [show fitsPV t a = .list (.tup [.str p.1, .int (p.2 : Int)] :: r.map fun p => .tup [.str p.1, .int (p.2 : Int)]) by unfold fitsPV; rw [hf]; rfl]
  have hpl : p ∈ lig := (List.mem_filter.mp hmem).1
  have hpe : (t.drop a).take p.1.length = p.1 := by simpa using (List.mem_filter.mp hmem).2
  have hple : 0 < p.1.length /\ p.1.length < 100 /\ p.2 <= 1114111 := by
   have : ∀ p ∈ lig, 0 < p.1.length /\ p.1.length < 100 /\ p.2 <= 1114111 := by decide
   exact this p hpl
  have hfit : a + p.1.length <= t.length := by
   have := congrArg List.length hpe
   rw [List.length_take, List.length_drop] at this
   lia
  refine ex_app (i := 0) (l := onesPV ts) (d := .str [p.2]) (ev_var rfl) (fun Q w => ?_) rfl (Nat.le_refl _) (by simp [onesPV]; lia) ?_
  ·exact ⟨by decide, by decide, Nat.succ_pos _, by decide, by decide, show 1 < 2 by decide, ⟨Int.natCast_nonneg _, by lia⟩, w⟩
  refine ex_aug (x := (a : Int)) (y := (p.1.length : Int)) (d := .int ((a + p.1.length : Nat) : Int)) rfl (fun Q w => ?_) (fun Q w => ?_) ?_
  ·exact ⟨by decide, by decide, Nat.succ_pos _, by decide, by decide, show 0 < 2 by decide, by lia, w⟩
  ·exact w
  have e : onesPV ts ++ [.str [p.2]] = onesPV (ts ++ [p.2]) := by simp [onesPV]
  rw [e]
  refine t_end (by simp; lia) fun ts' h1 h2 => q _ ts' _ _ (by lia) hfit ?_ (by simp at h2; lia)
  rw [h1, prep_append, lig_ok p hpl, hp, List.take_add, hpe]
 | false =>
  obtain ⟨b1, b2⟩ := fmod_range (style.fdiv 2 + 5 * (a : Int)) (b := 12) (by exact Int.natCast_nonneg _)
  refine ex_asg (d := .int ((style.fdiv 2 + 5 * (a : Int)).fmod 12)) (fun Q w => ?_) ?_
  ·exact ⟨⟨by decide, by decide⟩, IntMulOk.of_left (by decide +kernel), by decide, w⟩
  generalize (style.fdiv 2 + 5 * (a : Int)).fmod 12 = way at b1 b2 ⊢
  show EX TT (CC TT n) 0 (tEnv t style hidden a (some (fitsPV t a)) (some (.int way))) [.list (onesPV ts)] _ K
  have hx : t.getD a 0 ∈ t := by
   rw [List.getD_eq_getElem?_getD, List.getElem?_eq_getElem ha]
   exact List.getElem_mem _
  have hAL := ht _ hx
  have htk : t.take (a + 1) = t.take a ++ [t.getD a 0] := by
   rw [List.take_add_one, List.getD_eq_getElem?_getD, List.getElem?_eq_getElem ha]; rfl
  refine ex_ife (c := Txt.isalpha (strOf [t.getD a 0]) && decide (0 < way)) (fun Q w => ?_) ?_
  ·refine ⟨Int.natCast_nonneg _, by lia, ha, ?_⟩
   show match Txt.isalpha (strOf [t.getD a 0]) with | true => Q (decide (0 < way)) | false => Q false
   cases hA : Txt.isalpha (strOf [t.getD a 0]) with
   | false => rw [hA] at w; exact w
   | true => rw [hA] at w; exact w
  have fin : ∀ c : Nat, prep [c] = [t.getD a 0] -> EX TT (CC TT n) 0 (tEnv t style hidden a (some (fitsPV t a)) (some (.int way))) [.list (onesPV ts ++ [.str [c]])] [(.aug 7 .Add (.lit (.int 1))), tBody3] K := fun c hc => by
   refine ex_aug (x := (a : Int)) (y := 1) (d := .int ((a + 1 : Nat) : Int)) rfl (fun Q w => by exact w) (fun Q w => by exact w) ?_
   have e : onesPV ts ++ [.str [c]] = onesPV (ts ++ [c]) := by simp [onesPV]
   rw [e]
   refine t_end (by simp; lia) fun ts' h1 h2 => q (a + 1) ts' _ _ (by exact Nat.le_refl _) (by trivial) ?_ (by simp at h2; lia)
   rw [h1, prep_append, hc, hp, htk]
  cases hA : (Txt.isalpha (strOf [t.getD a 0]) && decide (0 < way)) with
  | true =>
   simp only [Bool.and_eq_true, decide_eq_true_eq] at hA
   have h3 := alpha_ok _ hAL hA.1
   have hcl : caps.length = 11 := rfl
   have hcm : caps.getD (way - 1).toNat 0 ∈ caps := by
    rw [List.getD_eq_getElem?_getD, List.getElem?_eq_getElem (by lia : (way - 1).toNat < caps.length)]
    exact List.getElem_mem _
   have hcb : ∀ c ∈ caps, 65 <= c /\ c <= 200000 := by decide
   have hxb : ∀ x ∈ [102, 105, 108], (97 : Nat) <= x /\ x <= 122 := by decide
   have hc1 := hcb _ hcm
   have hx1 := hxb _ h3
   have e : capsPV.getD (way - 1).toNat .none = .int ((caps.getD (way - 1).toNat 0 : Nat) : Int) := by
    unfold capsPV
    have hlt : (way - 1).toNat < caps.length := by lia
    rw [List.getD_eq_getElem?_getD, List.getD_eq_getElem?_getD, List.getElem?_map, List.getElem?_eq_getElem hlt]
    rfl
   refine ex_app (i := 0) (l := onesPV ts) (d := .str [caps.getD (way - 1).toNat 0 + t.getD a 0 - 97]) (ev_var rfl) (fun Q w => ?_) rfl (Nat.le_refl _) (by simp [onesPV]; lia) (fin _ (caps_ok _ hcm _ h3))
   ·refine ⟨by lia, by lia, by simp [capsPV]; lia, ?_⟩
    rw [e]
    refine ⟨Int.natCast_nonneg _, by lia, ha, ⟨show 0 <= ((caps.getD (way - 1).toNat 0 : Nat) : Int) + ((t.getD a 0 : Nat) : Int) - 97 by lia, show ((caps.getD (way - 1).toNat 0 : Nat) : Int) + ((t.getD a 0 : Nat) : Int) - 97 <= 1114111 by lia⟩, ?_⟩
    show Q (.str [(((caps.getD (way - 1).toNat 0 : Nat) : Int) + ((t.getD a 0 : Nat) : Int) - 97).toNat])
    rw [show (((caps.getD (way - 1).toNat 0 : Nat) : Int) + ((t.getD a 0 : Nat) : Int) - 97).toNat = caps.getD (way - 1).toNat 0 + t.getD a 0 - 97 by lia]
    exact w
  | false =>
   exact ex_app (i := 0) (l := onesPV ts) (d := .str [t.getD a 0]) (ev_var rfl) (ev_at (by lia) ha rfl rfl) rfl (Nat.le_refl _) (by simp [onesPV]; lia) (fin _ (al_ok _ hAL))
end
theorem c_typed {n : Nat} {μ : List MV} {K : PV -> Prop} {t : List Nat} {style hidden : Int} (ht : ∀ x ∈ t, x ∈ AL) (hl : t.length <= 200) (h : ∀ ts : List Nat, prep ts = t -> ts.length <= 2 * t.length -> K (.list (onesPV ts))) :
  CC TT (n + 1) 293 μ [.str t, .int style, .int hidden] K := .law_typed ⟨rfl, rfl, by
 have h2 : 2 <= sizeLine := sz_le (Nat.le_refl 2)
 refine ex_asg (d := .list ligPV) (fun Q q => ⟨h2, h2, h2, h2, h2, sz_le (Nat.le_refl 5), q⟩) ?_
 refine ex_asg (d := .list capsPV) (fun Q q => ⟨sz_le (Nat.le_refl 11), q⟩) ?_
 refine ex_asg (d := .list unseenPV) (fun Q q => ⟨sz_le (Nat.le_refl 11), by decide, sz_le (Nat.le_refl 27), q⟩) ?_
 refine ex_own0 ?_
 refine ex_asg (d := .int 0) (fun Q q => by exact q) ?_
 refine ex_while (m := t.length) (J := fun m ρ μ => ∃ (a : Nat) (ts : List Nat) (e8 e9 : Option PV), a <= t.length /\ m = t.length - a /\ ρ = tEnv t style hidden a e8 e9 /\ μ = [.list (onesPV ts)] /\ prep ts = t.take a /\ ts.length <= 2 * a)
  ⟨0, [], none, none, Nat.zero_le _, by rfl, rfl, rfl, rfl, Nat.zero_le _⟩ ?_
 rintro m ρ μ' ⟨a, ts, e8, e9, h1, rfl, rfl, rfl, h2, h3⟩
 refine ⟨decide (a < t.length), fun K q => ?_, fun hf => ?_, fun htr K' kn => ?_⟩
 ·refine ⟨by lia, ?_⟩
  show K (decide ((a : Int) < (t.length : Int)))
  rw [show decide ((a : Int) < (t.length : Int)) = decide (a < t.length) from decide_eq_decide.mpr Int.ofNat_lt]
  exact q
 ·have ha : a = t.length := by simp at hf; lia
  refine ex_ret (d := .ptr 0) (ev_var rfl) ?_
  refine ⟨ht_noPtr ts, h ts ?_ (by lia)⟩
  rw [h2, ha, List.take_length]
 ·have ha : a < t.length := by simpa using htr
  exact t_step (n := n) ht hl ha h2 h3 fun a' ts' e8 e9 g1 g2 g3 g4 => kn (t.length - a') _ _ (by grind) ⟨a', ts', e8, e9, g2, rfl, rfl, rfl, g3, g4⟩⟩
theorem tx_AL : ∀ (f : Fm), ∀ x ∈ tx f, x ∈ AL
 | .w i => by
  have : ∀ i : _root_.Fin 9, ∀ x ∈ wl i, x ∈ AL := by decide
  exact this i
 | .n t s l r => fun x hx => by
  have h1 : ∀ s : _root_.Fin 9, ∀ x ∈ sg s, x ∈ AL := by decide
  have h2 : ∀ t : Bool, ∀ x ∈ opn t, x ∈ AL := by decide
  simp only [tx, List.mem_append, List.mem_singleton] at hx
  rcases hx with ((((hx | hx) | hx) | hx) | hx)
  ·exact h2 t x hx
  ·exact tx_AL l x hx
  ·exact h1 s x hx
  ·exact tx_AL r x hx
  ·subst hx; decide
noncomputable def dueW : List (List Nat) := [[111, 112, 116, 105, 109, 105, 122, 101, 100], [110, 101, 119, 108, 111, 99, 97, 108, 115], [118, 97, 114, 97, 114, 103, 115], [118, 97, 114, 107, 101, 121, 119, 111, 114, 100, 115], [110, 101, 115, 116, 101, 100], [103, 101, 110, 101, 114, 97, 116, 111, 114], [110, 111, 102, 114, 101, 101], [99, 111, 114, 111, 117, 116, 105, 110, 101], [105, 116, 101, 114, 97, 98, 108, 101, 95, 99, 111, 114, 111, 117, 116, 105, 110, 101], [97, 115, 121, 110, 99, 95, 103, 101, 110, 101, 114, 97, 116, 111, 114], [48, 120, 52, 48, 48], [48, 120, 56, 48, 48]]
noncomputable def joinP : List (List Nat) -> List Nat
 | [] => []
 | [x] => x
 | x :: y :: r => x ++ ([44, 32] ++ joinP (y :: r))
noncomputable def W (k : Nat) : List Nat := fnm (2 ^ k)
noncomputable def orL (xs : List Nat) : Nat := xs.foldr (fun x m => 2 ^ x ||| m) 0
noncomputable def zro : List Nat := [48, 120, 48]
noncomputable def nmL (ys : List Nat) : List Nat := if ys.isEmpty then zro else joinP (ys.map fun k => dueW.getD k [])
noncomputable def nmU (ys : List Nat) : List Nat := if ys.isEmpty then zro else joinP (ys.map W)
noncomputable def splitC : List Nat -> List Nat -> List (List Nat)
 | cur, [] => [cur]
 | cur, 44 :: 32 :: r => cur :: splitC [] r
 | cur, c :: r => splitC (cur ++ [c]) r
noncomputable def dec (x : List Nat) : List Nat := if x == zro then [] else (splitC [] x).map fun w => dueW.idxOf w
noncomputable def chk (ys : List Nat) : Bool := (pfGo (List.range 32) ((orL ys : Nat) : Int) [] == some (if ys.isEmpty then [zro] else ys.map W)) && ((ys.map fun y => (2 : Nat) ^ y).sum == orL ys) && (dec (nmL ys) == ys)
theorem chk0 : chk [] = true := by decide +kernel
theorem chk1 : ((List.range 12).all fun a => chk [a]) = true := by decide +kernel
theorem chk2 : ((List.range 12).all fun a => (List.range 12).all fun b => !decide (a < b) || chk [a, b]) = true := by decide +kernel
theorem chk3 : ((List.range 12).all fun a => (List.range 12).all fun b => !decide (a < b) || (List.range 12).all fun c => !decide (b < c) || chk [a, b, c]) = true := by decide +kernel
theorem W_ok : ∀ k, k < 12 -> (W k).map lo1 = dueW.getD k [] /\ (∀ c ∈ W k, 32 <= c /\ c < 127) /\ (W k).length <= 20 /\ (∀ c ∈ dueW.getD k [], 32 <= c /\ c < 127) /\ (dueW.getD k []).map lo1 = dueW.getD k [] := by decide +kernel
theorem zro_ok : zro.map lo1 = zro /\ ∀ c ∈ zro, 32 <= c /\ c < 127 := by decide +kernel
theorem chk_asc (ys : List Nat) (hs : ys.Pairwise (· < ·)) (h12 : ∀ y ∈ ys, y < 12) (hl : ys.length <= 3) : chk ys = true := by
 match ys, hl with
 | [], _ => exact chk0
 | [a], _ => exact List.all_eq_true.mp chk1 a (List.mem_range.mpr (h12 a (by simp)))
 | [a, b], _ =>
  have := List.all_eq_true.mp (List.all_eq_true.mp chk2 a (List.mem_range.mpr (h12 a (by simp)))) b (List.mem_range.mpr (h12 b (by simp)))
  have hab : a < b := by simp at hs; exact hs
  simpa [hab] using this
 | [a, b, c], _ =>
  have h1 := List.all_eq_true.mp (List.all_eq_true.mp chk3 a (List.mem_range.mpr (h12 a (by simp)))) b (List.mem_range.mpr (h12 b (by simp)))
  have hab : a < b /\ b < c := by simp at hs; lia
  simp only [hab.1, decide_true, Bool.not_true, Bool.false_or] at h1
  have := List.all_eq_true.mp h1 c (List.mem_range.mpr (h12 c (by simp)))
  simpa [hab.2] using this
theorem lowL_ascii {x : List Nat} (h : ∀ c ∈ x, c < 128) : lowL x = x.map lo1 := by
 unfold lowL
 rw [lower_ascii (x := strOf x) (by simpa using h)]
 simp
theorem joinP_map (f : Nat -> Nat) (h1 : f 44 = 44) (h2 : f 32 = 32) : ∀ xs : List (List Nat), (joinP xs).map f = joinP (xs.map (List.map f))
 | [] => rfl
 | [x] => rfl
 | x :: y :: r => by
  have := joinP_map f h1 h2 (y :: r)
  simp only [joinP, List.map_append, List.map_cons, List.map_nil, h1, h2] at this ⊢
  rw [this]
theorem joinP_mem {P : Nat -> Prop} (h1 : P 44) (h2 : P 32) : ∀ xs : List (List Nat), (∀ x ∈ xs, ∀ c ∈ x, P c) -> ∀ c ∈ joinP xs, P c
 | [], _, c, hc => by simp [joinP] at hc
 | [x], h, c, hc => h x (by simp) c hc
 | x :: y :: r, h, c, hc => by
  simp only [joinP, List.mem_append, List.mem_cons, List.not_mem_nil, or_false] at hc
  rcases hc with hc | (rfl | rfl) | hc
  ·exact h x (by simp) c hc
  ·exact h1
  ·exact h2
  ·exact joinP_mem h1 h2 (y :: r) (fun z hz => h z (.tail _ hz)) c hc
theorem joinP_len (n : Nat) : ∀ xs : List (List Nat), (∀ x ∈ xs, x.length <= n) -> (joinP xs).length <= xs.length * (n + 2)
 | [], _ => by simp [joinP]
 | [x], h => by have := h x (by simp); simp [joinP]; lia
 | x :: y :: r, h => by
  have h1 := h x (by simp)
  have := joinP_len n (y :: r) fun z hz => h z (.tail _ hz)
  simp only [joinP, List.length_append, List.length_cons, List.length_nil, Nat.succ_mul] at this ⊢
  lia
theorem join_eq (xs : List (List Nat)) : (Txt.join (strOf [44, 32]) (xs.map strOf)).cps.toList = joinP xs := by
 show (Builtin.Str.glued (strOf [44, 32]) (xs.map strOf)).cps.toList = _
 rw [StrLaws.glued_eq_join]
 induction xs with
 | nil => rfl
 | cons x r ih =>
  cases r with
  | nil => simp [Str.join, joinP]
  | cons y r =>
   show ((strOf x).cps ++ (strOf [44, 32]).cps ++ (Str.join (strOf [44, 32]) ((y :: r).map strOf)).cps).toList = _
   rw [Array.toList_append, Array.toList_append, ih]
   simp [joinP]
theorem nm_facts (ys : List Nat) (h12 : ∀ y ∈ ys, y < 12) (hl : ys.length <= 3) :
  lowL (nmU ys) = nmL ys /\ lowL (nmL ys) = nmL ys /\ Plain (nmU ys) /\ Plain (nmL ys) /\ (nmU ys).length <= 1000 /\ (nmL ys).length <= 1000 := by
 have hz : (zro.length : Nat) = 3 := rfl
 unfold nmU nmL
 cases hy : ys.isEmpty with
 | true =>
  have a : lowL zro = zro := by rw [lowL_ascii fun c hc => by have := zro_ok.2 c hc; lia]; exact zro_ok.1
  have p : Plain zro := fun c hc => by have := zro_ok.2 c hc; lia
  exact ⟨a, a, p, p, by exact Nat.le_add_left _ _, by lia⟩
 | false =>
  simp only [Bool.false_eq_true, if_false]
  have m1 : ∀ x ∈ ys.map W, ∀ c ∈ x, 32 <= c /\ c < 127 := fun x hx c hc => by
   obtain ⟨k, hk, rfl⟩ := List.mem_map.mp hx
   exact (W_ok k (h12 k hk)).2.1 c hc
  have m2 : ∀ x ∈ ys.map (fun k => dueW.getD k []), ∀ c ∈ x, 32 <= c /\ c < 127 := fun x hx c hc => by
   obtain ⟨k, hk, rfl⟩ := List.mem_map.mp hx
   exact (W_ok k (h12 k hk)).2.2.2.1 c hc
  have j1 := joinP_mem (P := fun c => 32 <= c /\ c < 127) (by decide) (by decide) _ m1
  have j2 := joinP_mem (P := fun c => 32 <= c /\ c < 127) (by lia) (by lia) _ m2
  have e1 : (ys.map W).map (List.map lo1) = ys.map (fun k => dueW.getD k []) := by
   rw [List.map_map]
   exact List.map_congr_left fun k hk => (W_ok k (h12 k hk)).1
  have e2 : (ys.map (fun k => dueW.getD k [])).map (List.map lo1) = ys.map (fun k => dueW.getD k []) := by
   rw [List.map_map]
   exact List.map_congr_left fun k hk => (W_ok k (h12 k hk)).2.2.2.2
  have l44 : lo1 44 = 44 := by decide
  have l32 : lo1 32 = 32 := by decide
  have n1 := joinP_len 20 (ys.map W) fun x hx => by
   obtain ⟨k, hk, rfl⟩ := List.mem_map.mp hx
   exact (W_ok k (h12 k hk)).2.2.1
  have n2 := joinP_len 20 (ys.map (fun k => dueW.getD k [])) fun x hx => by
   obtain ⟨k, hk, rfl⟩ := List.mem_map.mp hx
   rw [<- (W_ok k (h12 k hk)).1, List.length_map]
   exact (W_ok k (h12 k hk)).2.2.1
  rw [List.length_map] at n1 n2
  refine ⟨?_, ?_, fun c hc => by have := j1 c hc; lia, fun c hc => by have := j2 c hc; lia, by lia, by lia⟩
  ·rw [lowL_ascii fun c hc => by have := j1 c hc; lia, joinP_map _ l44 l32, e1]
  ·rw [lowL_ascii fun c hc => by have := j2 c hc; lia, joinP_map _ l44 l32, e2]
theorem pf_asc (ys : List Nat) (hs : ys.Pairwise (· < ·)) (h12 : ∀ y ∈ ys, y < 12) (hl : ys.length <= 3) : pf ((orL ys : Nat) : Int) = some (nmU ys) := by
 have h := chk_asc ys hs h12 hl
 unfold chk at h
 simp only [Bool.and_eq_true, beq_iff_eq] at h
 unfold pf
 rw [h.1.1]
 dsimp only [Option.bind_some, joinL]
 have e : (if ys.isEmpty = true then [zro] else ys.map W).length <= 3 := by split <;> simp; lia
 have b : ∀ x ∈ (if ys.isEmpty = true then [zro] else ys.map W), x.length <= 20 := fun x hx => by
  split at hx
  ·simp at hx; subst hx; decide
  ·obtain ⟨k, hk, rfl⟩ := List.mem_map.mp hx
   exact (W_ok k (h12 k hk)).2.2.1
 have ej : joinP (if ys.isEmpty = true then [zro] else ys.map W) = nmU ys := by unfold nmU; split <;> rfl
 rw [if_pos, join_eq, ej]
 generalize (if ys.isEmpty = true then [zro] else ys.map W) = z at e b
 refine join_ok ?_
 have : ((z.map strOf).map (·.length)).sum <= z.length * 20 := by
  clear e ej
  induction z with
  | nil => simp
  | cons x r ih =>
   have h1 := b x (by simp)
   have h2 := ih fun y hy => b y (.tail _ hy)
   simp only [List.map_cons, List.sum_cons, List.length_cons, Nat.succ_mul]
   have : (strOf x).length = x.length := by simp [Str.length]
   lia
 have h2 : (strOf [44, 32]).length = 2 := rfl
 rw [h2]
 simp only [List.length_map]
 lia
structure Asc (ys : List Nat) : Prop where
 s : ys.Pairwise (· < ·)
 b : ∀ y ∈ ys, y < 12
 l : ys.length <= 3
noncomputable def digO (ys : List Nat) : List Nat := digits ((orL ys : Nat) : Int)
noncomputable def chkD (ys : List Nat) : Bool := plB (digO ys) && (PySem.intText? (strOf (digO ys)) == some ((orL ys : Nat) : Int)) && decide ((digO ys).length <= 600) && decide (((orL ys : Nat) : Int).natAbs.log2 < 1920)
where plB (x : List Nat) : Bool := x.all fun c => decide (32 <= c) && c != 127
theorem dhk0 : chkD [] = true := by decide +kernel
theorem dhk1 : ((List.range 12).all fun a => chkD [a]) = true := by decide +kernel
theorem dhk2 : ((List.range 12).all fun a => (List.range 12).all fun b => !decide (a < b) || chkD [a, b]) = true := by decide +kernel
theorem dhk3 : ((List.range 12).all fun a => (List.range 12).all fun b => !decide (a < b) || (List.range 12).all fun c => !decide (b < c) || chkD [a, b, c]) = true := by decide +kernel
theorem chkD_asc (ys : List Nat) (h : Asc ys) : chkD ys = true := by
 obtain ⟨hs, h12, hl⟩ := h
 match ys, hl with
 | [], _ => exact dhk0
 | [a], _ => exact List.all_eq_true.mp dhk1 a (List.mem_range.mpr (h12 a (by simp)))
 | [a, b], _ =>
  have := List.all_eq_true.mp (List.all_eq_true.mp dhk2 a (List.mem_range.mpr (h12 a (by simp)))) b (List.mem_range.mpr (h12 b (by simp)))
  have hab : a < b := by simp at hs; exact hs
  simpa [hab] using this
 | [a, b, c], _ =>
  have h1 := List.all_eq_true.mp (List.all_eq_true.mp dhk3 a (List.mem_range.mpr (h12 a (by simp)))) b (List.mem_range.mpr (h12 b (by simp)))
  have hab : a < b /\ b < c := by simp at hs; lia
  simp only [hab.1, decide_true, Bool.not_true, Bool.false_or] at h1
  have := List.all_eq_true.mp h1 c (List.mem_range.mpr (h12 c (by simp)))
  simpa [hab.2] using this
theorem dig_facts (ys : List Nat) (h : Asc ys) : Plain (digO ys) /\ PySem.intText? (strOf (digO ys)) = some ((orL ys : Nat) : Int) /\ (digO ys).length <= 600 /\ ((orL ys : Nat) : Int).natAbs.log2 < 1920 := by
 have := chkD_asc ys h
 unfold chkD at this
 simp only [Bool.and_eq_true, beq_iff_eq, decide_eq_true_eq] at this
 refine ⟨fun c hc => ?_, this.1.1.2, this.1.2, this.2⟩
 have := List.all_eq_true.mp this.1.1.1 c hc
 simpa using this
theorem nmL_inj {ys zs : List Nat} (h : Asc ys) (h' : Asc zs) (e : nmL ys = nmL zs) : ys = zs := by
 have a := chk_asc ys h.s h.b h.l
 have b := chk_asc zs h'.s h'.b h'.l
 unfold chk at a b
 simp only [Bool.and_eq_true, beq_iff_eq] at a b
 rw [<- a.2, <- b.2, e]
noncomputable abbrev Ent := Bool × List Nat
noncomputable def entOf (q : Ent) : List Nat × List Nat := (if q.1 then nmU q.2 else nmL q.2, digO q.2)
noncomputable def toggle (L : List Ent) (u : Bool) (ys : List Nat) : List Ent := if L.any (fun q => q.2 == ys) then L.filter (fun q => !(q.2 == ys)) else L ++ [(u, ys)]
noncomputable def tog : Nat -> List (List Nat) -> List Ent -> List Ent
 | _, [], L => L
 | t, ys :: r, L => tog (t + 1) r (toggle L (!(t % 2 == 1)) ys)
noncomputable def nmV (u : Bool) (ys : List Nat) : List Nat := if u then nmU ys else nmL ys
theorem nmV_low {u : Bool} {ys : List Nat} (h : Asc ys) : lowL (nmV u ys) = nmL ys := by
 have := nm_facts ys h.b h.l
 unfold nmV
 split
 ·exact this.1
 ·exact this.2.1
theorem has_eq {L : List Ent} (hL : ∀ q ∈ L, Asc q.2) {u : Bool} {ys : List Nat} (h : Asc ys) : hasB (L.map entOf) (nmV u ys) = L.any (fun q => q.2 == ys) := by
 unfold hasB
 rw [List.any_map]
 induction L with
 | nil => rfl
 | cons q L ih =>
  have hq := hL q (.head _)
  simp only [List.any_cons]
  rw [ih fun r hr => hL r (.tail _ hr)]
  congr 1
  show (lowL (nmV q.1 q.2) == lowL (nmV u ys)) = _
  rw [nmV_low hq, nmV_low h]
  by_cases e : q.2 = ys
  ·simp [e]
  ·rw [show (q.2 == ys) = false by simpa using e]
   simpa using fun e' => e (nmL_inj hq h e')
theorem del_eq {L : List Ent} (hL : ∀ q ∈ L, Asc q.2) {u : Bool} {ys : List Nat} (h : Asc ys) : delT (L.map entOf) (nmV u ys) = (L.filter (fun q => !(q.2 == ys))).map entOf := by
 unfold delT
 rw [List.filter_map]
 congr 1
 apply List.filter_congr
 intro q hq
 show (!(lowL (nmV q.1 q.2) == lowL (nmV u ys))) = _
 rw [nmV_low (hL q hq), nmV_low h]
 by_cases e : q.2 = ys
 ·simp [e]
 ·rw [show (q.2 == ys) = false by simpa using e]
  simpa using fun e' => e (nmL_inj (hL q hq) h e')
theorem toggle_asc {L : List Ent} (hL : ∀ q ∈ L, Asc q.2) {u : Bool} {ys : List Nat} (h : Asc ys) : ∀ q ∈ toggle L u ys, Asc q.2 := fun q hq => by
 unfold toggle at hq
 split at hq
 ·exact hL q (List.mem_filter.mp hq).1
 ·rcases List.mem_append.mp hq with hq | hq
  ·exact hL q hq
  ·simp at hq; subst hq; exact h
theorem toggle_len (L : List Ent) (u : Bool) (ys : List Nat) : (toggle L u ys).length <= L.length + 1 := by
 unfold toggle
 split
 ·have := List.length_filter_le (fun q : Ent => !(q.2 == ys)) L; lia
 ·simp
theorem enumFrom_map (f : List Nat -> PV) : ∀ (t : Nat) (r : List (List Nat)) (d : PV) (ds : List PV), enumFrom t (r.map f) = d :: ds -> ∃ ys r', r = ys :: r' /\ d = .tup [.int t, f ys] /\ ds = enumFrom (t + 1) (r'.map f)
 | t, [], d, ds, e => by simp [enumFrom] at e
 | t, ys :: r, d, ds, e => by
  simp only [List.map_cons, enumFrom, List.cons.injEq] at e
  exact ⟨ys, r, rfl, e.1.symm, e.2.symm⟩
theorem tbok {L : List Ent} (hL : ∀ q ∈ L, Asc q.2) (h : L.length < 1000) : TbOk (L.map entOf) := ⟨by simpa using h, fun p hp => by
 obtain ⟨q, hq, rfl⟩ := List.mem_map.mp hp
 have := nm_facts q.2 (hL q hq).b (hL q hq).l
 unfold entOf
 split
 ·exact this.2.2.2.2.1
 ·exact this.2.2.2.2.2⟩
theorem ex_ext {T : Tabs} {C : CT} {ro : Nat} {ρ ρ' : Env'} {μ μ' : List MV} {r : List MS} {K : Fl -> Env' -> List MV -> Prop} {P : Nat -> Env' -> List MV -> (Fl -> Env' -> List MV -> Prop) -> Prop} (h : ∀ Q : Fl -> Env' -> List MV -> Prop, Q .next ρ' μ' -> P ro ρ μ Q) (k : EX T C ro ρ' μ' r K) : EX T C ro ρ μ (.ext P :: r) K := by
 exact h _ k
section
variable {n : Nat}
noncomputable def setsPV (yss : List (List Nat)) : PV := .list (yss.map fun ys => .int ((orL ys : Nat) : Int))
theorem table_step {yss : List (List Nat)} {L : List Ent} {ys : List Nat} {t : Nat} {e4 : Option PV} {K : Fl -> Env' -> List MV -> Prop} (hL : ∀ q ∈ L, Asc q.2) (h : Asc ys) (hl : L.length < 999)
  (q : ∀ (e2 e3 e4 : Option PV), K .next [some (setsPV yss), some (.tab 0), e2, e3, e4] [.list (tbPV ((toggle L (!(t % 2 == 1)) ys).map entOf))]) :
  EX TT (CC TT (n + 1)) 0 [some (setsPV yss), some (.tab 0), some (.int (t : Int)), some (.int ((orL ys : Nat) : Int)), e4] [.list (tbPV (L.map entOf))]
   [.asg (.name 4) (.call 46 [.var 3]), .ife (.cmp .Eq (.bin .Mod (.var 2) (.lit (.int 2))) (.lit (.int 1))) [.asg (.name 4) (.meth .lower (.var 4) [])] [], .ife (.ext (pInT 1 4)) [.ext (pDelT 1 4)] [.ext (pSetT TT (CC TT (n + 1)) 1 4 (.bi .str [.var 3]))]] K := by
 obtain ⟨f1, f2, f3, f4, f5, f6⟩ := nm_facts ys h.b h.l
 obtain ⟨g1, g2, g3, g4⟩ := dig_facts ys h
 refine ex_asg (d := .str (nmU ys)) (ev_call1 (d := .int ((orL ys : Nat) : Int)) rfl fun K q => c_pretty (pf_asc ys h.s h.b h.l) q) ?_
 refine ex_ife (c := t % 2 == 1) (fun Q w => ?_) ?_
 ·refine ⟨by decide, ?_⟩
  show Q (((t : Int).fmod 2) == 1)
  have : (((t : Int).fmod 2) == 1) = (t % 2 == 1) := by
   rw [Int.fmod_eq_emod_of_nonneg _ (by lia : (0 : Int) <= 2)]
   rw [Bool.eq_iff_iff]; simp; lia
  rw [this]; exact w
 have rest : ∀ u : Bool, u = (!(t % 2 == 1)) -> EX TT (CC TT (n + 1)) 0 [some (setsPV yss), some (.tab 0), some (.int (t : Int)), some (.int ((orL ys : Nat) : Int)), some (.str (nmV u ys))] [.list (tbPV (L.map entOf))]
   [.ife (.ext (pInT 1 4)) [.ext (pDelT 1 4)] [.ext (pSetT TT (CC TT (n + 1)) 1 4 (.bi .str [.var 3]))]] K := fun u hu => by
  have hlow := nmV_low (u := u) h
  have hlen : (nmV u ys).length <= 1000 := by unfold nmV; split <;> assumption
  have hpl : Plain (nmV u ys) := by unfold nmV; split <;> assumption
  refine ex_ife (c := hasB (L.map entOf) (nmV u ys)) (fun Q w => ?_) ?_
  ·exact ⟨L.map entOf, nmV u ys, .inl ⟨0, rfl, rfl⟩, rfl, tbok hL (by lia), by rw [hlow]; exact f4, hlen, w⟩
  rw [has_eq hL h]
  subst hu
  have q' := q (some (.int (t : Int))) (some (.int ((orL ys : Nat) : Int))) (some (.str (nmV (!(t % 2 == 1)) ys)))
  unfold toggle at q'
  cases hb : L.any (fun q => q.2 == ys) with
  | true =>
   rw [hb] at q'
   refine ex_ext (ρ' := [some (setsPV yss), some (.tab 0), some (.int (t : Int)), some (.int ((orL ys : Nat) : Int)), some (.str (nmV (!(t % 2 == 1)) ys))]) (μ' := [.list (tbPV (delT (L.map entOf) (nmV (!(t % 2 == 1)) ys)))]) (fun Q w => ?_) (ex_nil ?_)
   ·exact ⟨rfl, 0, L.map entOf, nmV (!(t % 2 == 1)) ys, rfl, rfl, rfl, tbok hL (by lia), by rw [hlow]; exact f4, hlen, w⟩
   ·rw [del_eq hL h]; exact q'
  | false =>
   rw [hb] at q'
   simp only [Bool.false_eq_true, if_false, List.cons_append, List.nil_append] at q' ⊢
   refine ex_ext (ρ' := [some (setsPV yss), some (.tab 0), some (.int (t : Int)), some (.int ((orL ys : Nat) : Int)), some (.str (nmV (!(t % 2 == 1)) ys))]) (μ' := [.list (tbPV (L.map entOf ++ [(nmV (!(t % 2 == 1)) ys, digO ys)]))]) (fun Q w => ?_) (ex_nil ?_)
   ·refine ⟨rfl, 0, L.map entOf, nmV (!(t % 2 == 1)) ys, rfl, rfl, rfl, tbok hL (by lia), by rw [hlow]; exact f4, hpl, hlen, by rw [has_eq hL h]; exact hb, ?_⟩
    exact ⟨g4, g1, w⟩
   ·rw [List.map_append] at q'; exact q'
 cases ht : (t % 2 == 1) with
 | true =>
  refine ex_asg (d := .str (nmL ys)) (fun Q w => ?_) (rest false (by rw [ht]; rfl))
  refine ⟨by lia, ?_⟩
  rw [show (Txt.lower (strOf (nmU ys))).cps.toList = lowL (nmU ys) from rfl, f1]
  exact w
 | false => exact rest true (by rw [ht]; rfl)
theorem c_table {μ : List MV} {K : PV -> Prop} (yss : List (List Nat)) (ha : ∀ ys ∈ yss, Asc ys) (hl : yss.length <= 900) (h : K (.ftab (tbPV ((tog 0 yss []).map entOf)))) : CC TT (n + 2) 322 μ [setsPV yss] K := .law_table ⟨rfl, by
  simp only [noPtrs, noPtr, Bool.and_true]
  exact noPtrs_iff.mpr fun d hd => by obtain ⟨c, _, rfl⟩ := List.mem_map.mp hd; rfl, by
 refine ex_ext (ρ' := [some (setsPV yss), some (.tab 0), none, none, none]) (μ' := [.list (tbPV (([] : List Ent).map entOf))]) (fun Q w => w) ?_
 refine ex_for (items := enumFrom 0 (yss.map fun ys => .int ((orL ys : Nat) : Int))) (ro1 := 0)
  (J := fun ds ρ μ => ∃ (t : Nat) (r : List (List Nat)) (L : List Ent) (e2 e3 e4 : Option PV), ds = enumFrom t (r.map fun ys => .int ((orL ys : Nat) : Int)) /\ (∀ ys ∈ r, Asc ys) /\ (∀ q ∈ L, Asc q.2) /\ L.length + r.length <= 900 /\ tog t r L = tog 0 yss [] /\ ρ = [some (setsPV yss), some (.tab 0), e2, e3, e4] /\ μ = [.list (tbPV (L.map entOf))])
  (fun Q q => ?_) ⟨0, yss, [], none, none, none, rfl, ha, by simp, by simpa using hl, rfl, rfl, rfl⟩ ?_ ?_
 ·exact ⟨by simp; lia, q⟩
 ·rintro d ds ρ μ' ⟨t, r, L, e2, e3, e4, e1, h1, h2, h3, h4, rfl, rfl⟩
  obtain ⟨ys, r', rfl, rfl, rfl⟩ := enumFrom_map _ t r d ds e1.symm
  refine ⟨rfl, ?_⟩
  intro K' kn kc kb
  simp only [List.length_cons] at h3
  refine table_step (n := n) (L := L) h2 (h1 ys (.head _)) (by lia) fun e2 e3 e4 => kn _ _ ⟨t + 1, r', _, e2, e3, e4, rfl, fun z hz => h1 z (.tail _ hz), toggle_asc h2 (h1 ys (.head _)), ?_, h4, rfl, rfl⟩
  have := toggle_len L (!(t % 2 == 1)) ys
  lia
 ·rintro ρ μ' ⟨t, r, L, e2, e3, e4, e1, h1, h2, h3, h4, rfl, rfl⟩
  match r, e1, h4 with
  | [], _, h4 =>
   refine ex_ret (d := .tab 0) (ev_var rfl) ?_
   show noPtrs (tbPV (L.map entOf)) = true /\ K (.ftab (tbPV (L.map entOf)))
   have h4' : L = tog 0 yss [] := h4
   rw [h4']
   exact ⟨tbPV_noPtr _, h⟩⟩
end
noncomputable def heldL (c : Nat) : List Nat := ((List.range 3).filter fun k => c.testBit k).map fun k => [102, 105, 108].getD k 0
noncomputable def xsS (p : Nat -> Nat) (S : Nat) : List Nat := ((List.range 3).filter fun k => S.testBit k).map p
noncomputable def srt (xs : List Nat) : List Nat := xs.mergeSort (fun a b => decide (a <= b))
noncomputable def srtS (p : Nat -> Nat) (S : Nat) : List Nat := srt (xsS p S)
noncomputable def dueB (f : Fm) (S : Nat) : Bool := ((List.range 8).filter fun q => (q &&& S == q) && hd f (heldL q)).length % 2 == 1
noncomputable def prOf (ys : List Nat) : PR := (((orL ys : Nat) : Int), nmL ys)
noncomputable def dueP (f : Fm) (p : Nat -> Nat) : List PR := ((List.range 8).filter (dueB f)).map fun S => prOf (srtS p S)
structure Pl (p : Nat -> Nat) : Prop where
 b : ∀ k, k < 3 -> p k < 12
 i : ∀ j k, j < 3 -> k < 3 -> p j = p k -> j = k
noncomputable def plPV (p : Nat -> Nat) : PV := .list [.int (p 0 : Nat), .int (p 1 : Nat), .int (p 2 : Nat)]
theorem srt_perm (xs : List Nat) : (srt xs).Perm xs := List.mergeSort_perm xs _
theorem srt_le (xs : List Nat) : (srt xs).Pairwise (· <= ·) := by
 have := List.pairwise_mergeSort (le := fun a b : Nat => decide (a <= b)) (fun a b c h1 h2 => by simp at *; exact Nat.le_trans ‹_› ‹_›) (fun a b => by simp; lia) xs
 exact this.imp fun h => by simpa using h
theorem srtS_asc {p : Nat -> Nat} (h : Pl p) (S : Nat) : Asc (srtS p S) := by
 have nd : (xsS p S).Nodup := by
  unfold xsS
  refine List.pairwise_map.mpr (List.Pairwise.imp_of_mem (fun {a b} ha hb hne e => ?_) ((List.nodup_range (n := 3)).filter fun k => S.testBit k))
  have h1 := List.mem_range.mp (List.mem_filter.mp ha).1
  have h2 := List.mem_range.mp (List.mem_filter.mp hb).1
  exact hne (h.i a b h1 h2 e)
 have hp := srt_perm (xsS p S)
 refine ⟨?_, fun y hy => ?_, ?_⟩
 ·have h1 := srt_le (xsS p S)
  have h2 : (srtS p S).Nodup := hp.nodup_iff.mpr nd
  exact (List.Pairwise.and h1 h2).imp fun h => by lia
 ·have := hp.mem_iff.mp hy
  obtain ⟨k, hk, rfl⟩ := List.mem_map.mp this
  exact h.b k (List.mem_range.mp (List.mem_filter.mp hk).1)
 ·have : (srtS p S).length = (xsS p S).length := hp.length_eq
  rw [this]
  unfold xsS
  rw [List.length_map]
  exact Nat.le_trans (List.length_filter_le _ _) (by decide)
section
variable {n : Nat} {T : Tabs} {C : CT}
theorem ev_compR {ρ : Env'} {μ : List MV} {elt : ME} {ifs : List ME} {j N : Nat} {p : Nat -> Bool} {g : Nat -> PV} (hj : (ρ ++ [none])[j]? = some none) (hN : N <= 1000)
  (hif : ∀ i, i < N -> ∀ K : Bool -> Prop, K (p i) -> EVIfs T C ((ρ ++ [none]).set j (some (.int (0 + (i : Int))))) μ ifs K) (he : ∀ i, i < N -> Ev T C ((ρ ++ [none]).set j (some (.int (0 + (i : Int))))) μ elt (g i)) :
  Ev T C ρ μ (.comp 1 elt (.rng (.lit (.int 0)) (.lit (.int (N : Int)))) (.name j) ifs []) (.list (((List.range N).filter p).map g)) := fun Q q => by
 have hz := sizeLine_eq
 refine ⟨by lia, ?_⟩
 rw [show ((N : Int) - 0).toNat = N by rfl]
 have fm : ((List.range N).map fun (i : Nat) => PV.int (0 + (i : Int))).flatMap (fun d => match d with | .int k => if p k.toNat then [g k.toNat] else [] | _ => []) = ((List.range N).filter p).map g := by
  rw [List.flatMap_map, <- flatMap_if]
  congr 1
  funext i
  simp
 refine ⟨hj, comp_of (F := fun d => match d with | .int k => if p k.toNat then [g k.toNat] else [] | _ => []) _ _ (fun d hd acc K1 hl1 hk => ?_) ?_ ?_⟩
 ·obtain ⟨i, hi, rfl⟩ := List.mem_map.mp hd
  have hi := List.mem_range.mp hi
  have ei : ((0 : Int) + (i : Int)).toNat = i := by lia
  simp only [ei] at hl1 hk
  refine hif i hi _ ?_
  cases hb : p i with
  | true =>
   simp only [hb, if_true] at hk hl1
   exact he i hi _ ⟨hl1, hk⟩
  | false =>
   simp only [hb] at hk
   exact List.append_nil acc ▸ hk
 ·rw [fm]
  have := List.length_filter_le p (List.range N)
  simp only [List.length_map, List.length_nil, List.length_range] at this ⊢
  lia
 ·rw [fm]; exact q
theorem bit_ok : ∀ c : Nat, c < 8 -> ∀ k : Nat, k < 3 -> (Builtin.bitAnd (((0 : Int) + (c : Int)).fdiv (2 ^ ((0 : Int) + (k : Int)).toNat)) 1 != 0) = c.testBit k := by decide +kernel
theorem and_ok : ∀ c : Nat, c < 8 -> ∀ k : Nat, k < 8 -> (Builtin.bitAnd ((0 : Int) + (c : Int)) ((0 : Int) + (k : Int)) == ((0 : Int) + (c : Int))) = (c &&& k == c) := by decide +kernel
theorem evifs1 {ρ : Env'} {μ : List MV} {e : ME} {b : Bool} (h : EvB T C ρ μ e b) : ∀ K : Bool -> Prop, K b -> EVIfs T C ρ μ [e] K := fun K q => by
 refine h _ ?_
 cases b <;> exact q
theorem evifs0 {ρ : Env'} {μ : List MV} : ∀ K : Bool -> Prop, K true -> EVIfs T C ρ μ [] K := fun K q => by exact q
theorem evb_bit {ρ : Env'} {μ : List MV} {i j c k : Nat} (hc : c < 8) (hk : k < 3) (hi : ρ[i]? = some (some (.int (0 + (c : Int))))) (hj : ρ[j]? = some (some (.int (0 + (k : Int))))) : EvB T C ρ μ (.bin .BitAnd (.bin .RShift (.var i) (.var j)) (.lit (.int 1))) (c.testBit k) := fun Q q => by
 refine rOO (P := fun a => EV T C ρ μ (.var j) fun b => BIN .RShift (view μ a) (view μ b) fun a => BIN .BitAnd (view μ a) (.int 1) fun d => TRU (view μ d) Q) hi (rOO (P := fun b => BIN .RShift (.int (0 + (c : Int))) (view μ b) fun a => BIN .BitAnd (view μ a) (.int 1) fun d => TRU (view μ d) Q) hj ⟨by lia, ?_⟩)
 show Q (Builtin.bitAnd (((0 : Int) + (c : Int)).fdiv (2 ^ ((0 : Int) + (k : Int)).toNat)) 1 != 0)
 rw [bit_ok c hc k hk]
 exact q
theorem held_go {ρ : Env'} {μ : List MV} {c : Nat} (hc : c < 8) (hl : ρ.length = 8) (h7 : ρ[7]? = some (some (.int (0 + (c : Int))))) : Ev T C ρ μ (.comp 1 (.sub (.lit (.str [102, 105, 108])) (.var 8)) (.rng (.lit (.int 0)) (.lit (.int 3))) (.name 8) [(.bin .BitAnd (.bin .RShift (.var 7) (.var 8)) (.lit (.int 1)))] []) (htPV (heldL c)) := by
 have h := ev_compR (T := T) (C := C) (ρ := ρ) (μ := μ) (N := 3) (j := 8) (elt := .sub (.lit (.str [102, 105, 108])) (.var 8)) (ifs := [(.bin .BitAnd (.bin .RShift (.var 7) (.var 8)) (.lit (.int 1)))]) (p := fun k => c.testBit k) (g := fun k => .str [[102, 105, 108].getD k 0])
  (by simp [hl]) (by exact Nat.le_add_left _ _)
  (fun k hk => evifs1 (evb_bit hc hk (by rw [List.getElem?_set_ne (by decide), List.getElem?_append_left (by lia)]; exact h7) (by rw [List.getElem?_set_self (by simp [hl])])))
  (fun k hk Q q => by
   have e : ((ρ ++ [none]).set 8 (some (PV.int (0 + (k : Int)))))[8]? = some (some (.int (0 + (k : Int)))) := by rw [List.getElem?_set_self (by simp [hl])]
   refine rOO (P := fun i => SUB (.str [102, 105, 108]) i Q) e ⟨by lia, by lia, show _ < 3 by lia, ?_⟩
   rw [show ((0 : Int) + (k : Int)).toNat = k by lia]
   exact q)
 have e : htPV (heldL c) = .list (((List.range 3).filter fun k => c.testBit k).map fun k => PV.str [[102, 105, 108].getD k 0]) := by
  unfold htPV heldL
  rw [List.map_map]; rfl
 rw [e]
 exact h
end
theorem int_sorted_uniq {ys : List Int} {xs zs : List Nat} (h1 : ys.Perm (xs.map fun (x : Nat) => (x : Int))) (h2 : ys.Pairwise (· <= ·)) (h3 : zs.Perm xs) (h4 : zs.Pairwise (· <= ·)) : ys = zs.map fun (x : Nat) => (x : Int) := by
 have hp : ys.Perm (zs.map fun (x : Nat) => (x : Int)) := h1.trans (h3.map _).symm
 refine List.Perm.eq_of_pairwise (le := (· <= ·)) ?_ h2 ?_ hp
 ·intro a b _ _ x y; lia
 ·rw [List.pairwise_map]
  exact h4.imp fun h => by lia
theorem sum_orL (ys : List Nat) (h : Asc ys) : (ys.map fun y => (2 : Int) ^ y).sum = ((orL ys : Nat) : Int) := by
 have a := chk_asc ys h.s h.b h.l
 unfold chk at a
 simp only [Bool.and_eq_true, beq_iff_eq] at a
 rw [<- a.1.2]
 clear a h
 induction ys with
 | nil => rfl
 | cons y r ih =>
  simp only [List.map_cons, List.sum_cons, ih]
  push_cast
  rfl
section
variable {n : Nat}
noncomputable abbrev dEnv (f : Fm) (p : Nat -> Nat) (e5 e6 : Option PV) : Env' := [some (fmPV f), some (plPV p), some (.list (dueW.map .str)), some (.list ((List.range 8).map fun c => .bool (hd f (heldL c)))), some (.ptr 0), e5, e6]
theorem evb_part {f : Fm} {p : Nat -> Nat} {C : CT} {e6 : Option PV} {μ : List MV} {k q : Nat} (hk : k < 8) (hq : q < 8) : EvB TT C ((dEnv f p (some (.int (0 + (k : Int)))) e6 ++ [none]).set 7 (some (.int (0 + (q : Int))))) μ
  (.bop true (.cmp .Eq (.bin .BitAnd (.var 7) (.var 5)) (.var 7)) (.sub (.var 3) (.var 7))) ((q &&& k == q) && hd f (heldL q)) := fun Q w => by
 show match Builtin.bitAnd ((0 : Int) + (q : Int)) ((0 : Int) + (k : Int)) == ((0 : Int) + (q : Int)) with | true => SUB (.list ((List.range 8).map fun c => .bool (hd f (heldL c)))) (.int ((0 : Int) + (q : Int))) fun d => TRU (view μ d) Q | false => Q false
 rw [and_ok q hq k hk]
 cases hb : (q &&& k == q) with
 | false => rw [hb] at w; exact w
 | true =>
  rw [hb] at w
  refine ⟨by lia, by lia, show _ < 8 by lia, ?_⟩
  rw [show ((0 : Int) + (q : Int)).toNat = q by lia]
  have : ((List.range 8).map fun c => PV.bool (hd f (heldL c))).getD q .none = .bool (hd f (heldL q)) := by simp [hq]
  rw [this]
  exact w
theorem evb_due {f : Fm} {p : Nat -> Nat} {C : CT} {e6 : Option PV} {μ : List MV} {k : Nat} (hk : k < 8) : EvB TT C (dEnv f p (some (.int (0 + (k : Int)))) e6) μ
  (.cmp .Eq (.bin .Mod (.bi .len [(.comp 1 (.var 7) (.rng (.lit (.int 0)) (.lit (.int 8))) (.name 7) [(.bop true (.cmp .Eq (.bin .BitAnd (.var 7) (.var 5)) (.var 7)) (.sub (.var 3) (.var 7)))] [])]) (.lit (.int 2))) (.lit (.int 1))) (dueB f k) := fun Q w => by
 have h := ev_compR (T := TT) (C := C) (ρ := dEnv f p (some (.int (0 + (k : Int)))) e6) (μ := μ) (N := 8) (j := 7) (elt := .var 7) (ifs := [(.bop true (.cmp .Eq (.bin .BitAnd (.var 7) (.var 5)) (.var 7)) (.sub (.var 3) (.var 7)))]) (p := fun q => (q &&& k == q) && hd f (heldL q)) (g := fun q => .int (0 + (q : Int)))
  rfl (by exact Nat.le_add_left _ _) (fun q hq => evifs1 (evb_part hk hq)) (fun q hq => ev_var rfl)
 refine h (fun d => BIF .len [view μ d] fun a => BIN .Mod (view μ a) (.int 2) fun a => CMP .Eq (view μ a) (.int 1) Q) ?_
 have hle := List.length_filter_le (fun q => (q &&& k == q) && hd f (heldL q)) (List.range 8)
 simp only [List.length_range] at hle
 refine ⟨by rw [List.length_map]; lia, by decide, ?_⟩
 show Q (((((List.map _ _).length : Nat) : Int).fmod 2) == 1)
 rw [List.length_map]
 unfold dueB at w
 generalize ((List.range 8).filter fun q => (q &&& k == q) && hd f (heldL q)).length = z at w hle ⊢
 have : (((z : Int).fmod 2) == 1) = (z % 2 == 1) := by
  rw [Int.fmod_eq_emod_of_nonneg _ (by exact Int.natCast_nonneg _ : (0 : Int) <= 2), Bool.eq_iff_iff]
  simp; lia
 rw [this]
 exact w
theorem flags_go {f : Fm} {p : Nat -> Nat} {C : CT} {e6 : Option PV} {μ : List MV} {k : Nat} (hk : k < 8) : Ev TT C (dEnv f p (some (.int (0 + (k : Int)))) e6) μ
  (.comp 1 (.sub (.var 1) (.var 7)) (.rng (.lit (.int 0)) (.lit (.int 3))) (.name 7) [(.bin .BitAnd (.bin .RShift (.var 5) (.var 7)) (.lit (.int 1)))] []) (.list (((xsS p k).map fun (x : Nat) => (x : Int)).map .int)) := by
 have h := ev_compR (T := TT) (C := C) (ρ := dEnv f p (some (.int (0 + (k : Int)))) e6) (μ := μ) (N := 3) (j := 7) (elt := .sub (.var 1) (.var 7)) (ifs := [(.bin .BitAnd (.bin .RShift (.var 5) (.var 7)) (.lit (.int 1)))]) (p := fun i => k.testBit i) (g := fun i => .int (p i : Nat))
  rfl (by exact Nat.le_add_left _ _) (fun i hi => evifs1 (evb_bit hk hi rfl rfl)) (fun i hi Q w => by
   refine ⟨by lia, by lia, show ((0 : Int) + (i : Int)).toNat < 3 by lia, ?_⟩
   match i, hi with
   | 0, _ => exact w
   | 1, _ => exact w
   | 2, _ => exact w)
 have e : ((xsS p k).map fun (x : Nat) => (x : Int)).map PV.int = ((List.range 3).filter fun i => k.testBit i).map fun i => PV.int (p i : Nat) := by
  unfold xsS
  rw [List.map_map, List.map_map]; rfl
 rw [e]
 exact h
noncomputable def intsN (ys : List Nat) : List PV := ys.map fun (y : Nat) => .int (y : Int)
theorem comp_ints {f : Fm} {p : Nat -> Nat} {C : CT} {e5 : Option PV} {μ : List MV} {ys : List Nat} {elt : ME} {g : Nat -> PV} (hl : ys.length <= 1000) (he : ∀ y ∈ ys, Ev TT C ((dEnv f p e5 (some (.list (intsN ys))) ++ [none]).set 7 (some (.int (y : Int)))) μ elt (g y)) :
  Ev TT C (dEnv f p e5 (some (.list (intsN ys)))) μ (.comp 1 elt (.var 6) (.name 7) [] []) (.list (ys.map g)) := fun Q q => by
 have hz := sizeLine_eq
 have fm : (intsN ys).flatMap (fun d => match d with | .int k => [g k.toNat] | _ => []) = ys.map g := by
  unfold intsN
  rw [List.flatMap_map]
  clear he hl q
  induction ys with
  | nil => rfl
  | cons y r ih => rw [List.flatMap_cons, ih]; rfl
 refine ⟨rfl, comp_of (F := fun d => match d with | .int k => [g k.toNat] | _ => []) (intsN ys) [] (fun d hd acc K1 hl1 hk => ?_) ?_ ?_⟩
 ·obtain ⟨y, hy, rfl⟩ := List.mem_map.mp hd
  exact he y hy _ ⟨hl1, hk⟩
 ·rw [fm]; simp only [List.length_map, List.length_nil]; lia
 ·rw [fm]; exact q
theorem due_item {f : Fm} {p : Nat -> Nat} {C : CT} {e5 : Option PV} {μ : List MV} {ys : List Nat} (h : Asc ys) : Ev TT C (dEnv f p e5 (some (.list (intsN ys)))) μ
  (.tup [(.bi .sum [(.comp 1 (.bin .Pow (.lit (.int 2)) (.var 7)) (.var 6) (.name 7) [] [])]), (.ite (.cmp .NotEq (.var 6) (.list [])) (.meth .join (.lit (.str [44, 32])) [(.comp 1 (.sub (.var 2) (.var 7)) (.var 6) (.name 7) [] [])]) (.lit (.str [48, 120, 48])))]) (prPV (prOf ys)) := fun Q q => by
 have hl := h.l
 have b2 : (Builtin.Int.intBits 2 : Int) <= 64 := by decide +kernel
 have s1 : Ev TT C (dEnv f p e5 (some (.list (intsN ys)))) μ (.bi .sum [(.comp 1 (.bin .Pow (.lit (.int 2)) (.var 7)) (.var 6) (.name 7) [] [])]) (.int ((orL ys : Nat) : Int)) := fun Q q => by
  have c := comp_ints (f := f) (p := p) (C := C) (e5 := e5) (μ := μ) (ys := ys) (elt := .bin .Pow (.lit (.int 2)) (.var 7)) (g := fun y => .int ((2 : Int) ^ y)) (by lia) (fun y hy Q w => by
   have := h.b y hy
   refine ⟨⟨by exact Int.natCast_nonneg _, ?_⟩, ?_⟩
   ·have : (Builtin.Int.intBits 2 : Int) * (y : Int) <= 64 * 12 := Int.mul_le_mul b2 (by lia) (by lia) (by exact Int.natCast_nonneg _)
    lia
   ·exact w)
  refine c (fun d => BIF .sum [view μ d] Q) ?_
  show match intsOf (ys.map fun y => PV.int ((2 : Int) ^ y)) with | some xs => Q (.int xs.sum) | none => False
  have e : ys.map (fun y => PV.int ((2 : Int) ^ y)) = (ys.map fun y => (2 : Int) ^ y).map .int := by rw [List.map_map]; rfl
  rw [e, intsOf_map]
  show Q (.int (List.sum _))
  rw [sum_orL ys h]
  exact q
 have s2 : Ev TT C (dEnv f p e5 (some (.list (intsN ys)))) μ (.ite (.cmp .NotEq (.var 6) (.list [])) (.meth .join (.lit (.str [44, 32])) [(.comp 1 (.sub (.var 2) (.var 7)) (.var 6) (.name 7) [] [])]) (.lit (.str [48, 120, 48]))) (.str (nmL ys)) := fun Q q => by
  have c := comp_ints (f := f) (p := p) (C := C) (e5 := e5) (μ := μ) (ys := ys) (elt := .sub (.var 2) (.var 7)) (g := fun y => .str (dueW.getD y [])) (by lia) (fun y hy Q w => by
   have hy := h.b y hy
   refine ⟨by lia, by lia, by simp; trivial, ?_⟩
   rw [show ((y : Int)).toNat = y by rfl]
   have : (dueW.map PV.str).getD y .none = .str (dueW.getD y []) := by
    have hlt : y < dueW.length := by trivial
    simp [hlt]
   rw [this]
   exact w)
  have t : EvB TT C (dEnv f p e5 (some (.list (intsN ys)))) μ (.cmp .NotEq (.var 6) (.list [])) (!ys.isEmpty) := fun Q w => by
   refine ⟨Nat.zero_le _, ?_⟩
   show Q (!(ys.map fun (y : Nat) => PV.int (y : Int)).isEmpty)
   rw [List.isEmpty_map]
   exact w
  refine t _ ?_
  cases he : ys.isEmpty with
  | true =>
   unfold nmL at q
   rw [he] at q
   exact q
  | false =>
   unfold nmL at q
   rw [he] at q
   refine c (fun d => METH .join (.str [44, 32]) [view μ d] Q) ?_
   show match strsOf (ys.map fun y => PV.str (dueW.getD y [])) with | some xs => JoinOk (strOf [44, 32]) (xs.map strOf) = true /\ Q (.str (Txt.join (strOf [44, 32]) (xs.map strOf)).cps.toList) | none => False
   have e : ys.map (fun y => PV.str (dueW.getD y [])) = (ys.map fun y => dueW.getD y []).map .str := by rw [List.map_map]; rfl
   rw [e, strsOf_all]
   show _ /\ Q _
   rw [join_eq]
   refine ⟨join_ok ?_, q⟩
   have h2 : (strOf [44, 32]).length = 2 := rfl
   have bl : ∀ x ∈ ys.map (fun k => dueW.getD k []), x.length <= 20 := fun x hx => by
    obtain ⟨k, hk, rfl⟩ := List.mem_map.mp hx
    rw [<- (W_ok k (h.b k hk)).1, List.length_map]
    exact (W_ok k (h.b k hk)).2.2.1
   have hlen : (ys.map fun k => dueW.getD k []).length <= 3 := by simpa using hl
   generalize (ys.map fun k => dueW.getD k []) = z at bl hlen
   have : ((z.map strOf).map (·.length)).sum <= z.length * 20 := by
    clear hlen
    induction z with
    | nil => simp
    | cons x r ih =>
     have h1 := bl x (by simp)
     have h2 := ih fun y hy => bl y (.tail _ hy)
     simp only [List.map_cons, List.sum_cons, List.length_cons, Nat.succ_mul]
     have : (strOf x).length = x.length := by simp [Str.length]
     lia
   rw [h2]
   simp only [List.length_map]
   lia
 exact s1 _ (s2 _ ⟨sz_le (Nat.le_refl 2), q⟩)
end
theorem truths_go {n : Nat} {f : Fm} {p : Nat -> Nat} {μ : List MV} (hn : f.ht <= n) : Ev TT (CC TT (n + 1)) [some (fmPV f), some (plPV p), some (.list (dueW.map .str)), none, none, none, none] μ
  (.comp 1 (.call 288 [(.var 0), (.comp 1 (.sub (.lit (.str [102, 105, 108])) (.var 8)) (.rng (.lit (.int 0)) (.lit (.int 3))) (.name 8) [(.bin .BitAnd (.bin .RShift (.var 7) (.var 8)) (.lit (.int 1)))] [])]) (.rng (.lit (.int 0)) (.lit (.int 8))) (.name 7) [] []) (.list ((List.range 8).map fun c => .bool (hd f (heldL c)))) := by
 have h := ev_compR (T := TT) (C := CC TT (n + 1)) (ρ := [some (fmPV f), some (plPV p), some (.list (dueW.map .str)), none, none, none, none]) (μ := μ) (N := 8) (j := 7) (elt := .call 288 [(.var 0), (.comp 1 (.sub (.lit (.str [102, 105, 108])) (.var 8)) (.rng (.lit (.int 0)) (.lit (.int 3))) (.name 8) [(.bin .BitAnd (.bin .RShift (.var 7) (.var 8)) (.lit (.int 1)))] [])]) (ifs := []) (p := fun _ => true) (g := fun c => .bool (hd f (heldL c)))
  rfl (by exact Nat.le_add_left _ _) (fun q hq => evifs0) (fun q hq Q w => by
   refine held_go (T := TT) (C := CC TT (n + 1)) (ρ := [some (fmPV f), some (plPV p), some (.list (dueW.map .str)), none, none, none, none, some (.int (0 + (q : Int)))]) (μ := μ) (c := q) hq rfl rfl (fun d => CC TT (n + 1) 288 μ [fmPV f, d] Q) ?_
   exact c_holds f n _ _ _ hn w)
 rwa [List.filter_eq_self.mpr (fun _ _ => rfl)] at h
theorem orL_bit (ys : List Nat) (j : Nat) : (orL ys).testBit j = decide (j ∈ ys) := by
 induction ys with
 | nil => simp [orL]
 | cons y r ih =>
  show (2 ^ y ||| orL r).testBit j = _
  rw [Nat.testBit_or, ih, Nat.testBit_two_pow, Bool.eq_iff_iff]
  simp only [Bool.or_eq_true, decide_eq_true_eq, List.mem_cons]
  exact or_congr eq_comm Iff.rfl
theorem asc_ext {ys zs : List Nat} (h : Asc ys) (h' : Asc zs) (e : ∀ j, j ∈ ys ↔ j ∈ zs) : ys = zs := by
 have n1 : ys.Nodup := h.s.imp fun h => by exact Nat.ne_of_lt ‹_›
 have n2 : zs.Nodup := h'.s.imp fun h => by lia
 have hp : ys.Perm zs := (List.perm_ext_iff_of_nodup n1 n2).mpr e
 exact List.Perm.eq_of_pairwise (le := (· < ·)) (fun a b _ _ x y => by lia) h.s h'.s hp
theorem orL_inj {ys zs : List Nat} (h : Asc ys) (h' : Asc zs) (e : orL ys = orL zs) : ys = zs := asc_ext h h' fun j => by
 have a := orL_bit ys j
 have b := orL_bit zs j
 rw [e, b] at a
 simpa using a.symm
theorem mem_srtS {p : Nat -> Nat} {S y : Nat} : y ∈ srtS p S ↔ ∃ k, k < 3 /\ S.testBit k = true /\ p k = y := by
 unfold srtS
 rw [(srt_perm _).mem_iff]
 unfold xsS
 simp only [List.mem_map, List.mem_filter, List.mem_range]
 constructor
 ·rintro ⟨k, ⟨h1, h2⟩, h3⟩; exact ⟨k, h1, h2, h3⟩
 ·rintro ⟨k, h1, h2, h3⟩; exact ⟨k, ⟨h1, h2⟩, h3⟩
theorem bits_ext : ∀ S : Nat, S < 8 -> ∀ S' : Nat, S' < 8 -> S.testBit 0 = S'.testBit 0 -> S.testBit 1 = S'.testBit 1 -> S.testBit 2 = S'.testBit 2 -> S = S' := by decide +kernel
theorem srtS_inj {p : Nat -> Nat} (h : Pl p) {S S' : Nat} (hS : S < 8) (hS' : S' < 8) (e : srtS p S = srtS p S') : S = S' := by
 have b : ∀ {S S' : Nat} {k : Nat}, srtS p S = srtS p S' -> k < 3 -> S.testBit k = true -> S'.testBit k = true := fun {S S' k} e hk hb => by
  have h1 : p k ∈ srtS p S := mem_srtS.mpr ⟨k, hk, hb, rfl⟩
  rw [e] at h1
  obtain ⟨j, hj, hb', hp⟩ := mem_srtS.mp h1
  rw [h.i j k hj hk hp] at hb'
  exact hb'
 have c : ∀ k, k < 3 -> S.testBit k = S'.testBit k := fun k hk => by
  rw [Bool.eq_iff_iff]
  exact ⟨b e hk, b e.symm hk⟩
 exact bits_ext S hS S' hS' (c 0 (by exact Nat.succ_pos _)) (c 1 (by exact Nat.le_succ _)) (c 2 (by exact Nat.le_refl _))
theorem dueP_nodup {f : Fm} {p : Nat -> Nat} (h : Pl p) : ((dueP f p).map (·.1)).Nodup := by
 unfold dueP
 rw [List.map_map]
 refine List.pairwise_map.mpr (List.Pairwise.imp_of_mem (fun {a b} ha hb hne e => ?_) ((List.nodup_range (n := 8)).filter (dueB f)))
 have h1 := List.mem_range.mp (List.mem_filter.mp ha).1
 have h2 := List.mem_range.mp (List.mem_filter.mp hb).1
 refine hne (srtS_inj h h1 h2 (orL_inj (srtS_asc h a) (srtS_asc h b) ?_))
 dsimp only [Function.comp, prOf] at e
 lia
theorem prPVs_noPtr (ps : List PR) : noPtrs (ps.map prPV) = true := noPtrs_iff.mpr fun d hd => by
 obtain ⟨c, _, rfl⟩ := List.mem_map.mp hd; rfl
theorem ev_sorted {T : Tabs} {C : CT} {ρ : Env'} {μ : List MV} {e : ME} {xs : List Int} {K : PV -> Prop} (h : Ev T C ρ μ e (.list (xs.map .int))) (hl : xs.length < 64) (k : ∀ ys : List Int, ys.Perm xs -> ys.Pairwise (· <= ·) -> K (.list (ys.map .int))) : EV T C ρ μ (.bi .sorted [e]) K :=
 h (fun d => BIF .sorted [view μ d] K) (by
  show match intsOf (xs.map .int) with | some ys => (xs.map PV.int).length < 64 /\ ∀ zs : List Int, zs.Perm ys -> zs.Pairwise (· <= ·) -> K (.list (zs.map .int)) | none => False
  rw [intsOf_map, List.length_map]
  exact ⟨hl, k⟩)
theorem c_due {n : Nat} {μ : List MV} {K : PV -> Prop} {f : Fm} {p : Nat -> Nat} (hp : Pl p) (hn : f.ht <= n) (h : ∀ ps : List PR, ps.Perm (dueP f p) -> ps.Pairwise (fun a b => a.1 < b.1) -> K (.list (ps.map prPV))) :
  CC TT (n + 2) 332 μ [fmPV f, plPV p] K := .law_due ⟨rfl, by simp [noPtrs, fm_noPtr, plPV, noPtr], by
 have hz := sizeLine_eq
 refine ex_asg (d := .list (dueW.map .str)) (fun Q q => ⟨sz_le (Nat.le_refl 12), q⟩) ?_
 refine ex_asg (truths_go hn) ?_
 refine ex_own0 ?_
 refine ex_for (items := (List.range' 0 8).map fun (i : Nat) => .int (0 + (i : Int))) (ro1 := 0)
  (J := fun ds ρ μ => ∃ (k : Nat) (e5 e6 : Option PV), k <= 8 /\ ds = (List.range' k (8 - k)).map (fun (i : Nat) => .int (0 + (i : Int))) /\ ρ = dEnv f p e5 e6 /\ μ = [.list ((((List.range k).filter (dueB f)).map fun S => prOf (srtS p S)).map prPV)])
  (fun Q q => ?_) ⟨0, none, none, by exact Nat.zero_le _, rfl, rfl, rfl⟩ ?_ ?_
 ·exact ⟨by decide, q⟩
 ·rintro d ds ρ μ' ⟨k, e5, e6, h1, h2, rfl, rfl⟩
  have hk : k < 8 := by
   by_cases hk : k < 8
   ·exact hk
   ·rw [show 8 - k = 0 by grind] at h2; simp at h2
  rw [show 8 - k = (8 - (k + 1)) + 1 by grind, List.range'_succ] at h2
  simp only [List.map_cons, List.cons.injEq] at h2
  obtain ⟨rfl, rfl⟩ := h2
  intro K' kn kc kb
  show EX TT (CC TT (n + 1)) 0 (dEnv f p (some (.int (0 + (k : Int)))) e6) _ _ K'
  refine ex_ife (evb_due hk) ?_
  have eR : (List.range (k + 1)).filter (dueB f) = (List.range k).filter (dueB f) ++ (if dueB f k then [k] else []) := by
   have e1 : [k].filter (dueB f) = if dueB f k then [k] else [] := by rw [List.filter_cons, List.filter_nil]
   rw [List.range_succ, List.filter_append, e1]
  cases hb : dueB f k with
  | false =>
   refine ex_nil (kn _ _ ⟨k + 1, _, _, by trivial, rfl, rfl, ?_⟩)
   rw [eR, hb]; simp
  | true =>
   refine ex_asgV ?_
   have hxl : (xsS p k).length <= 3 := by
    unfold xsS
    rw [List.length_map]
    exact Nat.le_trans (List.length_filter_le _ _) (by decide)
   refine ev_sorted (flags_go hk) (by rw [List.length_map]; lia) fun ys y1 y2 => ?_
   have ey := int_sorted_uniq y1 y2 (srt_perm (xsS p k)) (srt_le (xsS p k))
   subst ey
   have em : ((srt (xsS p k)).map fun (x : Nat) => (x : Int)).map PV.int = intsN (srtS p k) := by
    rw [List.map_map]; rfl
   rw [em]
   show EX TT (CC TT (n + 1)) 0 (dEnv f p (some (.int (0 + (k : Int)))) (some (.list (intsN (srtS p k))))) _ _ K'
   have hfl := List.length_filter_le (dueB f) (List.range k)
   simp only [List.length_range] at hfl
   refine ex_app (i := 0) (l := (((List.range k).filter (dueB f)).map fun S => prOf (srtS p S)).map prPV) (d := prPV (prOf (srtS p k))) (ev_var rfl) (due_item (srtS_asc hp k)) rfl (Nat.le_refl _) (by simp only [List.length_map]; lia) ?_
   refine ex_nil (kn _ _ ⟨k + 1, _, _, by trivial, rfl, rfl, ?_⟩)
   rw [eR, hb]
   simp
 ·rintro ρ μ' ⟨k, e5, e6, h1, h2, rfl, rfl⟩
  have hk : k = 8 := by
   by_cases hk : k = 8
   ·exact hk
   ·rw [show 8 - k = (8 - (k + 1)) + 1 by lia, List.range'_succ] at h2; simp at h2
  subst hk
  refine ⟨dueP f p, rfl, dueP_nodup hp, ?_, fun ps' g1 g2 => ?_⟩
  ·unfold dueP
   have hfl := List.length_filter_le (dueB f) (List.range 8)
   simp only [List.length_range] at hfl
   simp only [List.length_map]; lia
  ·exact ⟨prPVs_noPtr ps', h ps' g1 g2⟩⟩
noncomputable def stG {α : Type} (z : α) (s : Fin 9) (l r both : List α) : List α := match s.val with
 | 0 => both
 | 1 => l ++ r ++ both
 | 2 => l ++ r
 | 3 => [z] ++ l ++ both
 | 4 => r ++ both
 | 5 => [z] ++ r ++ both
 | 6 => l ++ both
 | 7 => [z] ++ l ++ r
 | _ => l ++ r
theorem stS_G (s : Fin 9) (l r both : List Int) : stS s l r both = stG 0 s l r both := rfl
theorem stG_map {α β : Type} (g : α -> β) (z : α) (s : Fin 9) (l r both : List α) : (stG z s l r both).map g = stG (g z) s (l.map g) (r.map g) (both.map g) := by
 unfold stG
 split <;> simp
noncomputable def bothN (l r : List Nat) : List Nat := l.flatMap fun a => r.map fun b => a ||| b
noncomputable def wm (i : Fin 9) : Nat := [1, 2, 4, 1, 3, 5, 6, 3, 5].getD i.val 0
noncomputable def st : Fm -> List Nat
 | .w i => [wm i]
 | .n t s l r => stG 0 s (st l) (st r) (bothN (st l) (st r)) ++ (if t then [0] else [])
theorem or_lt : ∀ a : Nat, a < 8 -> ∀ b : Nat, b < 8 -> a ||| b < 8 := by decide +kernel
theorem both_lt {l r : List Nat} (hl : ∀ x ∈ l, x < 8) (hr : ∀ x ∈ r, x < 8) : ∀ x ∈ bothN l r, x < 8 := fun x hx => by
 obtain ⟨a, ha, hx⟩ := List.mem_flatMap.mp hx
 obtain ⟨b, hb, rfl⟩ := List.mem_map.mp hx
 exact or_lt a (hl a ha) b (hr b hb)
theorem stG_mem {α : Type} {P : α -> Prop} {z : α} {s : Fin 9} {l r both : List α} (hz : P z) (hl : ∀ x ∈ l, P x) (hr : ∀ x ∈ r, P x) (hb : ∀ x ∈ both, P x) : ∀ x ∈ stG z s l r both, P x := fun x hx => by
 obtain ⟨s, hs⟩ := s
 match s, hs, hx with
 | 0, _, hx => exact hb x hx
 | 1, _, hx => (simp only [stG, List.mem_append, List.mem_singleton] at hx; rcases hx with (hx | hx) | hx <;> first | exact hl x hx | exact hr x hx | exact hb x hx | (rw [hx]; exact hz))
 | 2, _, hx => (simp only [stG, List.mem_append, List.mem_singleton] at hx; rcases hx with hx | hx <;> first | exact hl x hx | exact hr x hx | exact hb x hx)
 | 3, _, hx => (simp only [stG, List.mem_append, List.mem_singleton] at hx; rcases hx with (hx | hx) | hx <;> first | exact hl x hx | exact hr x hx | exact hb x hx | (rw [hx]; exact hz))
 | 4, _, hx => (simp only [stG, List.mem_append, List.mem_singleton] at hx; rcases hx with hx | hx <;> first | exact hl x hx | exact hr x hx | exact hb x hx)
 | 5, _, hx => (simp only [stG, List.mem_append, List.mem_singleton] at hx; rcases hx with (hx | hx) | hx <;> first | exact hl x hx | exact hr x hx | exact hb x hx | (rw [hx]; exact hz))
 | 6, _, hx => (simp only [stG, List.mem_append, List.mem_singleton] at hx; rcases hx with hx | hx <;> first | exact hl x hx | exact hr x hx | exact hb x hx)
 | 7, _, hx => (simp only [stG, List.mem_append, List.mem_singleton] at hx; rcases hx with (hx | hx) | hx <;> first | exact hl x hx | exact hr x hx | exact hb x hx | (rw [hx]; exact hz))
 | 8, _, hx => (simp only [stG, List.mem_append, List.mem_singleton] at hx; rcases hx with hx | hx <;> first | exact hl x hx | exact hr x hx | exact hb x hx)
 | (s + 9), hs, _ => lia
theorem wm_lt : ∀ i, wm i < 8 := by decide
theorem st_lt : ∀ f, ∀ x ∈ st f, x < 8
 | .w i => fun x hx => by simp only [st, List.mem_singleton] at hx; subst hx; exact wm_lt i
 | .n t s l r => fun x hx => by
  simp only [st, List.mem_append] at hx
  rcases hx with hx | hx
  ·exact stG_mem (P := fun x => x < 8) (by exact Nat.succ_pos _) (st_lt l) (st_lt r) (both_lt (st_lt l) (st_lt r)) x hx
  ·split at hx <;> simp at hx; lia
noncomputable def ev (l : List Nat) (c : Nat) : Bool := l.foldr (fun x acc => (x &&& c == x) ^^ acc) false
theorem ev_append (l r : List Nat) (c : Nat) : ev (l ++ r) c = (ev l c ^^ ev r c) := by
 induction l with
 | nil => simp [ev]
 | cons x l ih =>
  show ((x &&& c == x) ^^ ev (l ++ r) c) = (((x &&& c == x) ^^ ev l c) ^^ ev r c)
  rw [ih, Bool.xor_assoc]
theorem or_and : ∀ c : Nat, c < 8 -> ∀ a : Nat, a < 8 -> ∀ b : Nat, b < 8 -> ((a ||| b) &&& c == (a ||| b)) = ((a &&& c == a) && (b &&& c == b)) := by decide +kernel
theorem ev_one (a : Nat) {r : List Nat} {c : Nat} (hc : c < 8) (ha : a < 8) (hr : ∀ x ∈ r, x < 8) : ev (r.map fun b => a ||| b) c = ((a &&& c == a) && ev r c) := by
 induction r with
 | nil => simp [ev]
 | cons b r ih =>
  show ((((a ||| b) &&& c == (a ||| b))) ^^ ev (r.map fun b => a ||| b) c) = ((a &&& c == a) && ((b &&& c == b) ^^ ev r c))
  rw [ih fun x hx => hr x (.tail _ hx), or_and c hc a ha b (hr b (.head _))]
  cases (a &&& c == a) <;> simp
theorem ev_both {l r : List Nat} {c : Nat} (hc : c < 8) (hl : ∀ x ∈ l, x < 8) (hr : ∀ x ∈ r, x < 8) : ev (bothN l r) c = (ev l c && ev r c) := by
 induction l with
 | nil => simp [ev, bothN]
 | cons a l ih =>
  have e : bothN (a :: l) r = (r.map fun b => a ||| b) ++ bothN l r := rfl
  rw [e, ev_append, ih fun x hx => hl x (.tail _ hx), ev_one a hc (hl a (.head _)) hr]
  show _ = (((a &&& c == a) ^^ ev l c) && ev r c)
  cases (a &&& c == a) <;> cases ev l c <;> cases ev r c <;> rfl
theorem ev_zero (c : Nat) : ev [0] c = true := by simp [ev]
theorem hd_word : ∀ i : Fin 9, ∀ c : Nat, c < 8 -> (wl i).all (fun x => (heldL c).contains x) = ev [wm i] c := by decide +kernel
theorem hd_ev : ∀ (f : Fm) (c : Nat), c < 8 -> hd f (heldL c) = ev (st f) c
 | .w i, c, hc => hd_word i c hc
 | .n t s l r, c, hc => by
  have h1 := hd_ev l c hc
  have h2 := hd_ev r c hc
  have hb := ev_both hc (st_lt l) (st_lt r)
  simp only [hd, st, h1, h2, ev_append]
  have ht : ev (if t = true then [0] else []) c = t := by cases t <;> simp [ev]
  rw [ht]
  have e : opS s (ev (st l) c) (ev (st r) c) = ev (stG 0 s (st l) (st r) (bothN (st l) (st r))) c := by
   generalize bothN (st l) (st r) = B at hb ⊢
   generalize st l = L at hb ⊢
   generalize st r = R at hb ⊢
   obtain ⟨s, hs⟩ := s
   match s, hs with
   | 0, _ => exact hb.symm
   | 1, _ => (simp only [opS, stG, ev_append, ev_zero, hb]; try (cases ev L c <;> cases ev R c <;> rfl))
   | 2, _ => (simp only [opS, stG, ev_append, ev_zero, hb]; try (cases ev L c <;> cases ev R c <;> rfl))
   | 3, _ => (simp only [opS, stG, ev_append, ev_zero, hb]; try (cases ev L c <;> cases ev R c <;> rfl))
   | 4, _ => (simp only [opS, stG, ev_append, ev_zero, hb]; try (cases ev L c <;> cases ev R c <;> rfl))
   | 5, _ => (simp only [opS, stG, ev_append, ev_zero, hb]; try (cases ev L c <;> cases ev R c <;> rfl))
   | 6, _ => (simp only [opS, stG, ev_append, ev_zero, hb]; try (cases ev L c <;> cases ev R c <;> rfl))
   | 7, _ => (simp only [opS, stG, ev_append, ev_zero, hb]; try (cases ev L c <;> cases ev R c <;> rfl))
   | 8, _ => (simp only [opS, stG, ev_append, ev_zero, hb]; try (cases ev L c <;> cases ev R c <;> rfl))
   | (s + 9), hs => lia
  rw [e]
  try (cases ev (stG 0 s (st l) (st r) (bothN (st l) (st r))) c <;> cases t <;> rfl)
theorem par_eq {α : Type} (P : α -> Bool) (l : List α) : ((l.filter P).length % 2 == 1) = l.foldr (fun x acc => P x ^^ acc) false := by
 induction l with
 | nil => rfl
 | cons x l ih =>
  rw [List.filter_cons, List.foldr_cons, <- ih]
  cases P x with
  | false => simp
  | true =>
   simp only [if_true, List.length_cons]
   generalize (l.filter P).length = n
   simp
   lia
noncomputable def xf (g : Nat -> Bool) : Bool := (List.range 8).foldr (fun q acc => g q ^^ acc) false
theorem fold_xor (l : List Nat) (a b : Nat -> Bool) : l.foldr (fun q acc => (a q ^^ b q) ^^ acc) false = (l.foldr (fun q acc => a q ^^ acc) false ^^ l.foldr (fun q acc => b q ^^ acc) false) := by
 induction l with
 | nil => rfl
 | cons x l ih =>
  simp only [List.foldr_cons, ih]
  cases a x <;> cases b x <;> simp
theorem fold_congr (l : List Nat) {a b : Nat -> Bool} (h : ∀ x ∈ l, a x = b x) : l.foldr (fun q acc => a q ^^ acc) false = l.foldr (fun q acc => b q ^^ acc) false := by
 induction l with
 | nil => rfl
 | cons x l ih =>
  simp only [List.foldr_cons, h x (.head _), ih fun y hy => h y (.tail _ hy)]
theorem mob : ∀ S : Nat, S < 8 -> ∀ x : Nat, x < 8 -> xf (fun q => (q &&& S == q) && (x &&& q == x)) = (x == S) := by decide +kernel
noncomputable def cntP (S : Nat) (l : List Nat) : Bool := l.foldr (fun x acc => (x == S) ^^ acc) false
theorem mob_all {S : Nat} (hS : S < 8) : ∀ l : List Nat, (∀ x ∈ l, x < 8) -> xf (fun q => (q &&& S == q) && ev l q) = cntP S l
 | [], _ => by
  have : (fun q : Nat => (q &&& S == q) && ev [] q) = fun _ => false := by funext q; simp [ev]
  rw [this]; rfl
 | x :: l, h => by
  have e : (fun q : Nat => (q &&& S == q) && ev (x :: l) q) = fun q => (((q &&& S == q) && (x &&& q == x)) ^^ ((q &&& S == q) && ev l q)) := by
   funext q
   show ((q &&& S == q) && ((x &&& q == x) ^^ ev l q)) = _
   cases (q &&& S == q) <;> simp
  rw [e]
  unfold xf
  rw [fold_xor]
  have h1 := mob S hS x (h x (.head _))
  have h2 := mob_all hS l fun y hy => h y (.tail _ hy)
  unfold xf at h1 h2
  rw [h1, h2]
  rfl
theorem due_cnt (f : Fm) {S : Nat} (hS : S < 8) : dueB f S = cntP S (st f) := by
 unfold dueB
 rw [par_eq, fold_congr _ (b := fun q => (q &&& S == q) && ev (st f) q) fun q hq => by rw [hd_ev f q (List.mem_range.mp hq)]]
 exact mob_all hS (st f) (st_lt f)
theorem bitOr_nat (m n : Nat) : Builtin.bitOr (m : Int) (n : Int) = ((m ||| n : Nat) : Int) := by
 unfold Builtin.bitOr Builtin.bitAnd
 have h1 : decide (0 <= Builtin.bitNot (m : Int)) = false := by unfold Builtin.bitNot; simp; lia
 have h2 : decide (0 <= Builtin.bitNot (n : Int)) = false := by unfold Builtin.bitNot; simp; lia
 rw [h1, h2]
 simp only
 have h3 : ∀ m : Nat, (Builtin.bitNot (Builtin.bitNot (m : Int))).toNat = m := fun m => by unfold Builtin.bitNot; lia
 rw [h3, h3]
 generalize m ||| n = k
 unfold Builtin.bitNot
 lia
noncomputable def bpw (p : Nat -> Nat) (c : Nat) : Int := ((2 ^ p c : Nat) : Int)
noncomputable def mkI (p : Nat -> Nat) (S : Nat) : Int := ((orL (srtS p S) : Nat) : Int)
theorem mk_or (p : Nat -> Nat) (a b : Nat) : mkI p (a ||| b) = Builtin.bitOr (mkI p a) (mkI p b) := by
 unfold mkI
 rw [bitOr_nat]
 congr 1
 apply Nat.eq_of_testBit_eq
 intro j
 rw [Nat.testBit_or, orL_bit, orL_bit, orL_bit, Bool.eq_iff_iff]
 simp only [Bool.or_eq_true, decide_eq_true_eq, mem_srtS, Nat.testBit_or]
 constructor
 ·rintro ⟨k, h1, h2 | h2, h3⟩
  ·exact .inl ⟨k, h1, h2, h3⟩
  ·exact .inr ⟨k, h1, h2, h3⟩
 ·rintro (⟨k, h1, h2, h3⟩ | ⟨k, h1, h2, h3⟩)
  ·exact ⟨k, h1, .inl h2, h3⟩
  ·exact ⟨k, h1, .inr h2, h3⟩
theorem mk_zero (p : Nat -> Nat) : mkI p 0 = 0 := by
 have : srtS p 0 = [] := List.eq_nil_iff_forall_not_mem.mpr fun y hy => by
  obtain ⟨k, _, h, _⟩ := mem_srtS.mp hy
  simp at h
 unfold mkI
 rw [this]
 rfl
theorem mk_one (p : Nat -> Nat) (c : Nat) (hc : c < 3) : mkI p (2 ^ c) = bpw p c := by
 unfold mkI bpw
 congr 1
 apply Nat.eq_of_testBit_eq
 intro j
 rw [orL_bit, Nat.testBit_two_pow, Bool.eq_iff_iff]
 simp only [decide_eq_true_eq, mem_srtS, Nat.testBit_two_pow]
 constructor
 ·rintro ⟨k, h1, h2, h3⟩; rw [h2]; exact h3
 ·intro h; exact ⟨c, hc, rfl, h⟩
theorem mk_word (p : Nat -> Nat) : ∀ i : Fin 9, mkI p (wm i) = orW (bpw p) (wI i) := by
 intro ⟨i, hi⟩
 have m0 := mk_one p 0 (by exact Nat.succ_pos _)
 have m1 := mk_one p 1 (by exact Nat.le_succ _)
 have m2 := mk_one p 2 (by exact Nat.le_refl _)
 have o := mk_or p
 match i, hi with
 | 0, _ => exact m0
 | 1, _ => exact m1
 | 2, _ => exact m2
 | 3, _ =>
  have := o (2 ^ 0) (2 ^ 0)
  rw [m0] at this
  exact this
 | 4, _ =>
  have := o (2 ^ 0) (2 ^ 1)
  rw [m0, m1] at this
  exact this
 | 5, _ =>
  have := o (2 ^ 0) (2 ^ 2)
  rw [m0, m2] at this
  exact this
 | 6, _ =>
  have := o (2 ^ 1) (2 ^ 2)
  rw [m1, m2] at this
  exact this
 | 7, _ =>
  have := o ((2 ^ 0) ||| (2 ^ 0)) (2 ^ 1)
  rw [o (2 ^ 0) (2 ^ 0), m0, m1] at this
  exact this
 | 8, _ =>
  have := o ((2 ^ 0) ||| (2 ^ 0)) (2 ^ 2)
  rw [o (2 ^ 0) (2 ^ 0), m0, m2] at this
  exact this
 | (i + 9), hi => lia
theorem both_mk (p : Nat -> Nat) (l r : List Nat) : (bothN l r).map (mkI p) = bothI (l.map (mkI p)) (r.map (mkI p)) := by
 unfold bothN bothI
 rw [List.map_flatMap, List.flatMap_map]
 congr 1
 funext a
 rw [List.map_map, List.map_map]
 exact List.map_congr_left fun b _ => mk_or p a b
theorem stI_st (p : Nat -> Nat) : ∀ f : Fm, stI (bpw p) f = (st f).map (mkI p)
 | .w i => by simp only [stI, st, List.map_cons, List.map_nil, mk_word]
 | .n t s l r => by
  simp only [stI, st, List.map_append, stS_G, stG_map, mk_zero, both_mk, stI_st p l, stI_st p r]
  congr 1
  cases t <;> simp [mk_zero]
noncomputable def cntY (z : List Nat) (l : List (List Nat)) : Bool := l.foldr (fun x acc => (x == z) ^^ acc) false
theorem toggle_nodup {L : List Ent} {u : Bool} {ys : List Nat} (h : (L.map (·.2)).Nodup) : ((toggle L u ys).map (·.2)).Nodup := by
 unfold toggle
 split
 ·exact h.sublist ((List.filter_sublist).map _)
 ·rename_i hb
  rw [List.map_append]
  refine List.nodup_append.mpr ⟨h, by simp, fun a ha b hb' => ?_⟩
  simp only [List.map_cons, List.map_nil, List.mem_singleton] at hb'
  subst hb'
  rintro rfl
  obtain ⟨q, hq, e⟩ := List.mem_map.mp ha
  exact hb (List.any_eq_true.mpr ⟨q, hq, by simpa using e⟩)
theorem toggle_mem (L : List Ent) (u : Bool) (ys z : List Nat) : ((toggle L u ys).map (·.2)).contains z = ((ys == z) ^^ (L.map (·.2)).contains z) := by
 have key : ∀ L : List Ent, (L.map (·.2)).contains z = L.any fun q => q.2 == z := fun L => by
  induction L with
  | nil => rfl
  | cons q L ih =>
   rw [List.map_cons, List.contains_cons, ih, List.any_cons]
   congr 1
   rw [Bool.eq_iff_iff, beq_iff_eq, beq_iff_eq]; exact eq_comm
 rw [key, key]
 unfold toggle
 by_cases e : ys = z
 ·subst e
  simp only [beq_self_eq_true]
  cases hb : L.any (fun q => q.2 == ys) with
  | true =>
   simp only [if_true]
   rw [List.any_filter]
   have : (L.any fun a => !(a.2 == ys) && a.2 == ys) = false := by
    rw [List.any_eq_false]
    intro q _
    cases (q.2 == ys) <;> simp
   rw [this]; rfl
  | false =>
   simp
 ·have e' : (ys == z) = false := by simpa using e
  rw [e']
  cases hb : L.any (fun q => q.2 == ys) with
  | true =>
   simp only [if_true, Bool.false_xor]
   rw [List.any_filter]
   rw [Bool.eq_iff_iff]
   simp only [List.any_eq_true, Bool.and_eq_true, Bool.not_eq_true', beq_eq_false_iff_ne, ne_eq, beq_iff_eq]
   constructor
   ·rintro ⟨q, h1, h2, h3⟩; exact ⟨q, h1, h3⟩
   ·rintro ⟨q, h1, h3⟩; exact ⟨q, h1, fun h => e (h.symm.trans h3), h3⟩
  | false =>
   simp [e]
theorem tog_nodup : ∀ (yss : List (List Nat)) (t : Nat) (L : List Ent), (L.map (·.2)).Nodup -> ((tog t yss L).map (·.2)).Nodup
 | [], _, L, h => h
 | ys :: r, t, L, h => tog_nodup r (t + 1) _ (toggle_nodup h)
theorem tog_mem (z : List Nat) : ∀ (yss : List (List Nat)) (t : Nat) (L : List Ent), ((tog t yss L).map (·.2)).contains z = (cntY z yss ^^ (L.map (·.2)).contains z)
 | [], _, L => by simp [tog, cntY]
 | ys :: r, t, L => by
  show ((tog (t + 1) r (toggle L (!(t % 2 == 1)) ys)).map (·.2)).contains z = _
  rw [tog_mem z r, toggle_mem]
  show _ = (((ys == z) ^^ cntY z r) ^^ _)
  cases (ys == z) <;> cases cntY z r <;> simp
theorem tog_asc : ∀ (yss : List (List Nat)) (t : Nat) (L : List Ent), (∀ ys ∈ yss, Asc ys) -> (∀ q ∈ L, Asc q.2) -> ∀ q ∈ tog t yss L, Asc q.2
 | [], _, L, _, h => h
 | ys :: r, t, L, ha, h => tog_asc r (t + 1) _ (fun z hz => ha z (.tail _ hz)) (toggle_asc h (ha ys (.head _)))
theorem cnt_map {p : Nat -> Nat} (h : Pl p) {S : Nat} (hS : S < 8) : ∀ l : List Nat, (∀ x ∈ l, x < 8) -> cntY (srtS p S) (l.map (srtS p)) = cntP S l
 | [], _ => rfl
 | x :: l, hl => by
  show ((srtS p x == srtS p S) ^^ cntY (srtS p S) (l.map (srtS p))) = ((x == S) ^^ cntP S l)
  rw [cnt_map h hS l fun y hy => hl y (.tail _ hy)]
  congr 1
  rw [Bool.eq_iff_iff]
  simp only [beq_iff_eq]
  exact ⟨srtS_inj h (hl x (.head _)) hS, fun e => by rw [e]⟩
theorem cnt_none {z : List Nat} : ∀ l : List (List Nat), (∀ x ∈ l, x ≠ z) -> cntY z l = false
 | [], _ => rfl
 | x :: l, h => by
  show ((x == z) ^^ cntY z l) = false
  rw [cnt_none l fun y hy => h y (.tail _ hy), show (x == z) = false by simpa using h x (.head _)]
  rfl
theorem told_perm {p : Nat -> Nat} (h : Pl p) (f : Fm) : ((tog 0 ((st f).map (srtS p)) []).map fun q => prOf q.2).Perm (dueP f p) := by
 have n1 := tog_nodup ((st f).map (srtS p)) 0 [] (by simp)
 have n2 : (((List.range 8).filter (dueB f)).map (srtS p)).Nodup := by
  refine List.pairwise_map.mpr (List.Pairwise.imp_of_mem (fun {a b} ha hb hne e => ?_) ((List.nodup_range (n := 8)).filter (dueB f)))
  exact hne (srtS_inj h (List.mem_range.mp (List.mem_filter.mp ha).1) (List.mem_range.mp (List.mem_filter.mp hb).1) e)
 have pm : ((tog 0 ((st f).map (srtS p)) []).map (·.2)).Perm (((List.range 8).filter (dueB f)).map (srtS p)) := by
  refine (List.perm_ext_iff_of_nodup n1 n2).mpr fun z => ?_
  have hm := tog_mem z ((st f).map (srtS p)) 0 []
  simp only [List.map_nil, List.contains_nil, Bool.xor_false] at hm
  rw [<- List.contains_iff_mem, hm]
  constructor
  ·intro hc
   by_cases hz : ∃ S, S ∈ st f /\ srtS p S = z
   ·obtain ⟨S, h1, rfl⟩ := hz
    have hS := st_lt f S h1
    rw [cnt_map h hS _ (st_lt f), <- due_cnt f hS] at hc
    exact List.mem_map.mpr ⟨S, List.mem_filter.mpr ⟨List.mem_range.mpr hS, hc⟩, rfl⟩
   ·rw [cnt_none _ fun x hx e => by
     obtain ⟨S, h1, h2⟩ := List.mem_map.mp hx
     exact hz ⟨S, h1, by rw [h2, e]⟩] at hc
    cases hc
  ·intro hz
   obtain ⟨S, hS, rfl⟩ := List.mem_map.mp hz
   obtain ⟨h1, h2⟩ := List.mem_filter.mp hS
   have hS := List.mem_range.mp h1
   rw [cnt_map h hS _ (st_lt f), <- due_cnt f hS]
   exact h2
 have := pm.map prOf
 rw [List.map_map, List.map_map] at this
 exact this
theorem comp_any {body : Env' -> List PV -> (List PV -> Prop) -> Prop} {t : MT} {ρ : Env'} {K : List PV -> Prop} : ∀ (items acc : List PV), acc.length + items.length <= sizeLine ->
  (∀ d ∈ items, ∀ acc K1, acc.length < sizeLine -> (∀ v : Int, K1 (acc ++ [.int v])) -> asgT t d ρ fun ρ1 => body ρ1 acc K1) -> (∀ vs : List Int, vs.length = items.length -> K (acc ++ vs.map .int)) -> compLoop body t ρ items acc K
 | [], acc, hl, hb, h => by simpa [compLoop] using h [] rfl
 | d :: ds, acc, hl, hb, h => by
  simp only [List.length_cons] at hl
  refine hb d (.head _) acc _ (by lia) fun v => ?_
  refine comp_any ds _ (by simp only [List.length_append, List.length_singleton]; lia) (fun d' hd' => hb d' (.tail _ hd')) fun vs hv => ?_
  have := h (v :: vs) (by simp [hv])
  simpa using this
theorem intsOf_mem : ∀ {l : List PV}, (∀ x ∈ l, ∃ i : Int, x = .int i) -> ∃ xs, intsOf l = some xs
 | [], _ => ⟨[], rfl⟩
 | x :: l, h => by
  obtain ⟨i, rfl⟩ := h x (.head _)
  obtain ⟨xs, e⟩ := intsOf_mem (l := l) fun y hy => h y (.tail _ hy)
  exact ⟨i :: xs, by simp [intsOf, e]⟩
section
variable {n : Nat} {C : CT}
noncomputable abbrev lEnv (sc nu fo pl ty se ta to : Option PV) : Env' := [sc, nu, fo, pl, ty, se, ta, to]
theorem numbers_go {script : List Int} (hl : script.length <= sizeLine) {μ : List MV} {K : PV -> Prop} (h : ∀ a b c x y z : Int, K (.list [.int a, .int b, .int c, .int x, .int y, .int z])) :
  EV TT C (lEnv (some (.list (script.map .int))) none none none none none none none) μ (.comp 2 (.bin .Mod (.bin .Add (.var 9) (.bi .sum [(.slice3 (.var 0) (.var 8) (.lit (.int 60)) (.lit (.int 6)))])) (.lit (.int 1000000))) (.enum (.list [(.lit (.int 511)), (.lit (.int 831)), (.lit (.int 3)), (.lit (.int 1105)), (.lit (.int 7)), (.lit (.int 40))])) (.tup [8, 9]) [] []) K := by
 have hz := sizeLine_eq
 refine ⟨sz_le (Nat.le_refl 6), by decide, fun i hi => by simp at hi; rcases hi with rfl | rfl <;> rfl, ?_⟩
 refine comp_any _ _ (by simp [enumFrom, hz]) (fun d hd acc K1 hl1 hk => ?_) fun vs hv => ?_
 ·have hd' : ∃ (i : Nat) (v : Int), d = .tup [.int (i : Int), .int v] := by
   simp only [enumFrom, List.mem_cons, List.not_mem_nil, or_false] at hd
   rcases hd with rfl | rfl | rfl | rfl | rfl | rfl <;> exact ⟨_, _, rfl⟩
  obtain ⟨i, v, rfl⟩ := hd'
  refine ⟨rfl, ?_⟩
  refine ⟨⟨Int.natCast_nonneg _, by decide, by decide, by rw [List.length_map]; exact hl⟩, fun l' hl' => ?_⟩
  obtain ⟨xs, e⟩ := intsOf_mem (l := l') fun x hx => by
   obtain ⟨w, _, e⟩ := List.mem_map.mp (hl' x hx)
   exact ⟨w, e.symm⟩
  show match intsOf l' with | some xs => (1000000 : Int) ≠ 0 /\ acc.length < sizeLine /\ K1 (acc ++ [.int ((v + xs.sum).fmod 1000000)]) | none => False
  rw [e]
  exact ⟨by decide, hl1, hk _⟩
 ·match vs, hv with
  | [a, b, c, x, y, z], _ => exact h a b c x y z
theorem bits_go {p : Nat -> Nat} (hp : Pl p) {e0 e1 e2 e4 e5 e6 e7 : Option PV} {μ : List MV} : Ev TT C (lEnv e0 e1 e2 (some (plPV p)) e4 e5 e6 e7) μ (.comp 1 (.bin .Pow (.lit (.int 2)) (.var 8)) (.var 3) (.name 8) [] []) (bitsPV (bpw p)) := fun Q q => by
 refine ⟨rfl, comp_of (F := fun d => match d with | .int k => [.int (((2 ^ k.toNat : Nat) : Int))] | _ => []) [.int (p 0 : Nat), .int (p 1 : Nat), .int (p 2 : Nat)] [] (fun d hd acc K1 hl1 hk => ?_) (sz_le (Nat.le_refl 3)) q⟩
 have hd' : ∃ k : Nat, k < 12 /\ d = .int (k : Int) := by
  simp only [List.mem_cons, List.not_mem_nil, or_false] at hd
  rcases hd with rfl | rfl | rfl
  ·exact ⟨_, hp.b 0 (by decide), rfl⟩
  ·exact ⟨_, hp.b 1 (by decide), rfl⟩
  ·exact ⟨_, hp.b 2 (by decide), rfl⟩
 obtain ⟨k, hk12, rfl⟩ := hd'
 have b2 : ∀ k : Nat, k < 12 -> (Builtin.Int.intBits 2 : Int) * (k : Int) <= 2 ^ 27 := by decide +kernel
 exact ⟨⟨Int.natCast_nonneg _, b2 k hk12⟩, hl1, show K1 (acc ++ [.int ((2 : Int) ^ k)]) from (Int.natCast_pow 2 k : ((2 ^ k : Nat) : Int) = (2 : Int) ^ k) ▸ hk⟩
theorem told_go {L : List Ent} (hL : ∀ q ∈ L, Asc q.2) (hl : L.length <= 1000) {e0 e1 e2 e3 e4 e5 e7 : Option PV} {μ : List MV} :
  Ev TT C (lEnv e0 e1 e2 e3 e4 e5 (some (.ftab (tbPV (L.map entOf)))) e7) μ (.comp 2 (.tup [(.bi .int [(.var 9)]), (.meth .lower (.var 8) [])]) (.ext (pItems 6)) (.tup [8, 9]) [] []) (.list ((L.map fun q => prOf q.2).map prPV)) := fun Q q => by
 have hz := sizeLine_eq
 refine ⟨tbPV (L.map entOf), rfl, tbPV_noPtr _, by simp [tbPV]; lia, fun i hi => by simp at hi; rcases hi with rfl | rfl <;> rfl, ?_⟩
 have fm : (tbPV (L.map entOf)).flatMap (fun d => match d with | .tup [.str x, .str y] => [prPV ((PySem.intText? (strOf y)).getD 0, lowL x)] | _ => []) = (L.map fun q => prOf q.2).map prPV := by
  unfold tbPV
  rw [List.map_map, List.flatMap_map, List.map_map]
  clear q hl
  induction L with
  | nil => rfl
  | cons e L ih =>
   have he := hL e (.head _)
   rw [List.flatMap_cons, ih fun x hx => hL x (.tail _ hx)]
   have h1 := (dig_facts e.2 he).2.1
   have h2 := nmV_low (u := e.1) he
   show [prPV ((PySem.intText? (strOf (digO e.2))).getD 0, lowL (nmV e.1 e.2))] ++ _ = _
   rw [h1, h2]
   rfl
 refine comp_of (F := fun d => match d with | .tup [.str x, .str y] => [prPV ((PySem.intText? (strOf y)).getD 0, lowL x)] | _ => []) _ _ (fun d hd acc K1 hl1 hk => ?_) (by rw [fm]; simp; omega) (by rw [fm]; exact q)
 obtain ⟨x, hx, rfl⟩ := List.mem_map.mp hd
 obtain ⟨e, he, rfl⟩ := List.mem_map.mp hx
 have ha := hL e he
 obtain ⟨g1, g2, g3, g4⟩ := dig_facts e.2 ha
 have hnl : (nmV e.1 e.2).length <= 1000 := by
  have := nm_facts e.2 ha.b ha.l
  unfold nmV
  split
  ·exact this.2.2.2.2.1
  ·exact this.2.2.2.2.2
 have g2' : PySem.intText? (strOf (entOf e).2) = some ((prOf e.2).1) := g2
 refine ⟨rfl, ?_⟩
 show match PySem.intText? (strOf (entOf e).2) with | some n => (entOf e).2.length <= 640 /\ (entOf e).1.length <= 5592405 /\ 2 <= sizeLine /\ acc.length < sizeLine /\ K1 (acc ++ [.tup [.int n, .str (lowL (entOf e).1)]]) | none => False
 rw [g2']
 refine ⟨Nat.le_trans g3 (by decide), Nat.le_trans hnl (by decide), sz_le (Nat.le_refl 2), hl1, ?_⟩
 have hk' : K1 (acc ++ [prPV ((PySem.intText? (strOf (digO e.2))).getD 0, lowL (nmV e.1 e.2))]) := hk
 rw [g2] at hk'
 exact hk'
theorem eq_same {A : List PR} {μ : List MV} {K : Bool -> Prop} (k : K true) : CMP .Eq (view μ (.list (A.map prPV))) (view μ (.list (A.map prPV))) K := by
 match A with
 | [] => exact k
 | a :: r =>
  have pe : ∀ l : List PR, plainEqs (l.map prPV) (l.map prPV) := fun l => by
   induction l with
   | nil => trivial
   | cons x l ih => exact ⟨⟨rfl, _, _, rfl⟩, ih⟩
  exact ⟨rfl, pe (a :: r), k⟩
theorem tk_len : ∀ f, (tk f).length <= 8 * f.nodes + 3
 | .w i => by
  have : ∀ i, (wI i).length <= 3 := by decide
  simp only [tk, List.length_map, Fm.nodes]; have := this i; omega
 | .n t s l r => by
  have h1 := tk_len l
  have h2 := tk_len r
  dsimp only [tk, Fm.nodes, List.length_append, List.length_cons, List.length_nil]
  split <;> simp <;> lia
end
theorem pl_of {p0 p1 p2 : Nat} (h0 : p0 < 12) (h1 : p1 < 12) (h2 : p2 < 12) (h01 : p0 ≠ p1) (h02 : p0 ≠ p2) (h12 : p1 ≠ p2) : Pl (fun k => [p0, p1, p2].getD k 0) where
 b := fun k hk => by
  match k, hk with
  | 0, _ => exact h0
  | 1, _ => exact h1
  | 2, _ => exact h2
 i := fun j k hj hk e => by
  match j, hj, k, hk, e with
  | 0, _, 0, _, _ => rfl
  | 0, _, 1, _, e => exact absurd e h01
  | 0, _, 2, _, e => exact absurd e h02
  | 1, _, 0, _, e => exact absurd e.symm h01
  | 1, _, 1, _, _ => rfl
  | 1, _, 2, _, e => exact absurd e h12
  | 2, _, 0, _, e => exact absurd e.symm h02
  | 2, _, 1, _, e => exact absurd e.symm h12
  | 2, _, 2, _, _ => rfl
theorem tog_len : ∀ (yss : List (List Nat)) (t : Nat) (L : List Ent), (tog t yss L).length <= L.length + yss.length
 | [], _, L => Nat.le_refl _
 | ys :: r, t, L => by
  have h1 := tog_len r (t + 1) (toggle L (!(t % 2 == 1)) ys)
  have h2 := toggle_len L (!(t % 2 == 1)) ys
  simp only [tog, List.length_cons]
  lia
theorem pairs_uniq {A B : List PR} (h : A.Perm B) (h1 : A.Pairwise fun a b => a.1 < b.1) (h2 : B.Pairwise fun a b => a.1 < b.1) : A = B :=
 List.Perm.eq_of_pairwise (le := fun a b : PR => a.1 < b.1) (fun a b _ _ x y => by lia) h1 h2 h
theorem ev_ext {T : Tabs} {C : CT} {ρ : Env'} {μ : List MV} {K : PV -> Prop} {P} (h : P ρ μ K) : EV T C ρ μ (.ext P) K := h
theorem law_fc (script : List Int) (hl : script.length <= sizeLine) : FC TT (CC TT 8) 1 8 (ms_law TT (CC TT 8)) [.list (script.map .int)] (fun d => d = .bool true) := ⟨rfl, by
  have := ints_noPtr script
  simpa [noPtrs, noPtr] using this, by
 simp only [List.map, List.replicate, List.cons_append, List.nil_append, Nat.reduceSub]
 refine ex_asgV (numbers_go hl fun a b c x y z => ?_)
 simp only [lEnv, List.set]
 refine ex_asgV ?_
 refine c_formula (n := 7) (μ := []) fun f hf => ?_
 simp only [List.set]
 have hht := ht_le f
 refine ex_asgV ?_
 refine ⟨by decide, by decide, show 3 < 6 by decide, c_places (n := 7) (μ := []) fun p0 p1 p2 g0 g1 g2 g01 g02 g12 => ?_⟩
 have hp := pl_of g0 g1 g2 g01 g02 g12
 have epl : PV.list [.int (p0 : Int), .int (p1 : Int), .int (p2 : Int)] = plPV (fun k => [p0, p1, p2].getD k 0) := rfl
 rw [epl]
 generalize (fun k => [p0, p1, p2].getD k 0) = p at hp
 simp only [List.set]
 refine ex_asgV ?_
 have htl := tx_len f
 have hkl := tk_len f
 refine c_text f 7 [] _ (by lia) (by lia) ⟨by decide, by decide, show 4 < 6 by decide, by decide, by decide, show 5 < 6 by decide, c_typed (n := 7) (μ := []) (tx_AL f) (by lia) fun ts ht hts => ?_⟩
 simp only [List.set]
 have hst : (st f).length <= 200 := by
  have h1 := stI_len (bpw p) f
  rw [stI_st, List.length_map, hf] at h1
  lia
 have esets : PV.list ((stI (bpw p) f).map .int) = setsPV ((st f).map (srtS p)) := by
  unfold setsPV
  rw [stI_st, List.map_map, List.map_map]
  rfl
 refine ex_asg (d := setsPV ((st f).map (srtS p))) (fun Q q => ?_) ?_
 ·refine c_prep (n := 6) (μ := []) ts (by rw [ht]; lia) (by lia) ?_
  rw [ht]
  have hcut : Cut (tx f) (tk f) := by
   have := cut_fm f [] [] .nil
   simpa using this
  refine c_cut (n := 7) (μ := []) hcut (by lia) ?_
  refine bits_go hp _ ?_
  refine c_mult (n := 6) (μ := []) f (by lia) (by lia) ?_
  rw [esets]
  exact q
 simp only [List.set]
 have hasc : ∀ ys ∈ (st f).map (srtS p), Asc ys := fun ys hy => by
  obtain ⟨S, _, rfl⟩ := List.mem_map.mp hy
  exact srtS_asc hp S
 refine ex_asg (d := .ftab (tbPV ((tog 0 ((st f).map (srtS p)) []).map entOf))) (ev_call1 (d := setsPV ((st f).map (srtS p))) rfl fun K q => c_table (n := 6) _ hasc (by simp; lia) q) ?_
 simp only [List.set]
 have hperm := told_perm hp f
 have hlen := tog_len ((st f).map (srtS p)) 0 []
 simp only [List.length_nil, List.length_map] at hlen
 have hL := tog_asc ((st f).map (srtS p)) 0 [] hasc (by simp)
 refine ex_asgV ?_
 generalize tog 0 ((st f).map (srtS p)) [] = L at hperm hlen hL ⊢
 have hnd : ((L.map fun q => prOf q.2).map (·.1)).Nodup := (hperm.map (·.1)).nodup_iff.mpr (dueP_nodup hp)
 have hdl : (dueP f p).length <= 8 := by
  unfold dueP
  have hfl := List.length_filter_le (dueB f) (List.range 8)
  simp only [List.length_range] at hfl
  simp only [List.length_map]; lia
 have hll : (L.map fun q => prOf q.2).length <= 8 := by rw [hperm.length_eq]; exact hdl
 refine ev_ext ?_
 refine told_go hL (by lia) _ ?_
 refine ⟨L.map fun q => prOf q.2, rfl, hnd, by lia, fun ps' s1 s2 => ?_⟩
 refine c_due (n := 6) (μ := []) hp (by lia) fun ps t1 t2 => ?_
 have e : ps' = ps := pairs_uniq (s1.trans (hperm.trans t1.symm)) s2 t2
 subst e
 exact eq_same ⟨rfl, rfl⟩⟩
theorem mg_is {w : World} {h : Heap} {mg : Str -> Option Value} (X : (Mine.K w.params).In h) (G : h.Ns mainGlobals mg) : mg = mgOf w.params := by
 obtain ⟨o, es, ep, ho, hd, _, hf⟩ := G
 have e3 : (Mine.K w.params).lookup mainGlobals = some (k3 w.params) := by kernel_rfl
 have := X _ _ e3
 rw [this] at ho
 obtain rfl := Option.some.inj ho
 funext x
 rw [<- hf x]
 unfold mgOf gEs
 rw [hd]
theorem law_addr {P : Params} : mgOf P "law" = some (.ref 337) := by kernel_rfl
theorem args_are {args : List WData} (h : row.toRowW.claim.pre args = true) : ∃ l : List Int, args = [.list (l.map .int)] /\ l.length <= 63 := by
 obtain ⟨h1, h2⟩ := Bool.and_eq_true_iff.mp h
 match args, h1 with
 | [d], h1 =>
  obtain ⟨xs, rfl, hx⟩ := hasW_list (Bool.and_eq_true_iff.mp h1).1
  obtain ⟨l, rfl⟩ := items_int hx
  refine ⟨l, rfl, Nat.le_of_not_lt fun hl => ?_⟩
  have key : ∀ b : Bool, WTm.holds [] (.and (.not (.lit (.bool b))) (.lit (.bool true))) { args := [.list []] } = true -> b = false := fun b => by
   cases b with
   | false => exact fun _ => rfl
   | true => exact fun h => nomatch h
  have h3 := key (decide ((63 : Int) < (((l.map WData.int).length : Nat) : Int))) h2
  rw [List.length_map] at h3
  exact absurd (Int.ofNat_lt.mpr hl) (of_decide_eq_false h3)
 | [], h1 => cases h1
 | _ :: _ :: _, h1 => exact absurd (Bool.and_eq_true_iff.mp h1).2 nofun
theorem reads_ints {cl : Str -> Option Addr} {h : Heap} {l : List Int} : ∀ {vs : List Value} {as : List Addr}, ReadsAllW [] cl h vs (l.map .int) as -> Reps (vis h []) [] vs (l.map .int) := by
 induction l with
 | nil => exact fun r => (readsAllW_nil_inv r).1 ▸ .nil
 | cons i l ih =>
  intro vs as r
  obtain ⟨v, vs, _, _, rfl, _, a, b⟩ := readsAllW_cons_inv r
  obtain ⟨_, rfl, _⟩ := readsW_int_inv a
  exact .cons _ _ _ _ (.int _ _) (ih b)
theorem reads_list {cl : Str -> Option Addr} {h : Heap} {vs : List Value} {l : List Int} {as : List Addr} (r : ReadsAllW [] cl h vs [.list (l.map .int)] as) : Reps (vis h []) [] vs [.list (l.map .int)] := by
 obtain ⟨v, vs, _, _, rfl, _, a, b⟩ := readsAllW_cons_inv r
 obtain ⟨_, ws, _, rfl, ⟨o, ho, hc, n, hd⟩, hr, _⟩ := readsW_list_inv a
 exact (readsAllW_nil_inv b).1 ▸ .cons _ _ _ _ (.list _ ws _ ⟨o, vis_of ho List.not_mem_nil, hc, n, hd⟩ (reads_ints hr)) .nil
theorem dat_is {w : World} {s₀ : Shared} {mg mb : Str -> Option Value} {h : Heap} (G : Ground q loose row.records (fun _ _ => True) w s₀ mg mb h) (X : (Mine.K w.params).In h) : Dat TT noC 0 w h mb where
 kin := X
 g := mg_is X G.T.g ▸ G.T.g
 b := G.T.b
 boot := G.T.builtins
 lim := G.T.nolimit
 tabs := tabs_ok X
 cs := fun _ _ _ _ h => h.elim
theorem post_ok {args : List WData} : row.toRowW.claim.post args (.bool true) args = true := by
 kernel_rfl
theorem call_law : WalkO q loose (fun _ _ => True) hook.says row.toRowW dk.1 dk.2 fun f vs => PySem.call f vs := by
 intro w s₀ s₁ mg mb G Y a o pm cd doc dV kV ho hd hc hdf hma hgens args vals as hpre hlay hrd hwell hlow
 have X : (Mine.K w.params).In s₁.heap := kIn_of Y
 have hmg := mg_is X G.T.g
 have hn : dk.1.name = "law" := by kernel_rfl
 have ha : a = 337 := by
  rw [hn, hmg, law_addr] at hma
  exact (Value.ref.inj (Option.some.inj hma)).symm
 subst ha
 obtain ⟨l, rfl, hl⟩ := args_are hpre
 have rv : Reps (vis s₁.heap []) [] vals [.list (l.map .int)] := reads_list hrd
 have d := cc_dat (dat_is G X) 8
 have hs := sizeLine_eq
 obtain ⟨_, go⟩ := snd_law (k := 8) d (law_fc l (by lia))
 have ok : AOk (8 + 3 + 1) callerA := ⟨rfl, by decide +kernel, by decide +kernel⟩
 have m : MuAt s₁.heap [] [] [] s₁.heap := ⟨fun _ _ e => e, by simp, by simp, by simp, List.nodup_nil, rfl, by simp⟩
 have := go callerA [] [] [] s₁ vals ok m rv
 refine this _ _ fun v d h' tk hd' kp rv' => ?_
 subst hd'
 cases rv'
 refine ⟨.inl ⟨.bool true, .bool true, [], rfl, fun _ => rfl, .bool true, post_ok, fun _ => ⟨List.nodup_nil, by simp⟩⟩, .of_keep kp, rfl, ?_⟩
 exact .of_eq hgens
theorem wit : row.toRowW.promised := ⟨[.list []], by decide +kernel, by decide +kernel⟩
end
end Mine
theorem PySem.Challenge.cw_wf0114_01_holds : PySem.Challenge.rw_wf0114_01.Holds :=
 Mine.head Mine.wit Mine.call_law
