import PyProof.Rows.All
import Wide.All
import Open.Tops
import OpenK.AllK
import Wide.FinOn
import PyProof.ExcBaseAll.ValueError
import Lean
import PySem.Challenge.RW_in0058_01
set_option Elab.async false
set_option maxRecDepth 100000
set_option maxHeartbeats 4000000
set_option linter.unusedVariables false
open PySem PySem.W PyProof.Rows
namespace Mine
section
set_option maxHeartbeats 0
noncomputable abbrev so:String→Str:=Str.ofString
noncomputable abbrev de (P:Params) (k:String) (t:Nat) (v:Value):DictEntry:=⟨PyData.keyHash P (Str.ofString k),.str (Str.ofString k) t,v⟩
noncomputable abbrev pw:Program:=PySem.Challenge.pw_in0058_01
noncomputable abbrev q0:Pos:=⟨0,0,0,0⟩
noncomputable def stParts:Stmt→Arguments×List Stmt×List Stmt×Scope
 | .FunctionDef _ a b _ _ _ sc _ _ _=>(a,b,[],sc)
 | .While _ b _ _=>(⟨[],[],none,[],[],none,[]⟩,b,[],{ kind:=.function,names:=[],isGenerator:=false,isCoroutine:=false })
 | .If _ b e _=>(⟨[],[],none,[],[],none,[]⟩,b,e,{ kind:=.function,names:=[],isGenerator:=false,isCoroutine:=false })
 | _=>(⟨[],[],none,[],[],none,[]⟩,[],[],{ kind:=.function,names:=[],isGenerator:=false,isCoroutine:=false })
noncomputable def stAt (l:List Stmt) (i:Nat):Stmt:=l.getD i (.Pass q0)
noncomputable def stB (s:Stmt):List Stmt:=(stParts s).2.1
noncomputable def stE (s:Stmt):List Stmt:=(stParts s).2.2.1
noncomputable def fnP (i:Nat):Arguments:=(stParts (stAt pw.main.body i)).1
noncomputable def fnB (i:Nat):List Stmt:=stB (stAt pw.main.body i)
noncomputable def fnS (i:Nat):Scope:=(stParts (stAt pw.main.body i)).2.2.2
noncomputable def bodyT:List Stmt:=pw.main.body.drop 1
noncomputable def envT:Env:={ scope:=pw.main.scope,locals:=mainNs,globals:=mainNs,cells:=[],code:=.ref 30,frame:=some 31 }
noncomputable def cdT:Code:=.body bodyT envT
noncomputable def stsT (a n:Nat):List Stmt:=(bodyT.drop a).take n
noncomputable def SS (t:Params→BT) (n k:Nat) (w:World) (os:OsState):SharedT:=⟨t w.params,n,{},#[],{},k,os⟩
noncomputable def ob0_0 (P:Params):Obj:=⟨(.type "dict"),none,(.dict #[de P "__name__" 1 (.str (so "builtins") 160),de P "__doc__" 2 (.builtin "builtins.__doc__:str#opaque"),de P "__package__" 3 (.builtin "builtins.__package__:str#opaque"),de P "__loader__" 4 (.builtin "builtins.__loader__:shared#opaque"),de P "__spec__" 5 (.builtin "builtins.__spec__#opaque"),de P "__build_class__" 6 (.builtin "__build_class__"),de P "__import__" 7 (.builtin "__import__"),de P "abs" 8 (.builtin "abs"),de P "all" 9 (.builtin "all"),de P "any" 10 (.builtin "any"),de P "ascii" 11 (.builtin "ascii"),de P "bin" 12 (.builtin "bin"),de P "breakpoint" 13 (.builtin "breakpoint"),de P "callable" 14 (.builtin "callable"),de P "chr" 15 (.builtin "chr"),de P "compile" 16 (.builtin "compile"),de P "delattr" 17 (.builtin "delattr"),de P "dir" 18 (.builtin "dir"),de P "divmod" 19 (.builtin "divmod"),de P "eval" 20 (.builtin "eval"),de P "exec" 21 (.builtin "exec"),de P "format" 22 (.builtin "format"),de P "getattr" 23 (.builtin "getattr"),de P "globals" 24 (.builtin "globals"),de P "hasattr" 25 (.builtin "hasattr"),de P "hash" 26 (.builtin "hash"),de P "hex" 27 (.builtin "hex"),de P "id" 28 (.builtin "id"),de P "input" 29 (.builtin "input"),de P "isinstance" 30 (.builtin "isinstance"),de P "issubclass" 31 (.builtin "issubclass"),de P "iter" 32 (.builtin "iter"),de P "aiter" 33 (.builtin "aiter"),de P "len" 34 (.builtin "len"),de P "locals" 35 (.builtin "locals"),de P "max" 36 (.builtin "max"),de P "min" 37 (.builtin "min"),de P "next" 38 (.builtin "next"),de P "anext" 39 (.builtin "anext"),de P "oct" 40 (.builtin "oct"),de P "ord" 41 (.builtin "ord"),de P "pow" 42 (.builtin "pow"),de P "print" 43 (.builtin "print"),de P "repr" 44 (.builtin "repr"),de P "round" 45 (.builtin "round"),de P "setattr" 46 (.builtin "setattr"),de P "sorted" 47 (.builtin "sorted"),de P "sum" 48 (.builtin "sum"),de P "vars" 49 (.builtin "vars"),de P "None" 50 .none,de P "Ellipsis" 51 .ellipsis,de P "NotImplemented" 52 .notImplemented,de P "False" 53 (.bool false),de P "True" 54 (.bool true),de P "bool" 55 (.type "bool"),de P "memoryview" 56 (.type "memoryview"),de P "bytearray" 57 (.type "bytearray"),de P "bytes" 58 (.type "bytes"),de P "classmethod" 59 (.type "classmethod"),de P "complex" 60 (.type "complex"),de P "dict" 61 (.type "dict"),de P "enumerate" 62 (.type "enumerate"),de P "filter" 63 (.type "filter"),de P "float" 64 (.type "float"),de P "frozenset" 65 (.type "frozenset"),de P "property" 66 (.type "property"),de P "int" 67 (.type "int"),de P "list" 68 (.type "list"),de P "map" 69 (.type "map"),de P "object" 70 (.type "object"),de P "range" 71 (.type "range"),de P "reversed" 72 (.type "reversed"),de P "set" 73 (.type "set"),de P "slice" 74 (.type "slice"),de P "staticmethod" 75 (.type "staticmethod"),de P "str" 76 (.type "str"),de P "super" 77 (.type "super"),de P "tuple" 78 (.type "tuple"),de P "type" 79 (.type "type"),de P "zip" 80 (.type "zip"),de P "__debug__" 81 (.bool true),de P "BaseException" 82 (.type "BaseException"),de P "BaseExceptionGroup" 83 (.type "BaseExceptionGroup"),de P "Exception" 84 (.type "Exception"),de P "GeneratorExit" 85 (.type "GeneratorExit"),de P "KeyboardInterrupt" 86 (.type "KeyboardInterrupt"),de P "SystemExit" 87 (.type "SystemExit"),de P "ArithmeticError" 88 (.type "ArithmeticError"),de P "AssertionError" 89 (.type "AssertionError"),de P "AttributeError" 90 (.type "AttributeError"),de P "BufferError" 91 (.type "BufferError"),de P "EOFError" 92 (.type "EOFError"),de P "ImportError" 93 (.type "ImportError"),de P "LookupError" 94 (.type "LookupError"),de P "MemoryError" 95 (.type "MemoryError"),de P "NameError" 96 (.type "NameError"),de P "OSError" 97 (.type "OSError"),de P "ReferenceError" 98 (.type "ReferenceError"),de P "RuntimeError" 99 (.type "RuntimeError"),de P "StopAsyncIteration" 100 (.type "StopAsyncIteration"),de P "StopIteration" 101 (.type "StopIteration"),de P "SyntaxError" 102 (.type "SyntaxError"),de P "SystemError" 103 (.type "SystemError"),de P "TypeError" 104 (.type "TypeError"),de P "ValueError" 105 (.type "ValueError"),de P "Warning" 106 (.type "Warning"),de P "FloatingPointError" 107 (.type "FloatingPointError"),de P "OverflowError" 108 (.type "OverflowError"),de P "ZeroDivisionError" 109 (.type "ZeroDivisionError"),de P "BytesWarning" 110 (.type "BytesWarning"),de P "DeprecationWarning" 111 (.type "DeprecationWarning"),de P "EncodingWarning" 112 (.type "EncodingWarning"),de P "FutureWarning" 113 (.type "FutureWarning"),de P "ImportWarning" 114 (.type "ImportWarning"),de P "PendingDeprecationWarning" 115 (.type "PendingDeprecationWarning"),de P "ResourceWarning" 116 (.type "ResourceWarning"),de P "RuntimeWarning" 117 (.type "RuntimeWarning"),de P "SyntaxWarning" 118 (.type "SyntaxWarning"),de P "UnicodeWarning" 119 (.type "UnicodeWarning"),de P "UserWarning" 120 (.type "UserWarning"),de P "BlockingIOError" 121 (.type "BlockingIOError"),de P "ChildProcessError" 122 (.type "ChildProcessError"),de P "ConnectionError" 123 (.type "ConnectionError"),de P "FileExistsError" 124 (.type "FileExistsError"),de P "FileNotFoundError" 125 (.type "FileNotFoundError"),de P "InterruptedError" 126 (.type "InterruptedError"),de P "IsADirectoryError" 127 (.type "IsADirectoryError"),de P "NotADirectoryError" 128 (.type "NotADirectoryError"),de P "PermissionError" 129 (.type "PermissionError"),de P "ProcessLookupError" 130 (.type "ProcessLookupError"),de P "TimeoutError" 131 (.type "TimeoutError"),de P "IndentationError" 132 (.type "IndentationError"),de P "_IncompleteInputError" 133 (.type "_IncompleteInputError"),de P "IndexError" 134 (.type "IndexError"),de P "KeyError" 135 (.type "KeyError"),de P "ModuleNotFoundError" 136 (.type "ModuleNotFoundError"),de P "NotImplementedError" 137 (.type "NotImplementedError"),de P "PythonFinalizationError" 138 (.type "PythonFinalizationError"),de P "RecursionError" 139 (.type "RecursionError"),de P "UnboundLocalError" 140 (.type "UnboundLocalError"),de P "UnicodeError" 141 (.type "UnicodeError"),de P "BrokenPipeError" 142 (.type "BrokenPipeError"),de P "ConnectionAbortedError" 143 (.type "ConnectionAbortedError"),de P "ConnectionRefusedError" 144 (.type "ConnectionRefusedError"),de P "ConnectionResetError" 145 (.type "ConnectionResetError"),de P "TabError" 146 (.type "TabError"),de P "UnicodeDecodeError" 147 (.type "UnicodeDecodeError"),de P "UnicodeEncodeError" 148 (.type "UnicodeEncodeError"),de P "UnicodeTranslateError" 149 (.type "UnicodeTranslateError"),de P "ExceptionGroup" 150 (.type "ExceptionGroup"),de P "EnvironmentError" 151 (.type "OSError"),de P "IOError" 152 (.type "OSError"),de P "open" 153 (.builtin "open"),de P "quit" 154 (.builtin "builtins.quit#opaque"),de P "exit" 155 (.builtin "builtins.exit#opaque"),de P "copyright" 156 (.builtin "builtins.copyright#opaque"),de P "credits" 157 (.builtin "builtins.credits#opaque"),de P "license" 158 (.builtin "builtins.license#opaque"),de P "help" 159 (.builtin "builtins.help#opaque")] 159),#[]⟩
noncomputable def ob0_1 (P:Params):Obj:=⟨(.type "dict"),none,(.dict #[de P "builtins" 162 (.ref 4),de P "__main__" 163 (.ref 5),de P "_sre" 244 (.ref 12)] 3),#[]⟩
noncomputable def ob0_2 (P:Params):Obj:=⟨.none,none,(.dict #[de P "\x69mport.loaded._sre" 183 (.bool true),de P "class._frozen_importlib.BuiltinImporter" 185 (.ref 14),de P "watched.\x69mport" 206 (.ref 18),de P "class._frozen_importlib.ModuleSpec" 216 (.ref 22),de P "sys.modules.booked-epoch" 245 (.int 3 0),de P "\x69mport.later-laid._sre" 270 (.bool true),de P "watched.library" 272 (.ref 27),de P "watched.library-objects" 0 (.str (Str.mk #[12]) 0),de P "watched.library-deep._sre" 273 (.str (Str.mk #[4,0,0,11,4,0,0,11,4,0,0,3,4,0,0,11,8,4,100,105,99,116,2]) 0)] 9),#[]⟩
noncomputable def ob0_3 (P:Params):Obj:=⟨(.type "dict"),none,(.dict #[de P "__name__" 165 (.str (so "__main__") 164),de P "__doc__" 166 .none,de P "__package__" 167 .none,de P "__loader__" 168 (.builtin "__main__.__loader__#opaque"),de P "__spec__" 169 .none,de P "__annotations__" 170 (.ref 6),de P "__builtins__" 171 (.ref 4),de P "__file__" 173 (.str (so "/claim/cut.py") 172),de P "__cached__" 174 .none,de P "_sre" 275 (.ref 12)] 10),#[]⟩
noncomputable def ob0_4 (P:Params):Obj:=⟨(.type "module"),(some 0),.plain,#[]⟩
noncomputable def ob0_5 (P:Params):Obj:=⟨(.type "module"),(some 3),.plain,#[]⟩
noncomputable def ob0_6 (P:Params):Obj:=⟨(.type "dict"),none,(.dict #[] 0),#[]⟩
noncomputable def ob0_7 (P:Params):Obj:=⟨(.type "tuple"),none,(.seq #[] 0),#[]⟩
noncomputable def ob0_8 (P:Params):Obj:=⟨.none,none,(.fields #[]),#[]⟩
noncomputable def ob0_9 (P:Params):Obj:=⟨(.type "code"),none,(.fields #[(.str (so "<module>") 176),(.str (so "<module>") 177),(.str (so "/claim/cut.py") 178),(.int 1 0),(.int 0 0),(.int 0 0),(.int 0 0),(.int 0 0),(.ref 7),(.bool false),(.int 175 0),(.ref 8),.none,.none,.none,.none,(.int 179 0),(.int 1 0),(.str (so "/claim/cut.py") 180)]),#[]⟩
noncomputable def ob0_10 (P:Params):Obj:=⟨(.type "frame"),none,.plain,#[(some (.ref 9)),(some (.ref 3)),(some (.ref 3)),none,(some (.str (so "__main__") 164)),none,(some (.ref 0))]⟩
noncomputable def ob0_11 (P:Params):Obj:=⟨(.type "dict"),none,(.dict #[de P "__name__" 247 (.str (so "_sre") 246),de P "__doc__" 248 .none,de P "__package__" 250 (.str (so "") 249),de P "__loader__" 251 (.builtin "off-the-table:_sre.__loader__:shared#opaque"),de P "__spec__" 252 (.builtin "off-the-table:_sre.__spec__:shared#opaque"),de P "compile" 253 (.builtin "_sre.compile"),de P "template" 254 (.builtin "off-the-table:_sre.template:shared#opaque"),de P "getcodesize" 255 (.builtin "off-the-table:_sre.getcodesize:shared#opaque"),de P "ascii_iscased" 256 (.builtin "off-the-table:_sre.ascii_iscased:shared#opaque"),de P "unicode_iscased" 257 (.builtin "off-the-table:_sre.unicode_iscased:shared#opaque"),de P "ascii_tolower" 258 (.builtin "off-the-table:_sre.ascii_tolower:shared#opaque"),de P "unicode_tolower" 259 (.builtin "off-the-table:_sre.unicode_tolower:shared#opaque"),de P "MAGIC" 261 (.int 20230612 260),de P "CODESIZE" 263 (.int 4 262),de P "MAXREPEAT" 265 (.int 4294967295 264),de P "MAXGROUPS" 267 (.int 1073741823 266),de P "copyright" 269 (.str (so " SRE 2.2.2 Copyright (c) 1997-2002 by Secret Labs AB ") 268)] 17),#[]⟩
noncomputable def ob0_12 (P:Params):Obj:=⟨(.type "module"),(some 11),.plain,#[]⟩
noncomputable def ob0_13 (P:Params):Obj:=⟨(.type "dict"),none,(.dict #[de P "__module__" 189 (.str (so "_frozen_importlib") 186),de P "__firstlineno__" 190 (.int 971 187),de P "__doc__" 191 (.builtin "_frozen_importlib.BuiltinImporter.__doc__:str#opaque"),de P "_ORIGIN" 192 (.str (so "built-in") 188),de P "find_spec" 193 (.builtin "_frozen_importlib.BuiltinImporter.find_spec#opaque"),de P "create_module" 194 (.builtin "_frozen_importlib.BuiltinImporter.create_module#opaque"),de P "exec_module" 195 (.builtin "_frozen_importlib.BuiltinImporter.exec_module#opaque"),de P "get_code" 196 (.builtin "_frozen_importlib.BuiltinImporter.get_code#opaque"),de P "get_source" 197 (.builtin "_frozen_importlib.BuiltinImporter.get_source#opaque"),de P "is_package" 198 (.builtin "_frozen_importlib.BuiltinImporter.is_package#opaque"),de P "load_module" 199 (.builtin "_frozen_importlib.BuiltinImporter.load_module#opaque"),de P "__static_attributes__" 200 (.ref 15),de P "__dict__" 202 (.ref 16),de P "__weakref__" 204 (.ref 17)] 14),#[]⟩
noncomputable def ob0_14 (P:Params):Obj:=⟨(.type "type"),none,(.cls { name:=(so "BuiltinImporter"),bases:=[(.type "object")],mro:=[(.ref 14),(.type "object")],ns:=13,qualname:=(so "BuiltinImporter"),hasDict:=true,slotNames:=[],subclasses:=[],abstract:=false,collection:=none,hasDel:=false }),#[]⟩
noncomputable def ob0_15 (P:Params):Obj:=⟨(.type "tuple"),none,(.seq #[] 0),#[]⟩
noncomputable def ob0_16 (P:Params):Obj:=⟨(.type "getset_descriptor"),none,(.fields #[(.str (so "__dict__") 201),(.ref 14),(.builtin "function.__dict__"),(.builtin "function.__dict__#set")]),#[]⟩
noncomputable def ob0_17 (P:Params):Obj:=⟨(.type "getset_descriptor"),none,(.fields #[(.str (so "__weakref__") 203),(.ref 14),(.builtin "ExceptionGroup.__weakref__"),.none]),#[]⟩
noncomputable def ob0_18 (P:Params):Obj:=⟨.none,none,(.seq #[(.int 13 0),(.str (Str.mk #[6,189,10,95,95,109,111,100,117,108,101,95,95,6,186,17,95,102,114,111,122,101,110,95,105,109,112,111,114,116,108,105,98,6,190,15,95,95,102,105,114,115,116,108,105,110,101,110,111,95,95,4,187,0,971,6,191,7,95,95,100,111,99,95,95,9,52,95,102,114,111,122,101,110,95,105,109,112,111,114,116,108,105,98,46,66,117,105,108,116,105,110,73,109,112,111,114,116,101,114,46,95,95,100,111,99,95,95,58,115,116,114,35,111,112,97,113,117,101,6,192,7,95,79,82,73,71,73,78,6,188,8,98,117,105,108,116,45,105,110,6,193,9,102,105,110,100,95,115,112,101,99,9,50,95,102,114,111,122,101,110,95,105,109,112,111,114,116,108,105,98,46,66,117,105,108,116,105,110,73,109,112,111,114,116,101,114,46,102,105,110,100,95,115,112,101,99,35,111,112,97,113,117,101,6,194,13,99,114,101,97,116,101,95,109,111,100,117,108,101,9,54,95,102,114,111,122,101,110,95,105,109,112,111,114,116,108,105,98,46,66,117,105,108,116,105,110,73,109,112,111,114,116,101,114,46,99,114,101,97,116,101,95,109,111,100,117,108,101,35,111,112,97,113,117,101,6,195,11,101,120,101,99,95,109,111,100,117,108,101,9,52,95,102,114,111,122,101,110,95,105,109,112,111,114,116,108,105,98,46,66,117,105,108,116,105,110,73,109,112,111,114,116,101,114,46,101,120,101,99,95,109,111,100,117,108,101,35,111,112,97,113,117,101,6,196,8,103,101,116,95,99,111,100,101,9,49,95,102,114,111,122,101,110,95,105,109,112,111,114,116,108,105,98,46,66,117,105,108,116,105,110,73,109,112,111,114,116,101,114,46,103,101,116,95,99,111,100,101,35,111,112,97,113,117,101,6,197,10,103,101,116,95,115,111,117,114,99,101,9,51,95,102,114,111,122,101,110,95,105,109,112,111,114,116,108,105,98,46,66,117,105,108,116,105,110,73,109,112,111,114,116,101,114,46,103,101,116,95,115,111,117,114,99,101,35,111,112,97,113,117,101,6,198,10,105,115,95,112,97,99,107,97,103,101,9,51,95,102,114,111,122,101,110,95,105,109,112,111,114,116,108,105,98,46,66,117,105,108,116,105,110,73,109,112,111,114,116,101,114,46,105,115,95,112,97,99,107,97,103,101,35,111,112,97,113,117,101,6,199,11,108,111,97,100,95,109,111,100,117,108,101,9,52,95,102,114,111,122,101,110,95,105,109,112,111,114,116,108,105,98,46,66,117,105,108,116,105,110,73,109,112,111,114,116,101,114,46,108,111,97,100,95,109,111,100,117,108,101,35,111,112,97,113,117,101,6,200,21,95,95,115,116,97,116,105,99,95,97,116,116,114,105,98,117,116,101,115,95,95,4,0,0,15,6,202,8,95,95,100,105,99,116,95,95,4,0,0,16,6,204,11,95,95,119,101,97,107,114,101,102,95,95,4,0,0,17]) 0),(.bool true),(.bool true),(.str (so "") 205),(.int 21 0),(.str (Str.mk #[6,227,10,95,95,109,111,100,117,108,101,95,95,6,217,17,95,102,114,111,122,101,110,95,105,109,112,111,114,116,108,105,98,6,228,15,95,95,102,105,114,115,116,108,105,110,101,110,111,95,95,4,218,0,562,6,229,7,95,95,100,111,99,95,95,9,47,95,102,114,111,122,101,110,95,105,109,112,111,114,116,108,105,98,46,77,111,100,117,108,101,83,112,101,99,46,95,95,100,111,99,95,95,58,115,116,114,35,111,112,97,113,117,101,6,230,8,95,95,105,110,105,116,95,95,9,44,95,102,114,111,122,101,110,95,105,109,112,111,114,116,108,105,98,46,77,111,100,117,108,101,83,112,101,99,46,95,95,105,110,105,116,95,95,35,111,112,97,113,117,101,6,231,8,95,95,114,101,112,114,95,95,9,44,95,102,114,111,122,101,110,95,105,109,112,111,114,116,108,105,98,46,77,111,100,117,108,101,83,112,101,99,46,95,95,114,101,112,114,95,95,35,111,112,97,113,117,101,6,232,6,95,95,101,113,95,95,9,42,95,102,114,111,122,101,110,95,105,109,112,111,114,116,108,105,98,46,77,111,100,117,108,101,83,112,101,99,46,95,95,101,113,95,95,35,111,112,97,113,117,101,6,233,6,99,97,99,104,101,100,9,42,95,102,114,111,122,101,110,95,105,109,112,111,114,116,108,105,98,46,77,111,100,117,108,101,83,112,101,99,46,99,97,99,104,101,100,35,111,112,97,113,117,101,6,234,6,112,97,114,101,110,116,9,42,95,102,114,111,122,101,110,95,105,109,112,111,114,116,108,105,98,46,77,111,100,117,108,101,83,112,101,99,46,112,97,114,101,110,116,35,111,112,97,113,117,101,6,235,12,104,97,115,95,108,111,99,97,116,105,111,110,9,48,95,102,114,111,122,101,110,95,105,109,112,111,114,116,108,105,98,46,77,111,100,117,108,101,83,112,101,99,46,104,97,115,95,108,111,99,97,116,105,111,110,35,111,112,97,113,117,101,6,236,21,95,95,115,116,97,116,105,99,95,97,116,116,114,105,98,117,116,101,115,95,95,4,0,0,23,6,238,8,95,95,100,105,99,116,95,95,4,0,0,24,6,240,11,95,95,119,101,97,107,114,101,102,95,95,4,0,0,25,6,241,8,95,95,104,97,115,104,95,95,0]) 0),(.bool true),(.bool true),(.str (so "") 242)] 1),#[]⟩
noncomputable def ob0_19 (P:Params):Obj:=⟨(.type "list"),none,(.seq #[] 0),#[]⟩
noncomputable def ob0_20 (P:Params):Obj:=⟨(.type "dict"),none,(.dict #[de P "name" 208 (.str (so "_sre") 207),de P "loader" 209 (.ref 14),de P "origin" 210 (.str (so "built-in") 184),de P "loader_state" 211 .none,de P "submodule_search_locations" 212 .none,de P "_uninitialized_submodules" 213 (.ref 19),de P "_set_fileattr" 214 (.bool false),de P "_cached" 215 .none,de P "_initializing" 243 (.bool false)] 9),#[]⟩
noncomputable def ob0_21 (P:Params):Obj:=⟨(.type "dict"),none,(.dict #[de P "__module__" 227 (.str (so "_frozen_importlib") 217),de P "__firstlineno__" 228 (.int 562 218),de P "__doc__" 229 (.builtin "_frozen_importlib.ModuleSpec.__doc__:str#opaque"),de P "__init__" 230 (.builtin "_frozen_importlib.ModuleSpec.__init__#opaque"),de P "__repr__" 231 (.builtin "_frozen_importlib.ModuleSpec.__repr__#opaque"),de P "__eq__" 232 (.builtin "_frozen_importlib.ModuleSpec.__eq__#opaque"),de P "cached" 233 (.builtin "_frozen_importlib.ModuleSpec.cached#opaque"),de P "parent" 234 (.builtin "_frozen_importlib.ModuleSpec.parent#opaque"),de P "has_location" 235 (.builtin "_frozen_importlib.ModuleSpec.has_location#opaque"),de P "__static_attributes__" 236 (.ref 23),de P "__dict__" 238 (.ref 24),de P "__weakref__" 240 (.ref 25),de P "__hash__" 241 .none] 13),#[]⟩
noncomputable def ob0_22 (P:Params):Obj:=⟨(.type "type"),none,(.cls { name:=(so "ModuleSpec"),bases:=[(.type "object")],mro:=[(.ref 22),(.type "object")],ns:=21,qualname:=(so "ModuleSpec"),hasDict:=true,slotNames:=[],subclasses:=[],abstract:=false,collection:=none,hasDel:=false }),#[]⟩
noncomputable def ob0_23 (P:Params):Obj:=⟨(.type "tuple"),none,(.seq #[(.str (so "_cached") 219),(.str (so "_set_fileattr") 220),(.str (so "_uninitialized_submodules") 221),(.str (so "loader") 222),(.str (so "loader_state") 223),(.str (so "name") 224),(.str (so "origin") 225),(.str (so "submodule_search_locations") 226)] 0),#[]⟩
noncomputable def ob0_24 (P:Params):Obj:=⟨(.type "getset_descriptor"),none,(.fields #[(.str (so "__dict__") 237),(.ref 22),(.builtin "function.__dict__"),(.builtin "function.__dict__#set")]),#[]⟩
noncomputable def ob0_25 (P:Params):Obj:=⟨(.type "getset_descriptor"),none,(.fields #[(.str (so "__weakref__") 239),(.ref 22),(.builtin "ExceptionGroup.__weakref__"),.none]),#[]⟩
noncomputable def ob0_26 (P:Params):Obj:=⟨(.ref 22),(some 20),.plain,#[]⟩
noncomputable def ob0_27 (P:Params):Obj:=⟨.none,none,(.seq #[(.int 11 0),(.str (Str.mk #[6,247,8,95,95,110,97,109,101,95,95,6,246,4,95,115,114,101,6,248,7,95,95,100,111,99,95,95,0,6,250,11,95,95,112,97,99,107,97,103,101,95,95,6,249,0,6,251,10,95,95,108,111,97,100,101,114,95,95,4,0,0,14,6,252,8,95,95,115,112,101,99,95,95,4,0,0,26,6,253,7,99,111,109,112,105,108,101,9,12,95,115,114,101,46,99,111,109,112,105,108,101,6,254,8,116,101,109,112,108,97,116,101,9,13,95,115,114,101,46,116,101,109,112,108,97,116,101,6,255,11,103,101,116,99,111,100,101,115,105,122,101,9,16,95,115,114,101,46,103,101,116,99,111,100,101,115,105,122,101,6,256,13,97,115,99,105,105,95,105,115,99,97,115,101,100,9,18,95,115,114,101,46,97,115,99,105,105,95,105,115,99,97,115,101,100,6,257,15,117,110,105,99,111,100,101,95,105,115,99,97,115,101,100,9,20,95,115,114,101,46,117,110,105,99,111,100,101,95,105,115,99,97,115,101,100,6,258,13,97,115,99,105,105,95,116,111,108,111,119,101,114,9,18,95,115,114,101,46,97,115,99,105,105,95,116,111,108,111,119,101,114,6,259,15,117,110,105,99,111,100,101,95,116,111,108,111,119,101,114,9,20,95,115,114,101,46,117,110,105,99,111,100,101,95,116,111,108,111,119,101,114,6,261,5,77,65,71,73,67,4,260,0,20230612,6,263,8,67,79,68,69,83,73,90,69,4,262,0,4,6,265,9,77,65,88,82,69,80,69,65,84,4,264,0,4294967295,6,267,9,77,65,88,71,82,79,85,80,83,4,266,0,1073741823,6,269,9,99,111,112,121,114,105,103,104,116,6,268,53,32,83,82,69,32,50,46,50,46,50,32,67,111,112,121,114,105,103,104,116,32,40,99,41,32,49,57,57,55,45,50,48,48,50,32,98,121,32,83,101,99,114,101,116,32,76,97,98,115,32,65,66,32]) 0),(.bool true),(.bool false),(.str (so "_sre") 271)] 0),#[]⟩
noncomputable def tr0 (P:Params):BT:=((((((((((((((((((((((((((((BT.nil.ins 0 (ob0_0 P)).ins 1 (ob0_1 P)).ins 2 (ob0_2 P)).ins 3 (ob0_3 P)).ins 4 (ob0_4 P)).ins 5 (ob0_5 P)).ins 6 (ob0_6 P)).ins 7 (ob0_7 P)).ins 8 (ob0_8 P)).ins 9 (ob0_9 P)).ins 10 (ob0_10 P)).ins 11 (ob0_11 P)).ins 12 (ob0_12 P)).ins 13 (ob0_13 P)).ins 14 (ob0_14 P)).ins 15 (ob0_15 P)).ins 16 (ob0_16 P)).ins 17 (ob0_17 P)).ins 18 (ob0_18 P)).ins 19 (ob0_19 P)).ins 20 (ob0_20 P)).ins 21 (ob0_21 P)).ins 22 (ob0_22 P)).ins 23 (ob0_23 P)).ins 24 (ob0_24 P)).ins 25 (ob0_25 P)).ins 26 (ob0_26 P)).ins 27 (ob0_27 P))
noncomputable def oba_28 (P:Params):Obj:=⟨(.type "tuple"),none,(.seq #[] 0),#[]⟩
noncomputable def oba_29 (P:Params):Obj:=⟨.none,none,(.fields #[]),#[]⟩
noncomputable def oba_30 (P:Params):Obj:=⟨(.type "code"),none,(.fields #[(.str (so "<module>") 277),(.str (so "<module>") 278),(.str (so "/claim/cut.py") 279),(.int 1 0),(.int 0 0),(.int 0 0),(.int 0 0),(.int 0 0),(.ref 28),(.bool false),(.int 276 0),(.ref 29),.none,.none,.none,.none,(.int 280 0),(.int 1 0),(.str (so "/claim/cut.py") 281)]),#[]⟩
noncomputable def oba_31 (P:Params):Obj:=⟨(.type "frame"),none,.plain,#[(some (.ref 30)),(some (.ref 3)),(some (.ref 3)),none,(some (.str (so "__main__") 164)),none,(some (.ref 0))]⟩
noncomputable def tra (P:Params):BT:=(((((tr0 P).ins 28 (oba_28 P)).ins 29 (oba_29 P)).ins 30 (oba_30 P)).ins 31 (oba_31 P))
noncomputable def trb (P:Params):BT:=(tra P)
noncomputable def ob2_3 (P:Params):Obj:=⟨(.type "dict"),none,(.dict #[de P "__name__" 165 (.str (so "re") 320),de P "__doc__" 166 .none,de P "__package__" 167 .none,de P "__loader__" 168 (.builtin "__main__.__loader__#opaque"),de P "__spec__" 169 .none,de P "__annotations__" 170 (.ref 6),de P "__builtins__" 171 (.ref 4),de P "__file__" 173 (.str (so "/claim/cut.py") 172),de P "__cached__" 174 .none,de P "_sre" 275 (.ref 12),de P "_twin_re_1" 319 (.ref 36)] 11),#[]⟩
noncomputable def ob2_32 (P:Params):Obj:=⟨(.type "list"),none,(.seq #[(.int 14 285),(.int 14 286),(.int 4 287),(.int 1 288),(.int 1 289),(.int 9 290),(.int 0 291),(.int 64 292),(.int 0 293),(.int 1342177280 294),(.int 0 295),(.int 0 296),(.int 0 297),(.int 0 298),(.int 0 299),(.int 17 300),(.int 0 301),(.int 13 302),(.int 11 303),(.int 9 304),(.int 0 305),(.int 64 306),(.int 0 307),(.int 1342177280 308),(.int 0 309),(.int 0 310),(.int 0 311),(.int 0 312),(.int 0 313),(.int 17 314),(.int 1 315),(.int 1 316)] 0),#[]⟩
noncomputable def ob2_33 (P:Params):Obj:=⟨(.type "dict"),none,(.dict #[] 0),#[]⟩
noncomputable def ob2_34 (P:Params):Obj:=⟨(.type "tuple"),none,(.seq #[.none,.none] 0),#[]⟩
noncomputable def ob2_35 (P:Params):Obj:=⟨(.type "tuple"),none,(.seq #[(.int 14 0),(.int 14 0),(.int 4 0),(.int 1 0),(.int 1 0),(.int 9 0),(.int 0 0),(.int 64 0),(.int 0 0),(.int 1342177280 0),(.int 0 0),(.int 0 0),(.int 0 0),(.int 0 0),(.int 0 0),(.int 17 0),(.int 0 0),(.int 13 0),(.int 11 0),(.int 9 0),(.int 0 0),(.int 64 0),(.int 0 0),(.int 1342177280 0),(.int 0 0),(.int 0 0),(.int 0 0),(.int 0 0),(.int 0 0),(.int 17 0),(.int 1 0),(.int 1 0)] 0),#[]⟩
noncomputable def ob2_36 (P:Params):Obj:=⟨(.type "re.Pattern"),none,(.fields #[(.str (so "([&~|])") 283),(.int 32 318),(.int 1 0),.none,.none,(.ref 35),(.int 0 0)]),#[]⟩
noncomputable def tr2 (P:Params):BT:=(((((((trb P).set 3 fun _=>ob2_3 P).ins 32 (ob2_32 P)).ins 33 (ob2_33 P)).ins 34 (ob2_34 P)).ins 35 (ob2_35 P)).ins 36 (ob2_36 P))
noncomputable def ob3_3 (P:Params):Obj:=⟨(.type "dict"),none,(.dict #[de P "__name__" 165 (.str (so "re") 320),de P "__doc__" 166 .none,de P "__package__" 167 .none,de P "__loader__" 168 (.builtin "__main__.__loader__#opaque"),de P "__spec__" 169 .none,de P "__annotations__" 170 (.ref 6),de P "__builtins__" 171 (.ref 4),de P "__file__" 173 (.str (so "/claim/cut.py") 172),de P "__cached__" 174 .none,de P "_sre" 275 (.ref 12),de P "_twin_re_1" 319 (.ref 36),de P "_special_chars_map" 467 (.ref 38)] 12),#[]⟩
noncomputable def ob3_37 (P:Params):Obj:=⟨(.type "bytes_iterator"),none,(.fields #[.none,(.int 24 0)]),#[]⟩
noncomputable def ob3_38 (P:Params):Obj:=⟨(.type "dict"),none,(.dict #[⟨40,(.int 40 323),(.str (so "\\(") 327)⟩,⟨41,(.int 41 329),(.str (so "\\)") 333)⟩,⟨91,(.int 91 335),(.str (so "\\[") 339)⟩,⟨93,(.int 93 341),(.str (so "\\]") 345)⟩,⟨123,(.int 123 347),(.str (so "\\{") 351)⟩,⟨125,(.int 125 353),(.str (so "\\}") 357)⟩,⟨63,(.int 63 359),(.str (so "\\?") 363)⟩,⟨42,(.int 42 365),(.str (so "\\*") 369)⟩,⟨43,(.int 43 371),(.str (so "\\+") 375)⟩,⟨45,(.int 45 377),(.str (so "\\-") 381)⟩,⟨124,(.int 124 383),(.str (so "\\|") 387)⟩,⟨94,(.int 94 389),(.str (so "\\^") 393)⟩,⟨36,(.int 36 395),(.str (so "\\$") 399)⟩,⟨92,(.int 92 401),(.str (so "\\\\") 405)⟩,⟨46,(.int 46 407),(.str (so "\\.") 411)⟩,⟨38,(.int 38 413),(.str (so "\\&") 417)⟩,⟨126,(.int 126 419),(.str (so "\\~") 423)⟩,⟨35,(.int 35 425),(.str (so "\\#") 429)⟩,⟨32,(.int 32 431),(.str (so "\\ ") 435)⟩,⟨9,(.int 9 437),(.str (Str.mk #[92,9]) 441)⟩,⟨10,(.int 10 443),(.str (Str.mk #[92,10]) 447)⟩,⟨13,(.int 13 449),(.str (Str.mk #[92,13]) 453)⟩,⟨11,(.int 11 455),(.str (Str.mk #[92,11]) 459)⟩,⟨12,(.int 12 461),(.str (Str.mk #[92,12]) 465)⟩] 24),#[]⟩
noncomputable def ob3_39 (P:Params):Obj:=⟨(.type "dict"),none,(.dict #[] 2),#[]⟩
noncomputable def ob3_40 (P:Params):Obj:=⟨(.type "tuple"),none,(.seq #[] 0),#[]⟩
noncomputable def ob3_41 (P:Params):Obj:=⟨(.type "StopIteration"),none,(.fields #[(.ref 40),.none,.none,.none,(.bool false),.none]),#[]⟩
noncomputable def tr3 (P:Params):BT:=(((((((tr2 P).set 3 fun _=>ob3_3 P).ins 37 (ob3_37 P)).ins 38 (ob3_38 P)).ins 39 (ob3_39 P)).ins 40 (ob3_40 P)).ins 41 (ob3_41 P))
noncomputable def ob10_3 (P:Params):Obj:=⟨(.type "dict"),none,(.dict #[de P "__name__" 165 (.str (so "cpy313.heapq") 496),de P "__doc__" 166 .none,de P "__package__" 167 .none,de P "__loader__" 168 (.builtin "__main__.__loader__#opaque"),de P "__spec__" 169 .none,de P "__annotations__" 170 (.ref 6),de P "__builtins__" 171 (.ref 4),de P "__file__" 173 (.str (so "/claim/cut.py") 172),de P "__cached__" 174 .none,de P "_sre" 275 (.ref 12),de P "_twin_re_1" 319 (.ref 36),de P "_special_chars_map" 467 (.ref 38),de P "escape" 474 (.ref 48),de P "_translate" 495 (.ref 55),de P "heappush" 505 (.ref 62),de P "heappop" 514 (.ref 69),de P "heapreplace" 523 (.ref 76)] 17),#[]⟩
noncomputable def ob10_29 (P:Params):Obj:=⟨.none,none,(.fields #[(.int 5 0),(.int 0 0),(.ref 47),(.int 12 0),(.int 0 0),(.ref 54),(.int 75 0),(.int 0 0),(.ref 61),(.int 78 0),(.int 0 0),(.ref 68),(.int 86 0),(.int 0 0),(.ref 75)]),#[]⟩
noncomputable def ob10_42 (P:Params):Obj:=⟨(.type "tuple"),none,(.seq #[] 0),#[]⟩
noncomputable def ob10_43 (P:Params):Obj:=⟨.none,none,(.fields #[]),#[]⟩
noncomputable def ob10_44 (P:Params):Obj:=⟨(.type "tuple"),none,(.seq #[(.str (so "pattern") 471)] 0),#[]⟩
noncomputable def ob10_45 (P:Params):Obj:=⟨(.type "tuple"),none,(.seq #[] 0),#[]⟩
noncomputable def ob10_46 (P:Params):Obj:=⟨.none,none,(.func { name:=(so "escape"),qualname:=(so "escape"),params:=fnP 4,body:=.stmts (fnB 4),scope:=fnS 4,globals:=0,closure:=[],defaults:=.none,kwdefaults:=.none,doc:=.none,pyModule:=.none,annotations:=none,code:=.none,closureTuple:=.none,builtins:=0 }),#[]⟩
noncomputable def ob10_47 (P:Params):Obj:=⟨(.type "code"),none,(.fields #[(.str (so "escape") 468),(.str (so "escape") 469),(.str (so "/claim/cut.py") 470),(.int 5 0),(.int 1 0),(.int 0 0),(.int 0 0),(.int 3 0),(.ref 42),(.bool true),(.int 276 0),(.ref 43),.none,(.ref 44),(.ref 45),(.ref 46),(.int 472 0),(.int 5 0),(.str (so "/claim/cut.py") 473)]),#[]⟩
noncomputable def ob10_48 (P:Params):Obj:=⟨(.type "function"),none,(.func { name:=(so "escape"),qualname:=(so "escape"),params:=fnP 4,body:=.stmts (fnB 4),scope:=fnS 4,globals:=3,closure:=[],defaults:=.none,kwdefaults:=.none,doc:=.none,pyModule:=(.str (so "re") 320),annotations:=none,code:=(.ref 47),closureTuple:=.none,builtins:=0 }),#[]⟩
noncomputable def ob10_49 (P:Params):Obj:=⟨(.type "tuple"),none,(.seq #[] 0),#[]⟩
noncomputable def ob10_50 (P:Params):Obj:=⟨.none,none,(.fields #[]),#[]⟩
noncomputable def ob10_51 (P:Params):Obj:=⟨(.type "tuple"),none,(.seq #[(.str (so "pat") 480),(.str (so "STAR") 481),(.str (so "QUESTION_MARK") 482),(.str (so "res") 483),(.str (so "add") 484),(.str (so "i") 485),(.str (so "n") 486),(.str (so "c") 487),(.str (so "j") 488),(.str (so "stuff") 489),(.str (so "chunks") 490),(.str (so "k") 491),(.str (so "chunk") 492)] 0),#[]⟩
noncomputable def ob10_52 (P:Params):Obj:=⟨(.type "tuple"),none,(.seq #[] 0),#[]⟩
noncomputable def ob10_53 (P:Params):Obj:=⟨.none,none,(.func { name:=(so "_translate"),qualname:=(so "_translate"),params:=fnP 6,body:=.stmts (fnB 6),scope:=fnS 6,globals:=0,closure:=[],defaults:=.none,kwdefaults:=.none,doc:=.none,pyModule:=.none,annotations:=none,code:=.none,closureTuple:=.none,builtins:=0 }),#[]⟩
noncomputable def ob10_54 (P:Params):Obj:=⟨(.type "code"),none,(.fields #[(.str (so "_translate") 477),(.str (so "_translate") 478),(.str (so "/claim/cut.py") 479),(.int 12 0),(.int 3 0),(.int 0 0),(.int 0 0),(.int 3 0),(.ref 49),(.bool true),(.int 276 0),(.ref 50),.none,(.ref 51),(.ref 52),(.ref 53),(.int 493 0),(.int 12 0),(.str (so "/claim/cut.py") 494)]),#[]⟩
noncomputable def ob10_55 (P:Params):Obj:=⟨(.type "function"),none,(.func { name:=(so "_translate"),qualname:=(so "_translate"),params:=fnP 6,body:=.stmts (fnB 6),scope:=fnS 6,globals:=3,closure:=[],defaults:=.none,kwdefaults:=.none,doc:=.none,pyModule:=(.str (so "cpy313.fnmatch") 475),annotations:=none,code:=(.ref 54),closureTuple:=.none,builtins:=0 }),#[]⟩
noncomputable def ob10_56 (P:Params):Obj:=⟨(.type "tuple"),none,(.seq #[] 0),#[]⟩
noncomputable def ob10_57 (P:Params):Obj:=⟨.none,none,(.fields #[]),#[]⟩
noncomputable def ob10_58 (P:Params):Obj:=⟨(.type "tuple"),none,(.seq #[(.str (so "heap") 501),(.str (so "item") 502)] 0),#[]⟩
noncomputable def ob10_59 (P:Params):Obj:=⟨(.type "tuple"),none,(.seq #[] 0),#[]⟩
noncomputable def ob10_60 (P:Params):Obj:=⟨.none,none,(.func { name:=(so "heappush"),qualname:=(so "heappush"),params:=fnP 8,body:=.stmts (fnB 8),scope:=fnS 8,globals:=0,closure:=[],defaults:=.none,kwdefaults:=.none,doc:=.none,pyModule:=.none,annotations:=none,code:=.none,closureTuple:=.none,builtins:=0 }),#[]⟩
noncomputable def ob10_61 (P:Params):Obj:=⟨(.type "code"),none,(.fields #[(.str (so "heappush") 498),(.str (so "heappush") 499),(.str (so "/claim/cut.py") 500),(.int 75 0),(.int 2 0),(.int 0 0),(.int 0 0),(.int 3 0),(.ref 56),(.bool true),(.int 276 0),(.ref 57),.none,(.ref 58),(.ref 59),(.ref 60),(.int 503 0),(.int 75 0),(.str (so "/claim/cut.py") 504)]),#[]⟩
noncomputable def ob10_62 (P:Params):Obj:=⟨(.type "function"),none,(.func { name:=(so "heappush"),qualname:=(so "heappush"),params:=fnP 8,body:=.stmts (fnB 8),scope:=fnS 8,globals:=3,closure:=[],defaults:=.none,kwdefaults:=.none,doc:=.none,pyModule:=(.str (so "cpy313.heapq") 496),annotations:=none,code:=(.ref 61),closureTuple:=.none,builtins:=0 }),#[]⟩
noncomputable def ob10_63 (P:Params):Obj:=⟨(.type "tuple"),none,(.seq #[] 0),#[]⟩
noncomputable def ob10_64 (P:Params):Obj:=⟨.none,none,(.fields #[]),#[]⟩
noncomputable def ob10_65 (P:Params):Obj:=⟨(.type "tuple"),none,(.seq #[(.str (so "heap") 509),(.str (so "lastelt") 510),(.str (so "returnitem") 511)] 0),#[]⟩
noncomputable def ob10_66 (P:Params):Obj:=⟨(.type "tuple"),none,(.seq #[] 0),#[]⟩
noncomputable def ob10_67 (P:Params):Obj:=⟨.none,none,(.func { name:=(so "heappop"),qualname:=(so "heappop"),params:=fnP 9,body:=.stmts (fnB 9),scope:=fnS 9,globals:=0,closure:=[],defaults:=.none,kwdefaults:=.none,doc:=.none,pyModule:=.none,annotations:=none,code:=.none,closureTuple:=.none,builtins:=0 }),#[]⟩
noncomputable def ob10_68 (P:Params):Obj:=⟨(.type "code"),none,(.fields #[(.str (so "heappop") 506),(.str (so "heappop") 507),(.str (so "/claim/cut.py") 508),(.int 78 0),(.int 1 0),(.int 0 0),(.int 0 0),(.int 3 0),(.ref 63),(.bool true),(.int 276 0),(.ref 64),.none,(.ref 65),(.ref 66),(.ref 67),(.int 512 0),(.int 78 0),(.str (so "/claim/cut.py") 513)]),#[]⟩
noncomputable def ob10_69 (P:Params):Obj:=⟨(.type "function"),none,(.func { name:=(so "heappop"),qualname:=(so "heappop"),params:=fnP 9,body:=.stmts (fnB 9),scope:=fnS 9,globals:=3,closure:=[],defaults:=.none,kwdefaults:=.none,doc:=.none,pyModule:=(.str (so "cpy313.heapq") 496),annotations:=none,code:=(.ref 68),closureTuple:=.none,builtins:=0 }),#[]⟩
noncomputable def ob10_70 (P:Params):Obj:=⟨(.type "tuple"),none,(.seq #[] 0),#[]⟩
noncomputable def ob10_71 (P:Params):Obj:=⟨.none,none,(.fields #[]),#[]⟩
noncomputable def ob10_72 (P:Params):Obj:=⟨(.type "tuple"),none,(.seq #[(.str (so "heap") 518),(.str (so "item") 519),(.str (so "returnitem") 520)] 0),#[]⟩
noncomputable def ob10_73 (P:Params):Obj:=⟨(.type "tuple"),none,(.seq #[] 0),#[]⟩
noncomputable def ob10_74 (P:Params):Obj:=⟨.none,none,(.func { name:=(so "heapreplace"),qualname:=(so "heapreplace"),params:=fnP 10,body:=.stmts (fnB 10),scope:=fnS 10,globals:=0,closure:=[],defaults:=.none,kwdefaults:=.none,doc:=.none,pyModule:=.none,annotations:=none,code:=.none,closureTuple:=.none,builtins:=0 }),#[]⟩
noncomputable def ob10_75 (P:Params):Obj:=⟨(.type "code"),none,(.fields #[(.str (so "heapreplace") 515),(.str (so "heapreplace") 516),(.str (so "/claim/cut.py") 517),(.int 86 0),(.int 2 0),(.int 0 0),(.int 0 0),(.int 3 0),(.ref 70),(.bool true),(.int 276 0),(.ref 71),.none,(.ref 72),(.ref 73),(.ref 74),(.int 521 0),(.int 86 0),(.str (so "/claim/cut.py") 522)]),#[]⟩
noncomputable def ob10_76 (P:Params):Obj:=⟨(.type "function"),none,(.func { name:=(so "heapreplace"),qualname:=(so "heapreplace"),params:=fnP 10,body:=.stmts (fnB 10),scope:=fnS 10,globals:=3,closure:=[],defaults:=.none,kwdefaults:=.none,doc:=.none,pyModule:=(.str (so "cpy313.heapq") 496),annotations:=none,code:=(.ref 75),closureTuple:=.none,builtins:=0 }),#[]⟩
noncomputable def tr10 (P:Params):BT:=((((((((((((((((((((((((((((((((((((((tr3 P).set 3 fun _=>ob10_3 P).set 29 fun _=>ob10_29 P).ins 42 (ob10_42 P)).ins 43 (ob10_43 P)).ins 44 (ob10_44 P)).ins 45 (ob10_45 P)).ins 46 (ob10_46 P)).ins 47 (ob10_47 P)).ins 48 (ob10_48 P)).ins 49 (ob10_49 P)).ins 50 (ob10_50 P)).ins 51 (ob10_51 P)).ins 52 (ob10_52 P)).ins 53 (ob10_53 P)).ins 54 (ob10_54 P)).ins 55 (ob10_55 P)).ins 56 (ob10_56 P)).ins 57 (ob10_57 P)).ins 58 (ob10_58 P)).ins 59 (ob10_59 P)).ins 60 (ob10_60 P)).ins 61 (ob10_61 P)).ins 62 (ob10_62 P)).ins 63 (ob10_63 P)).ins 64 (ob10_64 P)).ins 65 (ob10_65 P)).ins 66 (ob10_66 P)).ins 67 (ob10_67 P)).ins 68 (ob10_68 P)).ins 69 (ob10_69 P)).ins 70 (ob10_70 P)).ins 71 (ob10_71 P)).ins 72 (ob10_72 P)).ins 73 (ob10_73 P)).ins 74 (ob10_74 P)).ins 75 (ob10_75 P)).ins 76 (ob10_76 P))
noncomputable def ob15_3 (P:Params):Obj:=⟨(.type "dict"),none,(.dict #[de P "__name__" 165 (.str (so "cpy313.tomllib._parser") 556),de P "__doc__" 166 .none,de P "__package__" 167 .none,de P "__loader__" 168 (.builtin "__main__.__loader__#opaque"),de P "__spec__" 169 .none,de P "__annotations__" 170 (.ref 6),de P "__builtins__" 171 (.ref 4),de P "__file__" 173 (.str (so "/claim/cut.py") 172),de P "__cached__" 174 .none,de P "_sre" 275 (.ref 12),de P "_twin_re_1" 319 (.ref 36),de P "_special_chars_map" 467 (.ref 38),de P "escape" 474 (.ref 48),de P "_translate" 495 (.ref 55),de P "heappush" 505 (.ref 62),de P "heappop" 514 (.ref 69),de P "heapreplace" 523 (.ref 76),de P "_siftdown" 535 (.ref 83),de P "_siftup" 548 (.ref 90),de P "digits" 550 (.str (so "0123456789") 549),de P "hexdigits" 555 (.str (so "0123456789abcdefABCDEF") 554)] 21),#[]⟩
noncomputable def ob15_29 (P:Params):Obj:=⟨.none,none,(.fields #[(.int 5 0),(.int 0 0),(.ref 47),(.int 12 0),(.int 0 0),(.ref 54),(.int 75 0),(.int 0 0),(.ref 61),(.int 78 0),(.int 0 0),(.ref 68),(.int 86 0),(.int 0 0),(.ref 75),(.int 91 0),(.int 0 0),(.ref 82),(.int 102 0),(.int 0 0),(.ref 89)]),#[]⟩
noncomputable def ob15_77 (P:Params):Obj:=⟨(.type "tuple"),none,(.seq #[] 0),#[]⟩
noncomputable def ob15_78 (P:Params):Obj:=⟨.none,none,(.fields #[]),#[]⟩
noncomputable def ob15_79 (P:Params):Obj:=⟨(.type "tuple"),none,(.seq #[(.str (so "heap") 527),(.str (so "startpos") 528),(.str (so "pos") 529),(.str (so "newitem") 530),(.str (so "parentpos") 531),(.str (so "parent") 532)] 0),#[]⟩
noncomputable def ob15_80 (P:Params):Obj:=⟨(.type "tuple"),none,(.seq #[] 0),#[]⟩
noncomputable def ob15_81 (P:Params):Obj:=⟨.none,none,(.func { name:=(so "_siftdown"),qualname:=(so "_siftdown"),params:=fnP 11,body:=.stmts (fnB 11),scope:=fnS 11,globals:=0,closure:=[],defaults:=.none,kwdefaults:=.none,doc:=.none,pyModule:=.none,annotations:=none,code:=.none,closureTuple:=.none,builtins:=0 }),#[]⟩
noncomputable def ob15_82 (P:Params):Obj:=⟨(.type "code"),none,(.fields #[(.str (so "_siftdown") 524),(.str (so "_siftdown") 525),(.str (so "/claim/cut.py") 526),(.int 91 0),(.int 3 0),(.int 0 0),(.int 0 0),(.int 3 0),(.ref 77),(.bool true),(.int 276 0),(.ref 78),.none,(.ref 79),(.ref 80),(.ref 81),(.int 533 0),(.int 91 0),(.str (so "/claim/cut.py") 534)]),#[]⟩
noncomputable def ob15_83 (P:Params):Obj:=⟨(.type "function"),none,(.func { name:=(so "_siftdown"),qualname:=(so "_siftdown"),params:=fnP 11,body:=.stmts (fnB 11),scope:=fnS 11,globals:=3,closure:=[],defaults:=.none,kwdefaults:=.none,doc:=.none,pyModule:=(.str (so "cpy313.heapq") 496),annotations:=none,code:=(.ref 82),closureTuple:=.none,builtins:=0 }),#[]⟩
noncomputable def ob15_84 (P:Params):Obj:=⟨(.type "tuple"),none,(.seq #[] 0),#[]⟩
noncomputable def ob15_85 (P:Params):Obj:=⟨.none,none,(.fields #[]),#[]⟩
noncomputable def ob15_86 (P:Params):Obj:=⟨(.type "tuple"),none,(.seq #[(.str (so "heap") 539),(.str (so "pos") 540),(.str (so "endpos") 541),(.str (so "startpos") 542),(.str (so "newitem") 543),(.str (so "childpos") 544),(.str (so "rightpos") 545)] 0),#[]⟩
noncomputable def ob15_87 (P:Params):Obj:=⟨(.type "tuple"),none,(.seq #[] 0),#[]⟩
noncomputable def ob15_88 (P:Params):Obj:=⟨.none,none,(.func { name:=(so "_siftup"),qualname:=(so "_siftup"),params:=fnP 12,body:=.stmts (fnB 12),scope:=fnS 12,globals:=0,closure:=[],defaults:=.none,kwdefaults:=.none,doc:=.none,pyModule:=.none,annotations:=none,code:=.none,closureTuple:=.none,builtins:=0 }),#[]⟩
noncomputable def ob15_89 (P:Params):Obj:=⟨(.type "code"),none,(.fields #[(.str (so "_siftup") 536),(.str (so "_siftup") 537),(.str (so "/claim/cut.py") 538),(.int 102 0),(.int 2 0),(.int 0 0),(.int 0 0),(.int 3 0),(.ref 84),(.bool true),(.int 276 0),(.ref 85),.none,(.ref 86),(.ref 87),(.ref 88),(.int 546 0),(.int 102 0),(.str (so "/claim/cut.py") 547)]),#[]⟩
noncomputable def ob15_90 (P:Params):Obj:=⟨(.type "function"),none,(.func { name:=(so "_siftup"),qualname:=(so "_siftup"),params:=fnP 12,body:=.stmts (fnB 12),scope:=fnS 12,globals:=3,closure:=[],defaults:=.none,kwdefaults:=.none,doc:=.none,pyModule:=(.str (so "cpy313.heapq") 496),annotations:=none,code:=(.ref 89),closureTuple:=.none,builtins:=0 }),#[]⟩
noncomputable def tr15 (P:Params):BT:=(((((((((((((((((tr10 P).set 3 fun _=>ob15_3 P).set 29 fun _=>ob15_29 P).ins 77 (ob15_77 P)).ins 78 (ob15_78 P)).ins 79 (ob15_79 P)).ins 80 (ob15_80 P)).ins 81 (ob15_81 P)).ins 82 (ob15_82 P)).ins 83 (ob15_83 P)).ins 84 (ob15_84 P)).ins 85 (ob15_85 P)).ins 86 (ob15_86 P)).ins 87 (ob15_87 P)).ins 88 (ob15_88 P)).ins 89 (ob15_89 P)).ins 90 (ob15_90 P))
noncomputable def ob16_3 (P:Params):Obj:=⟨(.type "dict"),none,(.dict #[de P "__name__" 165 (.str (so "cpy313.tomllib._parser") 556),de P "__doc__" 166 .none,de P "__package__" 167 .none,de P "__loader__" 168 (.builtin "__main__.__loader__#opaque"),de P "__spec__" 169 .none,de P "__annotations__" 170 (.ref 6),de P "__builtins__" 171 (.ref 4),de P "__file__" 173 (.str (so "/claim/cut.py") 172),de P "__cached__" 174 .none,de P "_sre" 275 (.ref 12),de P "_twin_re_1" 319 (.ref 36),de P "_special_chars_map" 467 (.ref 38),de P "escape" 474 (.ref 48),de P "_translate" 495 (.ref 55),de P "heappush" 505 (.ref 62),de P "heappop" 514 (.ref 69),de P "heapreplace" 523 (.ref 76),de P "_siftdown" 535 (.ref 83),de P "_siftup" 548 (.ref 90),de P "digits" 550 (.str (so "0123456789") 549),de P "hexdigits" 555 (.str (so "0123456789abcdefABCDEF") 554),de P "HEXDIGIT_CHARS" 602 (.ref 91)] 22),#[]⟩
noncomputable def ob16_92 (P:Params):Obj:=⟨(.type "str_ascii_iterator"),none,(.fields #[.none,(.int 22 0)]),#[]⟩
noncomputable def ob16_93 (P:Params):Obj:=⟨(.type "tuple"),none,(.seq #[] 0),#[]⟩
noncomputable def ob16_94 (P:Params):Obj:=⟨(.type "StopIteration"),none,(.fields #[(.ref 93),.none,.none,.none,(.bool false),.none]),#[]⟩
noncomputable def tr16 (o:Obj) (P:Params):BT:=((((((tr15 P).set 3 fun _=>ob16_3 P).ins 91 o).ins 92 (ob16_92 P)).ins 93 (ob16_93 P)).ins 94 (ob16_94 P))
noncomputable def ob17_3 (P:Params):Obj:=⟨(.type "dict"),none,(.dict #[de P "__name__" 165 (.str (so "cpy313.tomllib._parser") 556),de P "__doc__" 166 .none,de P "__package__" 167 .none,de P "__loader__" 168 (.builtin "__main__.__loader__#opaque"),de P "__spec__" 169 .none,de P "__annotations__" 170 (.ref 6),de P "__builtins__" 171 (.ref 4),de P "__file__" 173 (.str (so "/claim/cut.py") 172),de P "__cached__" 174 .none,de P "_sre" 275 (.ref 12),de P "_twin_re_1" 319 (.ref 36),de P "_special_chars_map" 467 (.ref 38),de P "escape" 474 (.ref 48),de P "_translate" 495 (.ref 55),de P "heappush" 505 (.ref 62),de P "heappop" 514 (.ref 69),de P "heapreplace" 523 (.ref 76),de P "_siftdown" 535 (.ref 83),de P "_siftup" 548 (.ref 90),de P "digits" 550 (.str (so "0123456789") 549),de P "hexdigits" 555 (.str (so "0123456789abcdefABCDEF") 554),de P "HEXDIGIT_CHARS" 602 (.ref 91),de P "TOMLDecodeError" 620 (.ref 104)] 23),#[]⟩
noncomputable def ob17_29 (P:Params):Obj:=⟨.none,none,(.fields #[(.int 5 0),(.int 0 0),(.ref 47),(.int 12 0),(.int 0 0),(.ref 54),(.int 75 0),(.int 0 0),(.ref 61),(.int 78 0),(.int 0 0),(.ref 68),(.int 86 0),(.int 0 0),(.ref 75),(.int 91 0),(.int 0 0),(.ref 82),(.int 102 0),(.int 0 0),(.ref 89),(.int 120 0),(.int 0 0),(.ref 100)]),#[]⟩
noncomputable def ob17_95 (P:Params):Obj:=⟨(.type "tuple"),none,(.seq #[(.type "ValueError")] 0),#[]⟩
noncomputable def ob17_96 (P:Params):Obj:=⟨(.type "builtin_function_or_method"),none,(.fields #[(.builtin "type.__prepare__"),(.type "type")]),#[]⟩
noncomputable def ob17_97 (P:Params):Obj:=⟨(.type "dict"),none,(.dict #[de P "__module__" 610 (.str (so "cpy313.tomllib._parser") 556),de P "__qualname__" 612 (.str (so "TOMLDecodeError") 611),de P "__firstlineno__" 614 (.int 120 613),de P "__static_attributes__" 615 (.ref 102)] 4),#[]⟩
noncomputable def ob17_98 (P:Params):Obj:=⟨(.type "tuple"),none,(.seq #[] 0),#[]⟩
noncomputable def ob17_99 (P:Params):Obj:=⟨.none,none,(.fields #[]),#[]⟩
noncomputable def ob17_100 (P:Params):Obj:=⟨(.type "code"),none,(.fields #[(.str (so "TOMLDecodeError") 605),(.str (so "TOMLDecodeError") 606),(.str (so "/claim/cut.py") 607),(.int 120 0),(.int 0 0),(.int 0 0),(.int 0 0),(.int 0 0),(.ref 98),(.bool false),(.int 276 0),(.ref 99),.none,.none,.none,.none,(.int 608 0),(.int 120 0),(.str (so "/claim/cut.py") 609)]),#[]⟩
noncomputable def ob17_101 (P:Params):Obj:=⟨(.type "frame"),none,.plain,#[(some (.ref 100)),(some (.ref 3)),(some (.ref 97)),none,(some (.str (so "cpy313.tomllib._parser") 556)),none,(some (.ref 0))]⟩
noncomputable def ob17_102 (P:Params):Obj:=⟨(.type "tuple"),none,(.seq #[] 0),#[]⟩
noncomputable def ob17_103 (P:Params):Obj:=⟨(.type "dict"),none,(.dict #[de P "__module__" 610 (.str (so "cpy313.tomllib._parser") 556),de P "__firstlineno__" 614 (.int 120 613),de P "__static_attributes__" 615 (.ref 102),de P "__weakref__" 617 (.ref 105),de P "__doc__" 618 .none] 3),#[]⟩
noncomputable def ob17_104 (P:Params):Obj:=⟨(.type "type"),none,(.cls { name:=(so "TOMLDecodeError"),bases:=[(.type "ValueError")],mro:=[(.ref 104),(.type "ValueError"),(.type "Exception"),(.type "BaseException"),(.type "object")],ns:=103,qualname:=(so "TOMLDecodeError"),hasDict:=true,slotNames:=[],subclasses:=[],abstract:=false,collection:=none,hasDel:=false }),#[(some (.ref 95)),none,(some (.str (so "TOMLDecodeError") 603)),(some (.str (so "TOMLDecodeError") 611)),(some (.builtin "ValueError.__new__")),(some (.bool true))]⟩
noncomputable def ob17_105 (P:Params):Obj:=⟨(.type "getset_descriptor"),none,(.fields #[(.str (so "__weakref__") 616),(.ref 104),(.builtin "ExceptionGroup.__weakref__"),.none]),#[]⟩
noncomputable def ob17_106 (P:Params):Obj:=⟨(.type "super"),none,(.fields #[(.ref 104),(.ref 104),(.ref 104)]),#[]⟩
noncomputable def ob17_107 (P:Params):Obj:=⟨(.type "builtin_function_or_method"),none,(.fields #[(.builtin "object.__init_subclass__"),(.ref 104)]),#[]⟩
noncomputable def tr17 (o:Obj) (P:Params):BT:=((((((((((((((((tr16 o P).set 3 fun _=>ob17_3 P).set 29 fun _=>ob17_29 P).ins 95 (ob17_95 P)).ins 96 (ob17_96 P)).ins 97 (ob17_97 P)).ins 98 (ob17_98 P)).ins 99 (ob17_99 P)).ins 100 (ob17_100 P)).ins 101 (ob17_101 P)).ins 102 (ob17_102 P)).ins 103 (ob17_103 P)).ins 104 (ob17_104 P)).ins 105 (ob17_105 P)).ins 106 (ob17_106 P)).ins 107 (ob17_107 P))
noncomputable def ob22_3 (P:Params):Obj:=⟨(.type "dict"),none,(.dict #[de P "__name__" 165 (.str (so "cpy313.tomllib._parser") 556),de P "__doc__" 166 .none,de P "__package__" 167 .none,de P "__loader__" 168 (.builtin "__main__.__loader__#opaque"),de P "__spec__" 169 .none,de P "__annotations__" 170 (.ref 6),de P "__builtins__" 171 (.ref 4),de P "__file__" 173 (.str (so "/claim/cut.py") 172),de P "__cached__" 174 .none,de P "_sre" 275 (.ref 12),de P "_twin_re_1" 319 (.ref 36),de P "_special_chars_map" 467 (.ref 38),de P "escape" 474 (.ref 48),de P "_translate" 495 (.ref 55),de P "heappush" 505 (.ref 62),de P "heappop" 514 (.ref 69),de P "heapreplace" 523 (.ref 76),de P "_siftdown" 535 (.ref 83),de P "_siftup" 548 (.ref 90),de P "digits" 550 (.str (so "0123456789") 549),de P "hexdigits" 555 (.str (so "0123456789abcdefABCDEF") 554),de P "HEXDIGIT_CHARS" 602 (.ref 91),de P "TOMLDecodeError" 620 (.ref 104),de P "skip_chars" 629 (.ref 114),de P "skip_until" 641 (.ref 121),de P "parse_hex_char" 652 (.ref 128),de P "suffixed_err" 662 (.ref 135),de P "is_unicode_scalar_value" 669 (.ref 142)] 28),#[]⟩
noncomputable def ob22_29 (P:Params):Obj:=⟨.none,none,(.fields #[(.int 5 0),(.int 0 0),(.ref 47),(.int 12 0),(.int 0 0),(.ref 54),(.int 75 0),(.int 0 0),(.ref 61),(.int 78 0),(.int 0 0),(.ref 68),(.int 86 0),(.int 0 0),(.ref 75),(.int 91 0),(.int 0 0),(.ref 82),(.int 102 0),(.int 0 0),(.ref 89),(.int 120 0),(.int 0 0),(.ref 100),(.int 122 0),(.int 0 0),(.ref 113),(.int 129 0),(.int 0 0),(.ref 120),(.int 141 0),(.int 0 0),(.ref 127),(.int 150 0),(.int 0 0),(.ref 134),(.int 162 0),(.int 0 0),(.ref 141)]),#[]⟩
noncomputable def ob22_108 (P:Params):Obj:=⟨(.type "tuple"),none,(.seq #[] 0),#[]⟩
noncomputable def ob22_109 (P:Params):Obj:=⟨.none,none,(.fields #[]),#[]⟩
noncomputable def ob22_110 (P:Params):Obj:=⟨(.type "tuple"),none,(.seq #[(.str (so "src") 624),(.str (so "pos") 625),(.str (so "chars") 626)] 0),#[]⟩
noncomputable def ob22_111 (P:Params):Obj:=⟨(.type "tuple"),none,(.seq #[] 0),#[]⟩
noncomputable def ob22_112 (P:Params):Obj:=⟨.none,none,(.func { name:=(so "skip_chars"),qualname:=(so "skip_chars"),params:=fnP 18,body:=.stmts (fnB 18),scope:=fnS 18,globals:=0,closure:=[],defaults:=.none,kwdefaults:=.none,doc:=.none,pyModule:=.none,annotations:=none,code:=.none,closureTuple:=.none,builtins:=0 }),#[]⟩
noncomputable def ob22_113 (P:Params):Obj:=⟨(.type "code"),none,(.fields #[(.str (so "skip_chars") 621),(.str (so "skip_chars") 622),(.str (so "/claim/cut.py") 623),(.int 122 0),(.int 3 0),(.int 0 0),(.int 0 0),(.int 3 0),(.ref 108),(.bool true),(.int 276 0),(.ref 109),.none,(.ref 110),(.ref 111),(.ref 112),(.int 627 0),(.int 122 0),(.str (so "/claim/cut.py") 628)]),#[]⟩
noncomputable def ob22_114 (P:Params):Obj:=⟨(.type "function"),none,(.func { name:=(so "skip_chars"),qualname:=(so "skip_chars"),params:=fnP 18,body:=.stmts (fnB 18),scope:=fnS 18,globals:=3,closure:=[],defaults:=.none,kwdefaults:=.none,doc:=.none,pyModule:=(.str (so "cpy313.tomllib._parser") 556),annotations:=none,code:=(.ref 113),closureTuple:=.none,builtins:=0 }),#[]⟩
noncomputable def ob22_115 (P:Params):Obj:=⟨(.type "tuple"),none,(.seq #[] 0),#[]⟩
noncomputable def ob22_116 (P:Params):Obj:=⟨.none,none,(.fields #[]),#[]⟩
noncomputable def ob22_117 (P:Params):Obj:=⟨(.type "tuple"),none,(.seq #[(.str (so "src") 633),(.str (so "pos") 634),(.str (so "expect") 635),(.str (so "error_on") 636),(.str (so "error_on_eof") 637),(.str (so "new_pos") 638)] 0),#[]⟩
noncomputable def ob22_118 (P:Params):Obj:=⟨(.type "tuple"),none,(.seq #[] 0),#[]⟩
noncomputable def ob22_119 (P:Params):Obj:=⟨.none,none,(.func { name:=(so "skip_until"),qualname:=(so "skip_until"),params:=fnP 19,body:=.stmts (fnB 19),scope:=fnS 19,globals:=0,closure:=[],defaults:=.none,kwdefaults:=.none,doc:=.none,pyModule:=.none,annotations:=none,code:=.none,closureTuple:=.none,builtins:=0 }),#[]⟩
noncomputable def ob22_120 (P:Params):Obj:=⟨(.type "code"),none,(.fields #[(.str (so "skip_until") 630),(.str (so "skip_until") 631),(.str (so "/claim/cut.py") 632),(.int 129 0),(.int 3 0),(.int 0 0),(.int 2 0),(.int 3 0),(.ref 115),(.bool true),(.int 276 0),(.ref 116),.none,(.ref 117),(.ref 118),(.ref 119),(.int 639 0),(.int 129 0),(.str (so "/claim/cut.py") 640)]),#[]⟩
noncomputable def ob22_121 (P:Params):Obj:=⟨(.type "function"),none,(.func { name:=(so "skip_until"),qualname:=(so "skip_until"),params:=fnP 19,body:=.stmts (fnB 19),scope:=fnS 19,globals:=3,closure:=[],defaults:=.none,kwdefaults:=.none,doc:=.none,pyModule:=(.str (so "cpy313.tomllib._parser") 556),annotations:=none,code:=(.ref 120),closureTuple:=.none,builtins:=0 }),#[]⟩
noncomputable def ob22_122 (P:Params):Obj:=⟨(.type "tuple"),none,(.seq #[] 0),#[]⟩
noncomputable def ob22_123 (P:Params):Obj:=⟨.none,none,(.fields #[]),#[]⟩
noncomputable def ob22_124 (P:Params):Obj:=⟨(.type "tuple"),none,(.seq #[(.str (so "src") 645),(.str (so "pos") 646),(.str (so "hex_len") 647),(.str (so "hex_str") 648),(.str (so "hex_int") 649)] 0),#[]⟩
noncomputable def ob22_125 (P:Params):Obj:=⟨(.type "tuple"),none,(.seq #[] 0),#[]⟩
noncomputable def ob22_126 (P:Params):Obj:=⟨.none,none,(.func { name:=(so "parse_hex_char"),qualname:=(so "parse_hex_char"),params:=fnP 20,body:=.stmts (fnB 20),scope:=fnS 20,globals:=0,closure:=[],defaults:=.none,kwdefaults:=.none,doc:=.none,pyModule:=.none,annotations:=none,code:=.none,closureTuple:=.none,builtins:=0 }),#[]⟩
noncomputable def ob22_127 (P:Params):Obj:=⟨(.type "code"),none,(.fields #[(.str (so "parse_hex_char") 642),(.str (so "parse_hex_char") 643),(.str (so "/claim/cut.py") 644),(.int 141 0),(.int 3 0),(.int 0 0),(.int 0 0),(.int 3 0),(.ref 122),(.bool true),(.int 276 0),(.ref 123),.none,(.ref 124),(.ref 125),(.ref 126),(.int 650 0),(.int 141 0),(.str (so "/claim/cut.py") 651)]),#[]⟩
noncomputable def ob22_128 (P:Params):Obj:=⟨(.type "function"),none,(.func { name:=(so "parse_hex_char"),qualname:=(so "parse_hex_char"),params:=fnP 20,body:=.stmts (fnB 20),scope:=fnS 20,globals:=3,closure:=[],defaults:=.none,kwdefaults:=.none,doc:=.none,pyModule:=(.str (so "cpy313.tomllib._parser") 556),annotations:=none,code:=(.ref 127),closureTuple:=.none,builtins:=0 }),#[]⟩
noncomputable def ob22_129 (P:Params):Obj:=⟨(.type "tuple"),none,(.seq #[] 0),#[]⟩
noncomputable def ob22_130 (P:Params):Obj:=⟨.none,none,(.fields #[]),#[]⟩
noncomputable def ob22_131 (P:Params):Obj:=⟨(.type "tuple"),none,(.seq #[(.str (so "src") 656),(.str (so "pos") 657),(.str (so "msg") 658),(.str (so "coord_repr") 659)] 0),#[]⟩
noncomputable def ob22_132 (P:Params):Obj:=⟨(.type "tuple"),none,(.seq #[] 0),#[]⟩
noncomputable def ob22_133 (P:Params):Obj:=⟨.none,none,(.func { name:=(so "suffixed_err"),qualname:=(so "suffixed_err"),params:=fnP 21,body:=.stmts (fnB 21),scope:=fnS 21,globals:=0,closure:=[],defaults:=.none,kwdefaults:=.none,doc:=.none,pyModule:=.none,annotations:=none,code:=.none,closureTuple:=.none,builtins:=0 }),#[]⟩
noncomputable def ob22_134 (P:Params):Obj:=⟨(.type "code"),none,(.fields #[(.str (so "suffixed_err") 653),(.str (so "suffixed_err") 654),(.str (so "/claim/cut.py") 655),(.int 150 0),(.int 3 0),(.int 0 0),(.int 0 0),(.int 3 0),(.ref 129),(.bool true),(.int 276 0),(.ref 130),.none,(.ref 131),(.ref 132),(.ref 133),(.int 660 0),(.int 150 0),(.str (so "/claim/cut.py") 661)]),#[]⟩
noncomputable def ob22_135 (P:Params):Obj:=⟨(.type "function"),none,(.func { name:=(so "suffixed_err"),qualname:=(so "suffixed_err"),params:=fnP 21,body:=.stmts (fnB 21),scope:=fnS 21,globals:=3,closure:=[],defaults:=.none,kwdefaults:=.none,doc:=.none,pyModule:=(.str (so "cpy313.tomllib._parser") 556),annotations:=none,code:=(.ref 134),closureTuple:=.none,builtins:=0 }),#[]⟩
noncomputable def ob22_136 (P:Params):Obj:=⟨(.type "tuple"),none,(.seq #[] 0),#[]⟩
noncomputable def ob22_137 (P:Params):Obj:=⟨.none,none,(.fields #[]),#[]⟩
noncomputable def ob22_138 (P:Params):Obj:=⟨(.type "tuple"),none,(.seq #[(.str (so "codepoint") 666)] 0),#[]⟩
noncomputable def ob22_139 (P:Params):Obj:=⟨(.type "tuple"),none,(.seq #[] 0),#[]⟩
noncomputable def ob22_140 (P:Params):Obj:=⟨.none,none,(.func { name:=(so "is_unicode_scalar_value"),qualname:=(so "is_unicode_scalar_value"),params:=fnP 22,body:=.stmts (fnB 22),scope:=fnS 22,globals:=0,closure:=[],defaults:=.none,kwdefaults:=.none,doc:=.none,pyModule:=.none,annotations:=none,code:=.none,closureTuple:=.none,builtins:=0 }),#[]⟩
noncomputable def ob22_141 (P:Params):Obj:=⟨(.type "code"),none,(.fields #[(.str (so "is_unicode_scalar_value") 663),(.str (so "is_unicode_scalar_value") 664),(.str (so "/claim/cut.py") 665),(.int 162 0),(.int 1 0),(.int 0 0),(.int 0 0),(.int 3 0),(.ref 136),(.bool true),(.int 276 0),(.ref 137),.none,(.ref 138),(.ref 139),(.ref 140),(.int 667 0),(.int 162 0),(.str (so "/claim/cut.py") 668)]),#[]⟩
noncomputable def ob22_142 (P:Params):Obj:=⟨(.type "function"),none,(.func { name:=(so "is_unicode_scalar_value"),qualname:=(so "is_unicode_scalar_value"),params:=fnP 22,body:=.stmts (fnB 22),scope:=fnS 22,globals:=3,closure:=[],defaults:=.none,kwdefaults:=.none,doc:=.none,pyModule:=(.str (so "cpy313.tomllib._parser") 556),annotations:=none,code:=(.ref 141),closureTuple:=.none,builtins:=0 }),#[]⟩
noncomputable def tr22 (o:Obj) (P:Params):BT:=((((((((((((((((((((((((((((((((((((((tr17 o P).set 3 fun _=>ob22_3 P).set 29 fun _=>ob22_29 P).ins 108 (ob22_108 P)).ins 109 (ob22_109 P)).ins 110 (ob22_110 P)).ins 111 (ob22_111 P)).ins 112 (ob22_112 P)).ins 113 (ob22_113 P)).ins 114 (ob22_114 P)).ins 115 (ob22_115 P)).ins 116 (ob22_116 P)).ins 117 (ob22_117 P)).ins 118 (ob22_118 P)).ins 119 (ob22_119 P)).ins 120 (ob22_120 P)).ins 121 (ob22_121 P)).ins 122 (ob22_122 P)).ins 123 (ob22_123 P)).ins 124 (ob22_124 P)).ins 125 (ob22_125 P)).ins 126 (ob22_126 P)).ins 127 (ob22_127 P)).ins 128 (ob22_128 P)).ins 129 (ob22_129 P)).ins 130 (ob22_130 P)).ins 131 (ob22_131 P)).ins 132 (ob22_132 P)).ins 133 (ob22_133 P)).ins 134 (ob22_134 P)).ins 135 (ob22_135 P)).ins 136 (ob22_136 P)).ins 137 (ob22_137 P)).ins 138 (ob22_138 P)).ins 139 (ob22_139 P)).ins 140 (ob22_140 P)).ins 141 (ob22_141 P)).ins 142 (ob22_142 P))
noncomputable def ob27_3 (P:Params):Obj:=⟨(.type "dict"),none,(.dict #[de P "__name__" 165 (.str (so "law_in0058_01") 670),de P "__doc__" 166 .none,de P "__package__" 167 .none,de P "__loader__" 168 (.builtin "__main__.__loader__#opaque"),de P "__spec__" 169 .none,de P "__annotations__" 170 (.ref 6),de P "__builtins__" 171 (.ref 4),de P "__file__" 173 (.str (so "/claim/cut.py") 172),de P "__cached__" 174 .none,de P "_sre" 275 (.ref 12),de P "_twin_re_1" 319 (.ref 36),de P "_special_chars_map" 467 (.ref 38),de P "escape" 474 (.ref 48),de P "_translate" 495 (.ref 55),de P "heappush" 505 (.ref 62),de P "heappop" 514 (.ref 69),de P "heapreplace" 523 (.ref 76),de P "_siftdown" 535 (.ref 83),de P "_siftup" 548 (.ref 90),de P "digits" 550 (.str (so "0123456789") 549),de P "hexdigits" 555 (.str (so "0123456789abcdefABCDEF") 554),de P "HEXDIGIT_CHARS" 602 (.ref 91),de P "TOMLDecodeError" 620 (.ref 104),de P "skip_chars" 629 (.ref 114),de P "skip_until" 641 (.ref 121),de P "parse_hex_char" 652 (.ref 128),de P "suffixed_err" 662 (.ref 135),de P "is_unicode_scalar_value" 669 (.ref 142),de P "_law_ends" 681 (.ref 149),de P "_law_lines" 694 (.ref 156),de P "_law_due" 706 (.ref 163),de P "_law_told" 718 (.ref 170)] 32),#[]⟩
noncomputable def ob27_29 (P:Params):Obj:=⟨.none,none,(.fields #[(.int 5 0),(.int 0 0),(.ref 47),(.int 12 0),(.int 0 0),(.ref 54),(.int 75 0),(.int 0 0),(.ref 61),(.int 78 0),(.int 0 0),(.ref 68),(.int 86 0),(.int 0 0),(.ref 75),(.int 91 0),(.int 0 0),(.ref 82),(.int 102 0),(.int 0 0),(.ref 89),(.int 120 0),(.int 0 0),(.ref 100),(.int 122 0),(.int 0 0),(.ref 113),(.int 129 0),(.int 0 0),(.ref 120),(.int 141 0),(.int 0 0),(.ref 127),(.int 150 0),(.int 0 0),(.ref 134),(.int 162 0),(.int 0 0),(.ref 141),(.int 165 0),(.int 0 0),(.ref 148),(.int 172 0),(.int 0 0),(.ref 155),(.int 182 0),(.int 0 0),(.ref 162),(.int 196 0),(.int 0 0),(.ref 169)]),#[]⟩
noncomputable def ob27_143 (P:Params):Obj:=⟨(.type "tuple"),none,(.seq #[] 0),#[]⟩
noncomputable def ob27_144 (P:Params):Obj:=⟨.none,none,(.fields #[]),#[]⟩
noncomputable def ob27_145 (P:Params):Obj:=⟨(.type "tuple"),none,(.seq #[(.str (so "x") 675),(.str (so "low") 676),(.str (so "high") 677),(.str (so "lift") 678)] 0),#[]⟩
noncomputable def ob27_146 (P:Params):Obj:=⟨(.type "tuple"),none,(.seq #[] 0),#[]⟩
noncomputable def ob27_147 (P:Params):Obj:=⟨.none,none,(.func { name:=(so "_law_ends"),qualname:=(so "_law_ends"),params:=fnP 24,body:=.stmts (fnB 24),scope:=fnS 24,globals:=0,closure:=[],defaults:=.none,kwdefaults:=.none,doc:=.none,pyModule:=.none,annotations:=none,code:=.none,closureTuple:=.none,builtins:=0 }),#[]⟩
noncomputable def ob27_148 (P:Params):Obj:=⟨(.type "code"),none,(.fields #[(.str (so "_law_ends") 672),(.str (so "_law_ends") 673),(.str (so "/claim/cut.py") 674),(.int 165 0),(.int 1 0),(.int 0 0),(.int 0 0),(.int 3 0),(.ref 143),(.bool true),(.int 276 0),(.ref 144),.none,(.ref 145),(.ref 146),(.ref 147),(.int 679 0),(.int 165 0),(.str (so "/claim/cut.py") 680)]),#[]⟩
noncomputable def ob27_149 (P:Params):Obj:=⟨(.type "function"),none,(.func { name:=(so "_law_ends"),qualname:=(so "_law_ends"),params:=fnP 24,body:=.stmts (fnB 24),scope:=fnS 24,globals:=3,closure:=[],defaults:=.none,kwdefaults:=.none,doc:=.none,pyModule:=(.str (so "law_in0058_01") 670),annotations:=none,code:=(.ref 148),closureTuple:=.none,builtins:=0 }),#[]⟩
noncomputable def ob27_150 (P:Params):Obj:=⟨(.type "tuple"),none,(.seq #[] 0),#[]⟩
noncomputable def ob27_151 (P:Params):Obj:=⟨.none,none,(.fields #[]),#[]⟩
noncomputable def ob27_152 (P:Params):Obj:=⟨(.type "tuple"),none,(.seq #[(.str (so "numbers") 685),(.str (so "source") 686),(.str (so "place") 687),(.str (so "low") 688),(.str (so "high") 689),(.str (so "line") 690),(.str (so "kind") 691)] 0),#[]⟩
noncomputable def ob27_153 (P:Params):Obj:=⟨(.type "tuple"),none,(.seq #[] 0),#[]⟩
noncomputable def ob27_154 (P:Params):Obj:=⟨.none,none,(.func { name:=(so "_law_lines"),qualname:=(so "_law_lines"),params:=fnP 25,body:=.stmts (fnB 25),scope:=fnS 25,globals:=0,closure:=[],defaults:=.none,kwdefaults:=.none,doc:=.none,pyModule:=.none,annotations:=none,code:=.none,closureTuple:=.none,builtins:=0 }),#[]⟩
noncomputable def ob27_155 (P:Params):Obj:=⟨(.type "code"),none,(.fields #[(.str (so "_law_lines") 682),(.str (so "_law_lines") 683),(.str (so "/claim/cut.py") 684),(.int 172 0),(.int 1 0),(.int 0 0),(.int 0 0),(.int 3 0),(.ref 150),(.bool true),(.int 276 0),(.ref 151),.none,(.ref 152),(.ref 153),(.ref 154),(.int 692 0),(.int 172 0),(.str (so "/claim/cut.py") 693)]),#[]⟩
noncomputable def ob27_156 (P:Params):Obj:=⟨(.type "function"),none,(.func { name:=(so "_law_lines"),qualname:=(so "_law_lines"),params:=fnP 25,body:=.stmts (fnB 25),scope:=fnS 25,globals:=3,closure:=[],defaults:=.none,kwdefaults:=.none,doc:=.none,pyModule:=(.str (so "law_in0058_01") 670),annotations:=none,code:=(.ref 155),closureTuple:=.none,builtins:=0 }),#[]⟩
noncomputable def ob27_157 (P:Params):Obj:=⟨(.type "tuple"),none,(.seq #[] 0),#[]⟩
noncomputable def ob27_158 (P:Params):Obj:=⟨.none,none,(.fields #[]),#[]⟩
noncomputable def ob27_159 (P:Params):Obj:=⟨(.type "tuple"),none,(.seq #[(.str (so "numbers") 698),(.str (so "due") 699),(.str (so "place") 700),(.str (so "low") 701),(.str (so "high") 702),(.str (so "line") 703)] 0),#[]⟩
noncomputable def ob27_160 (P:Params):Obj:=⟨(.type "tuple"),none,(.seq #[] 0),#[]⟩
noncomputable def ob27_161 (P:Params):Obj:=⟨.none,none,(.func { name:=(so "_law_due"),qualname:=(so "_law_due"),params:=fnP 26,body:=.stmts (fnB 26),scope:=fnS 26,globals:=0,closure:=[],defaults:=.none,kwdefaults:=.none,doc:=.none,pyModule:=.none,annotations:=none,code:=.none,closureTuple:=.none,builtins:=0 }),#[]⟩
noncomputable def ob27_162 (P:Params):Obj:=⟨(.type "code"),none,(.fields #[(.str (so "_law_due") 695),(.str (so "_law_due") 696),(.str (so "/claim/cut.py") 697),(.int 182 0),(.int 1 0),(.int 0 0),(.int 0 0),(.int 3 0),(.ref 157),(.bool true),(.int 276 0),(.ref 158),.none,(.ref 159),(.ref 160),(.ref 161),(.int 704 0),(.int 182 0),(.str (so "/claim/cut.py") 705)]),#[]⟩
noncomputable def ob27_163 (P:Params):Obj:=⟨(.type "function"),none,(.func { name:=(so "_law_due"),qualname:=(so "_law_due"),params:=fnP 26,body:=.stmts (fnB 26),scope:=fnS 26,globals:=3,closure:=[],defaults:=.none,kwdefaults:=.none,doc:=.none,pyModule:=(.str (so "law_in0058_01") 670),annotations:=none,code:=(.ref 162),closureTuple:=.none,builtins:=0 }),#[]⟩
noncomputable def ob27_164 (P:Params):Obj:=⟨(.type "tuple"),none,(.seq #[] 0),#[]⟩
noncomputable def ob27_165 (P:Params):Obj:=⟨.none,none,(.fields #[]),#[]⟩
noncomputable def ob27_166 (P:Params):Obj:=⟨(.type "tuple"),none,(.seq #[(.str (so "source") 710),(.str (so "told") 711),(.str (so "place") 712),(.str (so "low") 713),(.str (so "high") 714),(.str (so "error") 715)] 0),#[]⟩
noncomputable def ob27_167 (P:Params):Obj:=⟨(.type "tuple"),none,(.seq #[] 0),#[]⟩
noncomputable def ob27_168 (P:Params):Obj:=⟨.none,none,(.func { name:=(so "_law_told"),qualname:=(so "_law_told"),params:=fnP 27,body:=.stmts (fnB 27),scope:=fnS 27,globals:=0,closure:=[],defaults:=.none,kwdefaults:=.none,doc:=.none,pyModule:=.none,annotations:=none,code:=.none,closureTuple:=.none,builtins:=0 }),#[]⟩
noncomputable def ob27_169 (P:Params):Obj:=⟨(.type "code"),none,(.fields #[(.str (so "_law_told") 707),(.str (so "_law_told") 708),(.str (so "/claim/cut.py") 709),(.int 196 0),(.int 1 0),(.int 0 0),(.int 0 0),(.int 3 0),(.ref 164),(.bool true),(.int 276 0),(.ref 165),.none,(.ref 166),(.ref 167),(.ref 168),(.int 716 0),(.int 196 0),(.str (so "/claim/cut.py") 717)]),#[]⟩
noncomputable def ob27_170 (P:Params):Obj:=⟨(.type "function"),none,(.func { name:=(so "_law_told"),qualname:=(so "_law_told"),params:=fnP 27,body:=.stmts (fnB 27),scope:=fnS 27,globals:=3,closure:=[],defaults:=.none,kwdefaults:=.none,doc:=.none,pyModule:=(.str (so "law_in0058_01") 670),annotations:=none,code:=(.ref 169),closureTuple:=.none,builtins:=0 }),#[]⟩
noncomputable def tr27 (o:Obj) (P:Params):BT:=(((((((((((((((((((((((((((((((tr22 o P).set 3 fun _=>ob27_3 P).set 29 fun _=>ob27_29 P).ins 143 (ob27_143 P)).ins 144 (ob27_144 P)).ins 145 (ob27_145 P)).ins 146 (ob27_146 P)).ins 147 (ob27_147 P)).ins 148 (ob27_148 P)).ins 149 (ob27_149 P)).ins 150 (ob27_150 P)).ins 151 (ob27_151 P)).ins 152 (ob27_152 P)).ins 153 (ob27_153 P)).ins 154 (ob27_154 P)).ins 155 (ob27_155 P)).ins 156 (ob27_156 P)).ins 157 (ob27_157 P)).ins 158 (ob27_158 P)).ins 159 (ob27_159 P)).ins 160 (ob27_160 P)).ins 161 (ob27_161 P)).ins 162 (ob27_162 P)).ins 163 (ob27_163 P)).ins 164 (ob27_164 P)).ins 165 (ob27_165 P)).ins 166 (ob27_166 P)).ins 167 (ob27_167 P)).ins 168 (ob27_168 P)).ins 169 (ob27_169 P)).ins 170 (ob27_170 P))
noncomputable def ob32_3 (P:Params):Obj:=⟨(.type "dict"),none,(.dict #[de P "__name__" 165 (.str (so "law_in0058_01") 670),de P "__doc__" 166 .none,de P "__package__" 167 .none,de P "__loader__" 168 (.builtin "__main__.__loader__#opaque"),de P "__spec__" 169 .none,de P "__annotations__" 170 (.ref 6),de P "__builtins__" 171 (.ref 4),de P "__file__" 173 (.str (so "/claim/cut.py") 172),de P "__cached__" 174 .none,de P "_sre" 275 (.ref 12),de P "_twin_re_1" 319 (.ref 36),de P "_special_chars_map" 467 (.ref 38),de P "escape" 474 (.ref 48),de P "_translate" 495 (.ref 55),de P "heappush" 505 (.ref 62),de P "heappop" 514 (.ref 69),de P "heapreplace" 523 (.ref 76),de P "_siftdown" 535 (.ref 83),de P "_siftup" 548 (.ref 90),de P "digits" 550 (.str (so "0123456789") 549),de P "hexdigits" 555 (.str (so "0123456789abcdefABCDEF") 554),de P "HEXDIGIT_CHARS" 602 (.ref 91),de P "TOMLDecodeError" 620 (.ref 104),de P "skip_chars" 629 (.ref 114),de P "skip_until" 641 (.ref 121),de P "parse_hex_char" 652 (.ref 128),de P "suffixed_err" 662 (.ref 135),de P "is_unicode_scalar_value" 669 (.ref 142),de P "_law_ends" 681 (.ref 149),de P "_law_lines" 694 (.ref 156),de P "_law_due" 706 (.ref 163),de P "_law_told" 718 (.ref 170),de P "_law_joined" 730 (.ref 177),de P "_law_fewest" 736 (.ref 182),de P "_law_bracket" 742 (.ref 187),de P "_law_set" 748 (.ref 192),de P "law" 754 (.ref 197)] 37),#[]⟩
noncomputable def ob32_29 (P:Params):Obj:=⟨.none,none,(.fields #[(.int 5 0),(.int 0 0),(.ref 47),(.int 12 0),(.int 0 0),(.ref 54),(.int 75 0),(.int 0 0),(.ref 61),(.int 78 0),(.int 0 0),(.ref 68),(.int 86 0),(.int 0 0),(.ref 75),(.int 91 0),(.int 0 0),(.ref 82),(.int 102 0),(.int 0 0),(.ref 89),(.int 120 0),(.int 0 0),(.ref 100),(.int 122 0),(.int 0 0),(.ref 113),(.int 129 0),(.int 0 0),(.ref 120),(.int 141 0),(.int 0 0),(.ref 127),(.int 150 0),(.int 0 0),(.ref 134),(.int 162 0),(.int 0 0),(.ref 141),(.int 165 0),(.int 0 0),(.ref 148),(.int 172 0),(.int 0 0),(.ref 155),(.int 182 0),(.int 0 0),(.ref 162),(.int 196 0),(.int 0 0),(.ref 169),(.int 209 0),(.int 0 0),(.ref 176),(.int 221 0),(.int 0 0),(.ref 181),(.int 225 0),(.int 0 0),(.ref 186),(.int 227 0),(.int 0 0),(.ref 191),(.int 245 0),(.int 0 0),(.ref 196)]),#[]⟩
noncomputable def ob32_171 (P:Params):Obj:=⟨(.type "tuple"),none,(.seq #[] 0),#[]⟩
noncomputable def ob32_172 (P:Params):Obj:=⟨.none,none,(.fields #[]),#[]⟩
noncomputable def ob32_173 (P:Params):Obj:=⟨(.type "tuple"),none,(.seq #[(.str (so "ranges") 722),(.str (so "heap") 723),(.str (so "pair") 724),(.str (so "joined") 725),(.str (so "low") 726),(.str (so "high") 727)] 0),#[]⟩
noncomputable def ob32_174 (P:Params):Obj:=⟨(.type "tuple"),none,(.seq #[] 0),#[]⟩
noncomputable def ob32_175 (P:Params):Obj:=⟨.none,none,(.func { name:=(so "_law_joined"),qualname:=(so "_law_joined"),params:=fnP 28,body:=.stmts (fnB 28),scope:=fnS 28,globals:=0,closure:=[],defaults:=.none,kwdefaults:=.none,doc:=.none,pyModule:=.none,annotations:=none,code:=.none,closureTuple:=.none,builtins:=0 }),#[]⟩
noncomputable def ob32_176 (P:Params):Obj:=⟨(.type "code"),none,(.fields #[(.str (so "_law_joined") 719),(.str (so "_law_joined") 720),(.str (so "/claim/cut.py") 721),(.int 209 0),(.int 1 0),(.int 0 0),(.int 0 0),(.int 3 0),(.ref 171),(.bool true),(.int 276 0),(.ref 172),.none,(.ref 173),(.ref 174),(.ref 175),(.int 728 0),(.int 209 0),(.str (so "/claim/cut.py") 729)]),#[]⟩
noncomputable def ob32_177 (P:Params):Obj:=⟨(.type "function"),none,(.func { name:=(so "_law_joined"),qualname:=(so "_law_joined"),params:=fnP 28,body:=.stmts (fnB 28),scope:=fnS 28,globals:=3,closure:=[],defaults:=.none,kwdefaults:=.none,doc:=.none,pyModule:=(.str (so "law_in0058_01") 670),annotations:=none,code:=(.ref 176),closureTuple:=.none,builtins:=0 }),#[]⟩
noncomputable def ob32_178 (P:Params):Obj:=⟨(.type "tuple"),none,(.seq #[] 0),#[]⟩
noncomputable def ob32_179 (P:Params):Obj:=⟨.none,none,(.fields #[]),#[]⟩
noncomputable def ob32_180 (P:Params):Obj:=⟨.none,none,(.func { name:=(so "_law_fewest"),qualname:=(so "_law_fewest"),params:=fnP 29,body:=.stmts (fnB 29),scope:=fnS 29,globals:=0,closure:=[],defaults:=.none,kwdefaults:=.none,doc:=.none,pyModule:=.none,annotations:=none,code:=.none,closureTuple:=.none,builtins:=0 }),#[]⟩
noncomputable def ob32_181 (P:Params):Obj:=⟨(.type "code"),none,(.fields #[(.str (so "_law_fewest") 731),(.str (so "_law_fewest") 732),(.str (so "/claim/cut.py") 733),(.int 221 0),(.int 1 0),(.int 0 0),(.int 0 0),(.int 3 0),(.ref 178),(.bool true),(.int 276 0),(.ref 179),.none,.none,.none,(.ref 180),(.int 734 0),(.int 221 0),(.str (so "/claim/cut.py") 735)]),#[]⟩
noncomputable def ob32_182 (P:Params):Obj:=⟨(.type "function"),none,(.func { name:=(so "_law_fewest"),qualname:=(so "_law_fewest"),params:=fnP 29,body:=.stmts (fnB 29),scope:=fnS 29,globals:=3,closure:=[],defaults:=.none,kwdefaults:=.none,doc:=.none,pyModule:=(.str (so "law_in0058_01") 670),annotations:=none,code:=(.ref 181),closureTuple:=.none,builtins:=0 }),#[]⟩
noncomputable def ob32_183 (P:Params):Obj:=⟨(.type "tuple"),none,(.seq #[] 0),#[]⟩
noncomputable def ob32_184 (P:Params):Obj:=⟨.none,none,(.fields #[]),#[]⟩
noncomputable def ob32_185 (P:Params):Obj:=⟨.none,none,(.func { name:=(so "_law_bracket"),qualname:=(so "_law_bracket"),params:=fnP 30,body:=.stmts (fnB 30),scope:=fnS 30,globals:=0,closure:=[],defaults:=.none,kwdefaults:=.none,doc:=.none,pyModule:=.none,annotations:=none,code:=.none,closureTuple:=.none,builtins:=0 }),#[]⟩
noncomputable def ob32_186 (P:Params):Obj:=⟨(.type "code"),none,(.fields #[(.str (so "_law_bracket") 737),(.str (so "_law_bracket") 738),(.str (so "/claim/cut.py") 739),(.int 225 0),(.int 1 0),(.int 0 0),(.int 0 0),(.int 3 0),(.ref 183),(.bool true),(.int 276 0),(.ref 184),.none,.none,.none,(.ref 185),(.int 740 0),(.int 225 0),(.str (so "/claim/cut.py") 741)]),#[]⟩
noncomputable def ob32_187 (P:Params):Obj:=⟨(.type "function"),none,(.func { name:=(so "_law_bracket"),qualname:=(so "_law_bracket"),params:=fnP 30,body:=.stmts (fnB 30),scope:=fnS 30,globals:=3,closure:=[],defaults:=.none,kwdefaults:=.none,doc:=.none,pyModule:=(.str (so "law_in0058_01") 670),annotations:=none,code:=(.ref 186),closureTuple:=.none,builtins:=0 }),#[]⟩
noncomputable def ob32_188 (P:Params):Obj:=⟨(.type "tuple"),none,(.seq #[] 0),#[]⟩
noncomputable def ob32_189 (P:Params):Obj:=⟨.none,none,(.fields #[]),#[]⟩
noncomputable def ob32_190 (P:Params):Obj:=⟨.none,none,(.func { name:=(so "_law_set"),qualname:=(so "_law_set"),params:=fnP 31,body:=.stmts (fnB 31),scope:=fnS 31,globals:=0,closure:=[],defaults:=.none,kwdefaults:=.none,doc:=.none,pyModule:=.none,annotations:=none,code:=.none,closureTuple:=.none,builtins:=0 }),#[]⟩
noncomputable def ob32_191 (P:Params):Obj:=⟨(.type "code"),none,(.fields #[(.str (so "_law_set") 743),(.str (so "_law_set") 744),(.str (so "/claim/cut.py") 745),(.int 227 0),(.int 2 0),(.int 0 0),(.int 0 0),(.int 3 0),(.ref 188),(.bool true),(.int 276 0),(.ref 189),.none,.none,.none,(.ref 190),(.int 746 0),(.int 227 0),(.str (so "/claim/cut.py") 747)]),#[]⟩
noncomputable def ob32_192 (P:Params):Obj:=⟨(.type "function"),none,(.func { name:=(so "_law_set"),qualname:=(so "_law_set"),params:=fnP 31,body:=.stmts (fnB 31),scope:=fnS 31,globals:=3,closure:=[],defaults:=.none,kwdefaults:=.none,doc:=.none,pyModule:=(.str (so "law_in0058_01") 670),annotations:=none,code:=(.ref 191),closureTuple:=.none,builtins:=0 }),#[]⟩
noncomputable def ob32_193 (P:Params):Obj:=⟨(.type "tuple"),none,(.seq #[] 0),#[]⟩
noncomputable def ob32_194 (P:Params):Obj:=⟨.none,none,(.fields #[]),#[]⟩
noncomputable def ob32_195 (P:Params):Obj:=⟨.none,none,(.func { name:=(so "law"),qualname:=(so "law"),params:=fnP 32,body:=.stmts (fnB 32),scope:=fnS 32,globals:=0,closure:=[],defaults:=.none,kwdefaults:=.none,doc:=.none,pyModule:=.none,annotations:=none,code:=.none,closureTuple:=.none,builtins:=0 }),#[]⟩
noncomputable def ob32_196 (P:Params):Obj:=⟨(.type "code"),none,(.fields #[(.str (so "law") 749),(.str (so "law") 750),(.str (so "/claim/cut.py") 751),(.int 245 0),(.int 1 0),(.int 0 0),(.int 0 0),(.int 3 0),(.ref 193),(.bool true),(.int 276 0),(.ref 194),.none,.none,.none,(.ref 195),(.int 752 0),(.int 245 0),(.str (so "/claim/cut.py") 753)]),#[]⟩
noncomputable def ob32_197 (P:Params):Obj:=⟨(.type "function"),none,(.func { name:=(so "law"),qualname:=(so "law"),params:=fnP 32,body:=.stmts (fnB 32),scope:=fnS 32,globals:=3,closure:=[],defaults:=.none,kwdefaults:=.none,doc:=.none,pyModule:=(.str (so "law_in0058_01") 670),annotations:=none,code:=(.ref 196),closureTuple:=.none,builtins:=0 }),#[]⟩
noncomputable def tr32 (o:Obj) (P:Params):BT:=((((((((((((((((((((((((((((((tr27 o P).set 3 fun _=>ob32_3 P).set 29 fun _=>ob32_29 P).ins 171 (ob32_171 P)).ins 172 (ob32_172 P)).ins 173 (ob32_173 P)).ins 174 (ob32_174 P)).ins 175 (ob32_175 P)).ins 176 (ob32_176 P)).ins 177 (ob32_177 P)).ins 178 (ob32_178 P)).ins 179 (ob32_179 P)).ins 180 (ob32_180 P)).ins 181 (ob32_181 P)).ins 182 (ob32_182 P)).ins 183 (ob32_183 P)).ins 184 (ob32_184 P)).ins 185 (ob32_185 P)).ins 186 (ob32_186 P)).ins 187 (ob32_187 P)).ins 188 (ob32_188 P)).ins 189 (ob32_189 P)).ins 190 (ob32_190 P)).ins 191 (ob32_191 P)).ins 192 (ob32_192 P)).ins 193 (ob32_193 P)).ins 194 (ob32_194 P)).ins 195 (ob32_195 P)).ins 196 (ob32_196 P)).ins 197 (ob32_197 P))
theorem seg1:∀ w:World,(fun os=>segRunT treeTable pw w 28 (some (.ref 6)) 1 91 (SS trb 32 282 w os) (piecesOf (stsT 0 2) envT cdT q0 [topFrame q0]))=fun os=>some (.next,SS tr2 37 322 w os,cdT,⟨3,0,3,8⟩):=by
 intro w
 kernel_rfl
theorem seg3:∀ w:World,(fun os=>segRunT treeTable pw w 28 (some (.ref 6)) 1 1253 (SS tr2 37 322 w os) (piecesOf (stsT 2 1) envT cdT ⟨3,0,3,8⟩ [topFrame q0]))=fun os=>some (.next,SS tr3 42 468 w os,cdT,⟨4,0,4,18⟩):=by
 refine byRow2 "comprehension-iter-twice" (byRow2 "special-get-raises" (fun w=>?_) fun w=>?_) (byRow2 "special-get-raises" (fun w=>?_) fun w=>?_) <;>
  (rw [PySem.W.Fast.te10110043849684766642,PySem.W.Fast.te14364793385576792824];kernel_rfl)
theorem seg4:∀ w:World,(fun os=>segRunT treeTable pw w 28 (some (.ref 6)) 1 191 (SS tr3 42 468 w os) (piecesOf (stsT 3 7) envT cdT ⟨4,0,4,18⟩ [topFrame q0]))=fun os=>some (.next,SS tr10 77 524 w os,cdT,⟨86,0,90,21⟩):=by
 intro w
 kernel_rfl
theorem seg5:∀ w:World,(fun os=>segRunT treeTable pw w 28 (some (.ref 6)) 1 112 (SS tr10 77 524 w os) (piecesOf (stsT 10 5) envT cdT ⟨86,0,90,21⟩ [topFrame q0]))=fun os=>some (.next,SS tr15 91 558 w os,cdT,⟨118,0,118,8⟩):=by
 intro w
 kernel_rfl
theorem seg17:∀ (o:Obj) (w:World),(fun os=>segRunT treeTable pw w 28 (some (.ref 6)) 1 187 (SS (tr16 o) 95 603 w os) (piecesOf (stsT 16 1) envT cdT ⟨119,0,119,14⟩ [topFrame q0]))=fun os=>some (.next,SS (tr17 o) 108 621 w os,cdT,⟨120,0,121,8⟩):=by
 intro o w
 kernel_rfl
theorem seg22:∀ (o:Obj) (w:World),(fun os=>segRunT treeTable pw w 28 (some (.ref 6)) 1 160 (SS (tr17 o) 108 621 w os) (piecesOf (stsT 17 5) envT cdT ⟨120,0,121,8⟩ [topFrame q0]))=fun os=>some (.next,SS (tr22 o) 143 670 w os,cdT,⟨162,0,163,67⟩):=by
 intro o w
 kernel_rfl
theorem seg27:∀ (o:Obj) (w:World),(fun os=>segRunT treeTable pw w 28 (some (.ref 6)) 1 146 (SS (tr22 o) 143 670 w os) (piecesOf (stsT 22 5) envT cdT ⟨162,0,163,67⟩ [topFrame q0]))=fun os=>some (.next,SS (tr27 o) 171 719 w os,cdT,⟨196,0,208,15⟩):=by
 intro o w
 kernel_rfl
theorem seg32:∀ (o:Obj) (w:World),(fun os=>segRunT treeTable pw w 28 (some (.ref 6)) 1 139 (SS (tr27 o) 171 719 w os) (piecesOf (stsT 27 5) envT cdT ⟨196,0,208,15⟩ [topFrame q0]))=fun os=>some (.next,SS (tr32 o) 198 755 w os,cdT,⟨245,0,260,87⟩):=by
 intro o w
 kernel_rfl
noncomputable abbrev SetSt:=Array (Int×Value)×Nat×SetTable
noncomputable def setO (s:SetSt):Obj:=⟨.type "frozenset",none,.set s.1 s.2.1 s.2.2,#[]⟩
noncomputable def hexS:Str:=Str.ofString "0123456789abcdefABCDEF"
noncomputable def itO (i:Int):Obj:=⟨.type "str_ascii_iterator",none,.fields #[.str hexS 554,.int i 0],#[]⟩
noncomputable def trL (P:Params) (o:Obj) (i:Int):BT:=((tr15 P).ins 91 o).ins 92 (itO i)
noncomputable def lpC:Code:=.builtin "set.update.loop" ⟨[.ref 91,.ref 92],[]⟩
inductive LO (P:Params):{α:Type}→Sem α→SetSt→α→SetSt→Nat→Prop
 | pure {α:Type} (a:α) (s:SetSt) (n:Nat):LO P (.pure a) s a s n
 | rule {α:Type} {a:α} {s s':SetSt} {t:String} {k:Unit→Sem α} {n:Nat}:LO P (k ()) s a s' n→LO P (.rule t k) s a s' (n+1)
 | ask {α:Type} {a:α} {s s':SetSt} {k:Setting→Sem α} {n:Nat}:LO P (k ⟨pw,P⟩) s a s' n→LO P (.ask k) s a s' (n+1)
 | load {α:Type} {a:α} {s s':SetSt} {q:Option Value} {k:Obj→Sem α} {n:Nat}:LO P (k (setO s)) s a s' n→LO P (.load 91 q k) s a s' (n+1)
 | store {α:Type} {a:α} {s s₁ s':SetSt} {q:Option Value} {f:Obj→Obj} {k:Unit→Sem α} {n:Nat}:f (setO s)=setO s₁→LO P (k ()) s₁ a s' n→LO P (.update 91 q f k) s a s' (n+1)
theorem LO.more {P:Params} {α:Type} {m:Sem α} {s s':SetSt} {a:α} {n:Nat} (h:LO P m s a s' n):∀ k,LO P m s a s' (n+k):=by
 induction h with
 | pure a s n=>exact fun k=>.pure a s _
 | rule _ ih=>intro k;rw [Nat.add_right_comm];exact .rule (ih k)
 | ask _ ih=>intro k;rw [Nat.add_right_comm];exact .ask (ih k)
 | load _ ih=>intro k;rw [Nat.add_right_comm];exact .load (ih k)
 | store e _ ih=>intro k;rw [Nat.add_right_comm];exact .store e (ih k)
theorem LO.bind {P:Params} {α β:Type} {m:Sem α} {f:α→Sem β} {s s₁ s':SetSt} {a:α} {b:β} {n n':Nat} (h:LO P m s a s₁ n) (h':LO P (f a) s₁ b s' n'):LO P (m>>=f) s b s' (n+n'):=by
 show LO P (m.bind f) s b s' (n+n')
 induction h with
 | pure=>rw [Nat.add_comm];exact h'.more _
 | rule _ ih=>rw [Nat.add_right_comm];exact .rule (ih h')
 | ask _ ih=>rw [Nat.add_right_comm];exact .ask (ih h')
 | load _ ih=>rw [Nat.add_right_comm];exact .load (ih h')
 | store e _ ih=>rw [Nat.add_right_comm];exact .store e (ih h')
theorem lo_state {P:Params} {s:SetSt} (hf:s.2.2.fits s.1.size=true):LO P (setState 91) s s s 1:=by
 refine LO.load ?_
 show LO P (if (s.2.2.place.size != s.1.size||decide (s.2.2.fill>s.2.2.mask))=true then _ else _) s s s 0
 have hc:(s.2.2.place.size != s.1.size||decide (s.2.2.fill>s.2.2.mask))=false:=by
  simp only [SetTable.fits,Bool.and_eq_true,beq_iff_eq,decide_eq_true_eq] at hf
  simp [hf.1,Nat.not_lt.mpr hf.2]
 rw [hc]
 exact LO.pure _ _ _
theorem lo_store {P:Params} {s:SetSt} {es:Array (Int×Value)} {t:SetTable} (hz:es.size≤4096):LO P (storeSet 91 es t) s () (es,s.2.1+1,t) 2:=by
 refine LO.load ?_
 show LO P (if es.size>sizeLine then _ else _) s () _ 1
 rw [if_neg (by rw [sizeLine_eq];lia)]
 exact LO.store (s₁:=(es,s.2.1+1,t)) rfl (LO.pure _ _ 0)
noncomputable def entry (P:Params) (c:Nat) (k:Tok):Int×Value:=(PyData.keyHash P ⟨#[c]⟩,.str ⟨#[c]⟩ k)
structure Good (P:Params) (l:List (Int×Value)) (s:SetSt):Prop where
 perm:List.Perm s.1.toList l
 fits:s.2.2.fits s.1.size=true
structure Fresh (P:Params) (l:List (Int×Value)) (c:Nat):Prop where
 ents:∀ e∈l,∃ d k,e=entry P d k∧d≠c
 few:l.length<4000
theorem lo_add {P:Params} {l:List (Int×Value)} {s:SetSt} {c:Nat} {k:Tok} (G:Good P l s) (F:Fresh P l c) :
  ∃ s',LO P (setAddHashedIn 91 (.str ⟨#[c]⟩ k) (PyData.keyHash P ⟨#[c]⟩) 100000) s true s' 20∧Good P (l++[entry P c k]) s':=by
 have hsz:s.1.size=l.length:=by rw [← Array.length_toList];exact G.perm.length_eq
 have hb:byScan (.str ⟨#[c]⟩ k) s.1=true:=by
  have ha:s.1.all (fun e=>e.2.scannable)=true:=by
   rw [← Array.all_toList,List.all_eq_true]
   intro e he
   obtain ⟨d,k',rfl,_⟩:=F.ents e (G.perm.mem_iff.mp he)
   rfl
  exact Bool.and_eq_true_iff.mpr ⟨decide_eq_true (by rw [hsz];exact Nat.lt_trans F.few (by decide)),ha⟩
 have hx:s.1.all (fun e=>isExactStrKey e.2)=true:=by
  rw [← Array.all_toList,List.all_eq_true]
  intro e he
  obtain ⟨d,k',rfl,_⟩:=F.ents e (G.perm.mem_iff.mp he)
  rfl
 have hn:s.1.findIdx? (fun e=>e.2.isStr ⟨#[c]⟩)=none:=by
  rw [Array.findIdx?_eq_none_iff]
  intro e he
  obtain ⟨d,k',rfl,hd⟩:=F.ents e (G.perm.mem_iff.mp (Array.mem_toList_iff.mpr he))
  show ((⟨#[d]⟩:Str)==⟨#[c]⟩)=false
  rw [beq_eq_false_iff_ne]
  intro e
  exact hd (by simpa using e)
 have hperm:=layNew_perm s.2.2 s.1 (PyData.keyHash P ⟨#[c]⟩) (.str ⟨#[c]⟩ k)
 have hfits:=layNew_fits s.2.2 s.1 (PyData.keyHash P ⟨#[c]⟩) (.str ⟨#[c]⟩ k)
 generalize hL:layNew s.2.2 s.1 (PyData.keyHash P ⟨#[c]⟩) (.str ⟨#[c]⟩ k)=L at hperm hfits
 obtain ⟨es1,t1,wd,gave⟩:=L
 dsimp only at hperm hfits
 rw [Array.toList_push] at hperm
 have p1:List.Perm es1.toList (l++[entry P c k]):=hperm.trans (G.perm.append_right _)
 have z1:es1.size=l.length+1:=by rw [← Array.length_toList,p1.length_eq];simp
 have few:=F.few
 have gw:∀ (b:Bool) (x:SetSt),LO P (match b with | true=>PySem.rule "set.scan.the-table-gave-way" | false=>Pure.pure ()) x () x 1:=fun b x=>by
  cases b
  ·exact LO.pure _ _ _
  ·exact LO.rule (LO.pure _ _ _)
 have tail:∀ t2:SetTable,t2.fits es1.size=true→∃ s',LO P (do
    storeSet 91 es1 t2
    if (!wd&&t2.tooFull)=true then do
     (match (relayAll t2 es1 (SetTable.grown es1.size)).2.2 with | true=>PySem.rule "set.scan.the-table-gave-way" | false=>Pure.pure ())
     storeSet 91 (relayAll t2 es1 (SetTable.grown es1.size)).1 (relayAll t2 es1 (SetTable.grown es1.size)).2.1
     Pure.pure (some true)
    else Pure.pure (some true)) s (some true) s' 6∧Good P (l++[entry P c k]) s':=by
  intro t2 f2
  by_cases hq:(!wd&&t2.tooFull)=true
  ·have hp:=relayAll_perm t2 es1 (SetTable.grown es1.size)
   have hr:=relayAll_fits t2 es1 (SetTable.grown es1.size)
   have z2:(relayAll t2 es1 (SetTable.grown es1.size)).1.size=es1.size:=by rw [← Array.length_toList,hp.length_eq,Array.length_toList]
   refine ⟨((relayAll t2 es1 (SetTable.grown es1.size)).1,s.2.1+1+1,(relayAll t2 es1 (SetTable.grown es1.size)).2.1),?_,⟨hp.trans p1,hr⟩⟩
   refine LO.bind (n:=2) (n':=4) (lo_store (by lia)) ?_
   rw [if_pos hq]
   exact LO.bind (n:=1) (n':=3) (gw _ _) (LO.bind (n:=2) (n':=1) (lo_store (by lia)) (LO.pure _ _ _))
  ·refine ⟨(es1,s.2.1+1,t2),?_,⟨p1,f2⟩⟩
   refine LO.bind (n:=2) (n':=4) (lo_store (by lia)) ?_
   rw [if_neg hq]
   exact LO.pure _ _ _
 have main:∃ s',LO P (setAddByScan 91 (.str ⟨#[c]⟩ k) (PyData.keyHash P ⟨#[c]⟩) s.1 s.2.2) s (some true) s' 12∧Good P (l++[entry P c k]) s':=by
  have first:∀ s',(LO P (do
    (match gave with | true=>PySem.rule "set.scan.the-table-gave-way" | false=>Pure.pure ())
    let byValue←if t1.plain=true then hashByValue 8 (.str ⟨#[c]⟩ k) else Pure.pure true
    let t2:=if byValue=true then t1 else { t1 with plain:=false }
    storeSet 91 es1 t2
    if (!wd&&t2.tooFull)=true then do
     (match (relayAll t2 es1 (SetTable.grown es1.size)).2.2 with | true=>PySem.rule "set.scan.the-table-gave-way" | false=>Pure.pure ())
     storeSet 91 (relayAll t2 es1 (SetTable.grown es1.size)).1 (relayAll t2 es1 (SetTable.grown es1.size)).2.1
     Pure.pure (some true)
    else Pure.pure (some true)) s (some true) s' 8)→LO P (setAddByScan 91 (.str ⟨#[c]⟩ k) (PyData.keyHash P ⟨#[c]⟩) s.1 s.2.2) s (some true) s' 12:=by
   intro s' h
   unfold setAddByScan
   refine LO.bind (n:=1) (n':=11) (a:=()) (s₁:=s) (LO.rule (LO.pure _ _ _)) ?_
   refine LO.bind (n:=3) (n':=8) (a:=ScanMet.absent) (s₁:=s) ?_ ?_
   ·unfold setScan
    dsimp only
    rw [if_pos hx]
    unfold setScanStrs
    rw [hn]
    exact LO.pure _ _ _
   ·dsimp only
    rw [hL]
    cases hpl:t1.plain <;> simp only [hpl] at h ⊢ <;> exact h
  cases hpl:t1.plain with
  | true =>
   obtain ⟨s',ht,hg⟩:=tail { t1 with plain:=false } hfits
   refine ⟨s',first s' ?_,hg⟩
   refine LO.bind (n:=1) (n':=7) (gw _ _) ?_
   rw [hpl]
   exact LO.bind (n:=1) (n':=6) (a:=false) (LO.pure _ _ _) ht
  | false =>
   obtain ⟨s',ht,hg⟩:=tail t1 hfits
   refine ⟨s',first s' ?_,hg⟩
   refine LO.bind (n:=1) (n':=7) (gw _ _) ?_
   rw [hpl]
   exact LO.bind (n:=1) (n':=6) (a:=true) (LO.pure _ _ _) ht
 obtain ⟨s',ht,hg⟩:=main
 refine ⟨s',?_,hg⟩
 refine LO.bind (n:=1) (n':=19) (lo_state G.fits) ?_
 dsimp only
 rw [if_pos hb]
 exact LO.bind (n:=12) (n':=7) ht (LO.pure _ _ _)
theorem goT_add {p:Program} {w:World} {n₀:Nat} {ann:Option Value} {b:Nat}:∀ {n:Nat} {m:Nat} {s s₁:SharedT} {t t₁:Thread} {r:Option (SharedT×Thread)},segGoT treeTable p w n₀ ann b n s t=some (s₁,t₁) →
  segGoT treeTable p w n₀ ann b m s₁ t₁=r→segGoT treeTable p w n₀ ann b (n+m) s t=r
 | 0,m,s,s₁,t,t₁,r,h,k=>by
  obtain ⟨rfl,rfl⟩:s=s₁∧t=t₁:=by simpa [segGoT] using h
  rw [Nat.zero_add];exact k
 | n+1,m,s,s₁,t,t₁,r,h,k=>by
  rw [show n+1+m=n+m+1 by exact Nat.add_right_comm n 1 m]
  unfold segGoT at h ⊢
  cases he:endAt b t with
  | some f=>rw [he] at h;cases h
  | none =>
   rw [he] at h
   dsimp only at h ⊢
   cases hk:stepOk n₀ ann t with
   | false=>rw [hk] at h;cases h
   | true =>
    rw [hk] at h
    dsimp only at h ⊢
    cases hs:stepT (denote treeTable) p w s t with
    | none=>rw [hs] at h;cases h
    | some x=>obtain ⟨s₂,t₂⟩:=x;rw [hs] at h;exact goT_add h k
end
section
noncomputable abbrev SL (P:Params) (s:SetSt) (i:Int) (k:Nat) (os:OsState):SharedT:=⟨trL P (setO s) i,93,{},#[],{},k,os⟩
theorem trL_get (P:Params) (o:Obj) (i:Int):(trL P o i).get 91=some o:=by kernel_rfl
theorem trL_set (P:Params) (o:Obj) (i:Int) (f:Obj→Obj):(trL P o i).set 91 f=trL P (f o) i:=by kernel_rfl
theorem step_go {w:World} {S S':SharedT} {t t':Thread} (e1:endAt 1 t=none) (e2:stepOk 28 (some (.ref 6)) t=true) (e3:stepT (denote treeTable) pw w S t=some (S',t')) :
  segGoT treeTable pw w 28 (some (.ref 6)) 1 1 S t=some (S',t'):=by
 unfold segGoT
 rw [e1];dsimp only
 rw [e2];dsimp only
 rw [e3];dsimp only
 unfold segGoT;rfl
theorem st_load {den:Code→Sem Fin} {w:World} {T:BT} {n:Nat} {life:Life} {gens:Array GenState} {dr:Drawn} {k:Nat} {os:OsState} {a:Addr} {o:Obj} {q:Option Value} {K:Obj→Sem Fin} {c:Code} {pos:Pos} {st:List Frame} (hn:Nat.blt a n=true) (h:T.get a=some o) (ha:alive o=some o) :
  stepT den pw w ⟨T,n,life,gens,dr,k,os⟩ ⟨.load a q K,c,pos,st⟩=some (⟨T,n,life,gens,dr,k,os⟩,⟨K o,c,pos,st⟩):=by
 unfold stepT
 dsimp only
 rw [hn];dsimp only
 rw [h];dsimp only
 rw [ha]
theorem st_upd {den:Code→Sem Fin} {w:World} {T:BT} {n:Nat} {life:Life} {gens:Array GenState} {dr:Drawn} {k:Nat} {os:OsState} {a:Addr} {o:Obj} {q:Option Value} {f:Obj→Obj} {K:Unit→Sem Fin} {c:Code} {pos:Pos} {st:List Frame} (hn:Nat.blt a n=true) (h:T.get a=some o) (ha:alive o=some o) :
  stepT den pw w ⟨T,n,life,gens,dr,k,os⟩ ⟨.update a q f K,c,pos,st⟩=some (⟨T.set a f,n,life,gens,dr,k,os⟩,⟨K (),c,pos,st⟩):=by
 unfold stepT
 dsimp only
 rw [hn];dsimp only
 rw [h];dsimp only
 rw [ha]
theorem one_load {w:World} {P:Params} {s:SetSt} {i:Int} {k:Nat} {os:OsState} {q:Option Value} {K:Obj→Sem Fin} {pos:Pos} {f1 f2:Frame} {rest:List Frame} :
  segGoT treeTable pw w 28 (some (.ref 6)) 1 1 (SL P s i k os) ⟨.load 91 q K,lpC,pos,f1::f2::rest⟩=some (SL P s i k os,⟨K (setO s),lpC,pos,f1::f2::rest⟩) :=
 step_go rfl (by rfl) (st_load (by rfl) (trL_get P (setO s) i) (by rfl))
theorem one_upd {w:World} {P:Params} {s s₁:SetSt} {i:Int} {k:Nat} {os:OsState} {q:Option Value} {f:Obj→Obj} {K:Unit→Sem Fin} {pos:Pos} {f1 f2:Frame} {rest:List Frame} (hf:f (setO s)=setO s₁) :
  segGoT treeTable pw w 28 (some (.ref 6)) 1 1 (SL P s i k os) ⟨.update 91 q f K,lpC,pos,f1::f2::rest⟩=some (SL P s₁ i k os,⟨K (),lpC,pos,f1::f2::rest⟩):=by
 have e:=st_upd (den:=denote treeTable) (w:=w) (T:=trL P (setO s) i) (n:=93) (life:={}) (gens:=#[]) (dr:={}) (k:=k) (os:=os) (q:=q) (f:=f) (K:=K) (c:=lpC) (pos:=pos) (st:=f1::f2::rest) (by rfl) (trL_get P (setO s) i) (by rfl)
 rw [trL_set,hf] at e
 exact step_go rfl (by rfl) e
theorem one_rule {w:World} {S:SharedT} {t:String} {K:Unit→Sem Fin} {pos:Pos} {f1 f2:Frame} {rest:List Frame} :
  segGoT treeTable pw w 28 (some (.ref 6)) 1 1 S ⟨.rule t K,lpC,pos,f1::f2::rest⟩=some (S,⟨K (),lpC,pos,f1::f2::rest⟩) :=
 step_go rfl (by rfl) (by rfl)
theorem one_ask {w:World} {S:SharedT} {K:Setting→Sem Fin} {pos:Pos} {f1 f2:Frame} {rest:List Frame} :
  segGoT treeTable pw w 28 (some (.ref 6)) 1 1 S ⟨.ask K,lpC,pos,f1::f2::rest⟩=some (S,⟨K ⟨pw,w.params⟩,lpC,pos,f1::f2::rest⟩) :=
 step_go rfl (by rfl) (by rfl)
theorem one_again {w:World} {S:SharedT} {pos:Pos} {f1 f2:Frame} {rest:List Frame} :
  segGoT treeTable pw w 28 (some (.ref 6)) 1 1 S ⟨again lpC,lpC,pos,f1::f2::rest⟩=some (S,⟨denote treeTable lpC,lpC,pos,f1::f2::rest⟩) :=
 step_go rfl (by kernel_rfl) (by kernel_rfl)
theorem lo_run {P:Params} {w:World} (hw:w.params=P) {α:Type} {m:Sem α} {s s':SetSt} {a:α} {n:Nat} (h:LO P m s a s' n) :
  ∀ (i:Int) (k:Nat) (os:OsState) (K:α→Sem Fin) (pos:Pos) (f1 f2:Frame) (rest:List Frame),∃ j,j≤n∧segGoT treeTable pw w 28 (some (.ref 6)) 1 j (SL P s i k os) ⟨m.bind K,lpC,pos,f1::f2::rest⟩=some (SL P s' i k os,⟨K a,lpC,pos,f1::f2::rest⟩):=by
 subst hw
 induction h with
 | pure a s=>exact fun i k os K pos f1 f2 rest=>⟨0,Nat.zero_le _,rfl⟩
 | rule _ ih =>
  intro i k os K pos f1 f2 rest
  obtain ⟨j,hj,e⟩:=ih i k os K pos f1 f2 rest
  exact ⟨1+j,by lia,goT_add one_rule e⟩
 | ask _ ih =>
  intro i k os K pos f1 f2 rest
  obtain ⟨j,hj,e⟩:=ih i k os K pos f1 f2 rest
  exact ⟨1+j,by lia,goT_add one_ask e⟩
 | load _ ih =>
  intro i k os K pos f1 f2 rest
  obtain ⟨j,hj,e⟩:=ih i k os K pos f1 f2 rest
  exact ⟨1+j,by lia,goT_add one_load e⟩
 | store hf _ ih =>
  intro i k os K pos f1 f2 rest
  obtain ⟨j,hj,e⟩:=ih i k os K pos f1 f2 rest
  exact ⟨1+j,by lia,goT_add (one_upd hf) e⟩
end
section
noncomputable abbrev sgr:String:="special-get-raises"
theorem segB (w:World) (os T n toks f1 f2 rest pos c tk) (K:Bool→Sem Fin):segGoT treeTable pw w 28 (some (.ref 6)) 1 6 ⟨T,n,{},#[],{},toks,os⟩ ⟨(setAdd 91 (.str c tk)).bind K,lpC,pos,f1::f2::rest⟩
 = some (⟨T,n,{},#[],{},toks+1,os⟩,⟨((strHash c).bind fun h=>setAddHashed 91 (.str c tk) h).bind K,lpC,pos,f1::f2::rest⟩):=by
 refine byRow2 sgr (P:=fun w=>segGoT treeTable pw w 28 (some (.ref 6)) 1 6 ⟨T,n,{},#[],{},toks,os⟩ ⟨(setAdd 91 (.str c tk)).bind K,lpC,pos,f1::f2::rest⟩
 = some (⟨T,n,{},#[],{},toks+1,os⟩,⟨((strHash c).bind fun h=>setAddHashed 91 (.str c tk) h).bind K,lpC,pos,f1::f2::rest⟩)) (fun w=>?_) (fun w=>?_) w
 ·rw [PySem.W.Fast.te10295753902157049106,PySem.W.Fast.te14364793385576792824,PySem.W.Fast.te5518019106960326183,PySem.W.R.bindR_eq,PySem.W.Fast.te16065284519293194179,PySem.W.Fast.te2939129504906810491];kernel_rfl
 ·rw [PySem.W.Fast.te10295753902157049106,PySem.W.Fast.te14364793385576792824,PySem.W.Fast.te5518019106960326183,PySem.W.R.bindR_eq,PySem.W.Fast.te16065284519293194179,PySem.W.Fast.te2939129504906810491];kernel_rfl
noncomputable def ASays (w:World) (i:Int) (k c:Nat):Prop:=∀ (s:SetSt) (os:OsState) (pos:Pos) (f1 f2:Frame) (rest:List Frame),
 segGoT treeTable pw w 28 (some (.ref 6)) 1 10 (SL w.params s i k os) ⟨denote treeTable lpC,lpC,pos,f1::f2::rest⟩
 = some (SL w.params s (i+1) (k+1) os,⟨(setAdd 91 (.str ⟨#[c]⟩ k)).bind (fun _=>again lpC),lpC,pos,f1::f2::rest⟩)
open PySem.W.Fast in
noncomputable def AFast (w:World) (i:Int) (k c:Nat):Prop:=∀ (s:SetSt) (os:OsState) (pos:Pos) (f1 f2:Frame) (rest:List Frame),
 tw10295753902157049106 tw14364793385576792824 pw w 28 (some (.ref 6)) 1 10 (SL w.params s i k os) ⟨denote tw14364793385576792824 lpC,lpC,pos,f1::f2::rest⟩
 = some (SL w.params s (i+1) (k+1) os,⟨R.bindR (tw5518019106960326183 91 (.str ⟨#[c]⟩ k)) (fun _=>tw12377390311714414960 lpC),lpC,pos,f1::f2::rest⟩)
theorem asays_of (w:World) (i:Int) (k c:Nat) (h:AFast w i k c):ASays w i k c:=by
 unfold ASays
 rw [PySem.W.Fast.te10295753902157049106,PySem.W.Fast.te14364793385576792824,PySem.W.Fast.te5518019106960326183,PySem.W.R.bindR_eq,PySem.W.Fast.te12377390311714414960]
 exact h
theorem segA0 (w:World):ASays w 0 558 48 :=
 byRow2 sgr (P:=fun w=>ASays w 0 558 48) (fun w=>asays_of _ _ _ _ fun s os pos f1 f2 rest=>by kernel_rfl) (fun w=>asays_of _ _ _ _ fun s os pos f1 f2 rest=>by kernel_rfl) w
theorem segA1 (w:World):ASays w 1 560 49 :=
 byRow2 sgr (P:=fun w=>ASays w 1 560 49) (fun w=>asays_of _ _ _ _ fun s os pos f1 f2 rest=>by kernel_rfl) (fun w=>asays_of _ _ _ _ fun s os pos f1 f2 rest=>by kernel_rfl) w
theorem segA2 (w:World):ASays w 2 562 50 :=
 byRow2 sgr (P:=fun w=>ASays w 2 562 50) (fun w=>asays_of _ _ _ _ fun s os pos f1 f2 rest=>by kernel_rfl) (fun w=>asays_of _ _ _ _ fun s os pos f1 f2 rest=>by kernel_rfl) w
theorem segA3 (w:World):ASays w 3 564 51 :=
 byRow2 sgr (P:=fun w=>ASays w 3 564 51) (fun w=>asays_of _ _ _ _ fun s os pos f1 f2 rest=>by kernel_rfl) (fun w=>asays_of _ _ _ _ fun s os pos f1 f2 rest=>by kernel_rfl) w
theorem segA4 (w:World):ASays w 4 566 52 :=
 byRow2 sgr (P:=fun w=>ASays w 4 566 52) (fun w=>asays_of _ _ _ _ fun s os pos f1 f2 rest=>by kernel_rfl) (fun w=>asays_of _ _ _ _ fun s os pos f1 f2 rest=>by kernel_rfl) w
theorem segA5 (w:World):ASays w 5 568 53 :=
 byRow2 sgr (P:=fun w=>ASays w 5 568 53) (fun w=>asays_of _ _ _ _ fun s os pos f1 f2 rest=>by kernel_rfl) (fun w=>asays_of _ _ _ _ fun s os pos f1 f2 rest=>by kernel_rfl) w
theorem segA6 (w:World):ASays w 6 570 54 :=
 byRow2 sgr (P:=fun w=>ASays w 6 570 54) (fun w=>asays_of _ _ _ _ fun s os pos f1 f2 rest=>by kernel_rfl) (fun w=>asays_of _ _ _ _ fun s os pos f1 f2 rest=>by kernel_rfl) w
theorem segA7 (w:World):ASays w 7 572 55 :=
 byRow2 sgr (P:=fun w=>ASays w 7 572 55) (fun w=>asays_of _ _ _ _ fun s os pos f1 f2 rest=>by kernel_rfl) (fun w=>asays_of _ _ _ _ fun s os pos f1 f2 rest=>by kernel_rfl) w
theorem segA8 (w:World):ASays w 8 574 56 :=
 byRow2 sgr (P:=fun w=>ASays w 8 574 56) (fun w=>asays_of _ _ _ _ fun s os pos f1 f2 rest=>by kernel_rfl) (fun w=>asays_of _ _ _ _ fun s os pos f1 f2 rest=>by kernel_rfl) w
theorem segA9 (w:World):ASays w 9 576 57 :=
 byRow2 sgr (P:=fun w=>ASays w 9 576 57) (fun w=>asays_of _ _ _ _ fun s os pos f1 f2 rest=>by kernel_rfl) (fun w=>asays_of _ _ _ _ fun s os pos f1 f2 rest=>by kernel_rfl) w
theorem segA10 (w:World):ASays w 10 578 97 :=
 byRow2 sgr (P:=fun w=>ASays w 10 578 97) (fun w=>asays_of _ _ _ _ fun s os pos f1 f2 rest=>by kernel_rfl) (fun w=>asays_of _ _ _ _ fun s os pos f1 f2 rest=>by kernel_rfl) w
theorem segA11 (w:World):ASays w 11 580 98 :=
 byRow2 sgr (P:=fun w=>ASays w 11 580 98) (fun w=>asays_of _ _ _ _ fun s os pos f1 f2 rest=>by kernel_rfl) (fun w=>asays_of _ _ _ _ fun s os pos f1 f2 rest=>by kernel_rfl) w
theorem segA12 (w:World):ASays w 12 582 99 :=
 byRow2 sgr (P:=fun w=>ASays w 12 582 99) (fun w=>asays_of _ _ _ _ fun s os pos f1 f2 rest=>by kernel_rfl) (fun w=>asays_of _ _ _ _ fun s os pos f1 f2 rest=>by kernel_rfl) w
theorem segA13 (w:World):ASays w 13 584 100 :=
 byRow2 sgr (P:=fun w=>ASays w 13 584 100) (fun w=>asays_of _ _ _ _ fun s os pos f1 f2 rest=>by kernel_rfl) (fun w=>asays_of _ _ _ _ fun s os pos f1 f2 rest=>by kernel_rfl) w
theorem segA14 (w:World):ASays w 14 586 101 :=
 byRow2 sgr (P:=fun w=>ASays w 14 586 101) (fun w=>asays_of _ _ _ _ fun s os pos f1 f2 rest=>by kernel_rfl) (fun w=>asays_of _ _ _ _ fun s os pos f1 f2 rest=>by kernel_rfl) w
theorem segA15 (w:World):ASays w 15 588 102 :=
 byRow2 sgr (P:=fun w=>ASays w 15 588 102) (fun w=>asays_of _ _ _ _ fun s os pos f1 f2 rest=>by kernel_rfl) (fun w=>asays_of _ _ _ _ fun s os pos f1 f2 rest=>by kernel_rfl) w
theorem segA16 (w:World):ASays w 16 590 65 :=
 byRow2 sgr (P:=fun w=>ASays w 16 590 65) (fun w=>asays_of _ _ _ _ fun s os pos f1 f2 rest=>by kernel_rfl) (fun w=>asays_of _ _ _ _ fun s os pos f1 f2 rest=>by kernel_rfl) w
theorem segA17 (w:World):ASays w 17 592 66 :=
 byRow2 sgr (P:=fun w=>ASays w 17 592 66) (fun w=>asays_of _ _ _ _ fun s os pos f1 f2 rest=>by kernel_rfl) (fun w=>asays_of _ _ _ _ fun s os pos f1 f2 rest=>by kernel_rfl) w
theorem segA18 (w:World):ASays w 18 594 67 :=
 byRow2 sgr (P:=fun w=>ASays w 18 594 67) (fun w=>asays_of _ _ _ _ fun s os pos f1 f2 rest=>by kernel_rfl) (fun w=>asays_of _ _ _ _ fun s os pos f1 f2 rest=>by kernel_rfl) w
theorem segA19 (w:World):ASays w 19 596 68 :=
 byRow2 sgr (P:=fun w=>ASays w 19 596 68) (fun w=>asays_of _ _ _ _ fun s os pos f1 f2 rest=>by kernel_rfl) (fun w=>asays_of _ _ _ _ fun s os pos f1 f2 rest=>by kernel_rfl) w
theorem segA20 (w:World):ASays w 20 598 69 :=
 byRow2 sgr (P:=fun w=>ASays w 20 598 69) (fun w=>asays_of _ _ _ _ fun s os pos f1 f2 rest=>by kernel_rfl) (fun w=>asays_of _ _ _ _ fun s os pos f1 f2 rest=>by kernel_rfl) w
theorem segA21 (w:World):ASays w 21 600 70 :=
 byRow2 sgr (P:=fun w=>ASays w 21 600 70) (fun w=>asays_of _ _ _ _ fun s os pos f1 f2 rest=>by kernel_rfl) (fun w=>asays_of _ _ _ _ fun s os pos f1 f2 rest=>by kernel_rfl) w
noncomputable def hexCs:List Nat:=[48,49,50,51,52,53,54,55,56,57,97,98,99,100,101,102,65,66,67,68,69,70]
noncomputable def Goes (n:Nat) (P:Params) (s:SetSt) (i:Int) (k:Nat) (s':SetSt) (i':Int) (k':Nat):Prop:=∀ w:World,w.params=P→∀ (os:OsState) (pos:Pos) (f1 f2:Frame) (rest:List Frame),
 ∃ j,j≤n∧segGoT treeTable pw w 28 (some (.ref 6)) 1 j (SL P s i k os) ⟨denote treeTable lpC,lpC,pos,f1::f2::rest⟩=some (SL P s' i' k' os,⟨denote treeTable lpC,lpC,pos,f1::f2::rest⟩)
theorem Goes.trans {P:Params} {s s₁ s':SetSt} {i i₁ i':Int} {k k₁ k':Nat} {n n':Nat} (h:Goes n P s i k s₁ i₁ k₁) (h':Goes n' P s₁ i₁ k₁ s' i' k'):Goes (n+n') P s i k s' i' k':=fun w hw os pos f1 f2 rest=>by
 obtain ⟨j,hj,e⟩:=h w hw os pos f1 f2 rest
 obtain ⟨j',hj',e'⟩:=h' w hw os pos f1 f2 rest
 exact ⟨j+j',Nat.add_le_add hj hj',goT_add e e'⟩
theorem turn {P:Params} {l:List (Int×Value)} {s:SetSt} {i:Int} {k c:Nat} (A:∀ w,ASays w i k c) (G:Good P l s) (F:Fresh P l c) :
  ∃ s',Good P (l++[entry P c k]) s'∧Goes 40 P s i k s' (i+1) (k+2):=by
 obtain ⟨s',L,G'⟩:=lo_add (k:=k) G F
 refine ⟨s',G',fun w hw os pos f1 f2 rest=>?_⟩
 subst hw
 have L':LO w.params ((strHash ⟨#[c]⟩).bind fun h=>setAddHashed 91 (.str ⟨#[c]⟩ k) h) s true s' 22 :=
  LO.bind (n:=2) (n':=20) (m:=strHash ⟨#[c]⟩) (a:=PyData.keyHash w.params ⟨#[c]⟩) (s₁:=s) (LO.ask (LO.pure _ _ _)) L
 obtain ⟨j,hj,e⟩:=lo_run rfl L' (i+1) (k+1+1) os (fun _=>again lpC) pos f1 f2 rest
 exact ⟨10+(6+(j+1)),by lia,goT_add (A w s os pos f1 f2 rest) (goT_add (segB w os _ _ _ f1 f2 rest pos _ _ _) (goT_add e one_again))⟩
theorem fresh_of (P:Params) (cs:List Nat) (k0:Nat) (c:Nat) (hc:c∉cs) (hl:cs.length<4000):Fresh P (cs.zipIdx.map fun p=>entry P p.1 (k0+2*p.2)) c:=by
 refine ⟨fun e he=>?_,by simpa using hl⟩
 obtain ⟨p,hp,rfl⟩:=List.mem_map.mp he
 exact ⟨p.1,_,rfl,fun h=>hc (h▸(List.mem_zipIdx hp).2.2▸List.getElem_mem _)⟩
theorem segA (w:World):∀ (i:Nat) (h:i<hexCs.length),ASays w (i:Int) (558+2*i) (hexCs[i])
 | 0,_=>segA0 w
 | 1,_=>segA1 w
 | 2,_=>segA2 w
 | 3,_=>segA3 w
 | 4,_=>segA4 w
 | 5,_=>segA5 w
 | 6,_=>segA6 w
 | 7,_=>segA7 w
 | 8,_=>segA8 w
 | 9,_=>segA9 w
 | 10,_=>segA10 w
 | 11,_=>segA11 w
 | 12,_=>segA12 w
 | 13,_=>segA13 w
 | 14,_=>segA14 w
 | 15,_=>segA15 w
 | 16,_=>segA16 w
 | 17,_=>segA17 w
 | 18,_=>segA18 w
 | 19,_=>segA19 w
 | 20,_=>segA20 w
 | 21,_=>segA21 w
 | n+22,h=>absurd h (by have:hexCs.length=22:=rfl;lia)
noncomputable def hexLn (P:Params) (n:Nat):List (Int×Value):=(hexCs.take n).zipIdx.map fun p=>entry P p.1 (558+2*p.2)
theorem hexLn_succ (P:Params) (n:Nat) (h:n<hexCs.length):hexLn P (n+1)=hexLn P n++[entry P hexCs[n] (558+2*n)]:=by
 unfold hexLn
 rw [List.take_succ_eq_append_getElem h,List.zipIdx_append,List.map_append]
 simp [Nat.min_eq_left (Nat.le_of_lt h)]
theorem hex_nodup:∀ n (h:n<hexCs.length),hexCs[n]∉hexCs.take n:=by decide
theorem turns_n (P:Params) (led:Bool):∀ n:Nat,n≤hexCs.length→∃ s',Good P (hexLn P n) s'∧Goes (40*n) P (#[],0,SetTable.fresh 0 0 led) 0 558 s' (n:Int) (558+2*n)
 | 0,_=>⟨_,⟨.refl _,by rfl⟩,fun w hw os pos f1 f2 rest=>⟨0,Nat.le_refl _,rfl⟩⟩
 | n+1,h=>by
  obtain ⟨s,G,R⟩:=turns_n P led n (Nat.le_of_succ_le h)
  obtain ⟨s',G',R'⟩:=turn (fun w=>segA w n h) G (fresh_of P (hexCs.take n) 558 _ (hex_nodup n h) (by have:hexCs.length=22:=rfl;rw [List.length_take];lia))
  rw [← hexLn_succ P n h] at G'
  exact ⟨s',G',R.trans R'⟩
theorem all_turns (P:Params) (led:Bool):∃ s',Good P (hexLn P 22) s'∧Goes 880 P (#[],0,SetTable.fresh 0 0 led) 0 558 s' 22 602:=turns_n P led 22 (by decide)
noncomputable def hexSt (P:Params):SetSt:=Classical.choose (all_turns P (!P.followText "set-order"))
theorem hexGood (P:Params):Good P (hexLn P 22) (hexSt P):=(Classical.choose_spec (all_turns P (!P.followText "set-order"))).1
theorem hexGoes (P:Params):Goes 880 P (#[],0,SetTable.fresh 0 0 (!P.followText "set-order")) 0 558 (hexSt P) 22 602:=(Classical.choose_spec (all_turns P (!P.followText "set-order"))).2
noncomputable def hexO (P:Params):Obj:=setO (hexSt P)
end
section
noncomputable abbrev S0st (P:Params):SetSt:=(#[],0,SetTable.fresh 0 0 (!P.followText "set-order"))
noncomputable def th16:Thread:=piecesOf (stsT 15 1) envT cdT ⟨118,0,118,8⟩ [topFrame q0]
noncomputable def stk16 (w:World) (os:OsState):List Frame:=match segGoT treeTable pw w 28 (some (.ref 6)) 1 20 (SS tr15 91 558 w os) th16 with | some (_,t)=>t.stack | none=>[]
noncomputable def pos16:Pos:=⟨119,17,119,37⟩
theorem st16a (w:World) (os:OsState):segGoT treeTable pw w 28 (some (.ref 6)) 1 20 (SS tr15 91 558 w os) th16=some (SL w.params (S0st w.params) 0 558 os,⟨denote treeTable lpC,lpC,pos16,stk16 w os⟩):=by
 refine byRow2 sgr (P:=fun w=>segGoT treeTable pw w 28 (some (.ref 6)) 1 20 (SS tr15 91 558 w os) th16=some (SL w.params (S0st w.params) 0 558 os,⟨denote treeTable lpC,lpC,pos16,stk16 w os⟩)) (fun w=>?_) (fun w=>?_) w
 ·unfold stk16
  kernel_rfl
 ·unfold stk16
  kernel_rfl
theorem stk16_len (w:World) (os:OsState):(stk16 w os).length=4:=by
 refine byRow2 sgr (P:=fun w=>(stk16 w os).length=4) (fun w=>?_) (fun w=>?_) w
 ·unfold stk16
  kernel_rfl
 ·unfold stk16
  kernel_rfl
theorem st16b (w:World) (os:OsState) (s:SetSt):segRunT treeTable pw w 28 (some (.ref 6)) 1 60 (SL w.params s 22 602 os) ⟨denote treeTable lpC,lpC,pos16,stk16 w os⟩=some (.next,SS (tr16 (setO s)) 95 603 w os,cdT,⟨119,0,119,14⟩):=by
 refine byRow2 sgr (P:=fun w=>segRunT treeTable pw w 28 (some (.ref 6)) 1 60 (SL w.params s 22 602 os) ⟨denote treeTable lpC,lpC,pos16,stk16 w os⟩=some (.next,SS (tr16 (setO s)) 95 603 w os,cdT,⟨119,0,119,14⟩)) (fun w=>?_) (fun w=>?_) w
 ·unfold stk16
  kernel_rfl
 ·unfold stk16
  kernel_rfl
noncomputable def Hp0 (P:Params):Heap:=absHeap (tr0 P) 28 {}
theorem opens (w:World):(fencedOpening treeTable pw w 6000).map (fun s=>(s.heap,s.gens,s.drawn,s.toks))=some (Hp0 w.params,#[],{},276):=by
 unfold fencedOpening
 kernel_rfl
theorem run16 (w:World) (os:OsState):∃ j,j≤880∧segRun treeTable pw w 28 (some (.ref 6)) 1 (20+(j+60)) (SS tr15 91 558 w os).abs th16=some (.next,(SS (tr16 (hexO w.params)) 95 603 w os).abs,cdT,⟨119,0,119,14⟩):=by
 obtain ⟨f1,f2,rest,hs⟩:∃ f1 f2 rest,stk16 w os=f1::f2::rest:=by
  have h:=stk16_len w os
  match h':stk16 w os,h with
  | f1::f2::rest,_=>exact ⟨f1,f2,rest,rfl⟩
 obtain ⟨j,hj,e⟩:=hexGoes w.params w rfl os pos16 f1 f2 rest
 rw [← hs] at e
 exact ⟨j,hj,seg_go (segGo_of (st16a w os)) (seg_go (segGo_of e) (segRun_of (st16b w os (hexSt w.params))))⟩
theorem pre_run (w:World) (os:OsState):topGo treeTable pw w 28 (some (.ref 6)) 12 ⟨Hp0 w.params,#[],{},276,os⟩ (topStub pw)=some ((SS tra 32 282 w os).abs,⟨denote treeTable cdT,cdT,q0,[topFrame q0]⟩):=by
 kernel_rfl
theorem block_run (w:World) (os:OsState):segRun treeTable pw w 28 (some (.ref 6)) 1 1 (SS tra 32 282 w os).abs (blockOf bodyT envT cdT q0 [topFrame q0])=some (.next,(SS trb 32 282 w os).abs,cdT,q0):=by
 kernel_rfl
theorem fin_run (w:World) (os:OsState) (o:Obj):topRun treeTable pw w 28 (some (.ref 6)) 2 (SS (tr32 o) 198 755 w os).abs ⟨doneF .next,cdT,⟨245,0,260,87⟩,[topFrame q0]⟩=some (SS (tr32 o) 198 755 w os).abs:=by
 kernel_rfl
theorem body_is:bodyT=stsT 0 2++(stsT 2 1++(stsT 3 7++(stsT 10 5++(stsT 15 1++(stsT 16 1++(stsT 17 5++(stsT 22 5++(stsT 27 5++[])))))))):=by kernel_rfl
noncomputable def Hp1 (P:Params):Heap:=absHeap (tr32 (hexO P) P) 198 {}
theorem abs1_is (w:World) (os:OsState):(SS (tr32 (hexO w.params)) 198 755 w os).abs=⟨Hp1 w.params,#[],{},755,os⟩:=by kernel_rfl
theorem fin_mono {w:World} {n m M:Nat} {s r:Shared} {t:Thread} (h:topRun treeTable pw w 28 (some (.ref 6)) n s t=some r) (e:n+m=M):topRun treeTable pw w 28 (some (.ref 6)) M s t=some r:=e▸topRun_mono m n s t r h
theorem top_runs (w:World) (os:OsState):topRun treeTable pw w 28 (some (.ref 6)) 3254 ⟨Hp0 w.params,#[],{},276,os⟩ (topStub pw)=some ⟨Hp1 w.params,#[],{},755,os⟩:=by
 obtain ⟨j,hj,e16⟩:=run16 w os
 have q:∀ {a b:OsState→Option (Flow×SharedT×Code×Pos)},a=b→a os=b os:=fun h=>congrFun h os
 have k:=fin_run w os (hexO w.params)
 have k:=piece_app (segRun_of (q (seg32 (hexO w.params) w))) (piece_nil k)
 have k:=piece_app (segRun_of (q (seg27 (hexO w.params) w))) k
 have k:=piece_app (segRun_of (q (seg22 (hexO w.params) w))) k
 have k:=piece_app (segRun_of (q (seg17 (hexO w.params) w))) k
 have k:=piece_app e16 k
 have k:=piece_app (segRun_of (q (seg5 w))) k
 have k:=piece_app (segRun_of (q (seg4 w))) k
 have k:=piece_app (segRun_of (q (seg3 w))) k
 have k:=piece_app (segRun_of (q (seg1 w))) k
 rw [← body_is] at k
 have k:=piece_block (block_run w os) k
 have k:=go_top (pre_run w os) k
 have k:=fin_mono (m:=880-j) (M:=3254) k (by lia)
 rw [abs1_is] at k
 exact k
noncomputable abbrev rl:OpenLaw:=PySem.Challenge.rw_in0058_01
noncomputable def qv:Program:={ pw with main:={ pw.main with body:=pw.main.body.take 1++pw.main.body.drop 32 } }
noncomputable def looseN:List Str:=["_twin_re_1","_special_chars_map","escape","_translate","heappush","heappop","heapreplace","_siftdown","_siftup","digits","hexdigits","HEXDIGIT_CHARS","TOMLDecodeError","skip_chars","skip_until","parse_hex_char","suffixed_err","is_unicode_scalar_value","_law_ends","_law_lines","_law_due","_law_told","_law_joined","_law_fewest","_law_bracket","_law_set"]
noncomputable def XtM (s:Shared):Bool:=xlAt qv [] s&&recOk (RowW.records rl.row.toRowW) s
theorem left_:LeftO pw qv looseN XtM (fun s=>s.heap) (fun w=>Hp1 w.params) 6000:=by
 refine LeftO.of_pieces (H₀:=Hp0) (H₁:=Hp1) (gs₀:=#[]) (gs₁:=#[]) (d₀:={}) (d₁:={}) (k₀:=276) (k₁:=755) (m₀:=28) (ann:=some (.ref 6)) (M:=3254) opens (fun w=>?_) top_runs (by decide) (fun w=>?_)
 ·kernel_rfl
 ·funext os
  refine Prod.ext ?_ (Prod.ext ?_ ?_)
  ·dsimp only
   kernel_rfl
  ·dsimp only
   kernel_rfl
  ·rfl
end
open PySem.Calls
section
inductive Sc where
 | none | bool (b:Bool) | int (i:Int) | str (x:Str)
 deriving DecidableEq
inductive AV where
 | sc (c:Sc) | tup (l:List Sc) | lst (k:Nat) | val (v:Value) | obj (o:Obj) | exc (m:Str) (e a:Addr) | bm (k:Nat) | unb
noncomputable abbrev Store:=List (List AV)
noncomputable abbrev Loc:=List (Str×AV)
noncomputable abbrev AV.int (i:Int):AV:=.sc (.int i)
noncomputable abbrev AV.str (x:Str):AV:=.sc (.str x)
noncomputable abbrev AV.bool (b:Bool):AV:=.sc (.bool b)
noncomputable abbrev AV.none:AV:=.sc .none
theorem nos {α:Type} {x:Option α} {a:α} {P:Prop} (h:x=none) (e:x=some a):P:=by rw [h] at e;cases e
theorem allOf {α:Type} {x:Option α} {a:α} {P:α→Prop} (h:x=some a) (p:P a):∀ b,x=some b→P b:=fun b e=>by rw [h] at e;cases e;exact p
theorem gne {h:Heap} {a b:Addr} {o:Obj} (e:h.get? b=some o) (n:h.get? a=none):b≠a:=by rintro rfl;rw [n] at e;cases e
noncomputable def All2 {α β:Type} (R:α→β→Prop):List α→List β→Prop
 | [],[]=>True
 | a::l,b::m=>R a b∧All2 R l m
 | _,_=>False
theorem All2.ind {α β:Type} {R:α→β→Prop} {P:List α→List β→Prop} (hn:P [] []) (hc:∀ a b l m,R a b→All2 R l m→P l m→P (a::l) (b::m)) {l:List α}:∀ {m:List β},All2 R l m→P l m:=by
 induction l with
 | nil=>intro m h;cases m with | nil=>exact hn | cons _ _=>exact h.elim
 | cons a l ih=>intro m h;cases m with | nil=>exact h.elim | cons b m=>exact hc a b l m h.1 h.2 (ih h.2)
theorem All2.indM {α β γ:Type} {R:α→β→Prop} {f:γ→α} {P:List γ→List β→Prop} (hn:P [] []) (hc:∀ a b l m,R (f a) b→P l m→P (a::l) (b::m)) {l:List γ}:∀ {m:List β},All2 R (l.map f) m→P l m:=by
 induction l with
 | nil=>intro m h;cases m with | nil=>exact hn | cons _ _=>exact h.elim
 | cons a l ih=>intro m h;cases m with | nil=>exact h.elim | cons b m=>exact hc a b l m h.1 (ih h.2)
theorem All2.consI {α β:Type} {R:α→β→Prop} {a:α} {l:List α} {m:List β} (h:All2 R (a::l) m):∃ b m',m=b::m'∧R a b∧All2 R l m':=by
 cases m with | nil=>exact h.elim | cons b m=>exact ⟨b,m,rfl,h.1,h.2⟩
theorem All2.nilI {α β:Type} {R:α→β→Prop} {m:List β} (h:All2 R [] m):m=[]:=by
 cases m with | nil=>rfl | cons b m=>exact h.elim
theorem All2.length {α β:Type} {R:α→β→Prop} {l:List α} {m:List β} (h:All2 R l m):l.length=m.length :=
 All2.ind (R:=R) (P:=fun l m=>l.length=m.length) rfl (fun _ _ _ _ _ _ e=>congrArg (·+1) e) h
theorem All2.mono {α β:Type} {R R':α→β→Prop} (k:∀ a b,R a b→R' a b) {l:List α} {m:List β} (h:All2 R l m):All2 R' l m :=
 All2.ind (P:=fun l m=>All2 R' l m) trivial (fun _ _ _ _ r _ q=>⟨k _ _ r,q⟩) h
theorem All2.get {α β:Type} {R:α→β→Prop} {l:List α} {m:List β} (h:All2 R l m):∀ {i:Nat} {a:α},l[i]?=some a→∃ b,m[i]?=some b∧R a b :=
 All2.ind (P:=fun l m=>∀ {i:Nat} {a:α},l[i]?=some a→∃ b,m[i]?=some b∧R a b) (fun e=>nomatch e) (fun x y l m r _ ih i a e=>by
  cases i with
  | zero=>cases e;exact ⟨y,rfl,r⟩
  | succ i=>exact ih e) h
theorem All2.append {α β:Type} {R:α→β→Prop} {l:List α} {m:List β} (h:All2 R l m) {l':List α} {m':List β} (h':All2 R l' m'):All2 R (l++l') (m++m') :=
 All2.ind (P:=fun l m=>All2 R (l++l') (m++m')) h' (fun _ _ _ _ r _ q=>by rw [List.cons_append,List.cons_append];exact ⟨r,q⟩) h
theorem All2.set {α β:Type} {R:α→β→Prop} {l:List α} {m:List β} (h:All2 R l m):∀ {i:Nat} {a:α} {b:β},R a b→All2 R (l.set i a) (m.set i b) :=
 All2.ind (P:=fun l m=>∀ {i:Nat} {a:α} {b:β},R a b→All2 R (l.set i a) (m.set i b)) (fun _=>trivial) (fun x y l m r h ih i a b q=>by
  cases i with
  | zero=>exact ⟨q,h⟩
  | succ i=>exact ⟨r,ih q⟩) h
theorem All2.dropLast {α β:Type} {R:α→β→Prop} {l:List α} {m:List β} (h:All2 R l m):All2 R l.dropLast m.dropLast :=
 All2.ind (P:=fun l m=>All2 R l.dropLast m.dropLast) trivial (fun a b l m r h ih=>by
  cases l with
  | nil=>rw [All2.nilI h];trivial
  | cons c l=>obtain ⟨d,m,rfl,_⟩:=h.consI;exact ⟨r,ih⟩) h
noncomputable def RSc:Sc→Value→Prop
 | .none,v=>v=.none
 | .bool b,v=>v=.bool b
 | .int i,v=>∃ t,v=.int i t
 | .str x,v=>∃ t,v=.str x t
noncomputable abbrev excO (t:Addr):Obj:={ cls:=.ref 104,data:=.fields #[.ref t,.none,.none,.none,.bool false,.none] }
noncomputable abbrev tupO (vs:List Value):Obj:={ cls:=.type "tuple",data:=.seq vs.toArray }
structure Bs where
 heap:Heap
 os:OsState
 fr:List Env
noncomputable abbrev Bs.into (B:Bs) (e:Env):Bs:=⟨B.heap,B.os,e::B.fr⟩
noncomputable def nsO (o:Obj):Bool:=match o.data with
 | .dict _ _=>true
 | _=>false
theorem nsO_dict {o:Obj} (h:nsO o=true):∃ es ep,o.data=.dict es ep:=by
 obtain ⟨_,_,d,_⟩:=o
 cases d <;> first | exact ⟨_,_,rfl⟩ | cases h
noncomputable def Same (o o':Obj):Prop:=(∃ sl,o'={ o with slots:=sl })∧(nsO o=false→o'=o)
theorem Same.refl (o:Obj):Same o o:=⟨⟨o.slots,rfl⟩,fun _=>rfl⟩
theorem Same.data {o o':Obj} (h:Same o o'):o'.data=o.data:=by obtain ⟨⟨sl,rfl⟩,_⟩:=h;rfl
theorem Same.trans {o o' o'':Obj} (h:Same o o') (h':Same o' o''):Same o o'':=by
 have e:=h.data
 obtain ⟨⟨sl,rfl⟩,h2⟩:=h
 obtain ⟨⟨sl',rfl⟩,h4⟩:=h'
 refine ⟨⟨sl',rfl⟩,fun q=>?_⟩
 rw [h4 (by unfold nsO at q ⊢;exact q)]
 exact h2 q
noncomputable def immO:Obj→Bool
 | ⟨.type n,_,.dict _ _,_⟩=>false
 | ⟨.type n,_,.cell _,_⟩=>false
 | ⟨.type n,_,_,_⟩=>["tuple","range","builtin_function_or_method","set","frozenset","zip","function","re.Match","code"].contains n
 | ⟨.ref a,_,.fields _,_⟩=>a==104
 | _=>false
theorem imm_tup {vs:List Value}:immO (tupO vs)=true:=rfl
noncomputable def Code1 (h:Heap) (c:Addr) (q:Str):Prop:=∃ o vs t,h.get? c=some o∧o.cls=.type "code"∧o.data=.fields vs∧vs[1]?=some (.str q t)
theorem imm_code {o:Obj} (h:o.cls=.type "code") {vs} (hd:o.data=.fields vs):immO o=true:=by
 obtain ⟨c,d,dt,sl⟩:=o
 obtain rfl:c=.type "code":=h
 obtain rfl:dt=.fields vs:=hd
 rfl
theorem Code1.keep {h h':Heap} {c:Addr} {q:Str} (x:Code1 h c q) (k:∀ a o,h.get? a=some o→immO o=true→h'.get? a=some o):Code1 h' c q :=
 let ⟨o,vs,t,h1,h2,h3,h4⟩:=x;⟨o,vs,t,k _ _ h1 (imm_code h2 h3),h2,h3,h4⟩
noncomputable def FnOk (h:Heap) (o:Obj):Prop:=∀ fd c,o.data=.func fd→fd.code=.ref c→Code1 h c fd.qualname
theorem FnOk.fields {h:Heap} {o:Obj} {vs} (e:o.data=.fields vs):FnOk h o:=fun fd _ q=>by rw [e] at q;cases q
theorem FnOk.no {h:Heap} {o:Obj} (e:∀ fd,o.data≠.func fd):FnOk h o:=fun fd _ q=>absurd q (e fd)
noncomputable abbrev bmO (a:Addr):Obj:={ cls:=.type "builtin_function_or_method",data:=.fields #[.builtin "list.append",.ref a] }
noncomputable def RV (σ:List Addr) (h:Heap):AV→Value→Prop
 | .sc c,v=>RSc c v
 | .tup l,v=>∃ a vs,v=.ref a∧h.get? a=some (tupO vs)∧All2 RSc l vs
 | .lst k,v=>∃ a,σ[k]?=some a∧v=.ref a
 | .val u,v=>v=u
 | .obj o,v=>∃ a,v=.ref a∧h.get? a=some o∧immO o=true∧FnOk h o
 | .exc m e a,v=>∃ tk,v=.ref e∧h.get? e=some (excO a)∧h.get? a=some (tupO [.str m tk])
 | .bm k,v=>∃ b a,σ[k]?=some a∧v=.ref b∧h.get? b=some (bmO a)
 | .unb,_=>False
theorem RV.keep {σ:List Addr} {h h':Heap} (k:∀ a o,h.get? a=some o→immO o=true→h'.get? a=some o) (τ:List Addr) {av:AV} {v:Value} (r:RV σ h av v):RV (σ++τ) h' av v:=by
 cases av with
 | sc c=>exact r
 | tup l=>obtain ⟨a,vs,e,g,x⟩:=r;exact ⟨a,vs,e,k _ _ g imm_tup,x⟩
 | lst i=>obtain ⟨a,e,g⟩:=r;exact ⟨a,by rw [List.getElem?_append_left (by have:=(List.getElem?_eq_some_iff.mp e).1;exact this)];exact e,g⟩
 | val u=>exact r
 | obj o=>obtain ⟨a,e,g,i,f⟩:=r;exact ⟨a,e,k _ _ g i,i,fun fd c q1 q2=>(f fd c q1 q2).keep k⟩
 | exc m x b=>obtain ⟨tk,e,g,g2⟩:=r;exact ⟨tk,e,k _ _ g rfl,k _ _ g2 imm_tup⟩
 | bm i=>obtain ⟨b,a,e,e2,g⟩:=r;exact ⟨b,a,by rw [List.getElem?_append_left (by have:=(List.getElem?_eq_some_iff.mp e).1;exact this)];exact e,e2,k _ _ g rfl⟩
 | unb=>exact r
theorem RV.keep0 {σ:List Addr} {h h':Heap} (k:∀ a o,h.get? a=some o→immO o=true→h'.get? a=some o) {av:AV} {v:Value} (r:RV σ h av v):RV σ h' av v:=by
 have:=RV.keep k [] r
 rwa [List.append_nil] at this
noncomputable def Tab1 (h:Heap) (c P:Addr) (qs:List (Pos×Str)):Prop :=
 ∃ ps,h.IsCode c P ps∧h.TableAt c P ps∧∀ q∈qs,codeAmong q.1 ps.toList=none∨∃ c',codeAmong q.1 ps.toList=some (.ref c')∧Code1 h c' q.2
noncomputable def qs50:List (Pos×Str):=[(⟨57,37,57,98⟩,"_translate.<locals>.<genexpr>"),(⟨58,39,58,76⟩,"_translate.<locals>.<lambda>")]
noncomputable def qs130:List (Pos×Str):=[(⟨152,4,160,46⟩,"suffixed_err.<locals>.coord_repr")]
structure Tb (h:Heap):Prop where
 a50:Tab1 h 54 50 qs50
 a130:Tab1 h 134 130 qs130
theorem Tab1.t {h:Heap} {c P:Addr} {qs} (x:Tab1 h c P qs):∃ ps,h.get? P=some { cls:=.none,data:=.fields ps }:=let ⟨ps,_,t,_⟩:=x;⟨ps,t.2⟩
theorem Tb.t50 {h:Heap} (x:Tb h):∃ ps,h.get? 50=some { cls:=.none,data:=.fields ps }:=x.a50.t
theorem Tb.t130 {h:Heap} (x:Tb h):∃ ps,h.get? 130=some { cls:=.none,data:=.fields ps }:=x.a130.t
theorem Tab1.keep {h h':Heap} {c P:Addr} {qs} (x:Tab1 h c P qs) (k:∀ a o,h.get? a=some o→immO o=true→h'.get? a=some o) (kP:∀ o,h.get? P=some o→h'.get? P=some o):Tab1 h' c P qs:=by
 refine let ZZ:Prop:=_;(?_:ZZ)
 obtain ⟨ps,⟨o,vs,file,tf,flags,tg,inF,text,tt,op,h1,h2,h3,h4,h5,h6,h7,h8,h9⟩,⟨⟨o2,vs2,g1,g2,g3,g4⟩,g5⟩,hq⟩:=x
 have hc:=k _ _ g1 (imm_code g2 g3)
 have e:o2=o:=Option.some.inj (g1.symm.trans h1)
 subst e
 refine ⟨ps,⟨o2,vs,file,tf,flags,tg,inF,text,tt,op,hc,h2,h3,h4,h5,h6,h7,kP _ h8,h9⟩,⟨⟨o2,vs2,hc,g2,g3,g4⟩,kP _ g5⟩,fun q m=>?_⟩
 rcases hq q m with e | ⟨c',e,o',vs',t',q1,q2,q3,q4⟩
 ·exact .inl e
 ·exact .inr ⟨c',e,o',vs',t',k _ _ q1 (imm_code q2 q3),q2,q3,q4⟩
theorem Tb.keep {h h':Heap} (x:Tb h) (k:∀ a o,h.get? a=some o→immO o=true→h'.get? a=some o) (k50:∀ o,h.get? 50=some o→h'.get? 50=some o) (k130:∀ o,h.get? 130=some o→h'.get? 130=some o):Tb h' :=
 ⟨x.a50.keep k k50,x.a130.keep k k130⟩
noncomputable def Frs (b h:Heap) (l:List Env):Prop:=∀ e∈l,e.scope.kind≠.module∧∃ L o es ep,e.frame=some L∧b.get? L=none∧h.get? L=some o∧o.data=.dict es ep
theorem Frs.keep {b h h':Heap} {l:List Env} (x:Frs b h l) (k:∀ a o,h.get? a=some o→nsO o=true→∃ o',h'.get? a=some o'∧nsO o'=true):Frs b h' l:=fun e m=>by
 refine let ZZ:Prop:=_;(?_:ZZ)
 obtain ⟨h1,L,o,es,ep,h2,h3,h4,h5⟩:=x e m
 refine let ZZ:Prop:=_;(?_:ZZ)
 obtain ⟨o',g1,g2⟩:=k L o h4 (by unfold nsO;rw [h5])
 have ⟨_,_,q⟩:=nsO_dict g2
 exact ⟨h1,L,o',_,_,h2,h3,g1,q⟩
structure Wd (B:Bs) (σ:List Addr) (S:Store) (s:Shared):Prop where
 len:σ.length=S.length
 nodup:σ.Nodup
 fresh:∀ a∈σ,B.heap.get? a=none
 lists:∀ (k:Nat) (l:List AV),S[k]?=some l→∃ a vs,σ[k]?=some a∧s.heap.PlainList a vs∧All2 (RV σ s.heap) l vs.toList
 kept:∀ a o,B.heap.get? a=some o→a≠50→a≠130→s.heap.get? a=some o
 tabs:Tb s.heap
 gens:AllBare s.gens
 os:s.os=B.os
 frs:Frs B.heap s.heap B.fr
structure Ext (σ:List Addr) (h h':Heap):Prop where
 keep:∀ a o,h.get? a=some o→a∉σ→a≠50→a≠130→∃ o',h'.get? a=some o'∧Same o o'
theorem Ext.exact {σ:List Addr} {h h':Heap} (k:∀ a o,h.get? a=some o→a∉σ→a≠50→a≠130→h'.get? a=some o):Ext σ h h':=⟨fun a o e h1 h2 h3=>⟨o,k a o e h1 h2 h3,.refl o⟩⟩
theorem Ext.same {σ:List Addr} {h h':Heap} (x:Ext σ h h') (a:Addr) (o:Obj) (e:h.get? a=some o) (h1:a∉σ) (h2:a≠50) (h3:a≠130) (hn:nsO o=false):h'.get? a=some o:=by
 obtain ⟨o',e',r⟩:=x.keep a o e h1 h2 h3
 rw [r.2 hn] at e';exact e'
theorem Ext.then {σ:List Addr} {h h' h'':Heap} (x:Ext σ h h') (k:∀ a o,h'.get? a=some o→a∉σ→a≠50→a≠130→h.get? a≠none→h''.get? a=some o):Ext σ h h'' :=
 ⟨fun a o e h1 h2 h3=>let ⟨o',e',r⟩:=x.keep a o e h1 h2 h3;⟨o',k a o' e' h1 h2 h3 (by rw [e];nofun),r⟩⟩
theorem nsO_imm {o:Obj} (h:immO o=true):nsO o=false:=by
 obtain ⟨c,d,dt,sl⟩:=o
 cases dt <;> first | rfl | (cases c <;> cases h)
theorem nsO_fields {o:Obj} {vs} (h:o.data=.fields vs):nsO o=false:=by unfold nsO;rw [h]
theorem nsO_cell {o:Obj} {vs} (h:o.data=.cell vs):nsO o=false:=by unfold nsO;rw [h]
theorem Ext.refl (σ:List Addr) (h:Heap):Ext σ h h:=.exact fun _ _ e _ _ _=>e
variable {B:Bs} {σ:List Addr} {S:Store} {s:Shared}
theorem Wd.listAt (W:Wd B σ S s) {a:Addr} (ha:a∈σ):∃ vs,s.heap.PlainList a vs:=by
 obtain ⟨k,hk,rfl⟩:=List.getElem_of_mem ha
 have hk':k<S.length:=by rw [← W.len];exact hk
 obtain ⟨a,vs,e,p,_⟩:=W.lists k S[k] (List.getElem?_eq_getElem hk')
 rw [List.getElem?_eq_getElem hk] at e
 cases e
 exact ⟨vs,p⟩
theorem Wd.out_of_imm (W:Wd B σ S s) {a:Addr} {o:Obj} (e:s.heap.get? a=some o) (hc:immO o=true):a∉σ∧a≠50∧a≠130:=by
 refine ⟨fun ha=>?_,?_,?_⟩
 ·obtain ⟨vs,n,e'⟩:=W.listAt ha
  rw [e] at e';cases e';exact absurd hc (by change ¬ ["tuple","range","builtin_function_or_method","set","frozenset","zip","function","re.Match","code"].contains "list"=true;decide)
 ·rintro rfl
  obtain ⟨ps,e'⟩:=W.tabs.t50
  rw [e] at e';cases e';cases hc
 ·rintro rfl
  obtain ⟨ps,e'⟩:=W.tabs.t130
  rw [e] at e';cases e';cases hc
theorem Wd.out_of_fields (W:Wd B σ S s) {a:Addr} {o:Obj} {T:String} {vs} (e:s.heap.get? a=some o) (hc:o.cls=.type T) (hd:o.data=.fields vs):a∉σ∧a≠50∧a≠130:=by
 refine ⟨fun ha=>?_,?_,?_⟩
 ·obtain ⟨vs,n,e'⟩:=W.listAt ha
  rw [e] at e';cases e';cases hd
 ·rintro rfl
  obtain ⟨ps,e'⟩:=W.tabs.t50
  rw [e] at e';cases e';cases hc
 ·rintro rfl
  obtain ⟨ps,e'⟩:=W.tabs.t130
  rw [e] at e';cases e';cases hc
theorem Wd.out_of_dict (W:Wd B σ S s) {a:Addr} {o:Obj} {es ep} (e:s.heap.get? a=some o) (hd:o.data=.dict es ep):a∉σ∧a≠50∧a≠130:=by
 refine ⟨fun ha=>?_,?_,?_⟩
 ·obtain ⟨vs,n,e'⟩:=W.listAt ha
  rw [e] at e';cases e';cases hd
 ·rintro rfl
  obtain ⟨ps,e'⟩:=W.tabs.t50
  rw [e] at e';cases e';cases hd
 ·rintro rfl
  obtain ⟨ps,e'⟩:=W.tabs.t130
  rw [e] at e';cases e';cases hd
theorem Wd.imm_kept (W:Wd B σ S s) {h':Heap} (X:Ext σ s.heap h') (a:Addr) (o:Obj) (e:s.heap.get? a=some o) (i:immO o=true):h'.get? a=some o:=by
 obtain ⟨h1,h2,h3⟩:=W.out_of_imm e i
 exact X.same a _ e h1 h2 h3 (nsO_imm i)
theorem Wd.ns_kept (W:Wd B σ S s) {h':Heap} (X:Ext σ s.heap h') {a:Addr} {m} (e:s.heap.Ns a m):h'.Ns a m:=by
 obtain ⟨o,es,ep,ho,hd,r⟩:=e
 obtain ⟨h1,h2,h3⟩:=W.out_of_dict ho hd
 obtain ⟨o',e',sm⟩:=X.keep a _ ho h1 h2 h3
 exact ⟨o',es,ep,e',sm.data.trans hd,r⟩
theorem RV.mono (W:Wd B σ S s) {h':Heap} {τ:List Addr} (X:Ext σ s.heap h') {av:AV} {v:Value} (r:RV σ s.heap av v):RV (σ++τ) h' av v:=r.keep (W.imm_kept X) τ
theorem RV.mono0 (W:Wd B σ S s) {h':Heap} (X:Ext σ s.heap h') {av:AV} {v:Value} (r:RV σ s.heap av v):RV σ h' av v:=r.keep0 (W.imm_kept X)
theorem Ext.trans {τ:List Addr} {h h' h'':Heap} (x:Ext σ h h') (y:Ext (σ++τ) h' h'') (hf:∀ a∈τ,h.get? a=none):Ext σ h h'' :=
 ⟨fun a o e h1 h2 h3=>by
  obtain ⟨o',e',r⟩:=x.keep a o e h1 h2 h3
  obtain ⟨o'',e'',r'⟩:=y.keep a o' e' (by
   rw [List.mem_append]
   rintro (q | q)
   ·exact h1 q
   ·rw [hf a q] at e;cases e) h2 h3
  exact ⟨o'',e'',r.trans r'⟩⟩
theorem Wd.live (W:Wd B σ S s) {a:Addr} (h:s.heap.get? a=none):a∉σ∧a≠50∧a≠130:=by
 refine ⟨fun ha=>?_,?_,?_⟩
 ·obtain ⟨vs,n,e⟩:=W.listAt ha
  rw [h] at e;cases e
 ·rintro rfl
  obtain ⟨ps,e⟩:=W.tabs.t50
  rw [h] at e;cases e
 ·rintro rfl
  obtain ⟨ps,e⟩:=W.tabs.t130
  rw [h] at e;cases e
theorem Wd.newB (W:Wd B σ S s) {a:Addr} (h:s.heap.get? a=none):B.heap.get? a=none:=by
 cases e:B.heap.get? a with
 | none=>rfl
 | some o =>
  have:=W.kept a o e (W.live h).2.1 (W.live h).2.2
  rw [h] at this;cases this
theorem Wd.noFr (W:Wd B σ S s) {a:Addr} (h:s.heap.get? a=none):∀ e∈B.fr,e.frame≠some a:=fun e me q=>by
 obtain ⟨_,L,o,es,ep,q2,_,q4,_⟩:=W.frs e me
 rw [q] at q2;cases q2;rw [h] at q4;cases q4
theorem Ext.new (W:Wd B σ S s) {τ:List Addr} {S₁:Store} {s₁:Shared} (W₁:Wd B (σ++τ) S₁ s₁) (x:Ext σ s.heap s₁.heap) {a:Addr} (h:s₁.heap.get? a=none):s.heap.get? a=none:=by
 cases e:s.heap.get? a with
 | none=>rfl
 | some o =>
  obtain ⟨h1,h2,h3⟩:=W₁.live h
  obtain ⟨o',this,_⟩:=x.keep a o e (fun q=>h1 (List.mem_append_left _ q)) h2 h3
  rw [h] at this;cases this
theorem Wd.same (W:Wd B σ S s) {s':Shared} (h:s'.heap=s.heap:=by rfl) (g:s'.gens=s.gens:=by rfl) (o:s'.os=s.os:=by rfl):Wd B σ S s':=by
 obtain ⟨heap,gens,drawn,toks,os⟩:=s'
 subst h g o
 exact ⟨W.len,W.nodup,W.fresh,W.lists,W.kept,W.tabs,W.gens,W.os,W.frs⟩
theorem Wd.keeps (W:Wd B σ S s) {s':Shared} (k:∀ b o,s.heap.get? b=some o→s'.heap.get? b=some o) (g:s'.gens=s.gens:=by rfl) (o:s'.os=s.os:=by rfl):Wd B σ S s' :=
 have X:Ext σ s.heap s'.heap:=.exact fun a o e _ _ _=>k a o e
 ⟨W.len,W.nodup,W.fresh,fun i l e=>let ⟨a,vs,h1,h2,h3⟩:=W.lists i l e;⟨a,vs,h1,h2.at (k a),All2.mono (fun _ _ r=>RV.mono0 W X r) h3⟩,fun a o e h1 h2=>k _ _ (W.kept a o e h1 h2),
  W.tabs.keep (fun a o e _=>k a o e) (fun o e=>k _ o e) (fun o e=>k _ o e),g▸W.gens,o.trans W.os,W.frs.keep fun a o e n=>⟨o,k a o e,n⟩⟩
theorem Ext.of_keeps {h h':Heap} (k:∀ b o,h.get? b=some o→h'.get? b=some o):Ext σ h h':=.exact fun a o e _ _ _=>k a o e
theorem Ext.push (h:Heap) (o:Obj):Ext σ h (h.push o):=Ext.of_keeps fun _ _ e=>Heap.get?_push_of_some o e
theorem Wd.push (W:Wd B σ S s) (o:Obj) {s':Shared} (h:s'.heap=s.heap.push o:=by rfl) (g:s'.gens=s.gens:=by rfl) (os:s'.os=s.os:=by rfl):Wd B σ S s' :=
 W.keeps (fun b o' e=>by rw [h];exact Heap.get?_push_of_some o e) g os
theorem Wd.but (W:Wd B σ S s) {s':Shared} {L:Addr} (hs:Heap.ExtBut L s.heap s'.heap) (hL:B.heap.get? L=none) (hσ:L∉σ) (h5:L≠50) (h13:L≠130) (ht:∀ o,s.heap.get? L=some o→immO o=false) (hn:(∀ o,s.heap.get? L=some o→nsO o=false)∨(∃ o,s'.heap.get? L=some o∧nsO o=true)∨∀ e∈B.fr,e.frame≠some L) (g:s'.gens=s.gens:=by rfl) (o:s'.os=s.os:=by rfl):Wd B σ S s':=by
 have rv:∀ av v,RV σ s.heap av v→RV σ s'.heap av v:=fun av v r=>r.keep0 fun a o e i=>hs _ _ (by rintro rfl;rw [ht _ e] at i;cases i) e
 refine ⟨W.len,W.nodup,W.fresh,fun i l e=>?_,fun a o e h1 h2=>hs _ _ (by rintro rfl;rw [hL] at e;cases e) (W.kept a o e h1 h2),
  W.tabs.keep (fun a o e i=>hs _ _ (by rintro rfl;rw [ht _ e] at i;cases i) e) (fun o e=>hs _ _ (Ne.symm h5) e) (fun o e=>hs _ _ (Ne.symm h13) e),g▸W.gens,o.trans W.os,
  fun ev me=>by
   refine let ZZ:Prop:=_;(?_:ZZ)
   obtain ⟨q1,L',o,es,ep,q2,q3,q4,q5⟩:=W.frs ev me
   refine ⟨q1,?_⟩
   by_cases q:L'=L
   ·subst q
    rcases hn with hn | hn | hn
    ·have:=hn o q4;unfold nsO at this;rw [q5] at this;cases this
    ·refine let ZZ:Prop:=_;(?_:ZZ)
     obtain ⟨o',g1,g2⟩:=hn
     have ⟨_,_,g3⟩:=nsO_dict g2
     exact ⟨_,o',_,_,q2,q3,g1,g3⟩
    ·exact absurd q2 (hn ev me)
   ·exact ⟨L',o,es,ep,q2,q3,hs _ _ q q4,q5⟩⟩
 refine let ZZ:Prop:=_;(?_:ZZ)
 obtain ⟨a,vs,h1,h2,h3⟩:=W.lists i l e
 exact ⟨a,vs,h1,h2.at fun o q=>hs _ _ (by rintro rfl;exact hσ (List.mem_of_getElem? h1)) q,All2.mono rv h3⟩
theorem Wd.setList (W:Wd B σ S s) {s':Shared} {k:Nat} {a:Addr} {l:List AV} {vs:Array Value} (hk:σ[k]?=some a) (hs:Heap.SameBut a s.heap s'.heap) (hp:s'.heap.PlainList a vs) (hr:All2 (RV σ s.heap) l vs.toList)
  (g:s'.gens=s.gens:=by rfl) (o:s'.os=s.os:=by rfl):Wd B σ (S.set k l) s':=by
 have ha:a∈σ:=List.mem_of_getElem? hk
 have rv:∀ av v,RV σ s.heap av v→RV σ s'.heap av v:=fun av v r=>r.keep0 fun b o e i=>(hs.2 b (by rintro rfl;exact (W.out_of_imm e i).1 ha)).trans e
 have hlt:k<S.length:=by rw [← W.len];exact (List.getElem?_eq_some_iff.mp hk).1
 refine ⟨by rw [W.len,List.length_set],W.nodup,W.fresh,fun i l' e=>?_,fun b o e h1 h2=>(hs.2 b (by rintro rfl;rw [W.fresh _ ha] at e;cases e)).trans (W.kept b o e h1 h2),?_,g▸W.gens,o.trans W.os,
  W.frs.keep fun b o e n=>⟨o,(hs.2 b (by
   rintro rfl
   obtain ⟨us,m,e'⟩:=W.listAt ha
   rw [e] at e';cases e';cases n)).trans e,n⟩⟩
 ·rw [List.getElem?_set] at e
  split at e
  ·rename_i hik;subst hik
   cases e
   exact ⟨a,vs,hk,hp,All2.mono rv hr⟩
  ·rename_i hik
   refine let ZZ:Prop:=_;(?_:ZZ)
   obtain ⟨b,ws,h1,h2,h3⟩:=W.lists i l' e
   refine ⟨b,ws,h1,h2.at fun o q=>(hs.2 b ?_).trans q,All2.mono rv h3⟩
   rintro rfl
   obtain ⟨hi,ei⟩:=List.getElem?_eq_some_iff.mp h1
   obtain ⟨hk',ek⟩:=List.getElem?_eq_some_iff.mp hk
   exact hik ((List.getElem_inj W.nodup).mp (ek.trans ei.symm))
 ·have n5:(50:Nat)≠a:=by
   rintro rfl
   obtain ⟨ps,e⟩:=W.tabs.t50
   obtain ⟨vs,n,e'⟩:=W.listAt ha
   rw [e] at e';cases e'
  have n13:(130:Nat)≠a:=by
   rintro rfl
   obtain ⟨ps,e⟩:=W.tabs.t130
   obtain ⟨vs,n,e'⟩:=W.listAt ha
   rw [e] at e';cases e'
  exact W.tabs.keep (fun b o e i=>(hs.2 b (by rintro rfl;exact (W.out_of_imm e i).1 ha)).trans e) (fun o e=>(hs.2 _ n5).trans e) (fun o e=>(hs.2 _ n13).trans e)
theorem Ext.setList {a:Addr} {h h':Heap} (ha:a∈σ) (hs:Heap.SameBut a h h'):Ext σ h h' :=
 .exact fun b o e h1 _ _=>(hs.2 b (by rintro rfl;exact h1 ha)).trans e
theorem Wd.newList (W:Wd B σ S s) {s':Shared} {l:List AV} {vs:Array Value} {n:Nat} (h:s'.heap=s.heap.push { cls:=.type "list",data:=.seq vs n }) (hr:All2 (RV σ s.heap) l vs.toList)
  (g:s'.gens=s.gens:=by rfl) (o:s'.os=s.os:=by rfl):Wd B (σ++[s.heap.objs.size]) (S++[l]) s':=by
 have X:Ext σ s.heap s'.heap:=h▸Ext.push _ _
 have hnone:s.heap.get? s.heap.objs.size=none:=Heap.get?_none_of_le (Nat.le_refl _)
 have hn:s.heap.objs.size∉σ:=(W.live hnone).1
 have W':=W.push _ (s':=s') h g o
 refine ⟨by simp [W.len],?_,fun a ha=>?_,fun i l' e=>?_,W'.kept,W'.tabs,W'.gens,W'.os,W'.frs⟩
 ·rw [List.nodup_append]
  refine ⟨W.nodup,by simp,fun a ha b hb=>?_⟩
  rintro rfl
  rw [List.mem_singleton] at hb
  exact hn (hb▸ha)
 ·rcases List.mem_append.mp ha with q | q
  ·exact W.fresh a q
  ·rw [List.mem_singleton.mp q];exact W.newB hnone
 ·rcases Nat.lt_or_ge i S.length with hi | hi
  ·rw [List.getElem?_append_left hi] at e
   refine let ZZ:Prop:=_;(?_:ZZ)
   obtain ⟨a,ws,h1,h2,h3⟩:=W.lists i l' e
   refine ⟨a,ws,by rw [List.getElem?_append_left (W.len▸hi)];exact h1,h2.at fun o q=>by rw [h];exact Heap.get?_push_of_some _ q,All2.mono (fun _ _ r=>RV.mono W X r) h3⟩
  ·rw [List.getElem?_append_right hi] at e
   have hi0:i-S.length=0:=by
    rcases Nat.eq_zero_or_pos (i-S.length) with q | q
    ·exact q
    ·rw [List.getElem?_eq_none (by simp;exact Nat.one_le_of_lt q)] at e;cases e
   rw [hi0] at e
   simp only [List.getElem?_cons_zero,Option.some.injEq] at e
   subst e
   refine ⟨s.heap.objs.size,vs,by rw [List.getElem?_append_right (by rw [W.len];exact hi),W.len,hi0];rfl,⟨n,by rw [h];exact Heap.get?_push_size _ rfl⟩,All2.mono (fun _ _ r=>RV.mono W X r) hr⟩
end
section
structure AOk (B:Bs) (n:Nat) (A:Around):Prop where
 handled:A.handled=none
 depth:A.depth+10*n≤900
 units:A.units+60*n≤9000
 guards:A.guards=some []
 frames:A.frames=some B.fr
theorem AOk.deeper {B:Bs} {n:Nat} {A:Around} (h:AOk B (n+1) A) (env:Env):AOk (B.into env) n (A.deeper env):=by
 obtain ⟨h1,h2,h3,h4,h5⟩:=h
 exact ⟨h1,by simp only [Around.deeper];lia,by simp only [Around.deeper];lia,h4,by simp [Around.deeper,h5,Bs.into]⟩
theorem AOk.in1 {B:Bs} {n:Nat} {A:Around} (h:AOk B (n+1) A):AOk B n A.in1:=by
 obtain ⟨h1,h2,h3,h4,h5⟩:=h
 exact ⟨h1,by simp only [Around.in1_depth];lia,by simp only [Around.in1_units];lia,h4,h5⟩
theorem AOk.le {B:Bs} {n m:Nat} {A:Around} (h:AOk B n A) (e:m≤n):AOk B m A :=
 ⟨h.handled,by have:=h.depth;lia,by have:=h.units;lia,h.guards,h.frames⟩
theorem AOk.room {B:Bs} {n:Nat} {A:Around} (h:AOk B n A):A.depth<recursionLimit:=by have:=h.depth;simp only [recursionLimit];lia
theorem AOk.line {B:Bs} {n:Nat} {A:Around} (h:AOk B n A):A.units<cLine:=by have:=h.units;simp only [cLine];lia
theorem AOk.caller {h o}:AOk ⟨h,o,[]⟩ 20 callerA:=⟨rfl,by decide,by decide,rfl,rfl⟩
noncomputable def Holds (h:Heap) (env:Env) (m:Str→Option Value) (x:Str) (v:Value):Prop :=
 (env.kindOf x=some .local∧m x=some v)∨(env.kindOf x=some .cell∧∃ c,env.cells.lookup x=some c∧h.IsCell c (some v))
structure EnvOk (B:Bs) (env:Env) (loc:Loc):Prop where
 nodup:(loc.map (·.1)).Nodup
 kind:env.scope.kind=.function
 glob:env.globals=mainGlobals
 blt:env.builtins=builtinsNs
 big:B.heap.get? env.locals=none
structure Fm (B:Bs) (σ:List Addr) (env:Env) (loc:Loc) (h:Heap):Prop where
 ns:∃ m,h.Ns env.locals m∧∀ x av,(x,av)∈loc→av=.unb∨∃ v,Holds h env m x v∧RV σ h av v
 ok:EnvOk B env loc
inductive Pst (B:Bs) (σ:List Addr) (s:Shared) (Q:AV→Store→Prop) (v:Value) (s':Shared):Prop
 | mk (τ:List Addr) (av:AV) (S':Store) (W:Wd B (σ++τ) S' s') (f:∀ a∈τ,s.heap.get? a=none) (x:Ext σ s.heap s'.heap) (r:RV (σ++τ) s'.heap av v) (q:Q av S')
structure EvT (w:World) (B:Bs) (n:Nat) (env:Env) (t:Sem Value) (loc:Loc) (S:Store) (Q:AV→Store→Prop):Prop where
 run:∀ A σ s E,AOk B n A→Wd B σ S s→Fm B σ env loc s.heap→wpAny (model pw w) A t (Pst B σ s Q) E s
noncomputable abbrev EvA (w:World) (B:Bs) (n:Nat) (env:Env) (e:Expr) (loc:Loc) (S:Store) (Q:AV→Store→Prop):Prop :=
 EvT w B n env (eval e env) loc S Q
structure OpT (w:World) (B:Bs) (n:Nat) (f:List Value→Sem Value) (avs:List AV) (S:Store) (Q:AV→Store→Prop):Prop where
 run:∀ A σ s E vs,AOk B n A→Wd B σ S s→All2 (RV σ s.heap) avs vs→wpAny (model pw w) A (f vs) (Pst B σ s Q) E s
theorem ifP {c:Prop} [Decidable c] {t e:Prop} (h:c) (x:t):if c then t else e:=by rw [if_pos h];exact x
theorem ifN {c:Prop} [Decidable c] {t e:Prop} (h:¬c) (x:e):if c then t else e:=by rw [if_neg h];exact x
theorem unP {c:Prop} [Decidable c] {t e:Prop} (h:c) (x:if c then t else e):t:=by rwa [if_pos h] at x
theorem unN {c:Prop} [Decidable c] {t e:Prop} (h:¬c) (x:if c then t else e):e:=by rwa [if_neg h] at x
noncomputable abbrev kF (w:World) (B:Bs) (n:Nat) (f:List Value→Sem Value) (Q:AV→Store→Prop) (a:AV) (S:Store):Prop:=OpT w B n f [a] S Q
noncomputable abbrev kP (w:World) (B:Bs) (n:Nat) (f:List Value→Sem Value) (a:AV) (Q:AV→Store→Prop) (b:AV) (S:Store):Prop:=OpT w B n f [a,b] S Q
noncomputable abbrev kE (w:World) (B:Bs) (n:Nat) (env:Env) (r:Expr) (loc:Loc) (f:List Value→Sem Value) (Q:AV→Store→Prop) (a:AV) (S:Store):Prop:=EvA w B n env r loc S (kP w B n f a Q)
variable {w:World} {B:Bs} {n:Nat} {env:Env} {loc:Loc} {S:Store} {σ:List Addr} {s:Shared} {A:Around}
theorem Wd.cell_kept (W:Wd B σ S s) {h':Heap} (X:Ext σ s.heap h') {c:Addr} {v:Option Value} (e:s.heap.IsCell c v):h'.IsCell c v:=by
 obtain ⟨o,ho,hd⟩:=e
 refine ⟨o,X.same c o ho (fun ha=>?_) ?_ ?_ (nsO_cell hd),hd⟩
 ·obtain ⟨vs,n,e'⟩:=W.listAt ha
  rw [ho] at e';cases e';cases hd
 ·rintro rfl
  obtain ⟨ps,e'⟩:=W.tabs.t50
  rw [ho] at e';cases e';cases hd
 ·rintro rfl
  obtain ⟨ps,e'⟩:=W.tabs.t130
  rw [ho] at e';cases e';cases hd
theorem Fm.mono (F:Fm B σ env loc s.heap) (W:Wd B σ S s) {h':Heap} (τ:List Addr) (X:Ext σ s.heap h'):Fm B (σ++τ) env loc h':=by
 obtain ⟨⟨m,hn,hm⟩,ok⟩:=F
 refine ⟨⟨m,W.ns_kept X hn,fun x av hx=>?_⟩,ok⟩
 rcases hm x av hx with h | ⟨v,h,r⟩
 ·exact .inl h
 ·refine .inr ⟨v,?_,RV.mono W X r⟩
  rcases h with h | ⟨h1,c,h2,h3⟩
  ·exact .inl h
  ·exact .inr ⟨h1,c,h2,W.cell_kept X h3⟩
theorem Pst.back {τ:List Addr} {S₁:Store} {s₁:Shared} {Q:AV→Store→Prop} {v:Value} {s':Shared} (W:Wd B σ S s) (W₁:Wd B (σ++τ) S₁ s₁) (x:Ext σ s.heap s₁.heap) (hf:∀ a∈τ,s.heap.get? a=none) (p:Pst B (σ++τ) s₁ Q v s'):Pst B σ s Q v s':=by
 obtain ⟨τ',av,S',W',f',x',r',q'⟩:=p
 refine ⟨τ++τ',av,S',by rw [← List.append_assoc];exact W',fun a ha=>?_,x.trans x' hf,by rw [← List.append_assoc];exact r',q'⟩
 rcases List.mem_append.mp ha with q | q
 ·exact hf a q
 ·exact Ext.new W W₁ x (f' a q)
theorem Pst.now {Q:AV→Store→Prop} {v:Value} {s':Shared} {av:AV} (W:Wd B σ S s') (x:Ext σ s.heap s'.heap) (r:RV σ s'.heap av v) (q:Q av S):Pst B σ s Q v s' :=
 ⟨[],av,S,by rwa [List.append_nil],nofun,x,by rwa [List.append_nil],q⟩
theorem Pst.sc {Q:AV→Store→Prop} {v:Value} {s':Shared} {c:Sc} (W:Wd B σ S s) (r:RSc c v) (q:Q (.sc c) S) (h:s'.heap=s.heap:=by rfl) (g:s'.gens=s.gens:=by rfl) (o:s'.os=s.os:=by rfl):Pst B σ s Q v s' :=
 .now (W.same h g o) (h▸Ext.refl _ _) (av:=.sc c) r q
theorem Pst.mono {Q Q':AV→Store→Prop} {v:Value} {s':Shared} (p:Pst B σ s Q v s') (k:∀ av S,Q av S→Q' av S):Pst B σ s Q' v s' :=
 let ⟨τ,av,S',a,b,c,d,e⟩:=p;⟨τ,av,S',a,b,c,d,k _ _ e⟩
theorem EvT.mono {t:Sem Value} {Q Q':AV→Store→Prop} (h:EvT w B n env t loc S Q) (k:∀ av S,Q av S→Q' av S):EvT w B n env t loc S Q' :=
 .mk fun A σ s E ha W F=>wpAny_mono (h.run A σ s E ha W F) (fun _ _ p=>p.mono k) fun _ _ e=>e
theorem OpT.mono {t:List Value→Sem Value} {avs:List AV} {Q Q':AV→Store→Prop} (h:OpT w B n t avs S Q) (k:∀ av S,Q av S→Q' av S):OpT w B n t avs S Q' :=
 .mk fun A σ s E vs ha W F=>wpAny_mono (h.run A σ s E vs ha W F) (fun _ _ p=>p.mono k) fun _ _ e=>e
theorem OpT.le {t:List Value→Sem Value} {avs:List AV} {Q:AV→Store→Prop} {m:Nat} (h:OpT w B m t avs S Q) (e:m≤n):OpT w B n t avs S Q :=
 .mk fun A σ s E vs ha W F=>h.run A σ s E vs (ha.le e) W F
theorem EvT.bind {t:Sem Value} {Q:AV→Store→Prop} {G E:Value→Shared→Prop} (h:EvT w B n env t loc S Q) (ha:AOk B n A) (W:Wd B σ S s) (F:Fm B σ env loc s.heap)
  (k:∀ v s₁ τ av S₁,Wd B (σ++τ) S₁ s₁→(∀ a∈τ,s.heap.get? a=none)→Ext σ s.heap s₁.heap→RV (σ++τ) s₁.heap av v→Q av S₁→G v s₁):wpAny (model pw w) A t G E s :=
 wpAny_mono (h.run A σ s E ha W F) (fun v s₁ ⟨τ,av,S₁,a,b,c,d,e⟩=>k v s₁ τ av S₁ a b c d e) fun _ _ e=>e
theorem OpT.bind {t:List Value→Sem Value} {avs:List AV} {Q:AV→Store→Prop} {G E:Value→Shared→Prop} (h:OpT w B n t avs S Q) (vs:List Value) (ha:AOk B n A) (W:Wd B σ S s) (r:All2 (RV σ s.heap) avs vs)
  (k:∀ v s₁ τ av S₁,Wd B (σ++τ) S₁ s₁→(∀ a∈τ,s.heap.get? a=none)→Ext σ s.heap s₁.heap→RV (σ++τ) s₁.heap av v→Q av S₁→G v s₁):wpAny (model pw w) A (t vs) G E s :=
 wpAny_mono (h.run A σ s E vs ha W r) (fun v s₁ ⟨τ,av,S₁,a,b,c,d,e⟩=>k v s₁ τ av S₁ a b c d e) fun _ _ e=>e
theorem EvT.last {t:Sem Value} {Q:AV→Store→Prop} {E:Value→Shared→Prop} {τ:List Addr} {S₁:Store} {s₁:Shared} (h:EvT w B n env t loc S₁ Q) (ha:AOk B n A) (W:Wd B σ S s) (W₁:Wd B (σ++τ) S₁ s₁) (F:Fm B (σ++τ) env loc s₁.heap) (x:Ext σ s.heap s₁.heap) (f:∀ a∈τ,s.heap.get? a=none):wpAny (model pw w) A t (Pst B σ s Q) E s₁ :=
 wpAny_mono (h.run A _ s₁ E ha W₁ F) (fun _ _ p=>p.back W W₁ x f) fun _ _ e=>e
theorem OpT.last {t:List Value→Sem Value} {avs:List AV} {Q:AV→Store→Prop} {E:Value→Shared→Prop} {τ:List Addr} {S₁:Store} {s₁:Shared} (h:OpT w B n t avs S₁ Q) (vs:List Value) (ha:AOk B n A) (W:Wd B σ S s) (W₁:Wd B (σ++τ) S₁ s₁) (r:All2 (RV (σ++τ) s₁.heap) avs vs) (x:Ext σ s.heap s₁.heap) (f:∀ a∈τ,s.heap.get? a=none):wpAny (model pw w) A (t vs) (Pst B σ s Q) E s₁ :=
 wpAny_mono (h.run A _ s₁ E vs ha W₁ r) (fun _ _ p=>p.back W W₁ x f) fun _ _ e=>e
theorem All2.monoRV (W:Wd B σ S s) {h':Heap} (τ:List Addr) (X:Ext σ s.heap h') {avs:List AV} {vs:List Value} (r:All2 (RV σ s.heap) avs vs):All2 (RV (σ++τ) h') avs vs :=
 All2.mono (fun _ _ q=>RV.mono W X q) r
theorem EvA.bin {l r:Expr} {op:Operator} {pos:Pos} {Q:AV→Store→Prop}
  (h:EvA w B n env l loc S (kE w B n env r loc (fun vs=>binaryOp op (vs.getD 0 .none) (vs.getD 1 .none)) Q)) :
  EvA w B n env (.BinOp l op r pos) loc S Q:=.mk fun A σ s E ha W F=>by
 refine wpAny_BinOp (h.bind ha W F fun a s₁ τ av S₁ W₁ f₁ x₁ r₁ h₁=>?_)
 refine h₁.bind ha W₁ (F.mono W τ x₁) fun b s₂ τ₂ bv S₂ W₂ f₂ x₂ r₂ h₂=>?_
 exact wpAny_mono (h₂.run A _ s₂ E [a,b] ha W₂ ⟨r₁.mono W₁ x₂,r₂,trivial⟩) (fun c s₃ p=>(p.back W₁ W₂ x₂ f₂).back W W₁ x₁ f₁) fun _ _ e=>e
theorem EvA.un {e:Expr} {op:UnaryOp} {pos:Pos} {Q:AV→Store→Prop}
  (h:EvA w B n env e loc S (kF w B n (fun vs=>unaryOp op (vs.getD 0 .none)) Q)):EvA w B n env (.UnaryOp op e pos) loc S Q:=.mk fun A σ s E ha W F=>by
 refine wpAny_UnaryOp (h.bind ha W F fun a s₁ τ av S₁ W₁ f₁ x₁ r₁ h₁=>?_)
 exact h₁.last [a] ha W W₁ ⟨r₁,trivial⟩ x₁ f₁
theorem EvA.cmp {l r:Expr} {op:CmpOp} {pos:Pos} {Q:AV→Store→Prop}
  (h:EvA w B n env l loc S (kE w B n env r loc (fun vs=>compareOp op (vs.getD 0 .none) (vs.getD 1 .none)) Q)) (hm:behindInMarks op r=false:=by with_unfolding_all rfl) :
  EvA w B n env (.Compare l [op] [r] pos) loc S Q:=.mk fun A σ s E ha W F=>by
 refine wpAny_Compare1 (h.bind ha W F fun a s₁ τ av S₁ W₁ f₁ x₁ r₁ h₁=>?_) hm
 refine h₁.bind ha W₁ (F.mono W τ x₁) fun b s₂ τ₂ bv S₂ W₂ f₂ x₂ r₂ h₂=>?_
 exact wpAny_mono (h₂.run A _ s₂ E [a,b] ha W₂ ⟨r₁.mono W₁ x₂,r₂,trivial⟩) (fun c s₃ p=>(p.back W₁ W₂ x₂ f₂).back W W₁ x₁ f₁) fun _ _ e=>e
theorem EvA.int {i:Int} {k:Nat} {pos:Pos} {Q:AV→Store→Prop} (q:Q (.int i) S):EvA w B n env (.Constant (.int i) k pos) loc S Q :=
 .mk fun _ _ _ _ _ W _=>wpAny_Constant_int (Pst.sc W (c:=.int i) ⟨_,rfl⟩ q)
theorem EvA.str {x:Str} {k:Nat} {pos:Pos} {Q:AV→Store→Prop} (q:Q (.str x) S):EvA w B n env (.Constant (.str x) k pos) loc S Q :=
 .mk fun _ _ _ _ _ W _=>wpAny_Constant_str (Pst.sc W (c:=.str x) ⟨_,rfl⟩ q)
theorem EvA.bool {b:Bool} {k:Nat} {pos:Pos} {Q:AV→Store→Prop} (q:Q (.bool b) S):EvA w B n env (.Constant (.bool b) k pos) loc S Q :=
 .mk fun _ _ _ _ _ W _=>wpAny_Constant_bool (Pst.sc W (c:=.bool b) rfl q)
theorem EvA.name {x:Str} {pos:Pos} {av:AV} {Q:AV→Store→Prop} (hx:(x,av)∈loc) (q:Q av S) (hb:av≠.unb:=by nofun) (hd:(x==("__debug__":Str))=false:=by decide +kernel) :
  EvA w B n env (.Name x pos) loc S Q:=.mk fun A σ s E ha W F=>by
 obtain ⟨⟨m,hn,hm⟩,ok⟩:=F
 rcases hm x av hx with h | ⟨v,h,r⟩
 ·exact absurd h hb
 ·have p:Pst B σ s Q v s:=.now W (Ext.refl _ _) r q
  rcases h with ⟨h1,h2⟩ | ⟨h1,c,h2,h3⟩
  ·exact wpAny_Name (wpAny_loadName_local ok.kind h1 hn h2 p) hd
  ·exact wpAny_Name (wpAny_loadName_cell ok.kind h1 h2 h3 p) hd
end
section
variable {w:World} {B:Bs} {n:Nat} {env:Env} {loc:Loc} {S:Store} {σ:List Addr} {s:Shared} {A:Around}
inductive AF where
 | next | brk | cont | ret (av:AV)
noncomputable def RF (σ:List Addr) (h:Heap):AF→Flow→Prop
 | .next,f=>f=.next
 | .brk,f=>f=.brk
 | .cont,f=>f=.cont
 | .ret av,f=>∃ v,f=.ret v∧RV σ h av v
structure ExtF (σ:List Addr) (L:Addr) (h h':Heap):Prop where
 keep:∀ a o,h.get? a=some o→a∉σ→a≠L→a≠50→a≠130→∃ o',h'.get? a=some o'∧Same o o'
theorem ExtF.exact {L:Addr} {h h':Heap} (k:∀ a o,h.get? a=some o→a∉σ→a≠L→a≠50→a≠130→h'.get? a=some o):ExtF σ L h h':=⟨fun a o e h1 hL h2 h3=>⟨o,k a o e h1 hL h2 h3,.refl o⟩⟩
theorem ExtF.same {L:Addr} {h h':Heap} (x:ExtF σ L h h') (a:Addr) (o:Obj) (e:h.get? a=some o) (h1:a∉σ) (hL:a≠L) (h2:a≠50) (h3:a≠130) (hn:nsO o=false):h'.get? a=some o:=by
 obtain ⟨o',e',r⟩:=x.keep a o e h1 hL h2 h3
 rw [r.2 hn] at e';exact e'
theorem ExtF.then {L:Addr} {h h' h'':Heap} (x:ExtF σ L h h') (k:∀ a o,h'.get? a=some o→a∉σ→a≠L→a≠50→a≠130→h.get? a≠none→h''.get? a=some o):ExtF σ L h h'' :=
 ⟨fun a o e h1 hL h2 h3=>let ⟨o',e',r⟩:=x.keep a o e h1 hL h2 h3;⟨o',k a o' e' h1 hL h2 h3 (by rw [e];nofun),r⟩⟩
theorem Ext.toF {h h':Heap} {L:Addr} (x:Ext σ h h'):ExtF σ L h h':=⟨fun a o e h1 _ h3 h4=>x.keep a o e h1 h3 h4⟩
theorem ExtF.refl {h:Heap} {L:Addr}:ExtF σ L h h:=.exact fun _ _ e _ _ _ _=>e
theorem ExtF.trans {τ:List Addr} {h h' h'':Heap} {L:Addr} (x:ExtF σ L h h') (y:ExtF (σ++τ) L h' h'') (hf:∀ a∈τ,h.get? a=none):ExtF σ L h h'' :=
 ⟨fun a o e h1 hL h2 h3=>by
  obtain ⟨o',e',r⟩:=x.keep a o e h1 hL h2 h3
  obtain ⟨o'',e'',r'⟩:=y.keep a o' e' (by
   rw [List.mem_append]
   rintro (q | q)
   ·exact h1 q
   ·rw [hf a q] at e;cases e) hL h2 h3
  exact ⟨o'',e'',r.trans r'⟩⟩
theorem ExtF.new {L:Addr} {τ:List Addr} {S₁:Store} {s₁:Shared} (W₁:Wd B (σ++τ) S₁ s₁) (x:ExtF σ L s.heap s₁.heap) (hL':s₁.heap.get? L≠none) {a:Addr} (h:s₁.heap.get? a=none):s.heap.get? a=none:=by
 cases e:s.heap.get? a with
 | none=>rfl
 | some o =>
  obtain ⟨h1,h2,h3⟩:=W₁.live h
  obtain ⟨o',this,_⟩:=x.keep a o e (fun q=>h1 (List.mem_append_left _ q)) (by rintro rfl;exact hL' h) h2 h3
  exact nos h this
theorem Fm.live {h:Heap} (F:Fm B σ env loc h):h.get? env.locals≠none:=by
 obtain ⟨⟨m,⟨o,es,ep,ho,_⟩,_⟩,_⟩:=F
 rw [ho];nofun
inductive PstF (B:Bs) (σ:List Addr) (env:Env) (s:Shared) (Q:AF→Loc→Store→Prop) (f:Flow) (s':Shared):Prop
 | mk (τ:List Addr) (af:AF) (loc':Loc) (S':Store) (W:Wd B (σ++τ) S' s') (n:∀ a∈τ,s.heap.get? a=none) (x:ExtF σ env.locals s.heap s'.heap) (F:Fm B (σ++τ) env loc' s'.heap) (r:RF (σ++τ) s'.heap af f) (q:Q af loc' S')
structure ExT (w:World) (B:Bs) (n:Nat) (env:Env) (t:Sem Flow) (loc:Loc) (S:Store) (Q:AF→Loc→Store→Prop):Prop where
 run:∀ A σ s E,AOk B n A→Wd B σ S s→Fm B σ env loc s.heap→wpAny (model pw w) A t (PstF B σ env s Q) E s
noncomputable abbrev ExA (w:World) (B:Bs) (n:Nat) (env:Env) (b:List Stmt) (loc:Loc) (S:Store) (Q:AF→Loc→Store→Prop):Prop:=ExT w B n env (execs b env) loc S Q
noncomputable abbrev ExS (w:World) (B:Bs) (n:Nat) (env:Env) (b:Stmt) (loc:Loc) (S:Store) (Q:AF→Loc→Store→Prop):Prop:=ExT w B n env (exec b env) loc S Q
theorem PstF.back {loc₁:Loc} {τ:List Addr} {S₁:Store} {s₁:Shared} {Q:AF→Loc→Store→Prop} {f:Flow} {s':Shared} (_hL:s.heap.get? env.locals≠none) (W₁:Wd B (σ++τ) S₁ s₁) (F₁:Fm B (σ++τ) env loc₁ s₁.heap)
  (x:ExtF σ env.locals s.heap s₁.heap) (hf:∀ a∈τ,s.heap.get? a=none) (p:PstF B (σ++τ) env s₁ Q f s'):PstF B σ env s Q f s':=by
 obtain ⟨τ',av,loc',S',W',f',x',F',r',q'⟩:=p
 refine ⟨τ++τ',av,loc',S',by rw [← List.append_assoc];exact W',fun a ha=>?_,x.trans x' hf,by rw [← List.append_assoc];exact F',by rw [← List.append_assoc];exact r',q'⟩
 rcases List.mem_append.mp ha with q | q
 ·exact hf a q
 ·exact ExtF.new W₁ x F₁.live (f' a q)
theorem PstF.now {loc':Loc} {Q:AF→Loc→Store→Prop} {f:Flow} {s':Shared} {af:AF} (W:Wd B σ S s') (x:ExtF σ env.locals s.heap s'.heap) (F:Fm B σ env loc' s'.heap) (r:RF σ s'.heap af f) (q:Q af loc' S):PstF B σ env s Q f s' :=
 ⟨[],af,loc',S,by rwa [List.append_nil],nofun,x,by rwa [List.append_nil],by rwa [List.append_nil],q⟩
theorem PstF.mono {Q Q':AF→Loc→Store→Prop} {v:Flow} {s':Shared} (p:PstF B σ env s Q v s') (k:∀ av loc S,Q av loc S→Q' av loc S):PstF B σ env s Q' v s' :=
 let ⟨τ,av,loc',S',a,b,c,d,e,f⟩:=p;⟨τ,av,loc',S',a,b,c,d,e,k _ _ _ f⟩
theorem ExT.mono {t:Sem Flow} {Q Q':AF→Loc→Store→Prop} (h:ExT w B n env t loc S Q) (k:∀ av loc S,Q av loc S→Q' av loc S):ExT w B n env t loc S Q' :=
 .mk fun A σ s E ha W F=>wpAny_mono (h.run A σ s E ha W F) (fun _ _ p=>p.mono k) fun _ _ e=>e
theorem ExT.bind {t:Sem Flow} {Q:AF→Loc→Store→Prop} {G:Flow→Shared→Prop} {E:Value→Shared→Prop} (h:ExT w B n env t loc S Q) (ha:AOk B n A) (W:Wd B σ S s) (F:Fm B σ env loc s.heap)
  (k:∀ v s₁ τ af loc' S₁,Wd B (σ++τ) S₁ s₁→(∀ a∈τ,s.heap.get? a=none)→ExtF σ env.locals s.heap s₁.heap→Fm B (σ++τ) env loc' s₁.heap→RF (σ++τ) s₁.heap af v→Q af loc' S₁→G v s₁):wpAny (model pw w) A t G E s :=
 wpAny_mono (h.run A σ s E ha W F) (fun v s₁ ⟨τ,af,l,S₁,a,b,c,d,e,f⟩=>k v s₁ τ af l S₁ a b c d e f) fun _ _ e=>e
theorem ExA.nil {Q:AF→Loc→Store→Prop} (q:Q .next loc S):ExA w B n env [] loc S Q:=.mk fun _ _ _ _ _ W F=>wpAny_execs_nil (.now W .refl F (af:=.next) rfl q)
noncomputable abbrev kS (w:World) (B:Bs) (n:Nat) (env:Env) (rest:List Stmt) (Q:AF→Loc→Store→Prop) (af:AF) (loc:Loc) (S:Store):Prop:=match af with | .next=>ExA w B n env rest loc S Q | af=>Q af loc S
theorem ExA.cons {st:Stmt} {rest:List Stmt} {Q:AF→Loc→Store→Prop}
  (h:ExS w B n env st loc S (kS w B n env rest Q)):ExA w B n env (st::rest) loc S Q:=.mk fun A σ s E ha W F=>by
 refine wpAny_execs_cons (h.bind ha W F fun f s₁ τ af loc₁ S₁ W₁ f₁ x₁ F₁ r₁ h₁=>?_)
 cases af with
 | next=>obtain rfl:f=.next:=r₁;exact wpAny_mono (h₁.run A _ s₁ E ha W₁ F₁) (fun c s₃ p=>p.back F.live W₁ F₁ x₁ f₁) fun _ _ e=>e
 | brk=>obtain rfl:f=.brk:=r₁;exact ⟨τ,.brk,loc₁,S₁,W₁,f₁,x₁,F₁,rfl,h₁⟩
 | cont=>obtain rfl:f=.cont:=r₁;exact ⟨τ,.cont,loc₁,S₁,W₁,f₁,x₁,F₁,rfl,h₁⟩
 | ret av=>obtain ⟨v,rfl,r⟩:=r₁;exact ⟨τ,.ret av,loc₁,S₁,W₁,f₁,x₁,F₁,⟨v,rfl,r⟩,h₁⟩
theorem ExA.one {st:Stmt} {Q:AF→Loc→Store→Prop} (h:ExS w B n env st loc S Q):ExA w B n env [st] loc S Q :=
 ExA.cons (h.mono fun af loc S q=>by cases af <;> first | exact ExA.nil q | exact q)
inductive UpdF:Loc→Str→(AV→Loc)→Prop
 | here {x:Str} {o:AV} {r:Loc}:UpdF ((x,o)::r) x fun av=>(x,av)::r
 | there {y:Str×AV} {r:Loc} {x:Str} {f:AV→Loc} (h:UpdF r x f):UpdF (y::r) x fun av=>y::f av
theorem UpdF.names {x:Str} {f:AV→Loc} (h:UpdF loc x f) (av:AV):(f av).map (·.1)=loc.map (·.1):=by
 induction h with
 | here=>rfl
 | there _ ih=>simp [ih]
theorem UpdF.mem {x:Str} {f:AV→Loc} (h:UpdF loc x f) (nd:(loc.map (·.1)).Nodup) {av:AV} {y:Str} {bv:AV} (hy:(y,bv)∈f av):(y=x∧bv=av)∨(y≠x∧(y,bv)∈loc):=by
 induction h with
 | here =>
  simp only [List.map_cons,List.nodup_cons] at nd
  rcases List.mem_cons.mp hy with q | q
  ·cases q;exact .inl ⟨rfl,rfl⟩
  ·exact .inr ⟨by rintro rfl;exact nd.1 (List.mem_map_of_mem (f:=(·.1)) q),List.mem_cons_of_mem _ q⟩
 | there h' ih =>
  simp only [List.map_cons,List.nodup_cons] at nd
  rcases List.mem_cons.mp hy with q | q
  ·subst q
   refine .inr ⟨?_,List.mem_cons_self⟩
   rintro rfl
   refine nd.1 ?_
   have:∀ {l:Loc} {x:Str} {f:AV→Loc},UpdF l x f→x∈l.map (·.1):=by
    intro l x f h
    induction h with
    | here=>simp
    | there _ ih=>simp only [List.map_cons,List.mem_cons];exact .inr ih
   exact this h'
  ·rcases ih nd.2 q with r | r
   ·exact .inl r
   ·exact .inr ⟨r.1,List.mem_cons_of_mem _ r.2⟩
structure StT (w:World) (B:Bs) (n:Nat) (env:Env) (t:Value→Sem Unit) (av:AV) (loc:Loc) (S:Store) (Q:Loc→Store→Prop):Prop where
 run:∀ A σ s E v,AOk B n A→Wd B σ S s→Fm B σ env loc s.heap→RV σ s.heap av v→wpAny (model pw w) A (t v) (fun _ s'=>PstF B σ env s (fun _ loc' S'=>Q loc' S') .next s') E s
theorem StT.bind {t:Value→Sem Unit} {av:AV} {Q:Loc→Store→Prop} {G:Unit→Shared→Prop} {E:Value→Shared→Prop} (h:StT w B n env t av loc S Q) (v:Value) (ha:AOk B n A) (W:Wd B σ S s) (F:Fm B σ env loc s.heap) (r:RV σ s.heap av v)
  (k:∀ u s₁ τ (af:AF) loc' S₁,Wd B (σ++τ) S₁ s₁→(∀ a∈τ,s.heap.get? a=none)→ExtF σ env.locals s.heap s₁.heap→Fm B (σ++τ) env loc' s₁.heap→RF (σ++τ) s₁.heap af .next→Q loc' S₁→G u s₁):wpAny (model pw w) A (t v) G E s :=
 wpAny_mono (h.run A σ s E v ha W F r) (fun v s₁ ⟨τ,af,l,S₁,a,b,c,d,e,f⟩=>k v s₁ τ af l S₁ a b c d e f) fun _ _ e=>e
theorem StT.store {x:Str} {av:AV} {f:AV→Loc} {Q:Loc→Store→Prop} (hu:UpdF loc x f) (hk:env.kindOf x=some .local) (q:Q (f av) S):StT w B n env (storeName env x) av loc S Q:=.mk fun A σ s E v ha W F r=>by
 obtain ⟨⟨m,hn,hm⟩,ok⟩:=id F
 have hp:(env.scope.kind==.class||(env.scope.kind==.module&&env.locals != env.globals))=false:=by rw [ok.kind];rfl
 refine wpAny_storeName_local hk hn (fun h' hn' hs'=>?_) hp
 refine let ZZ:Prop:=_;(?_:ZZ)
 obtain ⟨o,es,ep,ho,hd,hr⟩:=hn
 refine let ZZ:Prop:=_;(?_:ZZ)
 obtain ⟨h1,h2,h3⟩:=W.out_of_dict ho hd
 have ht:∀ o,s.heap.get? env.locals=some o→immO o=false:=fun o' e=>by
  rw [ho] at e;cases e
  obtain ⟨c,d,dt,sl⟩:=o
  subst hd
  cases c <;> rfl
 have W':Wd B σ S { s with heap:=h',toks:=s.toks+1 }:=W.but (hs'.extBut) ok.big h1 h2 h3 ht (.inr (.inl (let ⟨o₂,_,_,e₂,d₂,_⟩:=hn';⟨o₂,e₂,by unfold nsO;rw [d₂]⟩)))
 have rv:∀ av v,RV σ s.heap av v→RV σ h' av v:=fun av v r=>r.keep0 fun a o e i=>hs'.extBut a o (by rintro rfl;rw [ht _ e] at i;cases i) e
 refine .now W' (.exact fun a o e _ hL _ _=>hs'.extBut a o hL e) (af:=.next) (loc':=f av) ⟨⟨_,hn',fun y bv hy=>?_⟩,⟨by rw [hu.names];exact ok.nodup,ok.kind,ok.glob,ok.blt,ok.big⟩⟩ rfl q
 rcases hu.mem ok.nodup hy with ⟨rfl,rfl⟩ | ⟨hne,hy⟩
 ·exact .inr ⟨v,.inl ⟨hk,by simp⟩,rv _ _ r⟩
 ·rcases hm y bv hy with q | ⟨u,q,ru⟩
  ·exact .inl q
  ·refine .inr ⟨u,?_,rv _ _ ru⟩
   rcases q with ⟨q1,q2⟩ | ⟨q1,c,q2,o',ho',hd'⟩
   ·exact .inl ⟨q1,by simp [hne,q2]⟩
   ·exact .inr ⟨q1,c,q2,o',hs'.extBut _ _ (by rintro rfl;rw [ho] at ho';cases ho';rw [hd] at hd';cases hd') ho',hd'⟩
theorem EvT.thenStore {t:Sem Value} {k:Value→Sem Unit} {Q:AF→Loc→Store→Prop} (h:EvT w B n env t loc S fun av S₁=>StT w B n env k av loc S₁ fun loc' S'=>Q .next loc' S')
  {E:Value→Shared→Prop} (ha:AOk B n A) (W:Wd B σ S s) (F:Fm B σ env loc s.heap):wpAny (model pw w) A t (fun v s₁=>wpAny (model pw w) A (k v) (fun _ s'=>PstF B σ env s Q .next s') E s₁) E s:=by
 refine h.bind ha W F fun v s₁ τ av S₁ W₁ f₁ x₁ r₁ h₁=>?_
 refine wpAny_mono (h₁.run A _ s₁ E v ha W₁ (F.mono W τ x₁) r₁) (fun _ s' p=>?_) fun _ _ e=>e
 have:=p.back F.live W₁ (F.mono W τ x₁) x₁.toF f₁
 obtain ⟨τ',af,loc',S',a,b,c,d,e,g⟩:=this
 cases af with
 | next=>exact ⟨τ',.next,loc',S',a,b,c,d,e,g⟩
 | brk=>exact absurd e nofun
 | cont=>exact absurd e nofun
 | ret av=>obtain ⟨v,e,_⟩:=e;cases e
noncomputable abbrev kA (f:AV→Loc) (Q:AF→Loc→Store→Prop) (av:AV) (S:Store):Prop:=Q .next (f av) S
noncomputable abbrev kX (loc:Loc) (Q:AF→Loc→Store→Prop) (_:AV) (S:Store):Prop:=Q .next loc S
noncomputable abbrev kR (loc:Loc) (Q:AF→Loc→Store→Prop) (av:AV) (S:Store):Prop:=Q (.ret av) loc S
theorem ExS.assign {x:Str} {p' pos:Pos} {value:Expr} {f:AV→Loc} {Q:AF→Loc→Store→Prop} (hu:UpdF loc x f) (h:EvA w B n env value loc S (kA f Q))
  (hk:env.kindOf x=some .local:=by kernel_rfl) (hs:swapsWith value (some (.Name x p')) pos.line env=pure false:=by rfl):ExS w B n env (.Assign [.Name x p'] value pos) loc S Q:=.mk fun _ _ _ _ ha W F =>
 wpAny_Assign_Name (EvT.thenStore (h.mono fun _ _ q=>StT.store hu hk q) ha W F) hs
theorem ExS.expr {e:Expr} {pos:Pos} {Q:AF→Loc→Store→Prop} (h:EvA w B n env e loc S (kX loc Q)) (hi:interactive env=false:=by rfl) (hs:swapsWith e none pos.line env=pure false:=by rfl):ExS w B n env (.Expr e pos) loc S Q:=.mk fun A σ s E ha W F =>
 wpAny_Expr_any (wpAny_mono (h.run A σ s E ha W F) (fun _ _ p=>let ⟨τ,_,S',a,b,c,_,e⟩:=p;⟨τ,.next,loc,S',a,b,c.toF,F.mono W τ c,rfl,e⟩) fun _ _ e=>e) hi hs
theorem ExS.ret {e:Expr} {pos:Pos} {Q:AF→Loc→Store→Prop} (h:EvA w B n env e loc S (kR loc Q)):ExS w B n env (.Return (some e) pos) loc S Q:=.mk fun A σ s E ha W F =>
 wpAny_Return_some (wpAny_mono (h.run A σ s E ha W F) (fun v _ p=>let ⟨τ,av,S',a,b,c,d,e⟩:=p;⟨τ,.ret av,loc,S',a,b,c.toF,F.mono W τ c,⟨v,rfl,d⟩,e⟩) fun _ _ e=>e)
theorem ExS.pass {pos:Pos} {Q:AF→Loc→Store→Prop} (q:Q .next loc S):ExS w B n env (.Pass pos) loc S Q:=.mk fun _ _ _ _ _ W F=>wpAny_Pass (.now W .refl F (af:=.next) rfl q)
theorem ExS.brk {pos:Pos} {Q:AF→Loc→Store→Prop} (q:Q .brk loc S):ExS w B n env (.Break pos) loc S Q:=.mk fun _ _ _ _ _ W F=>wpAny_Break (.now W .refl F (af:=.brk) rfl q)
theorem ExS.cont {pos:Pos} {Q:AF→Loc→Store→Prop} (q:Q .cont loc S):ExS w B n env (.Continue pos) loc S Q:=.mk fun _ _ _ _ _ W F=>wpAny_Continue (.now W .refl F (af:=.cont) rfl q)
inductive PstB (B:Bs) (σ:List Addr) (s:Shared) (Q:Bool→Store→Prop) (b:Bool) (s':Shared):Prop
 | mk (τ:List Addr) (S':Store) (W:Wd B (σ++τ) S' s') (f:∀ a∈τ,s.heap.get? a=none) (x:Ext σ s.heap s'.heap) (q:Q b S')
theorem PstB.back {τ:List Addr} {S₁:Store} {s₁:Shared} {Q:Bool→Store→Prop} {v:Bool} {s':Shared} (W:Wd B σ S s) (W₁:Wd B (σ++τ) S₁ s₁) (x:Ext σ s.heap s₁.heap) (hf:∀ a∈τ,s.heap.get? a=none) (p:PstB B (σ++τ) s₁ Q v s'):PstB B σ s Q v s':=by
 obtain ⟨τ',S',W',f',x',q'⟩:=p
 refine ⟨τ++τ',S',by rw [← List.append_assoc];exact W',fun a ha=>?_,x.trans x' hf,q'⟩
 rcases List.mem_append.mp ha with q | q
 ·exact hf a q
 ·exact Ext.new W W₁ x (f' a q)
structure TsT (w:World) (B:Bs) (n:Nat) (env:Env) (t:Sem Bool) (loc:Loc) (S:Store) (Q:Bool→Store→Prop):Prop where
 run:∀ A σ s E,AOk B n A→Wd B σ S s→Fm B σ env loc s.heap→wpAny (model pw w) A t (PstB B σ s Q) E s
noncomputable abbrev TsA (w:World) (B:Bs) (n:Nat) (env:Env) (e:Expr) (loc:Loc) (S:Store) (Q:Bool→Store→Prop):Prop:=TsT w B n env (isTrue e env (eval e env)) loc S Q
structure TrT (w:World) (B:Bs) (n:Nat) (av:AV) (S:Store) (Q:Bool→Store→Prop):Prop where
 run:∀ A σ s E v,AOk B n A→Wd B σ S s→RV σ s.heap av v→wpAny (model pw w) A (truthy v) (PstB B σ s Q) E s
theorem TsT.bind {t:Sem Bool} {Q:Bool→Store→Prop} {G:Bool→Shared→Prop} {E:Value→Shared→Prop} (h:TsT w B n env t loc S Q) (ha:AOk B n A) (W:Wd B σ S s) (F:Fm B σ env loc s.heap)
  (k:∀ v s₁ τ S₁,Wd B (σ++τ) S₁ s₁→(∀ a∈τ,s.heap.get? a=none)→Ext σ s.heap s₁.heap→Q v S₁→G v s₁):wpAny (model pw w) A t G E s :=
 wpAny_mono (h.run A σ s E ha W F) (fun v s₁ ⟨τ,S₁,a,b,c,e⟩=>k v s₁ τ S₁ a b c e) fun _ _ e=>e
theorem TsT.last {t:Sem Bool} {Q:Bool→Store→Prop} {E:Value→Shared→Prop} {τ:List Addr} {S₁:Store} {s₁:Shared} (h:TsT w B n env t loc S₁ Q) (ha:AOk B n A) (W:Wd B σ S s) (W₁:Wd B (σ++τ) S₁ s₁) (F:Fm B (σ++τ) env loc s₁.heap) (x:Ext σ s.heap s₁.heap) (f:∀ a∈τ,s.heap.get? a=none):wpAny (model pw w) A t (PstB B σ s Q) E s₁ :=
 wpAny_mono (h.run A _ s₁ E ha W₁ F) (fun _ _ p=>p.back W W₁ x f) fun _ _ e=>e
theorem TrT.bind {av:AV} {Q:Bool→Store→Prop} {G:Bool→Shared→Prop} {E:Value→Shared→Prop} (h:TrT w B n av S Q) (v:Value) (ha:AOk B n A) (W:Wd B σ S s) (r:RV σ s.heap av v)
  (k:∀ b s₁ τ S₁,Wd B (σ++τ) S₁ s₁→(∀ a∈τ,s.heap.get? a=none)→Ext σ s.heap s₁.heap→Q b S₁→G b s₁):wpAny (model pw w) A (truthy v) G E s :=
 wpAny_mono (h.run A σ s E v ha W r) (fun v s₁ ⟨τ,S₁,a,b,c,e⟩=>k v s₁ τ S₁ a b c e) fun _ _ e=>e
theorem TrT.last {av:AV} {Q:Bool→Store→Prop} {E:Value→Shared→Prop} {τ:List Addr} {S₁:Store} {s₁:Shared} (h:TrT w B n av S₁ Q) (v:Value) (ha:AOk B n A) (W:Wd B σ S s) (W₁:Wd B (σ++τ) S₁ s₁) (r:RV (σ++τ) s₁.heap av v) (x:Ext σ s.heap s₁.heap) (f:∀ a∈τ,s.heap.get? a=none):wpAny (model pw w) A (truthy v) (PstB B σ s Q) E s₁ :=
 wpAny_mono (h.run A _ s₁ E v ha W₁ r) (fun _ _ p=>p.back W W₁ x f) fun _ _ e=>e
theorem PstB.now {Q:Bool→Store→Prop} {b:Bool} {s':Shared} (W:Wd B σ S s) (q:Q b S) (h:s'.heap=s.heap:=by rfl) (g:s'.gens=s.gens:=by rfl) (o:s'.os=s.os:=by rfl):PstB B σ s Q b s' :=
 ⟨[],S,by rw [List.append_nil];exact W.same h g o,nofun,h▸Ext.refl _ _,q⟩
theorem TrT.bool {b:Bool} {Q:Bool→Store→Prop} (q:Q b S):TrT w B n (.bool b) S Q:=.mk fun _ _ _ _ _ _ W r=>by
 obtain rfl:=r
 exact wpAny_truthy_bool (.now W q)
theorem TrT.none {Q:Bool→Store→Prop} (q:Q false S):TrT w B n .none S Q:=.mk fun _ _ _ _ _ _ W r=>by
 obtain rfl:=r
 exact PyProof.Rows.truthy_none (.now W q)
noncomputable abbrev kT (w:World) (B:Bs) (n:Nat) (Q:Bool→Store→Prop) (av:AV) (S:Store):Prop:=TrT w B n av S Q
theorem EvT.thenTruth {t:Sem Value} {Q:Bool→Store→Prop} (h:EvT w B n env t loc S (kT w B n Q))
  {E:Value→Shared→Prop} (ha:AOk B n A) (W:Wd B σ S s) (F:Fm B σ env loc s.heap):wpAny (model pw w) A t (fun v s₁=>wpAny (model pw w) A (truthy v) (PstB B σ s Q) E s₁) E s:=by
 refine h.bind ha W F fun v s₁ τ av S₁ W₁ f₁ x₁ r₁ h₁=>?_
 exact h₁.last v ha W W₁ r₁ x₁ f₁
theorem TsA.cmp {l r:Expr} {op:CmpOp} {pos:Pos} {Q:Bool→Store→Prop}
  (h:EvA w B n env l loc S (kE w B n env r loc (fun vs=>compareOp op (vs.getD 0 .none) (vs.getD 1 .none)) (kT w B n Q))) (hm:behindInMarks op r=false:=by with_unfolding_all rfl) :
  TsA w B n env (.Compare l [op] [r] pos) loc S Q:=.mk fun A σ s E ha W F=>by
 refine wpAny_isTrue_Compare1 (h.bind ha W F fun a s₁ τ av S₁ W₁ f₁ x₁ r₁ h₁=>?_) hm
 refine h₁.bind ha W₁ (F.mono W τ x₁) fun b s₂ τ₂ bv S₂ W₂ f₂ x₂ r₂ h₂=>?_
 refine h₂.bind [a,b] ha W₂ ⟨r₁.mono W₁ x₂,r₂,trivial⟩ fun c s₃ τ₃ cv S₃ W₃ f₃ x₃ r₃ h₃=>?_
 exact wpAny_mono (h₃.run A _ s₃ E c ha W₃ r₃) (fun c s₄ p=>((p.back W₂ W₃ x₃ f₃).back W₁ W₂ x₂ f₂).back W W₁ x₁ f₁) fun _ _ e=>e
theorem TsA.not {e:Expr} {pos:Pos} {Q:Bool→Store→Prop} (h:TsA w B n env e loc S fun b=>Q (!b)):TsA w B n env (.UnaryOp .Not e pos) loc S Q:=.mk fun A σ s E ha W F=>wpAny_isTrue_Not (wpAny_mono (h.run A σ s E ha W F) (fun b s₁ p=>by obtain ⟨τ,S₁,W₁,f₁,x₁,q⟩:=p;exact ⟨τ,S₁,W₁,f₁,x₁,q⟩) fun _ _ e=>e)
theorem TsA.val {e:Expr} {Q:Bool→Store→Prop} (h:EvA w B n env e loc S (kT w B n Q)) (he:isTrue e env (eval e env)=(do let v←eval e env;standAt e.pos;holding [v] (truthy v)):=by rfl):TsA w B n env e loc S Q:=.mk fun _ _ _ _ ha W F =>
 wpAny_isTrue_value (EvT.thenTruth h ha W F) he
noncomputable abbrev kB (w:World) (B:Bs) (n:Nat) (env:Env) (b₀:Bool) (t:Sem Bool) (loc:Loc) (Q:Bool→Store→Prop) (b:Bool) (S:Store):Prop:=if b=b₀ then TsT w B n env t loc S Q else Q b S
theorem TsT.thenB {t t₂:Sem Bool} {b₀:Bool} {Q:Bool→Store→Prop} (h:TsT w B n env t loc S (kB w B n env b₀ t₂ loc Q))
  {E:Value→Shared→Prop} (ha:AOk B n A) (W:Wd B σ S s) (F:Fm B σ env loc s.heap):wpAny (model pw w) A t (fun b s₁=>if b=b₀ then wpAny (model pw w) A t₂ (PstB B σ s Q) E s₁ else PstB B σ s Q b s₁) E s:=by
 refine h.bind ha W F fun b s₁ τ S₁ W₁ f₁ x₁ h₁=>?_
 by_cases hb:b=b₀
 ·refine ifP hb ?_
  exact (unP hb h₁).last ha W W₁ (F.mono W τ x₁) x₁ f₁
 ·exact ifN hb ⟨τ,S₁,W₁,f₁,x₁,unN hb h₁⟩
theorem TsA.and {l:List Expr} {pos:Pos} {Q:Bool→Store→Prop} (h:TsT w B n env (allTrue .And l env) loc S Q):TsA w B n env (.BoolOp .And l pos) loc S Q:=.mk fun A σ s E ha W F=>wpAny_isTrue_BoolOp (h.run A σ s E ha W F)
theorem TsA.or {l:List Expr} {pos:Pos} {Q:Bool→Store→Prop} (h:TsT w B n env (allTrue .Or l env) loc S Q):TsA w B n env (.BoolOp .Or l pos) loc S Q:=.mk fun A σ s E ha W F=>wpAny_isTrue_BoolOp (h.run A σ s E ha W F)
theorem TsT.andNil {Q:Bool→Store→Prop} (q:Q true S):TsT w B n env (allTrue .And [] env) loc S Q:=.mk fun _ _ _ _ _ W _=>wpAny_allTrue_And_nil (.now W q)
theorem TsT.orNil {Q:Bool→Store→Prop} (q:Q false S):TsT w B n env (allTrue .Or [] env) loc S Q:=.mk fun _ _ _ _ _ W _=>wpAny_allTrue_Or_nil (.now W q)
theorem TsT.andCons {x:Expr} {l:List Expr} {Q:Bool→Store→Prop} (h:TsA w B n env x loc S (kB w B n env true (allTrue .And l env) loc Q)):TsT w B n env (allTrue .And (x::l) env) loc S Q:=.mk fun A σ s E ha W F=>by
 refine wpAny_allTrue_And_cons (wpAny_mono (TsT.thenB h ha W F) (fun b s₁ p=>?_) fun _ _ e=>e)
 cases b <;> exact p
theorem TsT.orCons {x:Expr} {l:List Expr} {Q:Bool→Store→Prop} (h:TsA w B n env x loc S (kB w B n env false (allTrue .Or l env) loc Q)):TsT w B n env (allTrue .Or (x::l) env) loc S Q:=.mk fun A σ s E ha W F=>by
 refine wpAny_allTrue_Or_cons (wpAny_mono (TsT.thenB h ha W F) (fun b s₁ p=>?_) fun _ _ e=>e)
 cases b <;> exact p
noncomputable abbrev kI (w:World) (B:Bs) (n:Nat) (env:Env) (body orelse:List Stmt) (loc:Loc) (Q:AF→Loc→Store→Prop) (b:Bool) (S:Store):Prop:=if b=true then ExA w B n env body loc S Q else ExA w B n env orelse loc S Q
noncomputable abbrev kJ (w:World) (B:Bs) (n:Nat) (env:Env) (e f:Expr) (loc:Loc) (Q:AV→Store→Prop) (b:Bool) (S:Store):Prop:=if b=true then EvA w B n env e loc S Q else EvA w B n env f loc S Q
theorem ExS.ite {test:Expr} {body orelse:List Stmt} {pos:Pos} {Q:AF→Loc→Store→Prop}
  (h:TsA w B n env test loc S (kI w B n env body orelse loc Q)):ExS w B n env (.If test body orelse pos) loc S Q:=.mk fun A σ s E ha W F=>by
 refine wpAny_If (h.bind ha W F fun b s₁ τ S₁ W₁ f₁ x₁ h₁=>?_)
 cases b
 ·exact wpAny_mono (h₁.run A _ s₁ E ha W₁ (F.mono W τ x₁)) (fun _ s' p=>p.back F.live W₁ (F.mono W τ x₁) x₁.toF f₁) fun _ _ e=>e
 ·exact wpAny_mono (h₁.run A _ s₁ E ha W₁ (F.mono W τ x₁)) (fun _ s' p=>p.back F.live W₁ (F.mono W τ x₁) x₁.toF f₁) fun _ _ e=>e
theorem EvA.ite {test b c:Expr} {pos:Pos} {Q:AV→Store→Prop}
  (h:TsA w B n env test loc S (kJ w B n env b c loc Q)):EvA w B n env (.IfExp test b c pos) loc S Q:=.mk fun A σ s E ha W F=>by
 refine wpAny_IfExp (h.bind ha W F fun b s₁ τ S₁ W₁ f₁ x₁ h₁=>?_)
 cases b
 ·exact h₁.last ha W W₁ (F.mono W τ x₁) x₁ f₁
 ·exact h₁.last ha W W₁ (F.mono W τ x₁) x₁ f₁
noncomputable abbrev kL (k:Nat) (I:Nat→Loc→Store→Prop) (Q:AF→Loc→Store→Prop) (af:AF) (loc:Loc) (S:Store):Prop:=match af with
 | .next | .cont=>∃ m,m<k∧I m loc S
 | .brk=>Q .next loc S
 | .ret av=>Q (.ret av) loc S
noncomputable abbrev kW (w:World) (B:Bs) (n:Nat) (env:Env) (body:List Stmt) (loc:Loc) (k:Nat) (I:Nat→Loc→Store→Prop) (Q:AF→Loc→Store→Prop) (b:Bool) (S:Store):Prop:=if b=true then ExA w B n env body loc S (kL k I Q) else Q .next loc S
theorem ExS.while {test:Expr} {body:List Stmt} {pos:Pos} {Q:AF→Loc→Store→Prop} (I:Nat→Loc→Store→Prop)
  (turn:∀ k loc S,I k loc S→TsA w B n env test loc S (kW w B n env body loc k I Q)) (k:Nat) (h:I k loc S):ExS w B n env (.While test body [] pos) loc S Q:=.mk fun A σ s E ha W F=>by
 refine wpAny_While (codeAny_whileLoop (fun k s'=>∃ τ loc' S',Wd B (σ++τ) S' s'∧(∀ a∈τ,s.heap.get? a=none)∧ExtF σ env.locals s.heap s'.heap∧Fm B (σ++τ) env loc' s'.heap∧I k loc' S') ?_ k
  ⟨[],loc,S,by rwa [List.append_nil],nofun,.refl,by rwa [List.append_nil],h⟩)
 intro k s₁ p₀
 refine let ZZ:Prop:=_;(?_:ZZ)
 obtain ⟨τ,loc₁,S₁,W₁,f₁,x₁,F₁,h₁⟩:=p₀
 refine (turn k loc₁ S₁ h₁).bind ha W₁ F₁ fun b s₂ τ₂ S₂ W₂ f₂ x₂ h₂=>?_
 have F₂:=F₁.mono W₁ τ₂ x₂
 cases b with
 | false =>
  have p':PstF B (σ++τ) env s₁ Q .next s₂:=⟨τ₂,.next,loc₁,S₂,W₂,f₂,x₂.toF,F₂,rfl,h₂⟩
  exact wpAny_execs_nil (p'.back F.live W₁ F₁ x₁ f₁)
 | true =>
  refine wpAny_mono (h₂.run A _ s₂ _ ha W₂ F₂) (fun f s₃ p=>?_) fun _ _ e=>e
  have p:=(p.back F₁.live W₂ F₂ x₂.toF f₂).back F.live W₁ F₁ x₁ f₁
  refine let ZZ:Prop:=_;(?_:ZZ)
  obtain ⟨τ₃,af,loc₃,S₃,W₃,f₃,x₃,F₃,r₃,h₃⟩:=p
  cases af with
  | next=>obtain rfl:f=.next:=r₃;obtain ⟨m,hm,h₃⟩:=h₃;exact ⟨m,hm,τ₃,loc₃,S₃,W₃,f₃,x₃,F₃,h₃⟩
  | cont=>obtain rfl:f=.cont:=r₃;obtain ⟨m,hm,h₃⟩:=h₃;exact ⟨m,hm,τ₃,loc₃,S₃,W₃,f₃,x₃,F₃,h₃⟩
  | brk=>obtain rfl:f=.brk:=r₃;exact ⟨τ₃,.next,loc₃,S₃,W₃,f₃,x₃,F₃,rfl,h₃⟩
  | ret av=>obtain ⟨v,rfl,r⟩:=r₃;exact ⟨τ₃,.ret av,loc₃,S₃,W₃,f₃,x₃,F₃,⟨v,rfl,r⟩,h₃⟩
structure StH (w:World) (h:Heap):Prop where
 yp:∀ a o,(Hp1 w.params).get? a=some o→a≠50→a≠130→h.get? a=some o
noncomputable abbrev St (w:World) (B:Bs):Prop:=StH w B.heap
noncomputable section
noncomputable def esD:Data→Array DictEntry | .dict es _=>es | _=>#[]
noncomputable def dictOf (h:Heap) (a:Addr):Array DictEntry:=match h.get? a with
 | some o=>esD o.data
 | _=>#[]
noncomputable def mgF (P:Params):Str→Option Value:=nsFind (dictOf (Hp1 P) 3)
noncomputable def mbF (P:Params):Str→Option Value:=nsFind (dictOf (Hp1 P) 0)
noncomputable def mcF (P:Params):Str→Option Value:=nsFind (dictOf (Hp1 P) 2)
end
noncomputable def isStrV:Value→Bool | .str _ _=>true | _=>false
noncomputable def isDictStr (h:Heap) (a:Addr):Bool:=match h.get? a with
 | some o=>nsO o&&(esD o.data).all fun e=>isStrV e.key
 | _=>false
theorem isStrV_str {v:Value} (h:isStrV v=true):∃ x t,v=.str x t:=by
 cases v <;> first | exact ⟨_,_,rfl⟩ | cases h
theorem ns_of_isDict {h h':Heap} {a:Addr} (e:isDictStr h a=true) (k:∀ o,h.get? a=some o→h'.get? a=some o):h'.Ns a (nsFind (dictOf h a)):=by
 unfold isDictStr at e
 unfold dictOf
 cases ho:h.get? a with
 | none=>rw [ho] at e;cases e
 | some o =>
  rw [ho] at e
  obtain ⟨e1,e2⟩:=Bool.and_eq_true_iff.mp e
  obtain ⟨es,ep,hd⟩:=nsO_dict e1
  rw [hd] at e2
  exact ⟨o,es,ep,k _ ho,hd,fun x hx=>isStrV_str (Array.all_eq_true_iff_forall_mem.mp e2 x hx),fun name=>by show _=nsFind (esD o.data) name;rw [hd];rfl⟩
theorem main_dict (P:Params):isDictStr (Hp1 P) 3=true:=by kernel_rfl
theorem blt_dict (P:Params):isDictStr (Hp1 P) 0=true:=by kernel_rfl
theorem st_dict (P:Params):isDictStr (Hp1 P) 2=true:=by kernel_rfl
theorem no_limit (P:Params):mcF P "sys.recursionlimit"=none:=by kernel_rfl
theorem St.at (H:St w B) (W:Wd B σ S s) {a:Addr} {o:Obj} (e:(Hp1 w.params).get? a=some o) (h5:a≠50:=by decide) (h13:a≠130:=by decide):s.heap.get? a=some o:=W.kept a o (H.yp a o e h5 h13) h5 h13
theorem St.main (H:St w B) (W:Wd B σ S s):s.heap.Ns mainGlobals (mgF w.params):=ns_of_isDict (main_dict _) fun _ e=>H.at W e
theorem St.blt (H:St w B) (W:Wd B σ S s):s.heap.Ns builtinsNs (mbF w.params):=ns_of_isDict (blt_dict _) fun _ e=>H.at W e
theorem St.nolimit (H:St w B) (W:Wd B σ S s):s.heap.NoLimit:=⟨_,ns_of_isDict (h:=Hp1 w.params) (a:=2) (st_dict _) fun _ e=>H.at W e,no_limit _⟩
theorem EvA.glob (H:St w B) {x:Str} {pos:Pos} {v:Value} {Q:AV→Store→Prop} (hv:mgF w.params x=some v) (hx:env.kindOf x=some .globalImplicit) (q:Q (.val v) S) (hd:(x==("__debug__":Str))=false:=by decide +kernel) :
  EvA w B n env (.Name x pos) loc S Q:=.mk fun A σ s E ha W F =>
 Name_function_global F.ok.kind hx (loadGlobal_global (F.ok.glob▸H.main W) hv (.now W (Ext.refl _ _) (av:=.val v) rfl q)) hd
theorem EvA.blt (H:St w B) {x:Str} {pos:Pos} {v:Value} {Q:AV→Store→Prop} (hg:mgF w.params x=none) (hv:mbF w.params x=some v) (hx:env.kindOf x=some .globalImplicit) (q:Q (.val v) S) (hd:(x==("__debug__":Str))=false:=by decide +kernel) :
  EvA w B n env (.Name x pos) loc S Q:=.mk fun A σ s E ha W F =>
 Name_function_global F.ok.kind hx (loadGlobal_builtin (F.ok.glob▸H.main W) hg (F.ok.blt▸H.blt W) hv (.now W (Ext.refl _ _) (av:=.val v) rfl q)) hd
inductive PstL (B:Bs) (σ:List Addr) (s:Shared) (Q:List AV→Store→Prop) (vs:List Value) (s':Shared):Prop
 | mk (τ:List Addr) (avs:List AV) (S':Store) (W:Wd B (σ++τ) S' s') (f:∀ a∈τ,s.heap.get? a=none) (x:Ext σ s.heap s'.heap) (r:All2 (RV (σ++τ) s'.heap) avs vs) (q:Q avs S')
structure ArT (w:World) (B:Bs) (n:Nat) (env:Env) (t:Sem (List Value)) (loc:Loc) (S:Store) (Q:List AV→Store→Prop):Prop where
 run:∀ A σ s E,AOk B n A→Wd B σ S s→Fm B σ env loc s.heap→wpAny (model pw w) A t (PstL B σ s Q) E s
theorem PstL.back {τ:List Addr} {S₁:Store} {s₁:Shared} {Q:List AV→Store→Prop} {v:List Value} {s':Shared} (W:Wd B σ S s) (W₁:Wd B (σ++τ) S₁ s₁) (x:Ext σ s.heap s₁.heap) (hf:∀ a∈τ,s.heap.get? a=none) (p:PstL B (σ++τ) s₁ Q v s'):PstL B σ s Q v s':=by
 obtain ⟨τ',av,S',W',f',x',r',q'⟩:=p
 refine ⟨τ++τ',av,S',by rw [← List.append_assoc];exact W',fun a ha=>?_,x.trans x' hf,by rw [← List.append_assoc];exact r',q'⟩
 rcases List.mem_append.mp ha with q | q
 ·exact hf a q
 ·exact Ext.new W W₁ x (f' a q)
theorem ArT.nil {pos:Pos} {Q:List AV→Store→Prop} (q:Q [] S):ArT w B n env (spliced (backTo pos (starEach [] env))) loc S Q:=.mk fun _ _ s _ _ W _ =>
 args_nil ⟨[],[],S,by rwa [List.append_nil],nofun,Ext.refl _ _,trivial,q⟩
theorem ArT.bind {t:Sem (List Value)} {Q:List AV→Store→Prop} {G:List Value→Shared→Prop} {E:Value→Shared→Prop} (h:ArT w B n env t loc S Q) (ha:AOk B n A) (W:Wd B σ S s) (F:Fm B σ env loc s.heap)
  (k:∀ v s₁ τ avs S₁,Wd B (σ++τ) S₁ s₁→(∀ a∈τ,s.heap.get? a=none)→Ext σ s.heap s₁.heap→All2 (RV (σ++τ) s₁.heap) avs v→Q avs S₁→G v s₁):wpAny (model pw w) A t G E s :=
 wpAny_mono (h.run A σ s E ha W F) (fun v s₁ ⟨τ,av,S₁,a,b,c,d,e⟩=>k v s₁ τ av S₁ a b c d e) fun _ _ e=>e
noncomputable abbrev kN (av:AV) (Q:List AV→Store→Prop) (avs:List AV) (S:Store):Prop:=Q (av::avs) S
noncomputable abbrev kC (w:World) (B:Bs) (n:Nat) (env:Env) (t:Sem (List Value)) (loc:Loc) (Q:List AV→Store→Prop) (av:AV) (S:Store):Prop:=ArT w B n env t loc S (kN av Q)
noncomputable abbrev kO (w:World) (B:Bs) (n:Nat) (f:List Value→Sem Value) (Q:AV→Store→Prop) (avs:List AV) (S:Store):Prop:=OpT w B n f avs S Q
theorem ArT.cons {e:Expr} {rest:List Expr} {pos:Pos} {Q:List AV→Store→Prop} (h:EvA w B n env e loc S (kC w B n env (spliced (backTo pos (starEach rest env))) loc Q))
  (he:starEach (e::rest) env=(false,eval e env)::starEach rest env:=by rfl):ArT w B n env (spliced (backTo pos (starEach (e::rest) env))) loc S Q:=.mk fun A σ s E ha W F=>by
 refine args_cons (h.bind ha W F fun v s₁ τ av S₁ W₁ f₁ x₁ r₁ h₁=>?_) he
 refine h₁.bind ha W₁ (F.mono W τ x₁) fun vs s₂ τ₂ avs S₂ W₂ f₂ x₂ r₂ h₂=>?_
 have p:PstL B (σ++τ) s₁ Q (v::vs) s₂:=⟨τ₂,av::avs,S₂,W₂,f₂,x₂,⟨r₁.mono W₁ x₂,r₂⟩,h₂⟩
 exact p.back W W₁ x₁ f₁
theorem ArT.then {t:Sem (List Value)} {f:List Value→Sem Value} {Q:AV→Store→Prop} (h:ArT w B n env t loc S (kO w B n f Q))
  {E:Value→Shared→Prop} (ha:AOk B n A) (W:Wd B σ S s) (F:Fm B σ env loc s.heap):wpAny (model pw w) A t (fun vs s₁=>wpAny (model pw w) A (f vs) (Pst B σ s Q) E s₁) E s:=by
 refine h.bind ha W F fun vs s₁ τ av S₁ W₁ f₁ x₁ r₁ h₁=>?_
 exact h₁.last vs ha W W₁ r₁ x₁ f₁
noncomputable abbrev callB (id:String):List Value→Sem Value:=fun vs=>call (.builtin id) vs
noncomputable abbrev callT (T:String):List Value→Sem Value:=fun vs=>call (.type T) vs
noncomputable abbrev callD (a:Addr):List Value→Sem Value:=fun vs=>call (.ref a) vs
theorem EvA.callB (H:St w B) {x:Str} {p pos:Pos} {id:String} {e:Expr} {rest:List Expr} {Q:AV→Store→Prop} (hg:mgF w.params x=none) (hv:mbF w.params x=some (.builtin id)) (hx:env.kindOf x=some .globalImplicit)
  (h:ArT w B n env (spliced (backTo pos (starEach (e::rest) env))) loc S (kO w B n (callB id) Q)) (hd:(x==("__debug__":Str))=false:=by decide +kernel)
  (he:starEach (e::rest) env=(false,eval e env)::starEach rest env:=by rfl) (hplain:(backTo pos (starEach rest env)).any (·.1)=false:=by rfl) :
  EvA w B n env (.Call (.Name x p) (e::rest) [] pos) loc S Q:=.mk fun A σ s E ha W F =>
 wpAny_Call_NameR (Name_function_global F.ok.kind hx (loadGlobal_builtin (F.ok.glob▸H.main W) hg (F.ok.blt▸H.blt W) hv (PyProof.Rows.callWith_builtin1 (ArT.then h ha W F) he hplain)) hd)
theorem EvA.callT (H:St w B) {x:Str} {p pos:Pos} {id:String} {e:Expr} {rest:List Expr} {Q:AV→Store→Prop} (hg:mgF w.params x=none) (hv:mbF w.params x=some (.type id)) (hx:env.kindOf x=some .globalImplicit)
  (h:ArT w B n env (spliced (backTo pos (starEach (e::rest) env))) loc S (kO w B n (callT id) Q)) (hd:(x==("__debug__":Str))=false:=by decide +kernel)
  (he:starEach (e::rest) env=(false,eval e env)::starEach rest env:=by rfl) (hplain:(backTo pos (starEach rest env)).any (·.1)=false:=by rfl) :
  EvA w B n env (.Call (.Name x p) (e::rest) [] pos) loc S Q:=.mk fun A σ s E ha W F =>
 wpAny_Call_NameR (Name_function_global F.ok.kind hx (loadGlobal_builtin (F.ok.glob▸H.main W) hg (F.ok.blt▸H.blt W) hv (PyProof.Rows.callWith_type1 (ArT.then h ha W F) he hplain)) hd)
theorem EvA.callD (H:St w B) {x:Str} {p pos:Pos} {a:Addr} {fd:FuncData} {e:Expr} {rest:List Expr} {Q:AV→Store→Prop} (hv:mgF w.params x=some (.ref a)) (hf:(Hp1 w.params).get? a=some ⟨.type "function",none,.func fd,#[]⟩) (hx:env.kindOf x=some .globalImplicit)
  (h:ArT w B n env (spliced (backTo pos (starEach (e::rest) env))) loc S (kO w B n (callD a) Q)) (h5:a≠50:=by decide) (h13:a≠130:=by decide) (hd:(x==("__debug__":Str))=false:=by decide +kernel)
  (he:starEach (e::rest) env=(false,eval e env)::starEach rest env:=by rfl) :
  EvA w B n env (.Call (.Name x p) (e::rest) [] pos) loc S Q:=.mk fun A σ s E ha W F =>
 wpAny_Call_NameR (Name_function_global F.ok.kind hx (loadGlobal_global (F.ok.glob▸H.main W) hv (callWith_def (fd:=fd) rfl (by
  refine h.bind ha W F fun vs s₁ τ av S₁ W₁ f₁ x₁ r₁ h₁=>?_
  exact ⟨H.at W₁ hf h5 h13,h₁.last vs ha W W₁ r₁ x₁ f₁⟩) he)) hd)
noncomputable def AVTy:AV→String→Prop
 | .sc (.str _),T=>T="str"
 | .sc (.int _),T=>T="int"
 | .lst _,T=>T="list"
 | _,_=>False
theorem AVTy.typeIs {av:AV} {T:String} (h:AVTy av T) (W:Wd B σ S s) {v:Value} (r:RV σ s.heap av v):s.TypeIs v T∧∀ a,v=.ref a→∃ ob,s.heap.get? a=some ob∧ob.dict=none:=by
 cases av with
 | sc c =>
  cases c with
  | str x=>obtain rfl:T="str":=h;obtain ⟨t,rfl⟩:=r;exact ⟨typeIs_str s x t,nofun⟩
  | int i=>obtain rfl:T="int":=h;obtain ⟨t,rfl⟩:=r;exact ⟨typeIs_int s i t,nofun⟩
  | none=>exact h.elim
  | bool b=>exact h.elim
 | lst k =>
  obtain rfl:T="list":=h
  obtain ⟨a,e,rfl⟩:=r
  obtain ⟨vs,p⟩:=W.listAt (List.mem_of_getElem? e)
  exact ⟨p.isList.typeIs,fun b hb=>by cases hb;obtain ⟨n,e⟩:=p;exact ⟨_,e,rfl⟩⟩
 | tup l=>exact h.elim
 | val u=>exact h.elim
 | obj o=>exact h.elim
 | exc m e a=>exact h.elim
 | bm k=>exact h.elim
 | unb=>exact h.elim
noncomputable abbrev kQ (w:World) (B:Bs) (n:Nat) (f:List Value→Sem Value) (ov:AV) (Q:AV→Store→Prop) (avs:List AV) (S:Store):Prop:=OpT w B n f (ov::avs) S Q
noncomputable abbrev kM (w:World) (B:Bs) (n:Nat) (env:Env) (T:String) (t:Sem (List Value)) (loc:Loc) (f:List Value→Sem Value) (Q:AV→Store→Prop) (ov:AV) (S:Store):Prop:=AVTy ov T∧ArT w B n env t loc S (kQ w B n f ov Q)
theorem EvA.meth {o:Expr} {name:Str} {apos pos:Pos} {T id:String} {e:Expr} {rest:List Expr} {Q:AV→Store→Prop}
  (h:EvA w B n env o loc S (kM w B n env T (spliced (backTo pos (starEach (e::rest) env))) loc (Mine.callB id) Q))
  (hp:PlainAttrs T) (hs:Slot T name id) (ht:typeOf (.builtin id)=pure (.type "method_descriptor"))
  (hb:attributeBase o name env (eval o env)=eval o env:=by rfl)
  (hk:((((backTo pos (starEach (e::rest) env)).all fun x=>!x.fst)&&(backToKw pos (keywordEach [] env)).all fun x=>x.fst.isSome)&&decide (((e::rest).length+([]:List Keyword).length+if ([]:List Keyword).isEmpty=true then 0 else 1)<30))=true:=by rfl)
  (hl:(apos.endLine==pos.line)=true:=by rfl)
  (he:starEach (e::rest) env=(false,eval e env)::starEach rest env:=by rfl) (hplain:(backTo pos (starEach rest env)).any (·.1)=false:=by rfl) :
  EvA w B n env (.Call (.Attribute o name apos) (e::rest) [] pos) loc S Q:=.mk fun A σ s E ha W F=>by
 refine wpAny_Call_method (T:=T) (id:=id) hb hk hl hp hs ht (h.bind ha W F fun ov s₁ τ av S₁ W₁ f₁ x₁ r₁ p=>?_)
 obtain ⟨hT,h₁⟩:=p
 obtain ⟨t1,t2⟩:=hT.typeIs W₁ r₁
 refine ⟨t1,t2,callWith_method1 (h₁.bind ha W₁ (F.mono W τ x₁) fun vs s₂ τ₂ avs S₂ W₂ f₂ x₂ r₂ h₂=>?_) he hplain⟩
 exact wpAny_mono (h₂.run A _ s₂ E (ov::vs) ha W₂ ⟨r₁.mono W₁ x₂,r₂⟩) (fun c s₃ p=>(p.back W₁ W₂ x₂ f₂).back W W₁ x₁ f₁) fun _ _ e=>e
theorem EvA.meth0 {o:Expr} {name:Str} {apos pos:Pos} {T id:String} {Q:AV→Store→Prop}
  (h:EvA w B n env o loc S fun ov S₁=>AVTy ov T∧OpT w B n (Mine.callB id) [ov] S₁ Q)
  (hp:PlainAttrs T) (hs:Slot T name id) (ht:typeOf (.builtin id)=pure (.type "method_descriptor"))
  (hb:attributeBase o name env (eval o env)=eval o env:=by rfl)
  (hl:(apos.endLine==pos.line)=true:=by rfl) :
  EvA w B n env (.Call (.Attribute o name apos) [] [] pos) loc S Q:=.mk fun A σ s E ha W F=>by
 refine wpAny_Call_method (T:=T) (id:=id) hb rfl hl hp hs ht (h.bind ha W F fun ov s₁ τ av S₁ W₁ f₁ x₁ r₁ p=>?_)
 obtain ⟨hT,h₁⟩:=p
 obtain ⟨t1,t2⟩:=hT.typeIs W₁ r₁
 exact ⟨t1,t2,callWith_method0 (h₁.last [ov] ha W W₁ ⟨r₁,trivial⟩ x₁ f₁)⟩
noncomputable def fdOf (i:Nat) (nm:Str) (c:Addr) (pm:Value):FuncData:={ name:=nm,qualname:=nm,params:=fnP i,body:=.stmts (fnB i),scope:=fnS i,globals:=3,closure:=[],defaults:=.none,kwdefaults:=.none,doc:=.none,pyModule:=pm,annotations:=none,code:=.ref c,closureTuple:=.none,builtins:=0 }
theorem lookup_of_mem {α:Type} {l:List (Str×α)} {x:Str} {v:α} (nd:(l.map (·.1)).Nodup) (h:(x,v)∈l):l.lookup x=some v:=by
 induction l with
 | nil=>cases h
 | cons p r ih =>
  obtain ⟨n1,n2⟩:=List.nodup_cons.mp nd
  rcases List.mem_cons.mp h with q | q
  ·cases q;exact List.lookup_cons_self
  ·rw [List.lookup_cons,show (x==p.1)=false from beq_eq_false_iff_ne.mpr fun e=>n1 (show p.1∈_ from e▸List.mem_map_of_mem (f:=(·.1)) q)]
   exact ih n2 q
theorem zip_rel {R:AV→Value→Prop} {ps:List Str} {avs:List AV} {vs:List Value} (h:All2 R avs vs) {x:Str} {av:AV} (hx:(x,av)∈ps.zip avs):∃ v,(x,v)∈ps.zip vs∧R av v:=by
 induction ps generalizing avs vs with
 | nil=>cases hx
 | cons p ps ih =>
  cases avs with
  | nil=>cases hx
  | cons a avs =>
   obtain ⟨v,vs,rfl,r,h⟩:=h.consI
   rcases List.mem_cons.mp hx with q | q
   ·cases q;exact ⟨v,List.mem_cons_self,r⟩
   ·obtain ⟨u,h1,h2⟩:=ih h q
    exact ⟨u,List.mem_cons_of_mem _ h1,h2⟩
theorem zip_names {α:Type} {ps:List Str} {l:List α} (h:ps.length=l.length):(ps.zip l).map (·.1)=ps:=List.map_fst_zip (Nat.le_of_eq h)
theorem Wd.into {env:Env} {m} {L:Addr} (W:Wd B σ S s) (hf:env.frame=some L) (hk:env.scope.kind≠.module) (hb:B.heap.get? L=none) (hn:s.heap.Ns L m):Wd (B.into env) σ S s :=
 ⟨W.len,W.nodup,W.fresh,W.lists,W.kept,W.tabs,W.gens,W.os,fun e me=>by
  rcases List.mem_cons.mp me with q | q
  ·subst q
   obtain ⟨o,es,ep,ho,hd,_⟩:=hn
   exact ⟨hk,L,o,es,ep,hf,hb,ho,hd⟩
  ·exact W.frs e q⟩
theorem Wd.out {env:Env} (W:Wd (B.into env) σ S s):Wd B σ S s :=
 ⟨W.len,W.nodup,W.fresh,W.lists,W.kept,W.tabs,W.gens,W.os,fun e me=>W.frs e (List.mem_cons_of_mem _ me)⟩
noncomputable abbrev kD (Q:AV→Store→Prop) (af:AF) (_:Loc) (S:Store):Prop:=match af with | .ret av=>Q av S | .next=>Q .none S | _=>False
theorem all0 {P:List Value→Prop} (h:P []) (vs:List Value) (e:vs.length=0):P vs:=List.length_eq_zero_iff.mp e▸h
theorem allS {P:List Value→Prop} {n:Nat} (h:∀ a vs,vs.length=n→P (a::vs)) (vs:List Value) (e:vs.length=n+1):P vs:=by
 cases vs with
 | nil=>exact absurd e (Nat.succ_ne_zero n).symm
 | cons a vs=>exact h a vs (Nat.succ.inj e)
theorem all1 {P:List Value→Prop} (h:∀ a,P [a]):∀ vs:List Value,vs.length=1→P vs:=allS fun a=>all0 (h a)
theorem all2 {P:List Value→Prop} (h:∀ a b,P [a,b]):∀ vs:List Value,vs.length=2→P vs:=allS (P:=P) fun a=>all1 (P:=fun l=>P (a::l)) (h a)
theorem all3 {P:List Value→Prop} (h:∀ a b c,P [a,b,c]):∀ vs:List Value,vs.length=3→P vs:=allS (P:=P) fun a=>all2 (P:=fun l=>P (a::l)) (h a)
theorem all5 {P:List Value→Prop} (h:∀ a b c d e,P [a,b,c,d,e]):∀ vs:List Value,vs.length=5→P vs:=allS (P:=P) fun a=>allS (P:=fun l=>P (a::l)) fun b=>all3 (P:=fun l=>P (a::b::l)) (h a b)
theorem fresh_back {h h₀:Heap} (k:∀ b o,h.get? b=some o→h₀.get? b=some o) {a:Addr} (n:h₀.get? a=none):h.get? a=none:=by
 cases e:h.get? a with
 | none=>rfl
 | some o=>exact nos n (k a o e)
theorem ext_back {L:Addr} {h h₀ h':Heap} (x:ExtF σ L h₀ h') (k:∀ b o,h.get? b=some o→h₀.get? b=some o) (n:h.get? L=none):Ext σ h h':=⟨fun a o e h1 h2 h3=>x.keep a o (k a o e) h1 (gne e n) h2 h3⟩
theorem entered {e:Env} {ps ls:List Str} {avs:List AV} {vs:List Value} {h₀:Heap} {tk:Tok} (W:Wd B σ S s) (r:All2 (RV σ s.heap) avs vs) (hlen:ps.length=avs.length) (hnd:(ps++ls).Nodup) (hloc:∀ x∈ps,e.kindOf x=some .local)
  (hfr:e.frame=some e.locals) (hk:e.scope.kind=.function) (hg:e.globals=mainGlobals) (hb:e.builtins=builtinsNs) (hn:s.heap.get? e.locals=none) (hn₀:h₀.Ns e.locals fun x=>(ps.zip vs).reverse.lookup x) (hk₀:∀ b o,s.heap.get? b=some o→h₀.get? b=some o) :
  Wd (B.into e) σ S { s with heap:=h₀,toks:=tk }∧Fm (B.into e) σ e (ps.zip avs++ls.map fun x=>(x,.unb)) h₀:=by
 have W₀:Wd B σ S { s with heap:=h₀,toks:=tk }:=W.keeps hk₀
 refine ⟨W₀.into hfr (by rw [hk];nofun) (W.newB hn) hn₀,⟨_,hn₀,fun x av hx=>?_⟩,⟨?_,hk,hg,hb,W.newB hn⟩⟩
 ·rcases List.mem_append.mp hx with q | q
  ·obtain ⟨v,h1,h2⟩:=zip_rel r q
   refine .inr ⟨v,.inl ⟨hloc x (List.of_mem_zip q).1,lookup_of_mem ?_ (List.mem_reverse.mpr h1)⟩,h2.mono0 W (Ext.of_keeps hk₀)⟩
   rw [List.map_reverse,zip_names (hlen.trans r.length)]
   exact (List.reverse_perm ps).nodup_iff.mpr (List.nodup_append.mp hnd).1
  ·obtain ⟨y,_,e⟩:=List.mem_map.mp q
   cases e
   exact .inl rfl
 ·rw [List.map_append,zip_names hlen,List.map_map]
  show (ps++ls.map id).Nodup
  rw [List.map_id]
  exact hnd
theorem OpT.def (H:St w B) {fa c i:Nat} {nm:Str} {pm:Value} {ps:List Str} (ls:List Str) {avs:List AV} {Q:AV→Store→Prop} (loc₀:Loc)
  (hf:(Hp1 w.params).get? fa=some ⟨.type "function",none,.func (fdOf i nm c pm),#[]⟩)
  (hc:∃ vs t,(Hp1 w.params).get? c=some ⟨.type "code",none,.fields vs,#[]⟩∧vs[1]?=some (.str nm t))
  (hlen:ps.length=avs.length)
  (hbind:∀ vs:List Value,vs.length=ps.length→bindArgs (fdOf i nm c pm) ⟨vs,[]⟩=pure (ps.zip vs))
  (hnd:(ps++ls).Nodup)
  (hcell:∀ x∈(fnS i).names,x.2≠.cell) (hloc:∀ x∈ps,(fnS i).names.lookup x=some .local)
  (h:∀ L,B.heap.get? L=none→St w (B.into (callEnv (fdOf i nm c pm) L fa))→ExA w (B.into (callEnv (fdOf i nm c pm) L fa)) n (callEnv (fdOf i nm c pm) L fa) (fnB i) loc₀ S (kD Q))
  (hl₀:loc₀=ps.zip avs++ls.map fun x=>(x,.unb):=by rfl) (h5:fa≠50:=by decide) (h13:fa≠130:=by decide) (c5:c≠50:=by decide) (c13:c≠130:=by decide)
  (hco:(fnS i).isCoroutine=false:=by kernel_rfl) (hgen:(fnS i).isGenerator=false:=by kernel_rfl) (hk:(fnS i).kind=.function:=by kernel_rfl) :
  OpT w B (n+1) (Mine.callD fa) avs S Q:=.mk fun A σ s E vs ha W r=>by
 subst hl₀
 have hvl:vs.length=ps.length:=by rw [hlen,r.length]
 have hloc':∀ x∈ps.zip vs,(fnS i).names.lookup x.1=some .local:=fun x hx=>hloc x.1 (List.of_mem_zip hx).1
 refine wpAny_call (codeAny_call_def (fd:=fdOf i nm c pm) (body:=fnB i) (binds:=ps.zip vs) ha.room (H.at W hf h5 h13) rfl (H.nolimit W) ?_ rfl (BindsTo.of_eq (hbind vs hvl)) hcell hloc' (fun h₀ hn₀ hk₀=>?_) hco hgen hk)
 ·refine let ZZ:Prop:=_;(?_:ZZ)
  obtain ⟨us,t,hg,hu⟩:=hc
  exact ⟨c,_,us,t,rfl,H.at W hg c5 c13,rfl,hu⟩
 have hnone:s.heap.get? s.heap.objs.size=none:=Heap.get?_none_of_le (Nat.le_refl _)
 obtain ⟨W₀,F₀⟩:=entered (e:=callEnv (fdOf i nm c pm) s.heap.objs.size fa) (ls:=ls) (tk:=s.toks+(ps.zip vs).length) W r hlen hnd hloc rfl hk rfl rfl hnone hn₀ hk₀
 refine (h s.heap.objs.size (W.newB hnone) H).bind (ha.deeper _) W₀ F₀ fun f s' τ af loc' S' W' f' x' F' r' q'=>?_
 have W':=W'.out
 have X:=ext_back x' hk₀ hnone
 have ft:∀ a∈τ,s.heap.get? a=none:=fun a ha=>fresh_back hk₀ (f' a ha)
 cases af with
 | next=>obtain rfl:f=.next:=r';exact ⟨τ,.none,S',W',ft,X,rfl,q'⟩
 | brk=>exact q'.elim
 | cont=>exact q'.elim
 | ret av=>obtain ⟨v,rfl,rv⟩:=r';exact ⟨τ,av,S',W',ft,X,rv,q'⟩
end
section
variable {w:World} {B:Bs} {n:Nat} {env:Env} {loc:Loc} {S:Store} {σ:List Addr} {s:Shared} {A:Around} {Q:AV→Store→Prop}
theorem All2.one {α β:Type} {R:α→β→Prop} {a:α} {l:List β} (h:All2 R [a] l):∃ x,l=[x]∧R a x:=by
 obtain ⟨x,m,rfl,r,h⟩:=h.consI;exact ⟨x,by rw [h.nilI],r⟩
theorem All2.two {α β:Type} {R:α→β→Prop} {a b:α} {l:List β} (h:All2 R [a,b] l):∃ x y,l=[x,y]∧R a x∧R b y:=by
 obtain ⟨x,m,rfl,r,h⟩:=h.consI;obtain ⟨y,rfl,q⟩:=h.one;exact ⟨x,y,rfl,r,q⟩
theorem All2.three {α β:Type} {R:α→β→Prop} {a b c:α} {l:List β} (h:All2 R [a,b,c] l):∃ x y z,l=[x,y,z]∧R a x∧R b y∧R c z:=by
 obtain ⟨x,m,rfl,r,h⟩:=h.consI;obtain ⟨y,z,rfl,q⟩:=h.two;exact ⟨x,y,z,rfl,r,q⟩
noncomputable abbrev opB (op:Operator):List Value→Sem Value:=fun vs=>binaryOp op (vs.getD 0 .none) (vs.getD 1 .none)
noncomputable abbrev opC (op:CmpOp):List Value→Sem Value:=fun vs=>compareOp op (vs.getD 0 .none) (vs.getD 1 .none)
noncomputable abbrev opI (op:Operator):List Value→Sem Value:=fun vs=>inplaceOp op (vs.getD 0 .none) (vs.getD 1 .none)
theorem OpT.int2 {f:List Value→Sem Value} {i j:Int} (h:∀ A s t u (E:Value→Shared→Prop) (R:Value→Shared→Prop),AOk B n A→(∀ v s',(∃ av,RSc av v∧Q (.sc av) S)→s'.heap=s.heap→s'.gens=s.gens→s'.os=s.os→R v s')→wpAny (model pw w) A (f [.int i t,.int j u]) R E s):OpT w B n f [.int i,.int j] S Q:=.mk fun A σ s E vs ha W r=>by
 obtain ⟨x,y,rfl,⟨t,rfl⟩,⟨u,rfl⟩⟩:=r.two
 exact h A s t u E _ ha fun v s' ⟨av,r,q⟩ e1 e2 e3=>Pst.sc W r q e1 e2 e3
theorem OpT.addI {i j:Int} (q:Q (.int (i+j)) S):OpT w B n (opB .Add) [.int i,.int j] S Q:=OpT.int2 fun _ _ _ _ _ _ _ k=>add_int (k _ _ ⟨.int _,⟨_,rfl⟩,q⟩ rfl rfl rfl)
theorem OpT.subI {i j:Int} (q:Q (.int (i-j)) S):OpT w B n (opB .Sub) [.int i,.int j] S Q:=OpT.int2 fun _ _ _ _ _ _ _ k=>sub_int (k _ _ ⟨.int _,⟨_,rfl⟩,q⟩ rfl rfl rfl)
theorem OpT.iaddI {i j:Int} (q:Q (.int (i+j)) S):OpT w B n (opI .Add) [.int i,.int j] S Q:=OpT.int2 fun _ _ _ _ _ _ _ k=>iadd_int (k _ _ ⟨.int _,⟨_,rfl⟩,q⟩ rfl rfl rfl)
theorem OpT.mulI {i j:Int} (hm:IntMulOk i j) (q:Q (.int (i*j)) S):OpT w B n (opB .Mult) [.int i,.int j] S Q:=OpT.int2 fun _ _ _ _ _ _ _ k=>mul_int (k _ _ ⟨.int _,⟨_,rfl⟩,q⟩ rfl rfl rfl) hm
theorem OpT.modI {i j:Int} (hj:j≠0) (q:Q (.int (i.fmod j)) S):OpT w B n (opB .Mod) [.int i,.int j] S Q:=OpT.int2 fun _ _ _ _ _ _ _ k=>mod_int' hj (k _ _ ⟨.int _,⟨_,rfl⟩,q⟩ rfl rfl rfl)
theorem OpT.divI {i j:Int} (hj:j≠0) (hp:Builtin.divisionGoesByPylong i j=false) (q:Q (.int (i.fdiv j)) S):OpT w B n (opB .FloorDiv) [.int i,.int j] S Q:=OpT.int2 fun _ _ _ _ _ _ _ k=>floordiv_int hj (k _ _ ⟨.int _,⟨_,rfl⟩,q⟩ rfl rfl rfl) (.inl hp)
theorem OpT.shrI {i j:Int} (hj:0≤j) (q:Q (.int (i.fdiv (2 ^ j.toNat))) S):OpT w B n (opB .RShift) [.int i,.int j] S Q:=OpT.int2 fun _ _ _ _ _ _ _ k=>rshift_int hj (k _ _ ⟨.int _,⟨_,rfl⟩,q⟩ rfl rfl rfl)
theorem OpT.ltI {i j:Int} (q:Q (.bool (decide (i<j))) S):OpT w B n (opC .Lt) [.int i,.int j] S Q:=OpT.int2 fun _ _ _ _ _ _ _ k=>lt_int (k _ _ ⟨.bool _,rfl,q⟩ rfl rfl rfl)
theorem OpT.leI {i j:Int} (q:Q (.bool (decide (i≤j))) S):OpT w B n (opC .LtE) [.int i,.int j] S Q:=OpT.int2 fun _ _ _ _ _ _ _ k=>le_int (k _ _ ⟨.bool _,rfl,q⟩ rfl rfl rfl)
theorem OpT.gtI {i j:Int} (q:Q (.bool (decide (i>j))) S):OpT w B n (opC .Gt) [.int i,.int j] S Q:=OpT.int2 fun _ _ _ _ _ _ _ k=>gt_int (k _ _ ⟨.bool _,rfl,q⟩ rfl rfl rfl)
theorem OpT.geI {i j:Int} (q:Q (.bool (decide (i≥j))) S):OpT w B n (opC .GtE) [.int i,.int j] S Q:=OpT.int2 fun _ _ _ _ _ _ _ k=>ge_int (k _ _ ⟨.bool _,rfl,q⟩ rfl rfl rfl)
theorem OpT.eqI {i j:Int} (q:Q (.bool (i==j)) S):OpT w B n (opC .Eq) [.int i,.int j] S Q:=OpT.int2 fun _ _ _ _ _ _ _ k=>eq_int (k _ _ ⟨.bool _,rfl,q⟩ rfl rfl rfl)
theorem OpT.neI {i j:Int} (q:Q (.bool (i != j)) S):OpT w B n (opC .NotEq) [.int i,.int j] S Q:=OpT.int2 fun _ _ _ _ _ _ _ k=>ne_int (k _ _ ⟨.bool _,rfl,q⟩ rfl rfl rfl)
theorem Wd.lst (W:Wd B σ S s) {k:Nat} {l:List AV} (hk:S[k]?=some l) {v:Value} (r:RV σ s.heap (.lst k) v):∃ a vs,v=.ref a∧σ[k]?=some a∧s.heap.PlainList a vs∧All2 (RV σ s.heap) l vs.toList:=by
 obtain ⟨a,e,rfl⟩:=r
 obtain ⟨b,vs,h1,h2,h3⟩:=W.lists k l hk
 rw [e] at h1;cases h1
 exact ⟨a,vs,rfl,e,h2,h3⟩
theorem Pst.same {Q:AV→Store→Prop} {v:Value} {s':Shared} {av:AV} (W:Wd B σ S s) (r:RV σ s.heap av v) (q:Q av S) (h:s'.heap=s.heap:=by rfl) (g:s'.gens=s.gens:=by rfl) (o:s'.os=s.os:=by rfl):Pst B σ s Q v s' :=
 .now (W.same h g o) (h▸Ext.refl _ _) (av:=av) (h▸r) q
noncomputable def fewItems:Nat:=1000000
theorem OpT.getL {k:Nat} {i:Int} {l:List AV} {x:AV} (hk:S[k]?=some l) (h0:0≤i) (hx:l[i.toNat]?=some x) (hl:l.length≤fewItems) (q:Q x S):OpT w B n (fun vs=>getItem (vs.getD 0 .none) (vs.getD 1 .none)) [.lst k,.int i] S Q:=.mk fun A σ s E vs ha W r=>by
 refine let ZZ:Prop:=_;(?_:ZZ)
 obtain ⟨v,y,rfl,rv,⟨u,rfl⟩⟩:=r.two
 refine let ZZ:Prop:=_;(?_:ZZ)
 obtain ⟨a,us,rfl,_,p,hr⟩:=W.lst hk rv
 refine let ZZ:Prop:=_;(?_:ZZ)
 obtain ⟨b,hb,rb⟩:=hr.get hx
 have hi:i.toNat<l.length:=(List.getElem?_eq_some_iff.mp hx).1
 refine wpAny_getItem_list (x:=b) p.isList h0 (by unfold fewItems at hl;lia) (by rw [← hb];simp) (Pst.same W rb q)
theorem setItem_plain {E:Value→Shared→Prop} {l:Addr} {items:Array Value} {k:Int} {t:Tok} {v:Value} {Q:Unit→Shared→Prop} (hl:s.heap.PlainList l items) (h0:0≤k) (hfit:k<2 ^ 63) (hn:k<items.size)
  (hQ:∀ h',h'.PlainList l (items.setIfInBounds k.toNat v)→Heap.SameBut l s.heap h'→Q () { s with heap:=h' }):wpAny (model pw w) A (setItem (.ref l) (.int k t) v) Q E s:=by
 obtain ⟨n,ho⟩:=id hl
 have hT:=hl.isList.typeIs
 unfold setItem
 try with_reducible refine wpAny_holding ?_
 first | refine wpAny_bind (wpAny_pure ?_) | skip
 refine wpAny_bind (wpAny_sequenceKey hT (by decide) ?_)
 refine wpAny_bind (wpAny_callSpecial?_slot (name:=Str.ofString "__setitem__") hT slot_list_setitem (wpAny_call_entry slot_list_setitem hT entry_list_setitem ?_ (args_list_setitem _ _ _)))
 show wpAny _ _ (Builtin.List.listSubscript? (.int k t)>>=_) _ _ s
 refine wpAny_bind (wpAny_listSubscript_int (fitsIndex_of h0 hfit) ?_)
 clear hfit
 obtain ⟨j,rfl⟩:=Int.eq_ofNat_of_zero_le h0
 have hj:j<items.size:=by exact Int.ofNat_lt.mp hn
 refine wpAny_bind (wpAny_bind (wpAny_seqItemAt ho rfl (wpAny_pure ?_)))
 rw [Array.getElem?_eq_getElem hj]
 have hfin:(s.heap.update l (Obj.mapSeq (·.setIfInBounds j v))).PlainList l (items.setIfInBounds j v):=by
  refine ⟨if (items.setIfInBounds j v).size==items.size then n else n+1,?_⟩
  exact Heap.get?_update_self _ ho rfl
 refine wpAny_bind (wpAny_setSeqItemAt ho rfl ?_)
 first
  | exact wpAny_bind (wpAny_pure (wpAny_pure ⟨.none,rfl,wpAny_pure (hQ _ hfin (Heap.SameBut.update ..))⟩))
  | exact wpAny_pure ⟨.none,rfl,wpAny_pure (hQ _ hfin (Heap.SameBut.update ..))⟩
noncomputable abbrev opG:List Value→Sem Value:=fun vs=>getItem (vs.getD 0 .none) (vs.getD 1 .none)
noncomputable abbrev kH (w:World) (B:Bs) (n:Nat) (C:AV→Prop) (a:AV) (Q:AV→Store→Prop) (b:AV) (S:Store):Prop:=C a∧OpT w B n opG [a,b] S Q
noncomputable abbrev kG (w:World) (B:Bs) (n:Nat) (env:Env) (e:Expr) (loc:Loc) (C:AV→Prop) (Q:AV→Store→Prop) (a:AV) (S:Store):Prop:=EvA w B n env e loc S (kH w B n C a Q)
theorem EvA.sub {value slice:Expr} {pos:Pos} {T id:String}
  (h:EvA w B n env value loc S (kG w B n env slice loc (fun a=>AVTy a T∨(T="tuple"∧∃ l,a=.tup l)) Q))
  (hty:typeLookup (.type T) "__getitem__"=pure (some (.builtin id)))
  (hsub:∀ o i,subscripted slice false o i=operate [o,i] (getItem o i):=by intro _ _;rfl) :
  EvA w B n env (.Subscript value slice pos) loc S Q:=.mk fun A σ s E ha W F=>by
 refine wpAny_bind (h.bind ha W F fun o s₁ τ av S₁ W₁ f₁ x₁ r₁ h₁=>?_)
 refine wpAny_bind (wpAny_holding (h₁.bind ha W₁ (F.mono W τ x₁) fun i s₂ τ₂ bv S₂ W₂ f₂ x₂ r₂ p=>?_))
 obtain ⟨hT,h₂⟩:=p
 refine wpAny_bind (wpAny_standAt ?_)
 have r₁':=r₁.mono (τ:=τ₂) W₁ x₂
 have hTy:s₂.TypeIs o T:=by
  rcases hT with hT | ⟨rfl,l,rfl⟩
  ·exact (hT.typeIs W₂ r₁').1
  ·obtain ⟨a,vs,rfl,e,_⟩:=r₁';exact ⟨_,e,rfl⟩
 refine wpAny_bind ?_
 refine wpAny_bind (wpAny_specialOf hTy hty ?_)
 have fin:wpAny (model pw w) A (operate [o,i] (getItem o i)) (fun r s₃=>wpAny (model pw w) A (letTemporaryGo value o r>>=fun _=>pure r) (Pst B σ s Q) E s₃) E s₂ :=
  wpAny_operating (wpAny_mono (h₂.run A _ s₂ E [o,i] ha W₂ ⟨r₁',r₂,trivial⟩) (fun r s₃ p=>wpAny_bind (wpAny_letTemporaryGo (wpAny_pure ((p.back W₁ W₂ x₂ f₂).back W W₁ x₁ f₁)))) fun _ _ x=>x)
 first
  | (refine wpAny_pure (wpAny_bind ?_);rw [hsub];exact fin)
  | (refine wpAny_bind (wpAny_pure (wpAny_bind ?_));rw [hsub];exact fin)
inductive SetAt (k:Nat) (v iv:AV) (S:Store) (Q:Store→Prop):Prop
 | mk (j:Int) (l:List AV) (h:iv=.int j) (hk:S[k]?=some l) (h0:0≤j) (hj:j<l.length) (hl:l.length≤fewItems) (q:Q (S.set k (l.set j.toNat v)))
noncomputable abbrev kY (k:Nat) (v:AV) (Q:Store→Prop) (ov iv:AV) (S:Store):Prop:=ov=.lst k∧SetAt k v iv S Q
noncomputable abbrev kZ (w:World) (B:Bs) (n:Nat) (env:Env) (i:Expr) (loc:Loc) (k:Nat) (v:AV) (Q:Store→Prop) (ov:AV) (S:Store):Prop:=EvA w B n env i loc S (kY k v Q ov)
noncomputable abbrev kZZ (w:World) (B:Bs) (n:Nat) (env:Env) (o i:Expr) (loc:Loc) (k:Nat) (Q:Store→Prop) (v:AV) (S:Store):Prop:=EvA w B n env o loc S (kZ w B n env i loc k v Q)
theorem ExS.setSub {o i:Expr} {pos' pos:Pos} {value:Expr} {Q:AF→Loc→Store→Prop} {k:Nat}
  (h:EvA w B n env value loc S (kZZ w B n env o i loc k (Q .next loc)))
  (hs:swapsWith value (some (o.Subscript i pos')) pos.line env=pure false:=by rfl):ExS w B n env (.Assign [.Subscript o i pos'] value pos) loc S Q:=.mk fun A σ s E ha W F=>by
 refine wpAny_Assign_Subscript (h.bind ha W F fun v s₁ τ av S₁ W₁ f₁ x₁ r₁ h₁=>?_) hs
 have F₁:=F.mono W τ x₁
 refine h₁.bind ha W₁ F₁ fun o s₂ τ₂ ov S₂ W₂ f₂ x₂ r₂ h₂=>?_
 have F₂:=F₁.mono W₁ τ₂ x₂
 refine h₂.bind ha W₂ F₂ fun i s₃ τ₃ iv S₃ W₃ f₃ x₃ r₃ p=>?_
 refine let ZZ:Prop:=_;(?_:ZZ)
 obtain ⟨rfl,j,l,rfl,hk,h0,hj,hl,q⟩:=p
 have F₃:=F₂.mono W₂ τ₃ x₃
 obtain ⟨u,rfl⟩:=r₃
 refine let ZZ:Prop:=_;(?_:ZZ)
 obtain ⟨a,vs,rfl,ha',p,hr⟩:=W₃.lst hk (r₂.mono W₂ x₃)
 have hz:vs.size=l.length:=by rw [hr.length];simp
 refine setItem_plain p h0 (by unfold fewItems at hl;lia) (by exact lt_of_lt_of_eq hj (congrArg Nat.cast (id (Eq.symm hz)))) fun h' hp hs'=>?_
 have rv:=(r₁.mono (τ:=τ₂) W₁ x₂).mono (τ:=τ₃) W₂ x₃
 have W₄:Wd B (σ++τ++τ₂++τ₃) (S₃.set k (l.set j.toNat av)) { s₃ with heap:=h' }:=W₃.setList ha' hs' hp (by
  rw [Array.toList_setIfInBounds];exact hr.set rv)
 have x₄:Ext (σ++τ++τ₂++τ₃) s₃.heap h':=Ext.setList (List.mem_of_getElem? ha') hs'
 have F₄:=F₃.mono W₃ [] x₄
 rw [List.append_nil] at F₄
 have p₄:PstF B (σ++τ++τ₂++τ₃) env s₃ Q .next { s₃ with heap:=h' }:=.now W₄ x₄.toF F₄ (af:=.next) rfl q
 exact ((p₄.back F₂.live W₃ F₃ x₃.toF f₃).back F₁.live W₂ F₂ x₂.toF f₂).back F.live W₁ F₁ x₁.toF f₁
theorem OpT.lenL {k:Nat} {l:List AV} (hk:S[k]?=some l) (hl:l.length≤fewItems) (q:Q (.int l.length) S):OpT w B n (Mine.callB "len") [.lst k] S Q:=.mk fun A σ s E vs ha W r=>by
 obtain ⟨v,rfl,rv⟩:=r.one
 obtain ⟨a,us,rfl,_,p,hr⟩:=W.lst hk rv
 have hz:us.size=l.length:=by rw [hr.length];simp
 exact call_len_list p.isList (by unfold fewItems at hl;lia) (Pst.sc W (c:=.int l.length) ⟨_,by rw [hz]⟩ q)
theorem OpT.lenS {x:Str} (hl:x.length≤fewItems) (q:Q (.int x.length) S):OpT w B n (Mine.callB "len") [.str x] S Q:=.mk fun A σ s E vs ha W r=>by
 obtain ⟨v,rfl,⟨t,rfl⟩⟩:=r.one
 exact P.len_str (by unfold fewItems at hl;lia) (Pst.sc W (c:=.int x.length) ⟨_,rfl⟩ q)
theorem OpT.append {k:Nat} {l:List AV} {x:AV} (hk:S[k]?=some l) (hl:l.length≤fewItems) (q:Q .none (S.set k (l++[x]))):OpT w B n (Mine.callB "list.append") [.lst k,x] S Q:=.mk fun A σ s E vs ha W r=>by
 obtain ⟨v,y,rfl,rv,ry⟩:=r.two
 obtain ⟨a,us,rfl,ha',p,hr⟩:=W.lst hk rv
 have hz:us.size=l.length:=by rw [hr.length];simp
 refine wpAny_list_append_plain p (fun h' hp hs'=>?_) (by rw [hz];exact Nat.le_trans hl (by decide))
 have W₄:Wd B σ (S.set k (l++[x])) { s with heap:=h' }:=W.setList ha' hs' hp (by rw [Array.toList_push];exact hr.append ⟨ry,trivial⟩)
 exact .now W₄ (Ext.setList (List.mem_of_getElem? ha') hs') (av:=.none) rfl q
end
section
open MeetsSeq in
theorem tuple_lt2 (t b:Addr) (x1 y1 x2 y2:Int) (k1 k2 k3 k4:Tok):Meets (Builtin.«tuple.__lt__» ⟨[.ref t,.ref b],[]⟩)
   (fun _ R s=>s.heap.get? t=some { cls:=.type "tuple",dict:=none,data:=.seq #[.int x1 k1,.int y1 k2] 0,slots:=#[] }∧s.heap.get? b=some { cls:=.type "tuple",dict:=none,data:=.seq #[.int x2 k3,.int y2 k4] 0,slots:=#[] } ∧
    R (.ok (.ret (.bool (decide (x1<x2∨(x1=x2∧y1<y2)))))) s):=by
 intro prog w A R s h
 obtain ⟨hp,g,d,tk,os⟩:=s;obtain ⟨hl,hb,h⟩:=h
 have e1:∀ {Q:Bool→Shared→Prop} {E:Value→Shared→Prop} {s:Shared},Q (x1==x2) s→wpAny (model prog w) A.in1 (eqBool (.int x1 k1) (.int x2 k3)) Q E s:=fun h=>EqGives.int x1 x2 k1 k3 _ _ _ _ _ _ h
 have e2:∀ {Q:Bool→Shared→Prop} {E:Value→Shared→Prop} {s:Shared},Q (y1==y2) s→wpAny (model prog w) A.in1 (eqBool (.int y1 k2) (.int y2 k4)) Q E s:=fun h=>EqGives.int y1 y2 k2 k4 _ _ _ _ _ _ h
 have f3:=AutoSeq1.sub_tuple_tuple
 wp_walk using wpAny_loadPart' hl,wpAny_loadPart' hb,e1
 by_cases h1:x1=x2
 ·rw [show (x1==x2)=true by simpa using h1]
  wp_walk using e2
  by_cases h2:y1=y2
  ·rw [show (y1==y2)=true by simpa using h2]
   wp_walk
   rw [show decide (x1<x2∨x1=x2∧y1<y2)=false by simp;lia] at h
   exact h
  ·rw [show (y1==y2)=false by simpa using h2]
   have q:∀ {Q:Value→Shared→Prop} {E:Value→Shared→Prop} {s:Shared},Q (.bool (decide (y1<y2))) s→wpAny (model prog w) A.in1 (richCompare .Lt (.int y1 k2) (.int y2 k4)) Q E s:=fun h=>lt_int h
   wp_walk using q
   rw [show decide (x1<x2∨x1=x2∧y1<y2)=decide (y1<y2) by rw [decide_eq_decide];lia] at h
   exact h
 ·rw [show (x1==x2)=false by simpa using h1]
  have q:∀ {Q:Value→Shared→Prop} {E:Value→Shared→Prop} {s:Shared},Q (.bool (decide (x1<x2))) s→wpAny (model prog w) A.in1 (richCompare .Lt (.int x1 k1) (.int x2 k3)) Q E s:=fun h=>lt_int h
  wp_walk using q
  rw [show decide (x1<x2∨x1=x2∧y1<y2)=decide (x1<x2) by rw [decide_eq_decide];lia] at h
  exact h
variable {w:World} {B:Bs} {n:Nat} {env:Env} {loc:Loc} {S:Store} {σ:List Addr} {s:Shared} {A:Around} {Q:AV→Store→Prop}
noncomputable abbrev AV.pair (p:Int×Int):AV:=.tup [.int p.1,.int p.2]
noncomputable def ltP (p q:Int×Int):Bool:=decide (p.1<q.1∨(p.1=q.1∧p.2<q.2))
theorem RV.pair {p:Int×Int} {h:Heap} {v:Value} (r:RV σ h (.pair p) v):∃ a t u,v=.ref a∧h.get? a=some (tupO [.int p.1 t,.int p.2 u]):=by
 obtain ⟨a,vs,rfl,e,x⟩:=r
 obtain ⟨x,y,rfl,⟨t,rfl⟩,⟨u,rfl⟩⟩:=x.two
 exact ⟨a,t,u,rfl,e⟩
theorem OpT.ltT {p q:Int×Int} (hq:Q (.bool (ltP p q)) S):OpT w B n (opC .Lt) [.pair p,.pair q] S Q:=.mk fun A σ s E vs ha W r=>by
 obtain ⟨x,y,rfl,r1,r2⟩:=r.two
 obtain ⟨a,t,u,rfl,e1⟩:=r1.pair
 obtain ⟨b,t',u',rfl,e2⟩:=r2.pair
 exact richCompare_meets_room (op:=.Lt) ⟨_,e1,rfl⟩ ⟨_,e2,rfl⟩ F.slot_tuple_lt F.entry_tuple_lt (F.args_tuple_lt_2 _ _) (tuple_lt2 a b p.1 p.2 q.1 q.2 t u t' u')
  ⟨e1,e2,show Value.bool (ltP p q)≠Value.notImplemented∧_ from ⟨nofun,Pst.sc W (c:=.bool _) rfl hq⟩⟩ ha.line
theorem getS_str:typeLookup (.type "str") "__getitem__"=pure (some (.builtin "str.__getitem__")):=F.slot_str_getitem.lookup
theorem getS_list:typeLookup (.type "list") "__getitem__"=pure (some (.builtin "list.__getitem__")):=F.slot_list_getitem.lookup
theorem getS_tuple:typeLookup (.type "tuple") "__getitem__"=pure (some (.builtin "tuple.__getitem__")):=F.slot_tuple_getitem.lookup
noncomputable abbrev isL (a:AV):Prop:=∃ k,a=.lst k
theorem EvA.subL {value slice:Expr} {pos:Pos}
  (h:EvA w B n env value loc S (kG w B n env slice loc isL Q))
  (hsub:∀ o i,subscripted slice false o i=operate [o,i] (getItem o i):=by intro _ _;rfl) :
  EvA w B n env (.Subscript value slice pos) loc S Q :=
 EvA.sub (T:="list") (h.mono fun _ _ h=>h.mono fun _ _ h=>⟨.inl (by obtain ⟨⟨k,rfl⟩,_⟩:=h;rfl),h.2⟩) getS_list hsub
theorem g_siftdown (P:Params):mgF P "_siftdown"=some (.ref 83):=by kernel_rfl
theorem f_siftdown (P:Params):(Hp1 P).get? 83=some ⟨.type "function",none,.func (fdOf 11 "_siftdown" 82 (.str "cpy313.heapq" 496)),#[]⟩:=by kernel_rfl
end
section
noncomputable def codeVs (P:Params) (c:Addr):Array Value:=match (Hp1 P).get? c with
 | some ⟨_,_,.fields vs,_⟩=>vs
 | _=>#[]
theorem g_translate (P:Params):mgF P "_translate"=some (.ref 55):=by kernel_rfl
theorem f_translate (P:Params):(Hp1 P).get? 55=some ⟨.type "function",none,.func (fdOf 6 "_translate" 54 (.str (Str.ofString "cpy313.fnmatch") 475)),#[]⟩:=by kernel_rfl
theorem c_translate (P:Params):∃ vs t,(Hp1 P).get? 54=some ⟨.type "code",none,.fields vs,#[]⟩∧vs[1]?=some (.str "_translate" t):=⟨codeVs P 54,478,by kernel_rfl,by kernel_rfl⟩
theorem g_heappush (P:Params):mgF P "heappush"=some (.ref 62):=by kernel_rfl
theorem f_heappush (P:Params):(Hp1 P).get? 62=some ⟨.type "function",none,.func (fdOf 8 "heappush" 61 (.str (Str.ofString "cpy313.heapq") 496)),#[]⟩:=by kernel_rfl
theorem c_heappush (P:Params):∃ vs t,(Hp1 P).get? 61=some ⟨.type "code",none,.fields vs,#[]⟩∧vs[1]?=some (.str "heappush" t):=⟨codeVs P 61,499,by kernel_rfl,by kernel_rfl⟩
theorem g_heappop (P:Params):mgF P "heappop"=some (.ref 69):=by kernel_rfl
theorem f_heappop (P:Params):(Hp1 P).get? 69=some ⟨.type "function",none,.func (fdOf 9 "heappop" 68 (.str (Str.ofString "cpy313.heapq") 496)),#[]⟩:=by kernel_rfl
theorem c_heappop (P:Params):∃ vs t,(Hp1 P).get? 68=some ⟨.type "code",none,.fields vs,#[]⟩∧vs[1]?=some (.str "heappop" t):=⟨codeVs P 68,507,by kernel_rfl,by kernel_rfl⟩
theorem g_heapreplace (P:Params):mgF P "heapreplace"=some (.ref 76):=by kernel_rfl
theorem f_heapreplace (P:Params):(Hp1 P).get? 76=some ⟨.type "function",none,.func (fdOf 10 "heapreplace" 75 (.str (Str.ofString "cpy313.heapq") 496)),#[]⟩:=by kernel_rfl
theorem c_heapreplace (P:Params):∃ vs t,(Hp1 P).get? 75=some ⟨.type "code",none,.fields vs,#[]⟩∧vs[1]?=some (.str "heapreplace" t):=⟨codeVs P 75,516,by kernel_rfl,by kernel_rfl⟩
theorem c_siftdown (P:Params):∃ vs t,(Hp1 P).get? 82=some ⟨.type "code",none,.fields vs,#[]⟩∧vs[1]?=some (.str "_siftdown" t):=⟨codeVs P 82,525,by kernel_rfl,by kernel_rfl⟩
theorem g_siftup (P:Params):mgF P "_siftup"=some (.ref 90):=by kernel_rfl
theorem f_siftup (P:Params):(Hp1 P).get? 90=some ⟨.type "function",none,.func (fdOf 12 "_siftup" 89 (.str (Str.ofString "cpy313.heapq") 496)),#[]⟩:=by kernel_rfl
theorem c_siftup (P:Params):∃ vs t,(Hp1 P).get? 89=some ⟨.type "code",none,.fields vs,#[]⟩∧vs[1]?=some (.str "_siftup" t):=⟨codeVs P 89,537,by kernel_rfl,by kernel_rfl⟩
theorem g_skip_chars (P:Params):mgF P "skip_chars"=some (.ref 114):=by kernel_rfl
theorem f_skip_chars (P:Params):(Hp1 P).get? 114=some ⟨.type "function",none,.func (fdOf 18 "skip_chars" 113 (.str (Str.ofString "cpy313.tomllib._parser") 556)),#[]⟩:=by kernel_rfl
theorem c_skip_chars (P:Params):∃ vs t,(Hp1 P).get? 113=some ⟨.type "code",none,.fields vs,#[]⟩∧vs[1]?=some (.str "skip_chars" t):=⟨codeVs P 113,622,by kernel_rfl,by kernel_rfl⟩
theorem g_skip_until (P:Params):mgF P "skip_until"=some (.ref 121):=by kernel_rfl
theorem f_skip_until (P:Params):(Hp1 P).get? 121=some ⟨.type "function",none,.func (fdOf 19 "skip_until" 120 (.str (Str.ofString "cpy313.tomllib._parser") 556)),#[]⟩:=by kernel_rfl
theorem c_skip_until (P:Params):∃ vs t,(Hp1 P).get? 120=some ⟨.type "code",none,.fields vs,#[]⟩∧vs[1]?=some (.str "skip_until" t):=⟨codeVs P 120,631,by kernel_rfl,by kernel_rfl⟩
theorem g_parse_hex_char (P:Params):mgF P "parse_hex_char"=some (.ref 128):=by kernel_rfl
theorem f_parse_hex_char (P:Params):(Hp1 P).get? 128=some ⟨.type "function",none,.func (fdOf 20 "parse_hex_char" 127 (.str (Str.ofString "cpy313.tomllib._parser") 556)),#[]⟩:=by kernel_rfl
theorem c_parse_hex_char (P:Params):∃ vs t,(Hp1 P).get? 127=some ⟨.type "code",none,.fields vs,#[]⟩∧vs[1]?=some (.str "parse_hex_char" t):=⟨codeVs P 127,643,by kernel_rfl,by kernel_rfl⟩
theorem g_suffixed_err (P:Params):mgF P "suffixed_err"=some (.ref 135):=by kernel_rfl
theorem f_suffixed_err (P:Params):(Hp1 P).get? 135=some ⟨.type "function",none,.func (fdOf 21 "suffixed_err" 134 (.str (Str.ofString "cpy313.tomllib._parser") 556)),#[]⟩:=by kernel_rfl
theorem c_suffixed_err (P:Params):∃ vs t,(Hp1 P).get? 134=some ⟨.type "code",none,.fields vs,#[]⟩∧vs[1]?=some (.str "suffixed_err" t):=⟨codeVs P 134,654,by kernel_rfl,by kernel_rfl⟩
theorem g_is_unicode_scalar_value (P:Params):mgF P "is_unicode_scalar_value"=some (.ref 142):=by kernel_rfl
theorem f_is_unicode_scalar_value (P:Params):(Hp1 P).get? 142=some ⟨.type "function",none,.func (fdOf 22 "is_unicode_scalar_value" 141 (.str (Str.ofString "cpy313.tomllib._parser") 556)),#[]⟩:=by kernel_rfl
theorem c_is_unicode_scalar_value (P:Params):∃ vs t,(Hp1 P).get? 141=some ⟨.type "code",none,.fields vs,#[]⟩∧vs[1]?=some (.str "is_unicode_scalar_value" t):=⟨codeVs P 141,664,by kernel_rfl,by kernel_rfl⟩
theorem g_law_ends (P:Params):mgF P "_law_ends"=some (.ref 149):=by kernel_rfl
theorem f_law_ends (P:Params):(Hp1 P).get? 149=some ⟨.type "function",none,.func (fdOf 24 "_law_ends" 148 (.str (Str.ofString "law_in0058_01") 670)),#[]⟩:=by kernel_rfl
theorem c_law_ends (P:Params):∃ vs t,(Hp1 P).get? 148=some ⟨.type "code",none,.fields vs,#[]⟩∧vs[1]?=some (.str "_law_ends" t):=⟨codeVs P 148,673,by kernel_rfl,by kernel_rfl⟩
theorem g_law_lines (P:Params):mgF P "_law_lines"=some (.ref 156):=by kernel_rfl
theorem f_law_lines (P:Params):(Hp1 P).get? 156=some ⟨.type "function",none,.func (fdOf 25 "_law_lines" 155 (.str (Str.ofString "law_in0058_01") 670)),#[]⟩:=by kernel_rfl
theorem c_law_lines (P:Params):∃ vs t,(Hp1 P).get? 155=some ⟨.type "code",none,.fields vs,#[]⟩∧vs[1]?=some (.str "_law_lines" t):=⟨codeVs P 155,683,by kernel_rfl,by kernel_rfl⟩
theorem g_law_due (P:Params):mgF P "_law_due"=some (.ref 163):=by kernel_rfl
theorem f_law_due (P:Params):(Hp1 P).get? 163=some ⟨.type "function",none,.func (fdOf 26 "_law_due" 162 (.str (Str.ofString "law_in0058_01") 670)),#[]⟩:=by kernel_rfl
theorem c_law_due (P:Params):∃ vs t,(Hp1 P).get? 162=some ⟨.type "code",none,.fields vs,#[]⟩∧vs[1]?=some (.str "_law_due" t):=⟨codeVs P 162,696,by kernel_rfl,by kernel_rfl⟩
theorem g_law_told (P:Params):mgF P "_law_told"=some (.ref 170):=by kernel_rfl
theorem f_law_told (P:Params):(Hp1 P).get? 170=some ⟨.type "function",none,.func (fdOf 27 "_law_told" 169 (.str (Str.ofString "law_in0058_01") 670)),#[]⟩:=by kernel_rfl
theorem c_law_told (P:Params):∃ vs t,(Hp1 P).get? 169=some ⟨.type "code",none,.fields vs,#[]⟩∧vs[1]?=some (.str "_law_told" t):=⟨codeVs P 169,708,by kernel_rfl,by kernel_rfl⟩
theorem g_law_joined (P:Params):mgF P "_law_joined"=some (.ref 177):=by kernel_rfl
theorem f_law_joined (P:Params):(Hp1 P).get? 177=some ⟨.type "function",none,.func (fdOf 28 "_law_joined" 176 (.str (Str.ofString "law_in0058_01") 670)),#[]⟩:=by kernel_rfl
theorem c_law_joined (P:Params):∃ vs t,(Hp1 P).get? 176=some ⟨.type "code",none,.fields vs,#[]⟩∧vs[1]?=some (.str "_law_joined" t):=⟨codeVs P 176,720,by kernel_rfl,by kernel_rfl⟩
theorem g_law_fewest (P:Params):mgF P "_law_fewest"=some (.ref 182):=by kernel_rfl
theorem f_law_fewest (P:Params):(Hp1 P).get? 182=some ⟨.type "function",none,.func (fdOf 29 "_law_fewest" 181 (.str (Str.ofString "law_in0058_01") 670)),#[]⟩:=by kernel_rfl
theorem c_law_fewest (P:Params):∃ vs t,(Hp1 P).get? 181=some ⟨.type "code",none,.fields vs,#[]⟩∧vs[1]?=some (.str "_law_fewest" t):=⟨codeVs P 181,732,by kernel_rfl,by kernel_rfl⟩
theorem g_law_bracket (P:Params):mgF P "_law_bracket"=some (.ref 187):=by kernel_rfl
theorem f_law_bracket (P:Params):(Hp1 P).get? 187=some ⟨.type "function",none,.func (fdOf 30 "_law_bracket" 186 (.str (Str.ofString "law_in0058_01") 670)),#[]⟩:=by kernel_rfl
theorem c_law_bracket (P:Params):∃ vs t,(Hp1 P).get? 186=some ⟨.type "code",none,.fields vs,#[]⟩∧vs[1]?=some (.str "_law_bracket" t):=⟨codeVs P 186,738,by kernel_rfl,by kernel_rfl⟩
theorem g_law_set (P:Params):mgF P "_law_set"=some (.ref 192):=by kernel_rfl
theorem f_law_set (P:Params):(Hp1 P).get? 192=some ⟨.type "function",none,.func (fdOf 31 "_law_set" 191 (.str (Str.ofString "law_in0058_01") 670)),#[]⟩:=by kernel_rfl
theorem c_law_set (P:Params):∃ vs t,(Hp1 P).get? 191=some ⟨.type "code",none,.fields vs,#[]⟩∧vs[1]?=some (.str "_law_set" t):=⟨codeVs P 191,744,by kernel_rfl,by kernel_rfl⟩
theorem g_law (P:Params):mgF P "law"=some (.ref 197):=by kernel_rfl
theorem f_law (P:Params):(Hp1 P).get? 197=some ⟨.type "function",none,.func (fdOf 32 "law" 196 (.str (Str.ofString "law_in0058_01") 670)),#[]⟩:=by kernel_rfl
theorem c_law (P:Params):∃ vs t,(Hp1 P).get? 196=some ⟨.type "code",none,.fields vs,#[]⟩∧vs[1]?=some (.str "law" t):=⟨codeVs P 196,750,by kernel_rfl,by kernel_rfl⟩
theorem n_len (P:Params):mgF P "len"=none:=by kernel_rfl
theorem b_len (P:Params):mbF P "len"=some (.builtin "len"):=by kernel_rfl
theorem n_ord (P:Params):mgF P "ord"=none:=by kernel_rfl
theorem b_ord (P:Params):mbF P "ord"=some (.builtin "ord"):=by kernel_rfl
theorem n_chr (P:Params):mgF P "chr"=none:=by kernel_rfl
theorem b_chr (P:Params):mbF P "chr"=some (.builtin "chr"):=by kernel_rfl
theorem n_max (P:Params):mgF P "max"=none:=by kernel_rfl
theorem b_max (P:Params):mbF P "max"=some (.builtin "max"):=by kernel_rfl
theorem n_isinstance (P:Params):mgF P "isinstance"=none:=by kernel_rfl
theorem b_isinstance (P:Params):mbF P "isinstance"=some (.builtin "isinstance"):=by kernel_rfl
theorem n_sorted (P:Params):mgF P "sorted"=none:=by kernel_rfl
theorem b_sorted (P:Params):mbF P "sorted"=some (.builtin "sorted"):=by kernel_rfl
theorem n_str (P:Params):mgF P "str"=none:=by kernel_rfl
theorem b_str (P:Params):mbF P "str"=some (.type "str"):=by kernel_rfl
theorem n_int (P:Params):mgF P "int"=none:=by kernel_rfl
theorem b_int (P:Params):mbF P "int"=some (.type "int"):=by kernel_rfl
theorem n_range (P:Params):mgF P "range"=none:=by kernel_rfl
theorem b_range (P:Params):mbF P "range"=some (.type "range"):=by kernel_rfl
theorem n_list (P:Params):mgF P "list"=none:=by kernel_rfl
theorem b_list (P:Params):mbF P "list"=some (.type "list"):=by kernel_rfl
theorem n_zip (P:Params):mgF P "zip"=none:=by kernel_rfl
theorem b_zip (P:Params):mbF P "zip"=some (.type "zip"):=by kernel_rfl
theorem n_set (P:Params):mgF P "set"=none:=by kernel_rfl
theorem b_set (P:Params):mbF P "set"=some (.type "set"):=by kernel_rfl
theorem n_frozenset (P:Params):mgF P "frozenset"=none:=by kernel_rfl
theorem b_frozenset (P:Params):mbF P "frozenset"=some (.type "frozenset"):=by kernel_rfl
theorem n_IndexError (P:Params):mgF P "IndexError"=none:=by kernel_rfl
theorem b_IndexError (P:Params):mbF P "IndexError"=some (.type "IndexError"):=by kernel_rfl
theorem g_twin (P:Params):mgF P "_twin_re_1"=some (.ref 36):=by kernel_rfl
theorem g_toml (P:Params):mgF P "TOMLDecodeError"=some (.ref 104):=by kernel_rfl
theorem g_hexd (P:Params):mgF P "HEXDIGIT_CHARS"=some (.ref 91):=by kernel_rfl
end
section
variable {w:World} {B:Bs} {n:Nat} {env:Env} {loc:Loc} {S:Store} {σ:List Addr} {s:Shared} {A:Around} {Q:AV→Store→Prop} {K:AF→Loc→Store→Prop} {rest:List Stmt}
noncomputable def AV.bd:AV→Bool | .unb=>false | _=>true
theorem EvA.nm {x:Str} {pos:Pos} {av:AV} {Q:AV→Store→Prop} (hx:(x,av)∈loc) (hb:av.bd=true) (q:Q av S) (hd:(x==("__debug__":Str))=false:=by decide +kernel) :
  EvA w B n env (.Name x pos) loc S Q:=EvA.name hx q (by rintro rfl;cases hb) hd
noncomputable abbrev kU (w:World) (B:Bs) (n:Nat) (env:Env) (rest:List Stmt) (f:AV→Loc) (K:AF→Loc→Store→Prop) (av:AV) (S:Store):Prop:=ExA w B n env rest (f av) S K
theorem ExA.assign {x:Str} {p' pos:Pos} {value:Expr} {f:AV→Loc} (hu:UpdF loc x f) (h:EvA w B n env value loc S (kU w B n env rest f K))
  (hk:env.kindOf x=some .local:=by kernel_rfl) (hs:swapsWith value (some (.Name x p')) pos.line env=pure false:=by rfl):ExA w B n env (.Assign [.Name x p'] value pos::rest) loc S K:=ExA.cons (ExS.assign hu h hk hs)
theorem ExA.expr {e:Expr} {pos:Pos} (h:EvA w B n env e loc S (kU w B n env rest (fun _=>loc) K)) (hi:interactive env=false:=by rfl) (hs:swapsWith e none pos.line env=pure false:=by rfl):ExA w B n env (.Expr e pos::rest) loc S K:=ExA.cons (ExS.expr h hi hs)
theorem ExA.ret {e:Expr} {pos:Pos} (h:EvA w B n env e loc S (kR loc K)):ExA w B n env (.Return (some e) pos::rest) loc S K:=ExA.cons (ExS.ret h)
theorem ExA.pass {pos:Pos} (h:ExA w B n env rest loc S K):ExA w B n env (.Pass pos::rest) loc S K:=ExA.cons (ExS.pass h)
theorem ExA.brk {pos:Pos} (h:K .brk loc S):ExA w B n env (.Break pos::rest) loc S K:=ExA.cons (ExS.brk h)
theorem ExA.cont {pos:Pos} (h:K .cont loc S):ExA w B n env (.Continue pos::rest) loc S K:=ExA.cons (ExS.cont h)
theorem ExA.ite {test:Expr} {body orelse:List Stmt} {pos:Pos} (h:TsA w B n env test loc S (kI w B n env body orelse loc (kS w B n env rest K))) :
  ExA w B n env (.If test body orelse pos::rest) loc S K:=ExA.cons (ExS.ite h)
noncomputable abbrev kV (J:Loc→Store→Prop) (K:AF→Loc→Store→Prop) (af:AF) (loc:Loc) (S:Store):Prop:=match af with | .next=>J loc S | af=>K af loc S
theorem ExA.seq {st:Stmt} (J:Loc→Store→Prop) (h:ExS w B n env st loc S (kV J K)) (k:∀ loc₁ S₁,J loc₁ S₁→ExA w B n env rest loc₁ S₁ K):ExA w B n env (st::rest) loc S K :=
 ExA.cons (h.mono fun af loc S q=>by cases af <;> first | exact k _ _ q | exact q)
theorem ExA.setSub {o i:Expr} {pos' pos:Pos} {value:Expr} {k:Nat}
  (h:EvA w B n env value loc S (kZZ w B n env o i loc k fun S=>ExA w B n env rest loc S K))
  (hs:swapsWith value (some (o.Subscript i pos')) pos.line env=pure false:=by rfl):ExA w B n env (.Assign [.Subscript o i pos'] value pos::rest) loc S K:=ExA.cons (ExS.setSub h hs)
theorem ExA.while {test:Expr} {body:List Stmt} {pos:Pos} (I:Nat→Loc→Store→Prop)
  (turn:∀ k loc S,I k loc S→TsA w B n env test loc S (kW w B n env body loc k I (kS w B n env rest K))) (k:Nat) (h:I k loc S):ExA w B n env (.While test body [] pos::rest) loc S K:=ExA.cons (ExS.while I turn k h)
end
local macro_rules | `(tactic| walk_at "e")=>`(tactic| with_reducible repeat (first | exact List.mem_cons_self | apply List.mem_cons_of_mem))
local macro_rules | `(tactic| walk_at "u")=>`(tactic| with_reducible repeat constructor)
local macro_rules | `(tactic| walk_at "s")=>`(tactic| repeat (first
 | with_reducible first | refine EvA.nm (by walk_at "e") (by with_unfolding_all exact rfl) ?_ | apply EvA.int | apply EvA.str | apply EvA.bin | apply OpT.addI | apply OpT.subI | apply OpT.ltI | apply OpT.leI | apply OpT.gtI | apply TrT.bool
 | refine ArT.cons ?_ | refine ArT.nil ?_))
section
variable {w:World} {B:Bs} {n:Nat} {env:Env} {loc:Loc} {S:Store} {σ:List Addr} {s:Shared} {A:Around} {Q:AV→Store→Prop} {K:AF→Loc→Store→Prop} {rest:List Stmt}
noncomputable def pairs (l:List (Int×Int)):List AV:=l.map .pair
noncomputable def sdnF (x:Int×Int):Nat→List (Int×Int)→Nat→List (Int×Int)
 | 0,l,_=>l.set 0 x
 | n+1,l,pos=>if _:pos=0 then l.set 0 x else
  if ltP x (l.getD ((pos-1)/2) (0,0)) then sdnF x n (l.set pos (l.getD ((pos-1)/2) (0,0))) ((pos-1)/2) else l.set pos x
noncomputable def sdn (x:Int×Int) (l:List (Int×Int)) (pos:Nat):List (Int×Int):=sdnF x pos l pos
theorem sdnF0 (x:Int×Int) (l:List (Int×Int)) (pos:Nat):sdnF x 0 l pos=l.set 0 x:=rfl
theorem sdnFs (x:Int×Int) (n:Nat) (l:List (Int×Int)) (pos:Nat):sdnF x (n+1) l pos=if _:pos=0 then l.set 0 x else
  if ltP x (l.getD ((pos-1)/2) (0,0)) then sdnF x n (l.set pos (l.getD ((pos-1)/2) (0,0))) ((pos-1)/2) else l.set pos x:=rfl
theorem sdnF_eq (x:Int×Int):∀ n m (l:List (Int×Int)) pos,pos≤n→pos≤m→sdnF x n l pos=sdnF x m l pos
 | 0,0,_,_,_,_=>rfl
 | 0,m+1,l,pos,h,_=>by rw [sdnF0,sdnFs,dif_pos (Nat.le_zero.mp h)]
 | n+1,0,l,pos,_,h=>by rw [sdnF0,sdnFs,dif_pos (Nat.le_zero.mp h)]
 | n+1,m+1,l,pos,h,k=>by rw [sdnFs,sdnFs,sdnF_eq x n m _ _ (by lia) (by lia)]
theorem sdn_eq (x:Int×Int) (l:List (Int×Int)) (pos:Nat):sdn x l pos=if _:pos=0 then l.set 0 x else
  if ltP x (l.getD ((pos-1)/2) (0,0)) then sdn x (l.set pos (l.getD ((pos-1)/2) (0,0))) ((pos-1)/2) else l.set pos x :=
 (sdnF_eq x pos (pos+1) l pos (Nat.le_refl _) (Nat.le_succ _)).trans (by rw [sdnFs,sdnF_eq x pos ((pos-1)/2) _ _ (by lia) (Nat.le_refl _)];rfl)
theorem type_list_pop:typeOf (.builtin "list.pop")=pure (.type "method_descriptor"):=by show builtinType _=_;rw [builtinType_eq_fast];kernel_rfl
theorem set_of_get {α:Type} {l:List α} {k:Nat} {a:α} (h:l[k]?=some a):l.set k a=l:=by
 obtain ⟨hk,rfl⟩:=List.getElem?_eq_some_iff.mp h
 exact List.set_getElem_self hk
theorem pairs_len (l:List (Int×Int)):(pairs l).length=l.length:=by simp [pairs]
theorem fewK {n:Nat} (h:n≤1000):n≤fewItems:=Nat.le_trans h (by decide)
theorem pairs_few {l:List (Int×Int)} (h:l.length≤1000):(pairs l).length≤fewItems:=by rw [pairs_len];exact fewK h
theorem pairs_few' {l l':List (Int×Int)} (e:l'.length=l.length) (h:l.length≤1000):(pairs l').length≤fewItems:=pairs_few (e▸h)
theorem pairs_get {l:List (Int×Int)} {i:Nat} (h:i<l.length):(pairs l)[i]?=some (.pair (l.getD i (0,0))):=by
 simp [pairs,List.getElem?_eq_getElem h,List.getD]
theorem pairs_set (l:List (Int×Int)) (i:Nat) (x:Int×Int):(pairs l).set i (.pair x)=pairs (l.set i x):=by simp [pairs,List.map_set]
theorem pairs_snoc (l:List (Int×Int)) (x:Int×Int):pairs l++[.pair x]=pairs (l++[x]):=by simp [pairs]
theorem sdn_length (x:Int×Int) (l:List (Int×Int)) (pos:Nat):(sdn x l pos).length=l.length:=by
 induction pos using Nat.strongRecOn generalizing l with
 | _ pos ih =>
  rw [sdn_eq]
  split
  ·simp
  ·split
   ·rw [ih _ (by lia)];simp
   ·simp
theorem siftdown_w (H:St w B) {k:Nat} {l:List (Int×Int)} {pos:Nat} (hk:S[k]?=some (pairs l)) (hl:l.length≤1000) (hp:pos<l.length)
  (q:Q .none (S.set k (pairs (sdn (l.getD pos (0,0)) l pos)))):OpT w B (n+1) (callD 83) [.lst k,.int 0,.int pos] S Q:=by
 refine OpT.def H (ps:=["heap","startpos","pos"]) ["newitem","parentpos","parent"] [("heap",.lst k),("startpos",.int 0),("pos",.int pos),("newitem",.unb),("parentpos",.unb),("parent",.unb)] (f_siftdown _) (c_siftdown _) rfl (all3 fun _ _ _=>by kernel_rfl) (by decide +kernel) (by decide +kernel) (by decide +kernel) (fun L hL H=>?_)
 refine ExA.assign (by walk_at "u") ?_
 refine EvA.subL ?_
 walk_at "s"
 refine ⟨⟨_,rfl⟩,OpT.getL hk (by exact Int.natCast_nonneg pos) (x:=.pair (l.getD pos (0,0))) (by simpa using pairs_get hp) (pairs_few hl) ?_⟩
 generalize hx:l.getD pos (0,0)=x at q ⊢
 have hks:k<S.length:=(List.getElem?_eq_some_iff.mp hk).1
 let I:Nat→Loc→Store→Prop:=fun m loc' S'=>∃ (l':List (Int×Int)) (a b:AV),loc'=([("heap",.lst k),("startpos",.int 0),("pos",.int m),("newitem",.pair x),("parentpos",a),("parent",b)]:Loc)∧S'=S.set k (pairs l')∧m<l'.length∧l'.length=l.length∧sdn x l' m=sdn x l pos
 refine ExA.while I ?_ pos
  ⟨l,_,_,rfl,(set_of_get hk).symm,hp,rfl,rfl⟩
 rintro m loc' S' ⟨l',a,b,rfl,rfl,hm,hlen,hs⟩
 have hk':∀ l'':List AV,(S.set k l'')[k]?=some l'':=fun l''=>by rw [List.getElem?_set_self hks]
 have tail:∀ (l':List (Int×Int)) (m:Nat) (a b:AV),m<l'.length→l'.length=l.length→l'.set m x=sdn x l pos→ExA w (B.into (callEnv (fdOf 11 (Str.ofString "_siftdown") 82 (Value.str (Str.ofString "cpy313.heapq") 496)) L 83)) n (callEnv (fdOf 11 (Str.ofString "_siftdown") 82 (Value.str (Str.ofString "cpy313.heapq") 496)) L 83)
   [(fnB 11).getLast!] [("heap",.lst k),("startpos",.int 0),("pos",.int m),("newitem",.pair x),("parentpos",a),("parent",b)] (S.set k (pairs l')) fun f _ S'=>match f with | .ret av=>Q av S' | .next=>Q .none S' | _=>False:=by
  intro l' m a b hm hlen hs
  refine ExA.setSub (k:=k) ?_
  walk_at "s"
  refine ⟨rfl,m,pairs l',rfl,hk' _,by exact Int.natCast_nonneg m,by rw [pairs_len];exact Int.ofNat_lt.mpr hm,pairs_few' hlen hl,ExA.nil ?_⟩
  rw [Int.toNat_natCast,pairs_set,hs,List.set_set]
  exact q
 refine TsA.cmp ?_
 walk_at "s"
 by_cases h0:m=0
 ·subst h0
  refine tail l' 0 a b hm hlen ?_
  rw [← hs,sdn_eq];rfl
 refine ifP (by simpa using Nat.pos_of_ne_zero h0) ?_
 refine ExA.assign (by walk_at "u") ?_
 walk_at "s"
 refine OpT.shrI (by decide) ?_
 obtain ⟨pp,hpp⟩:∃ pp,pp=(m-1)/2:=⟨_,rfl⟩
 rw [show ((m:Int)-1).fdiv (2 ^ (1:Int).toNat)=(pp:Int) by rw [Int.fdiv_eq_ediv_of_nonneg _ (by decide),hpp];show ((m:Int)-1)/2=_;lia]
 refine ExA.assign (by walk_at "u") ?_
 refine EvA.subL ?_
 walk_at "s"
 refine ⟨⟨_,rfl⟩,OpT.getL (hk' _) (by exact Int.natCast_nonneg pp) (x:=.pair (l'.getD pp (0,0))) (by simpa using pairs_get (by (clear hlen h0;lia))) (pairs_few' hlen hl) ?_⟩
 refine ExA.ite (TsA.cmp ?_)
 walk_at "s"
 refine OpT.ltT (TrT.bool ?_)
 have hsd:sdn x l' m=if ltP x (l'.getD pp (0,0)) then sdn x (l'.set m (l'.getD pp (0,0))) pp else l'.set m x:=by
  rw [sdn_eq,dif_neg h0,hpp]
 cases hlt:ltP x (l'.getD pp (0,0)) with
 | true =>
  refine ifP rfl ?_
  refine ExA.setSub (k:=k) ?_
  walk_at "s"
  refine ⟨rfl,m,pairs l',rfl,hk' _,by exact Int.natCast_nonneg m,by rw [pairs_len];exact Int.ofNat_lt.mpr hm,pairs_few' hlen hl,?_⟩
  refine ExA.assign (by walk_at "u") ?_
  walk_at "s"
  refine ExA.cont ⟨pp,by lia,l'.set m (l'.getD pp (0,0)),_,_,rfl,?_,by simp;(clear hlen h0;lia),by simp [hlen],?_⟩
  ·rw [Int.toNat_natCast,pairs_set,List.set_set]
  ·rw [← hs,hsd,hlt,if_pos rfl]
 | false =>
  refine ifN Bool.false_ne_true ?_
  refine ExA.nil (ExA.brk ?_)
  refine tail l' m _ _ hm hlen ?_
  rw [← hs,hsd,hlt,if_neg Bool.false_ne_true]
theorem OpT.pop {k:Nat} {l:List AV} {x:AV} (hk:S[k]?=some (l++[x])) (hl:l.length≤1000) (q:Q x (S.set k l)):OpT w B n (Mine.callB "list.pop") [.lst k] S Q:=.mk fun A σ s E vs ha W r=>by
 refine let ZZ:Prop:=_;(?_:ZZ)
 obtain ⟨v,rfl,rv⟩:=r.one
 refine let ZZ:Prop:=_;(?_:ZZ)
 obtain ⟨a,us,rfl,ha',⟨m,p⟩,hr⟩:=W.lst hk rv
 have hz:us.size=l.length+1:=by have:=hr.length;simp at this;exact Eq.symm (Nat.add_right_cancel (congrFun (congrArg HAdd.hAdd this) n))
 obtain ⟨y,hy,ry⟩:=hr.get (i:=l.length) (a:=x) (by simp)
 have hy':us[us.size-1]?=some y:=by rw [hz];simpa using hy
 refine call_meets F.slot_list_pop ⟨_,p,rfl⟩ F.entry_list_pop (F.args_list_pop_1 _) (MeetsSeq.list_pop_last a us m y hy' (by rw [hz];exact Nat.le_trans (Nat.succ_le_succ hl) (by decide))) ⟨p,?_⟩
 have hp:(s.heap.update a (Obj.mapSeq fun xs=>xs.eraseIdxIfInBounds (us.size-1))).PlainList a (us.eraseIdxIfInBounds (us.size-1)):=by
  refine ⟨if (us.eraseIdxIfInBounds (us.size-1)).size==us.size then m else m+1,?_⟩
  exact Heap.get?_update_self _ p rfl
 have hs:Heap.SameBut a s.heap (s.heap.update a (Obj.mapSeq fun xs=>xs.eraseIdxIfInBounds (us.size-1))):=Heap.SameBut.update ..
 have hd:All2 (RV σ s.heap) l (us.eraseIdxIfInBounds (us.size-1)).toList:=by
  have e:(us.eraseIdxIfInBounds (us.size-1)).toList=us.toList.dropLast:=by
   rw [Array.eraseIdxIfInBounds,dif_pos (by lia),Array.toList_eraseIdx,List.eraseIdx_eq_take_drop_succ,List.drop_eq_nil_of_le (by simp;(clear hz;lia)),List.append_nil,List.dropLast_eq_take,Array.length_toList]
  rw [e]
  have:=hr.dropLast
  rwa [List.dropLast_concat] at this
 have W₄:=W.setList (s':={ s with heap:=s.heap.update a (Obj.mapSeq fun xs=>xs.eraseIdxIfInBounds (us.size-1)) }) ha' hs hp hd
 exact .now W₄ (Ext.setList (List.mem_of_getElem? ha') hs) (ry.mono0 W (Ext.setList (List.mem_of_getElem? ha') hs)) q
theorem TrT.list {k:Nat} {l:List AV} {Q:Bool→Store→Prop} (hk:S[k]?=some l) (hl:l.length≤fewItems) (q:Q (!l.isEmpty) S):TrT w B n (.lst k) S Q:=.mk fun A σ s E v ha W r=>by
 obtain ⟨a,us,rfl,ha',p,hr⟩:=W.lst hk r
 have hz:us.size=l.length:=by rw [hr.length];simp
 refine wpAny_truthy_list p.isList (by unfold fewItems at hl;lia) ?_
 have:(!us.isEmpty)=!l.isEmpty:=by
  rw [Array.isEmpty];cases l <;> simp_all
 rw [this]
 exact .now W q
noncomputable def supC (l:List (Int×Int)) (pos:Nat):Nat:=if 2*pos+2<l.length∧ltP (l.getD (2*pos+1) (0,0)) (l.getD (2*pos+2) (0,0))=false then 2*pos+2 else 2*pos+1
noncomputable def supF (x:Int×Int):Nat→List (Int×Int)→Nat→List (Int×Int)×Nat
 | 0,l,pos=>(l,pos)
 | n+1,l,pos=>if _:2*pos+1<l.length then supF x n (l.set pos (l.getD (supC l pos) (0,0))) (supC l pos) else (l,pos)
noncomputable def sup (x:Int×Int) (l:List (Int×Int)) (pos:Nat):List (Int×Int)×Nat:=supF x l.length l pos
theorem supC_lt (l:List (Int×Int)) (pos:Nat):pos<supC l pos:=by unfold supC;split <;> lia
theorem supF0 (x:Int×Int) (l:List (Int×Int)) (pos:Nat):supF x 0 l pos=(l,pos):=rfl
theorem supFs (x:Int×Int) (n:Nat) (l:List (Int×Int)) (pos:Nat):supF x (n+1) l pos=if _:2*pos+1<l.length then supF x n (l.set pos (l.getD (supC l pos) (0,0))) (supC l pos) else (l,pos):=rfl
theorem supF_eq (x:Int×Int):∀ n m (l:List (Int×Int)) pos,l.length≤n+pos→l.length≤m+pos→supF x n l pos=supF x m l pos
 | 0,0,_,_,_,_=>rfl
 | 0,m+1,l,pos,h,_=>by rw [supF0,supFs,dif_neg (by lia)]
 | n+1,0,l,pos,_,h=>by rw [supF0,supFs,dif_neg (by lia)]
 | n+1,m+1,l,pos,h,k=>by
  have:=supC_lt l pos
  rw [supFs,supFs,supF_eq x n m _ _ (by rw [List.length_set];lia) (by rw [List.length_set];lia)]
theorem sup_eq (x:Int×Int) (l:List (Int×Int)) (pos:Nat):sup x l pos=if _:2*pos+1<l.length then
  let c:=if 2*pos+2<l.length∧ltP (l.getD (2*pos+1) (0,0)) (l.getD (2*pos+2) (0,0))=false then 2*pos+2 else 2*pos+1
  sup x (l.set pos (l.getD c (0,0))) c
 else (l,pos) :=
 (supF_eq x l.length (l.length+1) l pos (by exact Nat.le_add_right l.length pos) (by lia)).trans (by
  show _=if _:2*pos+1<l.length then supF x (l.set pos (l.getD (supC l pos) (0,0))).length _ (supC l pos) else _
  rw [List.length_set]
  rfl)
noncomputable def supAll (l:List (Int×Int)):List (Int×Int) :=
 let x:=l.getD 0 (0,0)
 let r:=sup x l 0
 sdn x (r.1.set r.2 x) r.2
theorem siftup_w (H:St w B) {k:Nat} {l:List (Int×Int)} (hk:S[k]?=some (pairs l)) (hl:l.length≤1000) (hp:0<l.length)
  (q:Q .none (S.set k (pairs (supAll l)))):OpT w B (n+2) (callD 90) [.lst k,.int 0] S Q:=by
 refine OpT.def H (ps:=["heap","pos"]) ["endpos","startpos","newitem","childpos","rightpos"] [("heap",.lst k),("pos",.int 0),("endpos",.unb),("startpos",.unb),("newitem",.unb),("childpos",.unb),("rightpos",.unb)] (f_siftup _) (c_siftup _) rfl (all2 fun _ _=>by kernel_rfl) (by decide +kernel) (by decide +kernel) (by decide +kernel) (fun L hL H=>?_)
 refine ExA.assign (by walk_at "u") ?_
 refine EvA.callB H (n_len _) (b_len _) (by kernel_rfl) ?_
 walk_at "s"
 refine OpT.lenL hk (pairs_few hl) ?_
 rw [pairs_len]
 refine ExA.assign (by walk_at "u") ?_
 walk_at "s"
 refine ExA.assign (by walk_at "u") ?_
 refine EvA.subL ?_
 walk_at "s"
 refine ⟨⟨_,rfl⟩,OpT.getL hk (by exact Int.zero_le_ofNat 0) (x:=.pair (l.getD 0 (0,0))) (by simpa using pairs_get hp) (pairs_few hl) ?_⟩
 unfold supAll at q
 dsimp only at q
 generalize hx:l.getD 0 (0,0)=x at q ⊢
 have hks:k<S.length:=(List.getElem?_eq_some_iff.mp hk).1
 have hk':∀ l'':List AV,(S.set k l'')[k]?=some l'':=fun l''=>by rw [List.getElem?_set_self hks]
 refine ExA.assign (by walk_at "u") ?_
 walk_at "s"
 refine OpT.mulI (.of_left (by decide +kernel)) ?_
 walk_at "s"
 let I:Nat→Loc→Store→Prop:=fun m loc' S'=>∃ (l':List (Int×Int)) (p:Nat) (a:AV),m=l.length-p∧loc'=([("heap",.lst k),("pos",.int p),("endpos",.int l.length),("startpos",.int 0),("newitem",.pair x),("childpos",.int (2*p+1)),("rightpos",a)]:Loc)∧S'=S.set k (pairs l')∧p<l'.length∧l'.length=l.length∧sup x l' p=sup x l 0
 refine ExA.while I ?_ l.length
  ⟨l,0,_,rfl,rfl,(set_of_get hk).symm,hp,rfl,rfl⟩
 rintro m loc' S' ⟨l',p,a,rfl,rfl,rfl,hm,hlen,hs⟩
 refine TsA.cmp ?_
 walk_at "s"
 by_cases hc:2*p+1<l'.length
 ·refine ifP (by simp;lia) ?_
  have hsu:sup x l' p=sup x (l'.set p (l'.getD (if 2*p+2<l'.length∧ltP (l'.getD (2*p+1) (0,0)) (l'.getD (2*p+2) (0,0))=false then 2*p+2 else 2*p+1) (0,0))) (if 2*p+2<l'.length∧ltP (l'.getD (2*p+1) (0,0)) (l'.getD (2*p+2) (0,0))=false then 2*p+2 else 2*p+1):=by
   rw [sup_eq,dif_pos hc]
  refine ExA.assign (by walk_at "u") ?_
  walk_at "s"
  let J:Loc→Store→Prop:=fun loc₂ S₂=>∃ c:Nat,loc₂=([("heap",.lst k),("pos",.int p),("endpos",.int l.length),("startpos",.int 0),("newitem",.pair x),("childpos",.int c),("rightpos",.int (2*p+1+1))]:Loc)∧S₂=S.set k (pairs l')∧p<c∧c<l'.length∧sup x (l'.set p (l'.getD c (0,0))) c=sup x l 0
  refine ExA.seq J ?_ ?_
  ·refine ExS.ite (TsA.and (TsT.andCons (TsA.cmp ?_)))
   walk_at "s"
   by_cases hc2:2*p+2<l'.length
   ·refine ifP (by simp;(clear hc;lia)) ?_
    refine TsT.andCons (TsA.not (TsA.cmp ?_))
    refine EvA.subL ?_
    walk_at "s"
    refine ⟨⟨_,rfl⟩,OpT.getL (hk' _) (by exact Int.zero_le_ofNat (2*p+1)) (x:=.pair (l'.getD (2*p+1) (0,0))) (by rw [← pairs_get hc];rfl) (pairs_few' hlen hl) ?_⟩
    refine EvA.subL ?_
    walk_at "s"
    refine ⟨⟨_,rfl⟩,OpT.getL (hk' _) (by exact Int.zero_le_ofNat (2*p+1+1)) (x:=.pair (l'.getD (2*p+2) (0,0))) (by rw [← pairs_get hc2];rfl) (pairs_few' hlen hl) ?_⟩
    refine OpT.ltT (TrT.bool ?_)
    cases hlt:ltP (l'.getD (2*p+1) (0,0)) (l'.getD (2*p+2) (0,0)) with
    | true =>
     refine ExA.nil ⟨2*p+1,rfl,rfl,by lia,hc,?_⟩
     rw [← hs,hsu,hlt,if_neg (by simp)]
    | false =>
     refine TsT.andNil ?_
     refine ifP rfl ?_
     refine ExA.assign (by walk_at "u") ?_
     walk_at "s"
     refine ExA.nil ⟨2*p+2,rfl,rfl,by lia,hc2,?_⟩
     rw [← hs,hsu,hlt,if_pos ⟨hc2,rfl⟩]
   ·refine ifN (by simp;(clear hc;lia)) (ifN (by simp;(clear hc;lia)) ?_)
    refine ExA.nil ⟨2*p+1,rfl,rfl,by lia,hc,?_⟩
    rw [← hs,hsu,if_neg (by simp [hc2])]
  ·rintro loc₂ S₂ ⟨c,rfl,rfl,hpc,hcl,hsc⟩
   refine ExA.setSub (k:=k) ?_
   refine EvA.subL ?_
   walk_at "s"
   refine ⟨⟨_,rfl⟩,OpT.getL (hk' _) (by exact Int.natCast_nonneg c) (x:=.pair (l'.getD c (0,0))) (by simpa using pairs_get hcl) (pairs_few' hlen hl) ?_⟩
   walk_at "s"
   refine ⟨rfl,p,pairs l',rfl,hk' _,by exact Int.natCast_nonneg p,by rw [pairs_len];exact Int.ofNat_lt.mpr hm,pairs_few' hlen hl,?_⟩
   refine ExA.assign (by walk_at "u") ?_
   walk_at "s"
   refine ExA.assign (by walk_at "u") ?_
   walk_at "s"
   refine OpT.mulI (.of_left (by decide +kernel)) ?_
   walk_at "s"
   refine ExA.nil ⟨_,?_,l'.set p (l'.getD c (0,0)),c,_,rfl,rfl,?_,by simp;exact Nat.lt_of_succ_le hcl,by simp [hlen],hsc⟩
   ·(clear hsu hc;lia)
   ·rw [Int.toNat_natCast,pairs_set,List.set_set]
 ·refine ifN (by simp;lia) ?_
  have hsu:sup x l' p=(l',p):=by rw [sup_eq,dif_neg hc]
  rw [← hs,hsu] at q
  refine ExA.setSub (k:=k) ?_
  walk_at "s"
  refine ⟨rfl,p,pairs l',rfl,hk' _,by exact Int.natCast_nonneg p,by rw [pairs_len];exact Int.ofNat_lt.mpr hm,pairs_few' hlen hl,?_⟩
  rw [Int.toNat_natCast,pairs_set,List.set_set]
  refine ExA.expr ?_
  refine EvA.callD H (g_siftdown _) (f_siftdown _) (by kernel_rfl) ?_
  walk_at "s"
  refine siftdown_w H (l:=l'.set p x) (hk' _) (by simp;exact le_of_eq_of_le hlen hl) (by simp;exact Nat.lt_of_succ_le hm) ?_
  refine ExA.nil ?_
  rw [List.set_set,List.getD_eq_getElem?_getD,List.getElem?_set_self hm]
  exact q
noncomputable def pushL (l:List (Int×Int)) (x:Int×Int):List (Int×Int):=sdn x (l++[x]) l.length
noncomputable def popL (l:List (Int×Int)):(Int×Int)×List (Int×Int) :=
 if l.dropLast=[] then (l.getLastD (0,0),[]) else (l.dropLast.getD 0 (0,0),supAll (l.dropLast.set 0 (l.getLastD (0,0))))
noncomputable def repL (l:List (Int×Int)) (x:Int×Int):List (Int×Int):=supAll (l.set 0 x)
theorem push_w (H:St w B) {k:Nat} {l:List (Int×Int)} {x:Int×Int} (hk:S[k]?=some (pairs l)) (hl:l.length<1000)
  (q:Q .none (S.set k (pairs (pushL l x)))):OpT w B (n+2) (callD 62) [.lst k,.pair x] S Q:=by
 refine OpT.def H (ps:=["heap","item"]) [] [("heap",.lst k),("item",.pair x)] (f_heappush _) (c_heappush _) rfl (all2 fun _ _=>by kernel_rfl) (by decide +kernel) (by decide +kernel) (by decide +kernel) (fun L hL H=>?_)
 have hks:k<S.length:=(List.getElem?_eq_some_iff.mp hk).1
 have hk':∀ l'':List AV,(S.set k l'')[k]?=some l'':=fun l''=>by rw [List.getElem?_set_self hks]
 refine ExA.expr (EvA.meth (T:="list") (id:="list.append") ?_ F.plainAttrs_list slot_list_append type_list_append)
 walk_at "s"
 refine ⟨rfl,?_⟩
 walk_at "s"
 refine OpT.append hk (by rw [pairs_len];unfold fewItems;lia) ?_
 rw [pairs_snoc]
 refine ExA.expr (EvA.callD H (g_siftdown _) (f_siftdown _) (by kernel_rfl) ?_)
 walk_at "s"
 refine EvA.callB H (n_len _) (b_len _) (by kernel_rfl) ?_
 walk_at "s"
 refine OpT.lenL (hk' _) (by rw [pairs_len];simp;unfold fewItems;lia) ?_
 walk_at "s"
 rw [show (((pairs (l++[x])).length:Nat):Int)-1=(l.length:Int) by rw [pairs_len];simp]
 refine siftdown_w H (l:=l++[x]) (hk' _) (by simp;exact Nat.le_of_lt_succ hl) (by simp) (ExA.nil ?_)
 rw [List.set_set]
 have:(l++[x]).getD l.length (0,0)=x:=by simp [List.getD]
 rw [this]
 exact q
theorem pop_w (H:St w B) {k:Nat} {l:List (Int×Int)} (hk:S[k]?=some (pairs l)) (hl:l.length≤1000) (h0:l≠[])
  (q:Q (.pair (popL l).1) (S.set k (pairs (popL l).2))):OpT w B (n+3) (callD 69) [.lst k] S Q:=by
 refine OpT.def H (ps:=["heap"]) ["lastelt","returnitem"] [("heap",.lst k),("lastelt",.unb),("returnitem",.unb)] (f_heappop _) (c_heappop _) rfl (all1 fun _=>by kernel_rfl) (by decide +kernel) (by decide +kernel) (by decide +kernel) (fun L hL H=>?_)
 have hks:k<S.length:=(List.getElem?_eq_some_iff.mp hk).1
 have hk':∀ l'':List AV,(S.set k l'')[k]?=some l'':=fun l''=>by rw [List.getElem?_set_self hks]
 have e0:l=l.dropLast++[l.getLastD (0,0)]:=by
  rw [List.getLastD_eq_getLast?,List.getLast?_eq_some_getLast h0]
  exact (List.dropLast_concat_getLast h0).symm
 refine ExA.assign (by walk_at "u") (EvA.meth0 (T:="list") (id:="list.pop") ?_ F.plainAttrs_list F.slot_list_pop type_list_pop)
 walk_at "s"
 refine ⟨rfl,OpT.pop (l:=pairs l.dropLast) (x:=.pair (l.getLastD (0,0))) (by rw [hk,pairs_snoc,← e0]) (by rw [pairs_len];simp;exact Nat.le_succ_of_le hl) ?_⟩
 unfold popL at q
 refine ExA.ite (TsA.val ?_)
 walk_at "s"
 refine TrT.list (hk' _) (by rw [pairs_len];simp;unfold fewItems;lia) ?_
 by_cases hd:l.dropLast=[]
 ·rw [if_pos hd] at q
  rw [hd]
  refine ifN (by simp [pairs]) ?_
  refine ExA.nil (ExA.ret ?_)
  walk_at "s"
  exact q
 ·rw [if_neg hd] at q
  have hpos:0<l.dropLast.length:=List.length_pos_iff.mpr hd
  have he:(!(pairs l.dropLast).isEmpty)=true:=by cases h:l.dropLast with | nil=>exact absurd h hd | cons a b=>rfl
  refine ifP he ?_
  refine ExA.assign (by walk_at "u") (EvA.subL ?_)
  walk_at "s"
  refine ⟨⟨_,rfl⟩,OpT.getL (hk' _) (by exact Int.zero_le_ofNat 0) (x:=.pair (l.dropLast.getD 0 (0,0))) (by simpa using pairs_get hpos) (by rw [pairs_len];simp;unfold fewItems;lia) ?_⟩
  refine ExA.setSub (k:=k) ?_
  walk_at "s"
  refine ⟨rfl,0,pairs l.dropLast,rfl,hk' _,by exact Int.zero_le_ofNat 0,by rw [pairs_len];exact Int.natCast_pos.mpr hpos,by rw [pairs_len];simp;unfold fewItems;lia,?_⟩
  rw [show (0:Int).toNat=0 from rfl,pairs_set,List.set_set]
  refine ExA.expr (EvA.callD H (g_siftup _) (f_siftup _) (by kernel_rfl) ?_)
  walk_at "s"
  refine siftup_w H (l:=l.dropLast.set 0 (l.getLastD (0,0))) (hk' _) (by simp;exact Nat.le_succ_of_le hl) (by simp;simpa using hpos) ?_
  rw [List.set_set]
  refine ExA.ret ?_
  walk_at "s"
  exact q
theorem rep_w (H:St w B) {k:Nat} {l:List (Int×Int)} {x:Int×Int} (hk:S[k]?=some (pairs l)) (hl:l.length≤1000) (h0:0<l.length)
  (q:∀ r,Q r (S.set k (pairs (repL l x)))):OpT w B (n+3) (callD 76) [.lst k,.pair x] S Q:=by
 refine OpT.def H (ps:=["heap","item"]) ["returnitem"] [("heap",.lst k),("item",.pair x),("returnitem",.unb)] (f_heapreplace _) (c_heapreplace _) rfl (all2 fun _ _=>by kernel_rfl) (by decide +kernel) (by decide +kernel) (by decide +kernel) (fun L hL H=>?_)
 have hks:k<S.length:=(List.getElem?_eq_some_iff.mp hk).1
 have hk':∀ l'':List AV,(S.set k l'')[k]?=some l'':=fun l''=>by rw [List.getElem?_set_self hks]
 refine ExA.assign (by walk_at "u") (EvA.subL ?_)
 walk_at "s"
 refine ⟨⟨_,rfl⟩,OpT.getL hk (by exact Int.zero_le_ofNat 0) (x:=.pair (l.getD 0 (0,0))) (by simpa using pairs_get h0) (by rw [pairs_len];unfold fewItems;lia) ?_⟩
 refine ExA.setSub (k:=k) ?_
 walk_at "s"
 refine ⟨rfl,0,pairs l,rfl,hk,by exact Int.zero_le_ofNat 0,by rw [pairs_len];exact Int.natCast_pos.mpr h0,by rw [pairs_len];unfold fewItems;lia,?_⟩
 rw [show (0:Int).toNat=0 from rfl,pairs_set]
 refine ExA.expr (EvA.callD H (g_siftup _) (f_siftup _) (by kernel_rfl) ?_)
 walk_at "s"
 refine siftup_w H (l:=l.set 0 x) (hk' _) (by simp;exact String.Pos.Raw.mk_le_mk.mp hl) (by simp;exact h0) ?_
 rw [List.set_set]
 refine ExA.ret ?_
 walk_at "s"
 exact q _
noncomputable abbrev kLi (Q:AV→Store→Prop) (avs:List AV) (S:Store):Prop:=avs.length≤fewItems∧Q (.lst S.length) (S++[avs])
theorem EvA.list {elts:List Expr} {pos:Pos} (h:ArT w B n env (spliced (backTo pos (starEach elts env))) loc S (kLi Q)):EvA w B n env (.List elts pos) loc S Q:=.mk fun A σ s E ha W F=>by
 refine wpAny_List (h.bind ha W F fun vs s₁ τ avs S₁ W₁ f₁ x₁ r₁ p=>?_)
 obtain ⟨hl,q⟩:=p
 refine ⟨by rw [← r₁.length];exact Nat.le_trans hl (by decide),?_⟩
 have hn:s₁.heap.get? s₁.heap.objs.size=none:=Heap.get?_none_of_le (Nat.le_refl _)
 have W₂:Wd B ((σ++τ)++[s₁.heap.objs.size]) (S₁++[avs]) { s₁ with heap:=s₁.heap.push { cls:=.type "list",data:=.seq vs.toArray } }:=W₁.newList rfl (by simpa using r₁)
 have p:Pst B (σ++τ) s₁ Q (.ref s₁.heap.objs.size) { s₁ with heap:=s₁.heap.push { cls:=.type "list",data:=.seq vs.toArray } } :=
  ⟨[s₁.heap.objs.size],.lst S₁.length,_,W₂,by simpa using hn,Ext.push _ _,⟨_,by rw [← W₁.len];simp,rfl⟩,q⟩
 exact p.back W W₁ x₁ f₁
theorem All2.scs {σ:List Addr} {h:Heap} {l:List Sc} {vs:List Value} (r:All2 (RV σ h) (l.map .sc) vs):All2 RSc l vs :=
 All2.indM (R:=RV σ h) (f:=AV.sc) (P:=fun l vs=>All2 RSc l vs) trivial (fun _ _ _ _ r q=>⟨r,q⟩) r
inductive kTu (Q:AV→Store→Prop) (avs:List AV) (S:Store):Prop
 | mk (l:List Sc) (h:avs=l.map .sc) (hl:l.length≤fewItems) (q:Q (.tup l) S)
theorem EvA.tuple {elts:List Expr} {k:Nat} {pos:Pos} (h:ArT w B n env (spliced (backTo pos (starEach elts env))) loc S (kTu Q)):EvA w B n env (.Tuple elts k pos) loc S Q:=.mk fun A σ s E ha W F=>by
 refine wpAny_Tuple (h.bind ha W F fun vs s₁ τ avs S₁ W₁ f₁ x₁ r₁ p=>?_)
 obtain ⟨l,rfl,hl,q⟩:=p
 refine ⟨by rw [← r₁.length,List.length_map];exact Nat.le_trans hl (by decide),?_⟩
 have W₂:Wd B (σ++τ) S₁ { s₁ with heap:=s₁.heap.push (tupO vs) }:=W₁.push (tupO vs)
 have p:Pst B (σ++τ) s₁ Q (.ref s₁.heap.objs.size) { s₁ with heap:=s₁.heap.push (tupO vs) } :=
  .now W₂ (Ext.push _ _) (av:=.tup l) ⟨_,vs,rfl,Heap.get?_push_size _ rfl,r₁.scs⟩ q
 exact p.back W W₁ x₁ f₁
noncomputable def eqA:AV→AV→Bool
 | .sc a,.sc b=>a==b
 | .tup l,.tup m=>l==m
 | _,_=>false
inductive Cm:AV→Prop
 | int (i:Int):Cm (.int i)
 | str (x:Str):Cm (.str x)
 | pair (p:Int×Int):Cm (.pair p)
open SeqAt in
theorem tup_eqAt {h:Heap} {p q:Int×Int} {a b:Addr} {t u t' u':Tok} (hu:A.units<cLine) (e1:s.heap.get? a=some (tupO [.int p.1 t,.int p.2 u])) (e2:s.heap.get? b=some (tupO [.int q.1 t',.int q.2 u'])):EqAt A s (.ref a) (.ref b) (p==q):=by
 by_cases hab:a=b
 ·subst hab
  rw [e1] at e2
  have:p=q:=by obtain ⟨p1,p2⟩:=p;obtain ⟨q1,q2⟩:=q;cases e2;rfl
  subst this
  rw [beq_self_eq_true]
  exact EqAt.same _
 ·refine EqAt.of_refs hab ?_
  have hl:s.heap.IsTuple a #[.int p.1 t,.int p.2 u]:=⟨_,e1,rfl,0,rfl⟩
  have hb:s.heap.IsTuple b #[.int q.1 t',.int q.2 u']:=⟨_,e2,rfl,0,rfl⟩
  have:=RcAt.tuples (e:=fun j=>if j=0 then p.1==q.1 else p.2==q.2) hl hb hu (fun j h1 h2=>by
   have:j=0∨j=1:=by simp at h1;lia
   rcases this with rfl | rfl
   ·exact EqAt.int_int _ _ _ _
   ·exact EqAt.int_int _ _ _ _)
  have e:((List.range (min (#[Value.int p.1 t,.int p.2 u]).size (#[Value.int q.1 t',.int q.2 u']).size)).all (fun j=>if j=0 then p.1==q.1 else p.2==q.2)&&(#[Value.int p.1 t,.int p.2 u]).size==(#[Value.int q.1 t',.int q.2 u']).size)=(p==q):=by
   obtain ⟨p1,p2⟩:=p
   obtain ⟨q1,q2⟩:=q
   show ((p1==q1&&(p2==q2&&true))&&true)=(p1==q1&&p2==q2)
   simp
  rwa [e] at this
theorem eqA_int (i j:Int):eqA (.int i) (.int j)=(i==j):=by rw [Bool.eq_iff_iff];show (Sc.int i==Sc.int j)=true↔_;simp
theorem eqA_str (i j:Str):eqA (.str i) (.str j)=(i==j):=by rw [Bool.eq_iff_iff];show (Sc.str i==Sc.str j)=true↔_;simp
theorem eqA_pair (p q:Int×Int):eqA (.pair p) (.pair q)=(p==q):=by
 obtain ⟨a,b⟩:=p;obtain ⟨c,d⟩:=q
 rw [Bool.eq_iff_iff]
 show ([Sc.int a,.int b]==[Sc.int c,.int d])=true↔_
 simp
open SeqAt in
theorem eqAt_of {a b:AV} (ca:Cm a) (cb:Cm b) {v u:Value} (ra:RV σ s.heap a v) (rb:RV σ s.heap b u) (hu:A.units<cLine):EqAt A s v u (eqA a b):=by
 cases ca with
 | int i =>
  obtain ⟨t,rfl⟩:=ra
  cases cb with
  | int j=>obtain ⟨t',rfl⟩:=rb;exact eqA_int i j▸EqAt.int_int _ _ _ _
  | str y=>obtain ⟨t',rfl⟩:=rb;exact EqAt.int_str _ _ _ _
  | pair q=>obtain ⟨b,t',u',rfl,e⟩:=rb.pair;exact EqAt.int_tuple _ _ (l:=b) ⟨_,e,rfl,0,rfl⟩ hu
 | str x =>
  obtain ⟨t,rfl⟩:=ra
  cases cb with
  | int j=>obtain ⟨t',rfl⟩:=rb;exact EqAt.str_int _ _ _ _
  | str y=>obtain ⟨t',rfl⟩:=rb;exact eqA_str x y▸EqAt.str_str _ _ _ _
  | pair q=>obtain ⟨b,t',u',rfl,e⟩:=rb.pair;exact EqAt.str_tuple _ _ (l:=b) ⟨_,e,rfl,0,rfl⟩ hu
 | pair p =>
  obtain ⟨a,t,u,rfl,e1⟩:=ra.pair
  cases cb with
  | int j=>obtain ⟨t',rfl⟩:=rb;exact EqAt.tuple_int _ _ (l:=a) ⟨_,e1,rfl,0,rfl⟩ hu
  | str y=>obtain ⟨t',rfl⟩:=rb;exact EqAt.tuple_str _ _ (l:=a) ⟨_,e1,rfl,0,rfl⟩ hu
  | pair q=>obtain ⟨b,t',u',rfl,e⟩:=rb.pair;rw [eqA_pair];exact tup_eqAt (h:=s.heap) hu e1 e
noncomputable def eqLs:List AV→List AV→Bool
 | [],[]=>true
 | a::l,b::m=>eqA a b&&eqLs l m
 | _,_=>false
theorem eqLs_ne:∀ {l m:List AV},l.length≠m.length→eqLs l m=false
 | [],[],h=>absurd rfl h
 | [],_::_,_=>rfl
 | _::_,[],_=>rfl
 | a::l,b::m,h=>by
  show (eqA a b&&eqLs l m)=false
  rw [eqLs_ne fun e=>h (congrArg (·+1) e),Bool.and_false]
theorem eqLs_all:∀ {l m:List AV},l.length=m.length→(List.range l.length).all (fun j=>eqA (l.getD j .unb) (m.getD j .unb))=eqLs l m
 | [],[],_=>rfl
 | [],_::_,h=>nomatch h
 | _::_,[],h=>nomatch h
 | a::l,b::m,h=>by
  rw [List.length_cons,List.range_succ_eq_map,List.all_cons,List.all_map]
  show (eqA a b&&_)=(eqA a b&&eqLs l m)
  rw [← eqLs_all (l:=l) (m:=m) (by simpa using h)]
  rfl
open SeqAt in
theorem lists_cmp {i j:Nat} {l m:List AV} (W:Wd B σ S s) (hi:S[i]?=some l) (hj:S[j]?=some m) (cl:∀ a∈l,Cm a) (cm:∀ a∈m,Cm a) {v u:Value} (rv:RV σ s.heap (.lst i) v) (ru:RV σ s.heap (.lst j) u) (hu:A.units+1<cLine) :
  RcAt A s v u (eqLs l m)∧RcNeAt A s v u (!eqLs l m):=by
 obtain ⟨a,vs,rfl,_,p,hr⟩:=W.lst hi rv
 obtain ⟨b,us,rfl,_,q,hs⟩:=W.lst hj ru
 have z1:vs.size=l.length:=by rw [hr.length];simp
 have z2:us.size=m.length:=by rw [hs.length];simp
 by_cases hz:l.length=m.length
 ·have he:∀ k (h1:k<vs.size) (h2:k<us.size),EqAt A.in1 s vs[k] us[k] (eqA (l.getD k .unb) (m.getD k .unb)):=fun k h1 h2=>by
   have k1:k<l.length:=by exact Nat.lt_of_lt_of_eq h1 z1
   have k2:k<m.length:=by exact Nat.lt_of_lt_of_eq h2 z2
   obtain ⟨x,hx,rx⟩:=hr.get (List.getElem?_eq_getElem k1)
   obtain ⟨y,hy,ry⟩:=hs.get (List.getElem?_eq_getElem k2)
   have e1:vs[k]=x:=by simpa [h1] using hx
   have e2:us[k]=y:=by simpa [h2] using hy
   rw [e1,e2,show l.getD k .unb=l[k] by simp [List.getD,k1],show m.getD k .unb=m[k] by simp [List.getD,k2]]
   exact eqAt_of (cl _ (List.getElem_mem k1)) (cm _ (List.getElem_mem k2)) rx ry hu
  have e:=eqLs_all hz
  rw [← z1] at e
  exact ⟨e▸RcAt.lists p.isList q.isList (by lia) (by exact Nat.lt_of_succ_lt hu) he,e▸RcNeAt.lists p.isList q.isList (by lia) (by exact Nat.lt_of_succ_lt hu) he⟩
 ·rw [eqLs_ne hz]
  have:(vs.size != us.size)=true:=by simp;lia
  exact ⟨RcAt.lists_lengths p.isList q.isList this (by exact Nat.lt_of_succ_lt hu),RcNeAt.lists_lengths p.isList q.isList this (by exact Nat.lt_of_succ_lt hu)⟩
theorem OpT.eqL {i j:Nat} {l m:List AV} (hi:S[i]?=some l) (hj:S[j]?=some m) (cl:∀ a∈l,Cm a) (cm:∀ a∈m,Cm a) (q:Q (.bool (eqLs l m)) S):OpT w B n (opC .Eq) [.lst i,.lst j] S Q:=.mk fun A σ s E vs ha W r=>by
 obtain ⟨x,y,rfl,r1,r2⟩:=r.two
 exact (lists_cmp W hi hj cl cm r1 r2 (by have:=ha.units;simp only [cLine];lia)).1 _ _ _ _ (Pst.sc W (c:=.bool _) rfl q)
theorem OpT.neL {i j:Nat} {l m:List AV} (hi:S[i]?=some l) (hj:S[j]?=some m) (cl:∀ a∈l,Cm a) (cm:∀ a∈m,Cm a) (q:Q (.bool (!eqLs l m)) S):OpT w B n (opC .NotEq) [.lst i,.lst j] S Q:=.mk fun A σ s E vs ha W r=>by
 obtain ⟨x,y,rfl,r1,r2⟩:=r.two
 exact (lists_cmp W hi hj cl cm r1 r2 (by have:=ha.units;simp only [cLine];lia)).2 _ _ _ _ (Pst.sc W (c:=.bool _) rfl q)
theorem OpT.maxI {i j:Int} (q:Q (.int (if j>i then j else i)) S):OpT w B n (Mine.callB "max") [.int i,.int j] S Q:=.mk fun A σ s E vs ha W r=>by
 obtain ⟨x,y,rfl,⟨t,rfl⟩,⟨u,rfl⟩⟩:=r.two
 refine max_two_ints ha.handled fun h' tk hk=>?_
 have W':Wd B σ S { s with heap:=h',toks:=tk }:=W.keeps hk
 refine .now W' (Ext.of_keeps hk) (av:=.int _) ?_ q
 split
 ·exact ⟨_,rfl⟩
 ·exact ⟨_,rfl⟩
theorem OpT.getT {l:List Sc} {i:Int} {c:Sc} (h0:0≤i) (hc:l[i.toNat]?=some c) (hl:l.length≤fewItems) (q:Q (.sc c) S):OpT w B n (fun vs=>getItem (vs.getD 0 .none) (vs.getD 1 .none)) [.tup l,.int i] S Q:=.mk fun A σ s E vs ha W r=>by
 obtain ⟨v,y,rfl,⟨a,us,rfl,e,hr⟩,⟨u,rfl⟩⟩:=r.two
 obtain ⟨b,hb,rb⟩:=hr.get hc
 have hi:i.toNat<l.length:=(List.getElem?_eq_some_iff.mp hc).1
 have hz:us.toArray.size=l.length:=by simp [hr.length]
 refine P.getItem_tuple (k:=i.toNat) (y:=b) e (by lia) (by unfold fewItems at hl;(clear h0;lia)) ?_ (by simpa using hb) (Pst.sc W rb q)
 unfold seqIndex?
 rw [hz]
 simp only [show ¬ i<0 by exact Int.not_lt_of_ge h0,if_false]
 rw [if_pos (by simp;lia)]
noncomputable abbrev isT (a:AV):Prop:=∃ l,a=.tup l
theorem EvA.subT {value slice:Expr} {pos:Pos}
  (h:EvA w B n env value loc S (kG w B n env slice loc isT Q))
  (hsub:∀ o i,subscripted slice false o i=operate [o,i] (getItem o i):=by intro _ _;rfl) :
  EvA w B n env (.Subscript value slice pos) loc S Q :=
 EvA.sub (T:="tuple") (h.mono fun _ _ h=>h.mono fun _ _ h=>⟨.inr ⟨rfl,h.1⟩,h.2⟩) getS_tuple hsub
theorem StT.name {x:Str} {p:Pos} {av:AV} {f:AV→Loc} {Q:Loc→Store→Prop} (hu:UpdF loc x f) (hk:env.kindOf x=some .local) (q:Q (f av) S):StT w B n env (PySem.assign (.Name x p) env) av loc S Q:=.mk fun A σ s E v ha W F r =>
 wpAny_assign_Name ((StT.store hu hk q).run A σ s E v ha W F r)
theorem StT.tup2 {x y:Str} {p1 p2 pos:Pos} {k:Nat} {c d:Sc} {f g:AV→Loc} {Q:Loc→Store→Prop} (hu:UpdF loc x f) (hv:UpdF (f (.sc c)) y g) (hk:env.kindOf x=some .local) (hk2:env.kindOf y=some .local) (q:Q (g (.sc d)) S) :
  StT w B n env (PySem.assign (.Tuple [.Name x p1,.Name y p2] k pos) env) (.tup [c,d]) loc S Q:=.mk fun A σ s E v ha W F r=>by
 obtain ⟨a,us,rfl,e,hr⟩:=r
 obtain ⟨v1,v2,rfl,r1,r2⟩:=hr.two
 have ht:s.heap.IsTuple a #[v1,v2]:=⟨_,e,rfl,0,rfl⟩
 refine wpAny_assign_Tuple ha.handled ht rfl rfl fun h' hx=>?_
 have hk':∀ b o,s.heap.get? b=some o→h'.get? b=some o:=fun b o e=>hx b o (Nat.ne_of_lt (Heap.lt_size e)) e
 have X:Ext σ s.heap h':=Ext.of_keeps hk'
 have W':Wd B σ S { s with heap:=h' }:=W.keeps hk'
 have F':Fm B σ env loc h':=by have:=F.mono W [] X;rwa [List.append_nil] at this
 refine assignInOrder_cons ((StT.name (Q:=fun loc' S'=>loc'=f (.sc c)∧S'=S) hu hk ⟨rfl,rfl⟩).bind v1 ha W' F' r1 fun _ s₁ τ af loc₁ S₁ W₁ f₁ x₁ F₁ r₁ p=>?_)
 obtain ⟨rfl,rfl⟩:=p
 refine assignInOrder_cons (wpAny_mono ((StT.name (Q:=Q) hv hk2 q).run A (σ++τ) s₁ E v2 ha W₁ F₁ r2) (fun _ s₂ p=>?_) fun _ _ e=>e)
 refine assignInOrder_nil ?_
 have p1:=p.back (s:={ s with heap:=h' }) F'.live W₁ F₁ x₁ f₁
 have p0:PstF B (σ++[]) env { s with heap:=h' } (fun _ loc' S'=>Q loc' S') .next s₂:=by rwa [List.append_nil]
 exact p0.back F.live (by rwa [List.append_nil]) (by rwa [List.append_nil]) X.toF (fun a h=>by cases h)
noncomputable abbrev kRe (w:World) (B:Bs) (n:Nat) (env:Env) (rest:List Stmt) (K:AF→Loc→Store→Prop) (loc:Loc) (S:Store):Prop:=ExA w B n env rest loc S K
noncomputable abbrev kSt (w:World) (B:Bs) (n:Nat) (env:Env) (t:Value→Sem Unit) (loc:Loc) (R:Loc→Store→Prop) (av:AV) (S:Store):Prop:=StT w B n env t av loc S R
theorem ExA.assignT {elts:List Expr} {k:Nat} {tpos pos:Pos} {value:Expr} (h:EvA w B n env value loc S (kSt w B n env (PySem.assign (.Tuple elts k tpos) env) loc (kRe w B n env rest K)))
  (hs:swapsWithSole [.Tuple elts k tpos] value pos.line env=pure false:=by rfl) (hw:swappedStores [.Tuple elts k tpos] value env=pure none:=by rfl):ExA w B n env (.Assign [.Tuple elts k tpos] value pos::rest) loc S K :=
 ExA.cons <| .mk fun _ _ _ _ ha W F=>PyProof.Rows.Assign_Tuple (EvT.thenStore (Q:=kS w B n env rest K) h ha W F) hs hw
theorem Fm.neF {h:Heap} (F:Fm B σ env loc h) {a:Addr} {o:Obj} {vs} (e:h.get? a=some o) (hd:o.data=.fields vs):a≠env.locals:=fun q=>by
 obtain ⟨⟨m,⟨of,es,ep,hf,hfd,_⟩,_⟩,_⟩:=F
 rw [← q,e] at hf;cases hf;rw [hd] at hfd;cases hfd
theorem Fm.neS {h:Heap} (F:Fm B σ env loc h) {a:Addr} {o:Obj} {vs n} (e:h.get? a=some o) (hd:o.data=.seq vs n):a≠env.locals:=fun q=>by
 obtain ⟨⟨m,⟨of,es,ep,hf,hfd,_⟩,_⟩,_⟩:=F
 rw [← q,e] at hf;cases hf;rw [hd] at hfd;cases hfd
theorem Fm.butG {h h':Heap} (F:Fm B σ env loc h) {L:Addr} (hs:Heap.ExtBut L h h') {o:Obj} (ho:h.get? L=some o) (hi:immO o=false) (hc:∀ v,o.data≠.cell v) (hL:L≠env.locals):Fm B σ env loc h':=by
 obtain ⟨⟨m,⟨of,es,ep,hf,r⟩,hm⟩,ok⟩:=F
 exact ⟨⟨m,⟨of,es,ep,hs _ _ hL.symm hf,r⟩,fun x av hx=>(hm x av hx).imp id fun ⟨v,h,r⟩=>⟨v,h.imp id fun ⟨h1,c,h2,oc,hg,hd⟩=>⟨h1,c,h2,oc,hs _ _ (fun q=>allOf (P:=fun o=>∀ v,o.data≠.cell v) ho hc oc (q▸hg) _ hd) hg,hd⟩,
  r.keep0 fun a o' e i=>hs _ _ (fun q=>Bool.false_ne_true ((allOf (P:=fun o=>immO o=false) ho hi o' (q▸e)).symm.trans i)) e⟩⟩,ok⟩
theorem Fm.but (F:Fm B σ env loc s.heap) {h':Heap} {L:Addr} (hs:Heap.ExtBut L s.heap h') {o:Obj} (ho:s.heap.get? L=some o) {vs} (hd:o.data=.fields vs) (hi:immO o=false):Fm B σ env loc h' :=
 F.butG hs ho hi (fun v e=>nomatch hd.symm.trans e) (F.neF ho hd)
theorem imm_listIter {o:Obj} (h:o.cls=.type "list_iterator"):immO o=false:=by
 obtain ⟨c,d,dt,sl⟩:=o
 obtain rfl:c=.type "list_iterator":=h
 cases dt <;> first | rfl | decide +kernel
noncomputable abbrev kFo (J:Loc→Store→Prop) (Q:AF→Loc→Store→Prop) (af:AF) (loc:Loc) (S:Store):Prop:=match af with
 | .next | .cont=>J loc S
 | .brk=>Q .next loc S
 | .ret av=>Q (.ret av) loc S
theorem PstF.at {B:Bs} {σ:List Addr} {env:Env} {s s':Shared} {Q:AF→Loc→Store→Prop} {f:Flow} {S:Store} {loc:Loc} (p:PstF B σ env s Q f s') (W:Wd B σ S s) (F:Fm B σ env loc s.heap) {a:Addr} {o:Obj} {c:String} {vs} (e:s.heap.get? a=some o) (hc:o.cls=.type c) (hd:o.data=.fields vs):s'.heap.get? a=some o:=by
 obtain ⟨_,_,_,_,_,_,x,_,_,_⟩:=p
 have hout:=W.out_of_fields e hc hd
 exact x.same a o e hout.1 (F.neF e hd) hout.2.1 hout.2.2 (nsO_fields hd)
inductive FI (B:Bs) (σ:List Addr) (env:Env) (s:Shared) (N:Nat) (T:Nat→Heap→Prop) (I:Nat→Loc→Store→Prop) (m:Nat) (s':Shared):Prop
 | mk (i:Nat) (hm:m=N+1-i) (hi:i≤N) (hT:T i s'.heap) (p:PstF B σ env s (fun _ loc S=>I i loc S) .next s')
theorem forG {x:Str} {p:Pos} {body:List Stmt} {Q:AF→Loc→Store→Prop} (N:Nat) (val:Nat→AV) (I:Nat→Loc→Store→Prop) {it:Addr} (T:Nat→Heap→Prop) {R:Result→Shared→Prop} {s₂:Shared}
  (ha:AOk B n A) (W:Wd B σ S s) (F:Fm B σ env loc s.heap) (hn:s.heap.get? it=none) (W₂:Wd B σ S s₂) (x₂:Ext σ s.heap s₂.heap) (F₂:Fm B σ env loc s₂.heap) (h0:T 0 s₂.heap) (hI:I 0 loc S)
  (obj:∀ i h,T i h→∃ o c vs,h.get? it=some o∧o.cls=.type c∧o.data=.fields vs∧immO o=false∧∀ h',h'.get? it=some o→T i h')
  (item:∀ i τ loc S s E (Φ:Option Value→Shared→Prop),i<N→Wd B (σ++τ) S s→I i loc S→T i s.heap→(∀ v h' k,T (i+1) h'→Heap.ExtBut it s.heap h'→RV (σ++τ) h' (val i) v→Φ (some v) { s with heap:=h',toks:=k })→wpAny (model pw w) A (pyNext (.ref it)) Φ E s)
  (stop:∀ τ loc S s E (Φ:Option Value→Shared→Prop),Wd B (σ++τ) S s→I N loc S→T N s.heap→(∀ h',Heap.ExtBut it s.heap h'→Φ none { s with heap:=h' })→wpAny (model pw w) A (pyNext (.ref it)) Φ E s)
  (turn:∀ i loc S,i<N→I i loc S→StT w B n env (PySem.assign (.Name x p) env) (val i) loc S (kRe w B n env body (kFo (I (i+1)) Q)))
  (done:∀ loc S,I N loc S→Q .next loc S) (hR:∀ f s',PstF B σ env s Q f s'→R (.ok f) s'):codeAny (model pw w) A (.forLoop (.Name x p) (.ref it) body [] env) R s₂:=by
 refine codeAny_forLoop (FI B σ env s N T I) (fun m s₂ q=>?_) (N+1) ⟨0,rfl,Nat.zero_le _,h0,.now W₂ x₂.toF F₂ (af:=.next) rfl hI⟩
 refine let ZZ:Prop:=_;(?_:ZZ)
 obtain ⟨i,rfl,hi,hT,τ,_,loc₂,S₂,W₂,f₂,x₂,F₂,_,hI₂⟩:=q
 obtain ⟨o,c,vs,ho,hc,hd,him,_⟩:=obj i _ hT
 have hout:=W₂.out_of_fields ho hc hd
 have keep:∀ {h':Heap} {k:Tok},Heap.ExtBut it s₂.heap h'→Wd B (σ++τ) S₂ { s₂ with heap:=h',toks:=k }∧Fm B (σ++τ) env loc₂ h'∧ExtF σ env.locals s.heap h':=fun hs =>
  ⟨W₂.but hs (W.newB hn) hout.1 hout.2.1 hout.2.2 (allOf ho him) (.inl (allOf ho (nsO_fields hd))),F₂.but hs ho hd him,x₂.then fun b o e _ _ _ _ hl=>hs b o (fun q=>hl (q▸hn)) e⟩
 by_cases hlt:i<N
 ·refine item i τ loc₂ S₂ s₂ _ _ hlt W₂ hI₂ hT fun v h' k hT' hs rv=>?_
  obtain ⟨V,G,X⟩:=keep (k:=k) hs
  refine wpAny_mono ((turn i loc₂ S₂ hlt hI₂).run A _ _ _ v ha V G rv) (fun _ s₃ p=>?_) fun _ _ e=>e
  refine let ZZ:Prop:=_;(?_:ZZ)
  obtain ⟨τ₃,_,loc₃,S₃,W₃,f₃,x₃,F₃,_,h₃⟩:=p
  refine wpAny_mono (h₃.run A _ s₃ _ ha W₃ F₃) (fun f s₄ p=>?_) fun _ _ e=>e
  have p:=p.back (s:={ s₂ with heap:=h',toks:=k }) G.live W₃ F₃ x₃ f₃
  have hT₄:T (i+1) s₄.heap:=by
   obtain ⟨o,c,vs,ho,hc,hd,_,hk⟩:=obj _ _ hT'
   exact hk _ (p.at V G ho hc hd)
  have hm:N+1-(i+1)<N+1-i:=Nat.sub_lt_sub_left (Nat.lt_succ_of_lt hlt) (Nat.lt_succ_self i)
  refine let ZZ:Prop:=_;(?_:ZZ)
  obtain ⟨τ₅,af,loc₅,S₅,W₅,f₅,x₅,F₅,r₅,q₅⟩:=p.back F.live V G X f₂
  cases af with
  | next=>obtain rfl:f=.next:=r₅;exact ⟨_,hm,i+1,rfl,hlt,hT₄,τ₅,.next,loc₅,S₅,W₅,f₅,x₅,F₅,rfl,q₅⟩
  | cont=>obtain rfl:f=.cont:=r₅;exact ⟨_,hm,i+1,rfl,hlt,hT₄,τ₅,.next,loc₅,S₅,W₅,f₅,x₅,F₅,rfl,q₅⟩
  | brk=>obtain rfl:f=.brk:=r₅;exact hR _ _ ⟨τ₅,.next,loc₅,S₅,W₅,f₅,x₅,F₅,rfl,q₅⟩
  | ret av=>obtain ⟨v,rfl,rv⟩:=r₅;exact hR _ _ ⟨τ₅,.ret av,loc₅,S₅,W₅,f₅,x₅,F₅,⟨v,rfl,rv⟩,q₅⟩
 ·obtain rfl:i=N:=Nat.le_antisymm hi (Nat.le_of_not_lt hlt)
  refine stop τ loc₂ S₂ s₂ _ _ W₂ hI₂ hT fun h' hs=>?_
  obtain ⟨V,G,X⟩:=keep (k:=s₂.toks) hs
  exact wpAny_execs_nil (hR _ _ ⟨τ,.next,loc₂,S₂,V,f₂,X,G,rfl,done _ _ hI₂⟩)
theorem ExS.forL {x:Str} {p pos:Pos} {iter:Expr} {body:List Stmt} {Q:AF→Loc→Store→Prop} (k:Nat) (l:List AV) (I:Nat→Loc→Store→Prop) (hl:l.length≤fewItems)
  (h:EvA w B n env iter loc S fun av S₁=>av=.lst k∧S₁[k]?=some l∧I 0 loc S₁)
  (turn:∀ i a loc S,l[i]?=some a→I i loc S→S[k]?=some l→StT w B n env (PySem.assign (.Name x p) env) a loc S (kRe w B n env body (kFo (fun loc₂ S₂=>I (i+1) loc₂ S₂∧S₂[k]?=some l) Q)))
  (done:∀ loc S,I l.length loc S→S[k]?=some l→Q .next loc S)
  (hs:∀ x,foldedSetIterable iter env x=pure x:=by intro _;rfl):ExS w B n env (.For (.Name x p) iter body [] pos) loc S Q:=.mk fun A σ s E ha W F=>by
 refine wpAny_For (h.bind ha W F fun v s₁ τ av S₁ W₁ f₁ x₁ r₁ p=>?_) hs
 refine let ZZ:Prop:=_;(?_:ZZ)
 obtain ⟨rfl,hk,hI⟩:=p
 have F₁:=F.mono W τ x₁
 obtain ⟨a,vs,rfl,ha',pl,hr⟩:=W₁.lst hk r₁
 have hl:∀ {τ' S s},Wd B (σ++τ++τ') S s→S[k]?=some l→∃ vs,s.heap.PlainList a vs∧All2 (RV (σ++τ++τ') s.heap) l vs.toList:=fun W e=>by
  obtain ⟨a₂,vs₂,e₂,_,pl₂,hr₂⟩:=W.lst e (v:=.ref a) ⟨a,by rw [List.getElem?_append_left (by exact (List.getElem?_eq_some_iff.mp ha').1)];exact ha',rfl⟩
  cases e₂
  exact ⟨vs₂,pl₂,hr₂⟩
 have X:=Ext.push (σ:=σ++τ) s₁.heap { cls:=.type "list_iterator",data:=.fields #[.ref a,.int 0 0] }
 refine wpAny_pyIter_list pl.isList (forG l.length (l.getD · .unb) (fun i loc S=>I i loc S∧S[k]?=some l) (fun i h=>h.IsListIter s₁.heap.objs.size a i) ha W₁ F₁ (Heap.get?_none_of_le (Nat.le_refl _)) (W₁.push _) X (by have:=F₁.mono W₁ [] X;rwa [List.append_nil] at this) ⟨_,Heap.get?_push_size _ rfl,rfl,rfl⟩ ⟨hI,hk⟩
  (fun i h ⟨o,ho,hc,hd⟩=>⟨o,_,_,ho,hc,hd,imm_listIter hc,fun h' e=>⟨o,e,hc,hd⟩⟩)
  (fun i τ loc S s E Φ hlt W hI hT q=>?_) (fun τ loc S s E Φ W hI hT q=>?_) (fun i loc S hlt hI=>turn i _ loc S (by rw [List.getD_eq_getElem?_getD,List.getElem?_eq_getElem hlt];rfl) hI.1 hI.2) (fun loc S h=>done loc S h.1 h.2) fun f s' p=>p.back F.live W₁ F₁ x₁.toF f₁)
 ·obtain ⟨vs,pl,hr⟩:=hl W hI.2
  obtain ⟨y,hy,ry⟩:=hr.get (List.getElem?_eq_getElem hlt)
  refine wpAny_pyNext_list_item hT pl.isList (x:=y) (by simpa using hy) fun h' hiter' hsame=>q y h' s.toks hiter' hsame.extBut ?_
  rw [List.getD_eq_getElem?_getD,List.getElem?_eq_getElem hlt]
  obtain ⟨o,ho,hc,_⟩:=hT
  exact ry.keep0 fun b o' e im=>hsame.extBut b o' (fun q=>nomatch (allOf (P:=fun o=>immO o=false) ho (imm_listIter hc) o' (q▸e)).symm.trans im) e
 ·obtain ⟨vs,pl,hr⟩:=hl W hI.2
  exact wpAny_pyNext_list_end ha.handled hT pl.isList (by rw [← Array.getElem?_toList,List.getElem?_eq_none_iff,hr.length];exact Nat.le_refl _) q
theorem get0 (S:Store) (x:List AV) (r:Store):(S++x::r)[S.length]?=some x:=by rw [List.getElem?_append_right (Nat.le_refl _),Nat.sub_self];rfl
theorem get1 (S:Store) (x y:List AV) (r:Store):(S++x::y::r)[S.length+1]?=some y:=by rw [List.getElem?_append_right (Nat.le_succ _),Nat.succ_sub (Nat.le_refl _),Nat.sub_self];rfl
theorem set0 (S:Store) (x z:List AV) (r:Store):(S++x::r).set S.length z=S++z::r:=by rw [List.set_append_right _ _ (Nat.le_refl _),Nat.sub_self];rfl
theorem set1 (S:Store) (x y z:List AV) (r:Store):(S++x::y::r).set (S.length+1) z=S++x::z::r:=by rw [List.set_append_right _ _ (Nat.le_succ _),Nat.succ_sub (Nat.le_refl _),Nat.sub_self];rfl
theorem getP {S:Store} {k:Nat} {l:List AV} (h:S[k]?=some l) (r:Store):(S++r)[k]?=some l:=by rw [List.getElem?_append_left (List.getElem?_eq_some_iff.mp h).1];exact h
theorem cm_pairs (l:List (Int×Int)):∀ a∈pairs l,Cm a:=fun a h=>by
 obtain ⟨p,_,rfl⟩:=List.mem_map.mp h
 exact .pair p
theorem eqLs_nil (l:List AV):eqLs l []=l.isEmpty:=by cases l <;> rfl
theorem sup_length (x:Int×Int) (l:List (Int×Int)) (pos:Nat):(sup x l pos).1.length=l.length:=by
 induction hm:l.length-pos using Nat.strongRecOn generalizing l pos with
 | _ m ih =>
  rw [sup_eq]
  split
  ·rename_i hlt
   have key:∀ c,pos<c→c<l.length→(sup x (l.set pos (l.getD c (0,0))) c).1.length=l.length:=fun c h1 h2=>by
    rw [ih _ (by rw [List.length_set,← hm];omega) _ c rfl,List.length_set]
   split
   ·rename_i hc;exact key _ (by omega) hc.1
   ·exact key _ (by omega) hlt
  ·rfl
theorem supAll_length (l:List (Int×Int)):(supAll l).length=l.length:=by
 unfold supAll
 rw [sdn_length,List.length_set,sup_length]
theorem pushL_length (l:List (Int×Int)) (x:Int×Int):(pushL l x).length=l.length+1:=by unfold pushL;rw [sdn_length];simp
theorem popL_length (l:List (Int×Int)):(popL l).2.length=l.length-1:=by
 unfold popL
 split
 ·rename_i h
  have:l.dropLast.length=0:=by rw [h];rfl
  rw [List.length_dropLast] at this
  rw [this];rfl
 ·rw [supAll_length,List.length_set,List.length_dropLast]
theorem repL_length (l:List (Int×Int)) (x:Int×Int):(repL l x).length=l.length:=by unfold repL;rw [supAll_length,List.length_set]
noncomputable def pushAll (h:List (Int×Int)) (l:List (Int×Int)):List (Int×Int):=l.foldl pushL h
theorem pushAll_length (l:List (Int×Int)):∀ h,(pushAll h l).length=h.length+l.length:=by
 induction l with
 | nil=>intro h;rfl
 | cons a l ih=>intro h;show (pushAll (pushL h a) l).length=_;rw [ih,pushL_length];simp;exact Nat.succ_add_eq_add_succ h.length l.length
noncomputable def joinGo:Nat→List (Int×Int)→List (Int×Int)→List (Int×Int)
 | 0,_,j=>j
 | n+1,h,j=>if h=[] then j else
   let r:=popL h
   if r.2≠[]∧(r.2.getD 0 (0,0)).1≤r.1.2+1 then joinGo n (repL r.2 (r.1.1,if (r.2.getD 0 (0,0)).2>r.1.2 then (r.2.getD 0 (0,0)).2 else r.1.2)) j
   else joinGo n r.2 (j++[r.1])
theorem joinGoS (n:Nat) (h j:List (Int×Int)):joinGo (n+1) h j=if h=[] then j else
   if (popL h).2≠[]∧((popL h).2.getD 0 (0,0)).1≤(popL h).1.2+1 then joinGo n (repL (popL h).2 ((popL h).1.1,if ((popL h).2.getD 0 (0,0)).2>(popL h).1.2 then ((popL h).2.getD 0 (0,0)).2 else (popL h).1.2)) j
   else joinGo n (popL h).2 (j++[(popL h).1]):=rfl
noncomputable def joinL (l:List (Int×Int)):List (Int×Int):=joinGo l.length (pushAll [] l) []
inductive JI (S:Store) (k:Nat) (l:List (Int×Int)) (m:Nat) (loc:Loc) (S':Store):Prop
 | mk (h j:List (Int×Int)) (a b c:AV) (r:Store) (e1:m=h.length) (e2:loc=([("ranges",.lst k),("heap",.lst S.length),("pair",a),("joined",.lst (S.length+1)),("low",b),("high",c)]:Loc)) (e3:S'=S++pairs h::pairs j::r) (e4:h.length+j.length≤l.length) (e5:joinGo h.length h j=joinL l)
noncomputable abbrev kJI (S:Store) (k:Nat) (l:List (Int×Int)) (m:Nat) (af:AF) (loc:Loc) (S':Store):Prop:=match af with
 | .next=>∃ n,n<m∧JI S k l n loc S'
 | _=>False
theorem joined_w (H:St w B) {k:Nat} {l:List (Int×Int)} (hk:S[k]?=some (pairs l)) (hl:l.length≤100)
  (q:∀ j r,(S++r)[j]?=some (pairs (joinL l))→Q (.lst j) (S++r)):OpT w B (n+4) (callD 177) [.lst k] S Q:=by
 refine OpT.def H (ps:=["ranges"]) ["heap","pair","joined","low","high"] [("ranges",.lst k),("heap",.unb),("pair",.unb),("joined",.unb),("low",.unb),("high",.unb)] (f_law_joined _) (c_law_joined _) rfl (all1 fun _=>by kernel_rfl) (by decide +kernel) (by decide +kernel) (by decide +kernel) (fun L hL H=>?_)
 refine ExA.assign (by walk_at "u") (EvA.list ?_)
 walk_at "s"
 refine ⟨Nat.zero_le _,?_⟩
 let J:Loc→Store→Prop:=fun loc₂ S₂=>∃ a:AV,loc₂=([("ranges",.lst k),("heap",.lst S.length),("pair",a),("joined",.unb),("low",.unb),("high",.unb)]:Loc)∧S₂=S++[pairs (pushAll [] l)]
 refine ExA.seq J ?_ ?_
 ·let I:Nat→Loc→Store→Prop:=fun i loc₂ S₂=>∃ a:AV,loc₂=([("ranges",.lst k),("heap",.lst S.length),("pair",a),("joined",.unb),("low",.unb),("high",.unb)]:Loc)∧S₂=S++[pairs (pushAll [] (l.take i))]
  refine ExS.forL k (pairs l) I (by rw [pairs_len];unfold fewItems;omega) ?_ ?_ ?_
  ·walk_at "s"
   exact ⟨rfl,getP hk _,_,rfl,rfl⟩
  ·rintro i a loc₂ S₂ hi ⟨b,rfl,rfl⟩ hk2
   have hil:i<l.length:=by have:=(List.getElem?_eq_some_iff.mp hi).1;rwa [pairs_len] at this
   obtain rfl:a=.pair l[i]:=by rw [pairs_get hil] at hi;cases hi;simp [List.getD,hil]
   refine StT.name (by walk_at "u") (by kernel_rfl) ?_
   refine ExA.expr (EvA.callD H (g_heappush _) (f_heappush _) (by kernel_rfl) ?_)
   walk_at "s"
   refine push_w H (n:=n+1) (get0 _ _ _) (by rw [pushAll_length];simp;omega) ?_
   rw [set0]
   refine ExA.nil ⟨⟨_,rfl,?_⟩,getP hk _⟩
   have:l.take (i+1)=l.take i++[l[i]]:=List.take_succ_eq_append_getElem hil
   show S++[pairs (pushL (pushAll [] (l.take i)) l[i])]=S++[pairs (pushAll [] (l.take (i+1)))]
   rw [this,pushAll,pushAll,List.foldl_append];rfl
  ·rintro loc₂ S₂ ⟨b,rfl,rfl⟩ _
   exact ⟨b,rfl,by rw [pairs_len,List.take_length]⟩
 ·rintro loc₂ S₂ ⟨a,rfl,rfl⟩
  refine ExA.assign (by walk_at "u") (EvA.list ?_)
  walk_at "s"
  refine ⟨Nat.zero_le _,?_⟩
  rw [List.append_assoc,show [pairs (pushAll [] l)]++[([]:List AV)]=pairs (pushAll [] l)::pairs []::[] from rfl,show (S++[pairs (pushAll [] l)]).length=S.length+1 by simp]
  refine ExA.while (JI S k l) (fun m loc' S' q₀=>?_) l.length
   ⟨pushAll [] l,[],a,_,_,[],by rw [pushAll_length];simp,rfl,rfl,by rw [pushAll_length];simp,by unfold joinL;rw [pushAll_length];simp⟩
  refine let ZZ:Prop:=_;(?_:ZZ)
  obtain ⟨h,j,a,b,c,r,rfl,rfl,rfl,hlen,hj⟩:=q₀
  refine TsA.cmp ?_
  walk_at "s"
  refine EvA.list ?_
  walk_at "s"
  refine ⟨Nat.zero_le _,?_⟩
  rw [List.append_assoc,List.cons_append,List.cons_append]
  refine OpT.neL (get0 _ _ _) (by rw [← List.cons_append,← List.cons_append,← List.append_assoc,List.getElem?_append_right (Nat.le_refl _),Nat.sub_self];rfl) (cm_pairs _) (fun a h=>by cases h) (TrT.bool ?_)
  rw [eqLs_nil]
  by_cases h0:h=[]
  ·subst h0
   refine ifN (by simp [pairs]) ?_
   refine ExA.ret ?_
   walk_at "s"
   refine q _ _ ?_
   rw [get1]
   rw [← hj];rfl
  ·have hne:(!(pairs h).isEmpty)=true:=by cases h with | nil=>exact absurd rfl h0 | cons x y=>rfl
   refine ifP hne ?_
   have hpos:0<h.length:=List.length_pos_iff.mpr h0
   refine ExA.assignT (EvA.callD H (g_heappop _) (f_heappop _) (by kernel_rfl) ?_)
   walk_at "s"
   refine pop_w H (n:=n) (get0 _ _ _) (by omega) h0 ?_
   rw [set0]
   have hjg:joinGo h.length h j=if (popL h).2≠[]∧((popL h).2.getD 0 (0,0)).1≤(popL h).1.2+1 then joinGo (h.length-1) (repL (popL h).2 ((popL h).1.1,if ((popL h).2.getD 0 (0,0)).2>(popL h).1.2 then ((popL h).2.getD 0 (0,0)).2 else (popL h).1.2)) j else joinGo (h.length-1) (popL h).2 (j++[(popL h).1]):=by
    obtain ⟨m,hm⟩:∃ m,h.length=m+1:=⟨h.length-1,by exact (Nat.sub_eq_iff_eq_add hpos).mp rfl⟩
    rw [hm,joinGoS,if_neg h0];rfl
   rw [hjg] at hj
   have hpl:=popL_length h
   generalize (popL h).2=h' at hj hpl ⊢
   generalize (popL h).1=p at hj ⊢
   refine StT.tup2 (by walk_at "u") (by walk_at "u") (by kernel_rfl) (by kernel_rfl) ?_
   refine ExA.ite (TsA.and (TsT.andCons (TsA.cmp ?_)))
   walk_at "s"
   refine EvA.list ?_
   walk_at "s"
   refine ⟨Nat.zero_le _,?_⟩
   rw [List.append_assoc,List.cons_append,List.cons_append]
   refine OpT.neL (get0 _ _ _) (by rw [← List.cons_append,← List.cons_append,← List.append_assoc,List.getElem?_append_right (Nat.le_refl _),Nat.sub_self];rfl) (cm_pairs _) (fun a h=>by cases h) (TrT.bool ?_)
   rw [eqLs_nil]
   have app:∀ (r:Store),¬ (h'≠[]∧(h'.getD 0 (0,0)).1≤p.2+1)→ExA w (B.into (callEnv (fdOf 28 (Str.ofString "_law_joined") 176 (Value.str (Str.ofString "law_in0058_01") 670)) L 177)) (n+3) (callEnv (fdOf 28 (Str.ofString "_law_joined") 176 (Value.str (Str.ofString "law_in0058_01") 670)) L 177)
     (stE (stAt (stB (stAt (fnB 28) 3)) 1)) [("ranges",.lst k),("heap",.lst S.length),("pair",a),("joined",.lst (S.length+1)),("low",.int p.1),("high",.int p.2)] (S++pairs h'::pairs j::r)
     (kJI S k l h.length):=by
    intro r hc
    rw [if_neg hc] at hj
    refine ExA.expr (EvA.meth (T:="list") (id:="list.append") ?_ F.plainAttrs_list slot_list_append type_list_append)
    walk_at "s"
    refine ⟨rfl,ArT.cons (EvA.tuple ?_)⟩
    walk_at "s"
    refine ⟨[.int p.1,.int p.2],rfl,by show 2≤fewItems;decide,?_⟩
    walk_at "s"
    refine OpT.append (get1 _ _ _ _) (by rw [pairs_len];unfold fewItems;omega) ?_
    rw [set1]
    exact ExA.nil ⟨h'.length,by omega,h',j++[p],_,_,_,r,rfl,rfl,by rw [← pairs_snoc],by simp;omega,by rw [hpl];exact hj⟩
   by_cases h'0:h'=[]
   ·have he:(!(pairs h').isEmpty)=false:=by rw [h'0];rfl
    refine ifN (by rw [he];decide) ?_
    refine ifN (by rw [he];decide) ?_
    refine ExT.mono (app _ (fun hc=>hc.1 h'0)) fun af loc₁ S₁ q=>?_
    cases af <;> first | exact q.elim | exact ExA.nil q
   ·have he:(!(pairs h').isEmpty)=true:=by cases h' with | nil=>exact absurd rfl h'0 | cons x y=>rfl
    have hpos':0<h'.length:=List.length_pos_iff.mpr h'0
    refine ifP he ?_
    refine TsT.andCons (TsA.cmp (EvA.subT (EvA.subL ?_)))
    walk_at "s"
    refine ⟨⟨_,rfl⟩,OpT.getL (get0 _ _ _) (by exact Int.zero_le_ofNat 0) (x:=.pair (h'.getD 0 (0,0))) (by simpa using pairs_get hpos') (by rw [pairs_len];unfold fewItems;omega) ?_⟩
    walk_at "s"
    refine ⟨⟨_,rfl⟩,OpT.getT (c:=.int (h'.getD 0 (0,0)).1) (by exact Int.zero_le_ofNat 0) rfl (by show 2≤fewItems;decide) ?_⟩
    walk_at "s"
    by_cases hle:(h'.getD 0 (0,0)).1≤p.2+1
    ·refine ifP (by simpa using hle) ?_
     refine TsT.andNil ?_
     refine ifP rfl ?_
     rw [if_pos ⟨h'0,hle⟩] at hj
     refine ExA.expr (EvA.callD H (g_heapreplace _) (f_heapreplace _) (by kernel_rfl) ?_)
     walk_at "s"
     refine EvA.tuple ?_
     walk_at "s"
     refine (EvA.callB H (n_max _) (b_max _) (by kernel_rfl) ?_)
     walk_at "s"
     refine (EvA.subT (EvA.subL ?_))
     walk_at "s"
     refine ⟨⟨_,rfl⟩,OpT.getL (get0 _ _ _) (by exact Int.zero_le_ofNat 0) (x:=.pair (h'.getD 0 (0,0))) (by simpa using pairs_get hpos') (by rw [pairs_len];unfold fewItems;omega) ?_⟩
     walk_at "s"
     refine ⟨⟨_,rfl⟩,OpT.getT (c:=.int (h'.getD 0 (0,0)).2) (by exact Int.one_nonneg) rfl (by show 2≤fewItems;decide) ?_⟩
     walk_at "s"
     refine OpT.maxI ?_
     walk_at "s"
     refine ⟨[.int p.1,.int (if (h'.getD 0 (0,0)).2>p.2 then (h'.getD 0 (0,0)).2 else p.2)],rfl,by show 2≤fewItems;decide,?_⟩
     walk_at "s"
     refine rep_w H (n:=n) (x:=(p.1,if (h'.getD 0 (0,0)).2>p.2 then (h'.getD 0 (0,0)).2 else p.2)) (get0 _ _ _) (by omega) hpos' fun _=>?_
     rw [set0]
     refine ExA.nil (ExA.nil ⟨h'.length,by omega,_,j,_,_,_,_,(repL_length _ _).symm,rfl,rfl,by rw [repL_length];omega,?_⟩)
     rw [repL_length,hpl];exact hj
    ·refine ifN (by simpa using hle) ?_
     refine ifN (by simpa using hle) ?_
     refine ExT.mono (app _ (fun hc=>hle hc.2)) fun af loc₁ S₁ q=>?_
     cases af <;> first | exact q.elim | exact ExA.nil q
theorem TrT.int {i:Int} {Q:Bool→Store→Prop} (q:Q (i != 0) S):TrT w B n (.int i) S Q:=.mk fun A σ s E v ha W r=>by
 obtain ⟨t,rfl⟩:=r
 exact truthy_int (.now W q)
theorem TrT.str {x:Str} {Q:Bool→Store→Prop} (hl:x.length≤fewItems) (q:Q (x.length != 0) S):TrT w B n (.str x) S Q:=.mk fun A σ s E v ha W r=>by
 obtain ⟨t,rfl⟩:=r
 refine P.truthy_str (by unfold fewItems at hl;omega) ?_
 have:((x.length:Int) != 0)=(x.length != 0):=by rw [Bool.eq_iff_iff];simp
 rw [this]
 exact .now W q
theorem EvA.chain {l r₁ r₂:Expr} {o₁ o₂:CmpOp} {pos:Pos}
  (h:EvA w B n env l loc S fun a S₁=>EvA w B n env r₁ loc S₁ fun b S₂=>OpT w B n (opC o₁) [a,b] S₂ fun c S₃=>TrT w B n c S₃ fun t S₄=>if t=true then EvA w B n env r₂ loc S₄ fun d S₅=>OpT w B n (opC o₂) [b,d] S₅ Q else Q c S₄)
  (hm:lastMarks [o₁,o₂] [r₁,r₂]=false:=by with_unfolding_all rfl):EvA w B n env (.Compare l [o₁,o₂] [r₁,r₂] pos) loc S Q:=.mk fun A σ s E ha W F=>by
 refine Compare_chain (h.bind ha W F fun a s₁ τ av S₁ W₁ f₁ x₁ r₁ h₁=>?_) hm
 refine chain_link (h₁.bind ha W₁ (F.mono W τ x₁) fun b s₂ τ₂ bv S₂ W₂ f₂ x₂ r₂ h₂=>?_)
 have F₂:=(F.mono W τ x₁).mono W₁ τ₂ x₂
 refine h₂.bind [a,b] ha W₂ ⟨r₁.mono W₁ x₂,r₂,trivial⟩ fun c s₃ τ₃ cv S₃ W₃ f₃ x₃ r₃ h₃=>?_
 have F₃:=F₂.mono W₂ τ₃ x₃
 refine h₃.bind c ha W₃ r₃ fun t s₄ τ₄ S₄ W₄ f₄ x₄ h₄=>?_
 cases t with
 | false =>
  have p:Pst B _ s₃ Q c s₄:=⟨τ₄,cv,S₄,W₄,f₄,x₄,r₃.mono W₃ x₄,h₄⟩
  exact ((p.back W₂ W₃ x₃ f₃).back W₁ W₂ x₂ f₂).back W W₁ x₁ f₁
 | true =>
  refine chain_last (h₄.bind ha W₄ (F₃.mono W₃ τ₄ x₄) fun d s₅ τ₅ dv S₅ W₅ f₅ x₅ r₅ h₅=>?_)
  have rb:=((r₂.mono (τ:=τ₃) W₂ x₃).mono (τ:=τ₄) W₃ x₄).mono (τ:=τ₅) W₄ x₅
  exact wpAny_mono (h₅.run A _ s₅ E [b,d] ha W₅ ⟨rb,r₅,trivial⟩) (fun e s₆ p=>((((p.back W₄ W₅ x₅ f₅).back W₃ W₄ x₄ f₄).back W₂ W₃ x₃ f₃).back W₁ W₂ x₂ f₂).back W W₁ x₁ f₁) fun _ _ e=>e
theorem TsA.chain {l r₁ r₂:Expr} {o₁ o₂:CmpOp} {pos:Pos} {Q:Bool→Store→Prop}
  (h:EvA w B n env l loc S fun a S₁=>EvA w B n env r₁ loc S₁ fun b S₂=>OpT w B n (opC o₁) [a,b] S₂ fun c S₃=>TrT w B n c S₃ fun t S₄=>if t=true then EvA w B n env r₂ loc S₄ fun d S₅=>OpT w B n (opC o₂) [b,d] S₅ fun e S₆=>TrT w B n e S₆ Q else Q false S₄)
  (hm:lastMarks [o₁,o₂] [r₁,r₂]=false:=by with_unfolding_all rfl):TsA w B n env (.Compare l [o₁,o₂] [r₁,r₂] pos) loc S Q:=.mk fun A σ s E ha W F=>by
 refine isTrue_chain (h.bind ha W F fun a s₁ τ av S₁ W₁ f₁ x₁ r₁ h₁=>?_) hm
 refine test_link (h₁.bind ha W₁ (F.mono W τ x₁) fun b s₂ τ₂ bv S₂ W₂ f₂ x₂ r₂ h₂=>?_)
 have F₂:=(F.mono W τ x₁).mono W₁ τ₂ x₂
 refine h₂.bind [a,b] ha W₂ ⟨r₁.mono W₁ x₂,r₂,trivial⟩ fun c s₃ τ₃ cv S₃ W₃ f₃ x₃ r₃ h₃=>?_
 have F₃:=F₂.mono W₂ τ₃ x₃
 refine h₃.bind c ha W₃ r₃ fun t s₄ τ₄ S₄ W₄ f₄ x₄ h₄=>?_
 cases t with
 | false =>
  have p:PstB B _ s₃ Q false s₄:=⟨τ₄,S₄,W₄,f₄,x₄,h₄⟩
  exact ((p.back W₂ W₃ x₃ f₃).back W₁ W₂ x₂ f₂).back W W₁ x₁ f₁
 | true =>
  refine test_last (h₄.bind ha W₄ (F₃.mono W₃ τ₄ x₄) fun d s₅ τ₅ dv S₅ W₅ f₅ x₅ r₅ h₅=>?_)
  have rb:=((r₂.mono (τ:=τ₃) W₂ x₃).mono (τ:=τ₄) W₃ x₄).mono (τ:=τ₅) W₄ x₅
  refine h₅.bind [b,d] ha W₅ ⟨rb,r₅,trivial⟩ fun e s₆ τ₆ ev S₆ W₆ f₆ x₆ r₆ h₆=>?_
  exact wpAny_mono (h₆.run A _ s₆ E e ha W₆ r₆) (fun e s₇ p=>(((((p.back W₅ W₆ x₆ f₆).back W₄ W₅ x₅ f₅).back W₃ W₄ x₄ f₄).back W₂ W₃ x₃ f₃).back W₁ W₂ x₂ f₂).back W W₁ x₁ f₁) fun _ _ e=>e
theorem EvA.or {e₁ e₂:Expr} {pos:Pos} (h:EvA w B n env e₁ loc S fun a S₁=>TrT w B n a S₁ fun t S₂=>if t=true then Q a S₂ else EvA w B n env e₂ loc S₂ Q):EvA w B n env (.BoolOp .Or [e₁,e₂] pos) loc S Q:=.mk fun A σ s E ha W F=>by
 refine BoolOp_or (h.bind ha W F fun a s₁ τ av S₁ W₁ f₁ x₁ r₁ h₁=>?_)
 refine h₁.bind a ha W₁ r₁ fun t s₂ τ₂ S₂ W₂ f₂ x₂ h₂=>?_
 cases t with
 | true =>
  have p:Pst B _ s₁ Q a s₂:=⟨τ₂,av,S₂,W₂,f₂,x₂,r₁.mono W₁ x₂,h₂⟩
  exact p.back W W₁ x₁ f₁
 | false=>exact BoolOp_one (wpAny_mono (h₂.run A _ s₂ E ha W₂ ((F.mono W τ x₁).mono W₁ τ₂ x₂)) (fun b s₃ p=>(p.back W₁ W₂ x₂ f₂).back W W₁ x₁ f₁) fun _ _ e=>e)
noncomputable def scalar (c:Int):Bool:=decide (0≤c∧c≤55295∨57344≤c∧c≤1114111)
theorem scalar_w (H:St w B) {c:Int} (q:Q (.bool (scalar c)) S):OpT w B (n+1) (callD 142) [.int c] S Q:=by
 refine OpT.def H (ps:=["codepoint"]) [] [("codepoint",.int c)] (f_is_unicode_scalar_value _) (c_is_unicode_scalar_value _) rfl (all1 fun _=>by kernel_rfl) (by decide +kernel) (by decide +kernel) (by decide +kernel) (fun L hL H=>?_)
 refine ExA.ret (EvA.or (EvA.chain ?_))
 walk_at "s"
 unfold scalar at q
 have second:∀ {ka kc:Nat} {pa pb pc pd:Pos} (hn:¬ (0≤c∧c≤55295)),EvA w (B.into (callEnv (fdOf 22 (Str.ofString "is_unicode_scalar_value") 141 (Value.str (Str.ofString "cpy313.tomllib._parser") 556)) L 142)) n (callEnv (fdOf 22 (Str.ofString "is_unicode_scalar_value") 141 (Value.str (Str.ofString "cpy313.tomllib._parser") 556)) L 142)
   (.Compare (.Constant (.int 57344) ka pa) [.LtE,.LtE] [.Name "codepoint" pb,.Constant (.int 1114111) kc pc] pd) [("codepoint",.int c)] S fun av S₁=>Q av S₁:=by
  intro ka kc pa pb pc pd hn
  refine EvA.chain ?_
  walk_at "s"
  by_cases h1:57344≤c
  ·refine ifP (by simpa using h1) ?_
   walk_at "s"
   rw [show decide (0≤c∧c≤55295∨57344≤c∧c≤1114111)=decide (c≤1114111) by rw [decide_eq_decide];omega] at q
   exact q
  ·refine ifN (by simpa using h1) ?_
   rw [show decide (0≤c∧c≤55295∨57344≤c∧c≤1114111)=decide (57344≤c) by rw [decide_eq_decide];omega] at q
   exact q
 by_cases h0:0≤c
 ·refine ifP (by simpa using h0) ?_
  walk_at "s"
  by_cases h1:c≤55295
  ·refine ifP (by simpa using h1) ?_
   rw [show decide (0≤c∧c≤55295∨57344≤c∧c≤1114111)=decide (c≤55295) by rw [decide_eq_decide];omega] at q
   exact q
  ·refine ifN (by simpa using h1) ?_
   exact second (by exact not_and.mpr fun a=>h1)
 ·refine ifN (by simpa using h0) ?_
  walk_at "s"
  refine ifN (by simpa using h0) ?_
  exact second (by exact not_and.mpr fun a a_1=>h0 a)
theorem sysm (P:Params):((Hp1 P).get? sysModules).isSome=true:=by kernel_rfl
theorem St.sysm (H:St w B) (W:Wd B σ S s) {d:Addr} (h:s.heap.get? d=none):(d==sysModules)=false:=by
 refine beq_eq_false_iff_ne.mpr ?_
 rintro rfl
 obtain ⟨o,ho⟩:=Option.isSome_iff_exists.mp (Mine.sysm w.params)
 rw [H.at W ho (by decide) (by decide)] at h
 cases h
theorem dval {a b:Int} (c d z k:Int) (hab:a≠b) (t1 t2 t3:Tok):∃ t,(valueAt (merged [] [(a,Value.int c t1),(b,Value.int d t2)]) k).getD (.int z t3)=.int (if k=a then c else if k=b then d else z) t:=by
 have e:merged [] [(a,Value.int c t1),(b,Value.int d t2)]=[(a,Value.int c t1),(b,Value.int d t2)]:=by
  simp [merged,stored,hab]
 rw [e]
 by_cases h1:k=a
 ·subst h1;exact ⟨t1,by simp [valueAt]⟩
 ·by_cases h2:k=b
  ·subst h2;exact ⟨t2,by simp [valueAt,hab,h1]⟩
  ·exact ⟨t3,by simp [valueAt,h1,h2,eq_comm]⟩
theorem EvA.dictGet (H:St w B) {a b c d z:Int} {k1 k2 k3 k4 k7:Nat} {p1 p2 p3 p4 p5 p6 p7 p8:Pos} {e:Expr} (hab:a≠b)
  (h:∀ A σ s E,AOk B n A→Wd B σ S s→Fm B σ env loc s.heap→wpAny (model pw w) A (eval e env) (fun v s₁=>(∃ k t,v=.int k t∧Q (.int (if k=a then c else if k=b then d else z)) S)∧s₁.heap=s.heap∧s₁.gens=s.gens∧s₁.os=s.os) E s)
  (hl:(p6.endLine==p8.line)=true:=by rfl) (he₀:starEach (e::[.Constant (.int z) k7 p7]) env=(false,eval e env)::starEach [.Constant (.int z) k7 p7] env:=by rfl) :
  EvA w B n env (.Call (.Attribute (.Dict [some (.Constant (.int a) k1 p1),some (.Constant (.int b) k2 p2)] [.Constant (.int c) k3 p3,.Constant (.int d) k4 p4] p5) "get" p6) [e,.Constant (.int z) k7 p7] [] p8) loc S Q:=.mk fun A σ s E ha W F=>by
 have he:starEach [e,.Constant (.int z) k7 p7] env=[(false,eval e env),(false,eval (.Constant (.int z) k7 p7) env)]:=by rw [he₀];rfl
 have hn:s.heap.get? s.heap.objs.size=none:=Heap.get?_none_of_le (Nat.le_refl _)
 refine wpAny_Call_method (T:="dict") (id:="dict.get") rfl (by rw [he];rfl) hl PySem.F.plainAttrs_dict PySem.F.slot_dict_get PySem.F.type_dict_get ?_
 refine wpAny_Dict_pairs (knd:=intKind pw w) (pairs:=[(eval (.Constant (.int a) k1 p1) env,do let x←eval (.Constant (.int c) k3 p3) env;standAt p5;pure x),(eval (.Constant (.int b) k2 p2) env,do let x←eval (.Constant (.int d) k4 p4) env;standAt p5;pure x)]) rfl (by simp) (by show 2≤15;decide) ?_
 refine evalPairs_cons (wpAny_Constant_int (wpAny_bind (wpAny_Constant_int (wpAny_bind (wpAny_standAt (wpAny_pure ?_))))))
 refine evalPairs_cons (wpAny_Constant_int (wpAny_bind (wpAny_Constant_int (wpAny_bind (wpAny_standAt (wpAny_pure (evalPairs_nil ?_)))))))
 refine ⟨[(a,_),(b,_)],⟨by simp [intKind,Value.isInt],rfl,by simp [intKind,Value.isInt],rfl,trivial⟩,Heap.DictOf.new _,fun h' hd hs=>?_⟩
 have hk:∀ x o,s.heap.get? x=some o→h'.get? x=some o:=fun x o q=>(hs.2 x (Nat.ne_of_lt (Heap.lt_size q))).trans (Heap.get?_push_of_some _ q)
 have X:Ext σ s.heap h':=Ext.of_keeps hk
 generalize hD:s.heap.objs.size=D at hn hd ⊢
 have hD':h'.get? D≠none:=by obtain ⟨o,es,ep,ho,_⟩:=hd;rw [ho];nofun
 refine ⟨hd.typeIs,fun x hx=>by cases hx;obtain ⟨o,es,ep,ho,hx,_⟩:=hd;exact ⟨o,ho,hx.2.1⟩,?_⟩
 rw [he]
 refine wpAny_dict_get2 (knd:=intKind pw w) (H.sysm W hn) ?_
 have F':Fm B σ env loc h':=by have:=F.mono W [] X;rwa [List.append_nil] at this
 refine wpAny_mono (h A σ { s with heap:=h',toks:=_ } E ha (W.keeps hk) F') (fun v s₁ p=>?_) fun _ _ e=>e
 refine let ZZ:Prop:=_;(?_:ZZ)
 obtain ⟨⟨k,t,rfl,q⟩,e1,e2,e3⟩:=p
 refine wpAny_Constant_int (k:=k7) (pos:=p7) ⟨k,valueAt (merged [] [(a,Value.int c (s.toks+1)),(b,Value.int d (s.toks+1+1+1))]),by simp [intKind,Value.isInt],?_,?_⟩
 ·show Heap.MapOf _ s₁.heap D _
  rw [e1]
  exact hd.mapOf
 ·obtain ⟨t',e'⟩:=dval c d z k hab (s.toks+1) (s.toks+1+1+1) s₁.toks
  show Pst B σ s Q _ _
  rw [e']
  have W':Wd B σ S { s with heap:=h' }:=W.keeps hk
  exact .now (W'.same e1 e2 e3) (by show Ext σ s.heap s₁.heap;rw [e1];exact X) (av:=.int _) ⟨_,rfl⟩ q
theorem quiet_divmod {x:Str} {i a b:Int} {k1 k2:Nat} {p1 p2 p3 p4 p5:Pos} (hx:(x,AV.int i)∈loc) (ha:a≠0) (hb:b≠0) (hp:Builtin.divisionGoesByPylong i a=false) (hd:(x==("__debug__":Str))=false:=by decide +kernel)
  {P:Int→Prop} (q:P ((i.fdiv a).fmod b)):∀ A σ s E,AOk B n A→Wd B σ S s→Fm B σ env loc s.heap→wpAny (model pw w) A (eval (.BinOp (.BinOp (.Name x p1) .FloorDiv (.Constant (.int a) k1 p2) p3) .Mod (.Constant (.int b) k2 p4) p5) env)
   (fun v s₁=>(∃ k t,v=.int k t∧P k)∧s₁.heap=s.heap∧s₁.gens=s.gens∧s₁.os=s.os) E s:=fun A σ s E hA W F=>by
 refine let ZZ:Prop:=_;(?_:ZZ)
 obtain ⟨⟨m,hn,hm⟩,ok⟩:=F
 rcases hm x _ hx with h | ⟨v,h,r⟩
 ·cases h
 obtain ⟨t,rfl⟩:=r
 refine wpAny_BinOp (wpAny_BinOp ?_)
 have fin:wpAny (model pw w) A (eval (.Constant (.int a) k1 p2) env) (fun b₁ s₁=>wpAny (model pw w) A (binaryOp .FloorDiv (.int i t) b₁) (fun c s₂=>wpAny (model pw w) A (eval (.Constant (.int b) k2 p4) env) (fun d s₃=>wpAny (model pw w) A (binaryOp .Mod c d)
   (fun v s₁=>(∃ k t,v=.int k t∧P k)∧s₁.heap=s.heap∧s₁.gens=s.gens∧s₁.os=s.os) E s₃) E s₂) E s₁) E s :=
  wpAny_Constant_int (floordiv_int ha (wpAny_Constant_int (mod_int' hb ⟨⟨_,_,rfl,q⟩,rfl,rfl,rfl⟩)) (.inl hp))
 rcases h with ⟨h1,h2⟩ | ⟨h1,c,h2,h3⟩
 ·exact wpAny_Name (wpAny_loadName_local ok.kind h1 hn h2 fin) hd
 ·exact wpAny_Name (wpAny_loadName_cell ok.kind h1 h2 h3 fin) hd
theorem OpT.getS {x:Str} {i:Int} {c:Nat} (hr:(decide (i < -(2 ^ 63:Int))||decide (i≥2 ^ 63))=false) (hc:(seqIndex? i x.length).bind (x.cps[·]?)=some c) (q:Q (.str ⟨#[c]⟩) S):OpT w B n (fun vs=>getItem (vs.getD 0 .none) (vs.getD 1 .none)) [.str x,.int i] S Q:=.mk fun A σ s E vs ha W r=>by
 obtain ⟨v,y,rfl,⟨t,rfl⟩,⟨u,rfl⟩⟩:=r.two
 exact P.getItem_str hr hc (Pst.sc W (c:=.str ⟨#[c]⟩) ⟨_,rfl⟩ q)
noncomputable abbrev isS (a:AV):Prop:=∃ x,a=.str x
theorem EvA.subS {value slice:Expr} {pos:Pos}
  (h:EvA w B n env value loc S (kG w B n env slice loc isS Q))
  (hsub:∀ o i,subscripted slice false o i=operate [o,i] (getItem o i):=by intro _ _;rfl) :
  EvA w B n env (.Subscript value slice pos) loc S Q :=
 EvA.sub (T:="str") (h.mono fun _ _ h=>h.mono fun _ _ h=>⟨.inl (by obtain ⟨⟨k,rfl⟩,_⟩:=h;rfl),h.2⟩) getS_str hsub
theorem OpT.ord {c:Nat} (q:Q (.int c) S):OpT w B n (Mine.callB "ord") [.str ⟨#[c]⟩] S Q:=.mk fun A σ s E vs ha W r=>by
 obtain ⟨v,rfl,⟨t,rfl⟩⟩:=r.one
 exact P.ord_of_char (Pst.sc W (c:=.int c) ⟨_,rfl⟩ q)
theorem OpT.chr {i:Int} (h0:0≤i) (h1:i≤1114111) (q:Q (.str ⟨#[i.toNat]⟩) S):OpT w B n (Mine.callB "chr") [.int i] S Q:=.mk fun A σ s E vs ha W r=>by
 obtain ⟨v,rfl,⟨t,rfl⟩⟩:=r.one
 exact chr_of_range h0 h1 (Pst.sc W (c:=.str _) ⟨_,rfl⟩ q)
open MeetsSeq in
theorem OpT.inI {i:Int} {l:List Int} (q:Q (.bool (l.any fun j=>j==i)) S):OpT w B n (opC .In) [.int i,.tup (l.map .int)] S Q:=.mk fun A σ s E vs ha W r=>by
 refine let ZZ:Prop:=_;(?_:ZZ)
 obtain ⟨v,y,rfl,⟨t,rfl⟩,⟨a,us,rfl,e,hr⟩⟩:=r.two
 have all:∀ (l:List Int) (us:List Value),All2 RSc (l.map .int) us→(∀ y∈us,∃ j u,y=.int j u)∧us.any (fun y=>match y with | .int j _=>j==i | _=>false)=l.any fun j=>j==i:=by
  intro l
  induction l with
  | nil =>
   intro us h
   cases us with
   | nil=>exact ⟨fun y hy=>absurd hy List.not_mem_nil,rfl⟩
   | cons u us=>exact h.elim
  | cons a l ih =>
   intro us h
   cases us with
   | nil=>exact h.elim
   | cons u us =>
    obtain ⟨⟨t,rfl⟩,h2⟩:=h
    obtain ⟨k1,k2⟩:=ih us h2
    exact ⟨fun y hy=>(List.mem_cons.mp hy).elim (fun e=>⟨a,t,e⟩) (k1 y),by rw [List.any_cons,List.any_cons,k2]⟩
 obtain ⟨k1,k2⟩:=all l us hr
 refine PySem.SeqRoads2.in_tuple (fun y=>match y with | .int j _=>j==i | _=>false) (fun y hy=>?_) e ?_
 ·obtain ⟨j,u,rfl⟩:=k1 y (by simpa using hy)
  exact EqGives.int j i u t
 ·rw [show us.toArray.any (fun y=>match y with | .int j _=>j==i | _=>false)=us.any (fun y=>match y with | .int j _=>j==i | _=>false) from List.any_toArray,k2]
  exact Pst.sc W (c:=.bool _) rfl q
noncomputable abbrev kAu (w:World) (B:Bs) (n:Nat) (f:List Value→Sem Value) (old:AV) (Q:AV→Store→Prop) (b:AV) (S:Store):Prop:=OpT w B n f [old,b] S Q
theorem ExA.aug {x:Str} {p' pos:Pos} {op:Operator} {value:Expr} {old:AV} {f:AV→Loc} (hx:(x,old)∈loc) (hb:old.bd=true) (hu:UpdF loc x f)
  (h:EvA w B n env value loc S (kAu w B n (opI op) old (kU w B n env rest f K))) (hk:env.kindOf x=some .local:=by kernel_rfl):ExA w B n env (.AugAssign (.Name x p') op value pos::rest) loc S K :=
 ExA.cons <| .mk fun A σ s E ha W F=>by
  refine let ZZ:Prop:=_;(?_:ZZ)
  obtain ⟨⟨m,hn,hm⟩,ok⟩:=id F
  rcases hm x old hx with h0 | ⟨v,hv,r⟩
  ·subst h0;cases hb
  have h1:m x=some v:=by
   rcases hv with hv | ⟨hv,_⟩
   ·exact hv.2
   ·rw [hk] at hv;cases hv
  refine wpAny_AugAssign_Name (wpAny_loadName_local ok.kind hk hn h1 (h.bind ha W F fun b s₁ τ bv S₁ W₁ f₁ x₁ r₁ h₁=>?_))
  have F₁:=F.mono W τ x₁
  refine h₁.bind [v,b] ha W₁ ⟨r.mono W x₁,r₁,trivial⟩ fun c s₂ τ₂ cv S₂ W₂ f₂ x₂ r₂ h₂=>?_
  have F₂:=F₁.mono W₁ τ₂ x₂
  refine wpAny_mono ((StT.store hu hk (Q:=fun loc' S'=>ExA w B n env rest loc' S' K) h₂).run A _ s₂ E c ha W₂ F₂ r₂) (fun _ s₃ p=>?_) fun _ _ e=>e
  have p:=(p.back F₁.live W₂ F₂ x₂.toF f₂).back F.live W₁ F₁ x₁.toF f₁
  refine let ZZ:Prop:=_;(?_:ZZ)
  obtain ⟨τ',af,loc',S',a,b,c,d,e,g⟩:=p
  cases af with
  | next=>exact ⟨τ',.next,loc',S',a,b,c,d,e,g⟩
  | brk=>exact absurd e nofun
  | cont=>exact absurd e nofun
  | ret av=>obtain ⟨v,e,_⟩:=e;cases e
theorem fmodN (a b:Nat):Int.fmod (a:Int) (b:Int)=((a%b:Nat):Int):=by rw [Int.fmod_eq_emod_of_nonneg _ (Int.natCast_nonneg _)];rfl
theorem fdivN (a b:Nat):Int.fdiv (a:Int) (b:Int)=((a/b:Nat):Int):=by rw [Int.fdiv_eq_ediv_of_nonneg _ (Int.natCast_nonneg _)];rfl
noncomputable def lowT:List Nat:=[35,38,41,48,56,58,65,77,90,91,92,94,95,96,97,122,123,124,125,126]
noncomputable def lowOf (x:Nat):Nat:=lowT.getD (x%20) 0
noncomputable def hi0 (x:Nat):Int:=(lowOf x:Int)+((x/20%8:Nat):Int)-1
noncomputable def hi1 (x:Nat):Int:=if [33,45,93].any (fun j=>j==hi0 x) then hi0 x+1 else hi0 x
noncomputable def kindN (x:Nat):Nat:=x/160%8
noncomputable def liftOf (x:Nat):Int:=if (kindN x:Int)=4 then 55232 else if (kindN x:Int)=5 then 57279 else 0
noncomputable def ends (x:Nat):Int×Int:=((lowOf x:Int)+liftOf x,hi1 x+liftOf x)
theorem low_get (x:Nat):(seqIndex? ((x%20:Nat):Int) (Str.ofString "#&)08:AMZ[\\^_`az{|}~").length).bind ((Str.ofString "#&)08:AMZ[\\^_`az{|}~").cps[·]?)=some (lowOf x):=by
 unfold lowOf
 have h:x%20<20:=Nat.mod_lt _ (by decide)
 generalize x%20=r at h ⊢
 have:∀ r:Fin 20,(seqIndex? ((r.val:Nat):Int) (Str.ofString "#&)08:AMZ[\\^_`az{|}~").length).bind ((Str.ofString "#&)08:AMZ[\\^_`az{|}~").cps[·]?)=some (lowT.getD r.val 0):=by decide +kernel
 exact this ⟨r,h⟩
theorem ends_w (H:St w B) {x:Nat} (hx:x<1000000) (q:Q (.pair (ends x)) S):OpT w B (n+1) (callD 149) [.int x] S Q:=by
 refine OpT.def H (ps:=["x"]) ["low","high","lift"] [("x",.int x),("low",.unb),("high",.unb),("lift",.unb)] (f_law_ends _) (c_law_ends _) rfl (all1 fun _=>by kernel_rfl) (by decide +kernel) (by decide +kernel) (by decide +kernel) (fun L hL H=>?_)
 refine ExA.assign (by walk_at "u") (EvA.callB H (n_ord _) (b_ord _) (by kernel_rfl) ?_)
 walk_at "s"
 refine EvA.subS ?_
 walk_at "s"
 refine OpT.modI (by decide) ?_
 refine ⟨⟨_,rfl⟩,?_⟩
 rw [show Int.fmod (x:Int) 20=((x%20:Nat):Int) from fmodN x 20]
 have h20:x%20<20:=Nat.mod_lt _ (by decide)
 refine OpT.getS (c:=lowOf x) (by rw [Bool.or_eq_false_iff];constructor <;> (rw [decide_eq_false_iff_not];lia)) (low_get x) ?_
 walk_at "s"
 refine OpT.ord ?_
 refine ExA.assign (by walk_at "u") ?_
 walk_at "s"
 refine OpT.divI (by decide) (PyProof.noPylong_small (by decide)) ?_
 walk_at "s"
 refine OpT.modI (by decide) ?_
 rw [show Int.fmod (Int.fdiv (x:Int) 20) 8=((x/20%8:Nat):Int) by rw [show Int.fdiv (x:Int) 20=((x/20:Nat):Int) from fdivN x 20];exact fmodN (x/20) 8]
 walk_at "s"
 rw [show (lowOf x:Int)+((x/20%8:Nat):Int)-1=hi0 x from rfl]
 let J:Loc→Store→Prop:=fun loc₂ S₂=>loc₂=([("x",.int x),("low",.int (lowOf x)),("high",.int (hi1 x)),("lift",.unb)]:Loc)∧S₂=S
 refine ExA.seq J ?_ ?_
 ·refine ExS.ite (TsA.cmp ?_)
  walk_at "s"
  refine EvA.tuple ?_
  walk_at "s"
  refine ⟨[.int 33,.int 45,.int 93],rfl,by decide,?_⟩
  refine OpT.inI (l:=[33,45,93]) (TrT.bool ?_)
  by_cases hc:[33,45,93].any (fun j=>j==hi0 x)=true
  ·refine ifP hc ?_
   refine ExA.aug (by walk_at "e") rfl (by walk_at "u") ?_
   walk_at "s"
   refine OpT.iaddI (ExA.nil ⟨by unfold hi1;rw [if_pos hc],rfl⟩)
  ·exact ifN hc (ExA.nil ⟨by unfold hi1;rw [if_neg hc],rfl⟩)
 ·rintro loc₂ S₂ ⟨rfl,rfl⟩
  refine ExA.assign (by walk_at "u") ?_
  refine EvA.dictGet H (by decide) (quiet_divmod (by walk_at "e") (by decide) (by decide) (PyProof.noPylong_small (by decide)) (by decide +kernel) ?_)
  rw [show Int.fmod (Int.fdiv (x:Int) 160) 8=((x/160%8:Nat):Int) by rw [show Int.fdiv (x:Int) 160=((x/160:Nat):Int) from fdivN x 160];exact fmodN (x/160) 8]
  refine ExA.ret (EvA.tuple ?_)
  walk_at "s"
  exact ⟨[.int ((lowOf x:Int)+liftOf x),.int (hi1 x+liftOf x)],rfl,by show 2≤fewItems;decide,q⟩
noncomputable def rngO (a b c:Int) (t u v:Tok):Obj:={ cls:=.type "range",dict:=none,data:=.fields #[.int a t,.int b u,.int c v],slots:=#[] }
theorem OpT.range1 {N:Int} (q:∀ t u v,Q (.obj (rngO 0 N 1 t u v)) S):OpT w B n (Mine.callT "range") [.int N] S Q:=.mk fun A σ s E vs ha W r=>by
 obtain ⟨v,rfl,⟨t,rfl⟩⟩:=r.one
 refine call_range_1 ?_
 exact .now (W.push (rngO 0 N 1 s.toks t (s.toks+1))) (Ext.push _ _) (av:=.obj (rngO 0 N 1 s.toks t (s.toks+1))) ⟨_,rfl,Heap.get?_push_size _ rfl,rfl,FnOk.fields rfl⟩ (q _ _ _)
theorem OpT.range3 {a b c:Int} (hc:c≠0) (hp:Builtin.divisionGoesByPylong (b-a) c=false) (q:∀ t u v,Q (.obj (rngO a b c t u v)) S):OpT w B n (Mine.callT "range") [.int a,.int b,.int c] S Q:=.mk fun A σ s E vs ha W r=>by
 obtain ⟨v,v2,v3,rfl,⟨t,rfl⟩,⟨u,rfl⟩,⟨z,rfl⟩⟩:=r.three
 refine call_range_3 hc ?_ (.inl hp)
 exact .now (W.push (rngO a b c t u z)) (Ext.push _ _) (av:=.obj (rngO a b c t u z)) ⟨_,rfl,Heap.get?_push_size _ rfl,rfl,FnOk.fields rfl⟩ (q _ _ _)
theorem ExS.forR {x:Str} {p pos:Pos} {iter:Expr} {body:List Stmt} {Q:AF→Loc→Store→Prop} (a b c:Int) (N:Nat) (I:Nat→Loc→Store→Prop) (hN:Builtin.Range.rangeSize a b c=(N:Int)) (hsm:Builtin.Range.small a b c=true)
  (h:EvA w B n env iter loc S fun av S₁=>(∃ t u v,av=.obj (rngO a b c t u v))∧I 0 loc S₁)
  (turn:∀ i loc S,i<N→I i loc S→StT w B n env (PySem.assign (.Name x p) env) (.int (a+i*c)) loc S (kRe w B n env body (kFo (I (i+1)) Q)))
  (done:∀ loc S,I N loc S→Q .next loc S)
  (hs:∀ x,foldedSetIterable iter env x=pure x:=by intro _;rfl):ExS w B n env (.For (.Name x p) iter body [] pos) loc S Q:=.mk fun A σ s E ha W F=>by
 refine wpAny_For (h.bind ha W F fun v s₁ τ av S₁ W₁ f₁ x₁ r₁ p=>?_) hs
 obtain ⟨⟨t,u,v',rfl⟩,hI⟩:=p
 have F₁:=F.mono W τ x₁
 obtain ⟨ra,rfl,hr,_⟩:=r₁
 have X:=Ext.push (σ:=σ++τ) s₁.heap { cls:=.type "range_iterator",data:=.fields #[rawInt a,rawInt N,rawInt c] }
 refine wpAny_pyIter_range hr hsm ?_
 rw [hN]
 refine forG N (fun i=>.int (a+i*c)) I (fun i h=>IsRangeIter h s₁.heap.objs.size (a+i*c) (N-i) c) ha W₁ F₁ (Heap.get?_none_of_le (Nat.le_refl _)) (W₁.push _) X (by have:=F₁.mono W₁ [] X;rwa [List.append_nil] at this) ?_ hI
  (fun i h ho=>⟨_,_,_,ho,rfl,rfl,rfl,fun h' e=>e⟩) (fun i τ loc S s E Φ hlt W hI hT q=>wpAny_pyNext_range_item hT (by lia) fun h' hT' hs=>q _ h' _ ?_ hs.extBut ⟨_,rfl⟩) (fun τ loc S s E Φ W hI hT q=>wpAny_pyNext_range_end ha.handled hT (by lia) q) turn done fun f s' p=>p.back F.live W₁ F₁ x₁.toF f₁
 ·have e0:a+((0:Nat):Int)*c=a:=by rw [Int.natCast_zero,Int.zero_mul,Int.add_zero]
  rw [e0,show ((N:Int)-((0:Nat):Int))=N from Int.sub_zero _];exact Heap.get?_push_size _ rfl
 ·have e0:a+(i:Int)*c+c=a+((i+1:Nat):Int)*c:=by rw [Int.natCast_add,Int.add_mul,Int.natCast_one,Int.one_mul,Int.add_assoc]
  rw [← e0,show (N:Int)-((i+1:Nat):Int)=N-i-1 by lia];exact hT'
end
section
variable {w:World} {B:Bs} {n:Nat} {env:Env} {loc:Loc} {S:Store} {σ:List Addr} {s:Shared} {A:Around} {Q:AV→Store→Prop} {K:AF→Loc→Store→Prop} {rest:List Stmt}
section
open Builtin Builtin.Str
noncomputable def pfX (ty:Nat):Percent:={ zero:=true,width:=some 4,type:=ty }
noncomputable def digX (ty:Nat) (v:Int):List Nat:=percentInt (pfX ty) (decide (v<0)) ((Nat.toDigits 16 v.natAbs).map Char.toNat)
noncomputable def hxL (ty:Nat) (v:Int):List Nat:=(percentField (pfX ty) true (digX ty v)).getD (digX ty v)
noncomputable def hxS (ty:Nat) (v:Int):PySem.Str:=⟨(hxL ty v).toArray⟩
theorem field_once {β:Type} {M:Model} {A:Around} {E:Value→Shared→Prop} {s:Shared} {o:Option (List Nat)} {f:List Nat→Sem β} {g:Sem β} {Q:β→Shared→Prop} {R:Prop} (r:R) (h0:o=none→R→wpAny M A g Q E s) (h1:∀ l,o=some l→R→wpAny M A (f l) Q E s) :
  wpAny M A (match o with | none=>g | some l=>f l) Q E s:=by
 cases o with
 | none=>exact h0 rfl r
 | some l=>exact h1 l rfl r
theorem mod_hexL (x y:Int) (t1 t2 t:Tok) (b:Addr) (hx:(hxL 120 x).length≤8) (hy:(hxL 120 y).length≤8):Meets («str.__mod__» ⟨[.str ⟨#[37,48,52,120,37,48,52,120]⟩ t,.ref b],[]⟩)
  (fun _ R s=>IsTup s.heap b #[.int x t1,.int y t2]∧∀ t' k,R (.ok (.ret (.str (hxS 120 x++hxS 120 y) t'))) { s with toks:=k }):=by
 apply KPt.meets_tup
 intro _ _ _ _ _ _ kptH fin
 obtain ⟨kptO,kptG,kptC,kptN,kptD⟩:=kptH
 rw [KPt.entry_is_r]
 unfold Builtin.Str.percentFormat
 refine wpAny_bind (wpAny_isInstance (T:="tuple") ⟨kptO,kptG,kptC⟩ KPt.sub_tt ?_)
 refine wpAny_bind (KPt.asStr_ref kptG kptD ?_)
 refine wpAny_bind (KPt.fills_ref ⟨kptO,kptG,kptC⟩ ?_)
 intro _
 refine wpAny_bind (wpAny_seqItems kptG kptD ?_)
 refine wpAny_bind (wpAny_pure ?_)
 refine wpAny_bind ?_
 rw [KPc.range_list]
 refine KPc.start ?_
 intro w0 g0
 refine KPc.turn ?_
 kpc_check
 refine wpAny_bind ?_;refine wpAny_holding ?_
 refine wpAny_bind (wpAny_of_eq (a:=_) rfl ?_)
 refine wpAny_bind (wpAny_pure ?_)
 refine wpAny_pure ?_
 have nx:percentField (pfX 120) true (digX 120 x)=none→(⟨(digX 120 x).toArray⟩:PySem.Str)=hxS 120 x:=fun e=>by unfold hxS hxL;rw [e];rfl
 have sx:∀ l,percentField (pfX 120) true (digX 120 x)=some l→(⟨l.toArray⟩:PySem.Str)=hxS 120 x:=fun l e=>by unfold hxS hxL;rw [e];rfl
 have ny:percentField (pfX 120) true (digX 120 y)=none→(⟨(digX 120 y).toArray⟩:PySem.Str)=hxS 120 y:=fun e=>by unfold hxS hxL;rw [e];rfl
 have sy:∀ l,percentField (pfX 120) true (digX 120 y)=some l→(⟨l.toArray⟩:PySem.Str)=hxS 120 y:=fun l e=>by unfold hxS hxL;rw [e];rfl
 have lx:(hxS 120 x).length≤8:=by show (hxL 120 x).toArray.size≤8;simpa using hx
 have ly:(hxS 120 y).length≤8:=by show (hxL 120 y).toArray.size≤8;simpa using hy
 apply field_once (o:=percentField (pfX 120) true (digX 120 x))
 rotate_left
 ·intro heq key;exact wpAny_pure (KPc.after_add0 g0 (nx heq) (by kpc_obj) key)
 ·intro laid heq key;exact wpAny_pure (KPc.after_add0 g0 (sx _ heq) (by kpc_obj) key)
 intro w1 g1
 refine KPc.turn ?_
 refine wpAny_ite (KPc.ite_no (KPc.short_good g1 (by lia)) ?_)
 refine wpAny_bind ?_;refine wpAny_holding ?_
 refine wpAny_bind (wpAny_of_eq (a:=_) rfl ?_)
 refine wpAny_bind (wpAny_pure ?_)
 refine wpAny_pure ?_
 apply field_once (o:=percentField (pfX 120) true (digX 120 y))
 rotate_left
 ·intro heq key;exact wpAny_pure (KPc.after_add g1 (ny heq) (by kpc_obj) key)
 ·intro laid heq key;exact wpAny_pure (KPc.after_add g1 (sy _ heq) (by kpc_obj) key)
 intro w2 g2
 refine KPc.turn ?_
 refine wpAny_ite (KPc.ite_no (KPc.short_good g2 (by lia)) ?_)
 refine wpAny_pure ?_
 kpc_if
 exact KPc.finish_ok g2 (by lia) rfl fin
theorem mod_hexU (x y:Int) (t1 t2 t:Tok) (b:Addr) (hx:(hxL 88 x).length≤8) (hy:(hxL 88 y).length≤8):Meets («str.__mod__» ⟨[.str ⟨#[37,48,52,88,37,48,52,88]⟩ t,.ref b],[]⟩)
  (fun _ R s=>IsTup s.heap b #[.int x t1,.int y t2]∧∀ t' k,R (.ok (.ret (.str (hxS 88 x++hxS 88 y) t'))) { s with toks:=k }):=by
 apply KPt.meets_tup
 intro _ _ _ _ _ _ kptH fin
 obtain ⟨kptO,kptG,kptC,kptN,kptD⟩:=kptH
 rw [KPt.entry_is_r]
 unfold Builtin.Str.percentFormat
 refine wpAny_bind (wpAny_isInstance (T:="tuple") ⟨kptO,kptG,kptC⟩ KPt.sub_tt ?_)
 refine wpAny_bind (KPt.asStr_ref kptG kptD ?_)
 refine wpAny_bind (KPt.fills_ref ⟨kptO,kptG,kptC⟩ ?_)
 intro _
 refine wpAny_bind (wpAny_seqItems kptG kptD ?_)
 refine wpAny_bind (wpAny_pure ?_)
 refine wpAny_bind ?_
 rw [KPc.range_list]
 refine KPc.start ?_
 intro w0 g0
 refine KPc.turn ?_
 kpc_check
 refine wpAny_bind ?_;refine wpAny_holding ?_
 refine wpAny_bind (wpAny_of_eq (a:=_) rfl ?_)
 refine wpAny_bind (wpAny_pure ?_)
 refine wpAny_pure ?_
 have nx:percentField (pfX 88) true (digX 88 x)=none→(⟨(digX 88 x).toArray⟩:PySem.Str)=hxS 88 x:=fun e=>by unfold hxS hxL;rw [e];rfl
 have sx:∀ l,percentField (pfX 88) true (digX 88 x)=some l→(⟨l.toArray⟩:PySem.Str)=hxS 88 x:=fun l e=>by unfold hxS hxL;rw [e];rfl
 have ny:percentField (pfX 88) true (digX 88 y)=none→(⟨(digX 88 y).toArray⟩:PySem.Str)=hxS 88 y:=fun e=>by unfold hxS hxL;rw [e];rfl
 have sy:∀ l,percentField (pfX 88) true (digX 88 y)=some l→(⟨l.toArray⟩:PySem.Str)=hxS 88 y:=fun l e=>by unfold hxS hxL;rw [e];rfl
 have lx:(hxS 88 x).length≤8:=by show (hxL 88 x).toArray.size≤8;simpa using hx
 have ly:(hxS 88 y).length≤8:=by show (hxL 88 y).toArray.size≤8;simpa using hy
 apply field_once (o:=percentField (pfX 88) true (digX 88 x))
 rotate_left
 ·intro heq key;exact wpAny_pure (KPc.after_add0 g0 (nx heq) (by kpc_obj) key)
 ·intro laid heq key;exact wpAny_pure (KPc.after_add0 g0 (sx _ heq) (by kpc_obj) key)
 intro w1 g1
 refine KPc.turn ?_
 refine wpAny_ite (KPc.ite_no (KPc.short_good g1 (by lia)) ?_)
 refine wpAny_bind ?_;refine wpAny_holding ?_
 refine wpAny_bind (wpAny_of_eq (a:=_) rfl ?_)
 refine wpAny_bind (wpAny_pure ?_)
 refine wpAny_pure ?_
 apply field_once (o:=percentField (pfX 88) true (digX 88 y))
 rotate_left
 ·intro heq key;exact wpAny_pure (KPc.after_add g1 (ny heq) (by kpc_obj) key)
 ·intro laid heq key;exact wpAny_pure (KPc.after_add g1 (sy _ heq) (by kpc_obj) key)
 intro w2 g2
 refine KPc.turn ?_
 refine wpAny_ite (KPc.ite_no (KPc.short_good g2 (by lia)) ?_)
 refine wpAny_pure ?_
 kpc_if
 exact KPc.finish_ok g2 (by lia) rfl fin
end
theorem fmtL_is:Str.ofString "%04x%04x"=⟨#[37,48,52,120,37,48,52,120]⟩:=by decide +kernel
theorem fmtU_is:Str.ofString "%04X%04X"=⟨#[37,48,52,88,37,48,52,88]⟩:=by decide +kernel
theorem OpT.modL {x y:Int} (hx:(hxL 120 x).length≤8) (hy:(hxL 120 y).length≤8) (q:Q (.str (hxS 120 x++hxS 120 y)) S):OpT w B n (opB .Mod) [.str (Str.ofString "%04x%04x"),.tup [.int x,.int y]] S Q:=.mk fun A σ s E vs ha W r=>by
 obtain ⟨v1,v2,rfl,⟨t,rfl⟩,r2⟩:=r.two
 obtain ⟨b,t1,t2,rfl,e⟩:=RV.pair (p:=(x,y)) r2
 refine KPt.bin_left (T:="str") (U:="tuple") (op:=.Mod) (by decide) (typeIs_str s _ t) ⟨_,e,rfl⟩ F.fills_str_mod KPt.fills_tuple F.slot_str_mod
  (call_meets F.slot_str_mod (typeIs_str s _ t) F.entry_str_mod (F.args_str_mod_2 _ _) (mod_hexL x y t1 t2 t b hx hy) ⟨⟨_,e,rfl,0,rfl⟩,fun t' k=>⟨(fun e=>nomatch e),?_⟩⟩)
 exact Pst.sc W (c:=.str _) ⟨_,rfl⟩ q
theorem OpT.modU {x y:Int} (hx:(hxL 88 x).length≤8) (hy:(hxL 88 y).length≤8) (q:Q (.str (hxS 88 x++hxS 88 y)) S):OpT w B n (opB .Mod) [.str (Str.ofString "%04X%04X"),.tup [.int x,.int y]] S Q:=.mk fun A σ s E vs ha W r=>by
 obtain ⟨v1,v2,rfl,⟨t,rfl⟩,r2⟩:=r.two
 obtain ⟨b,t1,t2,rfl,e⟩:=RV.pair (p:=(x,y)) r2
 refine KPt.bin_left (T:="str") (U:="tuple") (op:=.Mod) (by decide) (typeIs_str s _ t) ⟨_,e,rfl⟩ F.fills_str_mod KPt.fills_tuple F.slot_str_mod
  (call_meets F.slot_str_mod (typeIs_str s _ t) F.entry_str_mod (F.args_str_mod_2 _ _) (mod_hexU x y t1 t2 t b hx hy) ⟨⟨_,e,rfl,0,rfl⟩,fun t' k=>⟨(fun e=>nomatch e),?_⟩⟩)
 exact Pst.sc W (c:=.str _) ⟨_,rfl⟩ q
theorem str_ext {x y:Str} (h:x.cps.toList=y.cps.toList):x=y:=by
 obtain ⟨⟨a⟩⟩:=x;obtain ⟨⟨b⟩⟩:=y;exact congrArg Str.mk (congrArg Array.mk h)
theorem app_list (x y:Str):(x++y).cps.toList=x.cps.toList++y.cps.toList:=by rw [Str.cps_append];simp
theorem nil_of_len {x:Str} (h:(x.length==0)=true):x.cps.toList=[]:=by
 have:x.cps.size=0:=by simpa [Str.length] using h
 simpa using this
theorem add_post {x y:Str} {t u:Tok} {R:Value→Shared→Prop} (hl:x.length+y.length≤fewItems) (h:∀ t' k,R (.str (x++y) t') { s with toks:=k }):(if x.length==0 then Made.val (.str y u) else if y.length==0 then Made.val (.str x t) else Made.str (x++y)).post R s:=by
 split
 ·rename_i h0
  have e:x++y=y:=str_ext (by rw [app_list,nil_of_len h0];rfl)
  have:=h u s.toks
  rw [e] at this;exact this
 ·split
  ·rename_i h0
   have e:x++y=x:=str_ext (by rw [app_list,nil_of_len h0,List.append_nil])
   have:=h t s.toks
   rw [e] at this;exact this
  ·refine ⟨?_,h _ _⟩
   rw [Str.length_append];exact Nat.le_trans hl (by decide)
theorem OpT.addS {x y:Str} (hl:x.length+y.length≤fewItems) (q:Q (.str (x++y)) S):OpT w B n (opB .Add) [.str x,.str y] S Q:=.mk fun A σ s E vs ha W r=>by
 obtain ⟨v1,v2,rfl,⟨t,rfl⟩,⟨u,rfl⟩⟩:=r.two
 exact P.add_str (add_post hl fun t' k=>Pst.sc W (c:=.str _) ⟨_,rfl⟩ q)
theorem OpT.iaddS {x y:Str} (hl:x.length+y.length≤fewItems) (q:Q (.str (x++y)) S):OpT w B n (opI .Add) [.str x,.str y] S Q:=.mk fun A σ s E vs ha W r=>by
 obtain ⟨v1,v2,rfl,⟨t,rfl⟩,⟨u,rfl⟩⟩:=r.two
 exact P.iadd_str (add_post hl fun t' k=>Pst.sc W (c:=.str _) ⟨_,rfl⟩ q)
noncomputable def cut (x:Str) (a b:Nat):Str:=⟨((x.cps.toList.drop a).take (b-a)).toArray⟩
noncomputable def Cuts (x:Str) (l u:Option Int) (a b:Nat):Prop:=Builtin.Str.strSliceIndices l u 1 x.length=Builtin.Str.strSliceIndices (some (a:Int)) (some (b:Int)) 1 x.length∧a≤b∧b≤x.length
theorem cut_post {x:Str} {t:Tok} {l u:Option (Int×Tok)} {a b:Nat} {R:Value→Shared→Prop} (hc:Cuts x (l.map (·.1)) (u.map (·.1)) a b) (hl:x.length≤fewItems) (h:∀ t' k,R (.str (cut x a b) t') { s with toks:=k }):(sliceMade x t l u none).post R s:=by
 obtain ⟨h1,h2,h3⟩:=hc
 unfold sliceMade slicePicked
 simp only [Option.map_none,Option.getD_none,beq_self_eq_true,Bool.true_and]
 rw [h1,StrLaws.sliced_plain x h2 h3]
 split
 ·rename_i he
  have he':b-a=x.length:=by rw [StrLaws.strSliceIndices_plain h2 h3] at he;simpa using he
  have e:cut x a b=x:=by
   refine str_ext ?_
   show (x.cps.toList.drop a).take (b-a)=_
   have:a=0:=by lia
   subst this
   rw [List.drop_zero,he',List.take_of_length_le (by simp [Str.length])]
  have:=h t s.toks
  rw [e] at this;exact this
 ·refine ⟨?_,h _ _⟩
  refine Nat.le_trans ?_ (show fewItems≤sizeLine by decide)
  refine Nat.le_trans ?_ hl
  simp [Str.length];exact Nat.le_trans (Nat.min_le_right _ _) (Nat.sub_le _ _)
inductive kPa (R:Option Int→Store→Prop) (av:AV) (S:Store):Prop
 | mk (i:Int) (h:av=.int i) (q:R (some i) S)
noncomputable def EvP (w:World) (B:Bs) (n:Nat) (env:Env) (e:Option Expr) (loc:Loc) (S:Store) (R:Option Int→Store→Prop):Prop:=match e with
 | none=>R none S
 | some e=>EvA w B n env e loc S (kPa R)
theorem EvP.no {R:Option Int→Store→Prop} (h:R Option.none S):EvP w B n env Option.none loc S R:=h
theorem EvP.yes {e:Expr} {R:Option Int→Store→Prop} (h:EvA w B n env e loc S (kPa R)):EvP w B n env (Option.some e) loc S R:=h
theorem EvP.run {e:Option Expr} {R:Option Int→Store→Prop} (h:EvP w B n env e loc S R) {E:Value→Shared→Prop} (ha:AOk B n A) (W:Wd B σ S s) (F:Fm B σ env loc s.heap) :
  wpAny (model pw w) A (evalPart e env) (fun v s'=>∃ (p:Option (Int×Tok)) (τ:List Addr) (S':Store),v=partValue p∧Wd B (σ++τ) S' s'∧(∀ a∈τ,s.heap.get? a=none)∧Ext σ s.heap s'.heap∧R (p.map (·.1)) S') E s:=by
 cases e with
 | none=>exact wpAny_pure ⟨Option.none,[],S,rfl,by rwa [List.append_nil],nofun,Ext.refl _ _,h⟩
 | some e =>
  refine (show EvA w B n env e loc S (kPa R) from h).bind ha W F fun v s₁ τ av S₁ W₁ f₁ x₁ r₁ p=>?_
  obtain ⟨i,rfl,q⟩:=p
  obtain ⟨t,rfl⟩:=r₁
  exact ⟨Option.some (i,t),τ,S₁,rfl,W₁,f₁,x₁,q⟩
theorem sub_slice {E:Value→Shared→Prop} {value:Expr} {lower upper:Option Expr} {p pos:Pos} {R:Value→Shared→Prop}
  (h:wpAny (model pw w) A (eval value env) (fun o s₁=>wpAny (model pw w) A (evalPart lower env) (fun l s₂=>wpAny (model pw w) A (evalPart upper env) (fun u s₃=>(∃ T id,typeLookup (.type T) "__getitem__"=pure (Option.some (.builtin id))∧s₃.TypeIs o T) ∧
   wpAny (model pw w) A (getItem o (.ref s₃.heap.objs.size)) R E { s₃ with heap:=s₃.heap.push { cls:=.type "slice",data:=.fields #[l,u,.none] } }) E s₂) E s₁) E s) :
  wpAny (model pw w) A (eval (.Subscript value (.Slice lower upper Option.none p) pos) env) R E s:=by
 refine wpAny_bind (wpAny_mono h (fun o s₁ h₁=>wpAny_bind (wpAny_holding (wpAny_Slice (wpAny_mono h₁ (fun l s₂ h₂=>wpAny_mono h₂ (fun u s₃ h₃=>?_) fun _ _ x=>x) fun _ _ x=>x)))) fun _ _ x=>x)
 refine wpAny_pure (wpAny_bind (wpAny_standAt ?_))
 obtain ⟨⟨T,id,hl,hT⟩,hg⟩:=h₃
 have hT':Shared.TypeIs { s₃ with heap:=s₃.heap.push { cls:=.type "slice",data:=.fields #[l,u,.none] } } o T:=by
  cases o with
  | ref a=>obtain ⟨ob,e,c⟩:=hT;exact ⟨ob,Heap.get?_push_of_some _ e,c⟩
  | _=>exact hT
 have fin:=wpAny_operating (vs:=[.ref s₃.heap.objs.size,o]) (wpAny_mono hg (Q':=fun r s₄=>wpAny (model pw w) A (letTemporaryGo value o r>>=fun _=>pure r) R E s₄) (fun r s₄ h₄=>wpAny_bind (wpAny_letTemporaryGo (wpAny_pure h₄))) fun _ _ x=>x)
 refine wpAny_bind ?_
 refine wpAny_bind (wpAny_specialOf hT' hl ?_)
 first
  | exact wpAny_pure (wpAny_bind fin)
  | exact wpAny_bind (wpAny_pure (wpAny_bind fin))
inductive kCut (Q:AV→Store→Prop) (v:AV) (l u:Option Int) (S:Store):Prop
 | mk (x:Str) (a b:Nat) (h:v=.str x) (hc:Cuts x l u a b) (hl:x.length≤fewItems) (q:Q (.str (cut x a b)) S)
noncomputable abbrev kV2 (w:World) (B:Bs) (n:Nat) (env:Env) (e:Option Expr) (loc:Loc) (T:AV→Option Int→Option Int→Store→Prop) (v:AV) (l:Option Int) (S:Store):Prop:=EvP w B n env e loc S (T v l)
noncomputable abbrev kV1 (w:World) (B:Bs) (n:Nat) (env:Env) (lo up:Option Expr) (loc:Loc) (T:AV→Option Int→Option Int→Store→Prop) (v:AV) (S:Store):Prop:=EvP w B n env lo loc S (kV2 w B n env up loc T v)
theorem EvA.sliceS {value:Expr} {lower upper:Option Expr} {p pos:Pos}
  (h:EvA w B n env value loc S (kV1 w B n env lower upper loc (kCut Q))) :
  EvA w B n env (.Subscript value (.Slice lower upper none p) pos) loc S Q:=.mk fun A σ s E ha W F=>by
 refine sub_slice (h.bind ha W F fun o s₁ τ av S₁ W₁ f₁ x₁ r₁ h₁=>?_)
 have F₁:=F.mono W τ x₁
 refine wpAny_mono (h₁.run ha W₁ F₁) (fun vl s₂ p=>?_) fun _ _ e=>e
 obtain ⟨l,τ₂,S₂,rfl,W₂,f₂,x₂,h₂⟩:=p
 refine wpAny_mono (h₂.run ha W₂ (F₁.mono W₁ τ₂ x₂)) (fun vu s₃ p=>?_) fun _ _ e=>e
 obtain ⟨u,τ₃,S₃,rfl,W₃,f₃,x₃,x,a,b,rfl,hc,hl,q⟩:=p
 obtain ⟨t,rfl⟩:=r₁
 refine ⟨⟨"str",_,getS_str,typeIs_str _ x t⟩,?_⟩
 refine wpAny_getItem_str_slice (l:=l) (u:=u) (st:=Option.none) ⟨_,Heap.get?_push_size _ rfl,rfl,rfl⟩ rfl (cut_post hc hl fun t' k=>?_)
 have p:Pst B _ s₃ Q (.str (cut x a b) t') { s₃ with heap:=s₃.heap.push { cls:=.type "slice",data:=.fields #[partValue l,partValue u,.none] },toks:=k }:=.now (W₃.push { cls:=.type "slice",data:=.fields #[partValue l,partValue u,.none] }) (Ext.push _ _) (av:=.str (cut x a b)) ⟨_,rfl⟩ q
 exact ((p.back W₂ W₃ x₃ f₃).back W₁ W₂ x₂ f₂).back W W₁ x₁ f₁
end
section
variable {w:World} {B:Bs} {n:Nat} {env:Env} {loc:Loc} {S:Store} {σ:List Addr} {s:Shared} {A:Around} {Q:AV→Store→Prop} {K:AF→Loc→Store→Prop} {rest:List Stmt}
noncomputable def vOf (i:Nat):Int:=((34+i%101:Nat):Int)+(if i/101=0 then 0 else if i/101=1 then 55232 else 57279)
theorem lows_ok:∀ r<20,35≤lowT.getD r 0∧lowT.getD r 0≤126:=by decide +kernel
theorem v_at {n c:Nat} {lift:Int} (hn:n<101) (hc:(c=0∧lift=0)∨(c=1∧lift=55232)∨(c=2∧lift=57279)):n+101*c<303∧vOf (n+101*c)=((34+n:Nat):Int)+lift:=by
 have h1:(n+101*c)%101=n:=by lia
 have h2:(n+101*c)/101=c:=by lia
 refine ⟨by lia,?_⟩
 unfold vOf
 rw [h1,h2]
 rcases hc with ⟨rfl,rfl⟩ | ⟨rfl,rfl⟩ | ⟨rfl,rfl⟩ <;> rfl
theorem lift_ok (x:Nat):∃ c:Nat,(c=0∧liftOf x=0)∨(c=1∧liftOf x=55232)∨(c=2∧liftOf x=57279):=by
 unfold liftOf
 split
 ·exact ⟨1,.inr (.inl ⟨rfl,rfl⟩)⟩
 ·split
  ·exact ⟨2,.inr (.inr ⟨rfl,rfl⟩)⟩
  ·exact ⟨0,.inl ⟨rfl,rfl⟩⟩
theorem ends_v (x:Nat):(∃ i,i<303∧(ends x).1=vOf i)∧∃ i,i<303∧(ends x).2=vOf i:=by
 have hl:=lows_ok (x%20) (Nat.mod_lt _ (by decide))
 have ha:x/20%8<8:=Nat.mod_lt _ (by decide)
 obtain ⟨c,hc⟩:=lift_ok x
 have e1:lowOf x=lowT.getD (x%20) 0:=rfl
 rw [← e1] at hl
 have hh:34≤hi1 x∧hi1 x≤133:=by
  unfold hi1 hi0
  split <;> (clear ha e1;lia)
 constructor
 ·obtain ⟨a1,a2⟩:=v_at (n:=lowOf x-34) (by lia) hc
  exact ⟨_,a1,by rw [a2];show (lowOf x:Int)+liftOf x=_;lia⟩
 ·obtain ⟨a1,a2⟩:=v_at (n:=(hi1 x-34).toNat) (by lia) hc
  exact ⟨_,a1,by rw [a2];show hi1 x+liftOf x=_;lia⟩
theorem hex_all:(List.range 303).all (fun i=>[120,88].all fun ty=>(hxL ty (vOf i)).length==4)=true:=by decide +kernel
theorem hex_v {v:Int} (h:∃ i,i<303∧v=vOf i):(hxL 120 v).length=4∧(hxL 88 v).length=4:=by
 obtain ⟨i,hi,rfl⟩:=h
 have:=List.all_eq_true.mp hex_all i (List.mem_range.mpr hi)
 simpa using this
theorem hex_len (x:Nat):(hxL 120 (ends x).1).length=4∧(hxL 120 (ends x).2).length=4∧(hxL 88 (ends x).1).length=4∧(hxL 88 (ends x).2).length=4:=by
 obtain ⟨a,b⟩:=ends_v x
 exact ⟨(hex_v a).1,(hex_v b).1,(hex_v a).2,(hex_v b).2⟩
noncomputable def nums (xs:List Nat):List AV:=xs.map fun (x:Nat)=>.int (x:Int)
theorem nums_len (xs:List Nat):(nums xs).length=xs.length:=by simp [nums]
theorem nums_get {xs:List Nat} {i:Nat} (h:i<xs.length):(nums xs)[i]?=some (.int ((xs.getD i 0:Nat):Int)):=by simp [nums,List.getElem?_eq_getElem h,List.getD]
noncomputable def hexOf (i x:Nat):Str:=if i%2=0 then hxS 120 (ends x).1++hxS 120 (ends x).2 else hxS 88 (ends x).1++hxS 88 (ends x).2
noncomputable def gOf (x:Nat):Str:=if kindN x=6 then "g" else ""
noncomputable def lineOf (i x:Nat):Str:=if kindN x>5 then cut (hexOf i x) 0 7++gOf x else hexOf i x
noncomputable def sepOf (i:Nat):Str:=if i%3=2 then "\n\n" else "\n"
noncomputable def srcTo (xs:List Nat):Nat→Str
 | 0=>Str.ofString ""
 | i+1=>srcTo xs i++(lineOf i (xs.getD i 0)++sepOf i)
theorem hxS_len (ty:Nat) (v:Int):(hxS ty v).length=(hxL ty v).length:=by show (hxL ty v).toArray.size=_;simp
theorem hexOf_len (i x:Nat):(hexOf i x).length=8:=by
 obtain ⟨h1,h2,h3,h4⟩:=hex_len x
 unfold hexOf
 split <;> rw [Str.length_append,hxS_len,hxS_len] <;> lia
theorem gOf_len (x:Nat):(gOf x).length≤1:=by
 unfold gOf;split
 ·exact (by decide +kernel:(Str.ofString "g").length≤1)
 ·exact (by decide +kernel:(Str.ofString "").length≤1)
theorem sepOf_len (i:Nat):(sepOf i).length≤2:=by
 unfold sepOf;split
 ·exact (by decide +kernel:(Str.ofString "\n\n").length≤2)
 ·exact (by decide +kernel:(Str.ofString "\n").length≤2)
theorem cut_len (x:Str) {a b:Nat} (h:a≤b) (hb:b≤x.length):(cut x a b).length=b-a:=by
 show ((x.cps.toList.drop a).take (b-a)).toArray.size=_
 have:x.cps.size=x.length:=rfl
 simp
 lia
theorem lineOf_len (i x:Nat):(lineOf i x).length≤8:=by
 unfold lineOf
 have:=hexOf_len i x
 have:=gOf_len x
 split
 ·rw [Str.length_append,cut_len _ (by lia) (by lia)];lia
 ·lia
theorem srcTo_len (xs:List Nat):∀ i,(srcTo xs i).length≤10*i
 | 0=>by exact (by decide +kernel:(Str.ofString "").length≤10*0)
 | i+1=>by
  have:=srcTo_len xs i
  have:=lineOf_len i (xs.getD i 0)
  have:=sepOf_len i
  show (srcTo xs i++(lineOf i (xs.getD i 0)++sepOf i)).length≤_
  rw [Str.length_append,Str.length_append];lia
theorem small_one (N:Nat) (h:N≤1000000):Builtin.Range.small 0 N 1=true:=by
 unfold Builtin.Range.small
 have hs:Builtin.Range.rangeSize 0 N 1=N:=by rw [rangeSize_one];split <;> lia
 rw [hs]
 rw [if_pos (by decide)]
 have fit:∀ i:Int,-10000000≤i→i≤10000000→Builtin.Range.rangeFitsLong i=true:=fun i h1 h2=>by
  unfold Builtin.Range.rangeFitsLong
  rw [Bool.and_eq_true,decide_eq_true_eq,decide_eq_true_eq]
  lia
 rw [fit 0 (by lia) (by lia),fit N (by lia) (by lia),fit 1 (by lia) (by lia),fit ((N:Int)+(1-1)) (by lia) (by lia)]
 simp
theorem size_one (N:Nat):Builtin.Range.rangeSize 0 N 1=(N:Int):=by rw [rangeSize_one];split <;> lia
theorem lines_w (H:St w B) {k:Nat} {xs:List Nat} (hk:S[k]?=some (nums xs)) (hl:xs.length≤20) (hx:∀ x∈xs,x<1000000)
  (q:Q (.str (srcTo xs xs.length)) S):OpT w B (n+2) (callD 156) [.lst k] S Q:=by
 refine OpT.def H (ps:=["numbers"]) ["source","place","low","high","line","kind"] [("numbers",.lst k),("source",.unb),("place",.unb),("low",.unb),("high",.unb),("line",.unb),("kind",.unb)] (f_law_lines _) (c_law_lines _) rfl (all1 fun _=>by kernel_rfl) (by decide +kernel) (by decide +kernel) (by decide +kernel) (fun L hL H=>?_)
 refine ExA.assign (by walk_at "u") ?_
 walk_at "s"
 let J:Loc→Store→Prop:=fun loc₂ S₂=>∃ a b c d e:AV,loc₂=([("numbers",.lst k),("source",.str (srcTo xs xs.length)),("place",a),("low",b),("high",c),("line",d),("kind",e)]:Loc)∧S₂=S
 refine ExA.seq J ?_ ?_
 ·let I:Nat→Loc→Store→Prop:=fun i loc₂ S₂=>∃ a b c d e:AV,loc₂=([("numbers",.lst k),("source",.str (srcTo xs i)),("place",a),("low",b),("high",c),("line",d),("kind",e)]:Loc)∧S₂=S
  refine ExS.forR 0 xs.length 1 xs.length I (size_one _) (small_one _ (by lia)) ?_ ?_ ?_
  ·refine EvA.callT H (n_range _) (b_range _) (by kernel_rfl) ?_
   refine ArT.cons (EvA.callB H (n_len _) (b_len _) (by kernel_rfl) ?_)
   walk_at "s"
   refine OpT.lenL hk (by rw [nums_len];unfold fewItems;lia) ?_
   rw [nums_len]
   walk_at "s"
   refine OpT.range1 fun t u v=>⟨⟨t,u,v,rfl⟩,_,_,_,_,_,rfl,rfl⟩
  ·rintro i loc₂ S₂ hi ⟨a,b,c,d,e,rfl,rfl⟩
   refine StT.name (by walk_at "u") (by kernel_rfl) ?_
   rw [show (0:Int)+(i:Int)*1=(i:Int) by lia]
   have hxi:xs.getD i 0<1000000:=by rw [List.getD_eq_getElem?_getD,List.getElem?_eq_getElem hi];exact hx _ (List.getElem_mem hi)
   generalize hX:xs.getD i 0=x at hxi
   refine ExA.assignT (EvA.callD H (g_law_ends _) (f_law_ends _) (by kernel_rfl) ?_)
   refine ArT.cons (EvA.subL ?_)
   walk_at "s"
   refine ⟨⟨_,rfl⟩,OpT.getL hk (by lia) (x:=.int (x:Int)) (by rw [← hX];simpa using nums_get hi) (by rw [nums_len];unfold fewItems;lia) ?_⟩
   walk_at "s"
   refine ends_w H hxi ?_
   refine StT.tup2 (by walk_at "u") (by walk_at "u") (by kernel_rfl) (by kernel_rfl) ?_
   have hmod:∀ m:Nat,Int.fmod (i:Int) (m:Int)=((i%m:Nat):Int):=fmodN i
   obtain ⟨l1,l2,l3,l4⟩:=hex_len x
   let J:Loc→Store→Prop:=fun loc₂ S₂'=>loc₂=([("numbers",.lst k),("source",.str (srcTo xs i)),("place",.int i),("low",.int (ends x).1),("high",.int (ends x).2),("line",.str (hexOf i x)),("kind",e)]:Loc)∧S₂'=S₂
   refine ExA.seq J ?_ ?_
   ·refine ExS.assign (by walk_at "u") ?_
    walk_at "s"
    refine EvA.ite (TsA.cmp ?_)
    walk_at "s"
    refine OpT.modI (by decide) ?_
    rw [show Int.fmod (i:Int) 2=((i%2:Nat):Int) from hmod 2]
    walk_at "s"
    refine OpT.eqI (TrT.bool ?_)
    by_cases h2:i%2=0
    ·refine ifP (by simp [h2]) ?_
     walk_at "s"
     refine EvA.tuple ?_
     walk_at "s"
     exact ⟨[.int (ends x).1,.int (ends x).2],rfl,by show 2≤fewItems;decide,OpT.modL (by lia) (by lia) ⟨by rw [hexOf,if_pos h2],rfl⟩⟩
    ·refine ifN (by simp;lia) ?_
     walk_at "s"
     refine EvA.tuple ?_
     walk_at "s"
     exact ⟨[.int (ends x).1,.int (ends x).2],rfl,by show 2≤fewItems;decide,OpT.modU (by lia) (by lia) ⟨by rw [hexOf,if_neg h2],rfl⟩⟩
   rintro loc₃ S₃ ⟨rfl,rfl⟩
   refine ExA.assign (by walk_at "u") ?_
   walk_at "s"
   refine EvA.subL ?_
   walk_at "s"
   refine ⟨⟨_,rfl⟩,OpT.getL hk (by lia) (x:=.int (x:Int)) (by rw [← hX];simpa using nums_get hi) (by rw [nums_len];unfold fewItems;lia) ?_⟩
   walk_at "s"
   refine OpT.divI (by decide) (PyProof.noPylong_small (by decide)) ?_
   walk_at "s"
   refine OpT.modI (by decide) ?_
   rw [show Int.fmod (Int.fdiv (x:Int) 160) 8=((kindN x:Nat):Int) by rw [show Int.fdiv (x:Int) 160=((x/160:Nat):Int) from fdivN x 160];exact fmodN (x/160) 8]
   let J:Loc→Store→Prop:=fun loc₂ S₂'=>loc₂=([("numbers",.lst k),("source",.str (srcTo xs i)),("place",.int i),("low",.int (ends x).1),("high",.int (ends x).2),("line",.str (lineOf i x)),("kind",.int (kindN x:Int))]:Loc)∧S₂'=S₃
   refine ExA.seq J ?_ ?_
   ·refine ExS.ite (TsA.cmp ?_)
    walk_at "s"
    by_cases h5:kindN x>5
    ·refine ifP (by rw [decide_eq_true_eq];lia) ?_
     refine ExA.assign (by walk_at "u") ?_
     walk_at "s"
     refine EvA.sliceS ?_
     walk_at "s"
     refine EvP.no (EvP.yes ?_)
     walk_at "s"
     have h8:=hexOf_len i x
     refine ⟨7,rfl,_,0,7,rfl,⟨by rw [h8];rfl,by lia,by lia⟩,by rw [h8];decide,?_⟩
     refine EvA.ite (TsA.cmp ?_)
     walk_at "s"
     refine OpT.eqI (TrT.bool ?_)
     have hl7:(cut (hexOf i x) 0 7).length=7:=cut_len _ (by lia) (by lia)
     by_cases h6:kindN x=6
     ·refine ifP (by simp [h6]) ?_
      walk_at "s"
      refine OpT.addS ?_ (ExA.nil ⟨by rw [lineOf,if_pos h5,gOf,if_pos h6],rfl⟩)
      have:(Str.ofString "g").length=1:=by decide +kernel
      rw [hl7,this];decide
     ·refine ifN (by simp;(clear h5;lia)) ?_
      walk_at "s"
      refine OpT.addS ?_ (ExA.nil ⟨by rw [lineOf,if_pos h5,gOf,if_neg h6],rfl⟩)
      have:(Str.ofString "").length=0:=by decide +kernel
      rw [hl7,this];decide
    ·exact ifN (by rw [decide_eq_true_eq];lia) (ExA.nil ⟨by rw [lineOf,if_neg h5],rfl⟩)
   rintro loc₄ S₄ ⟨rfl,rfl⟩
   refine ExA.aug (by walk_at "e") rfl (by walk_at "u") ?_
   walk_at "s"
   refine EvA.ite (TsA.cmp ?_)
   walk_at "s"
   refine OpT.modI (by decide) ?_
   rw [show Int.fmod (i:Int) 3=((i%3:Nat):Int) from hmod 3]
   walk_at "s"
   refine OpT.eqI (TrT.bool ?_)
   have k1:=srcTo_len xs i
   have k2:=lineOf_len i x
   have k3:=sepOf_len i
   have es:srcTo xs (i+1)=srcTo xs i++(lineOf i x++sepOf i):=by rw [← hX];rfl
   unfold sepOf at es k3
   by_cases h3:i%3=2
   ·refine ifP (by simp [h3]) ?_
    rw [if_pos h3] at es k3
    walk_at "s"
    refine OpT.addS (by unfold fewItems;lia) (OpT.iaddS (by rw [Str.length_append];unfold fewItems;(clear h3;lia)) (ExA.nil ⟨.int i,.int (ends x).1,.int (ends x).2,.str (lineOf i x),.int (kindN x:Int),by rw [es],rfl⟩))
   ·refine ifN (by simp;lia) ?_
    rw [if_neg h3] at es k3
    walk_at "s"
    refine OpT.addS (by unfold fewItems;lia) (OpT.iaddS (by rw [Str.length_append];unfold fewItems;lia) (ExA.nil ⟨.int i,.int (ends x).1,.int (ends x).2,.str (lineOf i x),.int (kindN x:Int),by rw [es],rfl⟩))
  ·intro loc₂ S₂ p₀
   refine let ZZ:Prop:=_;(?_:ZZ)
   obtain ⟨a,b,c,d,e,rfl,rfl⟩:=p₀
   exact ⟨a,b,c,d,e,rfl,rfl⟩
 ·intro loc₂ S₂ p₀
  refine let ZZ:Prop:=_;(?_:ZZ)
  obtain ⟨a,b,c,d,e,rfl,rfl⟩:=p₀
  refine ExA.ret ?_
  walk_at "s"
  exact q
theorem TsT.det {t:Sem Bool} {v:Bool} {Q:Bool→Store→Prop} (h:TsT w B n env t loc S fun b S'=>b=v∧S'=S) (k:Q v S):TsT w B n env t loc S Q :=
 .mk fun A σ s E ha W F=>wpAny_mono (h.run A σ s E ha W F) (fun b s' p=>by obtain ⟨τ,S',a,b,c,rfl,rfl⟩:=p;exact ⟨τ,_,a,b,c,k⟩) fun _ _ e=>e
theorem EvT.det {t:Sem Value} {v:AV} (h:EvT w B n env t loc S fun b S'=>b=v∧S'=S) (k:Q v S):EvT w B n env t loc S Q:=h.mono fun _ _ ⟨e1,e2⟩=>by subst e1 e2;exact k
theorem TsA.between {a b c:Int} {x:Str} {k1 k2:Nat} {p1 p2 p3 pos:Pos} {Q:Bool→Store→Prop} (hx:(x,AV.int b)∈loc) (q:Q (decide (a≤b∧b<c)) S) (hd:(x==("__debug__":Str))=false:=by decide +kernel) :
  TsA w B n env (.Compare (.Constant (.int a) k1 p1) [.LtE,.Lt] [.Name x p2,.Constant (.int c) k2 p3] pos) loc S Q:=by
 refine TsT.det ?_ q
 refine TsA.chain (EvA.int (EvA.nm hx rfl (OpT.leI (TrT.bool ?_)) hd))
 by_cases h1:a≤b
 ·refine ifP (by simpa using h1) ?_
  refine EvA.int (OpT.ltI (TrT.bool ⟨?_,rfl⟩))
  rw [decide_eq_decide];exact iff_and_self.mpr fun a=>h1
 ·refine ifN (by simpa using h1) ?_
  refine ⟨?_,rfl⟩
  rw [eq_comm,decide_eq_false_iff_not];exact not_and.mpr fun a a_1=>h1 a
theorem OpT.strI {i:Int} (hi:i.natAbs<1000000) (q:Q (.str (Str.ofString (toString i))) S):OpT w B n (Mine.callT "str") [.int i] S Q:=.mk fun A σ s E vs ha W r=>by
 obtain ⟨v,rfl,⟨t,rfl⟩⟩:=r.one
 refine P.str_of_int ?_ (Pst.sc W (c:=.str _) ⟨_,rfl⟩ q)
 by_cases h0:i.natAbs=0
 ·rw [h0];decide
 ·have:i.natAbs.log2<20:=(Nat.log2_lt h0).mpr (by omega)
  omega
noncomputable def escT:Str:="Escaped character is not a Unicode scalar value (at line "
noncomputable def invT:Str:="Invalid hex value (at line "
noncomputable def col5:Str:=", column 5)"
noncomputable def col9:Str:=", column 9)"
noncomputable def lineNo (i:Nat):Str:=Str.ofString (toString ((i+i/3+1:Nat):Int))
noncomputable def surr (v:Int):Bool:=decide (55296≤v∧v<57344)
noncomputable def dueOf (i x:Nat):AV :=
 if surr (ends x).1=true then .str (escT++lineNo i++col5)
 else if kindN x>5 then .str (invT++lineNo i++col5)
 else if surr (ends x).2=true then .str (escT++lineNo i++col9)
 else .pair (ends x)
noncomputable def dueTo (xs:List Nat) (m:Nat):List AV:=(List.range m).map fun i=>dueOf i (xs.getD i 0)
theorem lineNo_len {i:Nat} (h:i<1000):(lineNo i).length≤2000:=by
 have:=len_str_of_int ((i+i/3+1:Nat):Int)
 have e:(((i+i/3+1:Nat):Int)).natAbs=i+i/3+1:=rfl
 unfold lineNo
 omega
theorem escT_len:escT.length≤100:=by decide +kernel
theorem invT_len:invT.length≤100:=by decide +kernel
theorem col5_len:col5.length≤100:=by decide +kernel
theorem col9_len:col9.length≤100:=by decide +kernel
theorem due_w (H:St w B) {k:Nat} {xs:List Nat} (hk:S[k]?=some (nums xs)) (hl:xs.length≤20) (hx:∀ x∈xs,x<1000000)
  (q:Q (.lst S.length) (S++[dueTo xs xs.length])):OpT w B (n+2) (callD 163) [.lst k] S Q:=by
 refine OpT.def H (ps:=["numbers"]) ["due","place","low","high","line"] [("numbers",.lst k),("due",.unb),("place",.unb),("low",.unb),("high",.unb),("line",.unb)] (f_law_due _) (c_law_due _) rfl (all1 fun _=>by kernel_rfl) (by decide +kernel) (by decide +kernel) (by decide +kernel) (fun L hL H=>?_)
 refine ExA.assign (by walk_at "u") (EvA.list ?_)
 walk_at "s"
 refine ⟨Nat.zero_le _,?_⟩
 let J:Loc→Store→Prop:=fun loc₂ S₂=>∃ a b c d:AV,loc₂=([("numbers",.lst k),("due",.lst S.length),("place",a),("low",b),("high",c),("line",d)]:Loc)∧S₂=S++[dueTo xs xs.length]
 refine ExA.seq J ?_ ?_
 ·let I:Nat→Loc→Store→Prop:=fun i loc₂ S₂=>∃ a b c d:AV,loc₂=([("numbers",.lst k),("due",.lst S.length),("place",a),("low",b),("high",c),("line",d)]:Loc)∧S₂=S++[dueTo xs i]
  refine ExS.forR 0 xs.length 1 xs.length I (size_one _) (small_one _ (by omega)) ?_ ?_ ?_
  ·refine EvA.callT H (n_range _) (b_range _) (by kernel_rfl) ?_
   refine ArT.cons (EvA.callB H (n_len _) (b_len _) (by kernel_rfl) ?_)
   walk_at "s"
   refine OpT.lenL (getP hk _) (by rw [nums_len];unfold fewItems;omega) ?_
   rw [nums_len]
   walk_at "s"
   refine OpT.range1 fun t u v=>⟨⟨t,u,v,rfl⟩,_,_,_,_,rfl,rfl⟩
  ·rintro i loc₂ S₂ hi ⟨a,b,c,d,rfl,rfl⟩
   refine StT.name (by walk_at "u") (by kernel_rfl) ?_
   rw [show (0:Int)+(i:Int)*1=(i:Int) by omega]
   have hxi:xs.getD i 0<1000000:=by rw [List.getD_eq_getElem?_getD,List.getElem?_eq_getElem hi];exact hx _ (List.getElem_mem hi)
   have hnx:dueTo xs (i+1)=dueTo xs i++[dueOf i (xs.getD i 0)]:=by unfold dueTo;rw [List.range_succ,List.map_append];rfl
   have hln:(dueTo xs i).length=i:=by simp [dueTo]
   have hgx:∀ r:Store,(S++r)[k]?=some (nums xs):=fun r=>getP hk r
   have hnum:(nums xs)[(i:Int).toNat]?=some (.int ((xs.getD i 0:Nat):Int)):=by simpa using nums_get hi
   generalize xs.getD i 0=x at hxi hnum hnx
   refine ExA.assignT (EvA.callD H (g_law_ends _) (f_law_ends _) (by kernel_rfl) ?_)
   refine ArT.cons (EvA.subL ?_)
   walk_at "s"
   refine ⟨⟨_,rfl⟩,OpT.getL (hgx _) (by exact Int.natCast_nonneg i) hnum (by rw [nums_len];unfold fewItems;omega) ?_⟩
   walk_at "s"
   refine ends_w H hxi ?_
   refine StT.tup2 (by walk_at "u") (by walk_at "u") (by kernel_rfl) (by kernel_rfl) ?_
   refine ExA.assign (by walk_at "u") (EvA.callT H (n_str _) (b_str _) (by kernel_rfl) ?_)
   walk_at "s"
   refine OpT.divI (by decide) (PyProof.noPylong_small (by decide)) ?_
   rw [show Int.fdiv (i:Int) 3=((i/3:Nat):Int) from fdivN i 3]
   walk_at "s"
   refine OpT.strI (by (clear hnx;lia)) ?_
   rw [show Str.ofString (toString ((i:Int)+((i/3:Nat):Int)+1))=lineNo i by unfold lineNo;push_cast;rfl]
   have kn:=lineNo_len (i:=i) (by omega)
   have ke:=escT_len
   have ki:=invT_len
   have k5:=col5_len
   have k9:=col9_len
   have fin:∀ (y:AV) (loc₁:Loc),y=dueOf i x→loc₁=([("numbers",.lst k),("due",.lst S.length),("place",.int i),("low",.int (ends x).1),("high",.int (ends x).2),("line",.str (lineNo i))]:Loc) →
     I (i+1) loc₁ ((S++[dueTo xs i]).set S.length (dueTo xs i++[y])):=by
    rintro y loc₁ rfl rfl
    exact ⟨_,_,_,_,rfl,(set0 _ _ _ _).trans (by rw [hnx])⟩
   have hap:(S++[dueTo xs i])[S.length]?=some (dueTo xs i):=get0 _ _ _
   have hfew:(dueTo xs i).length≤fewItems:=by rw [hln];unfold fewItems;(clear fin;lia)
   refine ExA.ite (TsA.between (by walk_at "e") ?_)
   by_cases c1:surr (ends x).1=true
   ·refine ifP c1 ?_
    refine ExA.expr (EvA.meth (T:="list") (id:="list.append") ?_ F.plainAttrs_list slot_list_append type_list_append)
    walk_at "s"
    refine ⟨rfl,?_⟩
    walk_at "s"
    refine OpT.addS (y:=lineNo i) (x:=escT) (by unfold fewItems;(clear fin;lia)) ?_
    walk_at "s"
    refine OpT.addS (y:=col5) (by rw [Str.length_append];unfold fewItems;(clear fin;lia)) ?_
    walk_at "s"
    exact OpT.append hap hfew (ExA.nil (ExA.nil (fin _ _ (by unfold dueOf;rw [if_pos c1]) rfl)))
   refine ifN c1 ?_
   refine ExA.ite (TsA.cmp ?_)
   refine EvA.bin (EvA.bin (EvA.subL ?_))
   walk_at "s"
   refine ⟨⟨_,rfl⟩,OpT.getL (hgx _) (by exact Int.natCast_nonneg i) hnum (by rw [nums_len];unfold fewItems;(clear fin;lia)) ?_⟩
   walk_at "s"
   refine OpT.divI (by decide) (PyProof.noPylong_small (by decide)) ?_
   walk_at "s"
   refine OpT.modI (by decide) ?_
   rw [show Int.fmod (Int.fdiv (x:Int) 160) 8=((kindN x:Nat):Int) by rw [show Int.fdiv (x:Int) 160=((x/160:Nat):Int) from fdivN x 160];exact fmodN (x/160) 8]
   walk_at "s"
   by_cases c2:kindN x>5
   ·refine ifP (by rw [decide_eq_true_eq];exact Int.lt_of_toNat_lt c2) ?_
    refine ExA.expr (EvA.meth (T:="list") (id:="list.append") ?_ F.plainAttrs_list slot_list_append type_list_append)
    walk_at "s"
    refine ⟨rfl,?_⟩
    walk_at "s"
    refine OpT.addS (y:=lineNo i) (x:=invT) (by unfold fewItems;(clear fin;lia)) ?_
    walk_at "s"
    refine OpT.addS (y:=col5) (by rw [Str.length_append];unfold fewItems;(clear fin;lia)) ?_
    walk_at "s"
    exact OpT.append hap hfew (ExA.nil (ExA.nil (ExA.nil (fin _ _ (by unfold dueOf;rw [if_neg c1,if_pos c2]) rfl))))
   refine ifN (by rw [decide_eq_true_eq];(clear fin;lia)) ?_
   refine ExA.ite (TsA.between (by walk_at "e") ?_)
   by_cases c3:surr (ends x).2=true
   ·refine ifP c3 ?_
    refine ExA.expr (EvA.meth (T:="list") (id:="list.append") ?_ F.plainAttrs_list slot_list_append type_list_append)
    walk_at "s"
    refine ⟨rfl,?_⟩
    walk_at "s"
    refine OpT.addS (y:=lineNo i) (x:=escT) (by unfold fewItems;(clear fin;lia)) ?_
    walk_at "s"
    refine OpT.addS (y:=col9) (by rw [Str.length_append];unfold fewItems;(clear fin;lia)) ?_
    walk_at "s"
    exact OpT.append hap hfew (ExA.nil (ExA.nil (ExA.nil (ExA.nil (fin _ _ (by unfold dueOf;rw [if_neg c1,if_neg c2,if_pos c3]) rfl)))))
   refine ifN c3 ?_
   refine ExA.expr (EvA.meth (T:="list") (id:="list.append") ?_ F.plainAttrs_list slot_list_append type_list_append)
   walk_at "s"
   refine ⟨rfl,ArT.cons (EvA.tuple ?_)⟩
   walk_at "s"
   refine ⟨[.int (ends x).1,.int (ends x).2],rfl,by show 2≤fewItems;decide,?_⟩
   walk_at "s"
   exact OpT.append hap hfew (ExA.nil (ExA.nil (ExA.nil (ExA.nil (fin _ _ (by unfold dueOf;rw [if_neg c1,if_neg c2,if_neg c3]) rfl)))))
  ·rintro loc₂ S₂ ⟨a,b,c,d,rfl,rfl⟩
   exact ⟨a,b,c,d,rfl,rfl⟩
 ·intro loc₂ S₂ p₀
  refine let ZZ:Prop:=_;(?_:ZZ)
  obtain ⟨a,b,c,d,rfl,rfl⟩:=p₀
  refine ExA.ret ?_
  walk_at "s"
  exact q
noncomputable abbrev cpE (w:World) (A:Around) (env:Env) (R:Result→Shared→Prop):Value→Shared→Prop:=notedBy (model pw w) A env fun e s'=>R (.error e) s'
noncomputable abbrev cpI {α:Type} (I:Nat→Shared→Prop) (n:Nat) (_:α) (s:Shared):Prop:=∃ m,m<n∧I m s
noncomputable abbrev cp4 (w:World) (A:Around) (env:Env) (R:Result→Shared→Prop) (acc:Value) (I:Nat→Shared→Prop) (n:Nat) (x:Value) (s:Shared):Prop:=wpAny (model pw w) A (call (.builtin "list.append") [acc,x]) (cpI I n) (cpE w A env R) s
noncomputable abbrev cp3 (w:World) (A:Around) (env:Env) (R:Result→Shared→Prop) (acc:Value) (I:Nat→Shared→Prop) (n:Nat) (elt:Expr) (ok:Bool) (s:Shared):Prop:=if ok=true then wpAny (model pw w) A (eval elt env) (cp4 w A env R acc I n) (cpE w A env R) s else cpI I n () s
noncomputable abbrev cp2 (w:World) (A:Around) (env:Env) (R:Result→Shared→Prop) (acc:Value) (I:Nat→Shared→Prop) (n:Nat) (elt:Expr) (ifs:List Expr) (_:Unit) (s:Shared):Prop:=wpAny (model pw w) A (forIn ifs true fun c r=>if r=true then do let ok←isTrue c env (eval c env);pure (ForInStep.yield ok) else pure (ForInStep.yield r)) (cp3 w A env R acc I n elt) (cpE w A env R) s
noncomputable abbrev cp1 (w:World) (A:Around) (env:Env) (R:Result→Shared→Prop) (acc:Value) (I:Nat→Shared→Prop) (n:Nat) (elt:Expr) (ifs:List Expr) (target:Expr) (v:Value) (_:Unit) (s:Shared):Prop:=wpAny (model pw w) A (PySem.assign target env v) (cp2 w A env R acc I n elt ifs) (cpE w A env R) s
noncomputable abbrev cp0 (w:World) (A:Around) (env:Env) (R:Result→Shared→Prop) (acc:Value) (I:Nat→Shared→Prop) (n:Nat) (elt:Expr) (ifs:List Expr) (target:Expr) (it:Value) (r:Option Value) (s:Shared):Prop:=match r with
 | none=>R (.ok .next) s
 | some v=>wpAny (model pw w) A (letOwnedTupleGo target it v) (cp1 w A env R acc I n elt ifs target v) (cpE w A env R) s
theorem compLoop_go {R:Result→Shared→Prop} {elt target iter:Expr} {ifs:List Expr} {scope:Scope} {pos:Pos} {it acc:Value} {env:Env} (I:Nat→Shared→Prop)
  (turn:∀ n s,I n s→wpAny (model pw w) A (pyNext it) (cp0 w A env R acc I n elt ifs target it) (cpE w A env R) s)
  (n:Nat) (h:I n s):codeAny (model pw w) A (.compLoop (.ListComp elt [⟨target,iter,ifs,0⟩] scope pos) 0 it acc env) R s:=by
 refine codeAny_loop rfl I (fun n s hI=>?_) n h
 show wpAny _ A ((compTurn (.ListComp elt [⟨target,iter,ifs,0⟩] scope pos) 0 it acc env).onRaise (fun x=>do noteFrame x env;theTreesLotGoes x)) _ _ s
 refine wpAny_noted ?_
 rw [compTurn_list]
 refine wpAny_bind (wpAny_standAt (wpAny_bind (wpAny_mono (turn n s hI) (fun r s₁ h₁=>?_) fun _ _ h'=>h')))
 cases r with
 | none=>exact wpAny_pure h₁
 | some v =>
  refine wpAny_bind (wpAny_mono h₁ (fun _ s₁' h₁'=>?_) fun _ _ h'=>h')
  refine wpAny_bind (wpAny_mono h₁' (fun _ s₂ h₂=>wpAny_bind (wpAny_mono h₂ (fun ok s₃ h₃=>?_) fun _ _ h'=>h')) fun _ _ h'=>h')
  cases ok with
  | false=>exact wpAny_pure ⟨rfl,h₃⟩
  | true =>
   exact wpAny_bind (wpAny_bind (wpAny_mono h₃ (fun x s₄ h₄=>wpAny_bind (wpAny_mono h₄ (fun _ s₅ h₅=>wpAny_pure (wpAny_pure ⟨rfl,h₅⟩)) fun _ _ h'=>h')) fun _ _ h'=>h'))
theorem go8 (P:Sem Unit→Prop) (t:Expr) {f:List Expr→Nat→Pos→Sem Unit} {g:List Expr→Pos→Sem Unit} {h:Expr→Sem Unit} (hf:∀ a b c,P (f a b c)) (hg:∀ a b,P (g a b)) (hh:∀ x,P (h x)):P (letOwnedTupleGo.match_8 (fun _=>Sem Unit) t f g h):=by
 cases t <;> first | exact hh _ | exact hf _ _ _ | exact hg _ _
theorem go5 (P:Sem Unit→Prop) (I:Addr) (v:Value) {f:Addr→Addr→Sem Unit} {h:Value×Value→Sem Unit} (hf:∀ b,P (f I b)) (hh:∀ x,P (h x)):P (letOwnedTupleGo.match_5 (fun _=>Sem Unit) (.ref I,v) f h):=by
 cases v <;> first | exact hh _ | exact hf _
theorem letGo_list {E:Value→Shared→Prop} {target:Expr} {I l:Addr} {i:Nat} {v:Value} {R:Unit→Shared→Prop} (h:s.heap.IsListIter I l i) (q:R () s):wpAny (model pw w) A (letOwnedTupleGo target (.ref I) v) R E s :=
 let ⟨o,ho,hc,hd⟩:=h
 have go:=go5 (fun t=>wpAny (model pw w) A t R E s) I v (fun b=>wpAny_bind (wpAny_load ho (by rw [hc,hd];exact wpAny_ite_false (decide_eq_false (by simp)) (wpAny_pure q)))) fun _=>wpAny_pure q
 go8 (fun t=>wpAny (model pw w) A t R E s) target (fun _ _ _=>go) (fun _ _=>go) fun _=>wpAny_pure q
noncomputable abbrev ifsT (ifs:List Expr) (env:Env):Sem Bool:=forIn ifs true fun c r=>if r=true then do let ok←isTrue c env (eval c env);pure (ForInStep.yield ok) else pure (ForInStep.yield r)
theorem TsT.ifs0 {Q:Bool→Store→Prop} (q:Q true S):TsT w B n env (ifsT [] env) loc S Q:=.mk fun _ _ _ _ _ W _=>by
 exact wpAny_pure (.now W q)
theorem TsT.ifs1 {c:Expr} {Q:Bool→Store→Prop} (h:TsA w B n env c loc S Q):TsT w B n env (ifsT [c] env) loc S Q:=.mk fun A σ s E ha W F=>by
 rw [ifsT,List.forIn_cons]
 refine wpAny_bind ?_
 refine wpAny_ite_true rfl ?_
 refine wpAny_bind (wpAny_mono (h.run A σ s E ha W F) (fun b s' p=>wpAny_pure ?_) fun _ _ e=>e)
 show wpAny _ _ (forIn [] b _) _ _ _
 exact wpAny_pure p
noncomputable def cellsX (cn:Option Str) (k:Nat) (cl:List (Str×Addr)):List (Str×Addr):=match cn with
 | none=>cl
 | some x=>(x,k)::cl
noncomputable def heapX (cn:Option Str) (h:Heap):Heap:=match cn with
 | none=>h
 | some _=>h.push { cls:=.type "cell",data:=.cell none }
noncomputable abbrev envX (scope:Scope) (cn:Option Str) (cl:List (Str×Addr)) (C:Addr) (env:Env):Env:=compEnvC scope (cellsX cn (C+1) cl) C env
noncomputable def ownX (cn:Option Str) (C:Addr):List Addr:=match cn with
 | none=>[C]
 | some _=>[C,C+1]
noncomputable def LiveX (cn:Option Str) (C:Addr) (h:Heap):Prop:=cn≠none→∃ v,h.IsCell (C+1) v
structure ExtX (σ:List Addr) (O:List Addr) (h h':Heap):Prop where
 keep:∀ a o,h.get? a=some o→a∉σ→a∉O→a≠50→a≠130→∃ o',h'.get? a=some o'∧Same o o'
inductive PstA (B:Bs) (σ:List Addr) (env:Env) (cn:Option Str) (s:Shared) (Q:Loc→Store→Prop) (s':Shared):Prop
 | mk (τ:List Addr) (loc':Loc) (S':Store) (W:Wd B (σ++τ) S' s') (n:∀ a∈τ,s.heap.get? a=none) (x:ExtX σ (ownX cn env.locals) s.heap s'.heap) (F:Fm B (σ++τ) env loc' s'.heap) (L:LiveX cn env.locals s'.heap) (q:Q loc' S')
structure AsT (w:World) (B:Bs) (n:Nat) (env:Env) (cn:Option Str) (t:Value→Sem Unit) (av:AV) (loc:Loc) (S:Store) (Q:Loc→Store→Prop):Prop where
 run:∀ A σ s E v,AOk B n A→Wd B σ S s→Fm B σ env loc s.heap→LiveX cn env.locals s.heap→RV σ s.heap av v→wpAny (model pw w) A (t v)
  (fun _ s'=>PstA B σ env cn s Q s') E s
theorem wp_newCompEnv {M:Model} {E:Value→Shared→Prop} {scope:Scope} {cl:List (Str×Addr)} {R:Env→Shared→Prop}
  (h:R { scope,locals:=s.heap.objs.size,globals:=env.globals,cells:=cellsFrom (s.heap.objs.size+1) scope.names cl,qual:=env.qual,func:=none,code:=env.code,frame:=env.frame,builtins:=env.builtins }
   { s with heap:=pushCells (s.heap.push { cls:=.type "dict",data:=.dict #[] }) scope.names }) :
  wpAny M A (newFunctionEnv scope env.globals cl [] env.qual none .none (some env)) R E s:=by
 simp only [newFunctionEnv,Option.isSome_some,if_true]
 refine wpAny_bind (wpAny_alloc ?_)
 refine wpAny_bind (wpAny_layCells _ (fun name kind cells=>by cases hkc:kind==NameKind.cell <;> simp [hkc]) _ _ _ _ ?_)
 rw [show ({ s with heap:=s.heap.push { cls:=.type "dict",data:=.dict #[] } }:Shared).heap.objs.size=s.heap.objs.size+1 from Heap.size_push ..]
 refine wpAny_bind ?_
 exact wpAny_pure (wpAny_pure h)
theorem cell_out (W:Wd B σ S s) {c:Addr} {v:Option Value} (e:s.heap.IsCell c v):c∉σ∧c≠50∧c≠130∧(∀ o,s.heap.get? c=some o→immO o=false∧nsO o=false):=by
 obtain ⟨o,ho,hd⟩:=e
 refine ⟨fun ha=>?_,?_,?_,fun o' e'=>?_⟩
 ·obtain ⟨vs,n,e'⟩:=W.listAt ha
  rw [ho] at e';cases e';cases hd
 ·rintro rfl
  obtain ⟨ps,e'⟩:=W.tabs.t50
  rw [ho] at e';cases e';cases hd
 ·rintro rfl
  obtain ⟨ps,e'⟩:=W.tabs.t130
  rw [ho] at e';cases e';cases hd
 ·rw [ho] at e';cases e'
  refine ⟨?_,nsO_cell hd⟩
  obtain ⟨c,d,dt,sl⟩:=o
  obtain rfl:dt=_:=hd
  cases c <;> rfl
theorem AsT.of {cn:Option Str} {t:Value→Sem Unit} {av:AV} {Q:Loc→Store→Prop} (h:StT w B n env t av loc S Q):AsT w B n env cn t av loc S Q:=.mk fun A σ s E v ha W F L r=>by
 refine h.bind v ha W F r fun _ s' τ af loc' S' W' f' x' F' _ q=>?_
 refine ⟨τ,loc',S',W',f',⟨fun a o e h1 h2 h3 h4=>x'.keep a o e h1 (fun q=>h2 (by rw [q];unfold ownX;cases cn <;> simp)) h3 h4⟩,F',fun hc=>?_,q⟩
 obtain ⟨v,hv⟩:=L hc
 obtain ⟨o,ho,hd⟩:=id hv
 obtain ⟨c1,c2,c3,_⟩:=cell_out W hv
 refine ⟨v,o,x'.same _ o ho c1 ?_ c2 c3 (nsO_cell hd),hd⟩
 exact fun q=>absurd q (Nat.succ_ne_self _)
theorem AsT.cell {cn x:Str} {p:Pos} {av:AV} {f:AV→Loc} {Q:Loc→Store→Prop} (hu:UpdF loc x f) (hk:env.kindOf x=some .cell) (hc:env.cells.lookup x=some (env.locals+1)) (hap:∀ y c,y≠x→env.cells.lookup y=some c→c≠env.locals+1)
  (hb:B.heap.get? (env.locals+1)=none) (q:Q (f av) S):AsT w B n env (some cn) (PySem.assign (.Name x p) env) av loc S Q:=.mk fun A σ s E v ha W F L r=>by
 obtain ⟨v₀,hv⟩:=L (by nofun)
 obtain ⟨c1,c2,c3,c4⟩:=cell_out W hv
 refine wpAny_assign_Name (wpAny_storeName_cell F.ok.kind hk hc hv fun h' hc' hs'=>?_)
 have W':Wd B σ S { s with heap:=h' }:=W.but hs'.extBut hb c1 c2 c3 (fun o e=>(c4 o e).1) (.inl fun o e=>(c4 o e).2)
 have rv:∀ av v,RV σ s.heap av v→RV σ h' av v:=fun av v r=>r.keep0 fun a o e i=>hs'.extBut a o (by rintro rfl;rw [(c4 _ e).1] at i;cases i) e
 refine let ZZ:Prop:=_;(?_:ZZ)
 obtain ⟨⟨m,hn,hm⟩,ok⟩:=F
 have hnl:env.locals≠env.locals+1:=Nat.ne_of_lt (Nat.lt_succ_self _)
 refine ⟨[],f av,S,by rw [List.append_nil];exact W',nofun,⟨fun a o e _ h2 _ _=>⟨o,hs'.extBut a o (by rintro rfl;exact h2 (by simp [ownX])) e,.refl o⟩⟩,?_,fun _=>⟨_,hc'⟩,q⟩
 rw [List.append_nil]
 refine ⟨⟨m,hn.sameBut hs' hnl,fun y bv hy=>?_⟩,⟨by rw [hu.names];exact ok.nodup,ok.kind,ok.glob,ok.blt,ok.big⟩⟩
 rcases hu.mem ok.nodup hy with ⟨rfl,rfl⟩ | ⟨hne,hy⟩
 ·exact .inr ⟨v,.inr ⟨hk,_,hc,hc'⟩,rv _ _ r⟩
 ·rcases hm y bv hy with q | ⟨u,q,ru⟩
  ·exact .inl q
  ·refine .inr ⟨u,?_,rv _ _ ru⟩
   rcases q with q | ⟨q1,c,q2,o',ho',hd'⟩
   ·exact .inl q
   ·exact .inr ⟨q1,c,q2,o',hs'.extBut _ _ (hap y c hne q2) ho',hd'⟩
theorem ExtX.new {τ:List Addr} {O:List Addr} {S₁:Store} {s₁:Shared} (W₁:Wd B (σ++τ) S₁ s₁) (x:ExtX σ O s.heap s₁.heap) (hO:∀ a∈O,s₁.heap.get? a≠none) {a:Addr} (h:s₁.heap.get? a=none):s.heap.get? a=none:=by
 cases e:s.heap.get? a with
 | none=>rfl
 | some o =>
  obtain ⟨h1,h2,h3⟩:=W₁.live h
  obtain ⟨o',this,_⟩:=x.keep a o e (fun q=>h1 (List.mem_append_left _ q)) (fun q=>hO a q h) h2 h3
  exact nos h this
theorem own_live {cn:Option Str} {h:Heap} (F:Fm B σ env loc h) (L:LiveX cn env.locals h):∀ a∈ownX cn env.locals,h.get? a≠none:=by
 intro a ha
 cases cn with
 | none=>rw [List.mem_singleton.mp ha];exact F.live
 | some x =>
  rcases List.mem_cons.mp ha with q | q
  ·rw [q];exact F.live
  ·rw [List.mem_singleton.mp q]
   obtain ⟨v,o,ho,_⟩:=L (by nofun)
   rw [ho];nofun
theorem AsT.tup2 {x y:Expr} {pos:Pos} {cn:Option Str} {k:Nat} {c d:Sc} {Q:Loc→Store→Prop} (hlen:(assignEach [x,y] env).map (·.2)=[PySem.assign x env,PySem.assign y env]:=by rfl) (hst:(assignEach [x,y] env).findIdx? (·.1)=none:=by rfl)
  (h:AsT w B n env cn (PySem.assign x env) (.sc c) loc S fun loc₁ S₁=>AsT w B n env cn (PySem.assign y env) (.sc d) loc₁ S₁ Q) :
  AsT w B n env cn (PySem.assign (.Tuple [x,y] k pos) env) (.tup [c,d]) loc S Q:=.mk fun A σ s E v ha W F L r=>by
 refine let ZZ:Prop:=_;(?_:ZZ)
 obtain ⟨a,us,rfl,e,hr⟩:=r
 refine let ZZ:Prop:=_;(?_:ZZ)
 obtain ⟨v1,v2,rfl,r1,r2⟩:=hr.two
 have ht:s.heap.IsTuple a #[v1,v2]:=⟨_,e,rfl,0,rfl⟩
 refine wpAny_assign_Tuple ha.handled ht (by have:=congrArg List.length hlen;simpa using this) hst fun h' hx=>?_
 have hk':∀ b o,s.heap.get? b=some o→h'.get? b=some o:=fun b o e=>hx b o (Nat.ne_of_lt (Heap.lt_size e)) e
 have X:Ext σ s.heap h':=Ext.of_keeps hk'
 have W':Wd B σ S { s with heap:=h' }:=W.keeps hk'
 have F':Fm B σ env loc h':=by have:=F.mono W [] X;rwa [List.append_nil] at this
 have L':LiveX cn env.locals h':=fun hc=>by obtain ⟨v,o,ho,hd⟩:=L hc;exact ⟨v,o,hk' _ _ ho,hd⟩
 rw [hlen]
 refine assignInOrder_cons (wpAny_mono (h.run A σ { s with heap:=h' } E v1 ha W' F' L' r1) (fun _ s₁ p=>?_) fun _ _ e=>e)
 refine let ZZ:Prop:=_;(?_:ZZ)
 obtain ⟨τ,loc₁,S₁,W₁,f₁,x₁,F₁,L₁,h₁⟩:=p
 refine assignInOrder_cons (wpAny_mono (h₁.run A (σ++τ) s₁ E v2 ha W₁ F₁ L₁ r2) (fun _ s₂ p=>?_) fun _ _ e=>e)
 refine assignInOrder_nil ?_
 refine let ZZ:Prop:=_;(?_:ZZ)
 obtain ⟨τ₂,loc₂,S₂,W₂,f₂,x₂,F₂,L₂,q⟩:=p
 have fr:∀ a,h'.get? a=none→s.heap.get? a=none:=fun a q=>by
  cases e:s.heap.get? a with
  | none=>rfl
  | some o=>rw [hk' _ _ e] at q;cases q
 refine ⟨τ++τ₂,loc₂,S₂,by rw [← List.append_assoc];exact W₂,fun a ha=>?_,⟨fun a o e h1 h2 h3 h4=>?_⟩,by rw [← List.append_assoc];exact F₂,L₂,q⟩
 ·rcases List.mem_append.mp ha with q | q
  ·exact fr a (f₁ a q)
  ·exact fr a (ExtX.new (s:={ s with heap:=h' }) W₁ x₁ (own_live F₁ L₁) (f₂ a q))
 ·refine let ZZ:Prop:=_;(?_:ZZ)
  obtain ⟨o₁,e₁,r₁⟩:=x₁.keep a o (hk' _ _ e) h1 h2 h3 h4
  obtain ⟨o₂,e₂,r₂⟩:=x₂.keep a o₁ e₁ (fun q=>by
   rcases List.mem_append.mp q with q | q
   ·exact h1 q
   ·rw [fr a (f₁ a q)] at e;cases e) h2 h3 h4
  exact ⟨o₂,e₂,r₁.trans r₂⟩
theorem LiveX.keep {cn:Option Str} {C:Addr} {s s':Shared} (W:Wd B σ S s) (X:Ext σ s.heap s'.heap) (L:LiveX cn C s.heap):LiveX cn C s'.heap:=fun hc=>let ⟨v,hv⟩:=L hc;⟨v,W.cell_kept X hv⟩
theorem Ext.toX {O:List Addr} {h h':Heap} (x:Ext σ h h'):ExtX σ O h h':=⟨fun a o e h1 _ h3 h4=>x.keep a o e h1 h3 h4⟩
theorem own_out {cn:Option Str} {h:Heap} (F:Fm B σ env loc h) (L:LiveX cn env.locals h) {a:Addr} {o:Obj} {vs} (e:h.get? a=some o) (hd:o.data=.fields vs):a∉ownX cn env.locals:=fun hm=>by
 cases cn with
 | none=>exact F.neF e hd (List.mem_singleton.mp hm)
 | some x =>
  rcases List.mem_cons.mp hm with q | q
  ·exact F.neF e hd q
  ·obtain ⟨v,oc,hoc,hdc⟩:=L (by nofun)
   rw [← List.mem_singleton.mp q,e] at hoc
   cases hoc;rw [hd] at hdc;cases hdc
structure Adv (B:Bs) (σ:List Addr) (h₁:Heap) (env:Env) (cn:Option Str) (it a:Addr) (m:Nat) (D:Addr) (j:Nat) (τ:List Addr) (lc:Loc) (S:Store) (s:Shared):Prop where
 V:Wd B (σ++τ) S s
 g:∀ b∈τ,h₁.get? b=none
 y:Ext σ h₁ s.heap
 G:Fm B (σ++τ) env lc s.heap
 L:LiveX cn env.locals s.heap
 i:s.heap.IsListIter it a j
 d:(σ++τ)[m]?=some D
theorem Adv.step {cn:Option Str} {it a D:Addr} {m j:Nat} {τ τ₂:List Addr} {lc lc₂:Loc} {S₁ S₂:Store} {s₁ s₂:Shared} (P:Adv B σ s₁.heap env cn it a m D j τ lc S s) (W₁:Wd B σ S₁ s₁) (own:∀ b∈ownX cn env.locals,s₁.heap.get? b=none)
  (V:Wd B (σ++τ++τ₂) S₂ s₂) (f:∀ b∈τ₂,s.heap.get? b=none) (x:ExtX (σ++τ) (ownX cn env.locals) s.heap s₂.heap) (G:Fm B (σ++τ++τ₂) env lc₂ s₂.heap) (L:LiveX cn env.locals s₂.heap):Adv B σ s₁.heap env cn it a m D j (τ++τ₂) lc₂ S₂ s₂:=by
 rw [List.append_assoc] at V G
 obtain ⟨o,ho,hc,hd⟩:=P.i
 have hout:=P.V.out_of_fields ho hc hd
 obtain ⟨o₂,e₂,r₂⟩:=x.keep it o ho hout.1 (own_out P.G P.L ho hd) hout.2.1 hout.2.2
 refine ⟨V,fun b hb=>(List.mem_append.mp hb).elim (P.g b) fun q=>Ext.new W₁ P.V P.y (f b q),⟨fun b o e h1 h2 h3=>?_⟩,G,L,⟨o,r₂.2 (nsO_fields hd)▸e₂,hc,hd⟩,by rw [← List.append_assoc,List.getElem?_append_left (List.getElem?_eq_some_iff.mp P.d).1];exact P.d⟩
 obtain ⟨o₂,e2,r2⟩:=P.y.keep b o e h1 h2 h3
 obtain ⟨o₃,e3,r3⟩:=x.keep b o₂ e2 (fun q=>(List.mem_append.mp q).elim h1 fun q=>nos (P.g b q) e) (fun q=>nos (own b q) e) h2 h3
 exact ⟨o₃,e3,r2.trans r3⟩
theorem Adv.ext {cn:Option Str} {it a D:Addr} {m j:Nat} {τ τ₂:List Addr} {lc:Loc} {S₁ S₂:Store} {s₁ s₂:Shared} (P:Adv B σ s₁.heap env cn it a m D j τ lc S s) (W₁:Wd B σ S₁ s₁) (own:∀ b∈ownX cn env.locals,s₁.heap.get? b=none)
  (V:Wd B (σ++τ++τ₂) S₂ s₂) (f:∀ b∈τ₂,s.heap.get? b=none) (x:Ext (σ++τ) s.heap s₂.heap):Adv B σ s₁.heap env cn it a m D j (τ++τ₂) lc S₂ s₂:=P.step W₁ own V f x.toX (P.G.mono P.V τ₂ x) (P.L.keep P.V x)
theorem Adv.but {cn:Option Str} {it a D:Addr} {m j:Nat} {τ:List Addr} {lc:Loc} {h₁ h':Heap} (P:Adv B σ h₁ env cn it a m D j τ lc S s) (hn:h₁.get? it=none) (hB:B.heap.get? it=none) (hs:Heap.ExtBut it s.heap h') :
  Wd B (σ++τ) S { s with heap:=h' }∧Fm B (σ++τ) env lc h'∧Ext σ h₁ h':=by
 obtain ⟨o,ho,hc,hd⟩:=P.i
 have hout:=P.V.out_of_fields ho hc hd
 exact ⟨P.V.but hs hB hout.1 hout.2.1 hout.2.2 (allOf ho (imm_listIter hc)) (.inl (allOf ho (nsO_fields hd))),P.G.but hs ho hd (imm_listIter hc),P.y.then fun b o e _ _ _ hl=>hs b o (fun q=>hl (q▸hn)) e⟩
theorem Adv.turn {cn:Option Str} {it a D:Addr} {m j j':Nat} {τ:List Addr} {lc:Loc} {h₁ h':Heap} (P:Adv B σ h₁ env cn it a m D j τ lc S s) (hn:h₁.get? it=none) (hB:B.heap.get? it=none) (hs:Heap.ExtBut it s.heap h') (hi:h'.IsListIter it a j') :
  Adv B σ h₁ env cn it a m D j' τ lc S { s with heap:=h' }:=by
 obtain ⟨V,G,y⟩:=P.but hn hB hs
 refine ⟨V,P.g,y,G,fun c=>?_,hi,P.d⟩
 obtain ⟨v,o,ho,hd⟩:=P.L c
 obtain ⟨o',ho',_,hd'⟩:=P.i
 exact ⟨v,o,hs _ _ (fun q=>by rw [q,ho'] at ho;cases ho;rw [hd'] at hd;cases hd) ho,hd⟩
inductive CI (B:Bs) (σ:List Addr) (env':Env) (l:List AV) (f:AV→Option AV) (S₁:Store) (h₁:Heap) (LC:Loc→Prop) (cn:Option Str) (it a D:Addr) (m:Nat) (s':Shared):Prop
 | mk (i:Nat) (τ:List Addr) (lc:Loc) (r:Store) (hm:m=l.length+1-i) (hil:i≤l.length) (P:Adv B σ h₁ env' cn it a S₁.length D i τ lc (S₁++(l.take i).filterMap f::r) s') (hlc:LC lc)
theorem CI.next {B:Bs} {σ τ:List Addr} {env':Env} {l:List AV} {f:AV→Option AV} {S₁ r:Store} {h₁:Heap} {LC:Loc→Prop} {cn:Option Str} {it a D:Addr} {i:Nat} {lc:Loc} {s':Shared} {x:List AV} (h:i<l.length) (P:Adv B σ h₁ env' cn it a S₁.length D (i+1) τ lc (S₁++x::r) s') (e:x=(l.take i).filterMap f++(f l[i]).toList) (hlc:LC lc) :
  ∃ m,m<l.length+1-i∧CI B σ env' l f S₁ h₁ LC cn it a D m s':=by
 refine ⟨_,Nat.sub_lt_sub_left (Nat.lt_succ_of_lt h) (Nat.lt_succ_self i),i+1,τ,lc,r,rfl,h,?_,hlc⟩
 rw [List.take_succ_eq_append_getElem h,List.filterMap_append,show [l[i]].filterMap f=(f l[i]).toList by cases q:f l[i] <;> simp [q],← e]
 exact P
theorem heapX_ok (cn:Option Str) (H:Heap):(heapX cn (H.push { cls:=.type "dict",data:=.dict #[] })).Ns H.objs.size (fun _=>none)∧(∀ b o,H.get? b=some o→(heapX cn (H.push { cls:=.type "dict",data:=.dict #[] })).get? b=some o)∧LiveX cn H.objs.size (heapX cn (H.push { cls:=.type "dict",data:=.dict #[] })):=by
 cases cn with
 | none=>exact ⟨Heap.Ns.new _ _,fun b o e=>Heap.get?_push_of_some _ e,fun hc=>absurd rfl hc⟩
 | some x =>
  refine ⟨(Heap.Ns.new _ _).push _,fun b o e=>Heap.get?_push_of_some _ (Heap.get?_push_of_some _ e),fun hc=>⟨none,⟨.type "cell",none,.cell none,#[]⟩,?_,rfl⟩⟩
  have:=Heap.get?_push_size (H.push { cls:=.type "dict",data:=.dict #[] }) (o:={ cls:=.type "cell",data:=.cell none }) rfl
  rwa [Heap.size_push] at this
theorem adv_start {scope:Scope} (cn:Option Str) (cl:List (Str×Addr)) (lc₀:Loc) {S₁:Store} {a it D C:Addr} {s₁:Shared} {H H':Heap} (W₁:Wd B σ S₁ s₁) (F₁:Fm B σ env loc s₁.heap)
  (hcl:∀ y c,cl.lookup y=some c→env.cells.lookup y=some c∧env.kindOf y=some .cell∧∃ av,(y,av)∈loc∧av.bd=true) (hkind:scope.kind=.function)
  (hcap:∀ x av,(x,av)∈lc₀→av=.unb∨((x,av)∈loc∧∃ c,cl.lookup x=some c∧∀ C,(envX scope cn cl C env).kindOf x=some .cell∧(envX scope cn cl C env).cells.lookup x=some c))
  (hnd:(lc₀.map (·.1)).Nodup) (W₃:Wd B (σ++[D]) (S₁++[[]]) { s₁ with heap:=H }) (x₃:Ext σ s₁.heap H) (fD:s₁.heap.get? D=none) (i₃:H.IsListIter it a 0) (hC:H.get? C=none) (hCc:H.get? (C+1)=none)
  (hns:H'.Ns C fun _=>none) (k₄:∀ b o,H.get? b=some o→H'.get? b=some o) (L₄:LiveX cn C H') :
  Adv B σ s₁.heap (envX scope cn cl C env) cn it a S₁.length D 0 [D] lc₀ (S₁++[[]]) { s₁ with heap:=H' }∧(∀ b∈ownX cn C,s₁.heap.get? b=none)∧∀ y c,cl.lookup y=some c→c≠C+1:=by
 have hC1:s₁.heap.get? C=none:=Ext.new W₁ W₃ x₃ hC
 have hCc1:s₁.heap.get? (C+1)=none:=Ext.new W₁ W₃ x₃ hCc
 have x₄:Ext σ s₁.heap H':=x₃.then fun b o e _ _ _ _=>k₄ _ _ e
 refine let ZZ:Prop:=_;(?_:ZZ)
 obtain ⟨⟨m,_,hm⟩,_⟩:=id F₁
 have look:∀ y c av,cl.lookup y=some c→(y,av)∈loc→av=.unb∨∃ v,RV σ s₁.heap av v∧s₁.heap.IsCell c v:=fun y c av hc e3=>by
  obtain ⟨e1,e2,_⟩:=hcl y c hc
  rcases hm y av e3 with q' | ⟨v,q',rv⟩
  ·exact .inl q'
  ·rcases q' with ⟨q1,_⟩ | ⟨_,c',q2,q3⟩
   ·exact absurd (e2.symm.trans q1) (by nofun)
   ·rw [e1] at q2;cases q2;exact .inr ⟨v,rv,q3⟩
 refine ⟨⟨W₃.keeps k₄,fun b hb=>List.mem_singleton.mp hb▸fD,x₄,⟨⟨_,hns,fun x av hx=>?_⟩,⟨hnd,hkind,F₁.ok.glob,F₁.ok.blt,W₃.newB hC⟩⟩,L₄,let ⟨oi,ho,r⟩:=i₃;⟨oi,k₄ _ _ ho,r⟩,by rw [← W₁.len,List.getElem?_append_right (Nat.le_refl _),Nat.sub_self];rfl⟩,
  fun b hb=>?_,fun y c hc q=>?_⟩
 ·rcases hcap x av hx with q | ⟨q1,c,q2,q3⟩
  ·exact .inl q
  ·exact (look x c av q2 q1).imp id fun ⟨v,rv,q6⟩=>⟨v,.inr ⟨(q3 _).1,c,(q3 _).2,W₁.cell_kept x₄ q6⟩,rv.mono W₁ x₄⟩
 ·unfold ownX at hb
  cases cn with
  | none=>exact List.mem_singleton.mp hb▸hC1
  | some x=>exact (List.mem_cons.mp hb).elim (fun q=>q▸hC1) fun q=>List.mem_singleton.mp q▸hCc1
 ·obtain ⟨_,_,av,e3,e4⟩:=hcl y c hc
  rcases look y c av hc e3 with rfl | ⟨v,_,o,q3,_⟩
  ·cases e4
  ·exact nos (q▸hCc1) q3
theorem comp_loop {elt target iter:Expr} {ifs:List Expr} {scope:Scope} {pos:Pos} (cn:Option Str) (lc₀:Loc) (LC:Loc→Prop) (l:List AV) (f:AV→Option AV) (k:Nat) (S₁:Store) {a it D:Addr} {s₁:Shared} {R:Result→Shared→Prop}
  (ha:AOk B n A) (W₁:Wd B σ S₁ s₁) (ha':σ[k]?=some a) (h0:LC lc₀) (hl:l.length≤fewItems) (hk:S₁[k]?=some l) (hn:s₁.heap.get? it=none) (hC:∀ b∈ownX cn env.locals,s₁.heap.get? b=none) (P:Adv B σ s₁.heap env cn it a S₁.length D 0 [D] lc₀ (S₁++[[]]) s)
  (turn:∀ acc r lc a,LC lc→a∈l→AsT w B n env cn (PySem.assign target env) a lc (S₁++acc::r) fun lc₂ S₂=>LC lc₂∧S₂=S₁++acc::r ∧
   TsT w B n env (ifsT ifs env) lc₂ S₂ fun b S₃=>∃ r₃,S₃=S₁++acc::r₃∧if b=true then EvA w B n env elt lc₂ S₃ (fun y S₄=>∃ r₄,S₄=S₁++acc::r₄∧f a=some y) else f a=none)
  (fin:∀ τ r s' m,Wd B (σ++τ) (S₁++l.filterMap f::r) s'→(∀ b∈τ,s₁.heap.get? b=none)→Ext σ s₁.heap s'.heap→s'.heap.Ns env.locals m→(σ++τ)[S₁.length]?=some D→R (.ok .next) s') :
  codeAny (model pw w) A (.compLoop (.ListComp elt [⟨target,iter,ifs,0⟩] scope pos) 0 (.ref it) (.ref D) env) R s:=by
 have hitB:B.heap.get? it=none:=W₁.newB hn
 refine compLoop_go (CI B σ env l f S₁ s₁.heap LC cn it a D) (fun m s₂ q=>?_) (l.length+1) ⟨0,[D],lc₀,[],rfl,Nat.zero_le _,P,h0⟩
 refine let ZZ:Prop:=_;(?_:ZZ)
 obtain ⟨i,τ,lc,r,rfl,hil,P,hlc⟩:=q
 have ha₂:(σ++τ)[k]?=some a:=by rw [List.getElem?_append_left (by exact (List.getElem?_eq_some_iff.mp ha').1)];exact ha'
 obtain ⟨a₂,vs₂,e₂,ha₃,pl₂,hr₂⟩:=P.V.lst (getP hk _) (v:=.ref a) ⟨a,ha₂,rfl⟩
 cases e₂
 by_cases hlt:i<l.length
 ·obtain ⟨y,hy,ry⟩:=hr₂.get (List.getElem?_eq_getElem hlt)
  refine wpAny_pyNext_list_item P.i pl₂.isList (x:=y) (by simpa using hy) fun h' hiter' hsame=>?_
  have P₃:=P.turn hn hitB hsame.extBut hiter'
  have ry':RV (σ++τ) h' l[i] y:=ry.keep0 fun b o e im=>hsame.extBut b o (fun q=>by
   obtain ⟨oi,hoi,hci,_⟩:=P.i
   rw [q,hoi] at e;cases e;rw [imm_listIter hci] at im;cases im) e
  refine letGo_list hiter' (wpAny_mono ((turn _ r lc l[i] hlc (List.getElem_mem hlt)).run A _ _ _ y ha P₃.V P₃.G P₃.L ry') (fun _ s₃ p=>?_) fun _ _ e=>e)
  refine let ZZ:Prop:=_;(?_:ZZ)
  obtain ⟨τ₃,lc₃,S₃,V₄,f₄,x₄,G₄,L₄,hlc₃,rfl,h₄⟩:=p
  have P₄:=P₃.step W₁ hC V₄ f₄ x₄ G₄ L₄
  refine h₄.bind ha P₄.V P₄.G fun ok s₄ τ₅ S₅ V₅ f₅ x₅ p=>?_
  refine let ZZ:Prop:=_;(?_:ZZ)
  obtain ⟨r₃,rfl,h₅⟩:=p
  have P₅:=P₄.ext W₁ hC V₅ f₅ x₅
  cases ok with
  | false=>exact ifN Bool.false_ne_true (CI.next hlt P₅ (by rw [unN Bool.false_ne_true h₅];exact (List.append_nil _).symm) hlc₃)
  | true =>
   refine ifP rfl ((unP rfl h₅).bind ha P₅.V P₅.G fun yv s₅ τ₆ av S₆ V₆ f₆ x₆ r₆ p=>?_)
   refine let ZZ:Prop:=_;(?_:ZZ)
   obtain ⟨r₄,rfl,hf⟩:=p
   have P₆:=P₅.ext W₁ hC V₆ f₆ x₆
   rw [List.append_assoc σ] at r₆
   refine (OpT.append (w:=w) (B:=B) (n:=n) (Q:=fun _ S'=>S'=(S₁++(l.take i).filterMap f::r₄).set S₁.length ((l.take i).filterMap f++[av])) (get0 _ _ _) (Nat.le_trans (List.length_filterMap_le _ _) (Nat.le_trans (by rw [List.length_take];exact Nat.min_le_right _ _) hl)) rfl).bind [.ref D,yv] ha P₆.V ⟨⟨D,P₆.d,rfl⟩,r₆,trivial⟩ fun _ s₆ τ₇ _ S₇ V₇ f₇ x₇ _ p=>?_
   exact CI.next hlt (P₆.ext W₁ hC ((p.trans (set0 _ _ _ _))▸V₇) f₇ x₇) (by rw [hf];rfl) hlc₃
 ·obtain rfl:i=l.length:=Nat.le_antisymm hil (Nat.le_of_not_lt hlt)
  refine wpAny_pyNext_list_end ha.handled P.i pl₂.isList (by rw [← Array.getElem?_toList,List.getElem?_eq_none_iff,hr₂.length];exact Nat.le_refl _) fun h' hext=>?_
  obtain ⟨V₃,G₃,y₃⟩:=P.but hn hitB hext
  obtain ⟨m,hm,_⟩:=G₃.ns
  rw [List.take_length] at V₃
  exact fin τ r _ m V₃ P.g y₃ hm P.d
theorem compX_core {E:Value→Shared→Prop} {elt target iter:Expr} {ifs:List Expr} {scope:Scope} {pos:Pos} (cn:Option Str) (cl:List (Str×Addr)) (lc₀:Loc) (LC:Loc→Prop) (l:List AV) (f:AV→Option AV) (k:Nat) (S₁:Store) {a:Addr} {s₁:Shared} {R:Value→Addr→Result→Shared→Prop}
  (ha:AOk B n A) (W₁:Wd B σ S₁ s₁) (F₁:Fm B σ env loc s₁.heap) (ha':σ[k]?=some a)
  (hcl:∀ y c,cl.lookup y=some c→env.cells.lookup y=some c∧env.kindOf y=some .cell∧∃ av,(y,av)∈loc∧av.bd=true)
  (hcells:∀ k,cellsFrom k scope.names cl=cellsX cn k cl) (hpush:∀ h,pushCells h scope.names=heapX cn h) (hkind:scope.kind=.function)
  (hcap:∀ x av,(x,av)∈lc₀→av=.unb∨((x,av)∈loc∧∃ c,cl.lookup x=some c∧∀ C,(envX scope cn cl C env).kindOf x=some .cell∧(envX scope cn cl C env).cells.lookup x=some c))
  (hnd:(lc₀.map (·.1)).Nodup) (h0:LC lc₀) (hl:l.length≤fewItems) (hk:S₁[k]?=some l)
  (turn:∀ C acc r lc a,B.heap.get? C=none→B.heap.get? (C+1)=none→(∀ y c,cl.lookup y=some c→c≠C+1)→LC lc→a∈l→AsT w B n (envX scope cn cl C env) cn (PySem.assign target (envX scope cn cl C env)) a lc (S₁++acc::r) fun lc₂ S₂=>LC lc₂∧S₂=S₁++acc::r ∧
   TsT w B n (envX scope cn cl C env) (ifsT ifs (envX scope cn cl C env)) lc₂ S₂ fun b S₃=>∃ r₃,S₃=S₁++acc::r₃∧if b=true then EvA w B n (envX scope cn cl C env) elt lc₂ S₃ (fun y S₄=>∃ r₄,S₄=S₁++acc::r₄∧f a=some y) else f a=none)
  (fin:∀ D C τ r s' m,s₁.heap.get? C=none→B.heap.get? C=none→Wd B (σ++τ) (S₁++l.filterMap f::r) s'→(∀ b∈τ,s₁.heap.get? b=none)→Ext σ s₁.heap s'.heap→s'.heap.Ns C m→(σ++τ)[S₁.length]?=some D→R (.ref D) C (.ok .next) s') :
  wpAny (model pw w) A (pyIter (.ref a)) (fun it s₂=>wpAny (model pw w) A (newList []) (fun acc s₃=>wpAny (model pw w) A (newFunctionEnv scope env.globals cl [] env.qual none .none (some env)) (fun cenv s₄ =>
   codeAny (model pw w) A (.compStart (.ListComp elt [⟨target,iter,ifs,0⟩] scope pos) 0 it acc { cenv with scope:=relabel scope env }) (R acc cenv.locals) s₄) E s₃) E s₂) E s₁:=by
 obtain ⟨b',vs,e',pl,hr⟩:=W₁.lists k l hk
 rw [ha'] at e';cases e'
 refine wpAny_pyIter_list pl.isList ?_
 have hn:s₁.heap.get? s₁.heap.objs.size=none:=Heap.get?_none_of_le (Nat.le_refl _)
 generalize hit:s₁.heap.objs.size=it at hn
 have W₂:Wd B σ S₁ { s₁ with heap:=s₁.heap.push { cls:=.type "list_iterator",data:=.fields #[.ref a,.int 0 0] } }:=W₁.push _
 have x₂:Ext σ s₁.heap (s₁.heap.push { cls:=.type "list_iterator",data:=.fields #[.ref a,.int 0 0] }):=Ext.push _ _
 have i₂:(s₁.heap.push { cls:=.type "list_iterator",data:=.fields #[.ref a,.int 0 0] }).IsListIter it a 0:=⟨_,by rw [← hit];exact Heap.get?_push_size _ rfl,rfl,rfl⟩
 generalize s₁.heap.push { cls:=.type "list_iterator",data:=.fields #[.ref a,.int 0 0] }=H₂ at W₂ x₂ i₂ ⊢
 refine wpAny_newList ?_
 have hD:H₂.get? H₂.objs.size=none:=Heap.get?_none_of_le (Nat.le_refl _)
 generalize hDD:H₂.objs.size=D at hD
 have W₃:Wd B (σ++[D]) (S₁++[[]]) { s₁ with heap:=H₂.push { cls:=.type "list",data:=.seq #[] } }:=hDD▸W₂.newList (s':={ s₁ with heap:=H₂.push { cls:=.type "list",data:=.seq #[] } }) rfl trivial
 have x₃:Ext σ s₁.heap (H₂.push { cls:=.type "list",data:=.seq #[] }):=x₂.then fun b o e _ _ _ _=>Heap.get?_push_of_some _ e
 have fD:s₁.heap.get? D=none:=Ext.new W₁ (τ:=[]) (by rw [List.append_nil];exact W₂) x₂ hD
 have i₃:(H₂.push { cls:=.type "list",data:=.seq #[] }).IsListIter it a 0:=let ⟨o,ho,r⟩:=i₂;⟨o,Heap.get?_push_of_some _ ho,r⟩
 generalize H₂.push { cls:=.type "list",data:=.seq #[] }=H₃ at W₃ x₃ i₃ ⊢
 refine wp_newCompEnv ?_
 rw [hcells,hpush]
 have hC:H₃.get? H₃.objs.size=none:=Heap.get?_none_of_le (Nat.le_refl _)
 have hCc:H₃.get? (H₃.objs.size+1)=none:=Heap.get?_none_of_le (Nat.le_succ _)
 obtain ⟨hns,k₄,L₄⟩:=heapX_ok cn H₃
 obtain ⟨P,hO,hclC⟩:=adv_start cn cl lc₀ W₁ F₁ hcl hkind hcap hnd W₃ x₃ fD i₃ hC hCc hns k₄ L₄
 generalize H₃.objs.size=C at hC hCc hns L₄ P hO hclC ⊢
 generalize heapX cn (H₃.push { cls:=.type "dict",data:=.dict #[] })=H₄ at hns k₄ L₄ P ⊢
 have loop:codeAny (model pw w) A (.compLoop (.ListComp elt [⟨target,iter,ifs,0⟩] scope pos) 0 (.ref it) (.ref D) (envX scope cn cl C env)) (R (.ref D) C) { s₁ with heap:=H₄ } :=
  comp_loop cn lc₀ LC l f k S₁ ha W₁ ha' h0 hl hk hn hO P (fun acc r lc a h1 h2=>turn _ acc r lc a (W₃.newB hC) (W₃.newB hCc) hclC h1 h2) fun τ r s' m V g y hm d=>fin D _ τ r _ m (Ext.new W₁ W₃ x₃ hC) (W₃.newB hC) V g y hm d
 exact codeAny_compStart_list loop (wpAny_pyIter_listiter P.i loop)
theorem imm_dict {o:Obj} {es ep} (h:o.data=.dict es ep):immO o=false:=by
 obtain ⟨c,d,dt,sl⟩:=o
 obtain rfl:dt=_:=h
 cases c <;> rfl
theorem EvA.compX {elt target iter:Expr} {ifs:List Expr} {scope:Scope} {pos:Pos} (cn:Option Str) (cl:List (Str×Addr)) (lc₀:Loc) (LC:Loc→Prop) (l:List AV) (f:AV→Option AV) (k:Nat) (S₁:Store)
  (hclos:closureFor scope env=pure cl) (hcl:∀ y c,cl.lookup y=some c→env.cells.lookup y=some c∧env.kindOf y=some .cell∧∃ av,(y,av)∈loc∧av.bd=true)
  (hcells:∀ k,cellsFrom k scope.names cl=cellsX cn k cl) (hpush:∀ h,pushCells h scope.names=heapX cn h) (hkind:scope.kind=.function) (hloc:∀ x∈scope.names,x.2=.local→scope.names.lookup x.1=some .local)
  (hcap:∀ x av,(x,av)∈lc₀→av=.unb∨((x,av)∈loc∧∃ c,cl.lookup x=some c∧∀ C,(envX scope cn cl C env).kindOf x=some .cell∧(envX scope cn cl C env).cells.lookup x=some c))
  (hnd:(lc₀.map (·.1)).Nodup) (h0:LC lc₀) (hl:l.length≤fewItems) (hk:S₁[k]?=some l)
  (h:EvA w B n env iter loc S fun av S'=>av=.lst k∧S'=S₁)
  (turn:∀ C acc r lc a,B.heap.get? C=none→B.heap.get? (C+1)=none→(∀ y c,cl.lookup y=some c→c≠C+1)→LC lc→a∈l→AsT w B n (envX scope cn cl C env) cn (PySem.assign target (envX scope cn cl C env)) a lc (S₁++acc::r) fun lc₂ S₂=>LC lc₂∧S₂=S₁++acc::r ∧
   TsT w B n (envX scope cn cl C env) (ifsT ifs (envX scope cn cl C env)) lc₂ S₂ fun b S₃=>∃ r₃,S₃=S₁++acc::r₃∧if b=true then EvA w B n (envX scope cn cl C env) elt lc₂ S₃ (fun y S₄=>∃ r₄,S₄=S₁++acc::r₄∧f a=some y) else f a=none)
  (q:∀ r,Q (.lst S₁.length) (S₁++l.filterMap f::r))
  (hs:∀ x,foldedSetIterable iter env x=pure x:=by intro _;rfl):EvA w B n env (.ListComp elt [⟨target,iter,ifs,0⟩] scope pos) loc S Q:=.mk fun A σ s E ha W F=>by
 refine wpAny_comprehension_free (use:=none) (g:=⟨target,iter,ifs,0⟩) (gs:=[]) rfl hs hclos hkind hloc (h.bind ha W F fun v s₁ τ av S₁' W₁ f₁ x₁ r₁ p=>?_)
 refine let ZZ:Prop:=_;(?_:ZZ)
 obtain ⟨rfl,rfl⟩:=p
 obtain ⟨a,ha',rfl⟩:=r₁
 refine compX_core (R:=compPost (model pw w) A E none (Pst B σ s Q)) cn cl lc₀ LC l f k S₁' ha W₁ (F.mono W τ x₁) ha' hcl hcells hpush hkind hcap hnd h0 hl hk turn fun D C τ' r s' m hC hCB W' f' x' hm hD=>?_
 refine ⟨m,hm,fun h'' hs''=>?_⟩
 refine let ZZ:Prop:=_;(?_:ZZ)
 obtain ⟨o,es,ep,ho,hd,_⟩:=hm
 have hout:=W'.out_of_dict ho hd
 have hi:=imm_dict hd
 have W'':Wd B (σ++τ++τ') (S₁'++l.filterMap f::r) { s' with heap:=h'' }:=W'.but (s':={ s' with heap:=h'' }) (L:=C) hs''.extBut hCB hout.1 hout.2.1 hout.2.2 ((allOf ho (hi))) (.inr (.inr (W₁.noFr hC)))
 have y:Ext (σ++τ) s₁.heap h'':=x'.then fun b o e _ _ _ hl=>hs''.extBut b o (fun q=>hl (q▸hC)) e
 have p:Pst B (σ++τ) s₁ Q (.ref D) { s' with heap:=h'' }:=⟨τ',.lst S₁'.length,_,W'',f',y,⟨D,hD,rfl⟩,q r⟩
 exact p.back W W₁ x₁ f₁
theorem ExA.assignCompX {x:Str} {px spos:Pos} {g:AV→Loc} {elt target iter:Expr} {ifs:List Expr} {scope:Scope} {pos:Pos} (cn:Option Str) (cl:List (Str×Addr)) (lc₀:Loc) (LC:Loc→Prop) (l:List AV) (f:AV→Option AV) (k:Nat) (S₁:Store)
  (hu:UpdF loc x g) (hclos:closureFor scope env=pure cl) (hcl:∀ y c,cl.lookup y=some c→env.cells.lookup y=some c∧env.kindOf y=some .cell∧∃ av,(y,av)∈loc∧av.bd=true)
  (hcells:∀ k,cellsFrom k scope.names cl=cellsX cn k cl) (hpush:∀ h,pushCells h scope.names=heapX cn h) (hkind:scope.kind=.function) (hloc:∀ x∈scope.names,x.2=.local→scope.names.lookup x.1=some .local)
  (hcap:∀ x av,(x,av)∈lc₀→av=.unb∨((x,av)∈loc∧∃ c,cl.lookup x=some c∧∀ C,(envX scope cn cl C env).kindOf x=some .cell∧(envX scope cn cl C env).cells.lookup x=some c))
  (hnd:(lc₀.map (·.1)).Nodup) (h0:LC lc₀) (hl:l.length≤fewItems) (hk:S₁[k]?=some l)
  (h:EvA w B n env iter loc S fun av S'=>av=.lst k∧S'=S₁)
  (turn:∀ C acc r lc a,B.heap.get? C=none→B.heap.get? (C+1)=none→(∀ y c,cl.lookup y=some c→c≠C+1)→LC lc→a∈l→AsT w B n (envX scope cn cl C env) cn (PySem.assign target (envX scope cn cl C env)) a lc (S₁++acc::r) fun lc₂ S₂=>LC lc₂∧S₂=S₁++acc::r ∧
   TsT w B n (envX scope cn cl C env) (ifsT ifs (envX scope cn cl C env)) lc₂ S₂ fun b S₃=>∃ r₃,S₃=S₁++acc::r₃∧if b=true then EvA w B n (envX scope cn cl C env) elt lc₂ S₃ (fun y S₄=>∃ r₄,S₄=S₁++acc::r₄∧f a=some y) else f a=none)
  (q:∀ r,ExA w B n env rest (g (.lst S₁.length)) (S₁++l.filterMap f::r) K)
  (hkx:env.kindOf x=some .local:=by kernel_rfl) (hsw:swapsWith (.ListComp elt [⟨target,iter,ifs,0⟩] scope pos) (some (.Name x px)) spos.line env=pure true:=by rfl)
  (hs:∀ x,foldedSetIterable iter env x=pure x:=by intro _;rfl):ExA w B n env (.Assign [.Name x px] (.ListComp elt [⟨target,iter,ifs,0⟩] scope pos) spos::rest) loc S K:=ExA.cons <| .mk fun A σ s E ha W F=>by
 rw [exec_Assign_Name_used _ _ _ _ hsw]
 refine wpAny_bind (wpAny_standAt (wpAny_bind ?_))
 refine wpAny_bind (wpAny_mono (wpAny_comprehension_free (use:=some (PySem.assign (.Name x px) env)) (g:=⟨target,iter,ifs,0⟩) (gs:=[]) (Q:=fun _ s'=>PstF B σ env s (kS w B n env rest K) .next s') rfl hs hclos hkind hloc
  (h.bind ha W F fun v s₁ τ av S₁' W₁ f₁ x₁ r₁ p=>?_)) (fun _ s' hq=>wpAny_pure (wpAny_pure hq)) fun _ _ e=>e)
 refine let ZZ:Prop:=_;(?_:ZZ)
 obtain ⟨rfl,rfl⟩:=p
 obtain ⟨a,ha',rfl⟩:=r₁
 have F₁:=F.mono W τ x₁
 refine compX_core (R:=compPost (model pw w) A E (some (PySem.assign (.Name x px) env)) (fun _ s'=>PstF B σ env s (kS w B n env rest K) .next s')) cn cl lc₀ LC l f k S₁' ha W₁ F₁ ha' hcl hcells hpush hkind hcap hnd h0 hl hk turn fun D C τ' r s' m hC hCB W' f' x' hm hD=>?_
 have F':=F₁.mono W₁ τ' x'
 have hLC:C≠env.locals:=fun q=>F₁.live (q▸hC)
 refine (StT.name (Q:=fun loc' S'=>loc'=g (.lst S₁'.length)∧S'=S₁'++l.filterMap f::r) hu hkx ⟨rfl,rfl⟩).bind (.ref D) ha W' F' ⟨D,hD,rfl⟩ fun _ s'' τ₂ af loc₂ S₂ W₂ f₂ x₂ F₂ _ p=>?_
 refine let ZZ:Prop:=_;(?_:ZZ)
 obtain ⟨rfl,rfl⟩:=p
 refine let ZZ:Prop:=_;(?_:ZZ)
 obtain ⟨o,es,ep,ho,hd,hrr⟩:=hm
 have hout:=W'.out_of_dict ho hd
 obtain ⟨o₂,ho₂,sm⟩:=x₂.keep C o ho hout.1 hLC hout.2.1 hout.2.2
 have hd₂:o₂.data=.dict es ep:=sm.data.trans hd
 refine ⟨m,⟨o₂,es,ep,ho₂,hd₂,hrr⟩,fun h₃ hs₃=>?_⟩
 have hout₂:=W₂.out_of_dict ho₂ hd₂
 have hi:=imm_dict hd₂
 refine PstF.back F.live W₁ F₁ x₁.toF f₁ ⟨τ'++τ₂,.next,_,_,by rw [← List.append_assoc];exact W₂.but (s':={ s'' with heap:=h₃ }) (L:=C) hs₃.extBut hCB hout₂.1 hout₂.2.1 hout₂.2.2 (allOf ho₂ hi) (.inr (.inr (W₁.noFr hC))),
  fun b hb=>(List.mem_append.mp hb).elim (f' b) fun q=>Ext.new W₁ W' x' (f₂ b q),(x'.toF.trans x₂ f').then fun b o e _ _ _ _ hl=>hs₃.extBut b o (fun q=>hl (q▸hC)) e,
  by rw [← List.append_assoc];exact F₂.butG hs₃.extBut ho₂ hi (fun v e=>nomatch hd₂.symm.trans e) hLC,rfl,q r⟩
theorem EvA.comp {elt target iter:Expr} {ifs:List Expr} {scope:Scope} {pos:Pos} (lc₀:Loc) (LC:Loc→Prop) (l:List AV) (f:AV→Option AV) (k:Nat) (S₁:Store)
  (hclos:closureFor scope env=pure []) (hcells:∀ k,cellsFrom k scope.names []=[]) (hpush:∀ h,pushCells h scope.names=h) (hkind:scope.kind=.function) (hloc:∀ x∈scope.names,x.2=.local→scope.names.lookup x.1=some .local)
  (hunb:∀ x av,(x,av)∈lc₀→av=.unb) (hnd:(lc₀.map (·.1)).Nodup) (h0:LC lc₀) (hl:l.length≤fewItems) (hk:S₁[k]?=some l)
  (h:EvA w B n env iter loc S fun av S'=>av=.lst k∧S'=S₁)
  (turn:∀ C acc r lc a,B.heap.get? C=none→LC lc→a∈l→StT w B n (envX scope none [] C env) (PySem.assign target (envX scope none [] C env)) a lc (S₁++acc::r) fun lc₂ S₂=>LC lc₂∧S₂=S₁++acc::r ∧
   TsT w B n (envX scope none [] C env) (ifsT ifs (envX scope none [] C env)) lc₂ S₂ fun b S₃=>∃ r₃,S₃=S₁++acc::r₃∧if b=true then EvA w B n (envX scope none [] C env) elt lc₂ S₃ (fun y S₄=>∃ r₄,S₄=S₁++acc::r₄∧f a=some y) else f a=none)
  (q:∀ r,Q (.lst S₁.length) (S₁++l.filterMap f::r))
  (hs:∀ x,foldedSetIterable iter env x=pure x:=by intro _;rfl):EvA w B n env (.ListComp elt [⟨target,iter,ifs,0⟩] scope pos) loc S Q :=
 EvA.compX none [] lc₀ LC l f k S₁ hclos (fun _ _ e=>by cases e) hcells hpush hkind hloc (fun x av hx=>.inl (hunb x av hx)) hnd h0 hl hk h (fun C acc r lc a h1 _ _ h2 h3=>.of (turn C acc r lc a h1 h2 h3)) q hs
end
section
variable {w:World} {B:Bs} {n:Nat} {env:Env} {loc:Loc} {S:Store} {σ:List Addr} {s:Shared} {A:Around} {Q:AV→Store→Prop} {K:AF→Loc→Store→Prop} {rest:List Stmt}
section
open Builtin Builtin.Str
theorem strs_of {σ:List Addr} {h:Heap} {l:List Str} {vs:List Value} (r:All2 (RV σ h) (l.map .str) vs):∃ ps:List (Str×Tok),vs=strValues ps∧ps.map (·.1)=l :=
 All2.indM (P:=fun l vs=>∃ ps:List (Str×Tok),vs=strValues ps∧ps.map (·.1)=l) ⟨[],rfl,rfl⟩ (fun x v l vs r ih=>by
  obtain ⟨t,rfl⟩:=r;obtain ⟨ps,rfl,rfl⟩:=ih;exact ⟨(x,t)::ps,rfl,rfl⟩) r
theorem join_meets (sep:Str) (t:Tok) (a:Addr) (ps:List (Str×Tok)) (hs:tooLong ((ps.map Prod.fst).toArray.foldl (fun (n:Nat) (s:Str)=>n+s.length+sep.length) 0)=false):Meets (Builtin.«str.join» ⟨[.str sep t,.ref a],[]⟩)
  (fun _ R s=>(∃ n,s.heap.get? a=some { cls:=.type "list",data:=.seq (strValues ps).toArray n })∧(glued sep (ps.map Prod.fst)).length≤sizeLine∧∀ t k,R (.ok (.ret (.str (glued sep (ps.map Prod.fst)) t))) { s with toks:=k }):=by
 intro prog w A R s q
 obtain ⟨⟨n,ho⟩,hl,h⟩:=q
 obtain ⟨other,e⟩:=join_tree sep t a
 rw [e]
 refine wpAny_bind (wpAny_typeOf ⟨_,ho,rfl⟩ ?_)
 refine wpAny_ite_true (decide_eq_true (by decide)) ?_
 refine wpAny_bind (wpAny_seqItems ho rfl ?_)
 cases ps with
 | nil=>exact gives_joinTail sep [] hs prog w A R s ⟨hl,h _ _⟩
 | cons p ps=>cases ps with
  | nil=>exact gives_joinTail sep [p] hs prog w A R s (h p.2 s.toks)
  | cons p2 ps=>exact gives_joinTail sep (p::p2::ps) hs prog w A R s ⟨hl,h _ _⟩
theorem foldl_len (sep:Str):∀ (l:List Str) (n:Nat),l.foldl (fun (n:Nat) (s:Str)=>n+s.length+sep.length) n=n+(l.map fun s=>s.length+sep.length).sum
 | [],n=>by simp
 | a::l,n=>by rw [List.foldl_cons,foldl_len sep l];simp;lia
noncomputable def joinS (sep:Str) (l:List Str):Str:=glued sep l
theorem few_line:fewItems≤sizeLine:=by decide
theorem OpT.join {sep:Str} {k:Nat} {l:List Str} (hk:S[k]?=some (l.map .str)) (hl:(l.map fun s=>s.length+sep.length).sum≤fewItems) (hg:(glued sep l).length≤fewItems) (q:Q (.str (joinS sep l)) S):OpT w B n (Mine.callB "str.join") [.str sep,.lst k] S Q:=.mk fun A σ s E vs ha W r=>by
 obtain ⟨v1,v2,rfl,⟨t,rfl⟩,r2⟩:=r.two
 obtain ⟨a,us,rfl,_,⟨n,p⟩,hr⟩:=W.lst hk r2
 obtain ⟨ps,hps,rfl⟩:=strs_of hr
 have hus:us=(strValues ps).toArray:=by rw [← hps]
 subst hus
 refine call_meets PySem.F.slot_str_join (typeIs_str s sep t) PySem.F.entry_str_join (PySem.F.args_str_join_2 _ _) (join_meets sep t a ps ?_) ⟨⟨n,p⟩,?_⟩
 ·have:(ps.map Prod.fst).toArray.foldl (fun (n:Nat) (s:Str)=>n+s.length+sep.length) 0=((ps.map Prod.fst).map fun s=>s.length+sep.length).sum:=by
   rw [← Array.foldl_toList,List.toList_toArray,foldl_len,Nat.zero_add]
  rw [this]
  unfold tooLong
  rw [decide_eq_false_iff_not]
  have hl':((ps.map Prod.fst).map fun s=>s.length+sep.length).sum≤fewItems:=hl
  have:=few_line
  lia
 ·exact ⟨Nat.le_trans hg few_line,fun t k=>Pst.sc W (c:=.str _) ⟨t,rfl⟩ q⟩
end
end
section
variable {w:World} {B:Bs} {n:Nat} {env:Env} {loc:Loc} {S:Store} {σ:List Addr} {s:Shared} {A:Around} {Q:AV→Store→Prop} {K:AF→Loc→Store→Prop} {rest:List Stmt}
noncomputable def sign (i:Int):Str:=⟨#[i.toNat]⟩
noncomputable def dash:Str:="-"
noncomputable def pieceS (p:Int×Int):Str:=sign p.1++dash++sign p.2
noncomputable def pieceF:AV→Option AV
 | .tup [.int x,.int y]=>some (.str (pieceS (x,y)))
 | _=>none
theorem piece_map (l:List (Int×Int)):(pairs l).filterMap pieceF=(l.map pieceS).map .str:=by
 induction l with
 | nil=>rfl
 | cons p l ih =>
  show List.filterMap pieceF (.pair p::pairs l)=_
  rw [List.filterMap_cons_some (f:=pieceF) (b:=AV.str (pieceS p)) rfl,ih];rfl
theorem pieceS_len (p:Int×Int):(pieceS p).length=3:=by
 unfold pieceS
 rw [Str.length_append,Str.length_append]
 have:dash.length=1:=by decide +kernel
 rw [this];rfl
theorem dash_len:dash.length=1:=by decide +kernel
noncomputable def okP (p:Int×Int):Prop:=0≤p.1∧p.1≤1114111∧0≤p.2∧p.2≤1114111
theorem glued_len (sep:Str) (hsep:sep.length=0):∀ (l:List Str),(Builtin.Str.glued sep l).length=(l.map fun s=>s.length).sum:=by
 intro l
 have key:∀ (l:List Str) (acc:Array Nat),(l.foldl (fun acc p=>acc++sep.cps++p.cps) acc).size=acc.size+(l.map fun s=>s.length).sum:=by
  intro l
  induction l with
  | nil=>intro acc;simp
  | cons a l ih =>
   intro acc
   rw [List.foldl_cons,ih]
   have h0:sep.cps.size=0:=hsep
   have h1:a.cps.size=a.length:=rfl
   simp only [Array.size_append,List.map_cons,List.sum_cons]
   lia
 cases l with
 | nil=>rfl
 | cons a l =>
  show (l.foldl (fun acc p=>acc++sep.cps++p.cps) a.cps).size=_
  rw [key];rfl
noncomputable def nilS:Str:=""
theorem nilS_len:nilS.length=0:=by decide +kernel
noncomputable def brS (l:List (Int×Int)):Str:=joinS nilS (l.map pieceS)++("]":Str)
theorem sum_pieces (l:List (Int×Int)):((l.map pieceS).map fun s=>s.length).sum=3*l.length:=by
 induction l with
 | nil=>rfl
 | cons p l ih=>simp only [List.map_cons,List.sum_cons,ih,pieceS_len,List.length_cons];lia
theorem join_pieces_len (l:List (Int×Int)):(joinS nilS (l.map pieceS)).length=3*l.length:=by
 unfold joinS;rw [glued_len _ nilS_len,sum_pieces]
theorem bracket_w (H:St w B) {k:Nat} {l:List (Int×Int)} (hk:S[k]?=some (pairs l)) (hl:l.length≤100) (hok:∀ p∈l,okP p)
  (q:∀ r,Q (.str (brS l)) (S++r)):OpT w B (n+1) (callD 187) [.lst k] S Q:=by
 refine OpT.def H (ps:=["ranges"]) [] [("ranges",.lst k)] (f_law_bracket _) (c_law_bracket _) rfl (all1 fun _=>by kernel_rfl) (by decide +kernel) (by decide +kernel) (by decide +kernel) (fun L hL H=>?_)
 refine ExA.ret (EvA.bin (EvA.meth (T:="str") (id:="str.join") ?_ PySem.F.plainAttrs_str PySem.F.slot_str_join PySem.F.type_str_join))
 walk_at "s"
 refine ⟨rfl,ArT.cons (EvA.comp [("low",.unb),("high",.unb)] (fun lc=>∃ a b:AV,lc=([("low",a),("high",b)]:Loc)) (pairs l) pieceF k S (by rfl) (fun _=>rfl) (fun _=>rfl) rfl (by decide +kernel)
  (fun x av h=>by simp at h;rcases h with h | h <;> exact h.2) (by decide +kernel) ⟨_,_,rfl⟩ (by rw [pairs_len];unfold fewItems;lia) hk ?_ ?_ ?_)⟩
 ·walk_at "s"
  exact ⟨rfl,rfl⟩
 ·rintro C acc r lc a hC ⟨b,c,rfl⟩ ha
  obtain ⟨p,hp,rfl⟩:=List.mem_map.mp ha
  obtain ⟨h1,h2,h3,h4⟩:=hok p hp
  refine StT.tup2 (by walk_at "u") (by walk_at "u") (by kernel_rfl) (by kernel_rfl) ⟨⟨_,_,rfl⟩,rfl,TsT.ifs0 ⟨r,rfl,?_⟩⟩
  refine ifP rfl ?_
  refine EvA.bin (EvA.bin (EvA.callB H (n_chr _) (b_chr _) (by kernel_rfl) ?_))
  walk_at "s"
  refine OpT.chr h1 h2 ?_
  walk_at "s"
  refine OpT.addS (y:=dash) (by rw [dash_len];show 1+1≤fewItems;decide) ?_
  refine EvA.callB H (n_chr _) (b_chr _) (by kernel_rfl) ?_
  walk_at "s"
  refine OpT.chr h3 h4 ?_
  refine OpT.addS (by rw [Str.length_append,dash_len];show 1+1+1≤fewItems;decide) ⟨r,rfl,rfl⟩
 ·intro r
  rw [piece_map]
  walk_at "s"
  have hs:=sum_pieces l
  refine OpT.join (sep:=nilS) (get0 _ _ _) (by simp only [nilS_len,Nat.add_zero];rw [hs];unfold fewItems;lia) (by rw [glued_len _ nilS_len,hs];unfold fewItems;lia) ?_
  walk_at "s"
  refine OpT.addS ?_ ?_
  ·rw [join_pieces_len]
   have:(Str.ofString "]").length=1:=by decide +kernel
   rw [this];unfold fewItems;lia
  ·exact q _
theorem str_beq (x y:Str):(x.cps.toList==y.cps.toList)=decide (x=y):=by
 rw [Bool.eq_iff_iff,beq_iff_eq,decide_eq_true_eq]
 exact ⟨str_ext,fun h=>by rw [h]⟩
theorem OpT.eqS {x y:Str} (q:Q (.bool (decide (x=y))) S):OpT w B n (opC .Eq) [.str x,.str y] S Q:=.mk fun A σ s E vs ha W r=>by
 obtain ⟨v1,v2,rfl,⟨t,rfl⟩,⟨u,rfl⟩⟩:=r.two
 exact P.eq_str (Pst.sc W (c:=.bool (decide (x=y))) (by rw [str_beq];rfl) q)
theorem OpT.neS {x y:Str} (q:Q (.bool (decide (x≠y))) S):OpT w B n (opC .NotEq) [.str x,.str y] S Q:=.mk fun A σ s E vs ha W r=>by
 obtain ⟨v1,v2,rfl,⟨t,rfl⟩,⟨u,rfl⟩⟩:=r.two
 refine P.ne_str (Pst.sc W (c:=.bool (decide (x≠y))) ?_ q)
 have:=str_beq x y
 show Value.bool (!(x.cps.toList==y.cps.toList))=_
 rw [this];simp
theorem OpT.negI {i:Int} (q:Q (.int (-i)) S):OpT w B n (fun vs=>unaryOp .USub (vs.getD 0 .none)) [.int i] S Q:=.mk fun A σ s E vs ha W r=>by
 obtain ⟨v1,rfl,⟨t,rfl⟩⟩:=r.one
 exact PyProof.Rows.neg_int (Pst.sc W (c:=.int (-i)) ⟨_,rfl⟩ q)
noncomputable def pickL (l:List AV) (lo hi st:Option Int):List AV :=
 (sliceRange (sliceBounds lo hi st l.length).1 (sliceBounds lo hi st l.length).2.1 (sliceBounds lo hi st l.length).2.2).filterMap (l[·]?)
theorem All2.places {α β:Type} {R:α→β→Prop} {l:List α} {m:List β} (h:All2 R l m):∀ js:List Nat,All2 R (js.filterMap (l[·]?)) (js.filterMap (m[·]?))
 | []=>trivial
 | j::js=>by
  have ih:=h.places js
  cases e:l[j]? with
  | some a =>
   obtain ⟨b,hb,r⟩:=h.get e
   rw [List.filterMap_cons_some e,List.filterMap_cons_some hb]
   exact ⟨r,ih⟩
  | none =>
   have hb:m[j]?=none:=by
    rw [List.getElem?_eq_none_iff] at e ⊢
    rw [← h.length];exact e
   rw [List.filterMap_cons_none e,List.filterMap_cons_none hb]
   exact ih
theorem sub_slice3 {E:Value→Shared→Prop} {value:Expr} {lower upper:Option Expr} {step:Expr} {p pos:Pos} {R:Value→Shared→Prop}
  (h:wpAny (model pw w) A (eval value env) (fun o s₁=>wpAny (model pw w) A (evalPart lower env) (fun l s₂=>wpAny (model pw w) A (evalPart upper env) (fun u s₃=>wpAny (model pw w) A (evalPart (some step) env) (fun st s₄=>(∃ T id,typeLookup (.type T) "__getitem__"=pure (Option.some (.builtin id))∧s₄.TypeIs o T) ∧
   wpAny (model pw w) A (getItem o (.ref s₄.heap.objs.size)) R E { s₄ with heap:=s₄.heap.push { cls:=.type "slice",data:=.fields #[l,u,st] } }) E s₃) E s₂) E s₁) E s) :
  wpAny (model pw w) A (eval (.Subscript value (.Slice lower upper (some step) p) pos) env) R E s:=by
 refine wpAny_bind (wpAny_mono h (fun o s₁ h₁=>wpAny_bind (wpAny_holding (wpAny_Slice (wpAny_mono h₁ (fun l s₂ h₂=>wpAny_mono h₂ (fun u s₃ h₃=>wpAny_mono h₃ (fun st s₄ h₄=>?_) fun _ _ x=>x) fun _ _ x=>x) fun _ _ x=>x)))) fun _ _ x=>x)
 refine wpAny_bind (wpAny_standAt ?_)
 obtain ⟨⟨T,id,hl,hT⟩,hg⟩:=h₄
 have hT':Shared.TypeIs { s₄ with heap:=s₄.heap.push { cls:=.type "slice",data:=.fields #[l,u,st] } } o T:=by
  cases o with
  | ref a=>obtain ⟨ob,e,c⟩:=hT;exact ⟨ob,Heap.get?_push_of_some _ e,c⟩
  | _=>exact hT
 have fin:=wpAny_operating (vs:=[o,.ref s₄.heap.objs.size]) (wpAny_mono hg (Q':=fun r s₅=>wpAny (model pw w) A (letTemporaryGo value o r>>=fun _=>pure r) R E s₅) (fun r s₄ h₄=>wpAny_bind (wpAny_letTemporaryGo (wpAny_pure h₄))) fun _ _ x=>x)
 refine wpAny_bind ?_
 refine wpAny_bind (wpAny_specialOf hT' hl ?_)
 first
  | exact wpAny_pure (wpAny_bind fin)
  | exact wpAny_bind (wpAny_pure (wpAny_bind fin))
theorem isPart_of (p:Option (Int×Tok)):IsPart (partValue p) (p.map (·.1)):=by
 cases p with
 | none=>exact .none
 | some x=>exact .int _ _
inductive kPick (Q:AV→Store→Prop) (v:AV) (lo u st:Option Int) (S:Store):Prop
 | mk (k:Nat) (l:List AV) (h:v=.lst k) (hk:S[k]?=some l) (hl:l.length≤fewItems) (h0:st≠some 0) (q:Q (.lst S.length) (S++[pickL l lo u st]))
noncomputable abbrev kV3 (w:World) (B:Bs) (n:Nat) (env:Env) (e:Expr) (loc:Loc) (T:AV→Option Int→Option Int→Option Int→Store→Prop) (v:AV) (lo u:Option Int) (S:Store):Prop:=EvP w B n env (some e) loc S (T v lo u)
theorem EvA.sliceL {value:Expr} {lower upper:Option Expr} {step:Expr} {p pos:Pos}
  (h:EvA w B n env value loc S (kV1 w B n env lower upper loc (kV3 w B n env step loc (kPick Q)))) :
  EvA w B n env (.Subscript value (.Slice lower upper (some step) p) pos) loc S Q:=.mk fun A σ s E ha W F=>by
 refine sub_slice3 (h.bind ha W F fun o s₁ τ av S₁ W₁ f₁ x₁ r₁ h₁=>?_)
 have F₁:=F.mono W τ x₁
 refine wpAny_mono (h₁.run ha W₁ F₁) (fun vl s₂ p=>?_) fun _ _ e=>e
 refine let ZZ:Prop:=_;(?_:ZZ)
 obtain ⟨l,τ₂,S₂,rfl,W₂,f₂,x₂,h₂⟩:=p
 have F₂:=F₁.mono W₁ τ₂ x₂
 refine wpAny_mono (h₂.run ha W₂ F₂) (fun vu s₃ p=>?_) fun _ _ e=>e
 refine let ZZ:Prop:=_;(?_:ZZ)
 obtain ⟨u,τ₃,S₃,rfl,W₃,f₃,x₃,h₃⟩:=p
 refine wpAny_mono (h₃.run ha W₃ (F₂.mono W₂ τ₃ x₃)) (fun vu s₄ p=>?_) fun _ _ e=>e
 refine let ZZ:Prop:=_;(?_:ZZ)
 obtain ⟨st,τ₄,S₄,rfl,W₄,f₄,x₄,k,li,rfl,hk,hl,h0,q⟩:=p
 refine let ZZ:Prop:=_;(?_:ZZ)
 obtain ⟨a,vs,rfl,ha',pl,hr⟩:=W₄.lst hk (((r₁.mono W₁ x₂).mono W₂ x₃).mono W₃ x₄)
 have hz:vs.size=li.length:=by rw [hr.length];simp
 refine ⟨⟨"list",_,list_getitem_lookup,pl.isList.typeIs⟩,?_⟩
 have W₅:=W₄.push { cls:=.type "slice",data:=.fields #[partValue l,partValue u,partValue st] } (s':={ s₄ with heap:=s₄.heap.push { cls:=.type "slice",data:=.fields #[partValue l,partValue u,partValue st] } })
 have x₅:Ext (σ++τ++τ₂++τ₃++τ₄) s₄.heap (s₄.heap.push { cls:=.type "slice",data:=.fields #[partValue l,partValue u,partValue st] }):=Ext.push _ _
 refine wpAny_getItem_list_slice (pl.isList.push _) (Heap.IsSliceOf.new ..) (isPart_of l) (isPart_of u) (isPart_of st) h0 ?_ (by rw [hz];exact Nat.le_trans hl few_line)
 generalize hH:s₄.heap.push { cls:=.type "slice",data:=.fields #[partValue l,partValue u,partValue st] }=H at W₅ x₅ ⊢
 have hn:H.get? H.objs.size=none:=Heap.get?_none_of_le (Nat.le_refl _)
 have hr₅:All2 (RV (σ++τ++τ₂++τ₃++τ₄) H) (pickL li (l.map (·.1)) (u.map (·.1)) (st.map (·.1))) (slicePick vs (l.map (·.1)) (u.map (·.1)) (st.map (·.1))).toList:=by
  have e:(slicePick vs (l.map (·.1)) (u.map (·.1)) (st.map (·.1))).toList=(sliceRange (sliceBounds (l.map (·.1)) (u.map (·.1)) (st.map (·.1)) li.length).1 (sliceBounds (l.map (·.1)) (u.map (·.1)) (st.map (·.1)) li.length).2.1 (sliceBounds (l.map (·.1)) (u.map (·.1)) (st.map (·.1)) li.length).2.2).filterMap (vs.toList[·]?):=by
   simp [slicePick,hz]
  rw [e]
  exact (All2.mono (fun _ _ r=>RV.mono0 W₄ x₅ r) hr).places _
 have W₆:Wd B (σ++τ++τ₂++τ₃++τ₄++[H.objs.size]) (S₄++[pickL li (l.map (·.1)) (u.map (·.1)) (st.map (·.1))]) { s₄ with heap:=H.push { cls:=.type "list",data:=.seq (slicePick vs (l.map (·.1)) (u.map (·.1)) (st.map (·.1))) } }:=W₅.newList rfl hr₅
 have fH:s₄.heap.get? H.objs.size=none:=Ext.new W₄ (τ:=[]) (by rw [List.append_nil];exact W₅) x₅ hn
 have p:Pst B (σ++τ++τ₂++τ₃++τ₄) s₄ Q (.ref H.objs.size) { s₄ with heap:=H.push { cls:=.type "list",data:=.seq (slicePick vs (l.map (·.1)) (u.map (·.1)) (st.map (·.1))) } } :=
  ⟨[H.objs.size],.lst S₄.length,_,W₆,by simpa using fH,x₅.then fun b o e _ _ _ _=>Heap.get?_push_of_some _ e,⟨_,by rw [← W₄.len];simp,rfl⟩,q⟩
 exact (((p.back W₃ W₄ x₄ f₄).back W₂ W₃ x₃ f₃).back W₁ W₂ x₂ f₂).back W W₁ x₁ f₁
theorem wpAny_ifAlive {M:Model} {E:Value→Shared→Prop} {a:Addr} {R:Option Obj→Shared→Prop} (h:R (s.heap.get? a) s):wpAny M A (loadIfAlive a) R E s:=fun Γ p _=>by
 show Sem.wp M Γ (.loadIfAlive a .pure) _ _ p s
 exact h
noncomputable abbrev ZipAt (h:Heap) (z TI TO:Addr) (b:Bool) (f0:Value):Prop :=
 h.get? z=some { cls:=.type "zip",dict:=none,data:=.fields #[f0,.bool b,.bool false,.ref TI,.ref TO],slots:=#[] }
theorem zip_busy {E:Value→Shared→Prop} {z TI TO T:Addr} {b:Bool} {oT:Obj} {R:Bool→Shared→Prop} (hz:ZipAt s.heap z TI TO b (rawInt T)) (hT:s.heap.get? T=some oT)
  (h:∀ h',ZipAt h' z TI TO true (rawInt T)→Heap.SameBut z s.heap h'→R false { s with heap:=h' }):wpAny (model pw w) A (Builtin.SmallTypes.ownedTupleIsFree (.ref z)) R E s:=by
 unfold Builtin.SmallTypes.ownedTupleIsFree
 refine wpAny_bind (wpAny_field hz rfl (x:=rawInt T) rfl ?_)
 refine wpAny_bind (wpAny_ifAlive ?_)
 rw [show s.heap.get? (T:Int).toNat=some oT from hT]
 refine wpAny_bind (wpAny_field hz rfl (x:=.bool b) rfl ?_)
 cases b with
 | true =>
  refine wpAny_ite_false (decide_eq_false (by decide)) ?_
  exact wpAny_pure (h s.heap hz (Heap.SameBut.refl ..))
 | false =>
  refine wpAny_ite_true (decide_eq_true (by decide)) ?_
  refine wpAny_bind (wpAny_setField_rec hz (by simp) fun h₁ hz₁ hs₁=>wpAny_pure (h h₁ hz₁ hs₁))
theorem zip_next_more {E:Value→Shared→Prop} {z TI TO i1 i2 l1 l2 T:Addr} {b:Bool} {oT:Obj} {k1 k2:Nat} {xs ys:Array Value} {x y:Value} {R:Value→Shared→Prop} (D:ZipApart z TI TO i1 i2 l1 l2)
  (hz:ZipAt s.heap z TI TO b (rawInt T)) (hT:s.heap.get? T=some oT) (hTI:IsPair s.heap TI (.ref i1) (.ref i2))
  (h1:s.heap.IsListIter i1 l1 k1) (h2:s.heap.IsListIter i2 l2 k2) (hl1:s.heap.IsList l1 xs) (hl2:s.heap.IsList l2 ys) (hx:xs[k1]?=some x) (hy:ys[k2]?=some y)
  (hQ:∀ h',ZipAt h' z TI TO true (rawInt T)→h'.IsListIter i1 l1 (k1+1)→h'.IsListIter i2 l2 (k2+1)→IsPair h' s.heap.objs.size x y →
   (∀ c o,c≠z→c≠i1→c≠i2→s.heap.get? c=some o→h'.get? c=some o)→R (.ref s.heap.objs.size) { s with heap:=h' }) :
  wpAny (model pw w) A (Builtin.«zip.__next__» ⟨[.ref z],[]⟩) (fun fin s'=>∃ v,fin=.done (.ret v)∧R v s') E s:=by
 show wpAny _ _ (field (.ref z) 2>>=_) _ _ _
 refine wpAny_bind (wpAny_field hz rfl (x:=.bool false) rfl ?_)
 refine wpAny_bind (wpAny_field hz rfl (x:=.ref TI) rfl ?_)
 refine wpAny_bind (wpAny_seqItems hTI rfl ?_)
 refine wpAny_bind (zip_busy hz hT fun h₁ hz₁ hs₁=>?_)
 refine wpAny_ite_false rfl ?_
 simp only [List.forIn_toArray,List.forIn_cons,List.forIn_nil]
 refine wpAny_bind (wpAny_bind (wpAny_bind (wpAny_holding ?_)))
 refine wpAny_bind (wpAny_nextOf_list_item (h1.extBut hs₁.extBut D.i1z) (hl1.extBut hs₁.extBut D.l1z) hx fun h₂ h1₂ hs₂=>wpAny_pure (wpAny_pure ?_))
 refine wpAny_bind (wpAny_bind (wpAny_holding ?_))
 refine wpAny_bind (wpAny_nextOf_list_item ((h2.extBut hs₁.extBut D.i2z).extBut hs₂.extBut D.i12.symm) ((hl2.extBut hs₁.extBut D.l2z).extBut hs₂.extBut D.l2i1) hy fun h₄ h2₄ hs₄=>wpAny_pure (wpAny_pure (wpAny_pure ?_)))
 refine wpAny_bind (wpAny_newTuple (hsz:=(by decide:2≤sizeLine)) ?_)
 have hsz:h₄.objs.size=s.heap.objs.size:=by rw [hs₄.1,hs₂.1,hs₁.1]
 have hz₄:ZipAt h₄ z TI TO true (rawInt T):=hs₄.extBut _ _ D.i2z.symm (hs₂.extBut _ _ D.i1z.symm hz₁)
 refine wpAny_pure ⟨_,rfl,?_⟩
 show R (.ref h₄.objs.size) _
 have hp:IsPair (h₄.push { cls:=.type "tuple",data:=.seq #[x,y] }) s.heap.objs.size x y:=by rw [← hsz];exact Heap.get?_push_size _ rfl
 rw [hsz]
 exact hQ _ (Heap.get?_push_of_some _ hz₄) ((h1₂.extBut hs₄.extBut D.i12).at fun o e=>Heap.get?_push_of_some _ e) (h2₄.at fun o e=>Heap.get?_push_of_some _ e) hp fun c o c1 c2 c3 e =>
  Heap.get?_push_of_some _ (hs₄.extBut _ _ c3 (hs₂.extBut _ _ c2 (hs₁.extBut _ _ c1 e)))
theorem zip_next_stop {z TI TO i1 i2 l1 l2 T:Addr} {b:Bool} {oT:Obj} {k1 k2:Nat} {xs ys:Array Value} {R:Fin→Shared→Prop} {E:Value→Shared→Prop} (hh:A.handled=none) (D:ZipApart z TI TO i1 i2 l1 l2)
  (hz:ZipAt s.heap z TI TO b (rawInt T)) (hT:s.heap.get? T=some oT) (hTI:IsPair s.heap TI (.ref i1) (.ref i2))
  (h1:s.heap.IsListIter i1 l1 k1) (h2:s.heap.IsListIter i2 l2 k2) (hl1:s.heap.IsList l1 xs) (hl2:s.heap.IsList l2 ys) (hend:xs[k1]?=none)
  (hE:∀ h' e,(∀ c o,c≠z→c≠i1→c≠i2→s.heap.get? c=some o→h'.get? c=some o)→(∃ o,h'.get? e=some o∧o.cls=.type "StopIteration")→E (.ref e) { s with heap:=h' }) :
  wpAny (model pw w) A (Builtin.«zip.__next__» ⟨[.ref z],[]⟩) R E s:=by
 show wpAny _ _ (field (.ref z) 2>>=_) _ _ _
 refine wpAny_bind (wpAny_field hz rfl (x:=.bool false) rfl ?_)
 refine wpAny_bind (wpAny_field hz rfl (x:=.ref TI) rfl ?_)
 refine wpAny_bind (wpAny_seqItems hTI rfl ?_)
 refine wpAny_bind (zip_busy hz hT fun h₁ hz₁ hs₁=>?_)
 refine wpAny_ite_false rfl ?_
 simp only [List.forIn_toArray,List.forIn_cons,List.forIn_nil]
 refine wpAny_bind (wpAny_bind (wpAny_bind (wpAny_holding ?_)))
 refine wpAny_bind (wpAny_nextOf_list_end hh (h1.extBut hs₁.extBut D.i1z) (hl1.extBut hs₁.extBut D.l1z) hend fun h₂ e hs₂ he=>?_)
 exact hE h₂ e (fun c o c1 c2 _ x=>hs₂ _ _ c2 (hs₁.extBut _ _ c1 x)) he
namespace F
theorem zip_no_len:typeLookup (.type "zip") "__len__"=pure none:=by rw [typeLookup_type,builtinLookup_eq_fast];kernel_rfl
theorem zip_no_hint:typeLookup (.type "zip") "__length_hint__"=pure none:=by rw [typeLookup_type,builtinLookup_eq_fast];kernel_rfl
end F
structure ZSt (h:Heap) (z TI TO i1 i2 l1 l2:Addr) (xs ys:Array Value) (i:Nat) (acc:Array Value):Prop where
 zip:(i=0∧IsZip h z TI TO .none∧∃ a b,IsPair h TO a b)∨∃ (b:Bool) (T:Addr) (x y:Value),ZipAt h z TI TO b (rawInt T)∧IsPair h T x y
 tin:IsPair h TI (.ref i1) (.ref i2)
 it1:h.IsListIter i1 l1 i
 it2:h.IsListIter i2 l2 i
 li1:h.IsList l1 xs
 li2:h.IsList l2 ys
 size:acc.size=i
 items:∀ (j:Nat) (v:Value),acc[j]?=some v→∃ (T:Addr) (x y:Value),v=.ref T∧xs[j]?=some x∧ys[j]?=some y∧IsPair h T x y
theorem ne_iter {h:Heap} {T i l:Addr} {k:Nat} {x y:Value} (p:IsPair h T x y) (q:h.IsListIter i l k):T≠i:=by
 rintro rfl
 obtain ⟨o,ho,hc,_⟩:=q
 rw [p,Option.some.injEq] at ho;subst ho;simp at hc
theorem ne_zip {h:Heap} {T z TI TO:Addr} {b:Bool} {f x y:Value} (p:IsPair h T x y) (q:ZipAt h z TI TO b f):T≠z:=by
 rintro rfl
 have q':h.get? T=_:=q
 rw [p] at q';simp at q'
theorem ne_lst {h:Heap} {T l:Addr} {xs:Array Value} {c:Nat} {x y:Value} (p:IsPair h T x y) (q:h.get? l=some { cls:=.type "list",data:=.seq xs c }):T≠l:=by
 rintro rfl
 rw [p] at q;simp at q
theorem ZSt.pull {E:Value→Shared→Prop} {z TI TO i1 i2 l1 l2:Addr} {xs ys acc:Array Value} {i m:Nat} {R:Option Value→Shared→Prop} (D:ZipApart z TI TO i1 i2 l1 l2) (hx:xs.size=m) (hy:ys.size=m) (hi:i<m)
  (Z:ZSt s.heap z TI TO i1 i2 l1 l2 xs ys i acc) (hQ:∀ h' v,ZSt h' z TI TO i1 i2 l1 l2 xs ys (i+1) (acc.push v)→(∀ c o,c≠z→c≠TO→c≠i1→c≠i2→s.heap.get? c=some o→h'.get? c=some o)→R (some v) { s with heap:=h' }) :
  wpAny (model pw w) A (pyNext (.ref z)) R E s:=by
 have ex:xs[i]?=some xs[i]:=Array.getElem?_eq_getElem _
 have ey:ys[i]?=some ys[i]:=Array.getElem?_eq_getElem _
 obtain ⟨hz,hTI,h1,h2,hl1,hl2,hsz,hit⟩:=Z
 have pushed:∀ h',(∀ c o,c≠z→c≠i1→c≠i2→(i≠0∨c≠TO)→s.heap.get? c=some o→h'.get? c=some o)→IsPair h' s.heap.objs.size xs[i] ys[i] →
   (∀ T x y,IsPair s.heap T x y→T≠z)→∀ (j:Nat) (v:Value),(acc.push (.ref s.heap.objs.size))[j]?=some v→∃ (T:Addr) (x y:Value),v=.ref T∧xs[j]?=some x∧ys[j]?=some y∧IsPair h' T x y:=by
  intro h' hk hp hne j v hj
  rw [Array.getElem?_push] at hj
  split at hj
  ·rename_i e
   cases hj
   rw [hsz] at e
   subst e
   exact ⟨_,_,_,rfl,ex,ey,hp⟩
  ·refine let ZZ:Prop:=_;(?_:ZZ)
   obtain ⟨T,x,y,e1,e2,e3,e4⟩:=hit j v hj
   have hj0:j<acc.size:=(Array.getElem?_eq_some_iff.mp hj).1
   exact ⟨T,x,y,e1,e2,e3,hk _ _ (hne _ _ _ e4) (ne_iter e4 h1) (ne_iter e4 h2) (.inl (by lia)) e4⟩
 rcases hz with ⟨rfl,hz,a,b,hTO⟩ | ⟨b,T,x,y,hz,hT⟩
 ·refine wpAny_pyNext_zip_item D hz hTI hTO h1 h2 hl1 hl2 ex ey fun h' a1 a2 a3 a4 a5 a6 hk=>?_
  refine hQ h' _ ⟨.inr ⟨false,s.heap.objs.size,_,_,a1,a5⟩,hk _ _ D.TIz D.TITO D.TIi1 D.TIi2 hTI,a3,a4,hl1.at fun o e=>hk _ o D.l1z D.l1TO D.l1i1 D.l1i2 e,hl2.at fun o e=>hk _ o D.l2z D.l2TO D.l2i1 D.l2i2 e,by simp [hsz],?_⟩ hk
  exact pushed h' (fun c o c1 c2 c3 c4 e=>hk c o c1 (c4.resolve_left (by simp)) c2 c3 e) a5 fun T x y p=>ne_zip p hz
 ·have hTy:s.TypeIs (.ref z) "zip":=⟨_,hz,rfl⟩
  unfold pyNext
  refine wpAny_bind (wpAny_attempt (wpAny_callSpecial?_slot (name:=Str.ofString "__next__") hTy F.slot_zip_next
   (wpAny_call_entry F.slot_zip_next hTy F.entry_zip_next
    (zip_next_more D hz hT hTI h1 h2 hl1 hl2 ex ey fun h' a1 a3 a4 a5 hk=>wpAny_pure ?_) (F.args_zip_next_1 _))))
  refine hQ h' _ ⟨.inr ⟨true,T,x,y,a1,hk _ _ (ne_zip hT hz) (ne_iter hT h1) (ne_iter hT h2) hT⟩,hk _ _ D.TIz D.TIi1 D.TIi2 hTI,a3,a4,hl1.at fun o e=>hk _ o D.l1z D.l1i1 D.l1i2 e,hl2.at fun o e=>hk _ o D.l2z D.l2i1 D.l2i2 e,by simp [hsz],?_⟩ fun c o c1 _ c3 c4 e=>hk c o c1 c3 c4 e
  exact pushed h' (fun c o c1 c2 c3 c4 e=>hk c o c1 c2 c3 e) a5 fun T x y p=>ne_zip p hz
theorem ZSt.stop {E:Value→Shared→Prop} {z TI TO i1 i2 l1 l2:Addr} {xs ys acc:Array Value} {i m:Nat} {R:Option Value→Shared→Prop} (hh:A.handled=none) (D:ZipApart z TI TO i1 i2 l1 l2) (hx:xs.size=m) (hi:i=m)
  (Z:ZSt s.heap z TI TO i1 i2 l1 l2 xs ys i acc) (hQ:∀ h',(∀ c o,c≠z→c≠TO→c≠i1→c≠i2→s.heap.get? c=some o→h'.get? c=some o)→(∀ (j:Nat) (v:Value),acc[j]?=some v→∃ (T:Addr) (x y:Value),v=.ref T∧xs[j]?=some x∧ys[j]?=some y∧IsPair h' T x y)→R none { s with heap:=h' }) :
  wpAny (model pw w) A (pyNext (.ref z)) R E s:=by
 have ex:xs[i]?=none:=Array.getElem?_eq_none (by lia)
 obtain ⟨hz,hTI,h1,h2,hl1,hl2,hsz,hit⟩:=Z
 rcases hz with ⟨rfl,hz,a,b,hTO⟩ | ⟨b,T,x,y,hz,hT⟩
 ·refine wpAny_pyNext_zip_end hh D hz hTI hTO h1 h2 hl1 hl2 (.inl ex) fun h' hk=>hQ h' hk fun j v hj=>?_
  have hj0:j<acc.size:=(Array.getElem?_eq_some_iff.mp hj).1
  (clear hx hi;omega)
 ·have hTy:s.TypeIs (.ref z) "zip":=⟨_,hz,rfl⟩
  unfold pyNext
  refine wpAny_bind (wpAny_attempt (wpAny_callSpecial?_slot (name:=Str.ofString "__next__") hTy F.slot_zip_next
   (wpAny_call_entry F.slot_zip_next hTy F.entry_zip_next
    (zip_next_stop hh D hz hT hTI h1 h2 hl1 hl2 ex fun h' e hk he=>?_) (F.args_zip_next_1 _))))
  obtain ⟨o,ho,hc⟩:=he
  refine wpAny_bind (wpAny_isInstance (T:="StopIteration") (b:=true) ⟨o,ho,hc⟩ isSubtype_stop ?_)
  refine wpAny_pure (hQ _ (fun c o c1 _ c3 c4 e=>hk c o c1 c3 c4 e) fun j v hj=>?_)
  refine let ZZ:Prop:=_;(?_:ZZ)
  obtain ⟨T,x,y,e1,e2,e3,e4⟩:=hit j v hj
  exact ⟨T,x,y,e1,e2,e3,hk _ _ (ne_zip e4 hz) (ne_iter e4 h1) (ne_iter e4 h2) e4⟩
theorem ZSt.turned {h h':Heap} {z TI TO i1 i2 l1 l2 S:Addr} {xs ys acc bs:Array Value} {i c:Nat} (hS:h.get? S=some { cls:=.type "list",data:=.seq bs c }) (n1:l1≠S) (n2:l2≠S) (hs:Heap.ExtBut S h h')
  (Z:ZSt h z TI TO i1 i2 l1 l2 xs ys i acc):ZSt h' z TI TO i1 i2 l1 l2 xs ys i acc:=by
 refine let ZZ:Prop:=_;(?_:ZZ)
 obtain ⟨hz,hTI,h1,h2,hl1,hl2,hsz,hit⟩:=Z
 have nz:∀ {b f},ZipAt h z TI TO b f→z≠S:=by
  rintro b f q rfl
  have q':h.get? z=_:=q
  rw [hS] at q';simp at q'
 have ni:∀ {i l k},h.IsListIter i l k→i≠S:=by
  rintro i l k ⟨o,ho,hc,_⟩ rfl
  rw [hS,Option.some.injEq] at ho;subst ho;simp at hc
 refine ⟨?_,hs _ _ (ne_lst hTI hS) hTI,h1.extBut hs (ni h1),h2.extBut hs (ni h2),hl1.extBut hs n1,hl2.extBut hs n2,hsz,fun j v hj=>?_⟩
 ·rcases hz with ⟨e,q,a,b,p⟩ | ⟨b,T,x,y,q,p⟩
  ·exact .inl ⟨e,hs _ _ (nz q) q,a,b,hs _ _ (ne_lst p hS) p⟩
  ·exact .inr ⟨b,T,x,y,hs _ _ (nz q) q,hs _ _ (ne_lst p hS) p⟩
 ·refine let ZZ:Prop:=_;(?_:ZZ)
  obtain ⟨T,x,y,e1,e2,e3,e4⟩:=hit j v hj
  exact ⟨T,x,y,e1,e2,e3,hs _ _ (ne_lst e4 hS) e4⟩
theorem zip_loop {z TI TO i1 i2 l1 l2 S:Addr} {xs ys:Array Value} {m:Nat} {R:Result→Shared→Prop} {res:Value} (hh:A.in1.handled=none) (D:ZipApart z TI TO i1 i2 l1 l2) (hx:xs.size=m) (hy:ys.size=m) (hm:m≤fewItems) (n1:l1≠S) (n2:l2≠S)
  (nz:z≠S) (nTO:TO≠S) (ni1:i1≠S) (ni2:i2≠S):∀ (k i:Nat) (s:Shared) (acc:Array Value) (c:Nat),m-i=k→i≤m→ZSt s.heap z TI TO i1 i2 l1 l2 xs ys i acc→s.heap.get? S=some { cls:=.type "list",data:=.seq acc c } →
  (∀ h' acc' c',(∀ c o,c≠S→c≠z→c≠TO→c≠i1→c≠i2→s.heap.get? c=some o→h'.get? c=some o)→h'.get? S=some { cls:=.type "list",data:=.seq acc' c' }→acc'.size=m →
   (∀ (j:Nat) (v:Value),acc'[j]?=some v→∃ (T:Addr) (x y:Value),v=.ref T∧xs[j]?=some x∧ys[j]?=some y∧IsPair h' T x y)→R (.ok (.ret res)) { s with heap:=h' }) →
  codeAny (model pw w) A (.builtin "list.extend.loop" ⟨[.ref S,.ref z,res],[]⟩) R s:=by
 intro k
 induction k with
 | zero =>
  intro i s acc c hk hi Z hS hR
  refine codeAny_builtin F.entry_extend_loop ?_
  refine wpAny_bind (ZSt.stop hh D hx (by lia) Z fun h' hk' hit=>wpAny_pure ?_)
  refine hR h' acc c (fun c o _ c1 c2 c3 c4 e=>hk' c o c1 c2 c3 c4 e) (hk' _ _ nz.symm nTO.symm ni1.symm ni2.symm hS) (by rw [Z.size];lia) hit
 | succ k ih =>
  intro i s acc c hk hi Z hS hR
  refine codeAny_builtin F.entry_extend_loop ?_
  refine wpAny_bind (ZSt.pull D hx hy (by exact Nat.lt_of_sub_eq_succ hk) Z fun h' v Z' hk'=>?_)
  have hS':=hk' _ _ nz.symm nTO.symm ni1.symm ni2.symm hS
  have hacc:=Z.size
  have few:fewItems+1≤sizeLine:=by decide
  refine wpAny_bind ?_
  refine wpAny_updateSeq (hz:=by lia) (_hz':=by show (acc.push v).size≤sizeLine+1;rw [Array.size_push];lia) hS' rfl (wpAny_pure ⟨plainId_quiet F.plain_extend_loop _,ih (i+1) _ (acc.push v) _ (by rw [Nat.sub_add_eq,hk];rfl) (Nat.lt_of_sub_eq_succ hk) (Z'.turned hS' n1 n2 (Heap.SameBut.update ..).extBut) (Heap.get?_update_self _ hS' rfl) fun h'' acc' c' hk'' hS'' hz hit=>?_⟩)
  exact hR h'' acc' c' (fun b o c0 c1 c2 c3 c4 e=>hk'' b o c0 c1 c2 c3 c4 ((Heap.get?_update_other _ _ (Ne.symm c0)).trans (hk' b o c1 c2 c3 c4 e))) hS'' hz hit
theorem zip_init {z TI TO i1 i2 l1 l2 S:Addr} {xs ys:Array Value} {m:Nat} {R:Result→Shared→Prop} (hh:A.in1.handled=none) (D:ZipApart z TI TO i1 i2 l1 l2) (hx:xs.size=m) (hy:ys.size=m) (hm:m≤fewItems) (n1:l1≠S) (n2:l2≠S)
  (hz:IsZip s.heap z TI TO .none) (Z:ZSt s.heap z TI TO i1 i2 l1 l2 xs ys 0 #[]) (hS:s.heap.get? S=some { cls:=.type "list",data:=.seq #[] })
  (hR:∀ h' acc' c',(∀ c o,c≠S→c≠z→c≠TO→c≠i1→c≠i2→s.heap.get? c=some o→h'.get? c=some o)→h'.get? S=some { cls:=.type "list",data:=.seq acc' c' }→acc'.size=m →
   (∀ (j:Nat) (v:Value),acc'[j]?=some v→∃ (T:Addr) (x y:Value),v=.ref T∧xs[j]?=some x∧ys[j]?=some y∧IsPair h' T x y)→R (.ok (.ret .none)) { s with heap:=h' }) :
  wpAny (model pw w) A.in1 (Builtin.«list.__init__» ⟨[.ref S,.ref z],[]⟩)
   (fun fin s'=>match fin with | .done f=>R (.ok f) s' | .again c'=>c'.quiet=true∧codeAny (model pw w) A c' R s') (fun e s'=>R (.error e) s') s:=by
 refine wpAny_bind ?_
 refine wpAny_bind (wpAny_seqItems hS rfl (wpAny_pure ?_))
 refine wpAny_bind (wpAny_updateSeq hS rfl ?_)
 have hS₂:=Heap.get?_update_self (Obj.mapSeq (fun _=>(#[]:Array Value))) hS rfl
 have oth:Heap.ExtBut S s.heap (s.heap.update S (Obj.mapSeq (fun _=>(#[]:Array Value)))):=(Heap.SameBut.update ..).extBut
 have nz:z≠S:=by
  rintro rfl
  have q':s.heap.get? z=_:=hz
  rw [hS] at q';simp at q'
 have nTO:TO≠S:=by
  rcases Z.zip with ⟨_,_,a,b,p⟩ | ⟨b,T,x,y,q,p⟩
  ·exact ne_lst p hS
  ·have:=hz.symm.trans q
   simp [rawInt] at this
 have ni:∀ {i l k},s.heap.IsListIter i l k→i≠S:=by
  rintro i l k ⟨o,ho,hc,_⟩ rfl
  rw [hS,Option.some.injEq] at ho;subst ho;simp at hc
 have Z₂:=Z.turned hS n1 n2 oth
 have hz₂:=oth _ _ nz hz
 refine wpAny_bind (wpAny_letGo ?_)
 have oth₂:∀ c o,c≠S→s.heap.get? c=some o→(s.heap.update S (Obj.mapSeq (fun _=>(#[]:Array Value)))).get? c=some o:=fun c o h e=>oth c o h e
 generalize s.heap.update S (Obj.mapSeq (fun _=>(#[]:Array Value)))=H at hS₂ Z₂ hz₂ oth₂ ⊢
 have hT:Shared.TypeIs { s with heap:=H } (.ref z) "zip":=⟨_,hz₂,rfl⟩
 refine wpAny_bind (wpAny_typeOf hT ?_)
 have h1:Builtin.List.listSameRef (.ref S) (.ref z)=false:=by simp [Builtin.List.listSameRef,Ne.symm nz]
 have h2:(Value.type "zip"==Value.type "list")=false:=by decide
 have h3:(Value.type "zip"==Value.type "tuple")=false:=by decide
 refine wpAny_ite_false (by rw [h1,h2,h3];rfl) ?_
 refine wpAny_bind (wpAny_pyIter_zip hz₂ ?_)
 refine wpAny_bind (wpAny_holding ?_)
 refine wpAny_bind (wpAny_specialOf hT F.zip_no_len ?_)
 refine wpAny_bind (wpAny_specialOf hT F.zip_no_hint ?_)
 refine wpAny_pure ?_
 show wpAny _ A.in1 (rule "list.extend.makes-room">>=fun _=>Builtin.List.listTouch (.ref S)>>=fun _ =>
  again (.builtin "list.extend.loop" ⟨[.ref S,.ref z,.none],[]⟩)) _ _ _
 refine wpAny_bind (wpAny_rule ?_)
 refine wpAny_bind ?_
 refine wpAny_bind (wpAny_updateSeq hS₂ rfl ?_)
 have hS₃:=Heap.get?_update_self (Obj.mapSeq (·.push Value.none)) hS₂ rfl
 refine wpAny_updateSeq (hz:=by seq_fits) hS₃ rfl ?_
 have hS₄:=Heap.get?_update_self (Obj.mapSeq (·.pop)) hS₃ rfl
 have Z₄:=(Z₂.turned hS₂ n1 n2 (Heap.SameBut.update ..).extBut).turned hS₃ n1 n2 (Heap.SameBut.update (f:=Obj.mapSeq (·.pop)) ..).extBut
 have oth₄:∀ b o,b≠S→s.heap.get? b=some o→((H.update S (Obj.mapSeq (·.push Value.none))).update S (Obj.mapSeq (·.pop))).get? b=some o :=
  fun b o hb e=>(Heap.get?_update_other _ _ (Ne.symm hb)).trans ((Heap.get?_update_other _ _ (Ne.symm hb)).trans (oth₂ _ _ hb e))
 refine wpAny_pure ⟨plainId_quiet F.plain_extend_loop _,zip_loop hh D hx hy hm n1 n2 nz nTO (ni Z.it1) (ni Z.it2) m 0 _ #[] _ rfl (Nat.zero_le _) Z₄ hS₄ fun h' acc' c' hk hS' hz' hit=>?_⟩
 exact hR h' acc' c' (fun c o c0 c1 c2 c3 c4 e=>hk c o c0 c1 c2 c3 c4 (oth₄ c o c0 e)) hS' hz' hit
theorem call_list_zip {E:Value→Shared→Prop} {z TI TO i1 i2 l1 l2:Addr} {xs ys:Array Value} {m:Nat} {R:Value→Shared→Prop} (hh:A.handled=none) (D:ZipApart z TI TO i1 i2 l1 l2) (hx:xs.size=m) (hy:ys.size=m) (hm:m≤fewItems)
  (hz:IsZip s.heap z TI TO .none) (Z:ZSt s.heap z TI TO i1 i2 l1 l2 xs ys 0 #[])
  (hR:∀ h' acc' c',(∀ c o,c≠z→c≠TO→c≠i1→c≠i2→s.heap.get? c=some o→h'.get? c=some o)→h'.get? s.heap.objs.size=some { cls:=.type "list",data:=.seq acc' c' }→acc'.size=m →
   (∀ (j:Nat) (v:Value),acc'[j]?=some v→∃ (T:Addr) (x y:Value),v=.ref T∧xs[j]?=some x∧ys[j]?=some y∧IsPair h' T x y)→R (.ref s.heap.objs.size) { s with heap:=h' }) :
  wpAny (model pw w) A (call (.type "list") [.ref z]) R E s:=by
 refine callType_codes (Q₁:=fun obj s₁=>obj=.ref s.heap.objs.size∧s₁={ s with heap:=s.heap.push { cls:=.type "list",data:=.seq #[] } }) F.called_list (F.typeCall_list_1 _) F.entry_list_init
  (code_list_new _ ⟨rfl,rfl⟩) fun obj s₁ h₁=>?_
 obtain ⟨rfl,rfl⟩:=h₁
 have hS:(s.heap.push { cls:=.type "list",data:=.seq #[] }).get? s.heap.objs.size=some { cls:=.type "list",data:=.seq #[] }:=Heap.get?_push_size _ rfl
 have up:∀ b o,s.heap.get? b=some o→(s.heap.push { cls:=.type "list",data:=.seq #[] }).get? b=some o:=fun b o e=>Heap.get?_push_of_some _ e
 have Z':ZSt (s.heap.push { cls:=.type "list",data:=.seq #[] }) z TI TO i1 i2 l1 l2 xs ys 0 #[]:=by
  obtain ⟨q1,q2,q3,q4,q5,q6,q7,q8⟩:=Z
  refine ⟨?_,up _ _ q2,q3.at fun o e=>up _ o e,q4.at fun o e=>up _ o e,q5.at fun o e=>up _ o e,q6.at fun o e=>up _ o e,q7,fun j v e=>by simp at e⟩
  rcases q1 with ⟨e,q,a,b,p⟩ | ⟨b,T,x,y,q,p⟩
  ·exact .inl ⟨e,up _ _ q,a,b,up _ _ p⟩
  ·exact .inr ⟨b,T,x,y,up _ _ q,up _ _ p⟩
 have ll:∀ {l:Addr} {xs:Array Value},s.heap.IsList l xs→l≠s.heap.objs.size:=fun h=>by
  obtain ⟨o,ho,_⟩:=h;exact Nat.ne_of_lt (Heap.lt_size ho)
 refine ⟨⟨_,hS,rfl⟩,F.args_list_init_2 _ _,zip_init (A:=A.in1) hh D hx hy hm (ll Z.li1) (ll Z.li2) (up _ _ hz) Z' hS fun h' acc' c' hk hS' hz' hit=>?_⟩
 exact ⟨rfl,hR h' acc' c' (fun b o c1 c2 c3 c4 e=>hk b o (Nat.ne_of_lt (Heap.lt_size e)) c1 c2 c3 c4 (up _ _ e)) hS' hz' hit⟩
theorem Wd.addList (W:Wd B σ S s) {a:Addr} {l:List AV} {vs:Array Value} (p:s.heap.PlainList a vs) (hB:B.heap.get? a=none) (hσ:a∉σ) (hr:All2 (RV σ s.heap) l vs.toList):Wd B (σ++[a]) (S++[l]) s:=by
 refine ⟨by simp [W.len],?_,fun b hb=>?_,fun i l' e=>?_,W.kept,W.tabs,W.gens,W.os,W.frs⟩
 ·rw [List.nodup_append]
  refine ⟨W.nodup,by simp,fun b hb c hc=>?_⟩
  rintro rfl
  rw [List.mem_singleton] at hc
  exact hσ (hc▸hb)
 ·rcases List.mem_append.mp hb with q | q
  ·exact W.fresh b q
  ·rw [List.mem_singleton.mp q];exact hB
 ·rcases Nat.lt_or_ge i S.length with hi | hi
  ·rw [List.getElem?_append_left hi] at e
   refine let ZZ:Prop:=_;(?_:ZZ)
   obtain ⟨b,ws,h1,h2,h3⟩:=W.lists i l' e
   exact ⟨b,ws,by rw [List.getElem?_append_left (W.len▸hi)];exact h1,h2,All2.mono (fun _ _ r=>RV.keep (fun _ _ e _=>e) [a] r) h3⟩
  ·rw [List.getElem?_append_right hi] at e
   have hi0:i-S.length=0:=by
    rcases Nat.eq_zero_or_pos (i-S.length) with q | q
    ·exact q
    ·rw [List.getElem?_eq_none (by simp;exact Nat.one_le_of_lt q)] at e;cases e
   rw [hi0] at e
   simp only [List.getElem?_cons_zero,Option.some.injEq] at e
   subst e
   exact ⟨a,vs,by rw [List.getElem?_append_right (by rw [W.len];exact hi),W.len,hi0];rfl,p,All2.mono (fun _ _ r=>RV.keep (fun _ _ e _=>e) [a] r) hr⟩
noncomputable def zipT (l m:List Sc):List AV:=(l.zip m).map fun p=>.tup [p.1,p.2]
theorem zipT_rel {σ:List Addr} {h:Heap} {l m:List Sc} {xs ys:List Value} {us:List Value} (h1:All2 RSc l xs) (h2:All2 RSc m ys) (h3:us.length=l.length) (h4:l.length=m.length)
  (H:∀ (j:Nat) (v:Value),us[j]?=some v→∃ (T:Addr) (x y:Value),v=.ref T∧xs[j]?=some x∧ys[j]?=some y∧IsPair h T x y):All2 (RV σ h) (zipT l m) us:=by
 induction l generalizing m xs ys us with
 | nil=>obtain rfl:=List.length_eq_zero_iff.mp h3;obtain rfl:=List.length_eq_zero_iff.mp h4.symm;trivial
 | cons a l ih =>
  cases m with
  | nil=>cases h4
  | cons b m =>
   cases us with
   | nil=>cases h3
   | cons u us =>
    obtain ⟨x,xs,rfl,r1,h1⟩:=h1.consI
    obtain ⟨y,ys,rfl,r2,h2⟩:=h2.consI
    obtain ⟨T,x',y',e1,e2,e3,e4⟩:=H 0 u rfl
    cases e2;cases e3
    exact ⟨⟨T,[x,y],e1,e4,r1,r2,trivial⟩,ih h1 h2 (Nat.succ.inj h3) (Nat.succ.inj h4) fun j v e=>H (j+1) v e⟩
theorem nat_apart (k a b:Nat) (ha:a<k) (hb:b<k):(k+2≠k+4∧k+3≠k+4∧k≠k+4∧k+1≠k+4∧k+2≠k+3∧k+2≠k∧k+2≠k+1∧k+3≠k∧k+3≠k+1∧k≠k+1) ∧
  (a≠k+4∧a≠k+3∧a≠k∧a≠k+1∧b≠k+4∧b≠k+3∧b≠k∧b≠k+1) :=
 have p:∀ i j,i≠j→k+i≠k+j:=fun i j n h=>n (Nat.add_left_cancel h)
 have r:∀ c j,c<k→c≠k+j:=fun c j h=>Nat.ne_of_lt (Nat.lt_of_lt_of_le h (Nat.le_add_right _ _))
 ⟨⟨p 2 4 (by decide),p 3 4 (by decide),p 0 4 (by decide),p 1 4 (by decide),p 2 3 (by decide),p 2 0 (by decide),p 2 1 (by decide),p 3 0 (by decide),p 3 1 (by decide),p 0 1 (by decide)⟩,r a 4 ha,r a 3 ha,r a 0 ha,r a 1 ha,r b 4 hb,r b 3 hb,r b 0 hb,r b 1 hb⟩
theorem zip_apart (k a b:Nat) (ha:a<k) (hb:b<k):ZipApart (k+4) (k+2) (k+3) k (k+1) a b:=by
 obtain ⟨⟨a1,a2,a3,a4,a5,a6,a7,a8,a9,a10⟩,b1,b2,b3,b4,b5,b6,b7,b8⟩:=nat_apart k a b ha hb
 exact ⟨a1,a2,a3,a4,a5,a6,a7,a8,a9,a10,b1,b2,b3,b4,b5,b6,b7,b8⟩
theorem EvA.listZip (H:St w B) {p p' pos pos':Pos} {e₁ e₂:Expr} (hl:env.kindOf "list"=some .globalImplicit) (hz:env.kindOf "zip"=some .globalImplicit)
  (h:ArT w B n env (spliced (backTo pos' (starEach [e₁,e₂] env))) loc S fun avs S₁=>∃ i j l m,avs=[.lst i,.lst j]∧S₁[i]?=some (l.map AV.sc)∧S₁[j]?=some (m.map AV.sc)∧l.length=m.length∧l.length≤fewItems∧Q (.lst S₁.length) (S₁++[zipT l m]))
  (he:starEach [Expr.Call (.Name "zip" p') [e₁,e₂] [] pos'] env=(false,eval (Expr.Call (.Name "zip" p') [e₁,e₂] [] pos') env)::starEach [] env:=by rfl) (hpl:(backTo pos (starEach [] env)).any (·.1)=false:=by rfl)
  (he2:starEach [e₁,e₂] env=(false,eval e₁ env)::starEach [e₂] env:=by rfl) (hpl2:(backTo pos' (starEach [e₂] env)).any (·.1)=false:=by rfl) :
  EvA w B n env (.Call (.Name "list" p) [.Call (.Name "zip" p') [e₁,e₂] [] pos'] [] pos) loc S Q:=.mk fun A σ s E ha W F=>by
 refine wpAny_Call_NameR (Name_function_global F.ok.kind hl (loadGlobal_builtin (F.ok.glob▸H.main W) (n_list _) (F.ok.blt▸H.blt W) (b_list _) (PyProof.Rows.callWith_type1 (args_cons ?_ he) he hpl)) (by decide +kernel))
 refine wpAny_Call_NameR (Name_function_global F.ok.kind hz (loadGlobal_builtin (F.ok.glob▸H.main W) (n_zip _) (F.ok.blt▸H.blt W) (b_zip _) (PyProof.Rows.callWith_type1 ?_ he2 hpl2)) (by decide +kernel))
 refine wpAny_mono (h.run A σ s E ha W F) (fun vs s₁ q=>?_) fun _ _ e=>e
 refine let ZZ:Prop:=_;(?_:ZZ)
 obtain ⟨τ,avs,S₁,W₁,f₁,x₁,r₁,i,j,l,m,rfl,hi,hj,hlen,hfew,q⟩:=q
 refine let ZZ:Prop:=_;(?_:ZZ)
 obtain ⟨v1,v2,rfl,r2,r3⟩:=r₁.two
 refine let ZZ:Prop:=_;(?_:ZZ)
 obtain ⟨a,xs,rfl,_,pa,ra⟩:=W₁.lst hi r2
 refine let ZZ:Prop:=_;(?_:ZZ)
 obtain ⟨b,ys,rfl,_,pb,rb⟩:=W₁.lst hj r3
 have la:∀ {c xs},s₁.heap.PlainList c xs→c<s₁.heap.objs.size:=fun p=>by obtain ⟨k,e⟩:=p;exact Heap.lt_size e
 have ha1:=la pa
 have hb1:=la pb
 have hxs:xs.size=l.length:=by have:=ra.length;simp at this;exact Nat.add_right_cancel (congrFun (congrArg HAdd.hAdd (id (Eq.symm this))) n)
 have hys:ys.size=l.length:=by have:=rb.length;simp at this;lia
 refine call_zip_2 pa.isList pb.isList fun h' hz' hTI hTO hi1 hi2 hsz hk=>?_
 refine args_nil ?_
 have D:ZipApart (s₁.heap.objs.size+4) (s₁.heap.objs.size+2) (s₁.heap.objs.size+3) s₁.heap.objs.size (s₁.heap.objs.size+1) a b:=zip_apart _ _ _ ha1 hb1
 have Z:ZSt h' (s₁.heap.objs.size+4) (s₁.heap.objs.size+2) (s₁.heap.objs.size+3) s₁.heap.objs.size (s₁.heap.objs.size+1) a b xs ys 0 #[] :=
  ⟨.inl ⟨rfl,hz',_,_,hTO⟩,hTI,hi1,hi2,pa.isList.at (hk a),pb.isList.at (hk b),rfl,fun j v e=>by simp at e⟩
 refine call_list_zip (s:={ s₁ with heap:=h' }) ha.handled D hxs hys hfew hz' Z fun h'' acc c hk2 hS hacc hit=>?_
 have hS':h''.get? (s₁.heap.objs.size+5)=some { cls:=.type "list",data:=.seq acc c }:=by rw [← hsz];exact hS
 have keep:∀ c o,s₁.heap.get? c=some o→h''.get? c=some o:=fun c o e=>by
  have:=nat_apart s₁.heap.objs.size c c (Heap.lt_size e) (Heap.lt_size e)
  exact hk2 c o this.2.1 this.2.2.1 this.2.2.2.1 this.2.2.2.2.1 (hk c o e)
 have W₂:Wd B (σ++τ) S₁ { s₁ with heap:=h'' }:=W₁.keeps keep
 have x₂:Ext (σ++τ) s₁.heap h'':=Ext.of_keeps keep
 have hnew:s₁.heap.get? (s₁.heap.objs.size+5)=none:=Heap.get?_none_of_le (by exact Nat.le_add_right s₁.heap.objs.size 5)
 have W₃:Wd B (σ++τ++[s₁.heap.objs.size+5]) (S₁++[zipT l m]) { s₁ with heap:=h'' }:=W₂.addList (vs:=acc) ⟨c,hS'⟩ (W₁.newB hnew) (W₁.live hnew).1 (zipT_rel (xs:=xs.toList) (ys:=ys.toList) (All2.scs ra) (All2.scs rb) (by simpa [hxs] using hacc) hlen fun j v e=>by
  refine let ZZ:Prop:=_;(?_:ZZ)
  obtain ⟨T,x,y,e1,e2,e3,e4⟩:=hit j v (by simpa using e)
  exact ⟨T,x,y,e1,by simpa using e2,by simpa using e3,e4⟩)
 have p:Pst B (σ++τ) s₁ Q (.ref (s₁.heap.objs.size+5)) { s₁ with heap:=h'' } :=
  ⟨[s₁.heap.objs.size+5],.lst S₁.length,_,W₃,by simpa using hnew,x₂,⟨_,by rw [← W₁.len];simp,rfl⟩,q⟩
 show Pst B σ s Q (.ref h'.objs.size) _
 rw [hsz]
 exact p.back W W₁ x₁ f₁
noncomputable abbrev Tk:=Bool×Nat
noncomputable def tkS:Tk→List Nat:=fun t=>if t.1 then [92,t.2] else [t.2]
noncomputable def tkV:Tk→Int:=fun t=>if t.1 then (t.2:Int) else if t.2=45 then -1 else (t.2:Int)
noncomputable def okTk (t:Tk):Prop:=t.1=true∨t.2≠92
noncomputable abbrev trip (l:List (Tk×Tk)):List Tk:=l.flatMap fun p=>[p.1,(false,45),p.2]
theorem at_of {x:Str} {p c:Nat} (h:x.cps.toList[p]?=some c):(seqIndex? (p:Int) x.length).bind (x.cps[·]?)=some c:=by
 have hp:p<x.cps.size:=by have:=(List.getElem?_eq_some_iff.mp h).1;simpa using this
 unfold seqIndex?
 have e1:¬ ((p:Int)<0):=by exact Int.not_ofNat_neg p
 simp only [e1,if_false]
 rw [if_pos (by simp;exact hp)]
 show x.cps[(p:Int).toNat]?=some c
 simpa using h
theorem cut_one {x:Str} {p c:Nat} (h:x.cps.toList[p]?=some c):cut x p (p+1)=⟨#[c]⟩:=by
 refine str_ext ?_
 show (x.cps.toList.drop p).take (p+1-p)=[c]
 have hp:=(List.getElem?_eq_some_iff.mp h).1
 have:(x.cps.toList.drop p)=c::x.cps.toList.drop (p+1):=by
  rw [List.drop_eq_getElem_cons hp];congr 1;exact (List.getElem?_eq_some_iff.mp h).2
 rw [this,show p+1-p=1 by exact Nat.add_sub_self_left p 1];rfl
theorem len_list (x:Str):x.length=x.cps.toList.length:=by simp [Str.length]
theorem cuts_neg {x:Str} {a:Nat} (h1:a≤x.length-1) (h2:1≤x.length):Cuts x (some (a:Int)) (some (-1)) a (x.length-1):=by
 refine ⟨?_,h1,by exact Nat.sub_le x.length 1⟩
 have e:(-1:Int)+(x.length:Int)=((x.length-1:Nat):Int):=by lia
 unfold Builtin.Str.strSliceIndices
 simp only [show (-1:Int)<0 from by decide,if_true,show (1:Int)>0 from by decide,e,show ¬ (((x.length-1:Nat):Int)<0) from by exact Int.not_ofNat_neg (x.length-1),if_false]
theorem last_of {x:Str} {l:List Nat} {c:Nat} (h:x.cps.toList=l++[c]):(seqIndex? (-1) x.length).bind (x.cps[·]?)=some c:=by
 have hl:x.length=l.length+1:=by rw [len_list,h];simp
 unfold seqIndex?
 rw [if_pos (by simp;lia)]
 show x.cps[(-1+(x.length:Int)).toNat]?=some c
 rw [show (-1+(x.length:Int)).toNat=l.length by lia]
 have:x.cps.toList[l.length]?=some c:=by rw [h];simp
 simpa using this
theorem pick3 (ts:List (AV×AV×AV)) (i:Nat) (hi:i<3) (g:AV×AV×AV→AV) (hg:∀ t,([t.1,t.2.1,t.2.2]:List AV)[i]?=some (g t)):pickL (ts.flatMap fun t=>[t.1,t.2.1,t.2.2]) (some (i:Int)) none (some 3)=ts.map g:=by
 have hn:(ts.flatMap fun t=>[t.1,t.2.1,t.2.2]).length=3*ts.length:=by
  induction ts with
  | nil=>rfl
  | cons a l ih=>rw [List.flatMap_cons,List.length_append,ih];simp;lia
 have hget:∀ k,(h:k<ts.length)→(ts.flatMap fun t=>[t.1,t.2.1,t.2.2])[i+3*k]?=some (g ts[k]):=by
  clear hn
  induction ts with
  | nil=>intro k h;simp at h
  | cons a l ih =>
   intro k h
   cases k with
   | zero =>
    rw [List.flatMap_cons,List.getElem?_append_left (by simp;exact Nat.lt_of_succ_le hi)]
    simpa using hg a
   | succ k =>
    rw [List.flatMap_cons,List.getElem?_append_right (by simp;exact Nat.le_add_left 3 (i.add (Nat.mul 3 k)))]
    have:=ih k (by simpa using h)
    simp only [List.length_cons,List.length_nil,List.getElem_cons_succ]
    exact this
 unfold pickL
 rw [hn]
 have e1:(sliceBounds (some (i:Int)) none (some 3) (3*ts.length))=(max 0 (min (i:Int) ((3*ts.length:Nat):Int)),((3*ts.length:Nat):Int),3):=by
  unfold sliceBounds
  simp only [Option.getD_some,show (3:Int)>0 from by decide,if_true,show ¬ ((i:Int)<0) from by exact Int.not_ofNat_neg i,if_false]
 show (sliceRange (max 0 (min (i:Int) ((3*ts.length:Nat):Int))) ((3*ts.length:Nat):Int) 3).filterMap _=_
 unfold sliceRange
 simp only [show (3:Int)>0 from by decide,if_true]
 cases ts with
 | nil=>simp
 | cons a l =>
  have hmin:max 0 (min (i:Int) ((3*(a::l).length:Nat):Int))=(i:Int):=by simp only [List.length_cons];lia
  rw [hmin]
  rw [if_pos (by simp only [List.length_cons];lia)]
  rw [show ((((3*(a::l).length:Nat):Int)-(i:Int)+3-1)/3).toNat=(a::l).length by simp only [List.length_cons];lia]
  generalize hts:a::l=ts at hget ⊢
  rw [List.filterMap_map]
  have:∀ m,m≤ts.length→(List.range m).filterMap ((fun x=>(ts.flatMap fun t=>[t.1,t.2.1,t.2.2])[x]?)∘fun (k:Nat)=>((i:Int)+3*(k:Int)).toNat)=(ts.take m).map g:=by
   intro m
   induction m with
   | zero=>intro _;simp
   | succ m ih =>
    intro hm
    rw [List.range_succ,List.filterMap_append,ih (by exact Nat.le_of_succ_le hm),List.take_succ_eq_append_getElem (by exact Nat.lt_of_succ_le hm:m<ts.length),List.map_append]
    congr 1
    have:=hget m (by exact Nat.lt_of_succ_le hm)
    simp only [Function.comp,List.filterMap_cons,List.filterMap_nil,List.map_cons,List.map_nil]
    rw [show ((i:Int)+3*(m:Int)).toNat=i+3*m by exact Eq.symm (Nat.add_zero (i.add (3*m))),this]
  rw [this ts.length (Nat.le_refl _),List.take_length]
noncomputable def flat (ts:List Tk):List Nat:=ts.flatMap tkS
theorem flat_app (a b:List Tk):flat (a++b)=flat a++flat b:=by simp [flat]
theorem flat_cons (a:Tk) (b:List Tk):flat (a::b)=tkS a++flat b:=by simp [flat]
theorem tkS_len (t:Tk):1≤(tkS t).length∧(tkS t).length≤2:=by unfold tkS;split <;> simp
theorem flat_len (ts:List Tk):ts.length≤(flat ts).length∧(flat ts).length≤2*ts.length:=by
 induction ts with
 | nil=>simp [flat]
 | cons t ts ih=>have:=tkS_len t;rw [flat_cons,List.length_append,List.length_cons];lia
theorem trip_len (l:List (Tk×Tk)):(trip l).length=3*l.length:=by
 induction l with
 | nil=>rfl
 | cons a l ih=>simp only [trip,List.flatMap_cons,List.length_append,List.length_cons,List.length_nil] at *;lia
theorem okTk_trip {l:List (Tk×Tk)} (h:∀ p∈l,okTk p.1∧okTk p.2):∀ t∈trip l,okTk t:=by
 intro t ht
 obtain ⟨p,hp,hm⟩:=List.mem_flatMap.mp ht
 obtain ⟨h1,h2⟩:=h p hp
 simp at hm
 rcases hm with rfl | rfl | rfl
 ·exact h1
 ·exact .inr (by decide)
 ·exact h2
noncomputable def sgs (ts:List Tk):List AV:=ts.map fun t=>.int (tkV t)
theorem sgs_snoc (ts:List Tk) (t:Tk):sgs ts++[.int (tkV t)]=sgs (ts++[t]):=by simp [sgs]
theorem sgs_len (ts:List Tk):(sgs ts).length=ts.length:=by simp [sgs]
theorem bs_is:Str.ofString "\\"=⟨#[92]⟩:=by decide +kernel
theorem dash_is:Str.ofString "-"=⟨#[45]⟩:=by decide +kernel
theorem str1 (c d:Nat):decide ((⟨#[c]⟩:Str)=⟨#[d]⟩)=decide (c=d):=by
 rw [decide_eq_decide];constructor
 ·intro h;injection h with h;injection h with h;simpa using h
 ·rintro rfl;rfl
theorem OpT.incI {i:Nat} (q:Q (.int ((i+1:Nat):Int)) S):OpT w B n (opI .Add) [.int i,.int 1] S Q :=
 OpT.iaddI (by rw [show (i:Int)+1=((i+1:Nat):Int) by push_cast;rfl];exact q)
theorem get_flat {x:Str} {ts1 ts2:List Tk} {t:Tk} (h:x.cps.toList=flat (ts1++t::ts2)):x.cps.toList[(flat ts1).length]?=some (if t.1 then 92 else t.2)∧(t.1=true→x.cps.toList[(flat ts1).length+1]?=some t.2):=by
 rw [h,flat_app,flat_cons]
 constructor
 ·rw [List.getElem?_append_right (Nat.le_refl _),Nat.sub_self]
  unfold tkS;split <;> rfl
 ·intro ht
  rw [List.getElem?_append_right (by exact Nat.le_add_right (flat ts1).length 1),show (flat ts1).length+1-(flat ts1).length=1 by exact Nat.add_sub_self_left (flat ts1).length 1]
  unfold tkS;rw [if_pos ht];rfl
theorem pick_sgs (l:List (Tk×Tk)) (i:Nat) (hi:i<3) (g:Tk×Tk→Tk) (hg:∀ p:Tk×Tk,([p.1,(false,45),p.2]:List Tk)[i]?=some (g p)):pickL (sgs (trip l)) (some (i:Int)) none (some 3)=l.map fun p=>.int (tkV (g p)):=by
 have e:sgs (trip l)=(l.map fun p=>((AV.int (tkV p.1),AV.int (-1),AV.int (tkV p.2)):AV×AV×AV)).flatMap fun t=>[t.1,t.2.1,t.2.2]:=by
  induction l with
  | nil=>rfl
  | cons a l ih=>simp only [trip,sgs,List.flatMap_cons,List.map_append,List.map_cons,List.map_nil] at *;rw [ih];rfl
 rw [e,pick3 _ i hi (fun t=>([t.1,t.2.1,t.2.2]:List AV).getD i .unb) (fun t=>by
  have:i=0∨i=1∨i=2:=by lia
  rcases this with rfl | rfl | rfl <;> rfl),List.map_map]
 refine List.map_congr_left fun p _=>?_
 have:=hg p
 have h:i=0∨i=1∨i=2:=by lia
 rcases h with rfl | rfl | rfl
 ·simp at this;simp [← this]
 ·simp at this;simp [← this];rfl
 ·simp at this;simp [← this]
theorem zip_sgs (l:List (Tk×Tk)):zipT (l.map fun p=>.int (tkV p.1)) (l.map fun p=>.int (tkV p.2))=pairs (l.map fun p=>(tkV p.1,tkV p.2)):=by
 induction l with
 | nil=>rfl
 | cons a l ih=>simp only [List.map_cons,zipT,List.zip_cons_cons,pairs] at *;rw [ih]
theorem set_w (H:St w B) {k:Nat} {x head:Str} {l:List (Tk×Tk)} (hk:S[k]?=some [.str x]) (hx:x.cps.toList=head.cps.toList++flat (trip l)++[93]) (hok:∀ p∈l,okTk p.1∧okTk p.2) (hl:l.length≤100) (hh:head.length≤10)
  (q:∀ j r,(S++r)[j]?=some (pairs (l.map fun p=>(tkV p.1,tkV p.2)))→Q (.lst j) (S++r)):OpT w B (n+1) (callD 192) [.lst k,.str head] S Q:=by
 refine OpT.def H (ps:=["parts","head"]) ["body","signs","place"] [("parts",.lst k),("head",.str head),("body",.unb),("signs",.unb),("place",.unb)] (f_law_set _) (c_law_set _) rfl (all2 fun _ _=>by kernel_rfl) (by decide +kernel) (by decide +kernel) (by decide +kernel) (fun L hL H=>?_)
 have hfl:=flat_len (trip l)
 rw [trip_len] at hfl
 have xl:x.length=head.length+(flat (trip l)).length+1:=by rw [len_list,hx,len_list];simp;exact Eq.symm (Nat.add_assoc head.cps.size (flat (trip l)).length 1)
 have few1:[AV.str x].length≤fewItems:=by show 1≤fewItems;decide
 have xfew:x.length≤fewItems:=by unfold fewItems;lia
 obtain ⟨body,hb⟩:∃ body,body=cut x head.length (x.length-1):=⟨_,rfl⟩
 have hbody:body.cps.toList=flat (trip l):=by
  rw [hb]
  show (x.cps.toList.drop head.length).take (x.length-1-head.length)=_
  rw [hx,List.append_assoc,List.drop_append,List.drop_eq_nil_of_le (by rw [len_list];exact Nat.le_refl _),List.nil_append,show head.length-head.cps.toList.length=0 by rw [len_list];exact Nat.sub_self head.cps.toList.length,List.drop_zero,
   show x.length-1-head.length=(flat (trip l)).length by lia,List.take_left]
 have bl:body.length=(flat (trip l)).length:=by rw [len_list,hbody]
 have hcut:cut x 0 head.length=head:=str_ext (by
  show (x.cps.toList.drop 0).take (head.length-0)=_
  rw [hx,List.drop_zero,List.append_assoc,show head.length-0=head.cps.toList.length by rw [len_list];exact Nat.sub_zero head.cps.toList.length,List.take_left])
 let J:Loc→Store→Prop:=fun loc₂ S₂=>loc₂=([("parts",.lst k),("head",.str head),("body",.unb),("signs",.unb),("place",.unb)]:Loc)∧S₂=S
 refine ExA.seq J ?_ ?_
 ·refine ExS.ite (TsA.or (TsT.orCons (TsA.cmp (EvA.callB H (n_len _) (b_len _) (by kernel_rfl) ?_))))
  walk_at "s"
  refine OpT.lenL hk few1 ?_
  walk_at "s"
  refine OpT.neI (TrT.bool ?_)
  refine ifP (by rfl) ?_
  refine TsT.orCons (TsA.cmp (EvA.sliceS (EvA.subL ?_)))
  walk_at "s"
  refine ⟨⟨_,rfl⟩,OpT.getL hk (by exact Int.zero_le_ofNat 0) (x:=.str x) rfl few1 ?_⟩
  refine EvP.no (EvP.yes (EvA.callB H (n_len _) (b_len _) (by kernel_rfl) ?_))
  walk_at "s"
  refine OpT.lenS (by unfold fewItems;lia) ⟨_,rfl,x,0,head.length,rfl,⟨?_,Nat.zero_le _,by lia⟩,xfew,?_⟩
  ·unfold Builtin.Str.strSliceIndices;rfl
  walk_at "s"
  rw [hcut]
  refine OpT.neS (TrT.bool ?_)
  refine ifP (by simp) ?_
  refine TsT.orCons (TsA.cmp (EvA.subS (EvA.subL ?_)))
  walk_at "s"
  refine ⟨⟨_,rfl⟩,OpT.getL hk (by exact Int.zero_le_ofNat 0) (x:=.str x) rfl few1 ?_⟩
  refine EvA.un ?_
  walk_at "s"
  refine OpT.negI ⟨⟨_,rfl⟩,OpT.getS (c:=93) (by decide) (last_of hx) ?_⟩
  walk_at "s"
  refine OpT.neS (TrT.bool ?_)
  refine ifP (by decide +kernel) ?_
  refine TsT.orNil ?_
  refine ifN (by decide) ?_
  exact ExA.nil ⟨rfl,rfl⟩
 rintro loc₂ S₂ ⟨rfl,rfl⟩
 refine ExA.assign (by walk_at "u") (EvA.sliceS (EvA.subL ?_))
 walk_at "s"
 refine ⟨⟨_,rfl⟩,OpT.getL hk (by exact Int.zero_le_ofNat 0) (x:=.str x) rfl few1 ?_⟩
 refine EvP.yes (EvA.callB H (n_len _) (b_len _) (by kernel_rfl) ?_)
 walk_at "s"
 refine OpT.lenS (by unfold fewItems;lia) ⟨_,rfl,EvP.yes (EvA.un ?_)⟩
 walk_at "s"
 refine OpT.negI ⟨_,rfl,x,head.length,x.length-1,rfl,cuts_neg (by lia) (by lia),xfew,?_⟩
 rw [← hb]
 clear hb
 refine ExA.assign (by walk_at "u") (EvA.list ?_)
 walk_at "s"
 refine ⟨Nat.zero_le _,ExA.assign (by walk_at "u") ?_⟩
 walk_at "s"
 let I:Nat→Loc→Store→Prop:=fun m loc' S'=>∃ ts1 ts2,trip l=ts1++ts2∧m=ts2.length∧loc'=([("parts",.lst k),("head",.str head),("body",.str body),("signs",.lst S₂.length),("place",.int ((flat ts1).length:Nat))]:Loc)∧S'=S₂++[sgs ts1]
 refine ExA.while I ?_ (trip l).length
  ⟨[],trip l,rfl,rfl,rfl,rfl⟩
 rintro m loc' S' ⟨ts1,ts2,ht,rfl,rfl,rfl⟩
 have hfew:(flat (trip l)).length≤fewItems:=by unfold fewItems;lia
 refine TsA.cmp ?_
 walk_at "s"
 refine EvA.callB H (n_len _) (b_len _) (by kernel_rfl) ?_
 walk_at "s"
 refine OpT.lenS (by rw [bl];exact hfew) ?_
 walk_at "s"
 cases ts2 with
 | nil =>
  rw [List.append_nil] at ht
  rw [← ht]
  refine ifN (by rw [bl];simp) ?_
  have hsl:(sgs (trip l)).length=3*l.length:=by rw [sgs_len,trip_len]
  have hsf:(sgs (trip l)).length≤fewItems:=by rw [hsl];unfold fewItems;lia
  have hg0:∀ r:Store,(S₂++sgs (trip l)::r)[S₂.length]?=some (sgs (trip l)):=fun r=>get0 _ _ _
  let J:Loc→Store→Prop:=fun loc₂ S₃=>∃ r,loc₂=([("parts",.lst k),("head",.str head),("body",.str body),("signs",.lst S₂.length),("place",.int ((flat (trip l)).length:Nat))]:Loc)∧S₃=S₂++sgs (trip l)::r
  refine ExA.seq J ?_ ?_
  ·refine ExS.ite (TsA.or (TsT.orCons (TsA.cmp (EvA.bin (EvA.callB H (n_len _) (b_len _) (by kernel_rfl) ?_)))))
   walk_at "s"
   refine OpT.lenL (hg0 []) hsf ?_
   walk_at "s"
   refine OpT.modI (by decide) ?_
   rw [hsl,show Int.fmod ((3*l.length:Nat):Int) 3=((3*l.length%3:Nat):Int) from fmodN _ 3,Nat.mul_mod_right]
   walk_at "s"
   refine OpT.neI (TrT.bool ?_)
   refine ifP (by rfl) ?_
   refine TsT.orCons (TsA.cmp (EvA.comp [("sign",.unb)] (fun lc=>∃ a:AV,lc=([("sign",a)]:Loc)) (l.map fun _=>.int (-1)) (fun _=>none) (S₂.length+1) (S₂++[sgs (trip l),l.map fun _=>.int (-1)]) (by rfl) (fun _=>rfl) (fun _=>rfl) rfl (by decide +kernel)
    (fun x av h=>by simp at h;exact h.2) (by decide +kernel) ⟨_,rfl⟩ (by simp;unfold fewItems;lia) (get1 _ _ _ _) ?_ ?_ ?_))
   ·refine EvA.sliceL ?_
    walk_at "s"
    refine EvP.yes ?_
    walk_at "s"
    refine ⟨_,rfl,EvP.no (EvP.yes ?_)⟩
    walk_at "s"
    refine ⟨_,rfl,S₂.length,sgs (trip l),rfl,hg0 [],hsf,by decide,by simp,?_⟩
    have:=pick_sgs l 1 (by decide) (fun _=>(false,45)) (fun _=>rfl)
    rw [show ((1:Nat):Int)=1 from rfl] at this
    rw [this]
    simp [tkV]
   ·rintro C acc r lc a hC ⟨b,rfl⟩ ha
    obtain ⟨_,_,rfl⟩:=List.mem_map.mp ha
    refine StT.name (by walk_at "u") (by kernel_rfl) ⟨⟨_,rfl⟩,rfl,TsT.ifs1 (TsA.cmp ?_)⟩
    walk_at "s"
    refine EvA.un ?_
    walk_at "s"
    refine OpT.negI (OpT.neI (TrT.bool ?_))
    exact ⟨r,rfl,by rw [if_neg (by decide)]⟩
   ·intro r
    refine EvA.list ?_
    walk_at "s"
    refine ⟨Nat.zero_le _,?_⟩
    have hz:(l.map fun _=>(AV.int (-1))).filterMap (fun _=>(none:Option AV))=[]:=by simp
    rw [hz]
    refine OpT.neL (l:=[]) (m:=[]) (getP (by rw [List.getElem?_append_right (by simp)];simp) _) (by rw [List.getElem?_append_right (Nat.le_refl _),Nat.sub_self];rfl) (by simp) (by simp) (TrT.bool ?_)
    refine ifP (by rfl) ?_
    refine TsT.orNil ?_
    refine ifN (by decide) ?_
    exact ExA.nil ⟨(l.map fun _=>.int (-1))::[]::(r++[[]]),rfl,by simp⟩
  ·rintro loc₂ S₃ ⟨r,rfl,rfl⟩
   refine ExA.ret (EvA.listZip H (by kernel_rfl) (by kernel_rfl) (ArT.cons (EvA.sliceL ?_)))
   walk_at "s"
   refine EvP.yes ?_
   walk_at "s"
   refine ⟨_,rfl,EvP.no (EvP.yes ?_)⟩
   walk_at "s"
   refine ⟨_,rfl,S₂.length,sgs (trip l),rfl,hg0 _,hsf,by decide,?_⟩
   refine ArT.cons (EvA.sliceL ?_)
   walk_at "s"
   refine EvP.yes ?_
   walk_at "s"
   refine ⟨_,rfl,EvP.no (EvP.yes ?_)⟩
   walk_at "s"
   refine ⟨_,rfl,S₂.length,sgs (trip l),rfl,getP (hg0 _) _,hsf,by decide,ArT.nil ?_⟩
   have p0:=pick_sgs l 0 (by decide) (fun p=>p.1) (fun _=>rfl)
   have p2:=pick_sgs l 2 (by decide) (fun p=>p.2) (fun _=>rfl)
   rw [show ((0:Nat):Int)=0 from rfl] at p0
   rw [show ((2:Nat):Int)=2 from rfl] at p2
   rw [p0,p2]
   refine ⟨_,_,l.map fun p=>.int (tkV p.1),l.map fun p=>.int (tkV p.2),rfl,?_,?_,by simp,by simp;unfold fewItems;lia,?_⟩
   ·rw [List.getElem?_append_left (by simp),List.getElem?_append_right (Nat.le_refl _),Nat.sub_self,List.map_map];rfl
   ·rw [List.getElem?_append_right (Nat.le_refl _),Nat.sub_self,List.map_map];rfl
   ·rw [zip_sgs]
    have e:∀ (a b c:Store),(S₂++sgs (trip l)::r)++a++b++c=S₂++(sgs (trip l)::r++a++b++c):=by intros;simp
    rw [e]
    refine q _ _ ?_
    rw [← e,List.getElem?_append_right (Nat.le_refl _),Nat.sub_self];rfl
 | cons t ts2 =>
  have hlt:(flat ts1).length<(flat (trip l)).length:=by
   have:=tkS_len t
   rw [ht,flat_app,flat_cons,List.length_append,List.length_append];lia
  refine ifP (by rw [bl,decide_eq_true_eq];exact Int.ofNat_lt.mpr hlt) ?_
  obtain ⟨g1,g2⟩:=get_flat (x:=body) (hbody.trans (by rw [ht]))
  have hokt:okTk t:=okTk_trip hok t (by rw [ht];simp)
  have hts:ts1.length≤300:=by
   have:=congrArg List.length ht
   rw [trip_len,List.length_append,List.length_cons] at this;lia
  have hfit:(decide (((flat ts1).length:Int) < -(2 ^ 63:Int))||decide (((flat ts1).length:Int)≥2 ^ 63))=false:=by
   unfold fewItems at hfew
   rw [Bool.or_eq_false_iff];constructor <;> (rw [decide_eq_false_iff_not];(clear hl;lia))
  have hap:(S₂++[sgs ts1])[S₂.length]?=some (sgs ts1):=get0 _ _ _
  have hsf:(sgs ts1).length≤fewItems:=by rw [sgs_len];unfold fewItems;lia
  have fin:∀ (p:Nat),p=(flat (ts1++[t])).length→∃ m,m<(t::ts2).length∧I m ([("parts",.lst k),("head",.str head),("body",.str body),("signs",.lst S₂.length),("place",.int (p:Nat))]:Loc) ((S₂++[sgs ts1]).set S₂.length (sgs ts1++[.int (tkV t)])):=by
   rintro p rfl
   exact ⟨ts2.length,by simp,ts1++[t],ts2,by rw [ht];simp,rfl,rfl,by rw [set0,sgs_snoc]⟩
  have fl1:(flat (ts1++[t])).length=(flat ts1).length+(tkS t).length:=by rw [flat_app,List.length_append,flat_cons];simp [flat]
  refine ExA.ite (TsA.cmp (EvA.subS ?_))
  walk_at "s"
  refine ⟨⟨_,rfl⟩,OpT.getS hfit (at_of g1) ?_⟩
  walk_at "s"
  refine OpT.eqS (TrT.bool ?_)
  rw [bs_is,str1]
  by_cases h1:t.1=true
  ·refine ifP (by rw [if_pos h1];decide) ?_
   refine ExA.aug (by walk_at "e") rfl (by walk_at "u") ?_
   walk_at "s"
   refine OpT.incI ?_
   refine ExA.expr (EvA.meth (T:="list") (id:="list.append") ?_ F.plainAttrs_list slot_list_append type_list_append)
   walk_at "s"
   refine ⟨rfl,ArT.cons (EvA.callB H (n_ord _) (b_ord _) (by kernel_rfl) (ArT.cons (EvA.or (EvA.sliceS ?_))))⟩
   walk_at "s"
   refine EvP.yes ?_
   walk_at "s"
   refine ⟨_,rfl,EvP.yes ?_⟩
   walk_at "s"
   have g3:=g2 h1
   have hb2:(flat ts1).length+1<body.length:=by rw [len_list];exact (List.getElem?_eq_some_iff.mp g3).1
   refine ⟨_,rfl,body,(flat ts1).length+1,(flat ts1).length+1+1,rfl,⟨by push_cast;rfl,by exact Nat.le_add_right ((flat ts1).length+1) 1,by exact Nat.succ_le_of_lt hb2⟩,by rw [bl];exact hfew,?_⟩
   rw [cut_one g3]
   refine TrT.str (by show 1≤fewItems;decide) ?_
   refine ifP (by rfl) ?_
   walk_at "s"
   refine OpT.ord ?_
   walk_at "s"
   refine OpT.append hap hsf (ExA.nil ?_)
   refine ExA.aug (by walk_at "e") rfl (by walk_at "u") ?_
   walk_at "s"
   refine OpT.incI (ExA.nil ?_)
   have e2:tkV t=(t.2:Int):=by unfold tkV;rw [if_pos h1]
   have:=fin ((flat ts1).length+1+1) (by rw [fl1];unfold tkS;rw [if_pos h1];rfl)
   rw [e2] at this
   exact this
  ·have h92:t.2≠92:=by
    rcases hokt with h | h
    ·exact absurd h h1
    ·exact h
   refine ifN (by rw [if_neg h1];simpa using h92) ?_
   have hln:(flat (ts1++[t])).length=(flat ts1).length+1:=by rw [fl1];unfold tkS;rw [if_neg h1];rfl
   refine ExA.ite (TsA.cmp (EvA.subS ?_))
   walk_at "s"
   rw [if_neg h1] at g1
   refine ⟨⟨_,rfl⟩,OpT.getS hfit (at_of g1) ?_⟩
   walk_at "s"
   refine OpT.eqS (TrT.bool ?_)
   rw [dash_is,str1]
   by_cases h45:t.2=45
   ·refine ifP (by simpa using h45) ?_
    refine ExA.expr (EvA.meth (T:="list") (id:="list.append") ?_ F.plainAttrs_list slot_list_append type_list_append)
    walk_at "s"
    refine ⟨rfl,ArT.cons (EvA.un ?_)⟩
    walk_at "s"
    refine OpT.negI ?_
    walk_at "s"
    refine OpT.append hap hsf (ExA.nil (ExA.nil ?_))
    refine ExA.aug (by walk_at "e") rfl (by walk_at "u") ?_
    walk_at "s"
    refine OpT.incI (ExA.nil ?_)
    have e2:tkV t = -1:=by unfold tkV;rw [if_neg h1,if_pos h45]
    have:=fin ((flat ts1).length+1) hln.symm
    rw [e2] at this
    exact this
   ·refine ifN (by simpa using h45) ?_
    refine ExA.expr (EvA.meth (T:="list") (id:="list.append") ?_ F.plainAttrs_list slot_list_append type_list_append)
    walk_at "s"
    refine ⟨rfl,ArT.cons (EvA.callB H (n_ord _) (b_ord _) (by kernel_rfl) (ArT.cons (EvA.subS ?_)))⟩
    walk_at "s"
    refine ⟨⟨_,rfl⟩,OpT.getS hfit (at_of g1) ?_⟩
    walk_at "s"
    refine OpT.ord ?_
    walk_at "s"
    refine OpT.append hap hsf (ExA.nil (ExA.nil ?_))
    refine ExA.aug (by walk_at "e") rfl (by walk_at "u") ?_
    walk_at "s"
    refine OpT.incI (ExA.nil ?_)
    have e2:tkV t=(t.2:Int):=by unfold tkV;rw [if_neg h1,if_neg h45]
    have:=fin ((flat ts1).length+1) hln.symm
    rw [e2] at this
    exact this
noncomputable def Ris (xs:Array Nat):Prop:=∀ i k,i<k→k<xs.size→xs.getD i 0<xs.getD k 0
theorem getD_in {xs:Array Nat} {k:Nat} (h:k<xs.size) (d e:Nat):xs.getD k d=xs.getD k e:=by simp [Array.getD,h]
theorem below_succ (xs:Array Nat) (j n lo hi:Nat):SetTable.below.go xs j (n+1) lo hi=if lo<hi then if xs.getD ((lo+hi)/2) j<j then SetTable.below.go xs j n ((lo+hi)/2+1) hi else SetTable.below.go xs j n lo ((lo+hi)/2) else lo:=rfl
theorem below_go (xs:Array Nat) (j:Nat) (hr:Ris xs):∀ fuel lo hi,hi-lo≤fuel→lo≤hi→hi≤xs.size→(∀ k,k<lo→xs.getD k 0<j)→(∀ k,hi≤k→k<xs.size→j≤xs.getD k 0) →
  SetTable.below.go xs j fuel lo hi≤xs.size∧(∀ k,k<SetTable.below.go xs j fuel lo hi→xs.getD k 0<j)∧(∀ k,SetTable.below.go xs j fuel lo hi≤k→k<xs.size→j≤xs.getD k 0)
 | 0,lo,hi,hf,hl,hh,h1,h2=>by
  obtain rfl:lo=hi:=Nat.le_antisymm hl (Nat.le_of_sub_eq_zero (Nat.le_zero.mp hf))
  exact ⟨hh,h1,h2⟩
 | fuel+1,lo,hi,hf,hl,hh,h1,h2=>by
  rw [below_succ]
  split
  ·rename_i hlt
   have hmh:(lo+hi)/2<hi:=Nat.div_lt_of_lt_mul (by rw [Nat.two_mul];exact Nat.add_lt_add_right hlt hi)
   have hlm:lo≤(lo+hi)/2:=(Nat.le_div_iff_mul_le (by decide)).mpr (by rw [Nat.mul_two];exact Nat.add_le_add_left hl lo)
   have hm:(lo+hi)/2<xs.size:=Nat.lt_of_lt_of_le hmh hh
   by_cases hmid:xs.getD ((lo+hi)/2) j<j
   ·rw [if_pos hmid]
    rw [getD_in hm j 0] at hmid
    refine below_go xs j hr fuel ((lo+hi)/2+1) hi (Nat.le_of_lt_succ (Nat.lt_of_lt_of_le (Nat.sub_lt_sub_left hlt (Nat.lt_succ_of_le hlm)) hf)) hmh hh (fun k hk=>?_) h2
    by_cases e:k=(lo+hi)/2
    ·subst e;exact hmid
    ·exact Nat.lt_trans (hr k ((lo+hi)/2) (Nat.lt_of_le_of_ne (Nat.le_of_lt_succ hk) e) hm) hmid
   ·rw [if_neg hmid]
    rw [getD_in hm j 0] at hmid
    refine below_go xs j hr fuel lo ((lo+hi)/2) (Nat.le_of_lt_succ (Nat.lt_of_lt_of_le (Nat.sub_lt_sub_right hlm hmh) hf)) (by exact Nat.le_of_not_lt fun a=>hmid (h1 ((lo+hi)/2) a)) (by exact Nat.le_of_succ_le hm) h1 (fun k hk hk'=>?_)
    by_cases e:k=(lo+hi)/2
    ·subst e;exact Nat.le_of_not_lt hmid
    ·have:=hr ((lo+hi)/2) k (by exact Nat.lt_of_le_of_ne hk fun a=>e (id (Eq.symm a))) hk';exact Nat.le_trans (Nat.le_of_not_lt hmid) (Nat.le_of_lt this)
  ·rename_i hlt
   obtain rfl:lo=hi:=Nat.le_antisymm hl (Nat.le_of_not_lt hlt)
   exact ⟨hh,h1,h2⟩
theorem below_spec {xs:Array Nat} (hr:Ris xs) (j:Nat):SetTable.below xs j≤xs.size∧(∀ k,k<SetTable.below xs j→xs.getD k 0<j)∧(∀ k,SetTable.below xs j≤k→k<xs.size→j≤xs.getD k 0) :=
 below_go xs j hr xs.size 0 xs.size (by exact Nat.sub_le xs.size 0) (Nat.zero_le _) (Nat.le_refl _) (fun k hk=>by lia) (fun k h h'=>by lia)
theorem below_at {xs:Array Nat} (hr:Ris xs) {i j:Nat} (hi:i<xs.size) (h1:xs.getD i 0≥j) (h2:∀ k,k<i→xs.getD k 0<j):SetTable.below xs j=i:=by
 obtain ⟨b1,b2,b3⟩:=below_spec hr j
 rcases Nat.lt_trichotomy (SetTable.below xs j) i with h | h | h
 ·have:=b3 _ (Nat.le_refl _) (by exact Nat.lt_trans h hi);have:=h2 _ h;omega
 ·exact h
 ·have:=b2 _ h;omega
theorem below_end {xs:Array Nat} (hr:Ris xs) {j:Nat} (h2:∀ k,k<xs.size→xs.getD k 0<j):SetTable.below xs j=xs.size:=by
 obtain ⟨b1,b2,b3⟩:=below_spec hr j
 rcases Nat.lt_or_ge (SetTable.below xs j) xs.size with h | h
 ·have:=b3 _ (Nat.le_refl _) h;have:=h2 _ h;lia
 ·exact Eq.symm (Nat.le_antisymm h b1)
theorem insertAt_getD {xs:Array Nat} {p x k:Nat} (hp:p≤xs.size):(SetTable.insertAt xs p x).getD k 0=if k<p then xs.getD k 0 else if k=p then x else xs.getD (k-1) 0:=by
 have e:(SetTable.insertAt xs p x).getD k 0=(SetTable.insertAt xs p x).toList.getD k 0:=by simp [Array.getD_eq_getD_getElem?,List.getD]
 have e2:∀ m,xs.getD m 0=xs.toList.getD m 0:=fun m=>by simp [Array.getD_eq_getD_getElem?,List.getD]
 rw [e,e2,e2]
 have e3:(SetTable.insertAt xs p x).toList=xs.toList.take p++x::xs.toList.drop p:=by
  unfold SetTable.insertAt
  simp [List.extract_eq_take_drop]
  rw [List.take_of_length_le (by simp)]
 rw [e3]
 have hl:(xs.toList.take p).length=p:=by simp;exact Nat.min_eq_left hp
 split
 ·rename_i h
  simp only [List.getD_eq_getElem?_getD]
  rw [List.getElem?_append_left (by exact Nat.lt_of_lt_of_eq h (id (Eq.symm hl))),List.getElem?_take_of_lt h]
 ·split
  ·rename_i h h'
   subst h'
   simp only [List.getD_eq_getElem?_getD]
   rw [List.getElem?_append_right (by exact List.length_take_le k xs.toList),hl,Nat.sub_self];rfl
  ·rename_i h h'
   simp only [List.getD_eq_getElem?_getD]
   rw [List.getElem?_append_right (by lia),hl,show k-p=(k-p-1)+1 by lia,List.getElem?_cons_succ,List.getElem?_drop,show p+(k-p-1)=k-1 by lia]
theorem insertAt_size {xs:Array Nat} {p x:Nat} (hp:p≤xs.size):(SetTable.insertAt xs p x).size=xs.size+1:=by
 unfold SetTable.insertAt;simp;lia
theorem Ris.insert {xs:Array Nat} (hr:Ris xs) {j:Nat} (hj:xs[SetTable.below xs j]?≠some j):Ris (SetTable.insertAt xs (SetTable.below xs j) j):=by
 obtain ⟨b1,b2,b3⟩:=below_spec hr j
 generalize SetTable.below xs j=p at hj b1 b2 b3
 have hne:∀ k,p≤k→k<xs.size→j<xs.getD k 0:=fun k h1 h2=>by
  have h0:=b3 k h1 h2
  by_cases e:k=p
  ·subst e
   have:xs.getD k 0≠j:=fun e=>hj (by rw [Array.getElem?_eq_getElem h2];simpa [Array.getD,h2] using e)
   exact Nat.lt_of_le_of_ne h0 (id (Ne.symm this))
  ·have h3:=b3 p (Nat.le_refl _) (by exact Nat.lt_of_le_of_lt h1 h2)
   have:=hr p k (by exact Nat.lt_of_le_of_ne h1 fun a=>e (id (Eq.symm a))) h2
   exact Nat.lt_of_le_of_lt h3 this
 intro i k hik hk
 rw [insertAt_size b1] at hk
 rw [insertAt_getD b1,insertAt_getD b1]
 split
 ·rename_i h
  split
  ·exact hr i k hik (by omega)
  ·split
   ·exact b2 i h
   ·have:=b2 i h;have:=hne (k-1) (by omega) (by omega);exact Nat.lt_trans (b2 i h) this
 ·rename_i h
  rw [if_neg (by omega:¬ k<p)]
  split
  ·rw [if_neg (by omega:¬ k=p)]
   exact hne _ (by omega) (by omega)
  ·rw [if_neg (by omega:¬ k=p)]
   exact hr _ _ (by omega) (by omega)
theorem ris_range (n:Nat):Ris (Array.range n):=fun i k h hk=>by
 simp at hk
 simp [Array.getD,hk,show i<n by exact Nat.lt_trans h hk];exact h
theorem ris_nil:Ris #[]:=fun i k h hk=>by simp at hk
theorem probeS (t:SetTable) (f:Nat→Int) (h:Int) (n:Nat) (p:SetTable.Probe):SetTable.probe.go t f h (n+1) p=(match t.slot p.j with
  | .empty=>some (.empty p.j p.dummy)
  | .dummy=>SetTable.probe.go t f h n (t.advance { p with dummy:=some p.j })
  | .live i=>if (f i==h)=true then some (.candidate p.j i (t.advance p)) else SetTable.probe.go t f h n (t.advance p)):=rfl
theorem probe_free (t:SetTable) (f:Nat→Int) (h:Int):∀ (fuel:Nat) (p:SetTable.Probe) (j:Nat) (d:Option Nat),(∀ q,p.dummy=some q→∀ i,t.slot q≠.live i)→SetTable.probe.go t f h fuel p=some (.empty j d) →
  (∀ i,t.slot j≠.live i)∧∀ q,d=some q→∀ i,t.slot q≠.live i
 | 0,p,j,d,_,e=>nomatch e
 | fuel+1,p,j,d,hp,e=>by
  have hadv:∀ p:SetTable.Probe,(t.advance p).dummy=p.dummy:=fun p=>by unfold SetTable.advance;split <;> rfl
  rw [probeS] at e
  cases hs:t.slot p.j with
  | empty =>
   rw [hs] at e
   simp only [Option.some.injEq,SetTable.Met.empty.injEq] at e
   obtain ⟨rfl,rfl⟩:=e
   exact ⟨(fun i q=>by rw [hs] at q;cases q),hp⟩
  | dummy =>
   rw [hs] at e
   refine probe_free t f h fuel _ j d (fun q hq=>?_) e
   rw [hadv] at hq
   simp only [Option.some.injEq] at hq
   subst hq
   intro i q;rw [hs] at q;cases q
  | live i =>
   rw [hs] at e
   dsimp only at e
   split at e
   ·simp at e
   ·refine probe_free t f h fuel _ j d (fun q hq=>?_) e
    rw [hadv] at hq
    exact hp q hq
theorem freeSlot_ok {t:SetTable} {h:Int} {slot:Nat} {b:Bool} (e:t.freeSlot h=some (slot,b)):t.place[SetTable.below t.place slot]?≠some slot:=by
 have hl:∀ i,t.slot slot≠.live i:=by
  unfold SetTable.freeSlot at e
  cases hm:t.probe (fun _=>h+1) h (t.probeStart h) with
  | none=>rw [hm] at e;cases e
  | some m =>
   rw [hm] at e
   cases m with
   | empty j d =>
    obtain ⟨h1,h2⟩:=probe_free t _ h _ _ j d (fun q hq=>by cases hq) hm
    cases d with
    | none=>cases e;exact h1
    | some q=>cases e;exact h2 _ rfl
   | _=>cases e
 intro q
 refine hl (SetTable.below t.place slot) ?_
 unfold SetTable.slot
 simp only [q,beq_self_eq_true,if_true]
noncomputable def TOk (t:SetTable) (led:Bool):Prop:=Ris t.place∧t.led=led
theorem standIn_ok {t:SetTable} {n:Nat} {led:Bool} (h:t.led=led):TOk (t.standIn n) led:=⟨ris_range n,h⟩
theorem layNew_ok {t:SetTable} {led:Bool} (h:TOk t led) (es:Array (Int×Value)) (k:Int) (x:Value):TOk (layNew t es k x).2.1 led:=by
 unfold layNew
 cases e:t.freeSlot k with
 | none=>exact standIn_ok h.2
 | some p =>
  dsimp only
  unfold SetTable.orStandIn
  split
  ·exact ⟨h.1.insert (freeSlot_ok e),h.2⟩
  ·exact standIn_ok h.2
theorem ris_of {l:List Nat} (h:l.Pairwise (·<·)):Ris l.toArray:=fun i k hik hk=>by
 have hk':k<l.length:=by simpa using hk
 have:=List.pairwise_iff_getElem.mp h i k (by exact Nat.lt_trans hik hk) hk' hik
 simpa [Array.getD,hk',show i<l.length by exact Nat.lt_trans hik hk] using this
theorem ris_live (f:Nat→Option Nat) (n:Nat):Ris (((List.range n).filterMap fun j=>(f j).map (j,·)).map (·.1)).toArray:=by
 refine ris_of ?_
 have e:((List.range n).filterMap fun j=>(f j).map (j,·)).map (·.1)=(List.range n).filter fun j=>(f j).isSome:=by
  induction List.range n with
  | nil=>rfl
  | cons a l ih =>
   cases h:f a with
   | none=>simpa [h] using ih
   | some b=>simp [h];simpa using ih
 rw [e]
 exact List.Pairwise.filter _ List.pairwise_lt_range
theorem relayAll_ok {t:SetTable} {led:Bool} (h:t.led=led) (es:Array (Int×Value)) (n:Nat):TOk (relayAll t es n).2.1 led:=by
 unfold relayAll
 cases e:t.relaid (es.map (·.1)) n with
 | none=>exact standIn_ok h
 | some p =>
  dsimp only
  split
  ·unfold SetTable.relaid SetTable.laid at e
   obtain ⟨owner,_,e⟩:=Option.bind_eq_some_iff.mp e
   cases e
   exact ⟨ris_live (fun j=>owner.getD j none) _,h⟩
  ·exact standIn_ok h
noncomputable def byT (w:World):Bool:=w.params.followText "set-order"
structure SetK (w:World) (h:Heap) (a:Addr) (es:Array (Int×Value)) (ep:Nat) (t:SetTable):Prop where
 get:h.get? a=some { cls:=.type "set",data:=.set es ep t }
 el:ElemsOf (intKind pw w) es.toList
 fits:t.fits es.size=true
 ok:TOk t (!byT w)
 small:es.size<scanBound
noncomputable def keyV (e:Int×Value):Int:=match e.2 with
 | .int i _=>i
 | _=>0
noncomputable def keysE (es:Array (Int×Value)):List Int:=es.toList.map keyV
theorem el_int {w:World} {l:List (Int×Value)} (h:ElemsOf (intKind pw w) l):∀ e∈l,∃ t,e.2=.int (keyV e) t:=fun e he=>by
 obtain ⟨⟨k,hk,_⟩,_⟩:=h e he
 obtain ⟨t,ht⟩:=Value.isInt_shape hk
 exact ⟨t,by unfold keyV;rw [ht]⟩
theorem is_int (i j:Int) (t:Tok):(intKind pw w).is i (.int j t)=decide (j=i):=by
 show Value.isInt i (.int j t)=_
 unfold Value.isInt;rfl
theorem hgw (b:Bool) {E:Value→Shared→Prop} {s₁:Shared} {Q':Unit→Shared→Prop} (hq:Q' () s₁):wpAny (model pw w) A (match b with | true=>rule "set.scan.the-table-gave-way" | false=>pure ()) Q' E s₁:=by
 cases b
 ·exact wpAny_pure hq
 ·exact wpAny_rule hq
theorem store_get {h:Heap} {a:Addr} {es es':Array (Int×Value)} {ep:Nat} {t t':SetTable} (g:h.get? a=some { cls:=.type "set",data:=.set es ep t }):(h.update a (Obj.putSet es' t')).get? a=some { cls:=.type "set",data:=.set es' (ep+1) t' } :=
 Heap.get?_update_self (Obj.putSet es' t') g rfl
theorem add_tail {E:Value→Shared→Prop} {a:Addr} {es es1:Array (Int×Value)} {ep:Nat} {t t2:SetTable} {led wasDummy:Bool} (g:s.heap.get? a=some { cls:=.type "set",data:=.set es ep t })
  (hb1:es1.size<scanBound) (hok:TOk t2 led) (hf2:t2.fits es1.size=true) {R:Option Bool→Shared→Prop}
  (h:∀ h' es3 ep3 t3,Heap.SameBut a s.heap h'→h'.get? a=some { cls:=.type "set",data:=.set es3 ep3 t3 }→es3.toList.Perm es1.toList→t3.fits es3.size=true→TOk t3 led→R (some true) { s with heap:=h' }) :
  wpAny (model pw w) A (do
    storeSet a es1 t2
    if (!wasDummy&&t2.tooFull)=true then do
      (match (relayAll t2 es1 (SetTable.grown es1.size)).2.2 with | true=>rule "set.scan.the-table-gave-way" | false=>pure ())
      storeSet a (relayAll t2 es1 (SetTable.grown es1.size)).1 (relayAll t2 es1 (SetTable.grown es1.size)).2.1
      pure (some true)
     else pure (some true)) R E s:=by
 refine wpAny_bind (wpAny_storeSet_of g rfl ?_ (fits_of_scanBound hb1))
 have g1:=store_get (es':=es1) (t':=t2) g
 have hsb1:=Heap.SameBut.update s.heap a (Obj.putSet es1 t2)
 split
 ·have hp:=relayAll_perm t2 es1 (SetTable.grown es1.size)
  have hfr:=relayAll_fits t2 es1 (SetTable.grown es1.size)
  have hor:=relayAll_ok hok.2 es1 (SetTable.grown es1.size)
  have hsz:(relayAll t2 es1 (SetTable.grown es1.size)).1.size=es1.size:=by rw [← Array.length_toList,hp.length_eq,Array.length_toList]
  refine wpAny_bind (hgw _ ?_)
  refine wpAny_bind (wpAny_storeSet_of g1 rfl ?_ (fits_of_scanBound (by rw [hsz];exact hb1)))
  exact wpAny_pure (h _ _ _ _ (hsb1.trans (Heap.SameBut.update _ a _)) (store_get g1) hp hfr hor)
 ·exact wpAny_pure (h _ _ _ _ hsb1 g1 (.refl _) hf2 hok)
theorem setAdd_int {E:Value→Shared→Prop} {a:Addr} {es:Array (Int×Value)} {ep:Nat} {t:SetTable} {i:Int} {tk:Tok} {R:Bool→Shared→Prop} (K:SetK w s.heap a es ep t) (hroom:es.size+1<scanBound)
  (h:∀ h' es' ep' t' b tk',Heap.SameBut a s.heap h'→SetK w h' a es' ep' t'→(if i∈keysE es then keysE es'=keysE es else (keysE es').Perm (keysE es++[i]))→R b { s with heap:=h',toks:=tk' }) :
  wpAny (model pw w) A (setAdd a (.int i tk)) R E s:=by
 have hkey:(intKind pw w).is i (.int i tk)=true:=by rw [is_int];simp
 refine wpAny_holding ?_
 refine wpAny_bind ((intKind pw w).pyHash (k:=i) hkey ?_)
 generalize hs':({ s with toks:=s.toks+1 }:Shared)=s'
 have hK':SetK w s'.heap a es ep t:=by subst hs';exact K
 have hfin:∀ h' es' ep' t' b,Heap.SameBut a s'.heap h'→SetK w h' a es' ep' t'→(if i∈keysE es then keysE es'=keysE es else (keysE es').Perm (keysE es++[i]))→R b { s' with heap:=h' }:=by
  subst hs';intro h' es' ep' t' b x y z;exact h h' es' ep' t' b _ x y z
 clear hs' K h
 refine wpAny_holding (wpAny_bind (wpAny_setState_of hK'.get rfl hK'.fits ?_))
 dsimp only
 rw [byScan_of rfl hK'.small hK'.el]
 refine wpAny_bind ?_
 refine wpAny_bind (wpAny_rule ?_)
 refine wpAny_bind (wpAny_setScan_of (knd:=intKind pw w) hkey hK'.get rfl hK'.fits hK'.el ?_)
 have hmem:i∈keysE es↔∃ e∈es.toList,(intKind pw w).is i e.2=true:=by
  unfold keysE
  rw [List.mem_map]
  constructor
  ·rintro ⟨e,he,hi⟩
   obtain ⟨t,ht⟩:=el_int hK'.el e he
   exact ⟨e,he,by rw [ht,is_int,hi];simp⟩
  ·rintro ⟨e,he,hi⟩
   obtain ⟨t,ht⟩:=el_int hK'.el e he
   rw [ht,is_int] at hi
   exact ⟨e,he,by simpa using hi⟩
 cases hr:List.findIdx? (fun e=>(intKind pw w).is i e.2) es.toList with
 | some j =>
  obtain ⟨hj,hpj,_⟩:=List.findIdx?_eq_some_iff_getElem.mp hr
  have hin:i∈keysE es:=hmem.mpr ⟨es.toList[j],List.getElem_mem hj,hpj⟩
  refine wpAny_pure (wpAny_pure ?_)
  have e:s'={ s' with heap:=s'.heap }:=by cases s';rfl
  exact hfin s'.heap es ep t _ (Heap.SameBut.refl a s'.heap) hK' (by rw [if_pos hin])
 | none =>
  have hin:¬ i∈keysE es:=fun q=>by
   obtain ⟨e,he,hp⟩:=hmem.mp q
   have:=List.findIdx?_eq_none_iff.mp hr e he
   rw [hp] at this;cases this
  have hperm:=layNew_perm t es ((intKind pw w).hash i) (.int i tk)
  have hfits:=layNew_fits t es ((intKind pw w).hash i) (.int i tk)
  have hlok:=layNew_ok hK'.ok es ((intKind pw w).hash i) (.int i tk)
  generalize layNew t es ((intKind pw w).hash i) (.int i tk)=L at hperm hfits hlok ⊢
  obtain ⟨es1,t1,wasDummy,gave⟩:=L
  dsimp only at hperm hfits hlok ⊢
  rw [Array.toList_push] at hperm
  have hel1:ElemsOf (intKind pw w) es1.toList:=(hK'.el.push hkey rfl).perm hperm
  have hsz1:es1.size=es.size+1:=by rw [← Array.length_toList,hperm.length_eq,List.length_append,Array.length_toList];rfl
  have hb1:es1.size<scanBound:=by rw [hsz1];exact hroom
  have fin:∀ h' es3 ep3 t3,Heap.SameBut a s'.heap h'→h'.get? a=some { cls:=.type "set",data:=.set es3 ep3 t3 }→es3.toList.Perm es1.toList→t3.fits es3.size=true→TOk t3 (!byT w)→R true { s' with heap:=h' }:=fun h' es3 ep3 t3 x g p f o=>by
   have hs3:es3.size=es1.size:=by rw [← Array.length_toList,p.length_eq,Array.length_toList]
   refine hfin h' es3 ep3 t3 true x ⟨g,hel1.perm p,f,o,by rw [hs3];exact hb1⟩ ?_
   refine ifN hin ?_
   have:=(p.trans hperm).map keyV
   rw [List.map_append] at this
   exact this
  refine wpAny_bind (hgw _ ?_)
  split
  ·refine wpAny_bind ?_
   refine wpAny_pure ?_
   refine add_tail hK'.get hb1 (led:=!byT w) (t2:=if plainKind (.int i tk)=true then t1 else { t1 with plain:=false }) ?_ ?_ (fun h' es3 ep3 t3 x g p f o=>by dsimp only;exact wpAny_pure (fin h' es3 ep3 t3 x g p f o))
   ·split
    ·exact hlok
    ·exact hlok
   ·split
    ·exact hfits
    ·exact SetTable.fits_plain_off hfits
  ·refine wpAny_bind (wpAny_pure ?_)
   exact add_tail hK'.get hb1 hlok hfits (fun h' es3 ep3 t3 x g p f o=>by dsimp only;exact wpAny_pure (fin h' es3 ep3 t3 x g p f o))
noncomputable def dedupI (ns:List Int):List Int:=ns.foldl (fun acc i=>if i∈acc then acc else acc++[i]) []
theorem dedupI_snoc (ns:List Int) (i:Int):dedupI (ns++[i])=if i∈dedupI ns then dedupI ns else dedupI ns++[i]:=by unfold dedupI;rw [List.foldl_append];rfl
theorem SetK.ext {h h':Heap} {a:Addr} {es:Array (Int×Value)} {ep:Nat} {t:SetTable} (K:SetK w h a es ep t) (k:∀ o,h.get? a=some o→h'.get? a=some o):SetK w h' a es ep t :=
 ⟨k _ K.get,K.el,K.fits,K.ok,K.small⟩
theorem dedupI_go (ns:List Int):∀ acc:List Int,(ns.foldl (fun acc i=>if i∈acc then acc else acc++[i]) acc).length≤acc.length+ns.length:=by
 induction ns with
 | nil=>intro acc;simp
 | cons i ns ih =>
  intro acc
  rw [List.foldl_cons]
  refine Nat.le_trans (ih _) ?_
  split <;> simp <;> lia
theorem dedupI_len (ns:List Int):(dedupI ns).length≤ns.length:=by have:=dedupI_go ns [];simpa [dedupI] using this
theorem update_loop {Sa it l:Addr} {items:Array Value} {ns:List Int} {R:Result→Shared→Prop} (hh:A.in1.handled=none) (hn:items.size=ns.length) (hi:∀ i (h:i<ns.length),∃ t,items[i]?=some (.int ns[i] t)) (hb:ns.length+1<scanBound) (n1:it≠Sa) (n2:l≠Sa) (n3:l≠it) :
  ∀ (k i:Nat) (s:Shared) (es:Array (Int×Value)) (ep:Nat) (t:SetTable),ns.length-i=k→i≤ns.length→s.heap.IsListIter it l i→s.heap.IsList l items→SetK w s.heap Sa es ep t→(keysE es).Perm (dedupI (ns.take i)) →
  (∀ h' tk es' ep' t',(∀ c o,c≠Sa→c≠it→s.heap.get? c=some o→h'.get? c=some o)→SetK w h' Sa es' ep' t'→(keysE es').Perm (dedupI ns)→R (.ok (.ret .none)) { s with heap:=h',toks:=tk }) →
  codeAny (model pw w) A (.builtin "set.update.loop" ⟨[.ref Sa,.ref it],[]⟩) R s:=by
 intro k
 induction k with
 | zero =>
  intro i s es ep t hk hin hit hl K hp hR
  have:i=ns.length:=by lia
  subst this
  refine codeAny_builtin F.entry_set_update_loop ?_
  rw [Around.under_plainId F.plain_set_update_loop _]
  refine wpAny_bind (wpAny_pyNext_list_end hh hit hl (by simp [hn]) fun h' hx=>?_)
  refine wpAny_pure (hR h' s.toks es ep t (fun c o _ c2 e=>hx c o c2 e) (K.ext fun o e=>hx Sa o (Ne.symm n1) e) (by rwa [List.take_length] at hp))
 | succ k ih =>
  intro i s es ep t hk hin hit hl K hp hR
  have hlt:i<ns.length:=by exact Nat.lt_of_sub_eq_succ hk
  obtain ⟨tk,hv⟩:=hi i hlt
  refine codeAny_builtin F.entry_set_update_loop ?_
  rw [Around.under_plainId F.plain_set_update_loop _]
  refine wpAny_bind (wpAny_pyNext_list_item hit hl hv fun h' hit' hx=>?_)
  have K':SetK w h' Sa es ep t:=K.ext fun o e=>hx.extBut Sa o (Ne.symm n1) e
  have hsz:es.size≤ns.length:=by
   have h1:=hp.length_eq
   have h2:=dedupI_len (ns.take i)
   unfold keysE at h1
   rw [List.length_map,Array.length_toList] at h1
   rw [List.length_take] at h2;lia
  refine wpAny_bind (wpAny_holding (setAdd_int K' (by lia) fun h'' es' ep' t' b tk' hy K'' hkk=>?_))
  have hp':(keysE es').Perm (dedupI (ns.take (i+1))):=by
   rw [List.take_succ_eq_append_getElem hlt,dedupI_snoc]
   have hm:ns[i]∈keysE es↔ns[i]∈dedupI (ns.take i):=hp.mem_iff
   by_cases hc:ns[i]∈keysE es
   ·rw [if_pos hc] at hkk;rw [if_pos (hm.mp hc),hkk];exact hp
   ·rw [if_neg hc] at hkk;rw [if_neg (fun q=>hc (hm.mpr q))];exact hkk.trans (hp.append_right _)
  refine wpAny_pure ⟨plainId_quiet F.plain_set_update_loop _,ih (i+1) { s with heap:=h'',toks:=tk' } es' ep' t' (by (clear hin hb;lia)) hlt ?_ ?_ K'' hp' fun h3 tk3 es3 ep3 t3 hz K3 hp3=>?_⟩
  ·obtain ⟨o,ho,r⟩:=hit';exact ⟨o,hy.extBut _ _ n1 ho,r⟩
  ·exact (hl.at fun o e=>hx.extBut _ _ n3 e).at fun o e=>hy.extBut _ _ n2 e
  ·exact hR h3 tk3 es3 ep3 t3 (fun c o c1 c2 e=>hz c o c1 c2 (hy.extBut c o c1 (hx.extBut c o c2 e))) K3 hp3
set_option maxHeartbeats 3200000 in
theorem set_new_1 {E:Value→Shared→Prop} (a:Value) {Q₁:Value→Shared→Prop}
  (h:Q₁ (.ref s.heap.objs.size) { s with heap:=s.heap.push { cls:=.type "set",data:=.set #[] 0 (.fresh 0 0 (!byT w)) } }) :
  codeAny (model pw w) A (.call (.builtin "set.__new__") ⟨[.type "set",a],[]⟩) (wants Q₁ E) s:=by
 refine codeAny_of_tree ?_
 refine wpAny_bind (wpAny_of_eq (F.newCall_set_1 a) (wpAny_pure ⟨plainId_quiet F.plain_set_new _,codeAny_builtin F.entry_set_new ?_⟩))
 have hsub:=sub_set_self
 obtain ⟨hp,g,d,tk,os⟩:=s
 (refine wpAny_bind ?_;refine wpAny_bind ?_;wp_delta;refine wpAny_pure ?_;refine wpAny_bind ?_;refine wpAny_of_eq (by assumption) ?_;refine wpAny_pure ?_;refine wpAny_bind ?_;wp_delta;refine wpAny_bind ?_;wp_delta;refine wpAny_bind ?_)
 refine wpAny_askSetting (wpAny_pure ?_)
 refine wpAny_bind (wpAny_alloc (wpAny_pure ?_))
 exact wpAny_pure h
theorem setK_fresh {h:Heap} {a:Addr} (g:h.get? a=some { cls:=.type "set",data:=.set #[] 0 (.fresh 0 0 (!byT w)) }):SetK w h a #[] 0 (.fresh 0 0 (!byT w)) :=
 ⟨g,fun e he=>by simp at he,by rfl,⟨ris_nil,rfl⟩,by decide⟩
set_option maxHeartbeats 3200000 in
theorem call_set_ints {E:Value→Shared→Prop} {l:Addr} {items:Array Value} {ns:List Int} {R:Value→Shared→Prop} (hh:A.handled=none) (hl:s.heap.PlainList l items) (hn:items.size=ns.length) (hi:∀ i (h:i<ns.length),∃ t,items[i]?=some (.int ns[i] t)) (hb₀:ns.length+1<scanBound)
  (h:∀ h' tk es ep t,SetK w h' s.heap.objs.size es ep t→(keysE es).Perm (dedupI ns)→(∀ b o,s.heap.get? b=some o→h'.get? b=some o)→R (.ref s.heap.objs.size) { s with heap:=h',toks:=tk }) :
  wpAny (model pw w) A (call (.type "set") [.ref l]) R E s:=by
 refine let ZZ:Prop:=_;(?_:ZZ)
 obtain ⟨c,tl,hmro⟩:=F.called_set.mro
 have hmade:=F.called_set.made
 have hsub:=F.called_set.sub
 refine wpAny_call (codeAny_of_tree ?_)
 refine wpAny_pure ⟨Code.quiet_builtin _ (by decide +kernel),codeAny_builtin F.entry_type_call ?_⟩
 rw [Around.under_plain (weight_type_call_type "set" [.ref l] []) rfl]
 have h1:=F.called_set.notType
 have h2:=F.called_set.canCreate
 have hct:=F.typeCall_set_1 (.ref l)
 (wp_delta;refine wpAny_bind ?_;refine wpAny_of_eq (by assumption) ?_;refine wpAny_bind ?_;refine wpAny_of_eq (by assumption) ?_;refine wpAny_bind ?_;refine wpAny_of_eq (by assumption) ?_;refine wpAny_bind ?_;refine wpAny_pure ?_;refine wpAny_bind ?_;refine wpAny_holding ?_;refine wpAny_call ?_)
 refine codeAny_mono (set_new_1 (.ref l) (E:=E) (Q₁:=fun obj s₁=>obj=.ref s.heap.objs.size∧s₁={ s with heap:=s.heap.push { cls:=.type "set",data:=.set #[] 0 (.fresh 0 0 (!byT w)) } }) ⟨rfl,rfl⟩) fun r s₁ hr=>?_
 cases r with
 | error e=>exact hr
 | ok fl =>
  cases fl with
  | ret obj =>
   obtain ⟨rfl,rfl⟩:=hr
   have hS:(s.heap.push { cls:=.type "set",data:=.set #[] 0 (.fresh 0 0 (!byT w)) }).get? s.heap.objs.size=some { cls:=.type "set",data:=.set #[] 0 (.fresh 0 0 (!byT w)) }:=Heap.get?_push_size _ rfl
   have hT:Shared.TypeIs { s with heap:=s.heap.push { cls:=.type "set",data:=.set #[] 0 (.fresh 0 0 (!byT w)) } } (.ref s.heap.objs.size) "set":=⟨_,hS,rfl⟩
   have hli:=F.called_set.init.lookup
   have hbi:=F.called_set.init.bind (.ref s.heap.objs.size)
   have up:∀ b o,s.heap.get? b=some o→(s.heap.push { cls:=.type "set",data:=.set #[] 0 (.fresh 0 0 (!byT w)) }).get? b=some o:=fun b o e=>Heap.get?_push_of_some _ e
   have hlt:l<s.heap.objs.size:=by obtain ⟨n,e⟩:=hl;exact Heap.lt_size e
   have hl1:(s.heap.push { cls:=.type "set",data:=.set #[] 0 (.fresh 0 0 (!byT w)) }).IsList l items:=hl.isList.at fun o e=>up _ o e
   have hol:∃ nl,(s.heap.push { cls:=.type "set",data:=.set #[] 0 (.fresh 0 0 (!byT w)) }).get? l=some { cls:=.type "list",data:=.seq items nl }:=by obtain ⟨nl,e⟩:=hl;exact ⟨nl,up _ _ e⟩
   have K0:=setK_fresh (w:=w) hS
   (refine wpAny_bind ?_;refine wpAny_isInstance (by assumption) (by assumption) ?_;refine wpAny_bind ?_;refine wpAny_holding ?_;wp_delta;refine wpAny_bind ?_;refine wpAny_specialOf (by assumption) (by assumption) ?_;refine wpAny_holding ?_;refine wpAny_bind ?_;refine wpAny_of_eq (by assumption) ?_;refine wpAny_bind ?_;refine wpAny_call ?_)
   generalize hH:s.heap.push { cls:=.type "set",data:=.set #[] 0 (.fresh 0 0 (!byT w)) }=H at hS hT up hl1 hol K0 ⊢
   have hHs:H.objs.size=s.heap.objs.size+1:=by rw [← hH];exact Heap.size_push ..
   refine codeAny_mono (codeAny_call_builtin (R:=wants (fun r s₂=>r=.none∧∃ h' tk es ep t,s₂={ s with heap:=h',toks:=tk }∧SetK w h' s.heap.objs.size es ep t∧(keysE es).Perm (dedupI ns)∧(∀ b o,s.heap.get? b=some o→h'.get? b=some o)) E) F.called_set.init.plain F.entry_set_init (check_set_init_1 hT ?_)) fun r₂ s₂ hr₂=>?_
   ·obtain ⟨nl,hol⟩:=hol
    have hsls:=F.sub_list_set
    have hslf:=F.sub_list_frozenset
    have hne:(Value.type "list"==Value.type "dict")=false:=by decide
    generalize hPI:pyIter=PI
    (refine wpAny_bind ?_;refine wpAny_pure ?_;wp_delta;refine wpAny_bind ?_;wp_delta;refine wpAny_bind ?_;wp_delta;refine wpAny_bind ?_;refine wpAny_typeOf (by assumption) ?_;refine wpAny_pure ?_;wp_delta;wp_delta;refine wpAny_pure ?_;refine wpAny_bind ?_;wp_delta;refine wpAny_pure ?_;refine wpAny_bind ?_;wp_delta;refine wpAny_pure ?_;refine wpAny_bind ?_;wp_delta;refine wpAny_bind ?_;wp_delta;refine wpAny_bind ?_;(apply wpAny_load';focus (heap_get;done));refine wpAny_pure ?_;refine wpAny_pure ?_;refine wpAny_ite_false rfl ?_;wp_delta;refine wpAny_bind ?_;refine wpAny_bind ?_;wp_delta;wp_delta;refine wpAny_bind ?_;wp_delta;refine wpAny_bind ?_;wp_delta;refine wpAny_bind ?_;(apply wpAny_loadPart';focus (heap_get;done));refine wpAny_pure ?_;refine wpAny_of_eq (by assumption) ?_;wp_delta;wp_delta;refine wpAny_bind ?_;wp_delta;refine wpAny_bind ?_;(apply wpAny_loadPart';focus (heap_get;done));refine wpAny_pure ?_;refine wpAny_of_eq (by assumption) ?_;refine wpAny_bind ?_;wp_delta;refine wpAny_bind ?_;(apply wpAny_loadPart';focus (heap_get;done));refine wpAny_pure ?_;refine wpAny_bind ?_)
    subst hPI
    refine wpAny_pyIter_list (s:={ s with heap:=H }) hl1 ?_
    refine wpAny_bind (wpAny_runValue ?_)
    refine update_loop (items:=items) (ns:=ns) (l:=l) (by simp [hh]) hn hi hb₀ (by rw [hHs];exact Nat.succ_ne_self _) (Nat.ne_of_lt hlt) (by rw [hHs];exact Nat.ne_of_lt (Nat.lt_succ_of_lt hlt)) ns.length 0 _ #[] 0 (.fresh 0 0 (!byT w)) rfl (Nat.zero_le _)
     ⟨_,Heap.get?_push_size _ rfl,rfl,rfl⟩ (hl1.at fun o e=>Heap.get?_push_of_some _ e) (K0.ext fun o e=>Heap.get?_push_of_some _ e) (List.Perm.refl _) fun h' tk es' ep' t' hk K' hp=>?_
    refine wpAny_pure ?_
    refine wpAny_pure ⟨rfl,h',tk,es',ep',t',rfl,K',hp,fun b o e=>?_⟩
    have hb:=Heap.lt_size e
    exact hk b o (Nat.ne_of_lt hb) (by rw [hHs];exact Nat.ne_of_lt (Nat.lt_succ_of_lt hb)) (Heap.get?_push_of_some _ (up b o e))
   ·cases r₂ with
    | error e=>exact hr₂
    | ok fl₂ =>
     cases fl₂ with
     | ret r =>
      refine let ZZ:Prop:=_;(?_:ZZ)
      obtain ⟨rfl,h',tk,es',ep',t',rfl,K',hp,hk⟩:=hr₂
      (refine wpAny_pure ?_;refine wpAny_ite_false rfl ?_;wp_delta;wp_delta;refine wpAny_pure ?_)
      exact h _ _ _ _ _ K' hp hk
     | _=>exact hr₂.elim
  | _=>exact hr.elim
theorem erase_perm {α:Type}:∀ (l:List α) (i:Nat) (h:i<l.length),(l[i]::l.eraseIdx i).Perm l
 | a::l,0,_=>by simp
 | a::l,i+1,h=>by
  have:=erase_perm l i (by simpa using h)
  exact (List.Perm.swap _ _ _).trans (this.cons _)
theorem pickS {α:Type} (next:Nat→Nat) (n k:Nat) (l:List α) (out:Array α) {a:α} (h:l[next k%l.length]?=some a):pickOrder.go next (n+1) k l out=pickOrder.go next n (k+1) (l.eraseIdx (next k%l.length)) (out.push a):=by
 show (match l[next k%l.length]? with | some x=>pickOrder.go next n (k+1) (l.eraseIdx (next k%l.length)) (out.push x) | none=>out)=_
 rw [h]
theorem pick_go {α:Type} (next:Nat→Nat):∀ (fuel k:Nat) (left:List α) (out:Array α),left.length≤fuel→(pickOrder.go next fuel k left out).toList.Perm (out.toList++left)
 | 0,k,left,out,h=>by
  have:left=[]:=List.eq_nil_of_length_eq_zero (by exact Nat.eq_zero_of_le_zero h)
  subst this
  rw [List.append_nil];exact .refl _
 | fuel+1,k,left,out,h=>by
  cases left with
  | nil=>rw [List.append_nil];exact .refl _
  | cons a l =>
   have hlt:next k%(a::l).length<(a::l).length:=Nat.mod_lt _ (by simp)
   rw [pickS next fuel k _ out (List.getElem?_eq_getElem hlt)]
   refine (pick_go next fuel (k+1) _ _ (by rw [List.length_eraseIdx_of_lt hlt];simp at h ⊢;exact String.Pos.Raw.mk_le_mk.mp h)).trans ?_
   rw [Array.toList_push,List.append_assoc]
   exact (erase_perm _ _ hlt).append_left _
theorem pick_perm {α:Type} (next:Nat→Nat) (xs:Array α):(pickOrder next xs).toList.Perm xs.toList:=by
 unfold pickOrder
 have:=pick_go next xs.size 0 xs.toList #[] (by simp)
 simpa using this
theorem wp_choose {M:Model} {E:Value→Shared→Prop} {src:Source} {n:Nat} {R:Nat→Shared→Prop} (hn:n≠0) (h:∀ i d,i<n→R i { s with drawn:=d }):wpAny M A (choose src n) R E s:=fun Γ p _=>by
 show Sem.wp M Γ (.choose src n .pure) _ _ p s
 exact ⟨hn,by rw [Sem.wp];exact h _ _ (Nat.mod_lt _ (Nat.pos_of_ne_zero hn))⟩
theorem wp_drawOrder {M:Model} {E:Value→Shared→Prop} {α:Type}:∀ (n:Nat) (xs:List α) (s:Shared) (R:List α→Shared→Prop),xs.length=n→(∀ ys d,ys.Perm xs→R ys { s with drawn:=d })→wpAny M A (drawOrder n xs) R E s
 | 0,xs,s,R,hl,h=>by
  have:xs=[]:=List.eq_nil_of_length_eq_zero hl
  subst this
  exact wpAny_pure (h [] s.drawn (.refl _))
 | n+1,[],s,R,hl,h=>nomatch hl
 | n+1,a::l,s,R,hl,h=>by
  refine wpAny_bind (wp_choose (by simp) fun i d hi=>?_)
  rw [List.getElem?_eq_getElem hi]
  refine wpAny_bind (wp_drawOrder n _ _ _ (by rw [List.length_eraseIdx_of_lt hi];exact Eq.symm (Nat.eq_sub_of_add_eq (id (Eq.symm hl)))) fun ys d' hp=>wpAny_pure ?_)
  exact h _ d' ((List.Perm.cons _ hp).trans (erase_perm _ _ hi))
theorem F.slot_setiter_next:Slot "set_iterator" "__next__" "set_iterator.__next__" :=
 .of (owner:="set_iterator") (n:="__next__") (by rw [typeLookup_type,builtinLookup_eq_fast];kernel_rfl) (by decide +kernel) (by decide +kernel) (by decide +kernel)
  (by first | exact .inl (by decide +kernel) | exact .inr (by decide +kernel)) (by rw [isSubtype_type];kernel_rfl)
theorem F.entry_setiter_next:entryFor table "set_iterator.__next__"=some Builtin.«set_iterator.__next__»:=entryFor_of_tree (by kernel_rfl)
theorem F.args_setiter_next (a:Value):argsOk "set_iterator.__next__" ⟨[a],[]⟩:=by unfold argsOk;kernel_rfl
theorem F.entry_set_iter:entryFor table "set.__iter__"=some Builtin.«frozenset.__iter__» :=
 entryFor_alias (id':="frozenset.__iter__") (by rw [fastTable_eq_tree];kernel_rfl) rfl (by decide +kernel) (by rw [fastTable_eq_tree];kernel_rfl)
noncomputable abbrev sitO (first:Value) (i:Nat) (a:Addr) (n ep:Nat):Obj:={ cls:=.type "set_iterator",data:=.fields #[first,.int i 0,.ref a,.int n 0,.int ep 0] }
noncomputable def Goes2 (w:World) (h:Heap) (a:Addr) (es:Array (Int×Value)) (ep:Nat) (t:SetTable) (ord:List (Int×Value)) (first:Value) (i:Nat):Prop :=
 (byT w=true∧ord=(pickOrder (w.params.setOrder a ep) es).toList∧first=.int 0 0) ∨
 (byT w=false∧∃ (T:Addr) (ps:List Nat),first=.ref T∧h.get? T=some (tupO (ps.map fun (p:Nat)=>.int (p:Int) 0))∧ps.Perm (List.range es.size)∧ord=ps.filterMap (es[·]?)) ∨
 (byT w=false∧(!t.plain&&decide (es.size>1))=false∧ord=es.toList∧∃ slot:Nat,first=.int slot 0∧SetTable.below t.place slot=i)
structure SIt (w:World) (h:Heap) (a it:Addr) (es:Array (Int×Value)) (ep:Nat) (t:SetTable) (ord:List (Int×Value)) (i:Nat):Prop where
 k:SetK w h a es ep t
 go:∃ first,h.get? it=some (sitO first i a es.size ep)∧Goes2 w h a es ep t ord first i
 perm:ord.Perm es.toList
theorem wp_setsByText {E:Value→Shared→Prop} {R:Bool→Shared→Prop} (h:R (byT w) s):wpAny (model pw w) A setsByText R E s:=by
 unfold setsByText
 exact wpAny_bind (wpAny_askSetting (wpAny_pure h))
theorem pyIter_set {E:Value→Shared→Prop} {a:Addr} {es:Array (Int×Value)} {ep:Nat} {t:SetTable} {R:Value→Shared→Prop} (K:SetK w s.heap a es ep t)
  (h:∀ h' it d ord,SIt w h' a it es ep t ord 0→it≠a→s.heap.get? it=none→(∀ b o,s.heap.get? b=some o→h'.get? b=some o)→R (.ref it) { s with heap:=h',drawn:=d }) :
  wpAny (model pw w) A (pyIter (.ref a)) R E s:=by
 have hT:s.TypeIs (.ref a) "set":=⟨_,K.get,rfl⟩
 have halt:a<s.heap.objs.size:=Heap.lt_size K.get
 refine wpAny_pyIter_slot hT PySem.F.slot_set_iter (wpAny_call_entry PySem.F.slot_set_iter hT F.entry_set_iter ?_ (PySem.F.args_set_iter_1 _))
 refine wpAny_bind (wpAny_of_eq (a:=a) rfl ?_)
 refine wpAny_bind (wpAny_bind (wpAny_setEntries_of K.get rfl K.fits (wpAny_pure ?_)))
 have fin:∀ (first:Value) (s₁:Shared) (ord:List (Int×Value)),(∀ b o,s.heap.get? b=some o→s₁.heap.get? b=some o)→s₁.gens=s.gens→s₁.toks=s.toks→s₁.os=s.os→Goes2 w s₁.heap a es ep t ord first 0→ord.Perm es.toList →
   wpAny (model pw w) A.in1 (do
    let __do_lift←setEpoch a
    let __do_lift←newFields "set_iterator" [first,rawInt 0,Value.ref a,rawInt ↑es.size,rawInt ↑__do_lift]
    ret __do_lift) (fun fin s'=>∃ v,fin=Fin.done (Flow.ret v)∧∃ T' r,s'.TypeIs v T'∧typeLookup (Value.type T') (Str.ofString "__next__")=pure (some r)∧R v s') E s₁:=fun first s₁ ord k e1 e2 e3 hg hp=>by
  have K₁:SetK w s₁.heap a es ep t:=K.ext fun o e=>k _ _ e
  refine wpAny_bind (wpAny_setEpoch_of K₁.get rfl K₁.fits ?_)
  refine wpAny_bind (wpAny_newObj_type ?_ (by size_fits))
  refine wpAny_pure ⟨_,rfl,"set_iterator",_,⟨_,Heap.get?_push_size _ rfl,rfl⟩,F.slot_setiter_next.lookup,?_⟩
  obtain ⟨hp1,g1,d1,t1,o1⟩:=s₁
  simp only at e1 e2 e3
  subst e1 e2 e3
  refine h _ _ d1 ord ⟨K₁.ext fun o e=>Heap.get?_push_of_some _ e,⟨first,Heap.get?_push_size _ rfl,?_⟩,hp⟩ (Nat.ne_of_gt (Heap.lt_size K₁.get)) ?_ (fun b o e=>Heap.get?_push_of_some _ (k b o e))
  ·rcases hg with q | ⟨q,T,ps,q1,q2,q3⟩ | q
   ·exact .inl q
   ·exact .inr (.inl ⟨q,T,ps,q1,Heap.get?_push_of_some _ q2,q3⟩)
   ·exact .inr (.inr q)
  ·cases e:s.heap.get? hp1.objs.size with
   | none=>rfl
   | some o=>exact absurd (Heap.lt_size (k _ o e)) (Nat.lt_irrefl _)
 refine wpAny_bind (wpAny_bind (wpAny_setState_of K.get rfl K.fits (wpAny_bind (wp_setsByText (wpAny_pure ?_)))))
 cases hb:byT w with
 | true =>
  refine wpAny_ite_false rfl (wpAny_bind (wpAny_pure ?_))
  exact fin _ s _ (fun b o e=>e) rfl rfl rfl (.inl ⟨hb,rfl,rfl⟩) (pick_perm _ _)
 | false =>
  cases hd:(!t.plain&&decide (es.size>1)) with
  | false =>
   refine wpAny_ite_false (by show decide ((!false&&(!t.plain&&decide (es.size>1)))=true)=false;rw [hd];rfl) (wpAny_bind (wpAny_pure ?_))
   refine fin _ s es.toList (fun b o e=>e) rfl rfl rfl (.inr (.inr ⟨hb,hd,rfl,0,rfl,?_⟩)) (.refl _)
   have hr:=K.ok.1
   cases hz:t.place.size with
   | zero=>rw [below_end hr (fun k hk=>by lia),hz]
   | succ m=>exact below_at hr (by exact Nat.lt_of_sub_eq_succ hz) (Nat.zero_le _) (fun k hk=>by lia)
  | true =>
   refine wpAny_ite_true (by show decide ((!false&&(!t.plain&&decide (es.size>1)))=true)=true;rw [hd];rfl) ?_
   refine wpAny_bind (wp_drawOrder es.size (List.range es.size) _ _ (by simp) fun ps d hp=>?_)
   have hl:ps.length=es.size:=by rw [hp.length_eq,List.length_range]
   have h4:=K.small
   have h5:scanBound≤sizeLine:=by decide
   have hl2:(ps.map fun (i:Nat)=>rawInt (i:Int)).length≤sizeLine:=by rw [List.length_map,hl];exact fits_of_scanBound h4
   refine wpAny_bind (wpAny_newTuple (hsz:=hl2) ?_)
   refine fin _ { s with drawn:=d,heap:=_ } (ps.filterMap (es[·]?)) (fun b o e=>Heap.get?_push_of_some _ e) rfl rfl rfl (.inr (.inl ⟨hb,_,ps,rfl,Heap.get?_push_size _ rfl,hp,rfl⟩)) ?_
   refine (hp.filterMap _).trans ?_
   have e:∀ i,es[i]?=es.toList[i]?:=fun i=>by rw [Array.getElem?_toList]
   have e2:(fun i:Nat=>es[i]?)=fun i=>es.toList[i]?:=funext e
   rw [e2,show es.size=es.toList.length from (Array.length_toList).symm,List.filterMap_getElem?_range_length]
theorem SetK.len {h:Heap} {a:Addr} {es:Array (Int×Value)} {ep:Nat} {t:SetTable} (K:SetK w h a es ep t):t.place.size=es.size:=by
 have:=K.fits;unfold SetTable.fits at this;simp at this;exact this.1
theorem wp_setNext {E:Value→Shared→Prop} {a:Addr} {es:Array (Int×Value)} {ep slot i:Nat} {t:SetTable} {R:Option (Value×Nat)→Shared→Prop} (K:SetK w s.heap a es ep t) (hd:byT w=false→(!t.plain&&decide (es.size>1))=false)
  (r:Option (Value×Nat)) (hr:(if byT w=true then ((pickOrder (w.params.setOrder a ep) es)[i]?).map fun e=>(e.2,slot) else match es[SetTable.below t.place slot]?,t.place[SetTable.below t.place slot]? with | some (_,x),some j=>some (x,j+1) | _,_=>none)=r) (h:R r s) :
  wpAny (model pw w) A (setNext a slot i ep) R E s:=by
 subst hr
 refine wpAny_bind (wpAny_setState_of K.get rfl K.fits (wpAny_bind (wp_setsByText ?_)))
 cases hb:byT w with
 | true =>
  rw [hb,if_pos rfl] at h
  refine wpAny_ite_true rfl (wpAny_ite_false (by simp) ?_)
  refine wpAny_bind (wpAny_bind (wpAny_setState_of K.get rfl K.fits (wpAny_bind (wp_setsByText ?_))))
  rw [hb]
  exact wpAny_bind (wpAny_askSetting (wpAny_pure (wpAny_pure h)))
 | false =>
  rw [hb,if_neg Bool.false_ne_true] at h
  have hd:=hd hb
  refine wpAny_ite_false rfl (wpAny_ite_false (by show decide ((!t.plain&&decide (es.size>1))=true)=false;rw [hd];rfl) ?_)
  have hled:t.led=true:=by rw [K.ok.2,hb];rfl
  refine wpAny_bind ?_
  refine wpAny_ite_false (by show decide ((!t.led&&!es.isEmpty)=true)=false;rw [hled];rfl) ?_
  exact wpAny_pure (wpAny_pure h)
theorem places_at {t:SetTable} (hr:Ris t.place) {i j:Nat} (hp:t.place[i]?=some j):SetTable.below t.place (j+1)=i+1:=by
 obtain ⟨hi,e⟩:=Array.getElem?_eq_some_iff.mp hp
 have hg:t.place.getD i 0=j:=by simp [Array.getD,hi,e]
 rcases Nat.lt_or_ge (i+1) t.place.size with h | h
 ·refine below_at hr h ?_ (fun k hk=>?_)
  ·have:=hr i (i+1) (by exact Nat.lt_add_one i) h;exact le_of_eq_of_le (congrFun (congrArg HAdd.hAdd (id (Eq.symm hg))) 1) this
  ·by_cases q:k=i
   ·subst q;lia
   ·have:=hr k i (by lia) hi;lia
 ·rw [below_end hr (fun k hk=>?_)]
  ·exact Eq.symm (Nat.le_antisymm hi h)
  ·by_cases q:k=i
   ·subst q;lia
   ·have:=hr k i (by lia) hi;lia
theorem pyNext_set_item {E:Value→Shared→Prop} {a it:Addr} {es:Array (Int×Value)} {ep:Nat} {t:SetTable} {ord:List (Int×Value)} {i:Nat} {e:Int×Value} {R:Option Value→Shared→Prop} (I:SIt w s.heap a it es ep t ord i) (hne:it≠a) (he:ord[i]?=some e)
  (h:∀ h',SIt w h' a it es ep t ord (i+1)→Heap.SameBut it s.heap h'→R (some e.2) { s with heap:=h' }) :
  wpAny (model pw w) A (pyNext (.ref it)) R E s:=by
 obtain ⟨K,⟨first,ho,hg⟩,hp⟩:=I
 have hT:s.TypeIs (.ref it) "set_iterator":=⟨_,ho,rfl⟩
 refine wpAny_bind (wpAny_attempt (wpAny_callSpecial?_slot (name:=Str.ofString "__next__") hT F.slot_setiter_next (wpAny_call_entry F.slot_setiter_next hT F.entry_setiter_next ?_ (F.args_setiter_next _))))
 refine wpAny_bind (wpAny_of_eq (a:=(Value.ref it,[])) rfl (wpAny_bind (wpAny_fieldsOf ho rfl (wpAny_bind (wpAny_setEntries_of K.get rfl K.fits (wpAny_ite_false (by simp) ?_))))))
 have hlt:i<ord.length:=(List.getElem?_eq_some_iff.mp he).1
 have hlen:ord.length=es.size:=by rw [hp.length_eq,Array.length_toList]
 have fin:∀ (f2:Value) (h₁:Heap),h₁.get? it=some (sitO f2 (i+1) a es.size ep)→Heap.SameBut it s.heap h₁→Goes2 w h₁ a es ep t ord f2 (i+1)→R (some e.2) { s with heap:=h₁ }:=fun f2 h₁ hg₁ hs₁ hgo =>
  h h₁ ⟨K.ext fun o q=>hs₁.extBut a o (Ne.symm hne) q,⟨f2,hg₁,hgo⟩,hp⟩ hs₁
 refine let ZZ:Prop:=_;(?_:ZZ)
 rcases hg with ⟨hb,hord,rfl⟩ | ⟨hb,T,ps,rfl,hT2,hps,hord⟩ | ⟨hb,hd,hord,slot,rfl,hsl⟩
 ·show wpAny _ _ (setNext a ((0:Int)).toNat ((i:Int)).toNat ((ep:Int)).toNat>>=_) _ _ _
  refine wpAny_bind (wp_setNext (i:=i) (slot:=0) (ep:=ep) K (fun q=>by rw [hb] at q;cases q) (some (e.2,0)) (by rw [hb,if_pos rfl,← Array.getElem?_toList,← hord,he];rfl) ?_)
  refine wpAny_bind (wpAny_setField_rec ho (by simp) fun h₁ ho₁ hs₁=>?_)
  refine wpAny_bind (wpAny_setField_rec ho₁ (by simp) fun h₂ ho₂ hs₂=>?_)
  exact wpAny_pure ⟨_,rfl,wpAny_pure (fin _ h₂ ho₂ (hs₁.trans hs₂) (.inl ⟨hb,hord,rfl⟩))⟩
 ·have hTne:T≠it:=by rintro rfl;rw [ho] at hT2;simp at hT2
  refine wpAny_bind (wpAny_seqItems hT2 rfl ?_)
  have hpi:∃ p,ps[i]?=some p∧es[p]?=some e:=by
   have hall:∀ p∈ps,p<es.size:=fun p hp'=>List.mem_range.mp (hps.mem_iff.mp hp')
   have hm:∀ (l:List Nat),(∀ p∈l,p<es.size)→∀ k:Nat,(l.filterMap fun j=>es[j]?)[k]?=(l[k]?).bind (fun j=>es[j]?):=by
    intro l
    induction l with
    | nil=>intro _ k;simp
    | cons p l ih =>
     intro hl k
     have hp0:=hl p List.mem_cons_self
     rw [List.filterMap_cons_some (Array.getElem?_eq_getElem hp0)]
     cases k with
     | zero=>simp [Array.getElem?_eq_getElem hp0]
     | succ k=>simpa using ih (fun q hq=>hl q (List.mem_cons_of_mem _ hq)) k
   rw [hord,hm ps hall] at he
   cases hpk:ps[i]? with
   | none=>rw [hpk] at he;cases he
   | some p=>rw [hpk] at he;exact ⟨p,rfl,he⟩
  obtain ⟨p,hp1,hp2⟩:=hpi
  have:((ps.map fun (p:Nat)=>Value.int (p:Int) 0).toArray)[((i:Int)).toNat]?=some (.int p 0):=by
   rw [Int.toNat_natCast];simp [hp1]
  dsimp only
  rw [this]
  show wpAny _ _ (setNextDrawn a p ep>>=_) _ _ _
  refine wpAny_bind (wpAny_bind (wpAny_setState_of K.get rfl K.fits ?_))
  refine wpAny_ite_false (by simp) ?_
  rw [hp2]
  refine wpAny_pure ?_
  refine wpAny_bind (wpAny_setField_rec ho (by simp) fun h₁ ho₁ hs₁=>?_)
  exact wpAny_pure ⟨_,rfl,wpAny_pure (fin _ h₁ ho₁ hs₁ (.inr (.inl ⟨hb,T,ps,rfl,hs₁.extBut _ _ hTne hT2,hps,hord⟩)))⟩
 ·show wpAny _ _ (setNext a ((slot:Int)).toNat ((i:Int)).toNat ((ep:Int)).toNat>>=_) _ _ _
  have h2:i<t.place.size:=by rw [K.len];exact Nat.lt_of_lt_of_eq hlt hlen
  refine wpAny_bind (wp_setNext (i:=i) (slot:=slot) (ep:=ep) K (fun _=>hd) (some (e.2,t.place[i]+1)) (by rw [hb,if_neg Bool.false_ne_true,hsl,show es[i]?=some e by rw [← Array.getElem?_toList,← hord];exact he,Array.getElem?_eq_getElem h2]) ?_)
  refine wpAny_bind (wpAny_setField_rec ho (by simp) fun h₁ ho₁ hs₁=>?_)
  refine wpAny_bind (wpAny_setField_rec ho₁ (by simp) fun h₂ ho₂ hs₂=>?_)
  exact wpAny_pure ⟨_,rfl,wpAny_pure (fin _ h₂ ho₂ (hs₁.trans hs₂) (.inr (.inr ⟨hb,hd,hord,_,rfl,places_at K.ok.1 (Array.getElem?_eq_getElem h2)⟩)))⟩
theorem stop_iter {E:Value→Shared→Prop} {R:Option Value→Shared→Prop} (hh:A.handled=none) (h:∀ h',(∀ b o,s.heap.get? b=some o→h'.get? b=some o)→R none { s with heap:=h' }) :
  wpAny (model pw w) A.in1 (newExc (.type "StopIteration") []>>=fun x=>(raiseNew x:Sem Fin)) (fun fin s'=>∃ v,fin=Fin.done (Flow.ret v)∧wpAny (model pw w) A (pure (some v)) R E s')
   (fun e s'=>wpAny (model pw w) A (do
     let __do_lift←isInstance e (Value.type "StopIteration")
     if __do_lift=true then pure none else throw e) R E s') s:=by
 refine wpAny_bind ?_
 refine wpAny_bind (wpAny_newObj_type ?_ (by size_fits))
 refine wpAny_bind (m:=firstArgMember _ _) (wpAny_of_eq (a:=Value.none) (by first | rfl | (simp only [firstArgMember];rfl)) ?_)
 refine wpAny_newObj_type ?_ (by size_fits)
 refine wpAny_bind (wpAny_handled ?_)
 rw [show A.in1.handled=none from hh]
 refine wpAny_bind (wpAny_pure (wpAny_throw ?_))
 refine wpAny_bind (wpAny_isInstance (T:="StopIteration") (b:=true) ⟨_,Heap.get?_push_size _ rfl,rfl⟩ isSubtype_stop ?_)
 exact wpAny_pure (h _ fun b o e=>Heap.get?_push_of_some _ (Heap.get?_push_of_some _ e))
theorem pyNext_set_end {E:Value→Shared→Prop} {a it:Addr} {es:Array (Int×Value)} {ep:Nat} {t:SetTable} {ord:List (Int×Value)} {R:Option Value→Shared→Prop} (hh:A.handled=none) (I:SIt w s.heap a it es ep t ord ord.length)
  (h:∀ h',Heap.ExtBut it s.heap h'→R none { s with heap:=h' }) :
  wpAny (model pw w) A (pyNext (.ref it)) R E s:=by
 obtain ⟨K,⟨first,ho,hg⟩,hp⟩:=I
 have hT:s.TypeIs (.ref it) "set_iterator":=⟨_,ho,rfl⟩
 refine wpAny_bind (wpAny_attempt (wpAny_callSpecial?_slot (name:=Str.ofString "__next__") hT F.slot_setiter_next (wpAny_call_entry F.slot_setiter_next hT F.entry_setiter_next ?_ (F.args_setiter_next _))))
 refine wpAny_bind (wpAny_of_eq (a:=(Value.ref it,[])) rfl (wpAny_bind (wpAny_fieldsOf ho rfl (wpAny_bind (wpAny_setEntries_of K.get rfl K.fits (wpAny_ite_false (by simp) ?_))))))
 have hlen:ord.length=es.size:=by rw [hp.length_eq,Array.length_toList]
 refine let ZZ:Prop:=_;(?_:ZZ)
 rcases hg with ⟨hb,hord,rfl⟩ | ⟨hb,T,ps,rfl,hT2,hps,hord⟩ | ⟨hb,hd,hord,slot,rfl,hsl⟩
 ·show wpAny _ _ (setNext a ((0:Int)).toNat ((ord.length:Int)).toNat ((ep:Int)).toNat>>=_) _ _ _
  refine wpAny_bind (wp_setNext (i:=ord.length) (slot:=0) (ep:=ep) K (fun q=>by rw [hb] at q;cases q) none (by rw [hb,if_pos rfl,← Array.getElem?_toList,← hord];simp) ?_)
  refine wpAny_bind (wpAny_setField_rec ho (by simp) fun h₁ ho₁ hs₁=>?_)
  exact stop_iter hh fun h' hk=>h h' fun b o hb e=>hk b o (hs₁.extBut b o hb e)
 ·refine wpAny_bind (wpAny_seqItems hT2 rfl ?_)
  have hl:ps.length=ord.length:=by rw [hps.length_eq,List.length_range,hlen]
  have:((ps.map fun (p:Nat)=>Value.int (p:Int) 0).toArray)[((ord.length:Int)).toNat]?=none:=by
   rw [Int.toNat_natCast];simp [hl]
  dsimp only
  rw [this]
  refine wpAny_bind (wpAny_setField_rec ho (by simp) fun h₁ ho₁ hs₁=>?_)
  refine wpAny_bind (wpAny_setField_rec ho₁ (by simp) fun h₂ ho₂ hs₂=>?_)
  exact stop_iter hh fun h' hk=>h h' fun b o hb e=>hk b o (hs₂.extBut b o hb (hs₁.extBut b o hb e))
 ·show wpAny _ _ (setNext a ((slot:Int)).toNat ((ord.length:Int)).toNat ((ep:Int)).toNat>>=_) _ _ _
  refine wpAny_bind (wp_setNext (i:=ord.length) (slot:=slot) (ep:=ep) K (fun _=>hd) none (by rw [hb,if_neg Bool.false_ne_true,hsl,show es[ord.length]?=none by rw [Array.getElem?_eq_none_iff];exact Nat.le_of_eq (id (Eq.symm hlen))]) ?_)
  refine wpAny_bind (wpAny_setField_rec ho (by simp) fun h₁ ho₁ hs₁=>?_)
  exact stop_iter hh fun h' hk=>h h' fun b o hb e=>hk b o (hs₁.extBut b o hb e)
theorem extend_set {a it Sa:Addr} {es:Array (Int×Value)} {ep:Nat} {t:SetTable} {ord:List (Int×Value)} {R:Result→Shared→Prop} {res:Value} (hh:A.in1.handled=none) (n1:it≠Sa) (n2:a≠Sa) (n3:it≠a) :
  ∀ (k i:Nat) (s:Shared) (c:Nat),ord.length-i=k→i≤ord.length→SIt w s.heap a it es ep t ord i→(∀ T o,s.heap.get? T=some o→o.cls=.type "tuple"→T≠Sa) →
  s.heap.get? Sa=some { cls:=.type "list",data:=.seq ((ord.take i).map (·.2)).toArray c } →
  (∀ h' c',(∀ b o,b≠Sa→b≠it→s.heap.get? b=some o→h'.get? b=some o)→h'.get? Sa=some { cls:=.type "list",data:=.seq (ord.map (·.2)).toArray c' }→R (.ok (.ret res)) { s with heap:=h' }) →
  codeAny (model pw w) A (.builtin "list.extend.loop" ⟨[.ref Sa,.ref it,res],[]⟩) R s:=by
 intro k
 induction k with
 | zero =>
  intro i s c hk hi I hT hS hR
  have:i=ord.length:=by lia
  subst this
  refine codeAny_builtin F.entry_extend_loop ?_
  refine wpAny_bind (pyNext_set_end hh I fun h' hx=>wpAny_pure ?_)
  rw [List.take_length] at hS
  exact hR h' c (fun b o _ c2 e=>hx b o c2 e) (hx _ _ (Ne.symm n1) hS)
 | succ k ih =>
  intro i s c hk hi I hT hS hR
  have hlt:i<ord.length:=by exact Nat.lt_of_sub_eq_succ hk
  refine codeAny_builtin F.entry_extend_loop ?_
  refine wpAny_bind (pyNext_set_item I n3 (List.getElem?_eq_getElem hlt) fun h' I' hx=>?_)
  have hS':=hx.extBut _ _ (Ne.symm n1) hS
  have hsz:((ord.take i).map (·.2)).toArray.size≤scanBound:=by
   have:=I.k.small
   have h2:=I.perm.length_eq
   have h3:es.toList.length=es.size:=Array.length_toList
   rw [List.size_toArray,List.length_map,List.length_take];(clear hlt;lia)
  have few:scanBound+1≤sizeLine:=by decide
  refine wpAny_bind ?_
  refine wpAny_updateSeq (hz:=by lia) (_hz':=by show (((ord.take i).map (·.2)).toArray.push ord[i].2).size≤sizeLine+1;rw [Array.size_push];lia) hS' rfl (wpAny_pure ⟨plainId_quiet F.plain_extend_loop _,?_⟩)
  have hS2:=Heap.get?_update_self (Obj.mapSeq (·.push ord[i].2)) hS' rfl
  have e:((ord.take i).map (·.2)).toArray.push ord[i].2=((ord.take (i+1)).map (·.2)).toArray:=by
   rw [List.take_succ_eq_append_getElem hlt,List.map_append];simp only [List.push_toArray,List.map_cons,List.map_nil]
  have hS3:∃ c',(h'.update Sa (Obj.mapSeq (·.push ord[i].2))).get? Sa=some { cls:=.type "list",data:=.seq ((ord.take (i+1)).map (·.2)).toArray c' }:=⟨_,by rw [← e];exact hS2⟩
  obtain ⟨c',hS3⟩:=hS3
  have oth:∀ b o,b≠Sa→h'.get? b=some o→(h'.update Sa (Obj.mapSeq (·.push ord[i].2))).get? b=some o:=fun b o hb q=>(Heap.get?_update_other _ _ (Ne.symm hb)).trans q
  have I2:SIt w (h'.update Sa (Obj.mapSeq (·.push ord[i].2))) a it es ep t ord (i+1):=by
   obtain ⟨K,⟨f,ho,hg⟩,hp⟩:=I'
   refine ⟨K.ext fun o q=>oth a o n2 q,⟨f,oth _ _ n1 ho,?_⟩,hp⟩
   rcases hg with q | ⟨q,T,ps,q1,q2,q3⟩ | q
   ·exact .inl q
   ·refine .inr (.inl ⟨q,T,ps,q1,oth T _ ?_ q2,q3⟩)
    rintro rfl
    rw [hS'] at q2;simp at q2
   ·exact .inr (.inr q)
  refine ih (i+1) _ c' (by (clear hi;lia)) hlt I2 ?_ hS3 fun h'' c'' hk'' hS''=>?_
  ·intro T o hT' hc
   rintro rfl
   rw [hS3] at hT';cases hT';simp at hc
  ·exact hR h'' c'' (fun b o c1 c2 q=>hk'' b o c1 c2 (oth b o c1 (hx.extBut b o c2 q))) hS''
theorem F.set_len_slot:typeLookup (.type "set") "__len__"=pure (some (.builtin "set.__len__")):=PySem.F.slot_set_len.lookup
theorem F.split_set_len:splitId "set.__len__"=some ("set","__len__"):=by kernel_rfl
theorem collect_set {E:Value→Shared→Prop} {a:Addr} {es:Array (Int×Value)} {ep:Nat} {t:SetTable} {R:List Value→Shared→Prop} (hh:A.handled=none) (K:SetK w s.heap a es ep t)
  (h:∀ (h':Heap) (d:Drawn) (ord:List (Int×Value)),ord.Perm es.toList→(∀ b o,s.heap.get? b=some o→h'.get? b=some o)→R (ord.map (·.2)) { s with heap:=h',drawn:=d }) :
  wpAny (model pw w) A (collect (.ref a)) R E s:=by
 unfold collect
 refine wpAny_bind (wpAny_runValue (codeAny_builtin entry_proto_collect' ?_))
 refine wpAny_bind (wpAny_newList (wpAny_pure ⟨Code.quiet_builtin _ (by decide +kernel),codeAny_builtin entry_list_iadd' ?_⟩))
 show wpAny _ _ (Builtin.List.listExtendWith (.ref s.heap.objs.size) (.ref a) (.ref s.heap.objs.size)) _ _ { s with heap:=s.heap.push (seqObj "list" #[] 0) }
 have up:∀ b o,s.heap.get? b=some o→(s.heap.push (seqObj "list" #[] 0)).get? b=some o:=fun b o e=>Heap.get?_push_of_some _ e
 have hS:(s.heap.push (seqObj "list" #[] 0)).get? s.heap.objs.size=some { cls:=.type "list",data:=.seq #[] 0 }:=Heap.get?_push_size _ rfl
 have K₁:SetK w (s.heap.push (seqObj "list" #[] 0)) a es ep t:=K.ext fun o e=>up a o e
 have halt:a<s.heap.objs.size:=Heap.lt_size K.get
 have hfr:s.heap.get? s.heap.objs.size=none:=Heap.get?_none_of_le (Nat.le_refl _)
 generalize hSa:s.heap.objs.size=Sa at hS halt hfr ⊢
 generalize s.heap.push (seqObj "list" #[] 0)=H at up hS K₁ ⊢
 have hT:Shared.TypeIs { s with heap:=H } (.ref a) "set":=⟨_,K₁.get,rfl⟩
 have hne:a≠Sa:=Nat.ne_of_lt halt
 refine wpAny_bind (wpAny_typeOf hT (wpAny_ite_false (by
  rw [show Builtin.List.listSameRef (.ref Sa) (.ref a)=false by simp [Builtin.List.listSameRef,Ne.symm hne],show (Value.type "set"==Value.type "list")=false by decide,show (Value.type "set"==Value.type "tuple")=false by decide]
  rfl) ?_))
 refine wpAny_bind (pyIter_set K₁ fun H₁ it d ord I hit hitn k₁=>?_)
 have hitS:it≠Sa:=(gne hS hitn).symm
 have hT₁:Shared.TypeIs { s with heap:=H₁,drawn:=d } (.ref a) "set":=⟨_,I.k.get,rfl⟩
 refine wpAny_bind (wpAny_holding ?_)
 refine wpAny_bind (wpAny_specialOf hT₁ F.set_len_slot ?_)
 refine wpAny_bind (wpAny_isInstance (T:="set") hT₁ sub_set_self ?_)
 refine wpAny_ite_false rfl (wpAny_ite_true (by decide +kernel) ?_)
 refine wpAny_bind (wpAny_typeOf hT₁ (wpAny_pure ?_))
 show wpAny _ _ (rule "list.extend.makes-room">>=fun _=>Builtin.List.listTouch (.ref Sa)>>=fun _ =>
  again (.builtin "list.extend.loop" ⟨[.ref Sa,.ref it,.ref Sa],[]⟩)) _ _ _
 refine wpAny_bind (wpAny_rule ?_)
 refine wpAny_bind ?_
 have hS₁:=k₁ _ _ hS
 refine wpAny_bind (wpAny_updateSeq hS₁ rfl ?_)
 have hS₂:=Heap.get?_update_self (Obj.mapSeq (·.push Value.none)) hS₁ rfl
 refine wpAny_updateSeq (hz:=by seq_fits) hS₂ rfl ?_
 have hS₃:=Heap.get?_update_self (Obj.mapSeq (·.pop)) hS₂ rfl
 have oth:∀ b o,b≠Sa→H₁.get? b=some o→((H₁.update Sa (Obj.mapSeq (·.push Value.none))).update Sa (Obj.mapSeq (·.pop))).get? b=some o :=
  fun b o hb e=>(Heap.get?_update_other _ _ (Ne.symm hb)).trans ((Heap.get?_update_other _ _ (Ne.symm hb)).trans e)
 generalize (H₁.update Sa (Obj.mapSeq (·.push Value.none))).update Sa (Obj.mapSeq (·.pop))=H₃ at hS₃ oth ⊢
 have I₃:SIt w H₃ a it es ep t ord 0:=by
  obtain ⟨K,⟨f,ho,hg⟩,hp⟩:=I
  refine ⟨K.ext fun o q=>oth a o hne q,⟨f,oth _ _ hitS ho,?_⟩,hp⟩
  rcases hg with q | ⟨q,T,ps,q1,q2,q3⟩ | q
  ·exact .inl q
  ·refine .inr (.inl ⟨q,T,ps,q1,oth T _ ?_ q2,q3⟩)
   rintro rfl
   rw [hS₁] at q2;simp at q2
  ·exact .inr (.inr q)
 refine wpAny_pure ⟨plainId_quiet F.plain_extend_loop _,extend_set (by simp [hh]) hitS hne hit ord.length 0 _ _ rfl (Nat.zero_le _) I₃ (fun T o q hc=>by rintro rfl;rw [show Shared.heap _=H₃ from rfl,hS₃] at q;cases q;simp [Obj.mapSeq] at hc) hS₃ fun h' c' hk hS'=>?_⟩
 show wpAny _ _ (do
   let o←load Sa
   match o.data with
   | .seq xs _=>pure xs.toList
   | _=>unsupported "internal:collect") _ _ _
 refine wpAny_bind (wpAny_load hS' ?_)
 refine wpAny_pure ?_
 refine h h' d ord I.perm fun b o e=>?_
 have hb1:b≠Sa:=by rintro rfl;exact nos hfr e
 have hb2:b≠it:=by rintro rfl;rw [show Shared.heap { s with heap:=H }=H from rfl,up _ _ e] at hitn;cases hitn
 exact hk b o hb1 hb2 (oth b o hb1 (k₁ b o (up b o e)))
theorem ints_of {w:World}:∀ {l:List (Int×Value)},ElemsOf (intKind pw w) l→IntsAre (l.map (·.2)) (l.map keyV)
 | [],_=>.nil
 | e::l,h=>by
  obtain ⟨t,ht⟩:=el_int h e List.mem_cons_self
  rw [List.map_cons,List.map_cons,ht]
  exact .cons _ _ (ints_of h.tail)
theorem sorted_set {E:Value→Shared→Prop} {a:Addr} {es:Array (Int×Value)} {ep:Nat} {t:SetTable} {R:Value→Shared→Prop} (hh:A.handled=none) (K:SetK w s.heap a es ep t) (h64:es.size<64)
  (h:∀ (h':Heap) (d:Drawn) (L:Addr) (out:Array Value) (ns:List Int),h'.PlainList L out→s.heap.get? L=none→IntsAre out.toList ns→ns.Perm (keysE es)→ns.Pairwise (·≤·)→(∀ b o,s.heap.get? b=some o→h'.get? b=some o)→R (.ref L) { s with heap:=h',drawn:=d }) :
  wpAny (model pw w) A (call (.builtin "sorted") [.ref a]) R E s:=by
 refine Calls.call_function_entry kind_sorted plain_sorted entry_sorted (args_sorted1 _) ?_
 refine wpAny_bind (m:=checkCount "sorted" 1 1 _) (wpAny_pure ?_)
 refine wpAny_bind (collect_set (by simpa using hh) K fun H d ord hp hk=>?_)
 refine wpAny_bind (wpAny_newList ?_ (hsz:=by
  have h1:ord.length=es.toList.length:=hp.length_eq
  have h3:es.toList.length=es.size:=Array.length_toList
  have:64≤sizeLine:=by decide
  rw [List.length_map];lia))
 have hI:IntsAre (ord.map (·.2)) (ord.map keyV):=ints_of (K.el.perm hp)
 have hl:(ord.map (·.2)).length<64:=by
  have h1:ord.length=es.toList.length:=hp.length_eq
  have h3:es.toList.length=es.size:=Array.length_toList
  rw [List.length_map];exact lt_of_eq_of_lt h1 h64
 have hoL:(H.push { cls:=.type "list",data:=.seq (ord.map (·.2)).toArray }).get? H.objs.size=some (seqObj "list" (ord.map (·.2)).toArray 0):=Heap.get?_push_size _ rfl
 have hLn:s.heap.get? H.objs.size=none:=by
  cases e:s.heap.get? H.objs.size with
  | none=>rfl
  | some o=>exact absurd (Heap.lt_size (hk _ _ e)) (Nat.lt_irrefl _)
 refine wpAny_bind (wpAny_holding (wpAny_call_entry slot_list_sort ⟨_,hoL,rfl⟩ entry_list_sort (list_sort_tree hoL hI hl fun out ns' a1 a2 a3=>⟨_,rfl,?_⟩) (args_list_sort _)))
 refine wpAny_pure ⟨_,rfl,?_⟩
 obtain ⟨e1,he1⟩:=sortedHeap_at (vs:=ord.map (·.2)) (out:=out) hoL
 refine h _ d H.objs.size out ns' ⟨e1,he1⟩ hLn a1 (a2.trans (hp.map keyV)) a3 fun b o e=>?_
 have hlt:=Heap.lt_size (hk b o e)
 rw [sortedHeap_old (Nat.ne_of_lt hlt) (by rw [size_push'];exact Nat.lt_succ_of_lt hlt)]
 exact Heap.get?_push_of_some _ (hk b o e)
theorem All2.ints {σ:List Addr} {h:Heap} {l:List Int} {vs:List Value} (r:All2 (RV σ h) (l.map AV.int) vs):∀ i (hi:i<l.length),∃ t,vs[i]?=some (.int l[i] t) :=
 All2.indM (R:=RV σ h) (f:=AV.int) (P:=fun (l:List Int) (vs:List Value)=>∀ i (hi:i<l.length),∃ t,vs[i]?=some (.int (l[i]'hi) t)) (fun _ hi=>nomatch hi) (fun a v l vs r ih i hi=>by
  cases i with
  | zero=>obtain ⟨t,rfl⟩:=r;exact ⟨t,rfl⟩
  | succ i=>exact ih i (Nat.lt_of_succ_lt_succ hi)) r
theorem All2.ofInts {σ:List Addr} {h:Heap} {vs:List Value} {l:List Int} (r:IntsAre vs l):All2 (RV σ h) (l.map AV.int) vs:=by
 induction r with
 | nil=>trivial
 | cons _ _ _ ih=>exact ⟨⟨_,rfl⟩,ih⟩
theorem EvA.sortedSet (H:St w B) {p p' pos pos':Pos} {e:Expr} (hl:env.kindOf "sorted"=some .globalImplicit) (hz:env.kindOf "set"=some .globalImplicit)
  (h:EvA w B n env e loc S fun av S₁=>∃ k l,av=.lst k∧S₁[k]?=some (l.map AV.int)∧l.length≤60∧∀ ns:List Int,ns.Perm (dedupI l)→ns.Pairwise (·≤·)→Q (.lst S₁.length) (S₁++[ns.map AV.int]))
  (he:starEach [Expr.Call (.Name "set" p') [e] [] pos'] env=(false,eval (Expr.Call (.Name "set" p') [e] [] pos') env)::starEach [] env:=by rfl) (hpl:(backTo pos (starEach [] env)).any (·.1)=false:=by rfl)
  (he2:starEach [e] env=(false,eval e env)::starEach [] env:=by rfl) (hpl2:(backTo pos' (starEach [] env)).any (·.1)=false:=by rfl) :
  EvA w B n env (.Call (.Name "sorted" p) [.Call (.Name "set" p') [e] [] pos'] [] pos) loc S Q:=.mk fun A σ s E ha W F=>by
 refine wpAny_Call_NameR (Name_function_global F.ok.kind hl (loadGlobal_builtin (F.ok.glob▸H.main W) (n_sorted _) (F.ok.blt▸H.blt W) (b_sorted _) (PyProof.Rows.callWith_builtin1 (args_cons ?_ he) he hpl)) (by decide +kernel))
 refine wpAny_Call_NameR (Name_function_global F.ok.kind hz (loadGlobal_builtin (F.ok.glob▸H.main W) (n_set _) (F.ok.blt▸H.blt W) (b_set _) (PyProof.Rows.callWith_type1 (args_cons ?_ he2) he2 hpl2)) (by decide +kernel))
 refine wpAny_mono (h.run A σ s E ha W F) (fun v s₁ q=>?_) fun _ _ e=>e
 refine let ZZ:Prop:=_;(?_:ZZ)
 obtain ⟨τ,av,S₁,W₁,f₁,x₁,r₁,k,l,rfl,hk,hlen,q⟩:=q
 refine let ZZ:Prop:=_;(?_:ZZ)
 obtain ⟨a,xs,rfl,_,pa,ra⟩:=W₁.lst hk r₁
 refine args_nil ?_
 have hxs:xs.size=l.length:=by have:=ra.length;simp at this;exact Eq.symm (Nat.add_right_cancel (congrFun (congrArg HAdd.hAdd this) n))
 refine call_set_ints ha.handled pa hxs (fun i hi=>by have:=All2.ints ra i hi;simpa using this) (by unfold scanBound;lia) fun h₂ tk es ep t K hp hk₂=>?_
 refine args_nil ?_
 have hes:es.size<64:=by
  have h1:=hp.length_eq
  have h2:=dedupI_len l
  unfold keysE at h1
  rw [List.length_map,Array.length_toList] at h1
  lia
 refine sorted_set (s:={ s₁ with heap:=h₂,toks:=tk }) ha.handled K hes fun h₃ d L out ns pL hLn hI hpn hpw hk₃=>?_
 have keep:∀ c o,s₁.heap.get? c=some o→h₃.get? c=some o:=fun c o e=>hk₃ c o (hk₂ c o e)
 have W₂:Wd B (σ++τ) S₁ { s₁ with heap:=h₃,toks:=tk,drawn:=d }:=W₁.keeps keep
 have hn₁:s₁.heap.get? L=none:=by
  cases e:s₁.heap.get? L with
  | none=>rfl
  | some o=>rw [show h₂.get? L=some o from hk₂ _ _ e] at hLn;cases hLn
 have W₃:Wd B (σ++τ++[L]) (S₁++[ns.map AV.int]) { s₁ with heap:=h₃,toks:=tk,drawn:=d }:=W₂.addList (vs:=out) pL (W₁.newB hn₁) (W₁.live hn₁).1 (All2.ofInts hI)
 have p:Pst B (σ++τ) s₁ Q (.ref L) { s₁ with heap:=h₃,toks:=tk,drawn:=d } :=
  ⟨[L],.lst S₁.length,_,W₃,by simpa using hn₁,Ext.of_keeps keep,⟨_,by rw [← W₁.len];simp,rfl⟩,q ns (hpn.trans hp) hpw⟩
 exact p.back W W₁ x₁ f₁
theorem OpT.defC1 (H:St w B) {fa c i:Nat} {nm:Str} {pm:Value} {x:Str} (ls:List Str) {av:AV} {Q:AV→Store→Prop}
  (hf:(Hp1 w.params).get? fa=some ⟨.type "function",none,.func (fdOf i nm c pm),#[]⟩)
  (hc:∃ vs t,(Hp1 w.params).get? c=some ⟨.type "code",none,.fields vs,#[]⟩∧vs[1]?=some (.str nm t))
  (hbind:∀ v:Value,bindArgs (fdOf i nm c pm) ⟨[v],[]⟩=pure [(x,v)])
  (hnd:(x::ls).Nodup) (hx:(fnS i).names.lookup x=some .cell) (hcells:∀ k,cellsFrom k (fnS i).names []=[(x,k)])
  (h:∀ L,B.heap.get? L=none→B.heap.get? (L+1)=none→St w (B.into (callEnvC (fdOf i nm c pm) L fa))→ExA w (B.into (callEnvC (fdOf i nm c pm) L fa)) n (callEnvC (fdOf i nm c pm) L fa) (fnB i) ((x,av)::ls.map fun x=>(x,.unb)) S fun f _ S'=>match f with | .ret av=>Q av S' | .next=>Q .none S' | _=>False)
  (h5:fa≠50:=by decide) (h13:fa≠130:=by decide) (c5:c≠50:=by decide) (c13:c≠130:=by decide)
  (hco:(fnS i).isCoroutine=false:=by kernel_rfl) (hgen:(fnS i).isGenerator=false:=by kernel_rfl) (hk:(fnS i).kind=.function:=by kernel_rfl) :
  OpT w B (n+1) (Mine.callD fa) [av] S Q:=.mk fun A σ s E vs ha W r=>by
 obtain ⟨v,rfl,rv⟩:=r.one
 have hnone:s.heap.get? s.heap.objs.size=none:=Heap.get?_none_of_le (Nat.le_refl _)
 have hnone1:s.heap.get? (s.heap.objs.size+1)=none:=Heap.get?_none_of_le (Nat.le_succ _)
 refine wpAny_call (codeAny_call_cells (fd:=fdOf i nm c pm) (body:=fnB i) (binds:=[(x,v)]) ha.room (H.at W hf h5 h13) rfl (H.nolimit W) ?_ rfl (hbind v) rfl (fun y hy=>?_) (fun s₁ I=>?_) hco hgen hk)
 ·obtain ⟨us,t,hg,hu⟩:=hc
  exact ⟨c,_,us,t,rfl,H.at W hg c5 c13,rfl,hu⟩
 ·rw [List.mem_singleton.mp hy]
  refine .inr ⟨hx,?_⟩
  show ((cellsFrom (s.heap.objs.size+1) (fnS i).names []).lookup x).isSome=true
  rw [hcells];simp
 have ecells:(callEnvC (fdOf i nm c pm) s.heap.objs.size fa).cells=[(x,s.heap.objs.size+1)]:=hcells _
 have ekind:(callEnvC (fdOf i nm c pm) s.heap.objs.size fa).kindOf x=some .cell:=hx
 refine let ZZ:Prop:=_;(?_:ZZ)
 obtain ⟨⟨⟨h₀,tk,rfl⟩,hn₀,hk₀,_⟩,hcell,_,_⟩:=I
 have hk₀:∀ b o,s.heap.get? b=some o→h₀.get? b=some o:=hk₀
 have hcx:h₀.IsCell (s.heap.objs.size+1) (some v):=by
  have:=hcell x (s.heap.objs.size+1) (by rw [ecells];simp)
  simp only [bindC,ekind] at this
  simpa using this
 have X₀:Ext σ s.heap h₀:=Ext.of_keeps hk₀
 have W₀:Wd B σ S { s with heap:=h₀,toks:=tk }:=W.keeps hk₀
 have W₀:Wd (B.into (callEnvC (fdOf i nm c pm) s.heap.objs.size fa)) σ S { s with heap:=h₀,toks:=tk }:=W₀.into rfl (by rw [show (callEnvC (fdOf i nm c pm) s.heap.objs.size fa).scope.kind=.function from hk];nofun) (W.newB hnone) hn₀
 have F₀:Fm (B.into (callEnvC (fdOf i nm c pm) s.heap.objs.size fa)) σ (callEnvC (fdOf i nm c pm) s.heap.objs.size fa) ((x,av)::ls.map fun x=>(x,.unb)) h₀:=by
  refine ⟨⟨_,hn₀,fun y bv hy=>?_⟩,⟨?_,hk,rfl,rfl,W.newB hnone⟩⟩
  ·rcases List.mem_cons.mp hy with q | q
   ·cases q
    exact .inr ⟨v,.inr ⟨hx,_,by rw [ecells];simp,hcx⟩,rv.mono0 W X₀⟩
   ·refine let ZZ:Prop:=_;(?_:ZZ)
    obtain ⟨y,_,e⟩:=List.mem_map.mp q
    cases e
    exact .inl rfl
  ·rw [List.map_cons,List.map_map]
   have:(fun x:Str=>(x,AV.unb).1)=id:=rfl
   show (x::ls.map (fun x:Str=>(x,AV.unb).1)).Nodup
   rw [this,List.map_id]
   exact hnd
 refine (h s.heap.objs.size (W.newB hnone) (W.newB hnone1) H).bind (ha.deeper _) W₀ F₀ fun f s' τ af loc' S' W' f' x' F' r' q'=>?_
 have W':=W'.out
 have X:Ext σ s.heap s'.heap:=⟨fun a o e h1 h2 h3=>x'.keep a o (hk₀ a o e) h1 (by rintro rfl;rw [show s.heap.get? (callEnvC (fdOf i nm c pm) s.heap.objs.size fa).locals=none from hnone] at e;cases e) h2 h3⟩
 have ft:∀ a∈τ,s.heap.get? a=none:=fun a ha=>by
  cases e:s.heap.get? a with
  | none=>rfl
  | some o=>have:=hk₀ a o e;exact nos (f' a ha) this
 cases af with
 | next=>obtain rfl:f=.next:=r';exact ⟨τ,.none,S',W',ft,X,rfl,q'⟩
 | brk=>exact q'.elim
 | cont=>exact q'.elim
 | ret av=>obtain ⟨v,rfl,rv⟩:=r';exact ⟨τ,av,S',W',ft,X,rv,q'⟩
noncomputable def coverL (x:Int) (q:Int×Int):Bool:=decide (q.1<x∧x≤q.2+1)
noncomputable def coverH (x:Int) (q:Int×Int):Bool:=decide (q.1≤x+1∧x+1≤q.2)
noncomputable def lowsF (l:List (Int×Int)):List Int:=l.filterMap fun p=>if (l.filter (coverL p.1)).isEmpty=true then some p.1 else none
noncomputable def highsF (l:List (Int×Int)):List Int:=l.filterMap fun p=>if (l.filter (coverH p.2)).isEmpty=true then some p.2 else none
noncomputable def onePF (g:Int×Int→Bool):AV→Option AV
 | .tup [.int x,.int y]=>if g (x,y)=true then some (.pair (x,y)) else none
 | _=>none
theorem one_map (g:Int×Int→Bool) (l:List (Int×Int)):(pairs l).filterMap (onePF g)=pairs (l.filter g):=by
 induction l with
 | nil=>rfl
 | cons p l ih =>
  show List.filterMap (onePF g) (.pair p::pairs l)=_
  rw [List.filterMap_cons,List.filter_cons,ih]
  rw [show onePF g (.pair p)=if g p=true then some (.pair p) else none from rfl]
  by_cases h:g p=true
  ·rw [if_pos h,if_pos h];rfl
  ·rw [if_neg h,if_neg h]
noncomputable def endPF (l:List (Int×Int)) (cov:Int→Int×Int→Bool) (e:Int×Int→Int):AV→Option AV
 | .tup [.int x,.int y]=>if (l.filter (cov (e (x,y)))).isEmpty=true then some (.int (e (x,y))) else none
 | _=>none
theorem end_map (l₀:List (Int×Int)) (cov:Int→Int×Int→Bool) (e:Int×Int→Int) (l:List (Int×Int)):(pairs l).filterMap (endPF l₀ cov e)=(l.filterMap fun p=>if (l₀.filter (cov (e p))).isEmpty=true then some (e p) else none).map AV.int:=by
 induction l with
 | nil=>rfl
 | cons p l ih =>
  show List.filterMap (endPF l₀ cov e) (.pair p::pairs l)=_
  rw [List.filterMap_cons,List.filterMap_cons,ih]
  rw [show endPF l₀ cov e (.pair p)=if (l₀.filter (cov (e p))).isEmpty=true then some (.int (e p)) else none from rfl]
  by_cases h:(l₀.filter (cov (e p))).isEmpty=true
  ·rw [if_pos h,if_pos h];rfl
  ·rw [if_neg h,if_neg h]
theorem zip_ints (a b:List Int):zipT (a.map .int) (b.map .int)=pairs (a.zip b):=by
 induction a generalizing b with
 | nil=>simp [zipT,pairs]
 | cons x a ih =>
  cases b with
  | nil=>simp [zipT,pairs]
  | cons y b=>have:=ih b;simp only [zipT,pairs,List.map_cons,List.zip_cons_cons] at this ⊢;rw [this]
theorem EvA.compOne {scope:Scope} {pos cpos p1 p2:Pos} {Q:AV→Store→Prop} {cx:Str} {c:Int} {cc:Addr} {cond:Expr} {k:Nat} {l:List (Int×Int)} {rng:Str} (g:Int×Int→Bool) (hl:l.length≤fewItems) (hk:S[k]?=some (pairs l))
  (hsc:scope={ kind:=.function,names:=[(Str.ofString ".0",.local),(Str.ofString "one",.local),(cx,.free)],isGenerator:=false,isCoroutine:=false,more:=[] })
  (hcx:cx≠Str.ofString "one"∧cx≠Str.ofString ".0") (hcell:env.cells.lookup cx=some cc) (hkc:env.kindOf cx=some .cell) (hks:env.scope.kind=.function) (hloc:(cx,AV.int c)∈loc)
  (h:EvA w B n env (.Name rng p1) loc S fun av S'=>av=.lst k∧S'=S)
  (test:∀ C a S',a∈l→TsA w B n (envX scope none [(cx,cc)] C env) cond [(Str.ofString "one",.pair a),(cx,.int c)] S' fun b S₃=>b=g a∧S₃=S')
  (q:∀ r,Q (.lst S.length) (S++pairs (l.filter g)::r)) :
  EvA w B n env (.ListComp (.Name (Str.ofString "one") cpos) [⟨.Name (Str.ofString "one") p2,.Name rng p1,[cond],0⟩] scope pos) loc S Q:=by
 subst hsc
 have ne1:(Str.ofString "one"==Str.ofString ".0")=false:=by decide +kernel
 have hrel:∀ C,(envX { kind:=.function,names:=[(Str.ofString ".0",.local),(Str.ofString "one",.local),(cx,.free)],isGenerator:=false,isCoroutine:=false,more:=[] } none [(cx,cc)] C env).kindOf cx=some .cell:=fun C=>by
  show List.lookup cx (List.map _ _)=_
  have h1:(cx==Str.ofString ".0")=false:=by simpa using hcx.2
  have h2:(cx==Str.ofString "one")=false:=by simpa using hcx.1
  simp [List.lookup,h1,h2,hks,hkc]
 have hone:∀ C,(envX { kind:=.function,names:=[(Str.ofString ".0",.local),(Str.ofString "one",.local),(cx,.free)],isGenerator:=false,isCoroutine:=false,more:=[] } none [(cx,cc)] C env).kindOf (Str.ofString "one")=some .local:=fun C =>
  lookup_relabel_local (by simp [List.lookup,ne1])
 refine EvA.compX none [(cx,cc)] [(Str.ofString "one",.unb),(cx,.int c)] (fun lc=>∃ a:AV,lc=([(Str.ofString "one",a),(cx,.int c)]:Loc)) (pairs l) (onePF g) k S ?_ ?_ (fun k=>?_) (fun h=>?_) rfl ?_ ?_ ?_ ⟨_,rfl⟩ (by rw [pairs_len];exact hl) hk h ?_ ?_
 ·show (closureFor _ env)=_
  unfold closureFor cellOf
  simp [hcell]
 ·intro y d hy
  simp only [List.lookup_cons,List.lookup_nil] at hy
  split at hy
  ·rename_i e
   rw [beq_iff_eq] at e
   subst e
   cases hy
   exact ⟨hcell,hkc,_,hloc,rfl⟩
  ·cases hy
 ·rfl
 ·rfl
 ·intro x hx hl
  simp at hx
  rcases hx with rfl | rfl | rfl
  ·simp [List.lookup]
  ·simp [List.lookup,ne1]
  ·cases hl
 ·intro x av hx
  simp only [List.mem_cons,Prod.mk.injEq,List.not_mem_nil,or_false] at hx
  rcases hx with ⟨rfl,rfl⟩ | ⟨rfl,rfl⟩
  ·exact .inl rfl
  ·exact .inr ⟨hloc,cc,by simp,fun C=>⟨hrel C,by simp [cellsX,compEnvC]⟩⟩
 ·simp [hcx.1,eq_comm]
 ·rintro C acc r lc a hC hC1 _ ⟨b,rfl⟩ ha
  obtain ⟨p,hp,rfl⟩:=List.mem_map.mp ha
  refine AsT.of (StT.name UpdF.here (hone C) ⟨⟨_,rfl⟩,rfl,TsT.ifs1 (TsT.det (test C p _ hp) ?_)⟩)
  refine ⟨r,rfl,?_⟩
  by_cases hg:g p=true
  ·rw [if_pos hg]
   exact EvA.nm List.mem_cons_self rfl ⟨r,rfl,by show (if g p=true then _ else _)=_;rw [if_pos hg]⟩ (by decide +kernel)
  ·rw [if_neg hg];show (if g p=true then _ else _)=_;rw [if_neg hg]
 ·intro r
  rw [one_map]
  exact q r
theorem fewest_w (H:St w B) {k:Nat} {l:List (Int×Int)} (hk:S[k]?=some (pairs l)) (hl:l.length≤60) (hlen:(dedupI (lowsF l)).length=(dedupI (highsF l)).length)
  (q:∀ (j:Nat) (r:Store) (n1 n2:List Int),n1.Perm (dedupI (lowsF l))→n1.Pairwise (·≤·)→n2.Perm (dedupI (highsF l))→n2.Pairwise (·≤·)→(S++r)[j]?=some (pairs (n1.zip n2))→Q (.lst j) (S++r)):OpT w B (n+1) (callD 182) [.lst k] S Q:=by
 refine OpT.defC1 H (x:="ranges") ["lows","highs"] (f_law_fewest _) (c_law_fewest _) (fun v=>by kernel_rfl) (by decide +kernel) (by decide +kernel) (fun k=>by rfl) (fun L hL hL1 H=>?_)
 have hfew:l.length≤fewItems:=by unfold fewItems;lia
 have hlo:(lowsF l).length≤l.length:=List.length_filterMap_le _ _
 have hhi:(highsF l).length≤l.length:=List.length_filterMap_le _ _
 show ExA w _ n _ _ [("ranges",.lst k),("lows",.unb),("highs",.unb)] _ _
 have clO:∀ (loc:Loc) (env:Env),(Str.ofString "ranges",AV.lst k)∈loc→env.cells=[(Str.ofString "ranges",L+1)]→env.kindOf (Str.ofString "ranges")=some .cell→∀ y c,([(Str.ofString "ranges",L+1)]:List (Str×Addr)).lookup y=some c→env.cells.lookup y=some c∧env.kindOf y=some .cell∧∃ av,(y,av)∈loc∧av.bd=true:=by
  intro loc env h1 h2 h3 y c hy
  rw [h2]
  refine ⟨hy,?_⟩
  simp only [List.lookup_cons,List.lookup_nil] at hy
  split at hy
  ·rename_i e
   rw [beq_iff_eq] at e
   subst e
   exact ⟨h3,_,h1,rfl⟩
  ·cases hy
 refine ExA.assignCompX (some (Str.ofString "low")) [(Str.ofString "ranges",L+1)] [("low",.unb),("high",.unb),("ranges",.lst k)] (fun lc=>∃ a b:AV,lc=([("low",a),("high",b),("ranges",.lst k)]:Loc)) (pairs l) (endPF l coverL Prod.fst) k S
  (by walk_at "u") rfl (clO _ _ (by walk_at "e") rfl (by kernel_rfl)) (fun k=>rfl) (fun h=>rfl) rfl (by decide +kernel) ?_ (by show [Str.ofString "low",Str.ofString "high",Str.ofString "ranges"].Nodup;decide +kernel) ⟨_,_,rfl⟩ (by rw [pairs_len];exact hfew) hk ?_ ?_ ?_
 ·intro x av hx
  simp only [List.mem_cons,Prod.mk.injEq,List.not_mem_nil,or_false] at hx
  rcases hx with ⟨rfl,rfl⟩ | ⟨rfl,rfl⟩ | ⟨rfl,rfl⟩
  ·exact .inl rfl
  ·exact .inl rfl
  ·exact .inr ⟨List.mem_cons_self,L+1,by rfl,fun C=>⟨by kernel_rfl,by rfl⟩⟩
 ·walk_at "s"
  exact ⟨rfl,rfl⟩
 ·rintro C acc r lc a hC hC1 hne ⟨b,c,rfl⟩ ha
  obtain ⟨p,hp,rfl⟩:=List.mem_map.mp ha
  refine AsT.tup2 (by rfl) (by rfl) (AsT.cell (by walk_at "u") (by kernel_rfl) (by rfl) (fun y d hy hd=>?_) hC1 (AsT.of (StT.name (by walk_at "u") (by kernel_rfl) ⟨⟨_,_,rfl⟩,rfl,TsT.ifs1 (TsA.cmp ?_)⟩)))
  ·refine hne y d ?_
   have e1:(y==Str.ofString "low")=false:=by simpa using hy
   have e2:List.lookup y ((Str.ofString "low",C+1)::[(Str.ofString "ranges",L+1)])=some d:=hd
   rw [List.lookup_cons,e1] at e2
   exact e2
  ·refine EvA.compOne (c:=p.1) (cc:=C+1) (k:=k) (l:=l) (coverL p.1) hfew (getP hk _) rfl (by constructor <;> decide +kernel) (by rfl) (by kernel_rfl) (by rfl) (by walk_at "e") ?_ (fun C' a S' _=>?_) (fun r'=>?_)
   ·walk_at "s"
    exact ⟨rfl,rfl⟩
   ·refine TsA.chain (EvA.subT ?_)
    walk_at "s"
    refine ⟨⟨_,rfl⟩,OpT.getT (by exact Int.zero_le_ofNat 0) (c:=.int a.1) rfl (by show 2≤fewItems;decide) ?_⟩
    walk_at "s"
    by_cases h1:a.1<p.1
    ·rw [if_pos (by simpa using h1)]
     refine EvA.bin (EvA.subT ?_)
     walk_at "s"
     refine ⟨⟨_,rfl⟩,OpT.getT (by exact Int.one_nonneg) (c:=.int a.2) rfl (by show 2≤fewItems;decide) ?_⟩
     walk_at "s"
     refine ⟨?_,rfl⟩
     unfold coverL
     rw [decide_eq_decide];exact iff_and_self.mpr fun a=>h1
    ·rw [if_neg (by simpa using h1)]
     refine ⟨?_,rfl⟩
     unfold coverL
     rw [eq_comm,decide_eq_false_iff_not];exact not_and.mpr fun a_1 a=>h1 a_1
   ·refine EvA.list ?_
    walk_at "s"
    refine ⟨Nat.zero_le _,?_⟩
    refine OpT.eqL (l:=pairs (l.filter (coverL p.1))) (m:=[]) (getP (by rw [List.getElem?_append_right (by simp)];simp) _) (by rw [List.getElem?_append_right (Nat.le_refl _),Nat.sub_self];rfl) (cm_pairs _) (by simp) (TrT.bool ?_)
    rw [eqLs_nil]
    have e:(pairs (l.filter (coverL p.1))).isEmpty=(l.filter (coverL p.1)).isEmpty:=by cases l.filter (coverL p.1) <;> rfl
    rw [e]
    refine ⟨r++pairs (l.filter (coverL p.1))::(r'++[[]]),by simp,?_⟩
    by_cases hg:(l.filter (coverL p.1)).isEmpty=true
    ·rw [if_pos hg]
     walk_at "s"
     exact ⟨r++pairs (l.filter (coverL p.1))::(r'++[[]]),by simp,by show (if _ then _ else _)=_;rw [if_pos hg]⟩
    ·rw [if_neg hg]
     show (if _ then _ else _)=_
     rw [if_neg hg]
 intro r1
 rw [end_map]
 show ExA w _ n _ _ [("ranges",.lst k),("lows",.lst S.length),("highs",.unb)] (S++(lowsF l).map AV.int::r1) _
 generalize hS₁:S++(lowsF l).map AV.int::r1=S₁
 have hk₁:S₁[k]?=some (pairs l):=by rw [← hS₁];exact getP hk _
 have hlows:S₁[S.length]?=some ((lowsF l).map AV.int):=by rw [← hS₁];exact get0 _ _ _
 refine ExA.assignCompX (some (Str.ofString "high")) [(Str.ofString "ranges",L+1)] [("low",.unb),("high",.unb),("ranges",.lst k)] (fun lc=>∃ a b:AV,lc=([("low",a),("high",b),("ranges",.lst k)]:Loc)) (pairs l) (endPF l coverH Prod.snd) k S₁
  (by walk_at "u") rfl (clO _ _ (by walk_at "e") rfl (by kernel_rfl)) (fun k=>rfl) (fun h=>rfl) rfl (by decide +kernel) ?_ (by show [Str.ofString "low",Str.ofString "high",Str.ofString "ranges"].Nodup;decide +kernel) ⟨_,_,rfl⟩ (by rw [pairs_len];exact hfew) hk₁ ?_ ?_ ?_
 ·intro x av hx
  simp only [List.mem_cons,Prod.mk.injEq,List.not_mem_nil,or_false] at hx
  rcases hx with ⟨rfl,rfl⟩ | ⟨rfl,rfl⟩ | ⟨rfl,rfl⟩
  ·exact .inl rfl
  ·exact .inl rfl
  ·exact .inr ⟨List.mem_cons_self,L+1,by rfl,fun C=>⟨by kernel_rfl,by rfl⟩⟩
 ·walk_at "s"
  exact ⟨rfl,rfl⟩
 ·rintro C acc r lc a hC hC1 hne ⟨b,c,rfl⟩ ha
  obtain ⟨p,hp,rfl⟩:=List.mem_map.mp ha
  refine AsT.tup2 (by rfl) (by rfl) (AsT.of (StT.name (by walk_at "u") (by kernel_rfl) (AsT.cell (by walk_at "u") (by kernel_rfl) (by rfl) (fun y d hy hd=>?_) hC1 ⟨⟨_,_,rfl⟩,rfl,TsT.ifs1 (TsA.cmp ?_)⟩)))
  ·refine hne y d ?_
   have e1:(y==Str.ofString "high")=false:=by simpa using hy
   have e2:List.lookup y ((Str.ofString "high",C+1)::[(Str.ofString "ranges",L+1)])=some d:=hd
   rw [List.lookup_cons,e1] at e2
   exact e2
  ·refine EvA.compOne (c:=p.2) (cc:=C+1) (k:=k) (l:=l) (coverH p.2) hfew (getP hk₁ _) rfl (by constructor <;> decide +kernel) (by rfl) (by kernel_rfl) (by rfl) (by walk_at "e") ?_ (fun C' a S' _=>?_) (fun r'=>?_)
   ·walk_at "s"
    exact ⟨rfl,rfl⟩
   ·refine TsA.chain (EvA.subT ?_)
    walk_at "s"
    refine ⟨⟨_,rfl⟩,OpT.getT (by exact Int.zero_le_ofNat 0) (c:=.int a.1) rfl (by show 2≤fewItems;decide) ?_⟩
    walk_at "s"
    by_cases h1:a.1≤p.2+1
    ·rw [if_pos (by simpa using h1)]
     refine EvA.subT ?_
     walk_at "s"
     refine ⟨⟨_,rfl⟩,OpT.getT (by exact Int.one_nonneg) (c:=.int a.2) rfl (by show 2≤fewItems;decide) ?_⟩
     walk_at "s"
     refine ⟨?_,rfl⟩
     unfold coverH
     rw [decide_eq_decide];exact Iff.symm ((fun {a b}=>and_iff_right_iff_imp.mpr) fun a=>h1)
    ·rw [if_neg (by simpa using h1)]
     refine ⟨?_,rfl⟩
     unfold coverH
     rw [eq_comm,decide_eq_false_iff_not];exact not_and.mpr fun a_1 a=>h1 a_1
   ·refine EvA.list ?_
    walk_at "s"
    refine ⟨Nat.zero_le _,?_⟩
    refine OpT.eqL (l:=pairs (l.filter (coverH p.2))) (m:=[]) (getP (by rw [List.getElem?_append_right (by simp)];simp) _) (by rw [List.getElem?_append_right (Nat.le_refl _),Nat.sub_self];rfl) (cm_pairs _) (by simp) (TrT.bool ?_)
    rw [eqLs_nil]
    have e:(pairs (l.filter (coverH p.2))).isEmpty=(l.filter (coverH p.2)).isEmpty:=by cases l.filter (coverH p.2) <;> rfl
    rw [e]
    refine ⟨r++pairs (l.filter (coverH p.2))::(r'++[[]]),by simp,?_⟩
    by_cases hg:(l.filter (coverH p.2)).isEmpty=true
    ·rw [if_pos hg]
     walk_at "s"
     exact ⟨r++pairs (l.filter (coverH p.2))::(r'++[[]]),by simp,by show (if _ then _ else _)=_;rw [if_pos hg]⟩
    ·rw [if_neg hg]
     show (if _ then _ else _)=_
     rw [if_neg hg]
 intro r2
 rw [end_map]
 show ExA w _ n _ _ [("ranges",.lst k),("lows",.lst S.length),("highs",.lst S₁.length)] (S₁++(highsF l).map AV.int::r2) _
 refine ExA.ret (EvA.listZip H (by kernel_rfl) (by kernel_rfl) (ArT.cons (EvA.sortedSet H (by kernel_rfl) (by kernel_rfl) ?_)))
 walk_at "s"
 refine ⟨_,lowsF l,rfl,getP hlows _,by exact Nat.le_trans hlo hl,fun n1 p1 s1=>ArT.cons (EvA.sortedSet H (by kernel_rfl) (by kernel_rfl) ?_)⟩
 walk_at "s"
 refine ⟨_,highsF l,rfl,getP (get0 _ _ _) _,by exact Nat.le_trans hhi hl,fun n2 p2 s2=>ArT.nil ?_⟩
 have l1:=p1.length_eq
 have l2:=p2.length_eq
 have d1:=dedupI_len (lowsF l)
 refine ⟨_,_,n1.map .int,n2.map .int,rfl,?_,?_,by simp;(clear d1;lia),by simp;unfold fewItems;lia,?_⟩
 ·rw [List.getElem?_append_left (by simp),List.getElem?_append_right (Nat.le_refl _),Nat.sub_self,List.map_map];rfl
 ·rw [List.getElem?_append_right (Nat.le_refl _),Nat.sub_self,List.map_map];rfl
 ·rw [zip_ints,← hS₁]
  have e:∀ (a b c d:Store),(S++(lowsF l).map AV.int::r1)++(a)++b++c++d=S++((lowsF l).map AV.int::r1++a++b++c++d):=by intros;simp
  rw [e]
  refine q _ _ n1 n2 p1 s1 p2 s2 ?_
  rw [← e,List.getElem?_append_right (Nat.le_refl _),Nat.sub_self];rfl
end
section
variable {w:World} {B:Bs} {n:Nat} {env:Env} {loc:Loc} {S:Store} {σ:List Addr} {s:Shared} {A:Around} {Q:AV→Store→Prop} {K:AF→Loc→Store→Prop} {rest:List Stmt}
open PySem.StrLaws PySem.Builtin PySem.Builtin.Str
theorem sub_one (x:Str) (c i:Nat):subAt x ⟨#[c]⟩ i=decide (x.cps.toList[i]?=some c):=by
 rw [Bool.eq_iff_iff,decide_eq_true_eq]
 unfold subAt
 rw [beq_iff_eq]
 show x.cps.extract i (i+1)=#[c]↔_
 rw [← Array.toList_inj]
 simp only [Array.toList_extract,List.extract_eq_take_drop]
 rw [show i+1-i=1 by exact Nat.add_sub_self_left i 1]
 constructor
 ·intro h
  have h2:=congrArg (fun l:List Nat=>l[0]?) h
  simpa using h2
 ·intro h
  have hi:=(List.getElem?_eq_some_iff.mp h).1
  rw [List.drop_eq_getElem_cons hi]
  have:=(List.getElem?_eq_some_iff.mp h).2
  simp [this]
noncomputable def posL (l:List Nat) (c lo n:Nat):List Nat:=(List.range' lo n).filter fun i=>decide (l[i]?=some c)
theorem occ_go (x:Str) (c hi limit:Nat) (hh:hi≤x.length):∀ (n lo:Nat) (st:Array Nat×Nat),st.2≤lo→st.1.size≤limit →
  (forIn (List.range' lo n) st (occBody x ⟨#[c]⟩ hi limit)).run.fst.toList=(st.1.toList++(List.range' lo n).filter fun i=>decide (i<hi)&&decide (x.cps.toList[i]?=some c)).take limit
 | 0,lo,st,_,hs=>by
  simp;rw [List.take_of_length_le (by simpa using hs)]
 | n+1,lo,st,hf,hs=>by
  rw [List.range'_succ,List.forIn_cons]
  unfold occBody
  have e:(⟨#[c]⟩:Str).length=1:=rfl
  rw [sub_one,e]
  by_cases h1:lo<hi∧x.cps.toList[lo]?=some c
  ·have hfil:(List.filter (fun i=>decide (i<hi)&&decide (x.cps.toList[i]?=some c)) (lo::List.range' (lo+1) n))=lo::List.filter (fun i=>decide (i<hi)&&decide (x.cps.toList[i]?=some c)) (List.range' (lo+1) n):=by
    rw [List.filter_cons_of_pos (by simp only [h1.1,h1.2,decide_true,Bool.and_self])]
   rw [hfil]
   by_cases h2:st.1.size<limit
   ·rw [if_pos ⟨⟨⟨h2,hf⟩,by lia⟩,by rw [decide_eq_true_eq];exact h1.2⟩]
    have ih:=occ_go x c hi limit hh n (lo+1) (st.1.push lo,lo+1) (Nat.le_refl _) (by simp;exact Nat.succ_le_of_lt h2)
    unfold occBody at ih
    rw [e] at ih
    refine ih.trans ?_
    simp
   ·rw [if_neg (fun q=>h2 q.1.1.1)]
    have ih:=occ_go x c hi limit hh n (lo+1) (st.1,st.2) (by show st.2≤lo+1;exact Nat.le_add_right_of_le hf) hs
    unfold occBody at ih
    rw [e] at ih
    refine ih.trans ?_
    have hl:st.1.toList.length=limit:=by simp;lia
    show (st.1.toList++_).take limit=(st.1.toList++_).take limit
    rw [List.take_append_of_le_length (Nat.le_of_eq hl.symm),List.take_append_of_le_length (Nat.le_of_eq hl.symm)]
  ·rw [if_neg (fun q=>h1 ⟨by have:=q.1.2;exact Nat.lt_of_succ_le this,of_decide_eq_true q.2⟩)]
   rw [List.filter_cons_of_neg (by simp only [Bool.and_eq_true,decide_eq_true_eq];exact h1)]
   have ih:=occ_go x c hi limit hh n (lo+1) (st.1,st.2) (by show st.2≤lo+1;exact Nat.le_add_right_of_le hf) hs
   unfold occBody at ih
   rw [e] at ih
   exact ih
theorem occ_char (x:Str) {c lo hi limit:Nat} (hh:hi≤x.length):occurrences x ⟨#[c]⟩ lo hi limit=(posL x.cps.toList c lo (hi-lo)).take limit:=by
 rw [occ_eq]
 refine (occ_go x c hi limit hh _ lo (#[],lo) (Nat.le_refl _) (Nat.zero_le _)).trans ?_
 rw [List.nil_append]
 congr 1
 rcases Nat.lt_or_ge hi lo with h | h
 ·rw [show hi+1-lo=0 by exact Nat.sub_eq_zero_of_le h,show hi-lo=0 by lia];rfl
 ·rw [show hi+1-lo=(hi-lo)+1 by exact Nat.sub_add_comm h,List.range'_concat,List.filter_append]
  have:(List.filter (fun i=>decide (i<hi)&&decide (x.cps.toList[i]?=some c)) [lo+1*(hi-lo)])=[]:=by
   rw [List.filter_cons_of_neg (by simp only [Bool.and_eq_true,decide_eq_true_eq];intro q;lia)];rfl
  rw [this,List.append_nil]
  refine List.filter_congr fun i hi'=>?_
  have:=List.mem_range'_1.mp hi'
  simp only [show i<hi by lia,decide_true,Bool.true_and]
theorem last_go (x:Str) (c hi:Nat):∀ (n lo:Nat) (st:Option Nat),(forIn (List.range' lo n) st (lastBody x ⟨#[c]⟩ hi)).run=(((List.range' lo n).filter fun i=>decide (i<hi)&&decide (x.cps.toList[i]?=some c)).getLast?).or st
 | 0,lo,st=>by simp
 | n+1,lo,st=>by
  rw [List.range'_succ,List.forIn_cons]
  unfold lastBody
  have e:(⟨#[c]⟩:Str).length=1:=rfl
  rw [sub_one,e]
  by_cases h1:lo<hi∧x.cps.toList[lo]?=some c
  ·rw [if_pos ⟨by lia,by rw [decide_eq_true_eq];exact h1.2⟩]
   rw [List.filter_cons_of_pos (by simp only [h1.1,h1.2,decide_true,Bool.and_self])]
   have ih:=last_go x c hi n (lo+1) (some lo)
   unfold lastBody at ih
   rw [e] at ih
   refine ih.trans ?_
   rw [List.getLast?_cons]
   cases (List.filter (fun i=>decide (i<hi)&&decide (x.cps.toList[i]?=some c)) (List.range' (lo+1) n)).getLast? <;> rfl
  ·rw [if_neg (fun q=>h1 ⟨by have:=q.1;exact Nat.lt_of_succ_le this,of_decide_eq_true q.2⟩)]
   rw [List.filter_cons_of_neg (by simp only [Bool.and_eq_true,decide_eq_true_eq];exact h1)]
   have ih:=last_go x c hi n (lo+1) st
   unfold lastBody at ih
   rw [e] at ih
   exact ih
theorem last_char (x:Str) {c lo hi:Nat}:lastOccurrence x ⟨#[c]⟩ lo hi=(posL x.cps.toList c lo (hi-lo)).getLast?:=by
 rw [last_eq,last_go]
 rw [Option.or_none]
 rcases Nat.lt_or_ge hi lo with h | h
 ·rw [show hi+1-lo=0 by exact Nat.sub_eq_zero_of_le h,show hi-lo=0 by lia];rfl
 ·rw [show hi+1-lo=(hi-lo)+1 by exact Nat.sub_add_comm h,List.range'_concat,List.filter_append]
  have:(List.filter (fun i=>decide (i<hi)&&decide (x.cps.toList[i]?=some c)) [lo+1*(hi-lo)])=[]:=by
   rw [List.filter_cons_of_neg (by simp only [Bool.and_eq_true,decide_eq_true_eq];intro q;lia)];rfl
  rw [this,List.append_nil]
  congr 1
  refine List.filter_congr fun i hi'=>?_
  have:=List.mem_range'_1.mp hi'
  simp only [show i<hi by lia,decide_true,Bool.true_and]
theorem from_nat (n k:Nat):fromIndex n (k:Int)=k:=by unfold fromIndex;rw [if_neg (by exact Int.not_ofNat_neg k)];simp
theorem gives_count4 (x:Str) (c:Nat) {lo hi:Nat} (t u v z:Tok) (hh:hi≤x.length):Gives («str.count» ⟨[.str x t,.str ⟨#[c]⟩ u,.int (lo:Int) v,.int (hi:Int) z],[]⟩) (.int ((posL x.cps.toList c lo (hi-lo)).length:Nat)):=by
 show Gives (retInt (occurrences x ⟨#[c]⟩ (fromIndex x.length lo) (min (fromIndex x.length hi) x.length) (x.length+1)).length) _
 rw [from_nat,from_nat,Nat.min_eq_left hh,occ_char x hh,List.take_of_length_le (by
  refine Nat.le_trans (List.length_filter_le _ _) ?_
  rw [List.length_range'];lia)]
 exact .of_eq rfl
theorem gives_rindex4 (x:Str) (c:Nat) {lo hi i:Nat} (t u v z:Tok) (hh:hi≤x.length) (h:(posL x.cps.toList c lo (hi-lo)).getLast?=some i):Gives («str.rindex» ⟨[.str x t,.str ⟨#[c]⟩ u,.int (lo:Int) v,.int (hi:Int) z],[]⟩) (.int i):=by
 show Gives (match lastOccurrence x ⟨#[c]⟩ (fromIndex x.length lo) (min (fromIndex x.length hi) x.length) with | some i=>retInt i | none=>(do rule "str.rindex.not-found";raiseError "ValueError" "substring not found")) _
 rw [from_nat,from_nat,Nat.min_eq_left hh,last_char,h]
 exact .of_eq rfl
theorem gives_index3 (x:Str) (c:Nat) {lo i:Nat} (t u v:Tok) (h:(posL x.cps.toList c lo (x.length-lo)).head?=some i):Gives («str.index» ⟨[.str x t,.str ⟨#[c]⟩ u,.int (lo:Int) v],[]⟩) (.int i):=by
 show Gives (match occurrences x ⟨#[c]⟩ (fromIndex x.length lo) (min x.length x.length) 1 with | i::_=>retInt i | []=>(do rule "str.index.not-found";raiseError "ValueError" "substring not found")) _
 rw [from_nat,Nat.min_self,occ_char x (Nat.le_refl _)]
 cases hp:posL x.cps.toList c lo (x.length-lo) with
 | nil=>rw [hp] at h;cases h
 | cons a l=>rw [hp] at h;cases h;exact .of_eq rfl
theorem gives_find4 (x:Str) (c:Nat) {lo hi:Nat} (t u v z:Tok) (hh:hi≤x.length):Gives («str.find» ⟨[.str x t,.str ⟨#[c]⟩ u,.int (lo:Int) v,.int (hi:Int) z],[]⟩) (.int (match posL x.cps.toList c lo (hi-lo) with | i::_=>(i:Int) | [] => -1)):=by
 show Gives (match occurrences x ⟨#[c]⟩ (fromIndex x.length lo) (min (fromIndex x.length hi) x.length) 1 with | k::_=>retInt k | []=>(do rule "str.find.not-found";retInt (-1))) _
 rw [from_nat,from_nat,Nat.min_eq_left hh,occ_char x hh]
 cases posL x.cps.toList c lo (hi-lo) with
 | nil=>exact .rule (.of_eq rfl)
 | cons k _=>exact .of_eq rfl
theorem All2.four {α β:Type} {R:α→β→Prop} {a b c d:α} {l:List β} (h:All2 R [a,b,c,d] l):∃ x y z u,l=[x,y,z,u]∧R a x∧R b y∧R c z∧R d u:=by
 obtain ⟨x,m,rfl,r,h⟩:=h.consI;obtain ⟨y,z,u,rfl,q⟩:=h.three;exact ⟨x,y,z,u,rfl,r,q⟩
theorem OpT.count4 {x:Str} {c lo hi:Nat} (hh:hi≤x.length) (q:Q (.int ((posL x.cps.toList c lo (hi-lo)).length:Nat)) S):OpT w B n (Mine.callB "str.count") [.str x,.str ⟨#[c]⟩,.int (lo:Int),.int (hi:Int)] S Q:=.mk fun A σ s E vs ha W r=>by
 obtain ⟨_,_,_,_,rfl,⟨t,rfl⟩,⟨u,rfl⟩,⟨v,rfl⟩,⟨z,rfl⟩⟩:=r.four
 exact call_gives PySem.F.slot_str_count (typeIs_str _ _ _) PySem.F.entry_str_count (PySem.F.args_str_count_4 _ _ _ _) (gives_count4 x c t u v z hh) (Pst.sc W (c:=.int _) ⟨_,rfl⟩ q)
theorem OpT.rindex4 {x:Str} {c lo hi i:Nat} (hh:hi≤x.length) (h:(posL x.cps.toList c lo (hi-lo)).getLast?=some i) (q:Q (.int (i:Int)) S):OpT w B n (Mine.callB "str.rindex") [.str x,.str ⟨#[c]⟩,.int (lo:Int),.int (hi:Int)] S Q:=.mk fun A σ s E vs ha W r=>by
 obtain ⟨_,_,_,_,rfl,⟨t,rfl⟩,⟨u,rfl⟩,⟨v,rfl⟩,⟨z,rfl⟩⟩:=r.four
 exact call_gives PySem.F.slot_str_rindex (typeIs_str _ _ _) PySem.F.entry_str_rindex (PySem.F.args_str_rindex_4 _ _ _ _) (gives_rindex4 x c t u v z hh h) (Pst.sc W (c:=.int _) ⟨_,rfl⟩ q)
theorem OpT.index3 {x:Str} {c lo i:Nat} (h:(posL x.cps.toList c lo (x.length-lo)).head?=some i) (q:Q (.int (i:Int)) S):OpT w B n (Mine.callB "str.index") [.str x,.str ⟨#[c]⟩,.int (lo:Int)] S Q:=.mk fun A σ s E vs ha W r=>by
 obtain ⟨_,_,_,rfl,⟨t,rfl⟩,⟨u,rfl⟩,⟨v,rfl⟩⟩:=r.three
 exact call_gives PySem.F.slot_str_index (typeIs_str _ _ _) PySem.F.entry_str_index (PySem.F.args_str_index_3 _ _ _) (gives_index3 x c t u v h) (Pst.sc W (c:=.int _) ⟨_,rfl⟩ q)
theorem OpT.find4 {x:Str} {c lo hi:Nat} (hh:hi≤x.length) (q:Q (.int (match posL x.cps.toList c lo (hi-lo) with | i::_=>(i:Int) | [] => -1)) S):OpT w B n (Mine.callB "str.find") [.str x,.str ⟨#[c]⟩,.int (lo:Int),.int (hi:Int)] S Q:=.mk fun A σ s E vs ha W r=>by
 obtain ⟨_,_,_,_,rfl,⟨t,rfl⟩,⟨u,rfl⟩,⟨v,rfl⟩,⟨z,rfl⟩⟩:=r.four
 exact call_gives PySem.F.slot_str_find (typeIs_str _ _ _) PySem.F.entry_str_find (PySem.F.args_str_find_4 _ _ _ _) (gives_find4 x c t u v z hh) (Pst.sc W (c:=.int _) ⟨_,rfl⟩ q)
theorem OpT.inS {x:Str} {c:Nat} (q:Q (.bool (decide (c∈x.cps.toList))) S):OpT w B n (opC .In) [.str ⟨#[c]⟩,.str x] S Q:=.mk fun A σ s E vs ha W r=>by
 obtain ⟨v1,v2,rfl,⟨t,rfl⟩,⟨u,rfl⟩⟩:=r.two
 refine in_str ?_
 rw [found_one]
 exact Pst.sc W (c:=.bool _) rfl q
theorem OpT.notInS {x:Str} {c:Nat} (q:Q (.bool (!decide (c∈x.cps.toList))) S):OpT w B n (opC .NotIn) [.str ⟨#[c]⟩,.str x] S Q:=.mk fun A σ s E vs ha W r=>by
 obtain ⟨v1,v2,rfl,⟨t,rfl⟩,⟨u,rfl⟩⟩:=r.two
 refine notIn_str ?_
 rw [found_one]
 exact Pst.sc W (c:=.bool _) rfl q
end
section
variable {w:World} {B:Bs} {n:Nat} {env:Env} {loc:Loc} {S:Store} {σ:List Addr} {s:Shared} {A:Around} {Q:AV→Store→Prop} {K:AF→Loc→Store→Prop} {rest:List Stmt}
theorem among_app {pos:Pos} {a b:Int} {c:Value}:∀ (l:List Value),TriplesOk l→codeAmong pos (l++[rawInt a,rawInt b,c])=match codeAmong pos l with
  | some v=>some v
  | none=>if a==(pos.line:Int)&&b==(pos.col:Int) then some c else none
 | [],_=>rfl
 | .int x t::.int y u::v::l,h=>by
  have ih:=among_app (pos:=pos) (a:=a) (b:=b) (c:=c) l h
  show (if (x==(pos.line:Int)&&y==(pos.col:Int))=true then some v else codeAmong pos (l++[rawInt a,rawInt b,c]))=_
  rw [ih]
  show _=match (if (x==(pos.line:Int)&&y==(pos.col:Int))=true then some v else codeAmong pos l) with | some v=>some v | none=>_
  split <;> rfl
 | [.none],h=>h.elim
 | [.int _ _],h=>h.elim
 | [.int _ _,.int _ _],h=>h.elim
theorem code1_of {h:Heap} {c P:Addr} {q:Str} {ps:Array Value} (x:h.CodeRec (.ref c) q) (t:h.TableAt c P ps):Code1 h c q:=by
 obtain ⟨c',o,vs,tk,e,ho,hd,hv⟩:=x
 cases e
 obtain ⟨⟨o',vs',ho',hc,_⟩,_⟩:=t
 rw [ho] at ho';cases ho'
 exact ⟨o,vs,tk,ho,hc,hd,hv⟩
theorem Tab1.ext {h h':Heap} {P:Addr} {qs} {ps:Array Value} {c c':Addr} {pos:Pos} {qn:Str} (T:∀ q∈qs,codeAmong q.1 ps.toList=none∨∃ c',codeAmong q.1 ps.toList=some (.ref c')∧Code1 h c' q.2) (hx:Heap.ExtBut P h h') (hP:∃ o,h.get? P=some o∧immO o=false) (htr:TriplesOk ps.toList)
  (hi:h'.IsCode c P (ps++#[rawInt pos.line,rawInt pos.col,.ref c'])) (ht:h'.TableAt c P (ps++#[rawInt pos.line,rawInt pos.col,.ref c'])) (hc:Code1 h' c' qn) (hdis:∀ q∈qs,q.1.line=pos.line→q.1.col=pos.col→q.2=qn):Tab1 h' c P qs:=by
 refine ⟨_,hi,ht,fun q m=>?_⟩
 rw [show (ps++#[rawInt pos.line,rawInt pos.col,Value.ref c']).toList=ps.toList++[rawInt pos.line,rawInt pos.col,.ref c'] by simp,among_app _ htr]
 obtain ⟨oP,hoP,hiP⟩:=hP
 rcases T q m with e | ⟨c2,e,r⟩
 ·rw [e]
  dsimp only
  split
  ·rename_i hh
   refine .inr ⟨c',rfl,?_⟩
   rw [hdis q m (by lia) (by lia)]
   exact hc
  ·exact .inl rfl
 ·rw [e]
  exact .inr ⟨c2,rfl,r.keep fun a o e i=>hx a o (by rintro rfl;rw [hoP] at e;cases e;rw [hiP] at i;cases i) e⟩
theorem wp_codeFn {E:Value→Shared→Prop} {c P:Addr} {qs} {pos:Pos} {firstLine:Nat} {name qn:Str} {p:Arguments} {scope:Scope} {body:FuncBody} {R:Value→Shared→Prop} (hc:env.code=.ref c) (T:Tab1 s.heap c P qs) (hm:(pos,qn)∈qs) (hdis:∀ q∈qs,q.1.line=pos.line→q.1.col=pos.col→q.2=qn)
  (h:∀ c' h' tk,Heap.ExtBut P s.heap h'→Tab1 h' c P qs→Code1 h' c' qn→R (.ref c') { s with heap:=h',toks:=tk }) :
  wpAny (model pw w) A (functionCode env pos firstLine name qn p scope body) R E s:=by
 refine let ZZ:Prop:=_;(?_:ZZ)
 obtain ⟨ps,hi,ht,hq⟩:=id T
 have htr:TriplesOk ps.toList:=by obtain ⟨_,_,_,_,_,_,_,_,_,_,_,_,_,_,_,_,_,_,_,r,_⟩:=id hi;exact r
 rcases hq _ hm with e | ⟨c',e,r⟩
 ·refine wpAny_functionCodeX hc hi ht e fun c' h' tk hx _ _ hi' hrec ht' hP'=>?_
  obtain ⟨P',_,_,htb⟩:=hP'
  exact h c' h' tk hx (Tab1.ext hq hx ⟨_,ht.2,rfl⟩ htr hi' ht' (code1_of hrec htb) hdis) (code1_of hrec htb)
 ·exact wpAny_functionCode_hit hc hi e (h c' s.heap s.toks (Heap.ExtBut.refl _ _) T r)
theorem Wd.table (W:Wd B σ S s) {h':Heap} {P:Addr} {tk:Nat} (hP:P=50∨P=130) (hx:Heap.ExtBut P s.heap h') (t:Tb h'):Wd B σ S { s with heap:=h',toks:=tk }:=by
 have im:∀ a o,s.heap.get? a=some o→immO o=true→h'.get? a=some o:=fun a o e i=>hx a o (by
  rintro rfl
  have:=W.out_of_imm e i
  rcases hP with rfl | rfl
  ·exact this.2.1 rfl
  ·exact this.2.2 rfl) e
 refine ⟨W.len,W.nodup,W.fresh,fun i l e=>?_,fun a o e h1 h2=>hx a o (by rintro rfl;rcases hP with q | q;exact h1 q;exact h2 q) (W.kept a o e h1 h2),t,W.gens,W.os,fun e me=>?_⟩
 ·refine let ZZ:Prop:=_;(?_:ZZ)
  obtain ⟨a,vs,h1,h2,h3⟩:=W.lists i l e
  refine ⟨a,vs,h1,h2.at fun o q=>hx a o ?_ q,All2.mono (fun _ _ r=>r.keep0 im) h3⟩
  rintro rfl
  obtain ⟨n,q2⟩:=h2
  rcases hP with rfl | rfl
  ·obtain ⟨ps,e3⟩:=W.tabs.t50;rw [e3] at q2;cases q2
  ·obtain ⟨ps,e3⟩:=W.tabs.t130;rw [e3] at q2;cases q2
 ·refine let ZZ:Prop:=_;(?_:ZZ)
  obtain ⟨h1,L,o,es,ep,h2,h3,h4,h5⟩:=W.frs e me
  refine ⟨h1,L,o,es,ep,h2,h3,hx L o ?_ h4,h5⟩
  rintro rfl
  rcases hP with rfl | rfl
  ·obtain ⟨ps,e3⟩:=W.tabs.t50;rw [e3] at h4;cases h4;cases h5
  ·obtain ⟨ps,e3⟩:=W.tabs.t130;rw [e3] at h4;cases h4;cases h5
theorem Ext.table {h h':Heap} {P:Addr} (hP:P=50∨P=130) (hx:Heap.ExtBut P h h'):Ext σ h h' :=
 .exact fun a o e _ h2 h3=>hx a o (by rintro rfl;rcases hP with q | q;exact h2 q;exact h3 q) e
theorem g_blts (P:Params):mgF P "__builtins__"=some (.ref 4):=by kernel_rfl
theorem o_blts (P:Params):(Hp1 P).get? 4=some ⟨.type "module",some builtinsNs,.plain,#[]⟩:=by kernel_rfl
theorem St.bfor (H:St w B) (W:Wd B σ S s) {E:Value→Shared→Prop} {running:Addr} {R:Addr→Shared→Prop} (h:R builtinsNs s):wpAny (model pw w) A (builtinsFor mainGlobals running) R E s :=
 wpAny_builtinsFor (H.main W) (g_blts _) (by decide) (H.at W (o_blts _)) rfl rfl rfl h
noncomputable abbrev mkFd (name qn:Str) (p:Arguments) (body:FuncBody) (scope:Scope) (pm doc:Value) (c':Addr):FuncData :=
 { name,qualname:=qn,params:=p,body,scope,globals:=mainGlobals,closure:=[],closureTuple:=.none,code:=.ref c',builtins:=builtinsNs,defaults:=.none,kwdefaults:=.none,annotations:=none,pyModule:=pm,doc }
noncomputable abbrev fnO (fd:FuncData):Obj:={ cls:=.type "function",data:=.func fd }
theorem wp_makeFn (H:St w B) {E:Value→Shared→Prop} {c P:Addr} {qs} {pos:Pos} {firstLine:Nat} {name qn:Str} {p:Arguments} {scope:Scope} {body:FuncBody} {R:Value→Shared→Prop} (W:Wd B σ S s) (hg:env.globals=mainGlobals) (hc:env.code=.ref c) (hP:P=50∨P=130) (T:Tab1 s.heap c P qs) (hm:(pos,qn)∈qs) (hdis:∀ q∈qs,q.1.line=pos.line→q.1.col=pos.col→q.2=qn)
  (hT':∀ h',Heap.ExtBut P s.heap h'→Tab1 h' c P qs→Tb h')
  (hkw:p.kwonlyargs=[]) (hclos:closureFor scope env=pure []) (hdoc:∀ b,body=.stmts b→docOf b=none)
  (h:∀ c' a h' tk pm,Wd B σ S { s with heap:=h',toks:=tk }→Ext σ s.heap h'→s.heap.get? a=none→h'.get? a=some (fnO (mkFd name qn p body scope pm .none c'))→Code1 h' c' qn→R (.ref a) { s with heap:=h',toks:=tk }) :
  wpAny (model pw w) A (makeFunction name qn p body scope env [] [] [] pos firstLine) R E s:=by
 rw [makeFunction_eq,hkw]
 refine wpAny_bind (wpAny_pure (wpAny_bind (wpAny_pure (wpAny_bind (wpAny_pure ?_)))))
 show wpAny _ _ (makeTail name qn p body scope env .none .none none pos firstLine) _ _ _
 unfold makeTail
 rw [hclos]
 refine wpAny_bind (wpAny_pure (wpAny_bind (wpAny_pure ?_)))
 refine wpAny_bind (wp_codeFn hc T hm hdis fun c' h' tk hx T' hc1=>?_)
 have W':Wd B σ S { s with heap:=h',toks:=tk }:=W.table hP hx (hT' h' hx T')
 rw [hg]
 refine wpAny_bind (H.bfor W' ?_)
 refine wpAny_bind (wpAny_nsGet (H.main W') ?_)
 have fin:∀ pm:Value,wpAny (model pw w) A (newObj (.type "function") (.func (mkFd name qn p body scope pm .none c'))) R E { s with heap:=h',toks:=tk }:=fun pm=>by
  refine wpAny_newObj_type ?_ (by size_fits)
  have hl:s.heap.get? h'.objs.size=none:=by
   cases e:s.heap.get? h'.objs.size with
   | none=>rfl
   | some o =>
    exfalso
    by_cases q:h'.objs.size=P
    ·obtain ⟨ps,t⟩:=T'.t
     have:=Heap.lt_size t
     rw [← q] at this
     exact Nat.lt_irrefl _ this
    ·exact Nat.lt_irrefl _ (Heap.lt_size (hx _ _ q e))
  have k:∀ b o,h'.get? b=some o→(h'.push (fnO (mkFd name qn p body scope pm .none c'))).get? b=some o:=fun b o e=>Heap.get?_push_of_some _ e
  exact h c' h'.objs.size _ tk pm (W'.push _) ((Ext.table hP hx).then fun b o e _ _ _ _=>k b o e) hl (Heap.get?_push_size _ rfl) (hc1.keep fun b o e _=>k b o e)
 cases body with
 | stmts b=>dsimp only;rw [hdoc b rfl];exact wpAny_bind (wpAny_pure (fin _))
 | expr e=>dsimp only;exact wpAny_bind (wpAny_pure (fin _))
theorem ExS.defIn (H:St w B) {x qn:Str} {a:List Arg} {body:List Stmt} {scope:Scope} {pos:Pos} {f:AV→Loc} {Q:AF→Loc→Store→Prop} (hu:UpdF loc x f) (hkx:env.kindOf x=some .local) (hc:env.code=.ref 134) (hg:env.globals=mainGlobals) (hqn:qualnameIn env x x=qn) (hm:(pos,qn)∈qs130)
  (hdis:∀ q∈qs130,q.1.line=pos.line→q.1.col=pos.col→q.2=qn) (hann:annotationsOf (a++[]++[]++[]++[]) env=[]) (hclos:closureFor scope env=pure []) (hdoc:docOf body=none)
  (q:∀ pm c',Q .next (f (.obj (fnO (mkFd x qn ⟨[],a,none,[],[],none,[]⟩ (.stmts body) scope pm .none c')))) S):ExS w B n env (.FunctionDef x ⟨[],a,none,[],[],none,[]⟩ body [] none [] scope none x pos) loc S Q:=.mk fun A σ s E ha W F=>by
 rw [arm_exec_FunctionDef]
 unfold defStmt
 refine wpAny_ite_false rfl ?_
 refine wpAny_bind (wpAny_pure (wpAny_bind (wpAny_standAt (wpAny_bind (wpAny_holding (wpAny_bind (wpAny_pure (wpAny_bind (wpAny_holding (wpAny_pure (wpAny_holding ?_)))))))))))
 show wpAny _ _ (do
   let ann←evalNamed (annotationsOf (a++[]++[]++[]++[]) env++[])
   makeFunction x (qualnameIn env x x) _ (.stmts body) scope env [] [] ann pos pos.line) _ _ _
 rw [hann]
 refine wpAny_bind (wpAny_pure ?_)
 rw [hqn]
 refine wp_makeFn H W hg hc (.inr rfl) W.tabs.a130 hm hdis (fun h' hx t=>⟨W.tabs.a50.keep (fun a o e i=>hx a o (by rintro rfl;exact (W.out_of_imm e i).2.2 rfl) e) (fun o e=>hx _ o (by decide) e),t⟩) rfl hclos (fun b e=>by cases e;exact hdoc) fun c' a' h' tk pm W' X hn hf hc1=>?_
 have F':Fm B σ env loc h':=by have:=F.mono W [] X;rwa [List.append_nil] at this
 refine wpAny_bind (wpAny_pure (wpAny_bind (wpAny_standAt (wpAny_bind (wpAny_bindName ?_)))))
 refine wpAny_mono ((StT.store (Q:=fun loc' S'=>Q .next loc' S') hu hkx (q pm c')).run A σ { s with heap:=h',toks:=tk } E (.ref a') ha W' F' ⟨a',rfl,hf,rfl,fun fd c e1 e2=>by cases e1;cases e2;exact hc1⟩) (fun _ s'' p=>wpAny_pure ?_) fun _ _ e=>e
 have p':PstF B σ env s (fun _ loc' S'=>Q .next loc' S') .next s'':=by
  have p0:PstF B (σ++[]) env { s with heap:=h',toks:=tk } (fun _ loc' S'=>Q .next loc' S') .next s'':=by rwa [List.append_nil]
  exact p0.back (s:=s) F.live (S₁:=S) (by rwa [List.append_nil]) (by rwa [List.append_nil]) X.toF (fun a h=>by cases h)
 refine let ZZ:Prop:=_;(?_:ZZ)
 obtain ⟨τ',af,loc',S',a,b,c,d,e,g⟩:=p'
 cases af with
 | next=>exact ⟨τ',.next,loc',S',a,b,c,d,e,g⟩
 | brk=>exact absurd e nofun
 | cont=>exact absurd e nofun
 | ret av=>obtain ⟨v,e,_⟩:=e;cases e
noncomputable abbrev callV:List Value→Sem Value:=fun vs=>call (vs.headD .none) vs.tail
theorem OpT.fn (H:St w B) {x qn:Str} {p:Arguments} {body:List Stmt} {scope:Scope} {pm:Value} {c':Addr} {ps:List Str} (ls:List Str) {avs:List AV} {Q:AV→Store→Prop} (loc₀:Loc)
  (hlen:ps.length=avs.length)
  (hbind:∀ vs:List Value,vs.length=ps.length→bindArgs (mkFd x qn p (.stmts body) scope pm .none c') ⟨vs,[]⟩=pure (ps.zip vs))
  (hnd:(ps++ls).Nodup)
  (hcell:∀ x∈scope.names,x.2≠.cell) (hloc:∀ x∈ps,scope.names.lookup x=some .local)
  (h:∀ L fa,B.heap.get? L=none→St w (B.into (callEnv (mkFd x qn p (.stmts body) scope pm .none c') L fa))→ExA w (B.into (callEnv (mkFd x qn p (.stmts body) scope pm .none c') L fa)) n (callEnv (mkFd x qn p (.stmts body) scope pm .none c') L fa) body loc₀ S fun f _ S'=>match f with | .ret av=>Q av S' | .next=>Q .none S' | _=>False)
  (hl₀:loc₀=ps.zip avs++ls.map fun x=>(x,.unb):=by rfl)
  (hco:scope.isCoroutine=false:=by kernel_rfl) (hgen:scope.isGenerator=false:=by kernel_rfl) (hk:scope.kind=.function:=by kernel_rfl) :
  OpT w B (n+1) Mine.callV (.obj (fnO (mkFd x qn p (.stmts body) scope pm .none c'))::avs) S Q:=.mk fun A σ s E vs ha W r₀=>by
 subst hl₀
 refine let ZZ:Prop:=_;(?_:ZZ)
 obtain ⟨v₀,vs',rfl,⟨fa,rfl,hfa,_,hfn⟩,r⟩:=r₀.consI
 have hvl:vs'.length=ps.length:=by rw [hlen,r.length]
 have hloc':∀ x∈ps.zip vs',scope.names.lookup x.1=some .local:=fun x hx=>hloc x.1 (List.of_mem_zip hx).1
 refine wpAny_call (codeAny_call_def (fd:=mkFd x qn p (.stmts body) scope pm .none c') (body:=body) (binds:=ps.zip vs') ha.room hfa rfl (H.nolimit W) ?_ rfl (BindsTo.of_eq (hbind vs' hvl)) hcell hloc' (fun h₀ hn₀ hk₀=>?_) hco hgen hk)
 ·refine let ZZ:Prop:=_;(?_:ZZ)
  obtain ⟨o,us,t,hg,_,hd,hu⟩:=hfn _ c' rfl rfl
  exact ⟨c',o,us,t,rfl,hg,hd,hu⟩
 have hnone:s.heap.get? s.heap.objs.size=none:=Heap.get?_none_of_le (Nat.le_refl _)
 obtain ⟨W₀,F₀⟩:=entered (e:=callEnv (mkFd x qn p (.stmts body) scope pm .none c') s.heap.objs.size fa) (ls:=ls) (tk:=s.toks+(ps.zip vs').length) W r hlen hnd hloc rfl hk rfl rfl hnone hn₀ hk₀
 refine (h s.heap.objs.size fa (W.newB hnone) H).bind (ha.deeper _) W₀ F₀ fun f s' τ af loc' S' W' f' x' F' r' q'=>?_
 have W':=W'.out
 have X:=ext_back x' hk₀ hnone
 have ft:∀ a∈τ,s.heap.get? a=none:=fun a ha=>fresh_back hk₀ (f' a ha)
 cases af with
 | next=>obtain rfl:f=.next:=r';exact ⟨τ,.none,S',W',ft,X,rfl,q'⟩
 | brk=>exact q'.elim
 | cont=>exact q'.elim
 | ret av=>obtain ⟨v,rfl,rv⟩:=r';exact ⟨τ,av,S',W',ft,X,rv,q'⟩
theorem EvA.callL (H:St w B) {x:Str} {p pos:Pos} {fd:FuncData} {e:Expr} {rest:List Expr} {Q:AV→Store→Prop} (hx:(x,.obj (fnO fd))∈loc)
  (h:ArT w B n env (spliced (backTo pos (starEach (e::rest) env))) loc S fun avs S₁=>OpT w B n Mine.callV (.obj (fnO fd)::avs) S₁ Q) (hd:(x==("__debug__":Str))=false:=by decide +kernel)
  (he:starEach (e::rest) env=(false,eval e env)::starEach rest env:=by rfl) :
  EvA w B n env (.Call (.Name x p) (e::rest) [] pos) loc S Q:=.mk fun A σ s E ha W F=>by
 refine wpAny_Call_NameR ?_
 refine let ZZ:Prop:=_;(?_:ZZ)
 obtain ⟨⟨m,hn,hm⟩,ok⟩:=id F
 rcases hm x _ hx with q | ⟨v,hv,⟨a,rfl,g,i,fo⟩⟩
 ·cases q
 have fin:wpAny (model pw w) A (callWith pos (.ref a) [] (backTo pos (starEach (e::rest) env)) []) (Pst B σ s Q) E s:=callWith_def (fd:=fd) rfl (by
  refine h.bind ha W F fun vs s₁ τ av S₁ W₁ f₁ x₁ r₁ h₁=>?_
  have rf:RV (σ++τ) s₁.heap (.obj (fnO fd)) (.ref a):=RV.mono W x₁ (av:=.obj (fnO fd)) ⟨a,rfl,g,i,fo⟩
  refine let ZZ:Prop:=_;(?_:ZZ)
  obtain ⟨a',ea,g',_⟩:=id rf
  cases ea
  exact ⟨g',h₁.last (.ref a::vs) ha W W₁ ⟨rf,r₁⟩ x₁ f₁⟩) he
 rcases hv with ⟨h1,h2⟩ | ⟨h1,c,h2,h3⟩
 ·exact wpAny_Name (wpAny_loadName_local ok.kind h1 hn h2 fin) hd
 ·exact wpAny_Name (wpAny_loadName_cell ok.kind h1 h2 h3 fin) hd
noncomputable def FsT (w:World) (B:Bs) (n:Nat) (env:Env):List Expr→Str→Loc→Store→(Str→Store→Prop)→Prop
 | [],acc,_,S,Q=>Q acc S
 | e::es,acc,loc,S,Q=>EvA w B n env e loc S fun av S₁=>∃ y,av=.str y∧(acc++y).length≤fewItems∧FsT w B n env es (acc++y) loc S₁ Q
theorem fs_joins {E:Value→Shared→Prop} (ha:AOk B n A):∀ (es:List Expr) (acc:Str) (S:Store) (σ:List Addr) (s:Shared) (R:Str→Store→Prop) (Z:Str→Shared→Prop),FsT w B n env es acc loc S R→Wd B σ S s→Fm B σ env loc s.heap →
  (∀ τ S' s' out,Wd B (σ++τ) S' s'→(∀ a∈τ,s.heap.get? a=none)→Ext σ s.heap s'.heap→out.length≤fewItems∨es=[]∧out=acc→R out S'→Z out s')→Joins (model pw w) A E (evalEach es env) acc Z s
 | [],acc,S,σ,s,R,Z,h,W,F,k=>k [] S s acc (by rwa [List.append_nil]) nofun (Ext.refl _ _) (.inr ⟨rfl,rfl⟩) h
 | e::es,acc,S,σ,s,R,Z,h,W,F,k=>by
  refine (show EvA w B n env e loc S fun av S₁=>∃ y,av=.str y∧(acc++y).length≤fewItems∧FsT w B n env es (acc++y) loc S₁ R from h).bind ha W F fun v s₁ τ av S₁ W₁ f₁ x₁ r₁ p=>?_
  obtain ⟨y,rfl,hl,h₁⟩:=p
  obtain ⟨t,rfl⟩:=r₁
  refine ⟨y,t,rfl,Nat.le_trans hl few_line,fs_joins ha es (acc++y) S₁ (σ++τ) s₁ R Z h₁ W₁ (F.mono W τ x₁) fun τ₂ S' s' out W' f' x' hout r'=>?_⟩
  refine k (τ++τ₂) S' s' out (by rw [← List.append_assoc];exact W') (fun a ha=>?_) (x₁.trans x' f₁) (.inl ?_) r'
  ·rcases List.mem_append.mp ha with q | q
   ·exact f₁ a q
   ·exact Ext.new W W₁ x₁ (f' a q)
  ·rcases hout with q | ⟨_,q⟩
   ·exact q
   ·rw [q];exact hl
theorem EvA.joined {e₁ e₂:Expr} {es:List Expr} {pos:Pos} (h:FsT w B n env (e₁::e₂::es) Str.empty loc S fun out S'=>Q (.str out) S'):EvA w B n env (.JoinedStr (e₁::e₂::es) pos) loc S Q:=.mk fun A σ s E ha W F=>by
 refine wpAny_JoinedStr (fs_joins ha _ _ _ σ s _ _ h W F fun τ S' s' out W' f' x' hout q=>?_)
 have hl:out.length≤fewItems:=by rcases hout with q | ⟨q,_⟩;exact q;cases q
 exact ⟨Nat.le_trans hl few_line,τ,.str out,S',W'.same,f',x',⟨_,rfl⟩,q⟩
theorem EvA.fmtS {e:Expr} {pos:Pos} (h:EvA w B n env e loc S fun av S₁=>∃ x,av=.str x∧x.length≤fewItems∧Q (.str x) S₁):EvA w B n env (.FormattedValue e (-1) none pos) loc S Q:=.mk fun A σ s E ha W F=>by
 refine wpAny_FormattedValue_plain (h.bind ha W F fun v s₁ τ av S₁ W₁ f₁ x₁ r₁ p=>?_)
 obtain ⟨x,rfl,hl,q⟩:=p
 obtain ⟨t,rfl⟩:=r₁
 exact wpAny_formatField_str ⟨τ,.str x,S₁,W₁,f₁,x₁,⟨_,rfl⟩,q⟩ ⟨τ,.str x,S₁,W₁.same,f₁,x₁,⟨_,rfl⟩,q⟩ (Nat.le_trans hl few_line)
theorem EvA.fmtI {e:Expr} {pos:Pos} (h:EvA w B n env e loc S fun av S₁=>∃ i:Int,av=.int i∧i.natAbs<1000000∧Q (.str (Str.ofString (toString i))) S₁):EvA w B n env (.FormattedValue e (-1) none pos) loc S Q:=.mk fun A σ s E ha W F=>by
 refine wpAny_FormattedValue_plain (h.bind ha W F fun v s₁ τ av S₁ W₁ f₁ x₁ r₁ p=>?_)
 obtain ⟨i,rfl,hi,q⟩:=p
 obtain ⟨t,rfl⟩:=r₁
 refine wpAny_formatField_int ?_ ⟨τ,.str _,S₁,W₁.same,f₁,x₁,⟨_,rfl⟩,q⟩
 by_cases h0:i.natAbs=0
 ·rw [h0];decide
 ·have:i.natAbs.log2<20:=(Nat.log2_lt h0).mpr (by lia)
  lia
noncomputable def nlBefore (x:Str) (p:Nat):List Nat:=posL x.cps.toList 10 0 p
noncomputable def lineAt (x:Str) (p:Nat):Int:=((nlBefore x p).length:Nat)+1
noncomputable def colAt (x:Str) (p:Nat):Int:=if (nlBefore x p).length=0 then (p:Int)+1 else (p:Int)-(((nlBefore x p).getLast?.getD 0:Nat):Int)
noncomputable def coordS (x:Str) (p:Nat):Str:=Str.empty++Str.ofString "line "++Str.ofString (toString (lineAt x p))++Str.ofString ", column "++Str.ofString (toString (colAt x p))
theorem nl_is:Str.ofString "\n"=⟨#[10]⟩:=by decide +kernel
theorem nlBefore_len (x:Str) (p:Nat):(nlBefore x p).length≤p:=by
 refine Nat.le_trans (List.length_filter_le _ _) ?_
 rw [List.length_range'];exact Nat.le_refl _
theorem nlBefore_lt {x:Str} {p i:Nat} (h:i∈nlBefore x p):i<p:=by
 have:=(List.mem_filter.mp h).1
 have:=List.mem_range'_1.mp this
 lia
noncomputable abbrev tomlO:Obj:=excClassObj (Str.ofString "TOMLDecodeError") (Str.ofString "TOMLDecodeError") 104 103 [.type "ValueError"] [.type "ValueError",.type "Exception",.type "BaseException",.type "object"] true [] [] false none none (some (.ref 95)) none (some (.str (Str.ofString "TOMLDecodeError") 603)) (some (.str (Str.ofString "TOMLDecodeError") 611)) (some (.bool true)) "ValueError.__new__"
theorem o_tomlO (P:Params):(Hp1 P).get? 104=some tomlO:=by kernel_rfl
theorem ns_toml (P:Params):isDictStr (Hp1 P) 103=true:=by kernel_rfl
theorem no_init (P:Params):nsFind (dictOf (Hp1 P) 103) "__init__"=none:=by kernel_rfl
theorem St.tomlNs (H:St w B) (W:Wd B σ S s):s.heap.Ns 103 (nsFind (dictOf (Hp1 w.params) 103)):=ns_of_isDict (ns_toml _) fun _ e=>H.at W e
theorem Wd.madeExc (W:Wd B σ S s) {m:Str} {t:Tok} {h':Heap} {e:Addr} (hm:Heap.MadeExcOf s.heap h' e (.ref 104) [.str m t]):Wd B σ S { s with heap:=h' }∧Ext σ s.heap h'∧∃ a,s.heap.get? e=none∧s.heap.get? a=none∧RV σ h' (.exc m e a) (.ref e):=by
 obtain ⟨a,h1,hn,h2⟩:=hm.there
 exact ⟨W.keeps hm.keeps,Ext.of_keeps hm.keeps,a,hm.new,hn,t,rfl,h1,h2⟩
theorem EvA.callExc (H:St w B) {x:Str} {p pos:Pos} {e:Expr} {Q:AV→Store→Prop} (hv:mgF w.params x=some (.ref 104)) (hx:env.kindOf x=some .globalImplicit)
  (h:EvA w B n env e loc S fun av S₁=>∃ m,av=.str m∧∀ e a,B.heap.get? e=none→B.heap.get? a=none→Q (.exc m e a) S₁) (hd:(x==("__debug__":Str))=false:=by decide +kernel)
  (he:starEach [e] env=(false,eval e env)::starEach [] env:=by rfl) (hplain:(backTo pos (starEach [] env)).any (·.1)=false:=by rfl) :
  EvA w B n env (.Call (.Name x p) [e] [] pos) loc S Q:=.mk fun A σ s E ha W F=>by
 refine wpAny_Call_NameR (Name_function_global F.ok.kind hx (loadGlobal_global (F.ok.glob▸H.main W) hv ?_) hd)
 rw [he]
 unfold callWith
 have h':wpAny (model pw w) A (spliced (backTo pos (starEach [e] env))) (fun vs s₁=>∃ τ S₁ m t,vs=[.str m t]∧Wd B (σ++τ) S₁ s₁∧(∀ a∈τ,s.heap.get? a=none)∧Ext σ s.heap s₁.heap∧∀ e a,B.heap.get? e=none→B.heap.get? a=none→Q (.exc m e a) S₁) E s:=by
  refine args_cons (wpAny_mono (h.run A σ s E ha W F) (fun v s₁ p=>args_nil ?_) fun _ _ e=>e) he
  refine let ZZ:Prop:=_;(?_:ZZ)
  obtain ⟨τ,av,S₁,W₁,f₁,x₁,r₁,m,rfl,q⟩:=p
  obtain ⟨t,rfl⟩:=r₁
  exact ⟨τ,S₁,m,t,rfl,W₁,f₁,x₁,q⟩
 rw [he] at h'
 refine wpAny_bind (wpAny_holding (evalArgs_plain (wpAny_mono h' (fun vs s₁ p=>wpAny_bind (wpAny_standAt ?_)) fun _ _ e=>e)))
 obtain ⟨τ,S₁,m,t,rfl,W₁,f₁,x₁,q⟩:=p
 have hC:=H.at W₁ (o_tomlO _)
 have hN:=H.tomlNs W₁
 obtain ⟨hp,g,d,tk,os⟩:=s₁
 refine wpAny_bind (wpAny_keeperOf_exc hC ?_)
 refine wpAny_bind (wpAny_call_exc_sub PySem.F.excBase_ValueError hC hN (no_init _) fun h' e hm=>wpAny_bind (wpAny_holding (wpAny_point (wpAny_pure ?_))))
 refine let ZZ:Prop:=_;(?_:ZZ)
 obtain ⟨W',X',a,n1,n2,R'⟩:=W₁.madeExc hm
 exact ⟨τ,.exc m e a,S₁,W',f₁,x₁.trans X' f₁,R',q e a (W₁.newB n1) (W₁.newB n2)⟩
noncomputable abbrev sfx (x:Str) (p:Nat) (m:Str):Str:=Str.empty++m++Str.ofString " (at "++coordS x p++Str.ofString ")"
theorem toStr_lenN:∀ i:Nat,i<1001→(Str.ofString (toString (i:Int))).length≤100:=by decide +kernel
theorem toStr_len {i:Int} (h0:0≤i) (h:i<1001):(Str.ofString (toString i)).length≤100:=by
 obtain ⟨k,rfl⟩:=Int.eq_ofNat_of_zero_le h0
 exact toStr_lenN k (by lia)
theorem lineAt_range {x:Str} {p:Nat} (hp:p<1000):0≤lineAt x p∧lineAt x p<1001:=by have:=nlBefore_len x p;unfold lineAt;lia
theorem colAt_range {x:Str} {p:Nat} (hp:p<1000):0≤colAt x p∧colAt x p<1001:=by
 unfold colAt
 split
 ·lia
 ·rename_i h
  cases e:(nlBefore x p).getLast? with
  | none=>rw [List.getLast?_eq_none_iff] at e;rw [e] at h;exact absurd rfl h
  | some i =>
   have:=nlBefore_lt (List.mem_of_getLast? e)
   simp only [Option.getD_some];lia
theorem sapp (a b:Str):(a++b).length=a.length+b.length:=Str.length_append a b
theorem few_of {k:Nat} (h:k≤10000):k≤fewItems:=by unfold fewItems;lia
theorem suffix_w (H:St w B) {x m:Str} {p:Nat} (hx:x.length<500) (hp:p<x.length) (hm:m.length≤200)
  (q:∀ e a,B.heap.get? e=none→B.heap.get? a=none→Q (.exc (sfx x p m) e a) S):OpT w B (n+3) (callD 135) [.str x,.int (p:Int),.str m] S Q:=by
 refine OpT.def H (ps:=["src","pos","msg"]) ["coord_repr"] [("src",.str x),("pos",.int (p:Int)),("msg",.str m),("coord_repr",.unb)] (f_suffixed_err _) (c_suffixed_err _) rfl (all3 fun _ _ _=>by kernel_rfl) (by decide +kernel) (by decide +kernel) (by decide +kernel) (fun L hL H=>?_)
 have hx':x.cps.size<500:=hx
 have k0:Str.empty.length=0:=by decide +kernel
 have k1:(Str.ofString " (at ").length≤20:=by decide +kernel
 have k2:(Str.ofString ")").length≤20:=by decide +kernel
 have k3:(Str.ofString "line ").length≤20:=by decide +kernel
 have k4:(Str.ofString ", column ").length≤20:=by decide +kernel
 obtain ⟨l0,l1⟩:=lineAt_range (x:=x) (p:=p) (by lia)
 obtain ⟨c0,c1⟩:=colAt_range (x:=x) (p:=p) (by lia)
 have kl:=toStr_len l0 l1
 have kc:=toStr_len c0 c1
 have kcs:(coordS x p).length≤300:=by unfold coordS;simp only [sapp];lia
 refine ExA.cons (ExS.defIn H (by walk_at "u") (by kernel_rfl) rfl rfl (by kernel_rfl) (List.mem_cons_self ..) (by decide +kernel) (by kernel_rfl) (by kernel_rfl) (by kernel_rfl) fun pm c'=>?_)
 refine ExA.ret (EvA.callExc H (g_toml _) (by kernel_rfl) (EvA.joined ?_))
 refine EvA.fmtS ?_
 walk_at "s"
 refine ⟨m,rfl,by unfold fewItems;lia,m,rfl,few_of (by simp only [sapp];lia),?_⟩
 show EvA w _ _ _ _ _ _ _
 walk_at "s"
 refine ⟨_,rfl,few_of (by simp only [sapp];lia),?_⟩
 show EvA w _ _ _ _ _ _ _
 refine EvA.fmtS (EvA.callL H (by walk_at "e") ?_)
 walk_at "s"
 refine OpT.fn H (ps:=["src","pos"]) ["line","column"] [("src",.str x),("pos",.int (p:Int)),("line",.unb),("column",.unb)] rfl (all2 fun _ _=>by kernel_rfl) (by decide +kernel) (by decide +kernel) (by decide +kernel) (fun L fa hL H=>?_)
 ·have hnl:Str.ofString "\n"=⟨#[10]⟩:=nl_is
  refine ExA.ite (TsA.cmp ?_)
  walk_at "s"
  refine EvA.callB H (n_len _) (b_len _) (by kernel_rfl) ?_
  walk_at "s"
  refine OpT.lenS (by unfold fewItems;lia) ?_
  refine OpT.geI (TrT.bool ?_)
  refine ifN (by simp;omega) ?_
  refine ExA.nil ?_
  refine ExA.assign (by walk_at "u") (EvA.bin (EvA.meth (T:="str") (id:="str.count") ?_ PySem.F.plainAttrs_str PySem.F.slot_str_count PySem.F.type_str_count))
  walk_at "s"
  refine ⟨rfl,?_⟩
  walk_at "s"
  refine OpT.count4 (lo:=0) (hi:=p) (by lia) ?_
  walk_at "s"
  show ExA w _ _ _ _ [("src",.str x),("pos",.int (p:Int)),("line",.int (lineAt x p)),("column",.unb)] _ _
  let J:Loc→Store→Prop:=fun loc₂ S₂=>loc₂=([("src",.str x),("pos",.int (p:Int)),("line",.int (lineAt x p)),("column",.int (colAt x p))]:Loc)∧S₂=S
  refine ExA.seq J ?_ ?_
  ·refine ExS.ite (TsA.cmp ?_)
   walk_at "s"
   refine OpT.eqI (TrT.bool ?_)
   by_cases h1:(nlBefore x p).length=0
   ·refine ifP (by unfold lineAt;rw [h1];rfl) ?_
    refine ExA.assign (by walk_at "u") ?_
    walk_at "s"
    refine ExA.nil ⟨?_,rfl⟩
    unfold colAt;rw [if_pos h1]
   ·refine ifN (by unfold lineAt;simp;lia) ?_
    refine ExA.assign (by walk_at "u") ?_
    walk_at "s"
    refine EvA.meth (T:="str") (id:="str.rindex") ?_ PySem.F.plainAttrs_str PySem.F.slot_str_rindex PySem.F.type_str_rindex
    walk_at "s"
    refine ⟨rfl,?_⟩
    walk_at "s"
    obtain ⟨i,hi⟩:∃ i,(nlBefore x p).getLast?=some i:=by
     cases e:(nlBefore x p).getLast? with
     | none=>rw [List.getLast?_eq_none_iff] at e;rw [e] at h1;exact absurd rfl h1
     | some i=>exact ⟨i,rfl⟩
    refine OpT.rindex4 (lo:=0) (hi:=p) (i:=i) (by lia) hi ?_
    walk_at "s"
    refine ExA.nil ⟨?_,rfl⟩
    unfold colAt;rw [if_neg h1,hi];rfl
  ·rintro loc₂ S₂ ⟨rfl,rfl⟩
   refine ExA.ret (EvA.joined ?_)
   show EvA w _ _ _ _ _ _ _
   walk_at "s"
   refine ⟨_,rfl,few_of (by simp only [sapp];lia),?_⟩
   show EvA w _ _ _ _ _ _ _
   refine EvA.fmtI ?_
   walk_at "s"
   refine ⟨lineAt x p,rfl,by lia,_,rfl,few_of (by simp only [sapp];lia),?_⟩
   show EvA w _ _ _ _ _ _ _
   walk_at "s"
   refine ⟨_,rfl,few_of (by simp only [sapp];lia),?_⟩
   show EvA w _ _ _ _ _ _ _
   refine EvA.fmtI ?_
   walk_at "s"
   refine ⟨colAt x p,rfl,by lia,_,rfl,few_of (by simp only [sapp];lia),?_⟩
   show ∃ y,AV.str (coordS x p)=AV.str y∧_
   refine ⟨_,rfl,few_of (by lia),_,rfl,few_of (by simp only [sapp];lia),?_⟩
   show EvA w _ _ _ _ _ _ _
   walk_at "s"
   refine ⟨_,rfl,few_of (by simp only [sapp];lia),?_⟩
   exact ⟨_,rfl,q⟩
end
section
variable {w:World} {B:Bs} {n:Nat} {env:Env} {loc:Loc} {S:Store} {σ:List Addr} {s:Shared} {A:Around} {Q:AV→Store→Prop} {K:AF→Loc→Store→Prop} {rest:List Stmt}
noncomputable def wout (h:Heap) (l:List Addr):Heap:=l.foldl (fun h a=>h.update a fun o=>{ o with data:=.freed }) h
theorem upd_freed (h:Heap) (a:Addr):(h.update a fun o=>{ o with data:=.freed }).get? a=none:=by
 cases e:(h.update a fun o=>{ o with data:=.freed }).get? a with
 | none=>rfl
 | some o =>
  obtain ⟨e1,e2⟩:=Heap.get?_some_iff.mp e
  obtain ⟨objs,l⟩:=h
  simp only [Heap.update,Array.getElem?_modify,if_true] at e1
  cases q:objs[a]? with
  | none=>rw [q] at e1;cases e1
  | some o'=>rw [q] at e1;cases e1;cases e2
theorem wout_out:∀ (l:List Addr) (h:Heap) {a:Addr},a∉l→(wout h l).get? a=h.get? a
 | [],_,_,_=>rfl
 | b::r,h,a,q=>by
  show (wout (h.update b _) r).get? a=_
  rw [wout_out r _ (fun m=>q (List.mem_cons_of_mem _ m)),Heap.get?_update_other _ _ (by rintro rfl;exact q List.mem_cons_self)]
theorem wout_in:∀ (l:List Addr) (h:Heap) {a:Addr},a∈l→(wout h l).get? a=none
 | [],_,_,q=>absurd q List.not_mem_nil
 | b::r,h,a,q=>by
  show (wout (h.update b _) r).get? a=_
  by_cases m:a∈r
  ·exact wout_in r _ m
  ·rw [wout_out r _ m]
   rcases List.mem_cons.mp q with q | q
   ·subst q;exact upd_freed h a
   ·exact absurd q m
theorem wout_some {l:List Addr} {h:Heap} {a:Addr} {o:Obj} (e:(wout h l).get? a=some o):a∉l∧h.get? a=some o:=by
 by_cases m:a∈l
 ·exact nos (wout_in l h m) e
 ·rw [wout_out l h m] at e;exact ⟨m,e⟩
noncomputable abbrev Bs.at (B:Bs) (h:Heap) (σ:List Addr) (env:Env):Bs:=⟨wout h (σ++env.locals::B.fr.filterMap (·.frame)),B.os,B.fr⟩
theorem AOk.at {h:Heap} {σ:List Addr} (ha:AOk B n A):AOk (B.at h σ env) n A:=⟨ha.handled,ha.depth,ha.units,ha.guards,ha.frames⟩
theorem Wd.at (W:Wd B σ S s):Wd (B.at s.heap σ env) σ S s :=
 ⟨W.len,W.nodup,fun a m=>wout_in _ _ (List.mem_append_left _ m),W.lists,fun a o e _ _=>(wout_some e).2,W.tabs,W.gens,W.os,fun e me=>by
  obtain ⟨h1,L,o,es,ep,h2,_,h4,h5⟩:=W.frs e me
  exact ⟨h1,L,o,es,ep,h2,wout_in _ _ (List.mem_append_right _ (List.mem_cons_of_mem _ (List.mem_filterMap.mpr ⟨e,me,h2⟩))),h4,h5⟩⟩
theorem Fm.at (F:Fm B σ env loc s.heap):Fm (B.at s.heap σ env) σ env loc s.heap :=
 ⟨F.ns,⟨F.ok.nodup,F.ok.kind,F.ok.glob,F.ok.blt,wout_in _ _ (List.mem_append_right _ List.mem_cons_self)⟩⟩
theorem Wd.at_kept (W:Wd B σ S s) (hb:B.heap.get? env.locals=none) {a:Addr} {o:Obj} (e:B.heap.get? a=some o) (h5:a≠50) (h13:a≠130):(B.at s.heap σ env).heap.get? a=some o:=by
 rw [wout_out]
 ·exact W.kept a o e h5 h13
 ·rw [List.mem_append,List.mem_cons]
  rintro (q | rfl | q)
  ·exact nos (W.fresh a q) e
  ·exact nos hb e
  ·obtain ⟨ev,me,q⟩:=List.mem_filterMap.mp q
   obtain ⟨_,L,_,_,_,h2,h3,_⟩:=W.frs ev me
   rw [q] at h2;cases h2;exact nos h3 e
theorem St.atB (H:St w B) (W:Wd B σ S s) (hb:B.heap.get? env.locals=none):St w (B.at s.heap σ env):=⟨fun a o e h5 h13=>W.at_kept hb (H.yp a o e h5 h13) h5 h13⟩
theorem Wd.un {τ:List Addr} {S':Store} {s':Shared} (W:Wd B σ S s) (hb:B.heap.get? env.locals=none) (W':Wd (B.at s.heap σ env) (σ++τ) S' s') (f:∀ a∈τ,s.heap.get? a=none):Wd B (σ++τ) S' s' :=
 ⟨W'.len,W'.nodup,fun a m=>by
  rcases List.mem_append.mp m with q | q
  ·exact W.fresh a q
  ·exact W.newB (f a q),W'.lists,fun a o e h5 h13=>W'.kept a o (W.at_kept hb e h5 h13) h5 h13,W'.tabs,W'.gens,W'.os,fun ev me=>by
  refine let ZZ:Prop:=_;(?_:ZZ)
  obtain ⟨h1,L,o,es,ep,h2,_,h4,h5⟩:=W'.frs ev me
  refine let ZZ:Prop:=_;(?_:ZZ)
  obtain ⟨_,L',_,_,_,g2,g3,_⟩:=W.frs ev me
  rw [h2] at g2;cases g2
  exact ⟨h1,L,o,es,ep,h2,g3,h4,h5⟩⟩
theorem Wd.at_new {τ:List Addr} {S':Store} {s':Shared} {loc':Loc} (W:Wd B σ S s) (W':Wd (B.at s.heap σ env) (σ++τ) S' s') (F':Fm (B.at s.heap σ env) (σ++τ) env loc' s'.heap) {x:Addr} {o:Obj} (e:s'.heap.get? x=some o) (hd:∃ vs,o.data=.fields vs)
  (hn:(B.at s.heap σ env).heap.get? x=none):s.heap.get? x=none:=by
 obtain ⟨vs,hd⟩:=hd
 cases q:s.heap.get? x with
 | none=>rfl
 | some o' =>
  exfalso
  by_cases m:x∈σ++env.locals::B.fr.filterMap (·.frame)
  ·rw [List.mem_append,List.mem_cons] at m
   rcases m with m | rfl | m
   ·obtain ⟨us,k,e'⟩:=W'.listAt (List.mem_append_left _ m)
    rw [e] at e';cases e';cases hd
   ·obtain ⟨_,⟨o₂,_,_,e₂,d₂,_⟩,_⟩:=F'.ns
    rw [e] at e₂;cases e₂;rw [hd] at d₂;cases d₂
   ·obtain ⟨ev,me,q'⟩:=List.mem_filterMap.mp m
    obtain ⟨_,L,o₂,_,_,h2,_,h4,h5⟩:=W'.frs ev me
    rw [q'] at h2;cases h2
    rw [e] at h4;cases h4;rw [hd] at h5;cases h5
  ·rw [show (B.at s.heap σ env).heap.get? x=s.heap.get? x from wout_out _ _ m,q] at hn;cases hn
inductive PstM (B:Bs) (σ:List Addr) (env:Env) (s:Shared) (X:Str→Store→Prop) (v:Value) (s':Shared):Prop
 | mk (τ:List Addr) (loc':Loc) (S':Store) (m:Str) (e a:Addr) (tk:Tok) (hv:v=.ref e) (W:Wd B (σ++τ) S' s') (f:∀ a∈τ,s.heap.get? a=none) (x:ExtF σ env.locals s.heap s'.heap) (F:Fm B (σ++τ) env loc' s'.heap) (h1:s'.heap.get? e=some (excO a)) (h2:s'.heap.get? a=some (tupO [.str m tk])) (h3:s.heap.get? e=none) (q:X m S')
theorem PstM.back {loc₁:Loc} {τ:List Addr} {S₁:Store} {s₁:Shared} {X:Str→Store→Prop} {v:Value} {s':Shared} (W₁:Wd B (σ++τ) S₁ s₁) (F₁:Fm B (σ++τ) env loc₁ s₁.heap)
  (x:ExtF σ env.locals s.heap s₁.heap) (hf:∀ a∈τ,s.heap.get? a=none) (p:PstM B (σ++τ) env s₁ X v s'):PstM B σ env s X v s':=by
 obtain ⟨τ',loc',S',m,e,a,tk,rfl,W',f',x',F',r1,r2,r3,q'⟩:=p
 refine ⟨τ++τ',loc',S',m,e,a,tk,rfl,by rw [← List.append_assoc];exact W',fun a ha=>?_,x.trans x' hf,by rw [← List.append_assoc];exact F',r1,r2,ExtF.new W₁ x F₁.live r3,q'⟩
 rcases List.mem_append.mp ha with q | q
 ·exact hf a q
 ·exact ExtF.new W₁ x F₁.live (f' a q)
structure ExX (w:World) (B:Bs) (n:Nat) (env:Env) (t:Sem Flow) (loc:Loc) (S:Store) (Q:AF→Loc→Store→Prop) (X:Str→Store→Prop):Prop where
 run:∀ A σ s,AOk B n A→Wd B σ S s→Fm B σ env loc s.heap→wpAny (model pw w) A t (PstF B σ env s Q) (PstM B σ env s X) s
variable {X:Str→Store→Prop}
theorem ExX.of {t:Sem Flow} (h:ExT w B n env t loc S K):ExX w B n env t loc S K X:=.mk fun A σ s ha W F=>h.run A σ s _ ha W F
theorem ExX.cons {st:Stmt} (h:ExS w B n env st loc S fun af loc₁ S₁=>match af with | .next=>ExX w B n env (execs rest env) loc₁ S₁ K X | af=>K af loc₁ S₁):ExX w B n env (execs (st::rest) env) loc S K X:=.mk fun A σ s ha W F=>by
 refine wpAny_execs_cons (h.bind ha W F fun f s₁ τ af loc₁ S₁ W₁ f₁ x₁ F₁ r₁ h₁=>?_)
 cases af with
 | next=>obtain rfl:f=.next:=r₁;exact wpAny_mono (h₁.run A _ s₁ ha W₁ F₁) (fun c s₃ p=>p.back F.live W₁ F₁ x₁ f₁) fun _ _ p=>p.back W₁ F₁ x₁ f₁
 | brk=>obtain rfl:f=.brk:=r₁;exact ⟨τ,.brk,loc₁,S₁,W₁,f₁,x₁,F₁,rfl,h₁⟩
 | cont=>obtain rfl:f=.cont:=r₁;exact ⟨τ,.cont,loc₁,S₁,W₁,f₁,x₁,F₁,rfl,h₁⟩
 | ret av=>obtain ⟨v,rfl,r⟩:=r₁;exact ⟨τ,.ret av,loc₁,S₁,W₁,f₁,x₁,F₁,⟨v,rfl,r⟩,h₁⟩
theorem ExX.consX {st:Stmt} (h:ExX w B n env (exec st env) loc S (fun af loc₁ S₁=>match af with | .next=>ExX w B n env (execs rest env) loc₁ S₁ K X | af=>K af loc₁ S₁) X):ExX w B n env (execs (st::rest) env) loc S K X:=.mk fun A σ s ha W F=>by
 refine wpAny_execs_cons (wpAny_mono (h.run A σ s ha W F) (fun f s₁ p=>?_) fun _ _ e=>e)
 obtain ⟨τ,af,loc₁,S₁,W₁,f₁,x₁,F₁,r₁,h₁⟩:=p
 cases af with
 | next=>obtain rfl:f=.next:=r₁;exact wpAny_mono (h₁.run A _ s₁ ha W₁ F₁) (fun c s₃ p=>p.back F.live W₁ F₁ x₁ f₁) fun _ _ p=>p.back W₁ F₁ x₁ f₁
 | brk=>obtain rfl:f=.brk:=r₁;exact ⟨τ,.brk,loc₁,S₁,W₁,f₁,x₁,F₁,rfl,h₁⟩
 | cont=>obtain rfl:f=.cont:=r₁;exact ⟨τ,.cont,loc₁,S₁,W₁,f₁,x₁,F₁,rfl,h₁⟩
 | ret av=>obtain ⟨v,rfl,r⟩:=r₁;exact ⟨τ,.ret av,loc₁,S₁,W₁,f₁,x₁,F₁,⟨v,rfl,r⟩,h₁⟩
theorem ExX.ite {test:Expr} {body orelse:List Stmt} {pos:Pos}
  (h:TsA w B n env test loc S fun b S₁=>if b=true then ExX w B n env (execs body env) loc S₁ K X else ExX w B n env (execs orelse env) loc S₁ K X):ExX w B n env (exec (.If test body orelse pos) env) loc S K X:=.mk fun A σ s ha W F=>by
 refine wpAny_If (h.bind ha W F fun b s₁ τ S₁ W₁ f₁ x₁ h₁=>?_)
 cases b
 ·exact wpAny_mono (h₁.run A _ s₁ ha W₁ (F.mono W τ x₁)) (fun _ s' p=>p.back F.live W₁ (F.mono W τ x₁) x₁.toF f₁) fun _ _ p=>p.back W₁ (F.mono W τ x₁) x₁.toF f₁
 ·exact wpAny_mono (h₁.run A _ s₁ ha W₁ (F.mono W τ x₁)) (fun _ s' p=>p.back F.live W₁ (F.mono W τ x₁) x₁.toF f₁) fun _ _ p=>p.back W₁ (F.mono W τ x₁) x₁.toF f₁
theorem ExX.raise (H:St w B) {e:Expr} {pos:Pos} (h:∀ B':Bs,St w B'→EvA w B' n env e loc S fun av S₁=>∃ m x a,av=.exc m x a∧B'.heap.get? x=none∧X m S₁):ExX w B n env (exec (.Raise (some e) none pos) env) loc S K X:=.mk fun A σ s ha W F=>by
 have W':Wd (B.at s.heap σ env) σ S s:=W.at
 have H':St w (B.at s.heap σ env):=H.atB W F.ok.big
 have F':=F.at (s:=s)
 refine wpAny_bind (wpAny_standAt (wpAny_raiseStmt_made_sub (C:=104) (nm:=Str.ofString "TOMLDecodeError") (q:=Str.ofString "TOMLDecodeError") (N:=103) (bs:=[.type "ValueError"]) (bm:=[.type "ValueError",.type "Exception",.type "BaseException",.type "object"]) (hdct:=true) (sn:=[]) (sub:=[]) (ab:=false) (col:=none) (dd:=none) (k0:=some (.ref 95)) (k1:=none) (k2:=some (.str (Str.ofString "TOMLDecodeError") 603)) (k3:=some (.str (Str.ofString "TOMLDecodeError") 611)) (k5:=some (.bool true)) (newId:="ValueError.__new__") (by decide +kernel) ha.handled (wpAny_bind (wpAny_mono ((h _ H').run A σ s (PstM B σ env s X) ha.at W' F') (fun v s₁ p=>wpAny_bind (wpAny_standAt (wpAny_pure ?_))) fun _ _ e=>e))))
 refine let ZZ:Prop:=_;(?_:ZZ)
 obtain ⟨τ,av,S₁,W₁,f₁,x₁,r₁,m,x,a,rfl,hn,q⟩:=p
 obtain ⟨tk,rfl,g1,g2⟩:=r₁
 have F₁:=F'.mono W' τ x₁
 refine ⟨x,a,rfl,H'.at W₁ (o_tomlO _),g1,τ,loc,S₁,m,x,a,tk,rfl,W.un F.ok.big W₁ f₁,f₁,x₁.toF,F.mono W τ x₁,g1,g2,W.at_new W₁ F₁ g1 ⟨_,rfl⟩ hn,q⟩
end
section
variable {w:World} {B:Bs} {n:Nat} {env:Env} {loc:Loc} {S:Store} {σ:List Addr} {s:Shared} {A:Around} {Q:AV→Store→Prop} {K:AF→Loc→Store→Prop} {rest:List Stmt}
structure Air (B:Bs) (base h₁ h:Heap) (e t:Addr) (m:Str) (tk:Tok):Prop where
 cover:∀ a o,h₁.get? a=some o→a≠e→(nsO o=false∨B.heap.get? a=some o)→base.get? a=some o
 stays:base.StaysIn h
 upto:h₁.UpToSlots h
 exc:h₁.get? e=some (excO t)
 tup:base.get? t=some (tupO [.str m tk])
theorem Air.on {base h₁ h h':Heap} {e t:Addr} {m:Str} {tk:Tok} (x:Air B base h₁ h e t m tk) (k:base.StaysIn h') (u:h.UpToSlots h'):Air B base h₁ h' e t m tk :=
 ⟨x.cover,k,x.upto.trans u,x.exc,x.tup⟩
theorem Air.keep {base h₁ h:Heap} {e t:Addr} {m:Str} {tk:Tok} (x:Air B base h₁ h e t m tk) {a:Addr} {o:Obj} (g:h₁.get? a=some o) (hn:nsO o=false) (hc:o.cls≠.ref 104):h.get? a=some o :=
 x.stays _ _ (x.cover a o g (by rintro rfl;rw [x.exc] at g;cases g;exact hc rfl) (.inl hn))
noncomputable def plainA:AV→Prop
 | .exc _ _ _=>False
 | .obj o=>o.cls≠.ref 104
 | _=>True
noncomputable def PlainS (S:Store):Prop:=∀ l∈S,∀ av∈l,plainA av
noncomputable def PlainL (loc:Loc):Prop:=∀ x av,(x,av)∈loc→plainA av
theorem Code1.keepC {h h':Heap} {c:Addr} {q:Str} (x:Code1 h c q) (k:∀ a o vs,h.get? a=some o→o.cls=.type "code"→o.data=.fields vs→h'.get? a=some o):Code1 h' c q :=
 let ⟨o,vs,t,h1,h2,h3,h4⟩:=x;⟨o,vs,t,k _ _ _ h1 h2 h3,h2,h3,h4⟩
theorem Tab1.keepC {h h':Heap} {c P:Addr} {qs:List (Pos×Str)} (x:Tab1 h c P qs) (k:∀ a o vs,h.get? a=some o→o.cls=.type "code"→o.data=.fields vs→h'.get? a=some o) (kP:∀ o,h.get? P=some o→h'.get? P=some o):Tab1 h' c P qs:=by
 refine let ZZ:Prop:=_;(?_:ZZ)
 obtain ⟨ps,⟨o,vs,file,tf,flags,tg,inF,text,tt,op,h1,h2,h3,h4,h5,h6,h7,h8,h9⟩,⟨⟨o2,vs2,g1,g2,g3,g4⟩,g5⟩,hq⟩:=x
 have hc:=k _ _ _ g1 g2 g3
 have e:o2=o:=Option.some.inj (g1.symm.trans h1)
 subst e
 refine ⟨ps,⟨o2,vs,file,tf,flags,tg,inF,text,tt,op,hc,h2,h3,h4,h5,h6,h7,kP _ h8,h9⟩,⟨⟨o2,vs2,hc,g2,g3,g4⟩,kP _ g5⟩,fun q m=>?_⟩
 rcases hq q m with e | ⟨c',e,o',vs',t',q1,q2,q3,q4⟩
 ·exact .inl e
 ·exact .inr ⟨c',e,o',vs',t',k _ _ _ q1 q2 q3,q2,q3,q4⟩
theorem code_of {o:Obj} (h:o.cls=.type "code") {vs} (hd:o.data=.fields vs):nsO o=false∧o.cls≠.ref 104:=⟨nsO_fields hd,by rw [h];nofun⟩
theorem Air.code {base h₁ h:Heap} {e t:Addr} {m:Str} {tk:Tok} (x:Air B base h₁ h e t m tk) (a:Addr) (o:Obj) (vs:Array Value) (g:h₁.get? a=some o) (h1:o.cls=.type "code") (h2:o.data=.fields vs):h.get? a=some o :=
 x.keep g (code_of h1 h2).1 (code_of h1 h2).2
theorem Air.rv {base h₁ h:Heap} {e t:Addr} {m:Str} {tk:Tok} (x:Air B base h₁ h e t m tk) {av:AV} {v:Value} (hp:plainA av) (r:RV σ h₁ av v):RV σ h av v:=by
 cases av with
 | sc c=>exact r
 | tup l=>obtain ⟨a,vs,e,g,y⟩:=r;exact ⟨a,vs,e,x.keep g rfl nofun,y⟩
 | lst i=>exact r
 | val u=>exact r
 | obj o=>obtain ⟨a,e,g,i,f⟩:=r;exact ⟨a,e,x.keep g (nsO_imm i) hp,i,fun fd c q1 q2=>(f fd c q1 q2).keepC x.code⟩
 | exc m x b=>exact hp.elim
 | bm i=>obtain ⟨b,a,e,e2,g⟩:=r;exact ⟨b,a,e,e2,x.keep g rfl nofun⟩
 | unb=>exact r
theorem Air.tb {base h₁ h:Heap} {e t P:Addr} {m:Str} {tk:Tok} {o:Obj} (x:Air B base h₁ h e t m tk) (g:h₁.get? P=some o) (ht:∃ ps,h₁.get? P=some { cls:=.none,data:=.fields ps }):h.get? P=some o:=by
 obtain ⟨ps,q⟩:=ht
 obtain rfl:o={ cls:=.none,data:=.fields ps }:=Option.some.inj (g.symm.trans q)
 exact x.keep q rfl nofun
theorem Air.tbs {base h₁ h:Heap} {e t P:Addr} {m:Str} {tk:Tok} (x:Air B base h₁ h e t m tk) (ht:∃ ps,h₁.get? P=some { cls:=.none,data:=.fields ps }):∀ o,h₁.get? P=some o→h.get? P=some o:=fun o g=>x.tb g ht
theorem Air.tab {base h₁ h:Heap} {e t:Addr} {m:Str} {tk:Tok} (x:Air B base h₁ h e t m tk) (T:Tb h₁):Tb h:=by
 have h50:=T.a50.t
 have h130:=T.a130.t
 have g50:=x.tbs h50
 have g130:=x.tbs h130
 exact ⟨Tab1.keepC T.a50 x.code g50,Tab1.keepC T.a130 x.code g130⟩
theorem PlainL.nil:PlainL []:=fun _ _ h=>absurd h List.not_mem_nil
theorem All2.monoP {α β:Type} {R R':α→β→Prop} {P:α→Prop} (k:∀ a b,P a→R a b→R' a b) {l:List α} {m:List β} (p:∀ a∈l,P a) (h:All2 R l m):All2 R' l m :=
 All2.ind (P:=fun l m=>(∀ a∈l,P a)→All2 R' l m) (fun _=>trivial) (fun a b l m r _ q p=>⟨k _ _ (p _ List.mem_cons_self) r,q fun a h=>p a (List.mem_cons_of_mem _ h)⟩) h p
theorem Air.wd {base h₁ h:Heap} {e t:Addr} {m:Str} {tk:Tok} (x:Air B base h₁ h e t m tk) (W:Wd B σ S { s with heap:=h₁ }) (hS:PlainS S) (hb:B.heap.get? e=none):Wd B σ S { s with heap:=h } :=
 ⟨W.len,W.nodup,W.fresh,fun i l q=>by
  obtain ⟨a,vs,h1,⟨k,h2⟩,h3⟩:=W.lists i l q
  exact ⟨a,vs,h1,⟨k,x.keep h2 rfl nofun⟩,All2.monoP (R:=RV σ h₁) (R':=RV σ h) (P:=plainA) (fun _ _ p r=>x.rv p r) (hS l (List.mem_of_getElem? q)) h3⟩,
 fun a o q h5 h13=>x.stays _ _ (x.cover a o (W.kept a o q h5 h13) (gne q hb) (.inr q)),x.tab W.tabs,W.gens,W.os,
 W.frs.keep fun a o q n=>by
  obtain ⟨sl,q'⟩:=x.upto a o q (fun vs d=>by unfold nsO at n;rw [d] at n;cases n)
  exact ⟨_,q',n⟩⟩
theorem Air.ext {base h₀ h₁ h:Heap} {e t L:Addr} {m:Str} {tk:Tok} (x:Air B base h₁ h e t m tk) (X:ExtF σ L h₀ h₁) (hn:h₀.get? e=none):ExtF σ L h₀ h :=
 ⟨fun a o q h1 hL h5 h13=>by
  obtain ⟨o',g,r⟩:=X.keep a o q h1 hL h5 h13
  by_cases n:nsO o'=true
  ·obtain ⟨sl,q'⟩:=x.upto a o' g (fun vs d=>by unfold nsO at n;rw [d] at n;cases n)
   exact ⟨_,q',r.trans ⟨⟨sl,rfl⟩,fun n'=>by rw [n] at n';cases n'⟩⟩
  ·exact ⟨o',x.stays _ _ (x.cover a o' g (gne q hn) (.inl (by simpa using n))),r⟩⟩
theorem Air.fm {base h₁ h:Heap} {e t:Addr} {m:Str} {tk:Tok} (x:Air B base h₁ h e t m tk) (F:Fm B σ env loc h₁) (hL:PlainL loc):Fm B σ env loc h:=by
 obtain ⟨⟨g,hn,hm⟩,ok⟩:=F
 refine ⟨⟨g,x.upto.ns hn,fun y av hy=>?_⟩,ok⟩
 rcases hm y av hy with q | ⟨v,hv,r⟩
 ·exact .inl q
 ·refine .inr ⟨v,?_,x.rv (hL y av hy) r⟩
  rcases hv with q | ⟨h1,c,h2,o,h3,h4⟩
  ·exact .inl q
  ·refine .inr ⟨h1,c,h2,o,x.stays _ _ (x.cover c o h3 ?_ (.inl (nsO_cell h4))),h4⟩
   rintro rfl
   rw [x.exc] at h3;cases h3;cases h4
theorem frames_of {b h:Heap}:∀ {l:List Env},Frs b h l→∀ {base:Heap},(∀ a∈l.filterMap (·.frame),base.get? a=none)→h.FunFrames base l
 | [],_,_,_=>trivial
 | ev::r,x,base,k=>by
  obtain ⟨h1,L,o,es,ep,h2,h3,h4,h5⟩:=x ev List.mem_cons_self
  refine ⟨h1,⟨L,o,h2,k L (List.mem_filterMap.mpr ⟨ev,List.mem_cons_self,h2⟩),h4,fun vs q=>by rw [h5] at q;cases q⟩,frames_of (fun e m=>x e (List.mem_cons_of_mem _ m)) fun a m=>k a ?_⟩
  obtain ⟨ev',m',q⟩:=List.mem_filterMap.mp m
  exact List.mem_filterMap.mpr ⟨ev',List.mem_cons_of_mem _ m',q⟩
inductive PstY (B:Bs) (σ:List Addr) (s:Shared) (X:Str→Store→Prop) (v:Value) (s':Shared):Prop
 | mk (τ:List Addr) (S':Store) (m:Str) (e t:Addr) (tk:Tok) (h₁ base:Heap) (hv:v=.ref e) (W:Wd B (σ++τ) S' { s' with heap:=h₁ }) (f:∀ a∈τ,s.heap.get? a=none) (x:Ext σ s.heap h₁) (hn:s.heap.get? e=none) (i:Air B base h₁ s'.heap e t m tk) (fl:Heap.FlyingW base B.fr e (.ref 104) (.ref t) s'.heap) (q:X m S')
structure OpX (w:World) (B:Bs) (n:Nat) (f:List Value→Sem Value) (avs:List AV) (S:Store) (Q:AV→Store→Prop) (X:Str→Store→Prop):Prop where
 run:∀ A σ s vs,AOk B n A→Wd B σ S s→All2 (RV σ s.heap) avs vs→wpAny (model pw w) A (f vs) (Pst B σ s Q) (PstY B σ s X) s
variable {X:Str→Store→Prop}
theorem leave_made {L:Addr} {v:Value} {s':Shared} {R:Unit→Shared→Prop} {E:Value→Shared→Prop} (hfr:A.frames=some (env::B.fr)) (hf:env.frame=some L)
  (p:PstM (B.into env) σ env s X v s')
  (k:∀ h' τ loc' S' m e a tk base,v=.ref e→Wd (B.into env) (σ++τ) S' s'→(∀ a∈τ,s.heap.get? a=none)→ExtF σ env.locals s.heap s'.heap→Fm (B.into env) (σ++τ) env loc' s'.heap→s.heap.get? e=none→Air B base s'.heap h' e a m tk→Heap.FlyingW base B.fr e (.ref 104) (.ref a) h'→X m S'→R () { s' with heap:=h' }) :
  wpAny (model pw w) A («leaving» env v) R E s':=by
 obtain ⟨τ,loc',S',m,e,a,tk,rfl,W',f',x',F',r1,r2,r3,q'⟩:=p
 have hne:e∉(env::B.fr).filterMap (·.frame):=fun hm=>by
  obtain ⟨ev,me,q⟩:=List.mem_filterMap.mp hm
  obtain ⟨_,L',o,es,ep,h2,_,h4,h5⟩:=W'.frs ev me
  rw [q] at h2;cases h2
  rw [r1] at h4;cases h4;cases h5
 have hout:∀ b o,s'.heap.get? b=some o→b≠e→(nsO o=false∨B.heap.get? b=some o)→(wout s'.heap (e::(env::B.fr).filterMap (·.frame))).get? b=some o:=fun b o g hb hc=>by
  rw [wout_out _ _ ?_];exact g
  rw [List.mem_cons]
  rintro (q | q)
  ·exact hb q
  ·obtain ⟨ev,me,q⟩:=List.mem_filterMap.mp q
   obtain ⟨_,L',o',es,ep,h2,h3,h4,h5⟩:=W'.frs ev me
   rw [q] at h2;cases h2
   rw [g] at h4;cases h4
   rcases hc with hc | hc
   ·unfold nsO at hc;rw [h5] at hc;cases hc
   ·rw [show B.heap.get? b=none from h3] at hc;cases hc
 refine wpAny_leaving_firstW (base:=wout s'.heap (e::(env::B.fr).filterMap (·.frame))) (a0:=.ref a) hfr (frames_of W'.frs fun b m=>wout_in _ _ (List.mem_cons_of_mem _ m)) hf r1 (fun b o g=>(wout_some g).2) (wout_in _ _ List.mem_cons_self) rfl rfl rfl fun h' hL=>?_
 refine let ZZ:Prop:=_;(?_:ZZ)
 obtain ⟨k1,⟨_,_,k2⟩,k3,k4⟩:=hL
 exact k h' τ loc' S' m e a tk _ rfl W' f' x' F' r3 ⟨hout,k1,k4,r1,hout a _ r2 (by rintro rfl;rw [r1] at r2;cases r2) (.inl rfl)⟩ ⟨k1,wout_in _ _ List.mem_cons_self,k2,k3⟩ q'
end
section
variable {w:World} {B:Bs} {n:Nat} {env:Env} {loc:Loc} {S:Store} {σ:List Addr} {s:Shared} {A:Around} {Q:AV→Store→Prop} {K:AF→Loc→Store→Prop} {rest:List Stmt}
variable {X:Str→Store→Prop}
theorem OpX.def (H:St w B) {fa c i:Nat} {nm:Str} {pm:Value} {ps:List Str} (ls:List Str) {avs:List AV} {Q:AV→Store→Prop} (loc₀:Loc)
  (hf:(Hp1 w.params).get? fa=some ⟨.type "function",none,.func (fdOf i nm c pm),#[]⟩)
  (hc:∃ vs t,(Hp1 w.params).get? c=some ⟨.type "code",none,.fields vs,#[]⟩∧vs[1]?=some (.str nm t))
  (hlen:ps.length=avs.length)
  (hbind:∀ vs:List Value,vs.length=ps.length→bindArgs (fdOf i nm c pm) ⟨vs,[]⟩=pure (ps.zip vs))
  (hnd:(ps++ls).Nodup)
  (hcell:∀ x∈(fnS i).names,x.2≠.cell) (hloc:∀ x∈ps,(fnS i).names.lookup x=some .local)
  (h:∀ L,B.heap.get? L=none→St w (B.into (callEnv (fdOf i nm c pm) L fa))→ExX w (B.into (callEnv (fdOf i nm c pm) L fa)) n (callEnv (fdOf i nm c pm) L fa) (execs (fnB i) (callEnv (fdOf i nm c pm) L fa)) loc₀ S (fun f _ S'=>match f with | .ret av=>Q av S' | .next=>Q .none S' | _=>False) X)
  (hl₀:loc₀=ps.zip avs++ls.map fun x=>(x,.unb):=by rfl) (h5:fa≠50:=by decide) (h13:fa≠130:=by decide) (c5:c≠50:=by decide) (c13:c≠130:=by decide)
  (hco:(fnS i).isCoroutine=false:=by kernel_rfl) (hgen:(fnS i).isGenerator=false:=by kernel_rfl) (hk:(fnS i).kind=.function:=by kernel_rfl) :
  OpX w B (n+1) (Mine.callD fa) avs S Q X:=.mk fun A σ s vs ha W r=>by
 subst hl₀
 have hvl:vs.length=ps.length:=by rw [hlen,r.length]
 have hloc':∀ x∈ps.zip vs,(fnS i).names.lookup x.1=some .local:=fun x hx=>hloc x.1 (List.of_mem_zip hx).1
 refine wpAny_call (codeAny_call_def (fd:=fdOf i nm c pm) (body:=fnB i) (binds:=ps.zip vs) ha.room (H.at W hf h5 h13) rfl (H.nolimit W) ?_ rfl (BindsTo.of_eq (hbind vs hvl)) hcell hloc' (fun h₀ hn₀ hk₀=>?_) hco hgen hk)
 ·obtain ⟨us,t,hg,hu⟩:=hc
  exact ⟨c,_,us,t,rfl,H.at W hg c5 c13,rfl,hu⟩
 have hnone:s.heap.get? s.heap.objs.size=none:=Heap.get?_none_of_le (Nat.le_refl _)
 obtain ⟨W₀,F₀⟩:=entered (e:=callEnv (fdOf i nm c pm) s.heap.objs.size fa) (ls:=ls) (tk:=s.toks+(ps.zip vs).length) W r hlen hnd hloc rfl hk rfl rfl hnone hn₀ hk₀
 have hext:∀ {h':Heap},ExtF σ (callEnv (fdOf i nm c pm) s.heap.objs.size fa).locals h₀ h'→Ext σ s.heap h':=fun x'=>ext_back x' hk₀ hnone
 have hback:∀ a,h₀.get? a=none→s.heap.get? a=none:=fun a=>fresh_back hk₀
 refine wpAny_mono ((h s.heap.objs.size (W.newB hnone) ⟨H.yp⟩).run _ σ _ (ha.deeper _) W₀ F₀) (fun f s' p=>?_) (fun v s' p=>?_)
 ·refine let ZZ:Prop:=_;(?_:ZZ)
  obtain ⟨τ,af,loc',S',W',f',x',F',r',q'⟩:=p
  have W':=W'.out
  have ft:∀ a∈τ,s.heap.get? a=none:=fun a ha=>hback a (f' a ha)
  cases af with
  | next=>obtain rfl:f=.next:=r';exact ⟨τ,.none,S',W',ft,hext x',rfl,q'⟩
  | brk=>exact q'.elim
  | cont=>exact q'.elim
  | ret av=>obtain ⟨v,rfl,rv⟩:=r';exact ⟨τ,av,S',W',ft,hext x',rv,q'⟩
 ·refine leave_made (B:=B) (ha.deeper (callEnv (fdOf i nm c pm) s.heap.objs.size fa)).frames rfl p fun h' τ loc' S' m e a tk base hv W' f' x' F' hn hA hF q=>?_
  subst hv
  exact ⟨τ,S',m,e,a,tk,s'.heap,base,rfl,W'.out,fun a ha=>hback a (f' a ha),hext x',hback e hn,⟨hA.cover,hA.stays,hA.upto,hA.exc,hA.tup⟩,hF,q⟩
theorem OpX.of {f:List Value→Sem Value} {avs:List AV} {Q:AV→Store→Prop} (h:OpT w B n f avs S Q):OpX w B n f avs S Q X:=.mk fun A σ s vs ha W r=>h.run A σ s _ vs ha W r
end
section
variable {w:World} {B:Bs} {n:Nat} {env:Env} {loc:Loc} {S:Store} {σ:List Addr} {s:Shared} {A:Around} {Q:AV→Store→Prop} {K:AF→Loc→Store→Prop} {rest:List Stmt}
namespace FZ
theorem slot_frozenset_issuperset:Slot "frozenset" "issuperset" "frozenset.issuperset" :=
 .of (owner:="frozenset") (n:="issuperset") (by rw [typeLookup_type,builtinLookup_eq_fast];kernel_rfl) (by decide +kernel) (by decide +kernel) (by decide +kernel)
  (by first | exact .inl (by decide +kernel) | exact .inr (by decide +kernel)) (by rw [isSubtype_type];kernel_rfl)
theorem entry_frozenset_issuperset:entryFor table "frozenset.issuperset"=some Builtin.«frozenset.issuperset»:=entryFor_of_tree (by kernel_rfl)
theorem entry_frozenset_issuperset_loop:entryFor table "frozenset.issuperset.loop"=some Builtin.«frozenset.issuperset.loop»:=entryFor_of_tree (by kernel_rfl)
theorem plain_frozenset_issuperset_loop:plainId "frozenset.issuperset.loop"=true:=by decide +kernel
theorem args_frozenset_issuperset_2 (a b:Value):argsOk "frozenset.issuperset" ⟨[a,b],[]⟩:=by
 unfold argsOk;rw [signature?_of (id:="frozenset.issuperset") (n:="issuperset".toList.reverse) (o:="frozenset".toList.reverse) (by kernel_rfl) FB.owner_frozenset];kernel_rfl
theorem type_frozenset_issuperset:typeOf (.builtin "frozenset.issuperset")=pure (.type "method_descriptor"):=by show builtinType _=_;rw [builtinType_eq_fast];kernel_rfl
theorem slot_frozenset_isdisjoint:Slot "frozenset" "isdisjoint" "frozenset.isdisjoint" :=
 .of (owner:="frozenset") (n:="isdisjoint") (by rw [typeLookup_type,builtinLookup_eq_fast];kernel_rfl) (by decide +kernel) (by decide +kernel) (by decide +kernel)
  (by first | exact .inl (by decide +kernel) | exact .inr (by decide +kernel)) (by rw [isSubtype_type];kernel_rfl)
theorem entry_frozenset_isdisjoint:entryFor table "frozenset.isdisjoint"=some Builtin.«frozenset.isdisjoint»:=entryFor_of_tree (by kernel_rfl)
theorem entry_frozenset_isdisjoint_loop:entryFor table "frozenset.isdisjoint.loop"=some Builtin.«frozenset.isdisjoint.loop»:=entryFor_of_tree (by kernel_rfl)
theorem plain_frozenset_isdisjoint_loop:plainId "frozenset.isdisjoint.loop"=true:=by decide +kernel
theorem args_frozenset_isdisjoint_2 (a b:Value):argsOk "frozenset.isdisjoint" ⟨[a,b],[]⟩:=by
 unfold argsOk;rw [signature?_of (id:="frozenset.isdisjoint") (n:="isdisjoint".toList.reverse) (o:="frozenset".toList.reverse) (by kernel_rfl) FB.owner_frozenset];kernel_rfl
theorem type_frozenset_isdisjoint:typeOf (.builtin "frozenset.isdisjoint")=pure (.type "method_descriptor"):=by show builtinType _=_;rw [builtinType_eq_fast];kernel_rfl
theorem plainAttrs_frozenset:PlainAttrs "frozenset" :=
 ⟨⟨"object.__getattribute__",by rw [typeLookup_type,builtinLookup_eq_fast];kernel_rfl,by decide +kernel⟩,by rw [typeLookup_type,builtinLookup_eq_fast];kernel_rfl⟩
theorem str_set:isSubtype (.type "str") (.type "set")=pure false:=by rw [isSubtype_type];kernel_rfl
theorem str_froz:isSubtype (.type "str") (.type "frozenset")=pure false:=by rw [isSubtype_type];kernel_rfl
end FZ
theorem frozExt {h h':Heap} {a:Addr} {P:Str→Bool} {m:Nat} (x:FrozAt (strKind pw w) h a P m) (k:∀ o,h.get? a=some o→h'.get? a=some o):FrozAt (strKind pw w) h' a P m :=
 let ⟨es,ep,t,g,r⟩:=x;⟨es,ep,t,k _ g,r⟩
theorem froz_contains {E:Value→Shared→Prop} {a:Addr} {P:Str→Bool} {m:Nat} {x:Str} {t:Tok} {R:Bool→Shared→Prop} (hS:FrozAt (strKind pw w) s.heap a P m) (hb:m<4096)
  (h:R (P x) { s with toks:=s.toks+1 }):wpAny (model pw w) A (setContains a (.str x t)) R E s:=by
 obtain ⟨es,ep,tb,ho,hel,hmem,hn,hf⟩:=hS
 have hkey:(strKind pw w).is x (.str x t)=true:=by show Value.isStrOf x (.str x t)=true;simp [Value.isStrOf]
 refine wpAny_holding (wpAny_bind ((strKind pw w).pyHash hkey ?_))
 refine wpAny_bind (setFind_any (s:={ s with toks:=s.toks+1 }) hkey rfl ho rfl hel hmem (by rw [hn];exact hb) hf fun r hr=>?_)
 refine wpAny_pure ?_
 rw [hr];exact h
theorem super_loop {a it:Addr} {P:Str→Bool} {m:Nat} {x:Str} {t:Tok} {R:Result→Shared→Prop} (hh:A.in1.handled=none) (hb:m<4096) (n1:it≠a) :
  ∀ (k i:Nat) (s:Shared),x.length-i=k→i≤x.length→s.heap.IsStrIter it "str_ascii_iterator" x t i→FrozAt (strKind pw w) s.heap a P m →
  (∀ h' tk,(∀ c o,c≠it→s.heap.get? c=some o→h'.get? c=some o)→R (.ok (.ret (.bool ((x.cps.toList.drop i).all fun c=>P ⟨#[c]⟩)))) { s with heap:=h',toks:=tk }) →
  codeAny (model pw w) A (.builtin "frozenset.issuperset.loop" ⟨[.ref a,.ref it],[]⟩) R s:=by
 intro k
 induction k with
 | zero =>
  intro i s hk hin hit hS hR
  have:i=x.length:=by lia
  subst this
  refine codeAny_builtin FZ.entry_frozenset_issuperset_loop ?_
  refine wpAny_bind (wpAny_pyNext_ascii_end hh hit (Array.getElem?_eq_none (Nat.le_refl _)) fun h' hx=>?_)
  have e:x.cps.toList.drop x.length=[]:=List.drop_eq_nil_of_le (Nat.le_of_eq (Array.length_toList))
  rw [e] at hR
  exact wpAny_pure (hR h' s.toks fun c o c2 e=>hx c o c2 e)
 | succ k ih =>
  intro i s hk hin hit hS hR
  have hlt:i<x.length:=by exact Nat.lt_of_sub_eq_succ hk
  have hc:x.cps[i]?=some (x.cps[i]'hlt):=Array.getElem?_eq_getElem hlt
  refine codeAny_builtin FZ.entry_frozenset_issuperset_loop ?_
  rw [Around.under_plainId FZ.plain_frozenset_issuperset_loop _]
  refine wpAny_bind (wpAny_pyNext_ascii_item hit hc fun h' hit' hx=>?_)
  have hS':FrozAt (strKind pw w) h' a P m:=frozExt hS fun o e=>hx.extBut a o (Ne.symm n1) e
  refine wpAny_bind (wpAny_holding (froz_contains hS' hb ?_))
  have e:x.cps.toList.drop i=(x.cps[i]'hlt)::x.cps.toList.drop (i+1):=by
   rw [List.drop_eq_getElem_cons (by rw [Array.length_toList];exact hlt)]
   simp only [Array.getElem_toList]
   rfl
  rw [e,List.all_cons] at hR
  cases hP:P ⟨#[x.cps[i]'hlt]⟩ with
  | false =>
   rw [hP,Bool.false_and] at hR
   exact wpAny_pure (hR h' _ fun c o c2 e=>hx.extBut c o c2 e)
  | true =>
   rw [hP,Bool.true_and] at hR
   refine wpAny_pure ⟨plainId_quiet FZ.plain_frozenset_issuperset_loop _,ih (i+1) { s with heap:=h',toks:=s.toks+1+1 } (by (clear hin;lia)) hlt hit' hS' fun h3 tk3 hz=>?_⟩
   exact hR h3 tk3 fun c o c2 e=>hz c o c2 (hx.extBut c o c2 e)
theorem disj_loop {a it:Addr} {P:Str→Bool} {m:Nat} {x:Str} {t:Tok} {R:Result→Shared→Prop} (hh:A.in1.handled=none) (hb:m<4096) (n1:it≠a) :
  ∀ (k i:Nat) (s:Shared),x.length-i=k→i≤x.length→s.heap.IsStrIter it "str_ascii_iterator" x t i→FrozAt (strKind pw w) s.heap a P m →
  (∀ h' tk,(∀ c o,c≠it→s.heap.get? c=some o→h'.get? c=some o)→R (.ok (.ret (.bool ((x.cps.toList.drop i).all fun c=>!P ⟨#[c]⟩)))) { s with heap:=h',toks:=tk }) →
  codeAny (model pw w) A (.builtin "frozenset.isdisjoint.loop" ⟨[.ref a,.ref it],[]⟩) R s:=by
 intro k
 induction k with
 | zero =>
  intro i s hk hin hit hS hR
  have:i=x.length:=by lia
  subst this
  refine codeAny_builtin FZ.entry_frozenset_isdisjoint_loop ?_
  refine wpAny_bind (wpAny_pyNext_ascii_end hh hit (Array.getElem?_eq_none (Nat.le_refl _)) fun h' hx=>?_)
  have e:x.cps.toList.drop x.length=[]:=List.drop_eq_nil_of_le (Nat.le_of_eq (Array.length_toList))
  rw [e] at hR
  exact wpAny_pure (hR h' s.toks fun c o c2 e=>hx c o c2 e)
 | succ k ih =>
  intro i s hk hin hit hS hR
  have hlt:i<x.length:=by exact Nat.lt_of_sub_eq_succ hk
  have hc:x.cps[i]?=some (x.cps[i]'hlt):=Array.getElem?_eq_getElem hlt
  refine codeAny_builtin FZ.entry_frozenset_isdisjoint_loop ?_
  rw [Around.under_plainId FZ.plain_frozenset_isdisjoint_loop _]
  refine wpAny_bind (wpAny_pyNext_ascii_item hit hc fun h' hit' hx=>?_)
  have hS':FrozAt (strKind pw w) h' a P m:=frozExt hS fun o e=>hx.extBut a o (Ne.symm n1) e
  refine wpAny_bind (wpAny_holding (froz_contains hS' hb ?_))
  have e:x.cps.toList.drop i=(x.cps[i]'hlt)::x.cps.toList.drop (i+1):=by
   rw [List.drop_eq_getElem_cons (by rw [Array.length_toList];exact hlt)]
   simp only [Array.getElem_toList]
   rfl
  rw [e,List.all_cons] at hR
  cases hP:P ⟨#[x.cps[i]'hlt]⟩ with
  | true =>
   rw [hP,Bool.not_true,Bool.false_and] at hR
   exact wpAny_pure (hR h' _ fun c o c2 e=>hx.extBut c o c2 e)
  | false =>
   rw [hP,Bool.not_false,Bool.true_and] at hR
   refine wpAny_pure ⟨plainId_quiet FZ.plain_frozenset_isdisjoint_loop _,ih (i+1) { s with heap:=h',toks:=s.toks+1+1 } (by (clear hin;lia)) hlt hit' hS' fun h3 tk3 hz=>?_⟩
   exact hR h3 tk3 fun c o c2 e=>hz c o c2 (hx.extBut c o c2 e)
theorem froz_type {h:Heap} {a:Addr} {P:Str→Bool} {m:Nat} (hS:FrozAt (strKind pw w) h a P m):∃ o,h.get? a=some o∧o.cls=.type "frozenset"∧o.dict=none :=
 let ⟨_,_,_,g,_⟩:=hS;⟨_,g,rfl,rfl⟩
theorem call_superset {E:Value→Shared→Prop} {a:Addr} {P:Str→Bool} {m:Nat} {x:Str} {t:Tok} {R:Value→Shared→Prop} (hh:A.handled=none) (hS:FrozAt (strKind pw w) s.heap a P m) (hb:m<4096) (hx:x.cps.all (·<128)=true)
  (h:∀ h' tk,(∀ c o,s.heap.get? c=some o→h'.get? c=some o)→R (.bool (x.cps.toList.all fun c=>P ⟨#[c]⟩)) { s with heap:=h',toks:=tk }) :
  wpAny (model pw w) A (call (.builtin "frozenset.issuperset") [.ref a,.str x t]) R E s:=by
 obtain ⟨o,ho,hc,_⟩:=froz_type hS
 have hT:s.TypeIs (.ref a) "frozenset":=⟨o,ho,hc⟩
 have hlt:a<s.heap.objs.size:=Heap.lt_size ho
 refine wpAny_call (codeAny_call_builtin FZ.slot_frozenset_issuperset.plain FZ.entry_frozenset_issuperset (FZ.slot_frozenset_issuperset.check _ _ _ _ _ _ _ _ hT (FZ.args_frozenset_issuperset_2 _ _) ?_))
 refine wpAny_bind (wpAny_of_eq (a:=(a,Value.str x t)) rfl ?_)
 refine wpAny_bind ?_
 refine wpAny_bind (wpAny_isInstance (T:="str") (b:=false) rfl FZ.str_set ?_)
 refine wpAny_isInstance (T:="str") (b:=false) rfl FZ.str_froz ?_
 refine wpAny_bind (wpAny_pyIter_ascii hx ?_)
 refine wpAny_pure ⟨plainId_quiet FZ.plain_frozenset_issuperset_loop _,super_loop hh hb (Nat.ne_of_gt hlt) (x.length-0) 0 _ rfl (Nat.zero_le _) ⟨_,Heap.get?_push_size _ rfl,rfl,rfl⟩ (frozExt hS fun o e=>Heap.get?_push_of_some _ e) fun h' tk k=>?_⟩
 exact h h' tk fun c o e=>k c o (Nat.ne_of_lt (Heap.lt_size e)) (Heap.get?_push_of_some _ e)
theorem call_disj {E:Value→Shared→Prop} {a:Addr} {P:Str→Bool} {m:Nat} {x:Str} {t:Tok} {R:Value→Shared→Prop} (hh:A.handled=none) (hS:FrozAt (strKind pw w) s.heap a P m) (hb:m<4096) (hx:x.cps.all (·<128)=true)
  (h:∀ h' tk,(∀ c o,s.heap.get? c=some o→h'.get? c=some o)→R (.bool (x.cps.toList.all fun c=>!P ⟨#[c]⟩)) { s with heap:=h',toks:=tk }) :
  wpAny (model pw w) A (call (.builtin "frozenset.isdisjoint") [.ref a,.str x t]) R E s:=by
 refine let ZZ:Prop:=_;(?_:ZZ)
 obtain ⟨o,ho,hc,_⟩:=froz_type hS
 have hT:s.TypeIs (.ref a) "frozenset":=⟨o,ho,hc⟩
 have hlt:a<s.heap.objs.size:=Heap.lt_size ho
 refine wpAny_call (codeAny_call_builtin FZ.slot_frozenset_isdisjoint.plain FZ.entry_frozenset_isdisjoint (FZ.slot_frozenset_isdisjoint.check _ _ _ _ _ _ _ _ hT (FZ.args_frozenset_isdisjoint_2 _ _) ?_))
 refine wpAny_bind (wpAny_of_eq (a:=(a,Value.str x t)) rfl (wpAny_ite_false rfl (wpAny_bind (wpAny_of_eq (a:=.type "str") rfl (wpAny_ite_false (by decide +kernel) (wpAny_bind (wpAny_pyIter_ascii hx ?_)))))))
 refine wpAny_pure ⟨plainId_quiet FZ.plain_frozenset_isdisjoint_loop _,disj_loop hh hb (Nat.ne_of_gt hlt) (x.length-0) 0 _ rfl (Nat.zero_le _) ⟨_,Heap.get?_push_size _ rfl,rfl,rfl⟩ (frozExt hS fun o e=>Heap.get?_push_of_some _ e) fun h' tk k=>?_⟩
 exact h h' tk fun c o e=>k c o (Nat.ne_of_lt (Heap.lt_size e)) (Heap.get?_push_of_some _ e)
theorem OpT.superset {ov:AV} {P:Str→Bool} {m:Nat} {x:Str} (hF:∀ B σ S s v,Wd B σ S s→RV σ s.heap ov v→StH w B.heap→∃ a,v=.ref a∧FrozAt (strKind pw w) s.heap a P m) (H:St w B) (hb:m<4096) (hx:x.cps.all (·<128)=true)
  (q:Q (.bool (x.cps.toList.all fun c=>P ⟨#[c]⟩)) S):OpT w B n (Mine.callB "frozenset.issuperset") [ov,.str x] S Q:=.mk fun A σ s E vs ha W r=>by
 obtain ⟨v,y,rfl,rv,t,rfl⟩:=r.two
 obtain ⟨a,rfl,hS⟩:=hF B σ S s v W rv H
 exact call_superset ha.handled hS hb hx fun h' tk k=>.now (av:=.bool _) (W.keeps k) (Ext.of_keeps k) rfl q
theorem OpT.disj {ov:AV} {P:Str→Bool} {m:Nat} {x:Str} (hF:∀ B σ S s v,Wd B σ S s→RV σ s.heap ov v→StH w B.heap→∃ a,v=.ref a∧FrozAt (strKind pw w) s.heap a P m) (H:St w B) (hb:m<4096) (hx:x.cps.all (·<128)=true)
  (q:Q (.bool (x.cps.toList.all fun c=>!P ⟨#[c]⟩)) S):OpT w B n (Mine.callB "frozenset.isdisjoint") [ov,.str x] S Q:=.mk fun A σ s E vs ha W r=>by
 obtain ⟨v,y,rfl,rv,t,rfl⟩:=r.two
 obtain ⟨a,rfl,hS⟩:=hF B σ S s v W rv H
 exact call_disj ha.handled hS hb hx fun h' tk k=>.now (av:=.bool _) (W.keeps k) (Ext.of_keeps k) rfl q
theorem EvA.methG {o:Expr} {name:Str} {apos pos:Pos} {T id:String} {e:Expr} {rest:List Expr} {Q:AV→Store→Prop}
  (h:EvA w B n env o loc S fun ov S₁=>(∀ σ s v,Wd B σ S₁ s→RV σ s.heap ov v→s.TypeIs v T∧∀ a,v=.ref a→∃ ob,s.heap.get? a=some ob∧ob.dict=none)∧ArT w B n env (spliced (backTo pos (starEach (e::rest) env))) loc S₁ fun avs S₂=>OpT w B n (Mine.callB id) (ov::avs) S₂ Q)
  (hp:PlainAttrs T) (hs:Slot T name id) (ht:typeOf (.builtin id)=pure (.type "method_descriptor"))
  (hb:attributeBase o name env (eval o env)=eval o env:=by rfl)
  (hk:((((backTo pos (starEach (e::rest) env)).all fun x=>!x.fst)&&(backToKw pos (keywordEach [] env)).all fun x=>x.fst.isSome)&&decide (((e::rest).length+([]:List Keyword).length+if ([]:List Keyword).isEmpty=true then 0 else 1)<30))=true:=by rfl)
  (hl:(apos.endLine==pos.line)=true:=by rfl)
  (he:starEach (e::rest) env=(false,eval e env)::starEach rest env:=by rfl) (hplain:(backTo pos (starEach rest env)).any (·.1)=false:=by rfl) :
  EvA w B n env (.Call (.Attribute o name apos) (e::rest) [] pos) loc S Q:=.mk fun A σ s E ha W F=>by
 refine wpAny_Call_method (T:=T) (id:=id) hb hk hl hp hs ht (h.bind ha W F fun ov s₁ τ av S₁ W₁ f₁ x₁ r₁ p=>?_)
 obtain ⟨hT,h₁⟩:=p
 obtain ⟨t1,t2⟩:=hT _ _ _ W₁ r₁
 refine ⟨t1,t2,callWith_method1 (h₁.bind ha W₁ (F.mono W τ x₁) fun vs s₂ τ₂ avs S₂ W₂ f₂ x₂ r₂ h₂=>?_) he hplain⟩
 exact wpAny_mono (h₂.run A _ s₂ E (ov::vs) ha W₂ ⟨r₁.mono W₁ x₂,r₂⟩) (fun c s₃ p=>(p.back W₁ W₂ x₂ f₂).back W W₁ x₁ f₁) fun _ _ e=>e
theorem froz_ty {ov:AV} {P:Str→Bool} {m:Nat} (H:St w B) (hF:∀ B σ S s v,Wd B σ S s→RV σ s.heap ov v→StH w B.heap→∃ a,v=.ref a∧FrozAt (strKind pw w) s.heap a P m):∀ σ s v,Wd B σ S s→RV σ s.heap ov v→s.TypeIs v "frozenset"∧∀ a,v=.ref a→∃ ob,s.heap.get? a=some ob∧ob.dict=none:=fun σ s v W r=>by
 obtain ⟨a,rfl,hS⟩:=hF B σ S s v W r H
 obtain ⟨o,ho,hc,hd⟩:=froz_type hS
 exact ⟨⟨o,ho,hc⟩,fun b e=>by cases e;exact ⟨o,ho,hd⟩⟩
theorem is_str (x:Str) (t:Tok):(strKind pw w).is x (.str x t)=true:=by show Value.isStrOf x (.str x t)=true;simp [Value.isStrOf]
theorem is_str_eq {x y:Str} {t:Tok} (h:(strKind pw w).is x (.str y t)=true):x=y:=by
 obtain ⟨u,e⟩:=Value.isStrOf_shape (show Value.isStrOf x (.str y t)=true from h)
 cases e;rfl
noncomputable def isHexC (x:Str):Bool:=hexCs.any fun c=>x==⟨#[c]⟩
theorem o_hexO (P:Params):(Hp1 P).get? 91=some (hexO P):=by kernel_rfl
theorem hex_froz (B:Bs) (σ:List Addr) (S:Store) (s:Shared) (v:Value) (W:Wd B σ S s) (r:RV σ s.heap (.val (.ref 91)) v) (H:StH w B.heap):∃ a,v=.ref a∧FrozAt (strKind pw w) s.heap a isHexC 22:=by
 have G:=hexGood w.params
 refine ⟨91,r,(hexSt w.params).1,(hexSt w.params).2.1,(hexSt w.params).2.2,St.at H W (o_hexO _),fun e he=>?_,fun k=>?_,?_,G.fits⟩
 ·refine let ZZ:Prop:=_;(?_:ZZ)
  obtain ⟨p,hp,rfl⟩:=List.mem_map.mp (G.perm.mem_iff.mp he)
  exact ⟨⟨⟨#[p.1]⟩,is_str _ _,rfl⟩,rfl⟩
 ·unfold isHexC
  rw [List.any_eq_true]
  constructor
  ·rintro ⟨c,hc,e⟩
   obtain rfl:k=⟨#[c]⟩:=by simpa using e
   obtain ⟨i,hi⟩:=List.mem_iff_getElem?.mp (show c∈hexCs.take 22 from hc)
   refine ⟨entry w.params c (558+2*i),G.perm.mem_iff.mpr (List.mem_map.mpr ⟨(c,i),?_,rfl⟩),is_str _ _⟩
   exact List.mk_mem_zipIdx_iff_getElem?.mpr hi
  ·intro p₀
   refine let ZZ:Prop:=_;(?_:ZZ)
   obtain ⟨e,he,hk⟩:=p₀
   obtain ⟨p,hp,rfl⟩:=List.mem_map.mp (G.perm.mem_iff.mp he)
   have ht:=is_str_eq hk
   refine ⟨p.1,?_,?_⟩
   ·have:=(List.mem_zipIdx hp).2.2
    rw [this]
    exact List.getElem_mem _
   ·rw [ht];simp
 ·have:=G.perm.length_eq
  rw [Array.length_toList] at this
  rw [this];rfl
theorem wp_text16 {M:Model} {E:Value→Shared→Prop} {R:Value→Shared→Prop} {v:Value} {text:List Nat} {m:Int}
  (hs:(text.takeWhile (· != 0)).length≤640) (hr:(int_private% "readNumeral") 0 16 (text.takeWhile (· != 0))=(int_private% "Numeral.value") m)
  (ha:((text.takeWhile (· != 0)).length==text.length)=true) (h:R (.int m s.toks) { s with toks:=s.toks+1 }) :
  wpAny M A ((int_private% "intFromText") v text 16) R E s:=by
 obtain ⟨hp,g,d,tk,os⟩:=s
 repeat (any_goals (first
  | assumption
  | (with_reducible refine wpAny_ite_true (decide_eq_true hs) ?_)
  | (with_reducible refine wpAny_ite_true (decide_eq_true ha) ?_)
  | wp_step))
 all_goals (try rw [hr])
 all_goals (try dsimp only)
 repeat (any_goals (first
  | assumption
  | (with_reducible refine wpAny_ite_true (decide_eq_true hs) ?_)
  | (with_reducible refine wpAny_ite_true (decide_eq_true ha) ?_)
  | wp_step))
structure HidP (p:Prop):Prop where
 out:p
set_option maxHeartbeats 4000000 in
theorem gives_text16 {x:Str} {u v:Tok} {m:Int} (hx:x.cps.all (·<128)=true) (hs:(x.cps.toList.takeWhile (· != 0)).length≤640) (ha:((x.cps.toList.takeWhile (· != 0)).length==x.cps.toList.length)=true)
  (hr:(int_private% "readNumeral") 0 16 (x.cps.toList.takeWhile (· != 0))=(int_private% "Numeral.value") m):Gives (Builtin.«int.__new__» ⟨[.type "int",.str x u,.int 16 v],[]⟩) (.int m) :=
 .of_wp fun M A E s Q h=>by
  obtain ⟨hp,g,d,tk,os⟩:=s
  have f1:=F.conv_sub_int
  have f2:=F.madeHere_int
  have f3:=KIN.str_int
  have f4:=KIN.str_idx
  have f5:=KIN.str_trunc
  have f6:typeOf (.str x u)=pure (.type "str"):=rfl
  have ht:(if x.cps.all (·<128) then x.cps.toList else Unicode.numberText x.cps.toList)=x.cps.toList:=by rw [if_pos hx]
  have hk:=HidP.mk (And.intro hs (And.intro ha hr))
  clear hs hr ha hx
  repeat (any_goals (first
   | assumption
   | ((with_reducible show wpAny _ _ ((int_private% "intFromText") _ _ _) _ _ _);(try rw [ht]);refine wp_text16 hk.out.1 hk.out.2.2 hk.out.2.1 ?_)
   | wp_step))
  all_goals first | exact ⟨_,rfl,h⟩ | skip
theorem typeCall_int_2 (a b:Value):checkTypeCall "int" ⟨[a,b],[]⟩=pure ():=by kernel_rfl
theorem newCall_int_2 (a b:Value):checkBuiltinCall "int.__new__" ⟨[.type "int",a,b],[]⟩=pure ():=by kernel_rfl
theorem OpT.int16 {x:Str} {m:Int} (hx:x.cps.all (·<128)=true) (hs:(x.cps.toList.takeWhile (· != 0)).length≤640) (ha:((x.cps.toList.takeWhile (· != 0)).length==x.cps.toList.length)=true)
  (hr:(int_private% "readNumeral") 0 16 (x.cps.toList.takeWhile (· != 0))=(int_private% "Numeral.value") m) (q:Q (.int m) S):OpT w B n (Mine.callT "int") [.str x,.int 16] S Q:=.mk fun A σ s E vs ha' W r=>by
 obtain ⟨v,y,rfl,⟨t,rfl⟩,u,rfl⟩:=r.two
 refine callType_new F.called_int F.newNe_int (typeCall_int_2 _ _) (newCall_int_2 _ _) (fun obj=>F.args_object_init_3 obj _ _) F.entry_int_new (gives_text16 hx hs ha hr).meets (show (Made.int m).post _ s from ⟨rfl,?_⟩)
 exact .now (av:=.int m) W.same (Ext.refl _ _) ⟨_,rfl⟩ q
theorem clip_eq (n q:Nat):max (0:Int) (min (if (q:Int)<0 then (q:Int)+n else q) (n:Int))=max 0 (min (if ((min q n:Nat):Int)<0 then ((min q n:Nat):Int)+n else ((min q n:Nat):Int)) (n:Int)):=by
 rw [if_neg (by exact Int.not_ofNat_neg q),if_neg (by exact Int.not_ofNat_neg (min q n)),Lean.Omega.Int.ofNat_min,Int.min_assoc,Int.min_self]
theorem cuts_min {x:Str} {p q:Nat} (hp:p≤x.length) (hq:p≤q):Cuts x (some (p:Int)) (some (q:Int)) p (min q x.length):=by
 refine ⟨?_,by exact Nat.le_min_of_le_of_le hq hp,Nat.min_le_right _ _⟩
 unfold Builtin.Str.strSliceIndices
 exact congrArg (fun u=>sliceRange _ u 1) (clip_eq x.length q)
theorem ExS.aug {x:Str} {p' pos:Pos} {op:Operator} {value:Expr} {old:AV} {f:AV→Loc} (hx:(x,old)∈loc) (hb:old.bd=true) (hu:UpdF loc x f)
  (h:EvA w B n env value loc S fun b S₁=>OpT w B n (opI op) [old,b] S₁ fun c S₂=>K .next (f c) S₂) (hk:env.kindOf x=some .local:=by kernel_rfl):ExS w B n env (.AugAssign (.Name x p') op value pos) loc S K :=
 .mk fun A σ s E ha W F=>by
  refine let ZZ:Prop:=_;(?_:ZZ)
  obtain ⟨⟨m,hn,hm⟩,ok⟩:=id F
  rcases hm x old hx with h0 | ⟨v,hv,r⟩
  ·subst h0;cases hb
  have h1:m x=some v:=by
   rcases hv with hv | ⟨hv,_⟩
   ·exact hv.2
   ·rw [hk] at hv;cases hv
  refine wpAny_AugAssign_Name (wpAny_loadName_local ok.kind hk hn h1 (h.bind ha W F fun b s₁ τ bv S₁ W₁ f₁ x₁ r₁ h₁=>?_))
  have F₁:=F.mono W τ x₁
  refine h₁.bind [v,b] ha W₁ ⟨r.mono W x₁,r₁,trivial⟩ fun c s₂ τ₂ cv S₂ W₂ f₂ x₂ r₂ h₂=>?_
  have F₂:=F₁.mono W₁ τ₂ x₂
  refine wpAny_mono ((StT.store hu hk (Q:=fun loc' S'=>K .next loc' S') h₂).run A _ s₂ E c ha W₂ F₂ r₂) (fun _ s₃ p=>?_) fun _ _ e=>e
  have p:=(p.back F₁.live W₂ F₂ x₂.toF f₂).back F.live W₁ F₁ x₁.toF f₁
  refine let ZZ:Prop:=_;(?_:ZZ)
  obtain ⟨τ',af,loc',S',a,b,c,d,e,g⟩:=p
  cases af with
  | next=>exact ⟨τ',.next,loc',S',a,b,c,d,e,g⟩
  | brk=>exact absurd e nofun
  | cont=>exact absurd e nofun
  | ret av=>obtain ⟨v,e,_⟩:=e;cases e
theorem takeW {p:Nat→Bool}:∀ {l:List Nat},(∀ c∈l,p c=true)→l.takeWhile p=l
 | [],_=>rfl
 | a::l,h=>by rw [List.takeWhile_cons_of_pos (h a List.mem_cons_self),takeW fun c m=>h c (List.mem_cons_of_mem _ m)]
noncomputable abbrev badT:Str:=Str.ofString "Invalid hex value"
noncomputable abbrev surT:Str:=Str.ofString "Escaped character is not a Unicode scalar value"
theorem str1_set {x:Str}:(x.cps.toList.all fun c=>isHexC ⟨#[c]⟩)=x.cps.toList.all fun c=>hexCs.contains c:=by
 congr 1
 funext c
 unfold isHexC
 rw [Bool.eq_iff_iff,List.any_eq_true,List.contains_iff_mem]
 constructor
 ·rintro ⟨d,hd,e⟩
  have:d=c:=by simpa using (beq_iff_eq.mp e).symm
  exact this▸hd
 ·exact fun h=>⟨c,h,by simp⟩
noncomputable def hexOk (y:Str):Bool:=y.length==4&&y.cps.toList.all fun c=>hexCs.contains c
noncomputable def Reads16 (y:Str) (v:Nat):Prop:=(int_private% "readNumeral") 0 16 y.cps.toList=(int_private% "Numeral.value") (v:Int)
theorem hex_ascii:∀ c∈hexCs,c<128∧c≠0:=by decide
theorem hexOk_ascii {y:Str} (h:hexOk y=true):y.cps.all (·<128)=true∧y.cps.toList.takeWhile (· != 0)=y.cps.toList:=by
 unfold hexOk at h
 rw [Bool.and_eq_true,List.all_eq_true] at h
 constructor
 ·rw [← Array.all_toList,List.all_eq_true]
  intro c hc
  simpa using (hex_ascii c (List.contains_iff_mem.mp (h.2 c hc))).1
 ·refine takeW ?_
  intro c hc
  simpa using (hex_ascii c (List.contains_iff_mem.mp (h.2 c hc))).2
theorem cut_ascii {x:Str} {a b:Nat} (h:x.cps.all (·<128)=true):(cut x a b).cps.all (·<128)=true:=by
 rw [← Array.all_toList,List.all_eq_true] at h ⊢
 exact fun c hc=>h c (List.mem_of_mem_drop (List.mem_of_mem_take hc))
theorem parse_w (H:St w B) {x:Str} {p:Nat} {X:Str→Store→Prop} (hx:x.length<500) (hp:p<x.length) (hasc:x.cps.all (·<128)=true)
  (hbad:hexOk (cut x p (min (p+4) x.length))=false→X (sfx x p badT) S)
  (hgood:hexOk (cut x p (min (p+4) x.length))=true→∃ v:Nat,Reads16 (cut x p (min (p+4) x.length)) v∧v≤1114111∧(scalar v=false→p+4<x.length∧X (sfx x (p+4) surT) S)∧(scalar v=true→Q (.tup [.int ((p+4:Nat):Int),.str ⟨#[v]⟩]) S)) :
  OpX w B (n+5) (callD 128) [.str x,.int (p:Int),.int 4] S Q X:=by
 refine OpX.def H (ps:=["src","pos","hex_len"]) ["hex_str","hex_int"] [("src",.str x),("pos",.int (p:Int)),("hex_len",.int 4),("hex_str",.unb),("hex_int",.unb)] (f_parse_hex_char _) (c_parse_hex_char _) rfl (all3 fun _ _ _=>by kernel_rfl) (by decide +kernel) (by decide +kernel) (by decide +kernel) (fun L hL H=>?_)
 have hbl:badT.length≤200:=by decide +kernel
 have hsl:surT.length≤200:=by decide +kernel
 have hcl:(cut x p (min (p+4) x.length)).length≤4:=by rw [cut_len x (by omega) (by exact Nat.min_le_right (p+4) x.length)];omega
 have hyA:=cut_ascii (a:=p) (b:=min (p+4) x.length) hasc
 have hcu:Cuts x (some (p:Int)) (some ((p:Int)+4)) p (min (p+4) x.length):=by
  have:=cuts_min (x:=x) (p:=p) (q:=p+4) (by exact Nat.le_of_succ_le hp) (by exact Nat.le_add_right p 4)
  simpa using this
 have fewx:x.length≤fewItems:=by unfold fewItems;omega
 generalize hy:cut x p (min (p+4) x.length)=y at *
 refine ExX.cons (ExS.assign (by walk_at "u") (EvA.sliceS ?_))
 walk_at "s"
 refine EvP.yes ?_
 walk_at "s"
 refine ⟨_,rfl,EvP.yes ?_⟩
 walk_at "s"
 refine ⟨_,rfl,x,p,min (p+4) x.length,rfl,hcu,fewx,?_⟩
 rw [hy]
 show ExX w _ _ _ _ [("src",.str x),("pos",.int (p:Int)),("hex_len",.int 4),("hex_str",.str y),("hex_int",.unb)] _ _ _
 refine ExX.consX (ExX.ite (TsA.or (TsT.orCons (TsA.cmp (EvA.callB H (n_len _) (b_len _) (by kernel_rfl) ?_)))))
 walk_at "s"
 refine OpT.lenS (by unfold fewItems;omega) ?_
 walk_at "s"
 refine OpT.neI (TrT.bool ?_)
 have hraise:hexOk y=false→∀ pos,ExX w (B.into (callEnv (fdOf 20 (Str.ofString "parse_hex_char") 127 (Value.str (Str.ofString "cpy313.tomllib._parser") 556)) L 128)) (n+4) (callEnv (fdOf 20 (Str.ofString "parse_hex_char") 127 (Value.str (Str.ofString "cpy313.tomllib._parser") 556)) L 128)
   (execs (stB (stAt (fnB 20) 1)) (callEnv (fdOf 20 (Str.ofString "parse_hex_char") 127 (Value.str (Str.ofString "cpy313.tomllib._parser") 556)) L 128)) [("src",.str x),("pos",.int (p:Int)),("hex_len",.int 4),("hex_str",.str y),("hex_int",.unb)] S pos X:=by
  intro hb pos
  refine ExX.consX (ExX.raise H fun B' H'=>EvA.callD H' (g_suffixed_err _) (f_suffixed_err _) (by kernel_rfl) ?_)
  walk_at "s"
  exact suffix_w H' hx hp hbl fun e a n1 n2=>⟨_,e,a,rfl,n1,hbad hb⟩
 by_cases h4:y.length=4
 ·refine ifP (by rw [h4];rfl) ?_
  refine TsT.orCons (TsA.not (TsA.val (EvA.methG (T:="frozenset") (id:="frozenset.issuperset") ?_ FZ.plainAttrs_frozenset FZ.slot_frozenset_issuperset FZ.type_frozenset_issuperset)))
  refine EvA.glob H (g_hexd _) (by kernel_rfl) ?_
  refine ⟨froz_ty H hex_froz,?_⟩
  walk_at "s"
  refine OpT.superset hex_froz H (by decide) hyA ?_
  refine TrT.bool ?_
  rw [str1_set]
  cases hall:y.cps.toList.all fun c=>hexCs.contains c with
  | false =>
   refine ifN (by decide) ?_
   exact hraise (by unfold hexOk;rw [hall,Bool.and_false]) _
  | true =>
   have hok:hexOk y=true:=by unfold hexOk;rw [hall,h4];rfl
   refine let ZZ:Prop:=_;(?_:ZZ)
   obtain ⟨v,hr,hv,hs1,hs2⟩:=hgood hok
   obtain ⟨a1,a2⟩:=hexOk_ascii hok
   refine ifP (by decide) ?_
   refine TsT.orNil ?_
   refine ifN (by decide) ?_
   refine ExX.of (ExA.nil ?_)
   refine ExX.cons (ExS.aug (by walk_at "e") rfl (by walk_at "u") ?_)
   walk_at "s"
   refine OpT.iaddI ?_
   show ExX w _ _ _ _ [("src",.str x),("pos",.int ((p:Int)+4)),("hex_len",.int 4),("hex_str",.str y),("hex_int",.unb)] _ _ _
   rw [show (p:Int)+4=((p+4:Nat):Int) by push_cast;rfl]
   refine ExX.cons (ExS.assign (by walk_at "u") (EvA.callT H (n_int _) (b_int _) (by kernel_rfl) ?_))
   walk_at "s"
   refine OpT.int16 (m:=(v:Int)) a1 (by rw [a2];show y.cps.toList.length≤640;rw [Array.length_toList];show y.length≤640;omega) (by rw [a2];simp) (by rw [a2];exact hr) ?_
   show ExX w _ _ _ _ [("src",.str x),("pos",.int ((p+4:Nat):Int)),("hex_len",.int 4),("hex_str",.str y),("hex_int",.int (v:Int))] _ _ _
   refine ExX.consX (ExX.ite (TsA.not (TsA.val (EvA.callD H (g_is_unicode_scalar_value _) (f_is_unicode_scalar_value _) (by kernel_rfl) ?_))))
   walk_at "s"
   refine scalar_w H (TrT.bool ?_)
   cases hsc:scalar (v:Int) with
   | false =>
    obtain ⟨hp4,hX⟩:=hs1 hsc
    refine ifP (by decide) ?_
    refine ExX.consX (ExX.raise H fun B' H'=>EvA.callD H' (g_suffixed_err _) (f_suffixed_err _) (by kernel_rfl) ?_)
    walk_at "s"
    exact suffix_w H' hx hp4 hsl fun e a n1 n2=>⟨_,e,a,rfl,n1,hX⟩
   | true =>
    refine ifN (by decide) ?_
    refine ExX.of (ExA.nil ?_)
    refine ExX.of (ExA.ret (EvA.tuple ?_))
    walk_at "s"
    refine EvA.callB H (n_chr _) (b_chr _) (by kernel_rfl) ?_
    walk_at "s"
    refine OpT.chr (by exact Int.natCast_nonneg v) (by exact Nat.ToInt.of_le rfl rfl hv) ?_
    walk_at "s"
    exact ⟨[.int ((p+4:Nat):Int),.str ⟨#[v]⟩],rfl,by show 2≤fewItems;decide,hs2 hsc⟩
 ·refine ifN (by simpa using (by exact Nat.ToInt.of_diseq rfl rfl h4:¬ ((y.length:Int)=4))) ?_
  refine ifP (by simpa using (by exact Nat.ToInt.of_diseq rfl rfl h4:¬ ((y.length:Int)=4))) ?_
  exact hraise (by unfold hexOk;rw [Bool.and_eq_false_iff];exact .inl (by simpa using h4)) _
end
section
variable {w:World} {B:Bs} {n:Nat} {env:Env} {loc:Loc} {S:Store} {σ:List Addr} {s:Shared} {A:Around} {Q:AV→Store→Prop} {K:AF→Loc→Store→Prop} {rest:List Stmt}
variable {X:Str→Store→Prop} {Y:Str→Loc→Store→Prop}
theorem PstY.back {τ:List Addr} {S₁:Store} {s₁:Shared} {v:Value} {s':Shared} (W:Wd B σ S s) (W₁:Wd B (σ++τ) S₁ s₁) (x:Ext σ s.heap s₁.heap) (hf:∀ a∈τ,s.heap.get? a=none) (p:PstY B (σ++τ) s₁ X v s'):PstY B σ s X v s':=by
 obtain ⟨τ',S',m,e,t,tk,h₁,base,rfl,W',f',x',r1,A',F',q'⟩:=p
 refine ⟨τ++τ',S',m,e,t,tk,h₁,base,rfl,by rw [← List.append_assoc];exact W',fun a ha=>?_,x.trans x' hf,Ext.new W W₁ x r1,A',F',q'⟩
 rcases List.mem_append.mp ha with q | q
 ·exact hf a q
 ·exact Ext.new W W₁ x (f' a q)
structure EvY (w:World) (B:Bs) (n:Nat) (env:Env) (t:Sem Value) (loc:Loc) (S:Store) (Q:AV→Store→Prop) (X:Str→Store→Prop):Prop where
 run:∀ A σ s,AOk B n A→Wd B σ S s→Fm B σ env loc s.heap→wpAny (model pw w) A t (Pst B σ s Q) (PstY B σ s X) s
theorem EvY.callD (H:St w B) {x:Str} {p pos:Pos} {a:Addr} {fd:FuncData} {e:Expr} {rest:List Expr} (hv:mgF w.params x=some (.ref a)) (hf:(Hp1 w.params).get? a=some ⟨.type "function",none,.func fd,#[]⟩) (hx:env.kindOf x=some .globalImplicit)
  (h:ArT w B n env (spliced (backTo pos (starEach (e::rest) env))) loc S fun avs S₁=>OpX w B n (callD a) avs S₁ Q X) (h5:a≠50:=by decide) (h13:a≠130:=by decide) (hd:(x==("__debug__":Str))=false:=by decide +kernel)
  (he:starEach (e::rest) env=(false,eval e env)::starEach rest env:=by rfl) :
  EvY w B n env (eval (.Call (.Name x p) (e::rest) [] pos) env) loc S Q X:=.mk fun A σ s ha W F =>
 wpAny_Call_NameR (Name_function_global F.ok.kind hx (loadGlobal_global (F.ok.glob▸H.main W) hv (callWith_def (fd:=fd) rfl (by
  refine h.bind ha W F fun vs s₁ τ av S₁ W₁ f₁ x₁ r₁ h₁=>?_
  exact ⟨H.at W₁ hf h5 h13,wpAny_mono (h₁.run A _ s₁ vs ha W₁ r₁) (fun _ s' p=>p.back W W₁ x₁ f₁) fun _ _ p=>p.back W W₁ x₁ f₁⟩) he)) hd)
inductive PstZ (B:Bs) (σ:List Addr) (env:Env) (s:Shared) (Y:Str→Loc→Store→Prop) (v:Value) (s':Shared):Prop
 | mk (τ:List Addr) (loc':Loc) (S':Store) (m:Str) (e t:Addr) (tk:Tok) (h₁ base:Heap) (hv:v=.ref e) (W:Wd B (σ++τ) S' { s' with heap:=h₁ }) (f:∀ a∈τ,s.heap.get? a=none) (x:ExtF σ env.locals s.heap h₁) (F:Fm B (σ++τ) env loc' h₁) (hn:s.heap.get? e=none) (i:Air B base h₁ s'.heap e t m tk) (fl:Heap.FlyingW base B.fr e (.ref 104) (.ref t) s'.heap) (q:Y m loc' S')
theorem PstZ.back {loc₁:Loc} {τ:List Addr} {S₁:Store} {s₁:Shared} {v:Value} {s':Shared} (W₁:Wd B (σ++τ) S₁ s₁) (F₁:Fm B (σ++τ) env loc₁ s₁.heap)
  (x:ExtF σ env.locals s.heap s₁.heap) (hf:∀ a∈τ,s.heap.get? a=none) (p:PstZ B (σ++τ) env s₁ Y v s'):PstZ B σ env s Y v s':=by
 obtain ⟨τ',loc',S',m,e,t,tk,h₁,base,rfl,W',f',x',F',r1,A',Fl,q'⟩:=p
 refine ⟨τ++τ',loc',S',m,e,t,tk,h₁,base,rfl,by rw [← List.append_assoc];exact W',fun a ha=>?_,x.trans x' hf,by rw [← List.append_assoc];exact F',ExtF.new W₁ x F₁.live r1,A',Fl,q'⟩
 rcases List.mem_append.mp ha with q | q
 ·exact hf a q
 ·exact ExtF.new W₁ x F₁.live (f' a q)
structure ExY (w:World) (B:Bs) (n:Nat) (env:Env) (t:Sem Flow) (loc:Loc) (S:Store) (Q:AF→Loc→Store→Prop) (Y:Str→Loc→Store→Prop):Prop where
 run:∀ A σ s,AOk B n A→Wd B σ S s→Fm B σ env loc s.heap→wpAny (model pw w) A t (PstF B σ env s Q) (PstZ B σ env s Y) s
theorem ExY.of {t:Sem Flow} (h:ExT w B n env t loc S K):ExY w B n env t loc S K Y:=.mk fun A σ s ha W F=>h.run A σ s _ ha W F
theorem ExY.cons {st:Stmt} (h:ExY w B n env (exec st env) loc S (fun af loc₁ S₁=>match af with | .next=>ExY w B n env (execs rest env) loc₁ S₁ K Y | af=>K af loc₁ S₁) Y):ExY w B n env (execs (st::rest) env) loc S K Y:=.mk fun A σ s ha W F=>by
 refine wpAny_execs_cons (wpAny_mono (h.run A σ s ha W F) (fun f s₁ p=>?_) fun _ _ e=>e)
 obtain ⟨τ,af,loc₁,S₁,W₁,f₁,x₁,F₁,r₁,h₁⟩:=p
 cases af with
 | next=>obtain rfl:f=.next:=r₁;exact wpAny_mono (h₁.run A _ s₁ ha W₁ F₁) (fun c s₃ p=>p.back F.live W₁ F₁ x₁ f₁) fun _ _ p=>p.back W₁ F₁ x₁ f₁
 | brk=>obtain rfl:f=.brk:=r₁;exact ⟨τ,.brk,loc₁,S₁,W₁,f₁,x₁,F₁,rfl,h₁⟩
 | cont=>obtain rfl:f=.cont:=r₁;exact ⟨τ,.cont,loc₁,S₁,W₁,f₁,x₁,F₁,rfl,h₁⟩
 | ret av=>obtain ⟨v,rfl,r⟩:=r₁;exact ⟨τ,.ret av,loc₁,S₁,W₁,f₁,x₁,F₁,⟨v,rfl,r⟩,h₁⟩
theorem ExY.assignT {elts:List Expr} {k:Nat} {tpos pos:Pos} {value:Expr} (h:EvY w B n env (eval value env) loc S (fun av S₁=>StT w B n env (PySem.assign (.Tuple elts k tpos) env) av loc S₁ fun loc' S'=>K .next loc' S') (fun m S'=>Y m loc S'))
  (hs:swapsWithSole [.Tuple elts k tpos] value pos.line env=pure false:=by rfl) (hw:swappedStores [.Tuple elts k tpos] value env=pure none:=by rfl):ExY w B n env (exec (.Assign [.Tuple elts k tpos] value pos) env) loc S K Y :=
 .mk fun A σ s ha W F=>by
  refine PyProof.Rows.Assign_Tuple (wpAny_mono (h.run A σ s ha W F) (fun v s₁ p=>?_) fun v s' p=>?_) hs hw
  ·obtain ⟨τ,av,S₁,W₁,f₁,x₁,r₁,h₁⟩:=p
   refine wpAny_mono (h₁.run A _ s₁ _ v ha W₁ (F.mono W τ x₁) r₁) (fun _ s' p=>?_) fun _ _ e=>e
   have:=p.back F.live W₁ (F.mono W τ x₁) x₁.toF f₁
   obtain ⟨τ',af,loc',S',a,b,c,d,e,g⟩:=this
   cases af with
   | next=>exact ⟨τ',.next,loc',S',a,b,c,d,e,g⟩
   | brk=>exact absurd e nofun
   | cont=>exact absurd e nofun
   | ret av=>obtain ⟨v,e,_⟩:=e;cases e
  ·obtain ⟨τ,S',m,e,t,tk,h₁,base,rfl,W',f',x',r1,A',Fl,q'⟩:=p
   exact ⟨τ,loc,S',m,e,t,tk,h₁,base,rfl,W',f',x'.toF,F.mono W τ x',r1,A',Fl,q'⟩
end
section
variable {w:World} {B:Bs} {n:Nat} {env:Env} {loc:Loc} {S:Store} {σ:List Addr} {s:Shared} {A:Around} {Q:AV→Store→Prop} {K:AF→Loc→Store→Prop} {rest:List Stmt}
noncomputable def ErrAt (h:Heap) (e t:Addr) (m:Str) (tk:Tok):Prop:=h.get? 104=some tomlO∧h.Ns 103 (nsFind (dictOf (Hp1 w.params) 103))∧(∃ o vs,h.get? e=some o∧o.cls=.ref 104∧o.data=.fields vs∧vs[0]?=some (.ref t))∧h.TupAt t [.str m tk]
theorem no_str (P:Params):nsFind (dictOf (Hp1 P) 103) "__str__"=none:=by kernel_rfl
theorem vbm:mroOf (.type "ValueError")=pure [.type "ValueError",.type "Exception",.type "BaseException",.type "object"]:=PySem.F.excBase_ValueError.mroIs
theorem v_str:typeLookup (.type "ValueError") "__str__"=pure (some (.builtin "BaseException.__str__")):=by rw [typeLookup_type,builtinLookup_eq_fast];kernel_rfl
theorem bstr_bind (self:Value):bindSpecial (.builtin "BaseException.__str__") self=pure (.builtin "BaseException.__str__",[self]):=(show Slot "ValueError" "__str__" "BaseException.__str__" from
 .of (owner:="BaseException") (n:="__str__") (by rw [typeLookup_type,builtinLookup_eq_fast];kernel_rfl) (by decide +kernel) (by decide +kernel) (by decide +kernel)
  (by first | exact .inl (by decide +kernel) | exact .inr (by decide +kernel)) (by rw [isSubtype_type];kernel_rfl)).bind self
theorem bstr_kind:builtinKind "BaseException.__str__"=some .slot:=by decide +kernel
theorem bstr_split:splitId "BaseException.__str__"=some ("BaseException","__str__"):=by decide +kernel
theorem bstr_plain:plainId "BaseException.__str__"=true:=by decide +kernel
section
variable {prog:Program} {w':World} {E:Value→Shared→Prop} {e t:Addr} {m:Str} {tk:Tok} {R:Value→Shared→Prop}
theorem ErrAt.typeOf {R:Value→Shared→Prop} (x:ErrAt (w:=w) s.heap e t m tk) (h:R (.ref 104) s):wpAny (model prog w') A (typeOf (.ref e)) R E s:=by
 obtain ⟨_,_,⟨o,vs,ho,hc,_⟩,_⟩:=x
 obtain ⟨hp,g,d,k,os⟩:=s
 refine wpAny_bind (wpAny_loadPart_at ho ?_)
 rw [hc]
 exact wpAny_pure h
theorem check_bstr {R:Unit→Shared→Prop} {o:Obj} {a:Addr} {h:Heap} {g:Array GenState} {d:Drawn} {k:Nat} {os:OsState} (hC:h.get? 104=some tomlO) (hx:h.get? a=some o) (hc:o.cls=.ref 104) (hq:R () ⟨h,g,d,k,os⟩) :
  wpAny (model prog w') A (checkBuiltinCall "BaseException.__str__" ⟨[.ref a],[]⟩) R E ⟨h,g,d,k,os⟩:=by
 have hk:=bstr_kind
 have hsplit:=bstr_split
 have hcB:(Value.ref 104::[Value.type "ValueError",.type "Exception",.type "BaseException",.type "object"]).contains (.type "BaseException")=true:=by decide +kernel
 have ha:=PySem.F.args_bexc_str (.ref a)
 simp only [checkBuiltinCall,hk,hsplit]
 refine wpAny_bind ?_
 ·unfold isInstance
  repeat (first | (with_reducible refine wpAny_loadPart_at hx ?_;rw [hc]) | (with_reducible refine wpAny_isSubtype_exc hC ?_;rw [hcB]) | wp_step)
  exact hq
theorem bargs {M:Model} {items:List Value} {R:Value×List Value→Shared→Prop} {o:Obj} {vs:Array Value} (ho:s.heap.get? e=some o) (hd:o.data=.fields vs) (h0:vs[0]?=some (.ref t)) (ht:s.heap.TupAt t items) (hq:R (.ref t,items) s) :
  wpAny M A (Builtin.BaseException.bexcArgs (.ref e)) R E s:=by
 obtain ⟨ot,k,hto,_,htd⟩:=ht
 refine wpAny_bind (wpAny_field ho hd h0 (wpAny_bind (wpAny_seqItems hto htd ?_)))
 have:items.toArray.toList=items:=by simp
 show wpAny M A (pure (Value.ref t,items.toArray.toList)) R E s
 rw [this];exact wpAny_pure hq
theorem call_bstr (x:ErrAt (w:=w) s.heap e t m tk) (h:R (.str m tk) s):wpAny (model prog w') A (call (.builtin "BaseException.__str__") [.ref e]) R E s:=by
 obtain ⟨hC,_,⟨o,vs,ho,hc,hd,h0⟩,ht⟩:=x
 obtain ⟨hp,g,d,k,os⟩:=s
 refine wpAny_call (codeAny_call_builtin bstr_plain PySem.F.entry_bexc_str (check_bstr hC ho hc ?_))
 unfold Builtin.«BaseException.__str__»
 repeat (first | with_reducible refine bargs ho hd h0 ht ?_ | wp_step)
 exact h
theorem special_str {R:Option Value→Shared→Prop} (x:ErrAt (w:=w) s.heap e t m tk) (h:R (some (.str m tk)) s):wpAny (model prog w') A (callSpecial? (.ref e) "__str__") R E s:=by
 have x':=x
 obtain ⟨hC,hN,_,_⟩:=x'
 obtain ⟨hp,g,d,k,os⟩:=s
 refine wpAny_bind (wpAny_bind (x.typeOf ?_))
 refine wpAny_typeLookup_exc hC hN vbm v_str ?_
 rw [no_str]
 dsimp only
 exact wpAny_holding (wpAny_bind (wpAny_pure (wpAny_bind (wpAny_mono (call_bstr x (R:=fun v s'=>R (some v) s') h) (fun v s' h'=>wpAny_pure h') fun _ _ h'=>h'))))
theorem strOf_err (hu:A.units<cLine) (x:ErrAt (w:=w) s.heap e t m tk) (h:R (.str m tk) s):wpAny (model prog w') A (Builtin.Str.strOf (.ref e)) R E s:=by
 unfold Builtin.Str.strOf
 repeat (first | with_reducible refine wpAny_cRoomFor hu ?_ | with_reducible refine special_str x ?_ | wp_step)
 exact h
theorem str_err (hu:A.units+2<cLine) (x:ErrAt (w:=w) s.heap e t m tk) (h:R (.str m tk) s):wpAny (model prog w') A (call (.type "str") [.ref e]) R E s :=
 callType_new F.called_str (by decide) (F.typeCall_str_1 _) (F.newCall_str_1 _) (fun obj=>F.args_object_init_2 obj _) F.entry_str_new
  (meets_str_new (S:=fun A' R s'=>A'.units+1<cLine∧ErrAt (w:=w) s'.heap e t m tk∧R (.ok (.ret (.str m tk))) s')
   fun _ _ A' _ _ hq=>strOf_err (w:=w) (A:=A'.in1) hq.1 hq.2.1 hq.2.2)
  ⟨(show A.units+1+1<cLine from hu),x,typeIs_str _ _ _,h⟩
end
end
section
variable {w:World} {B:Bs} {n:Nat} {env:Env} {loc:Loc} {S:Store} {σ:List Addr} {s:Shared} {A:Around} {Q:AV→Store→Prop} {K:AF→Loc→Store→Prop} {rest:List Stmt}
theorem Wd.ns_turn (W:Wd B σ S s) (F:Fm B σ env loc s.heap) {x:Str} (hx:(x,AV.unb)∈loc) {h':Heap} {m m':Str→Option Value} (hn:s.heap.Ns env.locals m) (hm:∀ y av,(y,av)∈loc→av=.unb∨∃ v,Holds s.heap env m y v∧RV σ s.heap av v)
  (hn':h'.Ns env.locals m') (hs:Heap.SameBut env.locals s.heap h') (hmm:∀ y,y≠x→m' y=m y):Wd B σ S { s with heap:=h' }∧Fm B σ env loc h'∧ExtF σ env.locals s.heap h':=by
 have ok:=F.ok
 refine let ZZ:Prop:=_;(?_:ZZ)
 obtain ⟨o,es,ep,ho,hd,hr⟩:=hn
 refine let ZZ:Prop:=_;(?_:ZZ)
 obtain ⟨h1,h2,h3⟩:=W.out_of_dict ho hd
 have ht:∀ o,s.heap.get? env.locals=some o→immO o=false:=fun o' e=>by
  rw [ho] at e;cases e
  obtain ⟨c,d,dt,sl⟩:=o
  subst hd
  cases c <;> rfl
 have W':Wd B σ S { s with heap:=h' }:=W.but (hs.extBut) ok.big h1 h2 h3 ht (.inr (.inl (let ⟨o₂,_,_,e₂,d₂,_⟩:=hn';⟨o₂,e₂,by unfold nsO;rw [d₂]⟩)))
 have rv:∀ av v,RV σ s.heap av v→RV σ h' av v:=fun av v r=>r.keep0 fun a o e i=>hs.extBut a o (by rintro rfl;rw [ht _ e] at i;cases i) e
 refine ⟨W',⟨⟨m',hn',fun y bv hy=>?_⟩,ok⟩,.exact fun a o e _ hL _ _=>hs.extBut a o hL e⟩
 by_cases hyx:y=x
 ·subst hyx
  exact .inl (Option.some.inj ((lookup_of_mem ok.nodup hy).symm.trans (lookup_of_mem ok.nodup hx)))
 ·rcases hm y bv hy with q | ⟨u,q,ru⟩
  ·exact .inl q
  ·refine .inr ⟨u,?_,rv _ _ ru⟩
   rcases q with ⟨q1,q2⟩ | ⟨q1,c,q2,o',ho',hd'⟩
   ·exact .inl ⟨q1,(hmm y hyx).trans q2⟩
   ·exact .inr ⟨q1,c,q2,o',hs.extBut _ _ (by rintro rfl;rw [ho] at ho';cases ho';rw [hd] at hd';cases hd') ho',hd'⟩
noncomputable abbrev toldCall (p2 p3 p4 p5 p6 p7:Pos):Expr:=.Call (.Attribute (.Name "told" p2) "append" p3) [.Call (.Name "str" p4) [.Name "error" p5] [] p6] [] p7
theorem told_append (H:St w B) {E:Value→Shared→Prop} {R:Value→Shared→Prop} {p2 p3 p4 p5 p6 p7:Pos} {e t:Addr} {m:Str} {tk:Tok} {k:Nat} {l:List AV} {mm:Str→Option Value} (W:Wd B σ S s) (F:Fm B σ env loc s.heap) (hu:A.units+4<cLine)
  (hn:s.heap.Ns env.locals mm) (hm:∀ y av,(y,av)∈loc→av=.unb∨∃ v,Holds s.heap env mm y v∧RV σ s.heap av v) (he:mm "error"=some (.ref e)) (hx:ErrAt (w:=w) s.heap e t m tk)
  (htold:((Str.ofString "told",AV.lst k):Str×AV)∈loc) (hS:S[k]?=some l) (hl:l.length≤fewItems)
  (kt:env.kindOf "told"=some .local) (ks:env.kindOf "str"=some .globalImplicit) (ke:env.kindOf "error"=some .local) (hline:(p3.endLine==p7.line)=true)
  (h:∀ h',Wd B σ (S.set k (l++[.str m])) { s with heap:=h' }→Fm B σ env loc h'→(∀ m',s.heap.Ns env.locals m'→h'.Ns env.locals m')→ExtF σ env.locals s.heap h'→R .none { s with heap:=h' }) :
  wpAny (model pw w) A (eval (toldCall p2 p3 p4 p5 p6 p7) env) R E s:=by
 obtain ⟨v,hv,r⟩:∃ v,Holds s.heap env mm "told" v∧RV σ s.heap (.lst k) v:=by
  rcases hm _ _ htold with q | q
  ·cases q
  ·exact q
 have h1:mm "told"=some v:=by
  rcases hv with hv | ⟨hv,_⟩
  ·exact hv.2
  ·rw [kt] at hv;cases hv
 refine let ZZ:Prop:=_;(?_:ZZ)
 obtain ⟨a,us,rfl,ha',p,hr⟩:=W.lst hS r
 have hz:us.size=l.length:=by rw [hr.length];simp
 refine wpAny_Call_method (T:="list") (id:="list.append") (by rfl) (by rfl) hline PySem.F.plainAttrs_list slot_list_append type_list_append (wpAny_Name (wpAny_loadName_local F.ok.kind kt hn h1 ?_) (by decide +kernel))
 refine ⟨p.isList.typeIs,fun b hb=>by cases hb;obtain ⟨n,e⟩:=p;exact ⟨_,e,rfl⟩,callWith_method1 (args_cons ?_ (by rfl)) (by rfl) (by rfl)⟩
 refine wpAny_Call_NameR (Name_function_global F.ok.kind ks (loadGlobal_builtin (F.ok.glob▸H.main W) (n_str _) (F.ok.blt▸H.blt W) (b_str _) (PyProof.Rows.callWith_type1 (args_cons ?_ (by rfl)) (by rfl) (by rfl))) (by decide +kernel))
 refine wpAny_Name (wpAny_loadName_local F.ok.kind ke hn he ?_) (by decide +kernel)
 refine args_nil (str_err (by lia) hx (args_nil ?_))
 refine wpAny_list_append_plain p (fun h' hp hs'=>?_) (by rw [hz];exact Nat.le_trans hl (by decide))
 have W₄:Wd B σ (S.set k (l++[.str m])) { s with heap:=h' }:=W.setList ha' hs' hp (by rw [Array.toList_push];exact hr.append ⟨⟨tk,rfl⟩,trivial⟩)
 have X:=Ext.setList (List.mem_of_getElem? ha') hs' (σ:=σ)
 have F₄:Fm B σ env loc h':=by have:=F.mono W [] X;rwa [List.append_nil] at this
 exact h h' W₄ F₄ (fun m' q=>W.ns_kept X q) X.toF
theorem ErrAt.of (H:St w B) (W:Wd B σ S s) {e t:Addr} {m:Str} {tk:Tok} (h1:∃ o vs,s.heap.get? e=some o∧o.cls=.ref 104∧o.data=.fields vs∧vs[0]?=some (.ref t)) (h2:s.heap.TupAt t [.str m tk]):ErrAt (w:=w) s.heap e t m tk :=
 ⟨H.at W (o_tomlO _),H.tomlNs W,h1,h2⟩
theorem handle_as {G:Flow→Shared→Prop} {E:Value→Shared→Prop} {base:Heap} {l:List Env} {e:Addr} {a0:Value} {st:Stmt} {p1 p9:Pos}
  (hcl:∀ E,wpAny (model pw w) (A.mark (some (.ref e))) (eval (.Name "TOMLDecodeError" p1) env) (fun c s₂=>c=.ref 104∧s₂=s) E s) (hC:s.heap.get? 104=some tomlO) (Fl:Heap.FlyingW base l e (.ref 104) a0 s.heap)
  (ke:env.kindOf "error"=some .local) (hp:(env.scope.kind==.class||(env.scope.kind==.module&&env.locals != env.globals))=false)
  (suite:∀ h₆,Heap.FlyingW base l e (.ref 104) a0 h₆→s.heap.UpToSlots h₆→∃ mm,h₆.Ns env.locals mm∧∀ h₇ E,h₇.Ns env.locals (fun x=>if x="error" then some (.ref e) else mm x)→Heap.SameBut env.locals h₆ h₇ →
   wpAny (model pw w) (A.mark (some (.ref e))) (exec st env) (fun f s₃=>f=.next∧∃ mm,s₃.heap.Ns env.locals mm∧∀ h₉ v,h₉.Ns env.locals (fun x=>if x="error" then v else mm x)→Heap.SameBut env.locals s₃.heap h₉→G .next { s₃ with heap:=h₉,toks:=s₃.toks+1 }) E { s with heap:=h₇,toks:=s.toks+1 }) :
  wpAny (model pw w) A (handleBy (.ref e) env [.ExceptHandler (some (.Name "TOMLDecodeError" p1)) (some "error") [st] p9]) G E s:=by
 refine wpAny_handleBy_cons (codeAny_handlers_test (wpAny_mono (hcl _) (fun c s₂ hc=>?_) fun _ _ y=>y)) (fun q=>nomatch q)
 refine let ZZ:Prop:=_;(?_:ZZ)
 obtain ⟨rfl,rfl⟩:=hc
 obtain ⟨oe,vs,he,hcls,hd,h0⟩:=Fl.first
 refine wpAny_excMatches_sub_self hC he hcls (by decide +kernel) (codeAny_handlers_suite_as (lands_againW Fl fun h₆ hfl₆ hsm₆=>?_))
 refine let ZZ:Prop:=_;(?_:ZZ)
 obtain ⟨mm,hn,suite⟩:=suite h₆ hfl₆ hsm₆
 refine wpAny_storeName_local (s:={ s₂ with heap:=h₆ }) ke hn (fun h₇ hn₇ hs₇=>?_) hp
 refine wpAny_execs_cons (wpAny_mono (suite h₇ _ hn₇ hs₇) (fun f s₃ p=>?_) fun _ _ y=>y)
 refine let ZZ:Prop:=_;(?_:ZZ)
 obtain ⟨rfl,mm,hn,k⟩:=p
 exact wpAny_execs_nil (wpAny_nameGoes_keeps ke hn hp fun h₉ v hn₉ hs₉=>k h₉ v hn₉ hs₉)
theorem ExS.tryTold (H:St w B) {body:List Stmt} {p1 p2 p3 p4 p5 p6 p7 p8 p9 p10:Pos} {fr':List Env} (hB:B.fr=env::fr') (hf:env.frame=some env.locals)
  (kc:env.kindOf "TOMLDecodeError"=some .globalImplicit) (kt:env.kindOf "told"=some .local) (ks:env.kindOf "str"=some .globalImplicit) (ke:env.kindOf "error"=some .local) (hline:(p3.endLine==p7.line)=true)
  (hi:interactive env=false) (hsw:swapsWith (toldCall p2 p3 p4 p5 p6 p7) none p8.line env=pure false)
  (h:ExY w B n env (execs body env) loc S K fun m loc' S'=>PlainS S'∧PlainL loc'∧((Str.ofString "error",AV.unb):Str×AV)∈loc'∧∃ k l,((Str.ofString "told",AV.lst k):Str×AV)∈loc'∧S'[k]?=some l∧l.length≤fewItems∧K .next loc' (S'.set k (l++[.str m]))) :
  ExS w B n env (.Try body [.ExceptHandler (some (.Name "TOMLDecodeError" p1)) (some "error") [.Expr (toldCall p2 p3 p4 p5 p6 p7) p8] p9] [] [] p10) loc S K:=.mk fun A σ s E ha W F=>by
 refine wpAny_Try_except (wpAny_mono (h.run A σ s ha W F) (fun f s₁ p=>?_) (fun v s₁ p=>?_))
 ·refine let ZZ:Prop:=_;(?_:ZZ)
  obtain ⟨τ,af,loc₁,S₁,W₁,f₁,x₁,F₁,r₁,h₁⟩:=p
  cases af with
  | next=>obtain rfl:f=.next:=r₁;exact wpAny_execs_nil ⟨τ,.next,loc₁,S₁,W₁,f₁,x₁,F₁,rfl,h₁⟩
  | brk=>obtain rfl:f=.brk:=r₁;exact ⟨τ,.brk,loc₁,S₁,W₁,f₁,x₁,F₁,rfl,h₁⟩
  | cont=>obtain rfl:f=.cont:=r₁;exact ⟨τ,.cont,loc₁,S₁,W₁,f₁,x₁,F₁,rfl,h₁⟩
  | ret av=>obtain ⟨v,rfl,r⟩:=r₁;exact ⟨τ,.ret av,loc₁,S₁,W₁,f₁,x₁,F₁,⟨v,rfl,r⟩,h₁⟩
 refine let ZZ:Prop:=_;(?_:ZZ)
 obtain ⟨τ,loc',S',m,e,t,tk,h₁,base,rfl,W',f',x',F',r1,Ai,Fl,pS,pL,hue,k,l,htold,hS,hl,q⟩:=p
 have hb:B.heap.get? e=none:=W.newB r1
 rw [hB] at Fl
 refine wpAny_looks_onW (hB▸ha.frames) hf Fl fun h₄ hheld₄ hsm₄=>?_
 refine wpAny_landsW (s:={ s₁ with heap:=h₄ }) hheld₄ fun h₅ hfl₅ hsm₅=>?_
 have A₅:=Ai.on hfl₅.1 (hsm₄.trans hsm₅)
 have W₅:Wd B (σ++τ) S' { s₁ with heap:=h₅ }:=A₅.wd W' pS hb
 refine handle_as (s:={ s₁ with heap:=h₅ }) (fun E=>Name_function_global F.ok.kind kc (loadGlobal_global (F.ok.glob▸H.main W₅) (g_toml _) ⟨rfl,rfl⟩) (by decide +kernel)) (H.at W₅ (o_tomlO _)) hfl₅ ke (by rw [F.ok.kind];rfl) fun h₆ hfl₆ hsm₆=>?_
 have A₆:=A₅.on hfl₆.1 hsm₆
 have W₆:Wd B (σ++τ) S' { s₁ with heap:=h₆ }:=A₆.wd W' pS hb
 have F₆:=A₆.fm F' pL
 obtain ⟨oe6,vs6,he6,hcls6,hd6,h06⟩:=hfl₆.first
 obtain ⟨⟨mm,hn,hm⟩,_⟩:=id F₆
 refine ⟨mm,hn,fun h₇ E₇ hn₇ hs₇=>?_⟩
 refine let ZZ:Prop:=_;(?_:ZZ)
 obtain ⟨W₇,F₇,X₇⟩:=W₆.ns_turn F₆ hue hn hm hn₇ hs₇ (fun y hy=>if_neg hy)
 obtain ⟨mm7,hn7',hm7⟩:=F₇.ns
 have hEr:ErrAt (w:=w) h₇ e t m tk:=ErrAt.of H W₇ ⟨oe6,vs6,hs₇.extBut _ _ (F₆.neF he6 hd6) he6,hcls6,hd6,h06⟩ ⟨_,_,hs₇.extBut _ _ (F₆.neS (A₆.stays _ _ A₆.tup) rfl) (A₆.stays _ _ A₆.tup),rfl,rfl⟩
 have W₇':Wd B (σ++τ) S' { s₁ with heap:=h₇,toks:=s₁.toks+1 }:=W₇.same
 refine wpAny_Expr_any (told_append H (s:={ s₁ with heap:=h₇,toks:=s₁.toks+1 }) W₇' F₇ (show A.units+4<cLine by have:=ha.units;simp only [cLine];lia) hn₇ (fun y av hy=>(hm7 y av hy).imp id fun ⟨v,hv,r⟩=>⟨v,hv.imp (fun a=>⟨a.1,(Heap.Ns.agree hn₇ hn7' y).trans a.2⟩) id,r⟩) (if_pos rfl) hEr htold hS hl kt ks ke hline fun h₈ W₈ F₈ hk₈ X₈=>⟨rfl,?_⟩) hi hsw
 obtain ⟨⟨mm8,hn8,hm8⟩,_⟩:=id F₈
 refine ⟨mm8,hn8,fun h₉ v hn₉ hs₉=>?_⟩
 obtain ⟨W₉,F₉,X₉⟩:=W₈.ns_turn F₈ hue hn8 hm8 hn₉ hs₉ (fun y hy=>if_neg hy)
 exact ⟨τ,.next,loc',_,W₉.same,f',(((A₆.ext x' r1).trans X₇ f').trans X₈ f').trans X₉ f',F₉,rfl,q⟩
noncomputable abbrev callK (a:Addr) (np:Nat) (ks:List Str):List Value→Sem Value:=fun vs=>call (.ref a) (vs.take np) (ks.zip (vs.drop np))
theorem ArT.kwNil {pos:Pos} {R:List AV→Store→Prop} (q:R [] S):ArT w B n env (evalAll ((backToKw pos (keywordEach [] env)).map (·.2))) loc S R:=.mk fun _ _ s _ _ W _ =>
 kwAll_nil ⟨[],[],S,by rwa [List.append_nil],nofun,Ext.refl _ _,trivial,q⟩
theorem ArT.kwCons {pos p:Pos} {name:Str} {value:Expr} {rest:List Keyword} {R:List AV→Store→Prop} (h:EvA w B n env value loc S fun av S₁=>ArT w B n env (evalAll ((backToKw pos (keywordEach rest env)).map (·.2))) loc S₁ fun avs S₂=>R (av::avs) S₂) :
  ArT w B n env (evalAll ((backToKw pos (keywordEach (⟨some name,value,p⟩::rest) env)).map (·.2))) loc S R:=.mk fun A σ s E ha W F=>by
 refine kwAll_cons (h.bind ha W F fun v s₁ τ av S₁ W₁ f₁ x₁ r₁ h₁=>?_)
 refine h₁.bind ha W₁ (F.mono W τ x₁) fun vs s₂ τ₂ avs S₂ W₂ f₂ x₂ r₂ h₂=>?_
 have p:PstL B (σ++τ) s₁ R (v::vs) s₂:=⟨τ₂,av::avs,S₂,W₂,f₂,x₂,⟨r₁.mono W₁ x₂,r₂⟩,h₂⟩
 exact p.back W W₁ x₁ f₁
theorem EvA.callDK (H:St w B) {x:Str} {p pos:Pos} {a:Addr} {fd:FuncData} {e:Expr} {rest:List Expr} {kws:List Keyword} {ks:List Str} {np:Nat} (hv:mgF w.params x=some (.ref a)) (hf:(Hp1 w.params).get? a=some ⟨.type "function",none,.func fd,#[]⟩) (hx:env.kindOf x=some .globalImplicit)
  (hks:(backToKw pos (keywordEach kws env)).filterMap (·.1)=ks) (hall:(backToKw pos (keywordEach kws env)).all (·.1.isSome)=true)
  (h:ArT w B n env (spliced (backTo pos (starEach (e::rest) env))) loc S fun avs S₁=>avs.length=np∧ArT w B n env (evalAll ((backToKw pos (keywordEach kws env)).map (·.2))) loc S₁ fun kvs S₂=>OpT w B n (callK a np ks) (avs++kvs) S₂ Q) (h5:a≠50:=by decide) (h13:a≠130:=by decide) (hd:(x==("__debug__":Str))=false:=by decide +kernel)
  (he:starEach (e::rest) env=(false,eval e env)::starEach rest env:=by rfl) :
  EvA w B n env (.Call (.Name x p) (e::rest) kws pos) loc S Q:=.mk fun A σ s E ha W F=>by
 refine wpAny_bind (Name_function_global F.ok.kind hx (loadGlobal_global (F.ok.glob▸H.main W) hv (callWith_def_kw (o:=⟨.type "function",none,.func fd,#[]⟩) (fd:=fd) rfl (evalArgs_kw2 hall ?_ he))) hd)
 refine h.bind ha W F fun vs s₁ τ avs S₁ W₁ f₁ x₁ r₁ p=>?_
 obtain ⟨hnp,h₁⟩:=p
 refine h₁.bind ha W₁ (F.mono W τ x₁) fun kvs s₂ τ₂ kavs S₂ W₂ f₂ x₂ r₂ h₂=>?_
 refine ⟨H.at W₂ hf h5 h13,?_⟩
 have hr:All2 (RV ((σ++τ)++τ₂) s₂.heap) (avs++kavs) (vs++kvs):=(All2.monoRV W₁ τ₂ x₂ r₁).append r₂
 have hl:vs.length=np:=by rw [← r₁.length];exact hnp
 have:=h₂.run A _ s₂ E (vs++kvs) ha W₂ hr
 have e2:callK a np ks (vs++kvs)=call (.ref a) vs (((backToKw pos (keywordEach kws env)).filterMap (·.1)).zip kvs):=by
  show call _ ((vs++kvs).take np) (ks.zip ((vs++kvs).drop np))=_
  rw [← hl,List.take_left,List.drop_left,hks]
 rw [e2] at this
 exact wpAny_mono this (fun _ s' p=>(p.back W₁ W₂ x₂ f₂).back W W₁ x₁ f₁) fun _ _ e=>e
theorem OpT.defK (H:St w B) {fa c i np:Nat} {ks:List Str} {nm:Str} {pm:Value} {ps:List Str} (ls:List Str) {avs:List AV} (loc₀:Loc)
  (hf:(Hp1 w.params).get? fa=some ⟨.type "function",none,.func (fdOf i nm c pm),#[]⟩)
  (hc:∃ vs t,(Hp1 w.params).get? c=some ⟨.type "code",none,.fields vs,#[]⟩∧vs[1]?=some (.str nm t))
  (hlen:ps.length=avs.length)
  (hbind:∀ vs:List Value,vs.length=ps.length→bindArgs (fdOf i nm c pm) ⟨vs.take np,ks.zip (vs.drop np)⟩=pure (ps.zip vs))
  (hnd:(ps++ls).Nodup)
  (hcell:∀ x∈(fnS i).names,x.2≠.cell) (hloc:∀ x∈ps,(fnS i).names.lookup x=some .local)
  (h:∀ L,B.heap.get? L=none→St w (B.into (callEnv (fdOf i nm c pm) L fa))→ExA w (B.into (callEnv (fdOf i nm c pm) L fa)) n (callEnv (fdOf i nm c pm) L fa) (fnB i) loc₀ S fun f _ S'=>match f with | .ret av=>Q av S' | .next=>Q .none S' | _=>False)
  (hl₀:loc₀=ps.zip avs++ls.map fun x=>(x,.unb):=by rfl) (h5:fa≠50:=by decide) (h13:fa≠130:=by decide) (c5:c≠50:=by decide) (c13:c≠130:=by decide)
  (hco:(fnS i).isCoroutine=false:=by kernel_rfl) (hgen:(fnS i).isGenerator=false:=by kernel_rfl) (hk:(fnS i).kind=.function:=by kernel_rfl) :
  OpT w B (n+1) (callK fa np ks) avs S Q:=.mk fun A σ s E vs ha W r=>by
 subst hl₀
 have hvl:vs.length=ps.length:=by rw [hlen,r.length]
 have hloc':∀ x∈ps.zip vs,(fnS i).names.lookup x.1=some .local:=fun x hx=>hloc x.1 (List.of_mem_zip hx).1
 refine wpAny_call (codeAny_call_def (fd:=fdOf i nm c pm) (body:=fnB i) (binds:=ps.zip vs) ha.room (H.at W hf h5 h13) rfl (H.nolimit W) ?_ rfl (BindsTo.of_eq (hbind vs hvl)) hcell hloc' (fun h₀ hn₀ hk₀=>?_) hco hgen hk)
 ·obtain ⟨us,t,hg,hu⟩:=hc
  exact ⟨c,_,us,t,rfl,H.at W hg c5 c13,rfl,hu⟩
 have hnone:s.heap.get? s.heap.objs.size=none:=Heap.get?_none_of_le (Nat.le_refl _)
 obtain ⟨W₀,F₀⟩:=entered (e:=callEnv (fdOf i nm c pm) s.heap.objs.size fa) (ls:=ls) (tk:=s.toks+(ps.zip vs).length) W r hlen hnd hloc rfl hk rfl rfl hnone hn₀ hk₀
 refine (h s.heap.objs.size (W.newB hnone) ⟨H.yp⟩).bind (ha.deeper _) W₀ F₀ fun f s' τ af loc' S' W' f' x' F' r' q'=>?_
 have W':=W'.out
 have X:=ext_back x' hk₀ hnone
 have ft:∀ a∈τ,s.heap.get? a=none:=fun a ha=>fresh_back hk₀ (f' a ha)
 cases af with
 | next=>obtain rfl:f=.next:=r';exact ⟨τ,.none,S',W',ft,X,rfl,q'⟩
 | brk=>exact q'.elim
 | cont=>exact q'.elim
 | ret av=>obtain ⟨v,rfl,rv⟩:=r';exact ⟨τ,av,S',W',ft,X,rv,q'⟩
theorem ExS.tryQuiet {body:List Stmt} {h₀:ExceptHandler} {hs:List ExceptHandler} {pos:Pos} (h:ExA w B n env body loc S K):ExS w B n env (.Try body (h₀::hs) [] [] pos) loc S K:=.mk fun A σ s E ha W F=>by
 refine wpAny_Try_except (h.bind ha W F fun f s₁ τ af loc₁ S₁ W₁ f₁ x₁ F₁ r₁ h₁=>?_)
 cases af with
 | next=>obtain rfl:f=.next:=r₁;exact wpAny_execs_nil ⟨τ,.next,loc₁,S₁,W₁,f₁,x₁,F₁,rfl,h₁⟩
 | brk=>obtain rfl:f=.brk:=r₁;exact ⟨τ,.brk,loc₁,S₁,W₁,f₁,x₁,F₁,rfl,h₁⟩
 | cont=>obtain rfl:f=.cont:=r₁;exact ⟨τ,.cont,loc₁,S₁,W₁,f₁,x₁,F₁,rfl,h₁⟩
 | ret av=>obtain ⟨v,rfl,r⟩:=r₁;exact ⟨τ,.ret av,loc₁,S₁,W₁,f₁,x₁,F₁,⟨v,rfl,r⟩,h₁⟩
namespace FZ
theorem mro_frozenset:mroOf (.type "frozenset")=pure [.type "frozenset",.type "object"]:=by rw [mroOf_type];kernel_rfl
theorem lookup_frozenset_new:typeLookup (.type "frozenset") "__new__"=pure (some (.builtin "frozenset.__new__")):=by rw [typeLookup_type,builtinLookup_eq_fast];kernel_rfl
theorem sub_frozenset:isSubtype (.type "frozenset") (.type "frozenset")=pure true:=by rw [isSubtype_type];kernel_rfl
theorem slot_frozenset_init:Slot "frozenset" "__init__" "object.__init__" :=
 .of (owner:="object") (n:="__init__") (by rw [typeLookup_type,builtinLookup_eq_fast];kernel_rfl) (by decide +kernel) (by decide +kernel) (by decide +kernel)
  (by first | exact .inl (by decide +kernel) | exact .inr (by decide +kernel)) (by rw [isSubtype_type];kernel_rfl)
theorem called_frozenset:TypeCalled "frozenset" "frozenset.__new__" "object.__init__" :=
 ⟨by decide +kernel,by decide +kernel,⟨_,_,mro_frozenset⟩,madeBy_type mro_frozenset lookup_frozenset_new (by decide +kernel),by decide +kernel,sub_frozenset,slot_frozenset_init⟩
theorem typeCall_frozenset_0:checkTypeCall "frozenset" ⟨[],[]⟩=pure ():=by kernel_rfl
theorem newCall_frozenset_0:checkBuiltinCall "frozenset.__new__" ⟨[.type "frozenset"],[]⟩=pure ():=by kernel_rfl
theorem entry_frozenset_new:entryFor table "frozenset.__new__"=some Builtin.«frozenset.__new__»:=entryFor_of_tree (by kernel_rfl)
theorem init_frozenset:typeLookup (.type "frozenset") "__init__"=pure (some (.builtin "object.__init__")):=by rw [typeLookup_type,builtinLookup_eq_fast];kernel_rfl
end FZ
noncomputable abbrev froO (b:Bool):Obj:={ cls:=.type "frozenset",data:=.set #[] 0 (.fresh 0 0 b) }
set_option maxHeartbeats 3200000 in
theorem meets_froz0:Meets (Builtin.«frozenset.__new__» ⟨[.type "frozenset"],[]⟩) (fun _ R s=>∀ b,R (.ok (.ret (.ref s.heap.objs.size))) { s with heap:=s.heap.push (froO b) }):=.of_wp fun prog w A R s h=>by
 have hsub:=FZ.sub_frozenset
 have hini:=FZ.init_frozenset
 obtain ⟨hp,g,d,tk,os⟩:=s
 (refine wpAny_bind ?_;refine wpAny_bind ?_;wp_delta;refine wpAny_pure ?_;refine wpAny_bind ?_;refine wpAny_of_eq (by assumption) ?_;refine wpAny_pure ?_;refine wpAny_bind ?_;refine wpAny_of_eq (by assumption) ?_;refine wpAny_bind ?_;wp_delta;refine wpAny_pure ?_;refine wpAny_bind ?_;wp_delta;wp_delta;refine wpAny_pure ?_;refine wpAny_bind ?_;wp_delta;refine wpAny_pure ?_;refine wpAny_bind ?_;wp_delta;refine wpAny_bind ?_;wp_delta;refine wpAny_bind ?_)
 refine wpAny_askSetting (wpAny_pure ?_)
 refine wpAny_bind (wpAny_alloc (wpAny_pure ?_))
 exact wpAny_pure ⟨_,rfl,h _⟩
theorem EvA.froz0 (H:St w B) {x:Str} {p pos:Pos} (hg:mgF w.params x=none) (hv:mbF w.params x=some (.type "frozenset")) (hx:env.kindOf x=some .globalImplicit)
  (q:∀ b,Q (.obj (froO b)) S) (hd:(x==("__debug__":Str))=false:=by decide +kernel):EvA w B n env (.Call (.Name x p) [] [] pos) loc S Q:=.mk fun A σ s E ha W F=>by
 refine wpAny_Call_NameR (Name_function_global F.ok.kind hx (loadGlobal_builtin (F.ok.glob▸H.main W) hg (F.ok.blt▸H.blt W) hv (PyProof.Rows.callWith_type0 ?_)) hd)
 refine callType_new FZ.called_frozenset (by decide) FZ.typeCall_frozenset_0 FZ.newCall_frozenset_0 (fun obj=>PySem.F.args_object_init_1 obj) FZ.entry_frozenset_new meets_froz0 ?_
 intro b
 exact ⟨⟨_,Heap.get?_push_size _ rfl,rfl⟩,.now (av:=.obj (froO b)) (W.push _) (Ext.push _ _) ⟨_,rfl,Heap.get?_push_size _ rfl,rfl,FnOk.no (fun fd e=>by cases e)⟩ (q b)⟩
theorem fro_froz (b:Bool) (B:Bs) (σ:List Addr) (S:Store) (s:Shared) (v:Value) (_W:Wd B σ S s) (r:RV σ s.heap (.obj (froO b)) v) (_H:StH w B.heap):∃ a,v=.ref a∧FrozAt (strKind pw w) s.heap a (fun _=>false) 0:=by
 obtain ⟨a,rfl,g,_,_⟩:=r
 exact ⟨a,rfl,#[],0,.fresh 0 0 b,g,fun e he=>by simp at he,fun k=>by simp,rfl,by rfl⟩
theorem until_w (H:St w B) {b:Bool} {x:Str} {p q0:Nat} (hx:x.length<500) (hasc:x.cps.all (·<128)=true) (hp:p≤q0) (hq:(posL x.cps.toList 10 p (x.length-p)).head?=some q0) (hq0:q0<x.length)
  (q:Q (.int (q0:Int)) S):OpT w B (n+1) (callK 121 3 ["error_on","error_on_eof"]) [.str x,.int (p:Int),.str "\n",.obj (froO b),.bool false] S Q:=by
 refine OpT.defK H (ps:=["src","pos","expect","error_on","error_on_eof"]) ["new_pos"] [("src",.str x),("pos",.int (p:Int)),("expect",.str "\n"),("error_on",.obj (froO b)),("error_on_eof",.bool false),("new_pos",.unb)] (f_skip_until _) (c_skip_until _) rfl (all5 fun _ _ _ _ _=>by kernel_rfl) (by decide +kernel) (by decide +kernel) (by decide +kernel) (fun L hL H=>?_)
 have hnl:Str.ofString "\n"=⟨#[10]⟩:=nl_is
 have fewx:x.length≤fewItems:=by unfold fewItems;lia
 have hcu:Cuts x (some (p:Int)) (some (q0:Int)) p q0:=by
  have:=cuts_min (x:=x) (p:=p) (q:=q0) (by lia) hp
  rwa [Nat.min_eq_left (by exact Nat.le_of_succ_le hq0)] at this
 refine ExA.cons (ExS.tryQuiet ?_)
 refine ExA.assign (by walk_at "u") (EvA.meth (T:="str") (id:="str.index") ?_ PySem.F.plainAttrs_str PySem.F.slot_str_index PySem.F.type_str_index)
 walk_at "s"
 refine ⟨rfl,?_⟩
 walk_at "s"
 refine OpT.index3 hq (ExA.nil ?_)
 refine ExA.cons (ExS.ite (TsA.not (TsA.val (EvA.methG (T:="frozenset") (id:="frozenset.isdisjoint") ?_ FZ.plainAttrs_frozenset FZ.slot_frozenset_isdisjoint FZ.type_frozenset_isdisjoint))))
 walk_at "s"
 refine ⟨froz_ty H (fro_froz b),ArT.cons (EvA.sliceS ?_)⟩
 walk_at "s"
 refine EvP.yes ?_
 walk_at "s"
 refine ⟨_,rfl,EvP.yes ?_⟩
 walk_at "s"
 refine ⟨_,rfl,x,p,q0,rfl,hcu,fewx,?_⟩
 walk_at "s"
 refine OpT.disj (fro_froz b) H (by decide) (cut_ascii hasc) ?_
 refine TrT.bool ?_
 refine ifN (by simp) ?_
 refine ExA.nil ?_
 refine ExA.ret ?_
 walk_at "s"
 exact q
end
section
variable {w:World} {B:Bs} {n:Nat} {env:Env} {loc:Loc} {S:Store} {σ:List Addr} {s:Shared} {A:Around} {Q:AV→Store→Prop} {K:AF→Loc→Store→Prop} {rest:List Stmt}
section
variable {M:Model} {E:Value→Shared→Prop} {base:Heap} {outer:List Env} {L e:Addr} {cls a0:Value} {R:Unit→Shared→Prop}
theorem note_first {oe:Obj} {vs:Array Value} (hfr:A.frames=some (env::outer)) (hl:s.heap.FunFrames base (env::outer)) (hf:env.frame=some L)
  (he:s.heap.get? e=some oe) (hkb:base.StaysIn s.heap) (hen:base.get? e=none) (hd:oe.data=.fields vs) (h1:vs[1]?=some .none) (h0:vs[0]?=some a0)
  (h:∀ h',Heap.HeldW base (env::outer) e oe.cls a0 L h'→s.heap.UpToSlots h'→R () { s with heap:=h' }):wpAny M A (noteFrame (.ref e) env) R E s:=by
 unfold noteFrame
 rw [hf]
 refine wpAny_bind (wpAny_field he hd h1 (wpAny_ite_false (by decide) ?_))
 exact wpAny_entryW hfr hl hf he hkb hen hd (Array.getElem?_eq_some_iff.mp h1).1 h0 fun h' ⟨k1,k2,k3,k4⟩=>h h' ⟨k1,hen,k2,k3⟩ k4
theorem flight_some {l:List Env} (x:Heap.HeldW base l e cls a0 L s.heap) (h:∀ h',Heap.HeldW base l e cls a0 L h'→s.heap.UpToSlots h'→R () { s with heap:=h' }):wpAny M A (setFlight (.ref e) (some L)) R E s:=by
 obtain ⟨hkb,hen,hl,oe,vs,T,oT,ts,he,hcls,hd,h1,hnT,hTe,hT,hdT,h3⟩:=x
 have hsz3:3<ts.size:=(Array.getElem?_eq_some_iff.mp h3).1
 have other:∀ b,b≠T→(s.heap.update T (Obj.mapFields (·.setIfInBounds 3 ((some L:Option Addr).elim Value.none fun f=>rawInt f)))).get? b=s.heap.get? b :=
  fun b hb=>Heap.get?_update_other _ _ (Ne.symm hb)
 have noRecord:∀ b o,s.heap.get? b=some o→(∀ vs,o.data≠.fields vs)→b≠T:=fun b o hb hnf q=>by
  rw [q,hT] at hb;injection hb with hb;subst hb;exact hnf ts hdT
 refine wpAny_bind (wpAny_field he hd h1 (wpAny_ite_true (by simp) ?_))
 refine wpAny_setField hT hdT hsz3 (h _ ⟨fun b o hbo=>(other b fun q=>by rw [q,hnT] at hbo;cases hbo).trans (hkb b o hbo),hen,
  hl.of_keeps fun b o hb hnf=>⟨o,(other b (noRecord b o hb hnf)).trans hb,rfl⟩,?_⟩ fun b o hb hnf=>⟨o.slots,(other b (noRecord b o hb hnf)).trans hb⟩)
 exact ⟨oe,vs,T,_,_,(other e (Ne.symm hTe)).trans he,hcls,hd,h1,hnT,hTe,Heap.get?_update_self _ hT (Obj.isFreed_of_fields (Obj.data_mapFields hdT _)),Obj.data_mapFields hdT _,by simp [hsz3]⟩
end
theorem Wd.slots (W:Wd B σ S s) {h':Heap} (hst:(wout s.heap (B.fr.filterMap (·.frame))).StaysIn h') (hup:s.heap.UpToSlots h'):Wd B σ S { s with heap:=h' }∧Ext σ s.heap h':=by
 have k1:∀ a o,s.heap.get? a=some o→(nsO o=false∨B.heap.get? a=some o)→h'.get? a=some o:=fun a o g hc=>by
  refine hst a o ?_
  rw [wout_out _ _ ?_];exact g
  intro q
  obtain ⟨ev,me,q⟩:=List.mem_filterMap.mp q
  obtain ⟨_,L',o',es,ep,h2,h3,h4,h5⟩:=W.frs ev me
  rw [q] at h2;cases h2
  rw [g] at h4;cases h4
  rcases hc with hc | hc
  ·unfold nsO at hc;rw [h5] at hc;cases hc
  ·exact nos h3 hc
 have X:Ext σ s.heap h':=⟨fun a o g h1 h5 h13=>by
  by_cases n:nsO o=true
  ·obtain ⟨sl,q'⟩:=hup a o g (fun vs d=>by unfold nsO at n;rw [d] at n;cases n)
   exact ⟨_,q',⟨sl,rfl⟩,fun n'=>by rw [n] at n';cases n'⟩
  ·exact ⟨o,k1 a o g (.inl (by simpa using n)),.refl o⟩⟩
 have ki:∀ a o,s.heap.get? a=some o→immO o=true→h'.get? a=some o:=fun a o g i=>k1 a o g (.inl (nsO_imm i))
 refine ⟨⟨W.len,W.nodup,W.fresh,fun i l q=>?_,fun a o q h5 h13=>k1 a o (W.kept a o q h5 h13) (.inr q),W.tabs.keep ki (fun o g=>?_) (fun o g=>?_),W.gens,W.os,W.frs.keep fun a o g n=>?_⟩,X⟩
 ·refine let ZZ:Prop:=_;(?_:ZZ)
  obtain ⟨a,vs,h1,⟨k,h2⟩,h3⟩:=W.lists i l q
  exact ⟨a,vs,h1,⟨k,k1 a _ h2 (.inl rfl)⟩,All2.mono (fun _ _ r=>r.keep0 ki) h3⟩
 ·obtain ⟨ps,q⟩:=W.tabs.t50
  obtain rfl:=Option.some.inj (g.symm.trans q)
  exact k1 _ _ q (.inl rfl)
 ·obtain ⟨ps,q⟩:=W.tabs.t130
  obtain rfl:=Option.some.inj (g.symm.trans q)
  exact k1 _ _ q (.inl rfl)
 ·obtain ⟨sl,q'⟩:=hup a o g (fun vs d=>by unfold nsO at n;rw [d] at n;cases n)
  exact ⟨_,q',n⟩
end
section
variable {w:World} {B:Bs} {n:Nat} {env:Env} {loc:Loc} {S:Store} {σ:List Addr} {s:Shared} {A:Around} {Q:AV→Store→Prop} {K:AF→Loc→Store→Prop} {rest:List Stmt}
structure RaiseI (w:World) (B:Bs) (n:Nat) (env:Env) (t:Sem Bool) (loc:Loc) (S:Store):Prop where
 run:∀ A σ s,AOk B n A→Wd B σ S s→Fm B σ env loc s.heap→wpAny (model pw w) A t (fun _ _=>False) (fun v s'=>∃ e h' tk,v=.ref e∧Heap.NewExc s.heap h' e "IndexError"∧s'={ s with heap:=h',toks:=tk }) s
theorem idx_base:isSubtype (.type "IndexError") (.type "BaseException")=pure true:=by rw [isSubtype_type];kernel_rfl
theorem idx_self:isSubtype (.type "IndexError") (.type "IndexError")=pure true:=by rw [isSubtype_type];kernel_rfl
theorem idx_tuple:isSubtype (.type ((Manifest.find? "IndexError").elim "type" fun x=>x.metatype)) (.type "tuple")=pure false:=by rw [isSubtype_type];kernel_rfl
theorem idx_caught (H:St w B) {E:Value→Shared→Prop} {R:Flow→Shared→Prop} {p1 p2 p3:Pos} {fr':List Env} (ha:AOk B n A) (hB:B.fr=env::fr') (hf:env.frame=some env.locals) (kI:env.kindOf "IndexError"=some .globalImplicit)
  (W:Wd B σ S s) (F:Fm B σ env loc s.heap) {e:Addr} {h':Heap} {tk:Nat} (hx:Heap.NewExc s.heap h' e "IndexError")
  (k:∀ h'',Wd B σ S { s with heap:=h'',toks:=tk }→Ext σ s.heap h''→Fm B σ env loc h''→R .next { s with heap:=h'',toks:=tk }) :
  notedBy (model pw w) A env (fun e s'=>cameBackBy (model pw w) A env (fun e s₁=>wpAny (model pw w) A (noteFrame e env) (fun _ s₂=>wpAny (model pw w) A (setFlight e none) (fun _ s₃=>wpAny (model pw w) A (handleBy e env [.ExceptHandler (some (.Name "IndexError" p1)) none [.Pass p2] p3]) R E s₃) E s₂) E s₁) e s') (.ref e) { s with heap:=h',toks:=tk }:=by
 obtain ⟨oe,t,he,hcls,hd⟩:=hx.there
 have hfr:A.frames=some (env::fr'):=hB▸ha.frames
 have hkb:(wout s.heap (B.fr.filterMap (·.frame))).StaysIn h':=fun b o g=>hx.keeps b o (wout_some g).2
 have hen:(wout s.heap (B.fr.filterMap (·.frame))).get? e=none:=by
  cases q:(wout s.heap (B.fr.filterMap (·.frame))).get? e with
  | none=>rfl
  | some o=>have:=(wout_some q).2;exact nos hx.new this
 have hl:h'.FunFrames (wout s.heap (B.fr.filterMap (·.frame))) (env::fr'):=by
  rw [← hB]
  exact frames_of (W.frs.keep fun a o g n=>⟨o,hx.keeps a o g,n⟩) fun b m=>wout_in _ _ m
 have hU:s.heap.UpToSlots h':=Heap.UpToSlots.of_keeps hx.keeps
 refine note_first (s:={ s with heap:=h',toks:=tk }) hfr hl hf he hkb hen hd (by rfl) (by rfl) fun h₃ hh₃ u₃=>?_
 rw [hcls] at hh₃
 obtain ⟨oe3,vs3,T3,oT3,ts3,he3,hcls3,hd3,h13,r3⟩:=id hh₃.2.2.2
 refine wpAny_bind (wpAny_field he3 hd3 h13 ?_)
 refine wpAny_ite_false (decide_eq_false (show ¬ ((Value.ref T3==Value.none)=true) from by simp)) ?_
 rw [hf]
 refine flight_some hh₃ fun h₄ hh₄ u₄=>?_
 refine wpAny_noteFrame_againW hf hh₄.2.2.2 ?_
 refine wpAny_landsW hh₄ fun h₅ hfl₅ u₅=>?_
 have U₅:s.heap.UpToSlots h₅:=((hU.trans u₃).trans u₄).trans u₅
 obtain ⟨W₅,X₅⟩:=W.slots hfl₅.1 U₅
 have F₅:Fm B σ env loc h₅:=by have:=F.mono W [] X₅;rwa [List.append_nil] at this
 have W₅':Wd B σ S { s with heap:=h₅,toks:=tk }:=W₅.same
 obtain ⟨ob,hob,hobc⟩:=hfl₅.there
 refine wpAny_handleBy_builtin (X:="IndexError") (T:="IndexError") (b:=true) idx_base idx_tuple idx_self (Name_function_global F.ok.kind kI (loadGlobal_builtin (F.ok.glob▸H.main W₅') (n_IndexError _) (F.ok.blt▸H.blt W₅') (b_IndexError _) ⟨rfl,⟨ob,hob,hobc⟩,?_⟩) (by decide +kernel))
 refine lands_againW hfl₅ fun h₆ hfl₆ u₆=>?_
 obtain ⟨W₆,X₆⟩:=W.slots hfl₆.1 (U₅.trans u₆)
 have F₆:Fm B σ env loc h₆:=by have:=F.mono W [] X₆;rwa [List.append_nil] at this
 exact wpAny_execs_cons (wpAny_Pass (wpAny_execs_nil (k h₆ W₆.same X₆ F₆)))
theorem ExS.tryWhile (H:St w B) {test:Expr} {body:List Stmt} {pos p1 p2 p3 p4:Pos} {fr':List Env} (hB:B.fr=env::fr') (hf:env.frame=some env.locals) (kI:env.kindOf "IndexError"=some .globalImplicit) (I:Nat→Loc→Store→Prop)
  (turn:∀ k loc S,I k loc S→(TsA w B n env test loc S fun b S₁=>if b=true then ExA w B n env body loc S₁ (fun af loc₂ S₂=>match af with
   | .next | .cont=>∃ m,m<k∧I m loc₂ S₂
   | .brk=>K .next loc₂ S₂
   | .ret av=>K (.ret av) loc₂ S₂) else K .next loc S₁)∨(RaiseI w B n env (isTrue test env (eval test env)) loc S∧K .next loc S)) (k:Nat) (h:I k loc S) :
  ExS w B n env (.Try [.While test body [] pos] [.ExceptHandler (some (.Name "IndexError" p1)) none [.Pass p2] p3] [] [] p4) loc S K:=.mk fun A σ s E ha W F=>by
 refine wpAny_Try_except (wpAny_execs_cons (wpAny_While (codeAny_whileLoop (fun k=>PstF B σ env s (fun _ loc S=>I k loc S) .next) (fun k s₁ q=>?_) k (.now W .refl F (af:=.next) rfl h))))
 refine let ZZ:Prop:=_;(?_:ZZ)
 obtain ⟨τ,_,loc₁,S₁,W₁,f₁,x₁,F₁,_,h₁⟩:=q
 rcases turn k loc₁ S₁ h₁ with h₁ | ⟨h₁,q⟩
 ·refine h₁.bind ha W₁ F₁ fun b s₂ τ₂ S₂ W₂ f₂ x₂ h₂=>?_
  refine let ZZ:Prop:=_;(?_:ZZ)
  have F₂:=F₁.mono W₁ τ₂ x₂
  cases b with
  | false =>
   have p':PstF B (σ++τ) env s₁ K .next s₂:=⟨τ₂,.next,loc₁,S₂,W₂,f₂,x₂.toF,F₂,rfl,h₂⟩
   exact wpAny_execs_nil (wpAny_execs_nil (wpAny_execs_nil (p'.back F.live W₁ F₁ x₁ f₁)))
  | true =>
   refine wpAny_mono (h₂.run A _ s₂ _ ha W₂ F₂) (fun f s₃ p=>?_) fun _ _ e=>e
   have p:=(p.back F₁.live W₂ F₂ x₂.toF f₂).back F.live W₁ F₁ x₁ f₁
   refine let ZZ:Prop:=_;(?_:ZZ)
   obtain ⟨τ₃,af,loc₃,S₃,W₃,f₃,x₃,F₃,r₃,h₃⟩:=p
   cases af with
   | next=>obtain rfl:f=.next:=r₃;obtain ⟨m,hm,h₃⟩:=h₃;exact ⟨m,hm,τ₃,.next,loc₃,S₃,W₃,f₃,x₃,F₃,rfl,h₃⟩
   | cont=>obtain rfl:f=.cont:=r₃;obtain ⟨m,hm,h₃⟩:=h₃;exact ⟨m,hm,τ₃,.next,loc₃,S₃,W₃,f₃,x₃,F₃,rfl,h₃⟩
   | brk=>obtain rfl:f=.brk:=r₃;exact wpAny_execs_nil (wpAny_execs_nil ⟨τ₃,.next,loc₃,S₃,W₃,f₃,x₃,F₃,rfl,h₃⟩)
   | ret av=>obtain ⟨v,rfl,r⟩:=r₃;exact ⟨τ₃,.ret av,loc₃,S₃,W₃,f₃,x₃,F₃,⟨v,rfl,r⟩,h₃⟩
 ·refine wpAny_mono (h₁.run A _ s₁ ha W₁ F₁) (fun b s₂ p=>p.elim) (fun v s₂ p=>?_)
  refine let ZZ:Prop:=_;(?_:ZZ)
  obtain ⟨e,h',tk,rfl,hx,rfl⟩:=p
  refine idx_caught H ha hB hf kI W₁ F₁ hx fun h'' W'' X'' F''=>?_
  exact ⟨τ,.next,loc₁,S₁,W'',f₁,x₁.trans X''.toF f₁,F'',rfl,q⟩
theorem RaiseI.idx {x:Str} {p:Nat} {vs vp vc:Str} {p1 p2 p3 p4 p5:Pos} (hs:(vs,AV.str x)∈loc) (hp:(vp,AV.int (p:Int))∈loc) (hx:x.length≤p) (hb:p<100000) (ks:env.kindOf vs=some .local) (kp:env.kindOf vp=some .local)
  (d1:(vs==("__debug__":Str))=false) (d2:(vp==("__debug__":Str))=false) :
  RaiseI w B n env (isTrue (.Compare (.Subscript (.Name vs p1) (.Name vp p2) p3) [.In] [.Name vc p4] p5) env (eval (.Compare (.Subscript (.Name vs p1) (.Name vp p2) p3) [.In] [.Name vc p4] p5) env)) loc S:=.mk fun A σ s ha W F=>by
 refine let ZZ:Prop:=_;(?_:ZZ)
 obtain ⟨⟨m,hn,hm⟩,ok⟩:=id F
 obtain ⟨v,hv,tv,rfl⟩:∃ v,Holds s.heap env m vs v∧RV σ s.heap (.str x) v:=by
  rcases hm _ _ hs with q | q
  ·cases q
  ·exact q
 obtain ⟨u,hu,tu,rfl⟩:∃ v,Holds s.heap env m vp v∧RV σ s.heap (.int (p:Int)) v:=by
  rcases hm _ _ hp with q | q
  ·cases q
  ·exact q
 have h1:m vs=some (.str x tv):=by
  rcases hv with hv | ⟨hv,_⟩
  ·exact hv.2
  ·rw [ks] at hv;cases hv
 have h2:m vp=some (.int (p:Int) tu):=by
  rcases hu with hv | ⟨hv,_⟩
  ·exact hv.2
  ·rw [kp] at hv;cases hv
 refine wpAny_isTrue_Compare1 (Subscript_ (wpAny_Name (wpAny_loadName_local ok.kind ks hn h1 (wpAny_Name (wpAny_loadName_local ok.kind kp hn h2 ?_) d2)) d1)) (by rfl)
 have hfit:fitsSsize (p:Int)=true:=by unfold fitsSsize;simp;lia
 exact item_str_or (i:=(p:Int)) ha.handled hfit (fun _ h' tk e hx=>⟨e,h',tk,rfl,hx,rfl⟩) (fun _ h=>by have:(p:Int)<x.length:=h;omega)
theorem chars_w (H:St w B) {x:Str} {p p':Nat} (hx:x.length<500) (hp:p≤p') (hp':p'≤x.length) (hin:∀ i,p≤i→i<p'→x.cps.toList[i]?=some 10) (hout:p'<x.length→∃ c,x.cps.toList[p']?=some c∧c≠10)
  (q:Q (.int (p':Int)) S):OpT w B (n+1) (callD 114) [.str x,.int (p:Int),.str "\n"] S Q:=by
 refine OpT.def H (ps:=["src","pos","chars"]) [] [("src",.str x),("pos",.int (p:Int)),("chars",.str "\n")] (f_skip_chars _) (c_skip_chars _) rfl (all3 fun _ _ _=>by kernel_rfl) (by decide +kernel) (by decide +kernel) (by decide +kernel) (fun L hL H=>?_)
 have hnl:Str.ofString "\n"=⟨#[10]⟩:=nl_is
 let J:Loc→Store→Prop:=fun loc₂ S₂=>loc₂=([("src",.str x),("pos",.int (p':Int)),("chars",.str "\n")]:Loc)∧S₂=S
 refine ExA.seq J ?_ ?_
 ·let I:Nat→Loc→Store→Prop:=fun k loc₂ S₂=>∃ j:Nat,p≤j∧j≤p'∧k=p'-j∧loc₂=([("src",.str x),("pos",.int (j:Int)),("chars",.str "\n")]:Loc)∧S₂=S
  refine ExS.tryWhile H rfl rfl (by kernel_rfl) I ?_ (p'-p) ⟨p,Nat.le_refl _,hp,rfl,rfl,rfl⟩
  rintro k loc₂ S₂ ⟨j,j1,j2,rfl,rfl,rfl⟩
  by_cases hj:j<x.length
  ·obtain ⟨c,hc⟩:∃ c,x.cps.toList[j]?=some c:=⟨_,List.getElem?_eq_getElem (by rw [Array.length_toList];exact hj)⟩
   refine .inl (TsA.cmp (EvA.subS ?_))
   walk_at "s"
   have hfit:(decide ((j:Int) < -(2 ^ 63:Int))||decide ((j:Int)≥2 ^ 63))=false:=by simp;lia
   refine ⟨⟨_,rfl⟩,OpT.getS hfit (at_of hc) ?_⟩
   walk_at "s"
   rw [hnl]
   refine OpT.inS (TrT.bool ?_)
   by_cases h10:c=10
   ·subst h10
    have hlt:j<p':=by
     rcases Nat.lt_or_ge j p' with q | q
     ·exact q
     ·obtain rfl:j=p':=by exact Nat.le_antisymm j2 q
      obtain ⟨c',g,ne⟩:=hout hj
      rw [hc] at g;cases g;exact absurd rfl ne
    refine ifP (by simp) ?_
    refine ExA.aug (by walk_at "e") rfl (by walk_at "u") ?_
    walk_at "s"
    refine OpT.incI (ExA.nil ⟨p'-(j+1),by exact Nat.sub_succ_lt_self p' j hlt,j+1,by exact Nat.le_add_right_of_le j1,hlt,rfl,rfl,rfl⟩)
   ·refine ifN (by simpa using h10) ?_
    have:j=p':=by
     rcases Nat.lt_or_ge j p' with q | q
     ·have:=hin j j1 q;rw [hc] at this;cases this;exact absurd rfl h10
     ·exact Nat.le_antisymm j2 q
    subst this
    exact ⟨rfl,rfl⟩
  ·have:j=p':=by lia
   subst this
   exact .inr ⟨RaiseI.idx (x:=x) (p:=j) (by walk_at "e") (by walk_at "e") (by exact Nat.le_of_not_lt hj) (by (clear hj;lia)) (by kernel_rfl) (by kernel_rfl) (by decide +kernel) (by decide +kernel),rfl,rfl⟩
 ·rintro loc₂ S₂ ⟨rfl,rfl⟩
  refine ExA.ret ?_
  walk_at "s"
  exact q
noncomputable def c4 (x:Str) (p:Nat):Str:=cut x p (min (p+4) x.length)
structure LineF (src:Str) (p e q i x:Nat):Prop where
 lt:p+4<src.length
 a:∃ v:Nat,(v:Int)=(ends x).1∧v≤65535∧hexOk (c4 src p)=true∧Reads16 (c4 src p) v
 b1:kindN x>5→hexOk (c4 src (p+4))=false
 b2:¬ kindN x>5→∃ v:Nat,(v:Int)=(ends x).2∧v≤65535∧hexOk (c4 src (p+4))=true∧Reads16 (c4 src (p+4)) v∧p+8<src.length
 m1:sfx src (p+4) surT=escT++lineNo i++col5
 m2:kindN x>5→sfx src (p+4) badT=invT++lineNo i++col5
 m3:¬ kindN x>5→sfx src (p+8) surT=escT++lineNo i++col9
 elt:e<src.length
 u:∀ p0,p0=p∨p0=p+4∨(¬ kindN x>5∧p0=p+8)→p0≤e∧(posL src.cps.toList 10 p0 (src.length-p0)).head?=some e
 eq:e≤q
 ql:q≤src.length
 nl:∀ j,e≤j→j<q→src.cps.toList[j]?=some 10
 nx:q<src.length→∃ c,src.cps.toList[q]?=some c∧c≠10
theorem scalar_surr {v:Int} (h0:0≤v) (h:v≤65535):scalar v=!surr v:=by
 unfold scalar surr
 rw [Bool.eq_iff_iff]
 simp only [decide_eq_true_eq,Bool.not_eq_true',decide_eq_false_iff_not]
 exact ⟨fun h q=>h.elim (fun a=>absurd (Int.le_trans q.1 a.2) (by decide)) fun a=>absurd q.2 (Int.not_lt.mpr a.1),fun g =>
  (Int.lt_or_le v 55296).elim (fun a=>.inl ⟨h0,Int.le_of_lt_add_one a⟩) fun a=>.inr ⟨Int.not_lt.mp fun b=>g ⟨a,b⟩,Int.le_trans h (by decide)⟩⟩
noncomputable def UStr (av:AV):Prop:=av=.unb∨∃ x,av=.str x
theorem UStr.plain {av:AV} (h:UStr av):plainA av:=by
 rcases h with rfl | ⟨x,rfl⟩ <;> trivial
theorem dueTo_succ {xs:List Nat} (i:Nat):dueTo xs (i+1)=dueTo xs i++[dueOf i (xs.getD i 0)]:=by
 unfold dueTo;rw [List.range_succ,List.map_append];rfl
theorem due_plain {xs:List Nat} {m:Nat}:∀ av∈dueTo xs m,plainA av:=fun av h=>by
 obtain ⟨i,_,rfl⟩:=List.mem_map.mp h
 unfold dueOf
 split
 ·trivial
 ·split
  ·trivial
  ·split <;> trivial
theorem due_len {xs:List Nat} {m:Nat}:(dueTo xs m).length=m:=by unfold dueTo;simp
theorem plainS_snoc {S:Store} {l:List AV} (h:PlainS S) (hl:∀ av∈l,plainA av):PlainS (S++[l]):=fun m hm=>by
 rcases List.mem_append.mp hm with q | q
 ·exact h m q
 ·rw [List.mem_singleton.mp q];exact hl
theorem set_last {S:Store} {l m:List AV}:(S++[l]).set S.length m=S++[m]:=by rw [List.set_append_right _ _ (Nat.le_refl _),Nat.sub_self];rfl
noncomputable abbrev tLoc (src:Str) (k:Nat) (p:Nat) (a b:AV):Loc:=[("source",.str src),("told",.lst k),("place",.int (p:Int)),("low",a),("high",b),("error",.unb)]
theorem tLoc_plain {src:Str} {k p:Nat} {a b:AV} (ha:UStr a) (hb:UStr b):PlainL (tLoc src k p a b):=fun x av h=>by
 simp only [List.mem_cons,Prod.mk.injEq,List.not_mem_nil,or_false] at h
 rcases h with ⟨_,rfl⟩ | ⟨_,rfl⟩ | ⟨_,rfl⟩ | ⟨_,rfl⟩ | ⟨_,rfl⟩ | ⟨_,rfl⟩
 ·trivial
 ·trivial
 ·trivial
 ·exact ha.plain
 ·exact hb.plain
 ·trivial
theorem told_w (H:St w B) {src:Str} {xs:List Nat} {P E:Nat→Nat} (hS:PlainS S) (hn:xs.length≤20) (hl:src.length<500) (hasc:src.cps.all (·<128)=true) (hP0:P 0=0) (hPn:P xs.length=src.length)
  (hL:∀ i,i<xs.length→LineF src (P i) (E i) (P (i+1)) i (xs.getD i 0)) (q:Q (.lst S.length) (S++[dueTo xs xs.length])):OpT w B (n+7) (callD 170) [.str src] S Q:=by
 refine OpT.def H (ps:=["source"]) ["told","place","low","high","error"] [("source",.str src),("told",.unb),("place",.unb),("low",.unb),("high",.unb),("error",.unb)] (f_law_told _) (c_law_told _) rfl (all1 fun _=>by kernel_rfl) (by decide +kernel) (by decide +kernel) (by decide +kernel) (fun L hL' H=>?_)
 have fewx:src.length≤fewItems:=by unfold fewItems;lia
 refine ExA.assign (by walk_at "u") (EvA.list ?_)
 walk_at "s"
 refine ⟨Nat.zero_le _,?_⟩
 refine ExA.assign (by walk_at "u") ?_
 walk_at "s"
 let I:Nat→Loc→Store→Prop:=fun m loc₂ S₂=>∃ (i:Nat) (a b:AV),i≤xs.length∧m=xs.length-i∧UStr a∧UStr b∧loc₂=tLoc src S.length (P i) a b∧S₂=S++[dueTo xs i]
 refine ExA.while I ?_ xs.length ⟨0,.unb,.unb,Nat.zero_le _,rfl,.inl rfl,.inl rfl,by rw [hP0];rfl,rfl⟩
 intro m loc₂ S₂ p₀
 refine let ZZ:Prop:=_;(?_:ZZ)
 obtain ⟨i,a,b,hi,rfl,ha,hb,rfl,rfl⟩:=p₀
 refine TsA.cmp ?_
 walk_at "s"
 refine EvA.callB H (n_len _) (b_len _) (by kernel_rfl) ?_
 walk_at "s"
 refine OpT.lenS fewx ?_
 walk_at "s"
 by_cases hin:i=xs.length
 ·subst hin
  rw [hPn]
  refine ifN (by simp) ?_
  refine ExA.ret ?_
  walk_at "s"
  exact q
 have hi':i<xs.length:=by exact Nat.lt_of_le_of_ne hi hin
 have f:=hL i hi'
 have hplt:P i<src.length:=by have:=f.lt;exact Nat.lt_of_add_right_lt this
 refine ifP (by simpa using hplt) ?_
 generalize hx:xs.getD i 0=x at f
 have hdl:(dueTo xs i).length≤fewItems:=by rw [due_len];unfold fewItems;lia
 have hget:(S++[dueTo xs i])[S.length]?=some (dueTo xs i):=by rw [List.getElem?_append_right (Nat.le_refl _),Nat.sub_self];rfl
 have hpS:PlainS (S++[dueTo xs i]):=plainS_snoc hS due_plain
 have hset:∀ av,dueOf i x=av→(S++[dueTo xs i]).set S.length (dueTo xs i++[av])=S++[dueTo xs (i+1)]:=fun av e=>by rw [set_last,dueTo_succ,hx,e]
 refine let ZZ:Prop:=_;(?_:ZZ)
 obtain ⟨v1,hv1,hv1b,ok1,rd1⟩:=f.a
 let J:Loc→Store→Prop:=fun loc₂ S₂=>∃ (p0:Nat) (a b:AV),(p0=P i∨p0=P i+4∨(¬ kindN x>5∧p0=P i+8))∧UStr a∧UStr b∧loc₂=tLoc src S.length p0 a b∧S₂=S++[dueTo xs (i+1)]
 refine ExA.seq J ?_ ?_
 ·refine ExS.tryTold H rfl rfl (by kernel_rfl) (by kernel_rfl) (by kernel_rfl) (by kernel_rfl) (by rfl) (by rfl) (by rfl) ?_
  refine ExY.cons (ExY.assignT (EvY.callD H (g_parse_hex_char _) (f_parse_hex_char _) (by kernel_rfl) ?_))
  walk_at "s"
  refine parse_w H hl hplt hasc (fun h=>?_) (fun _=>?_)
  ·rw [show cut src (P i) (min (P i+4) src.length)=c4 src (P i) from rfl,ok1] at h;cases h
  refine ⟨v1,rd1,by lia,fun hsc=>⟨f.lt,?_⟩,fun hsc=>?_⟩
  ·rw [scalar_surr (by exact Int.natCast_nonneg v1) (by exact Nat.ToInt.of_le rfl rfl hv1b),hv1] at hsc
   refine ⟨hpS,tLoc_plain ha hb,by walk_at "e",S.length,dueTo xs i,by walk_at "e",hget,hdl,P i,a,b,.inl rfl,ha,hb,rfl,hset _ ?_⟩
   unfold dueOf
   rw [if_pos (by simpa using hsc),f.m1]
  have hns:¬ surr (ends x).1=true:=by
   rw [scalar_surr (by exact Int.natCast_nonneg v1) (by exact Nat.ToInt.of_le rfl rfl hv1b),hv1] at hsc;simpa using hsc
  refine StT.tup2 (by walk_at "u") (by walk_at "u") (by kernel_rfl) (by kernel_rfl) ?_
  show ExY w _ _ _ _ (tLoc src S.length (P i+4) (.str ⟨#[v1]⟩) b) _ _ _
  have ha1:UStr (.str ⟨#[v1]⟩):=.inr ⟨_,rfl⟩
  refine ExY.cons (ExY.assignT (EvY.callD H (g_parse_hex_char _) (f_parse_hex_char _) (by kernel_rfl) ?_))
  walk_at "s"
  refine parse_w H hl f.lt hasc (fun h=>?_) (fun h=>?_)
  ·have hk:kindN x>5:=by
    by_cases hk:kindN x>5
    ·exact hk
    ·obtain ⟨v,_,_,ok,_⟩:=f.b2 hk
     rw [show cut src (P i+4) (min (P i+4+4) src.length)=c4 src (P i+4) from rfl,ok] at h;cases h
   refine ⟨hpS,tLoc_plain ha1 hb,by walk_at "e",S.length,dueTo xs i,by walk_at "e",hget,hdl,P i+4,_,b,.inr (.inl rfl),ha1,hb,rfl,hset _ ?_⟩
   unfold dueOf
   rw [if_neg hns,if_pos hk,f.m2 hk]
  have hk:¬ kindN x>5:=fun hk=>by
   have:=f.b1 hk
   rw [show cut src (P i+4) (min (P i+4+4) src.length)=c4 src (P i+4) from rfl,this] at h;cases h
  refine let ZZ:Prop:=_;(?_:ZZ)
  obtain ⟨v2,hv2,hv2b,ok2,rd2,hp8⟩:=f.b2 hk
  refine ⟨v2,rd2,by lia,fun hsc=>⟨hp8,?_⟩,fun hsc=>?_⟩
  ·rw [scalar_surr (by exact Int.natCast_nonneg v2) (by exact Nat.ToInt.of_le rfl rfl hv2b),hv2] at hsc
   refine ⟨hpS,tLoc_plain ha1 hb,by walk_at "e",S.length,dueTo xs i,by walk_at "e",hget,hdl,P i+4,_,b,.inr (.inl rfl),ha1,hb,rfl,hset _ ?_⟩
   unfold dueOf
   rw [if_neg hns,if_neg hk,if_pos (by simpa using hsc)]
   exact congrArg AV.str (f.m3 hk).symm
  have hns2:¬ surr (ends x).2=true:=by
   rw [scalar_surr (by exact Int.natCast_nonneg v2) (by exact Nat.ToInt.of_le rfl rfl hv2b),hv2] at hsc;simpa using hsc
  refine StT.tup2 (by walk_at "u") (by walk_at "u") (by kernel_rfl) (by kernel_rfl) ?_
  refine ExY.of (ExA.expr (EvA.meth (T:="list") (id:="list.append") ?_ F.plainAttrs_list slot_list_append type_list_append))
  walk_at "s"
  refine ⟨rfl,ArT.cons (EvA.tuple ?_)⟩
  refine ArT.cons (EvA.callB H (n_ord _) (b_ord _) (by kernel_rfl) ?_)
  walk_at "s"
  refine OpT.ord ?_
  refine ArT.cons (EvA.callB H (n_ord _) (b_ord _) (by kernel_rfl) ?_)
  walk_at "s"
  refine OpT.ord ?_
  walk_at "s"
  refine ⟨[.int (v1:Int),.int (v2:Int)],rfl,by show 2≤fewItems;decide,?_⟩
  walk_at "s"
  refine OpT.append hget hdl (ExA.nil ⟨P i+8,_,_,.inr (.inr ⟨hk,rfl⟩),ha1,.inr ⟨_,rfl⟩,rfl,hset _ ?_⟩)
  unfold dueOf
  rw [if_neg hns,if_neg hk,if_neg hns2]
  show AV.pair (ends x)=_
  rw [hv1,hv2]
 ·rintro loc₂ S₂ ⟨p0,a,b,hp0,ha,hb,rfl,rfl⟩
  obtain ⟨u1,u2⟩:=f.u p0 hp0
  refine ExA.assign (by walk_at "u") (EvA.callDK H (np:=3) (ks:=["error_on","error_on_eof"]) (g_skip_until _) (f_skip_until _) (by kernel_rfl) (by rfl) (by rfl) ?_)
  walk_at "s"
  refine ⟨rfl,ArT.kwCons (EvA.froz0 H (n_frozenset _) (b_frozenset _) (by kernel_rfl) fun fb=>?_)⟩
  refine ArT.kwCons (EvA.bool (ArT.kwNil ?_))
  refine until_w H hl hasc u1 u2 f.elt ?_
  refine ExA.assign (by walk_at "u") (EvA.callD H (g_skip_chars _) (f_skip_chars _) (by kernel_rfl) ?_)
  walk_at "s"
  refine chars_w H hl f.eq f.ql f.nl f.nx ?_
  exact ExA.nil ⟨xs.length-(i+1),by exact Nat.sub_succ_lt_self xs.length i hi',i+1,a,b,hi',rfl,ha,hb,rfl,rfl⟩
theorem posL_pre {A B:List Nat} {c:Nat}:posL (A++B) c 0 A.length=posL A c 0 A.length:=by
 unfold posL
 refine List.filter_congr fun i hi=>?_
 have:=(List.mem_range'_1.mp hi).2
 rw [List.getElem?_append_left (by lia)]
theorem posL_app (A B:List Nat) (c:Nat):posL (A++B) c 0 (A++B).length=posL A c 0 A.length++(posL B c 0 B.length).map (·+A.length):=by
 unfold posL
 rw [List.length_append,← List.range'_append_1,List.filter_append]
 congr 1
 ·refine List.filter_congr fun i hi=>?_
  have:=(List.mem_range'_1.mp hi).2
  rw [List.getElem?_append_left (by lia)]
 ·rw [show List.range' (0+A.length) B.length=(List.range' 0 B.length).map (·+A.length) by
   apply List.ext_getElem
   ·simp
   ·intro j h1 h2;simp;exact Nat.add_comm A.length j]
  rw [List.filter_map]
  congr 1
  refine List.filter_congr fun i _=>?_
  simp only [Function.comp]
  rw [List.getElem?_append_right (by exact Nat.le_add_left A.length i),Nat.add_sub_cancel]
theorem posL_none {B:List Nat} {c:Nat} (h:∀ d∈B,d≠c):posL B c 0 B.length=[]:=by
 unfold posL
 rw [List.filter_eq_nil_iff]
 intro i hi
 simp only [decide_eq_true_eq]
 intro e
 exact h c (List.mem_of_getElem? e) rfl
theorem posL_head {l:List Nat} {c p e k:Nat} (h1:∀ i,p≤i→i<e→l[i]?≠some c) (h2:l[e]?=some c) (hp:p≤e) (hk:e<p+k):(posL l c p k).head?=some e:=by
 unfold posL
 have e1:List.range' p k=List.range' p (e-p)++e::List.range' (e+1) (k-(e-p)-1):=by
  have:=List.range'_append_1 (s:=p) (m:=e-p) (n:=k-(e-p)-1+1)
  rw [show p+(e-p)=e by exact Nat.add_sub_of_le hp,show e-p+(k-(e-p)-1+1)=k by rw [Nat.sub_add_cancel (Nat.sub_pos_of_lt (Nat.sub_lt_left_of_lt_add hp hk)),Nat.add_sub_of_le (Nat.le_of_lt (Nat.sub_lt_left_of_lt_add hp hk))]] at this
  exact this.symm
 rw [e1,List.filter_append]
 have e2:(List.range' p (e-p)).filter (fun i=>decide (l[i]?=some c))=[]:=by
  rw [List.filter_eq_nil_iff]
  intro i hi
  have:=List.mem_range'_1.mp hi
  simpa using h1 i this.1 (Nat.add_sub_of_le hp▸this.2)
 rw [e2,List.nil_append,List.filter_cons_of_pos (by simpa using h2)]
 rfl
noncomputable def tyOf (i:Nat):Nat:=if i%2=0 then 120 else 88
noncomputable def hx1 (i x:Nat):List Nat:=hxL (tyOf i) (ends x).1
noncomputable def hx2 (i x:Nat):List Nat:=hxL (tyOf i) (ends x).2
noncomputable def tailL (i x:Nat):List Nat:=if kindN x>5 then (hx2 i x).take 3++(if kindN x=6 then [103] else []) else hx2 i x
noncomputable def sepL (i:Nat):List Nat:=if i%3=2 then [10,10] else [10]
theorem read120:(List.range 303).map (fun i=>(int_private% "readNumeral") 0 16 (hxL 120 (vOf i)))=(List.range 303).map (fun i=>(int_private% "Numeral.value") (vOf i)):=by kernel_rfl
theorem read88:(List.range 303).map (fun i=>(int_private% "readNumeral") 0 16 (hxL 88 (vOf i)))=(List.range 303).map (fun i=>(int_private% "Numeral.value") (vOf i)):=by kernel_rfl
theorem hexAll:(List.range 303).all (fun i=>[120,88].all fun ty=>(hxL ty (vOf i)).all fun c=>hexCs.contains c)=true:=by decide +kernel
theorem v_ok {v:Int} (h:∃ i,i<303∧v=vOf i):0≤v∧v≤65535:=by
 obtain ⟨i,hi,rfl⟩:=h
 have:=Nat.mod_lt i (show 101>0 by decide)
 unfold vOf
 split
 ·lia
 ·split <;> lia
theorem ends_ok (x:Nat):0≤(ends x).1∧(ends x).1≤65535∧0≤(ends x).2∧(ends x).2≤65535:=by
 obtain ⟨a,b⟩:=ends_v x
 exact ⟨(v_ok a).1,(v_ok a).2,(v_ok b).1,(v_ok b).2⟩
theorem ty_mem (i:Nat):tyOf i∈[120,88]:=by unfold tyOf;split <;> simp
theorem hxv_ok {ty:Nat} (ht:ty∈[120,88]) {v:Int} (h:∃ i,i<303∧v=vOf i):(hxL ty v).length=4∧(∀ c∈hxL ty v,c∈hexCs)∧(int_private% "readNumeral") 0 16 (hxL ty v)=(int_private% "Numeral.value") v:=by
 have hlen:=hex_v h
 obtain ⟨i,hi,rfl⟩:=h
 have hm:i∈List.range 303:=List.mem_range.mpr hi
 have h2:=List.all_eq_true.mp (List.all_eq_true.mp hexAll i hm) ty ht
 simp only [List.all_eq_true,List.contains_iff_mem] at h2
 have h3:ty=120∨ty=88:=by simpa using ht
 rcases h3 with rfl | rfl
 ·exact ⟨hlen.1,h2,List.map_inj_left.mp read120 _ hm⟩
 ·exact ⟨hlen.2,h2,List.map_inj_left.mp read88 _ hm⟩
theorem hx_ok (i x:Nat):(hx1 i x).length=4∧(hx2 i x).length=4∧(∀ c∈hx1 i x,c∈hexCs)∧(∀ c∈hx2 i x,c∈hexCs):=by
 obtain ⟨a,b⟩:=ends_v x
 have h1:=hxv_ok (ty_mem i) a
 have h2:=hxv_ok (ty_mem i) b
 exact ⟨h1.1,h2.1,h1.2.1,h2.2.1⟩
theorem hx_read (i x:Nat):(int_private% "readNumeral") 0 16 (hx1 i x)=(int_private% "Numeral.value") (ends x).1∧(int_private% "readNumeral") 0 16 (hx2 i x)=(int_private% "Numeral.value") (ends x).2:=by
 obtain ⟨a,b⟩:=ends_v x
 exact ⟨(hxv_ok (ty_mem i) a).2.2,(hxv_ok (ty_mem i) b).2.2⟩
theorem tl_app (x y:Str):(x++y).cps.toList=x.cps.toList++y.cps.toList:=by rw [PySem.Str.cps_append];simp
theorem hexOf_list (i x:Nat):(hexOf i x).cps.toList=hx1 i x++hx2 i x:=by
 unfold hexOf hx1 hx2 tyOf
 split
 ·rw [tl_app];rfl
 ·rw [tl_app];rfl
theorem lineOf_list (i x:Nat):(lineOf i x).cps.toList=hx1 i x++tailL i x:=by
 obtain ⟨l1,l2,_,_⟩:=hx_ok i x
 unfold lineOf tailL
 by_cases h:kindN x>5
 ·rw [if_pos h,if_pos h,tl_app]
  have e:(cut (hexOf i x) 0 7).cps.toList=hx1 i x++(hx2 i x).take 3:=by
   show ((hexOf i x).cps.toList.drop 0).take (7-0)=_
   rw [hexOf_list,List.drop_zero,show 7-0=(hx1 i x).length+3 by lia,List.take_length_add_append]
  rw [e,List.append_assoc]
  congr 2
  unfold gOf
  split
  ·exact (by decide +kernel:(Str.ofString "g").cps.toList=[103])
  ·exact (by decide +kernel:(Str.ofString "").cps.toList=[])
 ·rw [if_neg h,if_neg h,hexOf_list]
theorem sepOf_list (i:Nat):(sepOf i).cps.toList=sepL i:=by
 unfold sepOf sepL
 split
 ·exact (by decide +kernel:(Str.ofString "\n\n").cps.toList=[10,10])
 ·exact (by decide +kernel:(Str.ofString "\n").cps.toList=[10])
noncomputable def pre (xs:List Nat) (i:Nat):List Nat:=(srcTo xs i).cps.toList
theorem pre_succ (xs:List Nat) (i:Nat):pre xs (i+1)=pre xs i++(hx1 i (xs.getD i 0)++tailL i (xs.getD i 0)++sepL i):=by
 show (srcTo xs i++(lineOf i (xs.getD i 0)++sepOf i)).cps.toList=_
 rw [tl_app,tl_app,lineOf_list,sepOf_list];rfl
theorem pre_zero (xs:List Nat):pre xs 0=[]:=by
 show (Str.ofString "").cps.toList=[]
 decide +kernel
theorem pre_more (xs:List Nat) (i:Nat):∀ k,∃ r,pre xs (i+k)=pre xs i++r∧(0<k→∃ r',r=hx1 i (xs.getD i 0)++tailL i (xs.getD i 0)++sepL i++r')
 | 0=>⟨[],by simp,nofun⟩
 | k+1=>by
  obtain ⟨r,h1,h2⟩:=pre_more xs i k
  refine ⟨r++(hx1 (i+k) (xs.getD (i+k) 0)++tailL (i+k) (xs.getD (i+k) 0)++sepL (i+k)),by rw [← Nat.add_assoc,pre_succ,h1,List.append_assoc],fun _=>?_⟩
  cases k with
  | zero =>
   have:r=[]:=by simpa using h1
   subst this
   exact ⟨[],by simp⟩
  | succ k =>
   obtain ⟨r',e⟩:=h2 (by exact Nat.zero_lt_succ k)
   exact ⟨r'++_,by rw [e,List.append_assoc]⟩
theorem tail_ok (i x:Nat):(∀ c∈tailL i x,c∈hexCs∨c=103)∧3≤(tailL i x).length∧(tailL i x).length≤4:=by
 obtain ⟨_,l2,_,h2⟩:=hx_ok i x
 unfold tailL
 split
 ·refine ⟨fun c hc=>?_,?_,?_⟩
  ·rcases List.mem_append.mp hc with q | q
   ·exact .inl (h2 c (List.mem_of_mem_take q))
   ·split at q
    ·exact .inr (by simpa using q)
    ·cases q
  ·rw [List.length_append,List.length_take];lia
  ·rw [List.length_append,List.length_take]
   split
   ·simp;exact Nat.min_le_left 3 (hx2 i x).length
   ·simp;lia
 ·exact ⟨fun c hc=>.inl (h2 c hc),by lia,by exact Nat.le_of_eq l2⟩
theorem hex_not10:∀ c∈hexCs,c≠10:=by decide
theorem sep_ok (i:Nat):(∀ c∈sepL i,c=10)∧1≤(sepL i).length:=by
 unfold sepL;split <;> simp
theorem nl_pre (xs:List Nat):∀ i,(posL (pre xs i) 10 0 (pre xs i).length).length=i+i/3∧(0<i→(posL (pre xs i) 10 0 (pre xs i).length).getLast?=some ((pre xs i).length-1))
 | 0=>by rw [pre_zero];exact ⟨rfl,nofun⟩
 | i+1=>by
  obtain ⟨h1,_⟩:=nl_pre xs i
  obtain ⟨_,_,a1,_⟩:=hx_ok i (xs.getD i 0)
  obtain ⟨a2,_,_⟩:=tail_ok i (xs.getD i 0)
  rw [pre_succ,← List.append_assoc]
  generalize hb:hx1 i (xs.getD i 0)++tailL i (xs.getD i 0)=body
  have hbody:∀ c∈body,c≠10:=fun c hc=>by
   rw [← hb] at hc
   rcases List.mem_append.mp hc with q | q
   ·exact hex_not10 c (a1 c q)
   ·rcases a2 c q with q | q
    ·exact hex_not10 c q
    ·lia
  rw [posL_app,posL_app,posL_none hbody,List.map_nil,List.append_nil]
  have hs:∃ k,posL (sepL i) 10 0 (sepL i).length=k∧k.length=(if i%3=2 then 2 else 1)∧k.getLast?=some ((sepL i).length-1):=by
   unfold sepL
   split
   ·exact ⟨_,rfl,by decide,by decide⟩
   ·exact ⟨_,rfl,by decide,by decide⟩
  obtain ⟨k,e1,e2,e3⟩:=hs
  rw [e1]
  refine ⟨?_,fun _=>?_⟩
  ·rw [List.length_append,List.length_map,h1,e2]
   split <;> lia
  ·have hk:k≠[]:=by rintro rfl;cases e3
   rw [List.getLast?_append,List.getLast?_map,e3]
   simp only [Option.map_some,Option.some_or,List.length_append]
   have:=(sep_ok i).2
   congr 1;lia
theorem msg_of {src:Str} {q i d:Nat} {m t c:Str} (h1:lineAt src q=((i+i/3+1:Nat):Int)) (h2:colAt src q=(d:Int))
  (e1:Str.empty++m++Str.ofString " (at "++Str.empty++Str.ofString "line "=t) (e2:Str.ofString ", column "++Str.ofString (toString (d:Int))++Str.ofString ")"=c):sfx src q m=t++lineNo i++c:=by
 unfold sfx coordS lineNo
 rw [h1,h2,← e1,← e2]
 simp only [PySem.Str.append_assoc]
theorem hexCs_no:(103:Nat)∉hexCs∧(10:Nat)∉hexCs:=by decide
theorem list_c4 {src:Str} {A B C:List Nat} (h:src.cps.toList=A++(B++C)) (hB:B.length=4):c4 src A.length=⟨B.toArray⟩:=str_ext (by
 show (src.cps.toList.drop A.length).take (min (A.length+4) src.length-A.length)=B
 have hl:src.length=A.length+(4+C.length):=by rw [len_list,h];simp [hB]
 rw [h,List.drop_left,Nat.min_eq_left (by lia),show A.length+4-A.length=B.length by lia,List.take_left])
theorem hexOk_of {B:List Nat} (hB:B.length=4) (h:∀ c∈B,c∈hexCs):hexOk ⟨B.toArray⟩=true:=by
 unfold hexOk
 rw [Bool.and_eq_true]
 refine ⟨by show (B.toArray.size==4)=true;simp [hB],?_⟩
 rw [List.all_eq_true]
 intro c hc
 exact List.contains_iff_mem.mpr (h c (by simpa using hc))
theorem hexOk_bad {B:List Nat} {z:Nat} (hz:z∈B) (h:z∉hexCs):hexOk ⟨B.toArray⟩=false:=by
 cases e:hexOk ⟨B.toArray⟩ with
 | false=>rfl
 | true =>
  unfold hexOk at e
  rw [Bool.and_eq_true,List.all_eq_true] at e
  exact absurd (List.contains_iff_mem.mp (e.2 z (by simpa using hz))) h
theorem line_f {xs:List Nat} {i:Nat} (hi:i<xs.length):LineF (srcTo xs xs.length) (pre xs i).length ((pre xs i).length+4+(tailL i (xs.getD i 0)).length) (pre xs (i+1)).length i (xs.getD i 0):=by
 obtain ⟨r,g1,g2⟩:=pre_more xs i (xs.length-i)
 obtain ⟨r',rfl⟩:=g2 (Nat.sub_pos_of_lt hi)
 clear g2
 obtain ⟨r2,g3,g4⟩:=pre_more xs (i+1) (xs.length-(i+1))
 rw [show i+(xs.length-i)=xs.length from Nat.add_sub_of_le (Nat.le_of_lt hi)] at g1
 rw [show i+1+(xs.length-(i+1))=xs.length from Nat.add_sub_of_le hi] at g3
 have hq:(pre xs (i+1)).length=(pre xs i).length+(4+(tailL i (xs.getD i 0)).length+(sepL i).length):=by
  rw [pre_succ,List.length_append,List.length_append,List.length_append,(hx_ok i (xs.getD i 0)).1]
 obtain ⟨n1,n2⟩:=nl_pre xs i
 generalize xs.getD i 0=x at *
 obtain ⟨l1,l2,a1,a2⟩:=hx_ok i x
 obtain ⟨r1,r3⟩:=hx_read i x
 obtain ⟨t1,t2,t3⟩:=tail_ok i x
 obtain ⟨s1,s2⟩:=sep_ok i
 obtain ⟨o1,o2,o3,o4⟩:=ends_ok x
 have hsrc:(srcTo xs xs.length).cps.toList=pre xs i++(hx1 i x++(tailL i x++(sepL i++r'))):=by
  rw [show (srcTo xs xs.length).cps.toList=pre xs xs.length from rfl,g1];simp only [List.append_assoc]
 have hsrc3:(srcTo xs xs.length).cps.toList=pre xs (i+1)++r2:=g3
 generalize srcTo xs xs.length=src at *
 have hlen:src.length=(pre xs i).length+(4+((tailL i x).length+((sepL i).length+r'.length))):=by rw [len_list,hsrc];simp [l1]
 have hlen3:src.length=(pre xs (i+1)).length+r2.length:=by rw [len_list,hsrc3];simp
 generalize hA:pre xs i=A at *
 have not10:∀ j,A.length≤j→j<A.length+4+(tailL i x).length→src.cps.toList[j]?≠some 10:=fun j j1 j2 e=>by
  rw [hsrc,List.getElem?_append_right j1,← List.append_assoc,List.getElem?_append_left (by rw [List.length_append];(clear s2 t2;lia))] at e
  rcases List.mem_append.mp (List.mem_of_getElem? e) with q | q
  ·exact hex_not10 _ (a1 _ q) rfl
  ·rcases t1 _ q with q | q
   ·exact hex_not10 _ q rfl
   ·cases q
 have isnl:∀ j,A.length+4+(tailL i x).length≤j→j<A.length+4+(tailL i x).length+(sepL i).length→src.cps.toList[j]?=some 10:=fun j j1 j2=>by
  rw [hsrc,← List.append_assoc,← List.append_assoc,List.getElem?_append_right (by simp only [List.length_append];(clear s2;lia)),List.getElem?_append_left (by simp only [List.length_append];(clear hlen3;lia))]
  obtain ⟨c,hc⟩:∃ c,(sepL i)[j-(A++hx1 i x++tailL i x).length]?=some c:=⟨_,List.getElem?_eq_getElem (by simp only [List.length_append];(clear hlen3;lia))⟩
  rw [hc,s1 c (List.mem_of_getElem? hc)]
 have hnl4:nlBefore src (A.length+4)=posL A 10 0 A.length:=by
  show posL src.cps.toList 10 0 (A.length+4)=_
  have:=@posL_pre (A++hx1 i x) (tailL i x++(sepL i++r')) 10
  rw [List.append_assoc,← hsrc,posL_app,posL_none (fun d hd=>hex_not10 d (a1 d hd)),List.length_append,l1] at this
  simpa using this
 have hpos:0<i→1≤A.length:=fun h=>by
  have:=n2 h
  have:=(List.mem_filter.mp (List.mem_of_getLast? this)).1
  have:=List.mem_range'_1.mp this
  (clear s2;lia)
 have hcol:∀ q,nlBefore src q=posL A 10 0 A.length→lineAt src q=((i+i/3+1:Nat):Int)∧colAt src q=(q:Int)-A.length+1:=fun q e=>by
  unfold lineAt colAt
  rw [e,n1]
  refine ⟨by push_cast;rfl,?_⟩
  by_cases h0:i=0
  ·subst h0
   have:A.length=0:=by rw [← hA,pre_zero];rfl
   rw [if_pos (by lia),this];simp
  ·rw [if_neg (by lia),n2 (by lia)]
   have:=hpos (by lia)
   simp only [Option.getD_some];(clear hlen3;lia)
 have k1:=hcol _ hnl4
 have c5:colAt src (A.length+4)=((5:Nat):Int):=by rw [k1.2];push_cast;lia
 have hc1:c4 src A.length=⟨(hx1 i x).toArray⟩:=list_c4 hsrc l1
 have hsrc2:src.cps.toList=(A++hx1 i x)++(tailL i x++(sepL i++r')):=by rw [hsrc,List.append_assoc]
 have hAl:(A++hx1 i x).length=A.length+4:=by rw [List.length_append,l1]
 refine ⟨by (clear hlen3 t2;lia),⟨(ends x).1.toNat,by lia,by lia,?_,?_⟩,fun hk=>?_,fun hk=>⟨(ends x).2.toNat,by lia,by lia,?_,?_,by have e:tailL i x=hx2 i x:=by { unfold tailL;rw [if_neg hk] };rw [e,l2] at hlen;(clear hlen3;lia)⟩,msg_of k1.1 c5 (by decide +kernel) (by decide +kernel),fun _=>msg_of k1.1 c5 (by decide +kernel) (by decide +kernel),fun hk=>?_,by (clear hlen3;lia),fun p0 hp0=>?_,by lia,by lia,fun j j1 j2=>isnl j j1 (by lia),fun hqn=>?_⟩
 ·rw [hc1];exact hexOk_of l1 a1
 ·unfold Reads16
  rw [hc1,show (((ends x).1.toNat:Nat):Int)=(ends x).1 by lia]
  exact r1
 ·obtain ⟨B,C,z,e1,e2,e3,e4⟩:∃ B C z,tailL i x++(sepL i++r')=B++C∧B.length=4∧z∈B∧z∉hexCs:=by
   unfold tailL
   rw [if_pos hk]
   by_cases h6:kindN x=6
   ·rw [if_pos h6]
    exact ⟨_,_,103,rfl,by rw [List.length_append,List.length_take,l2];rfl,by simp,hexCs_no.1⟩
   ·rw [if_neg h6,List.append_nil]
    cases hs:sepL i with
    | nil=>rw [hs] at s2;simp at s2
    | cons d ds =>
     obtain rfl:d=10:=s1 d (by rw [hs];exact List.mem_cons_self)
     exact ⟨(hx2 i x).take 3++[10],ds++r',10,by simp,by rw [List.length_append,List.length_take,l2];rfl,by simp,hexCs_no.2⟩
  rw [e1] at hsrc2
  have:=list_c4 hsrc2 e2
  rw [hAl] at this
  rw [this]
  exact hexOk_bad e3 e4
 ·have e:tailL i x=hx2 i x:=by unfold tailL;rw [if_neg hk]
  rw [e] at hsrc2
  have:=list_c4 hsrc2 l2
  rw [hAl] at this
  rw [this];exact hexOk_of l2 a2
 ·have e:tailL i x=hx2 i x:=by unfold tailL;rw [if_neg hk]
  rw [e] at hsrc2
  have:=list_c4 hsrc2 l2
  rw [hAl] at this
  unfold Reads16
  rw [this,show (((ends x).2.toNat:Nat):Int)=(ends x).2 by lia]
  exact r3
 ·have e:tailL i x=hx2 i x:=by unfold tailL;rw [if_neg hk]
  have hnl8:nlBefore src (A.length+8)=posL A 10 0 A.length:=by
   show posL src.cps.toList 10 0 (A.length+8)=_
   have:=@posL_pre (A++hx1 i x++hx2 i x) (sepL i++r') 10
   rw [List.append_assoc,← e,← hsrc2,e,posL_app,posL_app,posL_none (fun d hd=>hex_not10 d (a1 d hd)),posL_none (fun d hd=>hex_not10 d (a2 d hd)),List.length_append,List.length_append,l1,l2] at this
   simpa using this
  have k2:=hcol _ hnl8
  have c9:colAt src (A.length+8)=((9:Nat):Int):=by rw [k2.2];push_cast;lia
  exact msg_of k2.1 c9 (by decide +kernel) (by decide +kernel)
 ·have hp1:A.length≤p0∧p0≤A.length+4+(tailL i x).length:=by
   rcases hp0 with rfl | rfl | ⟨hk,rfl⟩
   ·lia
   ·lia
   ·have e:tailL i x=hx2 i x:=by unfold tailL;rw [if_neg hk]
    rw [e,l2];lia
  exact ⟨hp1.2,posL_head (fun j j1 j2=>not10 j (by (clear s2;lia)) j2) (isnl _ (Nat.le_refl _) (by lia)) hp1.2 (by (clear hlen3;lia))⟩
 ·have hr:0<r2.length:=by lia
  by_cases hk:0<xs.length-(i+1)
  ·obtain ⟨r'',e⟩:=g4 hk
   refine let ZZ:Prop:=_;(?_:ZZ)
   obtain ⟨m1,_,m3,_⟩:=hx_ok (i+1) (xs.getD (i+1) 0)
   obtain ⟨c,hc⟩:∃ c,(hx1 (i+1) (xs.getD (i+1) 0))[0]?=some c:=⟨_,List.getElem?_eq_getElem (by lia)⟩
   refine ⟨c,?_,hex_not10 c (m3 c (List.mem_of_getElem? hc))⟩
   rw [hsrc3,List.getElem?_append_right (Nat.le_refl _),Nat.sub_self,e,List.append_assoc,List.append_assoc,List.getElem?_append_left (by lia)]
   exact hc
  ·exfalso
   have h0:xs.length-(i+1)=0:=by lia
   have:=hsrc3
   rw [show xs.length=i+1 by (clear hk;lia)] at g3
   have:r2=[]:=by simpa using g3
   rw [this] at hr;simp at hr
theorem src_ascii {xs:List Nat}:∀ i,(srcTo xs i).cps.all (·<128)=true:=fun i=>by
 rw [← Array.all_toList,List.all_eq_true]
 intro c hc
 have:∀ i,∀ c∈pre xs i,c<128:=by
  intro i
  induction i with
  | zero=>rw [pre_zero];nofun
  | succ i ih =>
   intro c hc
   rw [pre_succ] at hc
   simp only [List.mem_append] at hc
   obtain ⟨_,_,a1,_⟩:=hx_ok i (xs.getD i 0)
   obtain ⟨t1,_,_⟩:=tail_ok i (xs.getD i 0)
   rcases hc with q | (q | q) | q
   ·exact ih c q
   ·exact (hex_ascii c (a1 c q)).1
   ·rcases t1 c q with q | q
    ·exact (hex_ascii c q).1
    ·lia
   ·have:=(sep_ok i).1 c q;lia
 simpa using this i c hc
theorem told_due (H:St w B) {xs:List Nat} (hS:PlainS S) (hn:xs.length≤20) (q:Q (.lst S.length) (S++[dueTo xs xs.length])):OpT w B (n+7) (callD 170) [.str (srcTo xs xs.length)] S Q :=
 told_w H (P:=fun i=>(pre xs i).length) (E:=fun i=>(pre xs i).length+4+(tailL i (xs.getD i 0)).length) hS hn (by have:=srcTo_len xs xs.length;lia) (src_ascii _) (by rw [pre_zero];rfl) (len_list _).symm (fun _ hi=>line_f hi) q
end
section
variable {w:World} {B:Bs} {n:Nat} {env:Env} {loc:Loc} {S:Store} {σ:List Addr} {s:Shared} {A:Around} {Q:AV→Store→Prop} {K:AF→Loc→Store→Prop} {rest:List Stmt}
namespace BM
theorem slot_md_get:Slot "method_descriptor" "__get__" "method_descriptor.__get__" :=
 .of (owner:="method_descriptor") (n:="__get__") (by rw [typeLookup_type,builtinLookup_eq_fast];kernel_rfl) (by decide +kernel) (by decide +kernel) (by decide +kernel)
  (by first | exact .inl (by decide +kernel) | exact .inr (by decide +kernel)) (by rw [isSubtype_type];kernel_rfl)
theorem entry_md_get:entryFor table "method_descriptor.__get__"=some Builtin.«method_descriptor.__get__»:=entryFor_of_tree (by kernel_rfl)
theorem args_md_get (a b c:Value):argsOk "method_descriptor.__get__" ⟨[a,b,c],[]⟩:=by unfold argsOk;kernel_rfl
theorem md_set:typeLookup (.type "method_descriptor") "__set__"=pure none:=by rw [typeLookup_type,builtinLookup_eq_fast];kernel_rfl
theorem md_del:typeLookup (.type "method_descriptor") "__delete__"=pure none:=by rw [typeLookup_type,builtinLookup_eq_fast];kernel_rfl
theorem list_ga:Slot "list" "__getattribute__" "list.__getattribute__" :=
 .of (owner:="list") (n:="__getattribute__") (by rw [typeLookup_type,builtinLookup_eq_fast];kernel_rfl) (by decide +kernel) (by decide +kernel) (by decide +kernel)
  (by first | exact .inl (by decide +kernel) | exact .inr (by decide +kernel)) (by rw [isSubtype_type];kernel_rfl)
theorem list_append:typeLookup (.type "list") "append"=pure (some (.builtin "list.append")):=by rw [typeLookup_type,builtinLookup_eq_fast];kernel_rfl
theorem owner_la:(".".intercalate ("list.append".cutAt '.').dropLast)="list":=by
 have e0:"list.append".cutAt '.'=["list","append"]:=by first | rfl | decide +kernel
 rw [e0];decide +kernel
theorem list_sub:isSubtype (.type "list") (.type (".".intercalate ("list.append".cutAt '.').dropLast))=pure true:=by rw [owner_la,isSubtype_type];kernel_rfl
theorem type_append:typeOf (.builtin "list.append")=pure (.type "method_descriptor"):=by show builtinType _=_;rw [builtinType_eq_fast];kernel_rfl
theorem entry_ga:entryFor table "list.__getattribute__"=some Builtin.«object.__getattribute__»:=PySem.F.entry_list_ga
theorem md_get_look:typeLookup (.type "method_descriptor") "__get__"=pure (some (.builtin "method_descriptor.__get__")):=by rw [typeLookup_type,builtinLookup_eq_fast];kernel_rfl
theorem args_ga (a b:Value):argsOk "list.__getattribute__" ⟨[a,b],[]⟩:=PySem.F.args_list_getattribute_2 a b
end BM
section
variable {E:Value→Shared→Prop} {a:Addr} {items:Array Value} {nl:Nat}
theorem md_get_run {h:Heap} {g:Array GenState} {d:Drawn} {k:Nat} {os:OsState} {R:Result→Shared→Prop} (hx:h.get? a=some { cls:=.type "list",data:=.seq items nl })
  (hq:R (.ok (.ret (.ref h.objs.size))) ⟨h.push (bmO a),g,d,k,os⟩) :
  codeAny (model pw w) A (.call (.builtin "method_descriptor.__get__") ⟨[.builtin "list.append",.ref a,.type "list"],[]⟩) R ⟨h,g,d,k,os⟩:=by
 have hT:(⟨h,g,d,k,os⟩:Shared).TypeIs (.ref a) "list":=⟨_,hx,rfl⟩
 have hT5:(⟨h,g,d,k,os⟩:Shared).TypeIs (.builtin "list.append") "method_descriptor":=BM.type_append
 have f1:=BM.list_sub
 refine codeAny_call_builtin BM.slot_md_get.plain BM.entry_md_get (BM.slot_md_get.check _ _ _ _ _ _ _ _ hT5 (BM.args_md_get _ _ _) ?_)
 (refine wpAny_bind ?_;wp_delta;refine wpAny_bind ?_;refine wpAny_pure ?_;refine wpAny_pure ?_;wp_delta;refine wpAny_ite_false rfl ?_;wp_delta;wp_delta;refine wpAny_bind ?_;wp_delta;refine wpAny_bind ?_;wp_delta;refine wpAny_pure ?_;refine wpAny_bind ?_;refine wpAny_isInstance (by assumption) (by assumption) ?_;refine wpAny_pure ?_;refine wpAny_bind ?_;wp_delta;wp_delta;refine wpAny_ite_false rfl ?_;wp_delta;wp_delta;refine wpAny_bind ?_;refine wpAny_alloc' ?_;refine wpAny_pure ?_;wp_delta;refine wpAny_pure ?_;assumption)
theorem la_entry {h:Heap} {g:Array GenState} {d:Drawn} {k:Nat} {tk:Tok} {os:OsState} {R:Fin→Shared→Prop} (hx:h.get? a=some { cls:=.type "list",data:=.seq items nl })
  (hq:R (.done (.ret (.ref h.objs.size))) ⟨h.push (bmO a),g,d,k,os⟩) :
  wpAny (model pw w) A (Builtin.«object.__getattribute__» ⟨[.ref a,.str "append" tk],[]⟩) R E ⟨h,g,d,k,os⟩:=by
 have hT:(⟨h,g,d,k,os⟩:Shared).TypeIs (.ref a) "list":=⟨_,hx,rfl⟩
 have hT5:(⟨h,g,d,k,os⟩:Shared).TypeIs (.builtin "list.append") "method_descriptor":=BM.type_append
 have f4:=BM.list_append
 have f5:=BM.type_append
 have f6:=BM.md_get_look
 have f7:=BM.md_set
 have f8:=BM.md_del
 (wp_delta;refine wpAny_bind ?_;wp_delta;refine wpAny_pure ?_;refine wpAny_bind ?_;wp_delta;refine wpAny_pure ?_;refine wpAny_bind ?_;refine wpAny_typeOf (by assumption) ?_;refine wpAny_bind ?_;wp_delta;refine wpAny_bind ?_;refine wpAny_of_eq (by assumption) ?_;refine wpAny_bind ?_;wp_delta;refine wpAny_specialOf_val (by assumption) (by assumption) ?_;refine wpAny_bind ?_;wp_delta;refine wpAny_bind ?_;wp_delta;refine wpAny_bind ?_;refine wpAny_specialOf_val (by assumption) (by assumption) ?_;refine wpAny_bind ?_;refine wpAny_specialOf_val (by assumption) (by assumption) ?_;refine wpAny_pure ?_;refine wpAny_pure ?_;wp_delta;wp_delta;refine wpAny_bind ?_;wp_delta;refine wpAny_bind ?_;wp_delta;refine wpAny_bind ?_;wp_delta;(apply wpAny_loadPart';focus (heap_get;done));wp_delta;wp_delta;refine wpAny_bind ?_;(apply wpAny_loadPart';focus (heap_get;done));refine wpAny_pure ?_;wp_delta;refine wpAny_pure ?_;refine wpAny_bind ?_;wp_delta;refine wpAny_pure ?_;wp_delta;refine wpAny_bind ?_;refine wpAny_rule ?_;refine wpAny_pure ?_;wp_delta;wp_delta;refine wpAny_bind ?_;refine wpAny_holding ?_;refine wpAny_call ?_)
 refine md_get_run hx ?_
 (wp_delta;refine wpAny_pure ?_;assumption)
theorem la_call {h:Heap} {g:Array GenState} {d:Drawn} {k:Nat} {tk:Tok} {os:OsState} {R:Result→Shared→Prop} (hx:h.get? a=some { cls:=.type "list",data:=.seq items nl })
  (hq:R (.ok (.ret (.ref h.objs.size))) ⟨h.push (bmO a),g,d,k,os⟩) :
  codeAny (model pw w) A (.call (.builtin "list.__getattribute__") ⟨[.ref a,.str "append" tk],[]⟩) R ⟨h,g,d,k,os⟩ :=
 codeAny_call_builtin BM.list_ga.plain BM.entry_ga (BM.list_ga.check _ _ _ _ _ _ _ _ (show (⟨h,g,d,k,os⟩:Shared).TypeIs (.ref a) "list" from ⟨_,hx,rfl⟩) (BM.args_ga _ _) (la_entry hx hq))
theorem la_attr {h:Heap} {g:Array GenState} {d:Drawn} {k:Nat} {os:OsState} {R:Value→Shared→Prop} (hx:h.get? a=some { cls:=.type "list",data:=.seq items nl })
  (hq:R (.ref h.objs.size) ⟨h.push (bmO a),g,d,k+1,os⟩):wpAny (model pw w) A (getAttr (.ref a) "append" true) R E ⟨h,g,d,k,os⟩:=by
 have hT:∀ k,(⟨h,g,d,k,os⟩:Shared).TypeIs (.ref a) "list":=fun _=>⟨_,hx,rfl⟩
 have f2:=BM.list_ga.lookup
 have f3:=BM.list_ga.bind (.ref a)
 have hx0:(true&&onTheHeap (Value.builtin "list.__getattribute__"))=false:=by rfl
 (refine wpAny_bind ?_;wp_delta;refine wpAny_bind ?_;refine wpAny_fresh' ?_;refine wpAny_pure ?_;wp_delta;refine wpAny_holding ?_;refine wpAny_bind ?_;wp_delta;refine wpAny_bind ?_;(apply wpAny_loadPart';focus (heap_get;done));refine wpAny_pure ?_;refine wpAny_bind ?_;refine wpAny_of_eq (by assumption) ?_;refine wpAny_ite_false rfl ?_;wp_delta;refine wpAny_bind ?_;wp_delta;refine wpAny_pure ?_;refine wpAny_bind ?_;refine wpAny_attempt ?_;refine wpAny_holding ?_;wp_delta;refine wpAny_ite_false rfl ?_;wp_delta;refine wpAny_bind ?_;refine wpAny_of_eq (by assumption) ?_;refine wpAny_call ?_)
 refine la_call hx ?_
 (wp_delta;wp_delta;refine wpAny_pure ?_;assumption)
end
end
section
variable {w:World} {B:Bs} {n:Nat} {env:Env} {loc:Loc} {S:Store} {σ:List Addr} {s:Shared} {A:Around} {Q:AV→Store→Prop} {K:AF→Loc→Store→Prop} {rest:List Stmt}
theorem EvA.append {x:Str} {p pos:Pos} (h:EvA w B n env (.Name x p) loc S fun ov S₁=>∃ k,ov=.lst k∧k<S₁.length∧Q (.bm k) S₁)
  (hb:attributeBase (.Name x p) "append" env (eval (.Name x p) env)=eval (.Name x p) env:=by rfl):EvA w B n env (.Attribute (.Name x p) "append" pos) loc S Q:=.mk fun A σ s E ha W F=>by
 refine wpAny_bind (wpAny_mono (h.run A σ s E ha W F) (fun v s₁ q=>?_) fun _ _ e=>e)
 obtain ⟨τ,av,S₁,W₁,f₁,x₁,r₁,k,rfl,hk,q⟩:=q
 obtain ⟨a,ha',rfl⟩:=r₁
 obtain ⟨vs,nl,hl⟩:=W₁.listAt (List.mem_of_getElem? ha')
 obtain ⟨hp,g,d,tk,os⟩:=s₁
 refine wpAny_bind (wpAny_standAt ?_)
 refine wpAny_bind (wpAny_holding (la_attr hl ?_))
 refine wpAny_bind (wpAny_pure (wpAny_pure ?_))
 exact ⟨τ,.bm k,S₁,W₁.push (bmO a),f₁,x₁.trans (Ext.push _ _) f₁,⟨_,a,ha',rfl,Heap.get?_push_size _ rfl⟩,q⟩
theorem check_append {M:Model} {E:Value→Shared→Prop} {R:Unit→Shared→Prop} {a:Addr} {items:Array Value} {nl:Nat} {v:Value} (hx:s.heap.get? a=some { cls:=.type "list",data:=.seq items nl }) (hq:R () s) :
  wpAny M A (checkBoundCall "list.append" ⟨[.ref a,v],[]⟩) R E s:=by
 have hT:s.TypeIs (.ref a) "list":=⟨_,hx,rfl⟩
 have hk:builtinKind "list.append"=some .method:=by decide +kernel
 obtain ⟨hp,g,d,tk,os⟩:=s
 unfold checkBoundCall
 have f1:isSubtype (.type "list") (.type "module")=pure false:=by rw [isSubtype_type];kernel_rfl
 have f2:isSubtype (.type "list") (.type "type")=pure false:=by rw [isSubtype_type];kernel_rfl
 have f3:Manifest.varargsMethods.contains "list.append"=false:=by decide +kernel
 (wp_delta;refine wpAny_bind ?_;refine wpAny_isInstance (by assumption) (by assumption) ?_;refine wpAny_bind ?_;wp_delta;refine wpAny_bind ?_;wp_delta;(apply wpAny_loadPart';focus (heap_get;done));refine wpAny_pure ?_;refine wpAny_bind ?_;refine wpAny_typeOf (by assumption) ?_;wp_delta;wp_delta;refine wpAny_bind ?_;wp_delta;refine wpAny_pure ?_;refine wpAny_bind ?_;wp_delta;refine wpAny_pure ?_;wp_delta;wp_delta;refine wpAny_pure ?_;assumption)
theorem quiet_la (as:Args):(Code.builtin "list.append" as).quiet=true:=Code.quiet_builtin _ (by decide +kernel)
theorem call_bm {E:Value→Shared→Prop} {R:Value→Shared→Prop} {a b:Addr} {items:Array Value} {x:Value} (hb:s.heap.get? b=some (bmO a)) (hl:s.heap.PlainList a items)
  (hQ:∀ h',h'.PlainList a (items.push x)→Heap.SameBut a s.heap h'→R .none { s with heap:=h' }) (hsz:items.size≤sizeLine):wpAny (model pw w) A (call (.ref b) [x]) R E s:=by
 obtain ⟨nl,ho⟩:=hl
 refine wpAny_call (codeAny_of_tree ?_)
 show wpAny _ _ (callAny (.ref b) ⟨[x],[]⟩) _ _ _
 refine wpAny_bind (wpAny_load hb ?_)
 refine wpAny_ite_true (decide_eq_true (by rfl)) ?_
 refine wpAny_ite_true (decide_eq_true (by rfl)) ?_
 refine wpAny_bind (check_append ho ?_)
 refine wpAny_pure ⟨quiet_la _,codeAny_builtin entry_list_append ?_⟩
 show wpAny _ _ (updateSeq a (·.push x)>>=fun _=>ret .none) _ _ s
 refine wpAny_bind ?_
 refine wpAny_updateSeq ho rfl (wpAny_pure (hQ _ ⟨nl+1,?_⟩ (Heap.SameBut.update ..)))
 rw [Heap.get?_update_self _ ho (by rw [Obj.mapSeq_push_plain];rfl),Obj.mapSeq_push_plain]
end
section
variable {w:World} {B:Bs} {n:Nat} {env:Env} {loc:Loc} {S:Store} {σ:List Addr} {s:Shared} {A:Around} {Q:AV→Store→Prop} {K:AF→Loc→Store→Prop} {rest:List Stmt}
section
variable {cenv:Env} {x:Str} {px pos:Pos} {elt iter:Expr} {scope:Scope} {I:Addr} {fp wr:List Addr} {n₀:Nat} {P:Nat→Value→Prop} {St₀:Nat→Heap→Prop} {G:Nat→Value→Prop}
noncomputable def EltOk (w:World) (cenv:Env) (x:Str) (elt:Expr) (P G:Nat→Value→Prop):Prop:=∀ (A':Around) E' i v (s₂:Shared) m₂,A'.handled=none→P i v→0<s₂.toks→s₂.heap.Ns cenv.locals m₂→m₂ x=some v →
  wpAny (model pw w) A' (eval elt cenv) (fun y s₃=>G i y∧Keeps s₂ s₃) E' s₂
noncomputable abbrev yes:Nat→Bool:=fun _=>true
theorem turns (hh:A.handled=none) (W₀:∀ A':Around,A'.handled=none→Walks pw w A' I fp wr n₀ P St₀)
  (hx:cenv.kindOf x=some .local) (hp:(cenv.scope.kind==.class||(cenv.scope.kind==.module&&cenv.locals != cenv.globals))=false)
  (hco:cenv.scope.isCoroutine=false) (hCf:cenv.locals∉fp) (he:EltOk w cenv x elt P G) :
  ∀ (k i:Nat) (s₀ s:Shared) (m:Str→Option Value),n₀-i=k→i≤n₀→St₀ i s.heap→s.heap.Ns cenv.locals m→GenSince cenv.locals wr s₀ s →
   Seg (model pw w) A (fun n s₀ r s₁=>r=.ok .next∧(n=0∧GenSince cenv.locals wr s₀ s₁)) (genProto cenv.locals fp wr yes n₀ G) (passing yes n₀ i).length s₀
    (.compLoop (.GeneratorExp elt [⟨.Name x px,iter,[],0⟩] scope pos) 0 (.ref I) .none cenv)
    ((model pw w).den (.compLoop (.GeneratorExp elt [⟨.Name x px,iter,[],0⟩] scope pos) 0 (.ref I) .none cenv)) [] s:=by
 have hh':(A.over (.compLoop (.GeneratorExp elt [⟨.Name x px,iter,[],0⟩] scope pos) 0 (.ref I) .none cenv) []).handled=none:=hh
 have hCw:cenv.locals∉wr:=fun h=>hCf ((W₀ A hh).sub _ h)
 intro k
 induction k with
 | zero =>
  intro i s₀ s m hk hi hst hn hsince
  obtain rfl:i=n₀:=by lia
  show Seg _ A _ _ _ s₀ _ ((compTurn (.GeneratorExp elt [⟨.Name x px,iter,[],0⟩] scope pos) 0 (.ref I) .none cenv).onRaise («leaving» cenv)) [] s
  rw [compTurn_gen,Sem.onRaise_eq_wrap]
  refine seg_bind_wrap (wpAny_standAt (seg_bind_wrap ((W₀ _ hh').done s _ _ hst fun h' tk hk'=>?_)))
  exact seg_end (.ok .next) ⟨rfl,by rw [passing_end];rfl,hsince.step fun b o _ hw e=>hk' b o hw e⟩
 | succ k ih =>
  intro i s₀ s m hk hi hst hn hsince
  have hlt:i<n₀:=by exact Nat.lt_of_sub_eq_succ hk
  show Seg _ A _ _ _ s₀ _ ((compTurn (.GeneratorExp elt [⟨.Name x px,iter,[],0⟩] scope pos) 0 (.ref I) .none cenv).onRaise («leaving» cenv)) [] s
  rw [compTurn_gen,Sem.onRaise_eq_wrap]
  refine seg_bind_wrap (wpAny_standAt (seg_bind_wrap ((W₀ _ hh').item i s _ _ hlt hst fun v h₁ tk₁ hPv hst₁ hk₁=>?_)))
  refine seg_bind_wrap (wpAny_of_eq (rfl:letOwnedTupleGo (.Name x px) (.ref I) v=pure ()) ?_)
  refine seg_bind_wrap (wpAny_assign_Name (wpAny_storeName_local hx (hn.at' fun o e=>hk₁ _ o hCw e) (fun h₂ hn₂ hs₂=>?_) hp))
  have up₂:∀ b o,b≠cenv.locals→b∉wr→s.heap.get? b=some o→h₂.get? b=some o:=fun b o hbC hbw e=>hs₂.extBut b o hbC (hk₁ b o hbw e)
  have hst₂:St₀ (i+1) h₂:=(W₀ A hh).frame _ _ _ hst₁ fun b hb o e=>hs₂.extBut b o (fun h=>hCf (h▸hb)) e
  refine seg_bind_wrap (wpAny_pure ?_)
  rw [passing_true hlt rfl,List.length_cons]
  simp only [if_true]
  have hy:∀ v,yieldOut cenv v=yieldValue v:=fun v=>by simp only [yieldOut,hco,Bool.false_eq_true,if_false]
  simp only [hy]
  rw [Sem.bind_eq_wrap',Sem.bind_eq_wrap',Sem.wrap_wrap,Sem.wrap_wrap]
  refine seg_wrap (wpAny_mono (he _ _ i v _ _ hh' hPv (Nat.succ_pos _) hn₂ (by simp)) (fun y s₄ h₄=>?_) fun _ _ e=>e)
  refine let ZZ:Prop:=_;(?_:ZZ)
  obtain ⟨hFy,h₄,tk₄,rfl,hk₄⟩:=h₄
  refine seg_at (seg_yield rfl rfl rfl ⟨⟨i,passing_here hlt rfl,hFy⟩,hsince.step fun b o hbC hbw e=>hk₄ b o (up₂ b o hbC hbw e),fun s'' hal=>?_⟩)
  exact seg_again rfl (ih (i+1) s'' s'' _ (by lia) hlt ((W₀ A hh).frame _ _ _ hst₂ fun b hb o e=>hal b (List.mem_cons_of_mem _ hb) o (hk₄ b o e))
   ((hn₂.keeps hk₄).at' fun o e=>hal _ (List.mem_cons_self ..) o e) (GenSince.refl _ _ _))
theorem starts (hh:A.handled=none) (W₀:∀ A':Around,A'.handled=none→Walks pw w A' I fp wr n₀ P St₀)
  (hx:cenv.kindOf x=some .local) (hp:(cenv.scope.kind==.class||(cenv.scope.kind==.module&&cenv.locals != cenv.globals))=false)
  (hco:cenv.scope.isCoroutine=false) (hCf:cenv.locals∉fp) (he:EltOk w cenv x elt P G) (s₀ s:Shared) (m:Str→Option Value) (hst:St₀ 0 s.heap) (hn:s.heap.Ns cenv.locals m) (hs:GenSince cenv.locals wr s₀ s) :
   Seg (model pw w) A (fun n s₀ r s₁=>r=.ok .next∧(n=0∧GenSince cenv.locals wr s₀ s₁)) (genProto cenv.locals fp wr yes n₀ G) (passing yes n₀ 0).length s₀
    (.compStart (.GeneratorExp elt [⟨.Name x px,iter,[],0⟩] scope pos) 0 (.ref I) .none cenv)
    ((model pw w).den (.compStart (.GeneratorExp elt [⟨.Name x px,iter,[],0⟩] scope pos) 0 (.ref I) .none cenv)) [] s:=by
 have hh':(A.over (.compStart (.GeneratorExp elt [⟨.Name x px,iter,[],0⟩] scope pos) 0 (.ref I) .none cenv) []).handled=none:=hh
 have loop:=turns (iter:=iter) (px:=px) (scope:=scope) (pos:=pos) hh W₀ hx hp hco hCf he n₀ 0 s₀ s m (Nat.sub_zero _) (Nat.zero_le _) hst hn hs
 show Seg _ A _ _ _ s₀ _ ((compStart (.GeneratorExp elt [⟨.Name x px,iter,[],0⟩] scope pos) 0 (.ref I) .none cenv).onRaise («leaving» cenv)) [] s
 rw [Sem.onRaise_eq_wrap]
 show Seg _ A _ _ _ s₀ _ ((ask>>=_).wrap _ _ _ _) [] s
 refine seg_bind_wrap (wpAny_askSetting ?_)
 split
 ·exact seg_again rfl loop
 ·first
   | exact seg_bind_wrap (wpAny_rule (seg_bind_wrap (wpAny_standAt (seg_bind_wrap ((W₀ _ hh').self 0 s _ _ hst (seg_again rfl loop))))))
   | (refine seg_bind_wrap (wpAny_rule ?_);show Seg _ A _ _ _ s₀ _ ((standAt iter.pos>>=_).wrap _ _ _ _) [] s;exact seg_bind_wrap (wpAny_standAt (seg_bind_wrap ((W₀ _ hh').self 0 s _ _ hst (seg_again rfl loop)))))
theorem gen_fresh {a:Addr} {g:Nat} (hh:A.handled=none) (W₀:∀ A':Around,A'.handled=none→Walks pw w A' I fp wr n₀ P St₀)
  (hx:cenv.kindOf x=some .local) (hp:(cenv.scope.kind==.class||(cenv.scope.kind==.module&&cenv.locals != cenv.globals))=false)
  (hco:cenv.scope.isCoroutine=false) (hCf:cenv.locals∉fp) {m:Str→Option Value} (he:EltOk w cenv x elt P G)
  (hg:s.heap.IsGen a g) (hgs:s.gens[g]?=some (.fresh (.compStart (.GeneratorExp elt [⟨.Name x px,iter,[],0⟩] scope pos) 0 (.ref I) .none cenv)))
  (hst:St₀ 0 s.heap) (hn:s.heap.Ns cenv.locals m) (hl:s.heap.NoLimit):GenAt pw w A a g cenv.locals fp wr yes n₀ G 0 s :=
 ⟨hg,hl,_,hgs,fun s'' hal=>⟨rfl,starts (A:=A.in1) hh W₀ hx hp hco hCf he s'' s'' m ((W₀ A hh).frame _ _ _ hst fun b hb o e=>hal b (List.mem_cons_of_mem _ hb) o e)
  (hn.at' fun o e=>hal _ (List.mem_cons_self ..) o e) (GenSince.refl _ _ _)⟩⟩
end
end
section
variable {w:World} {B:Bs} {n:Nat} {env:Env} {loc:Loc} {S:Store} {σ:List Addr} {s:Shared} {A:Around} {Q:AV→Store→Prop} {K:AF→Loc→Store→Prop} {rest:List Stmt}
theorem wp_codeGen {E:Value→Shared→Prop} {c P:Addr} {qs} {pos:Pos} {qn:Str} {scope:Scope} {R:Value→Shared→Prop} (hc:env.code=.ref c) (T:Tab1 s.heap c P qs) (hm:(pos,qn)∈qs) (hdis:∀ q∈qs,q.1.line=pos.line→q.1.col=pos.col→q.2=qn)
  (h:∀ c' h' tk,Heap.ExtBut P s.heap h'→Tab1 h' c P qs→R (.ref c') { s with heap:=h',toks:=tk }) :
  wpAny (model pw w) A (genexprCode env pos qn scope) R E s:=by
 refine let ZZ:Prop:=_;(?_:ZZ)
 obtain ⟨ps,hi,ht,hq⟩:=id T
 have htr:TriplesOk ps.toList:=by obtain ⟨_,_,_,_,_,_,_,_,_,_,_,_,_,_,_,_,_,_,_,r,_⟩:=id hi;exact r
 rcases hq _ hm with e | ⟨c',e,r⟩
 ·refine wpAny_genexprCodeX hc hi ht e fun c' h' tk hx _ _ hi' hrec ht' hP'=>?_
  obtain ⟨P',_,_,htb⟩:=hP'
  exact h c' h' tk hx (Tab1.ext hq hx ⟨_,ht.2,rfl⟩ htr hi' ht' (code1_of hrec htb) hdis)
 ·exact wpAny_genexprCode_hit hc hi e (h c' s.heap s.toks (Heap.ExtBut.refl _ _) T)
theorem Wd.gens' (W:Wd B σ S s) {g:Array GenState} (h:AllBare g):Wd B σ S { s with gens:=g }:=⟨W.len,W.nodup,W.fresh,W.lists,W.kept,W.tabs,h,W.os,W.frs⟩
theorem All2.strs {σ:List Addr} {h:Heap} {ts:List Str} {vs:List Value} (r:All2 (RV σ h) (ts.map AV.str) vs):∀ i,i<ts.length→∃ t,vs[i]?=some (.str (ts.getD i "") t) :=
 All2.indM (P:=fun ts vs=>∀ i,i<ts.length→∃ t,vs[i]?=some (.str (ts.getD i "") t)) (fun _ hi=>absurd hi (Nat.not_lt_zero _)) (fun a v l vs r ih i hi=>by
  cases i with
  | zero=>obtain ⟨t,rfl⟩:=r;exact ⟨t,rfl⟩
  | succ i=>exact ih i (Nat.lt_of_succ_lt_succ hi)) r
theorem passing_yes (n₀:Nat):passing yes n₀ 0=List.range n₀:=by
 unfold passing;rw [List.drop_zero,List.filter_eq_self.mpr (fun _ _=>rfl)]
theorem EvA.joinGen (H:St w B) {sep:Str} {k kk:Nat} {ts:List Str} {f:Str→Str} {elt:Expr} {y x:Str} {scope:Scope} {p0 p1 px pn gp pos:Pos}
  (hcode:env.code=.ref 54) (hg:env.globals=mainGlobals) (hqn:env.qual++"<genexpr>"=("_translate.<locals>.<genexpr>":Str)) (hm:(gp,("_translate.<locals>.<genexpr>":Str))∈qs50) (hdis:∀ q∈qs50,q.1.line=gp.line→q.1.col=gp.col→q.2=("_translate.<locals>.<genexpr>":Str))
  (hx:(y,AV.lst k)∈loc) (hS:S[k]?=some (ts.map AV.str)) (hl:ts.length≤fewItems) (hky:env.kindOf y=some .local) (hdy:(y==("__debug__":Str))=false)
  (hco:scope.isCoroutine=false) (hclos:closureFor scope env=pure []) (hcell:∀ y∈scope.names,y.2≠.cell) (h0:scope.names.lookup (".0":Str)=some NameKind.local)
  (hxl:scope.names.lookup x=some .local) (hkind:scope.kind=.function) (hfold:∀ v,genFold (.Name y pn) env v=pure v)
  (he:∀ C code (A':Around) E' (a:Str) (t:Tok) (s₂:Shared) m₂,A'.handled=none→a∈ts→0<s₂.toks→s₂.heap.Ns C m₂→m₂ x=some (.str a t) →
   wpAny (model pw w) A' (eval elt (genEnv scope [] C code builtinsNs env)) (fun r s₃=>(∃ u,r=.str (f a) u)∧Keeps s₂ s₃) E' s₂)
  (hok:JoinOk sep (ts.map f)=true) (q:Q (.str (Txt.join sep (ts.map f))) S)
  (hb:attributeBase (.Constant (.str sep) kk p0) "join" env (eval (.Constant (.str sep) kk p0) env)=eval (.Constant (.str sep) kk p0) env)
  (hl1:(p1.endLine==pos.line)=true) :
  EvA w B (n+1) env (.Call (.Attribute (.Constant (.str sep) kk p0) "join" p1) [.GeneratorExp elt [⟨.Name x px,.Name y pn,[],0⟩] scope gp] [] pos) loc S Q:=.mk fun A σ s E ha W F=>by
 refine wpAny_Call_method (T:="str") (id:="str.join") hb (by rfl) hl1 PySem.F.plainAttrs_str PySem.F.slot_str_join PySem.F.type_str_join (wpAny_Constant_str ?_)
 refine ⟨typeIs_str _ _ _,nofun,callWith_method1 (args_cons ?_ (by rfl)) (by rfl) (by rfl)⟩
 have W0:Wd B σ S { s with toks:=s.toks+1 }:=W.same
 refine let ZZ:Prop:=_;(?_:ZZ)
 obtain ⟨⟨m,hn,hmm⟩,ok⟩:=id F
 obtain ⟨v,hv,r⟩:∃ v,Holds s.heap env m y v∧RV σ s.heap (.lst k) v:=by
  rcases hmm _ _ hx with q | q
  ·cases q
  ·exact q
 have h1:m y=some v:=by
  rcases hv with hv | ⟨hv,_⟩
  ·exact hv.2
  ·rw [hky] at hv;cases hv
 refine let ZZ:Prop:=_;(?_:ZZ)
 obtain ⟨a,us,rfl,ha',p,hr⟩:=W.lst hS r
 have hus:us.size=ts.length:=by have:=hr.length;simpa using this.symm
 refine wpAny_GeneratorExp_make hco hclos hcell h0 hkind ha.room (wpAny_Name (wpAny_loadName_local ok.kind hky hn h1 ?_) hdy) hfold
 refine wpAny_pyIter_list p.isList ?_
 have W1:Wd B σ S { s with heap:=s.heap.push { cls:=.type "list_iterator",data:=.fields #[.ref a,.int 0 0] },toks:=s.toks+1 }:=W.push _
 refine ⟨H.nolimit W1,?_⟩
 rw [hqn]
 refine wp_codeGen hcode W1.tabs.a50 hm hdis fun c' h₃ tk hx3 T3=>?_
 have hT3:Tb h₃:=⟨T3,W1.tabs.a130.keep (fun a o e i=>hx3 a o (by rintro rfl;exact (W1.out_of_imm e i).2.1 rfl) e) (fun o e=>hx3 _ o (by decide) e)⟩
 have W3:Wd B σ S { s with heap:=h₃,toks:=tk }:=W1.table (.inl rfl) hx3 hT3
 rw [hg,ok.blt]
 refine H.bfor W3 ?_
 intro h' hn' hs'
 have hIlt:s.heap.objs.size<h₃.objs.size:=Heap.lt_size (hx3 s.heap.objs.size { cls:=.type "list_iterator",data:=.fields #[.ref a,.int 0 0] } (by
  intro e
  obtain ⟨ps,e'⟩:=W.tabs.t50
  have:=Heap.lt_size e'
  rw [← e] at this;exact Nat.lt_irrefl _ this) (Heap.get?_push_size _ rfl))
 have halt:a<s.heap.objs.size:=by obtain ⟨n,e⟩:=p;exact Heap.lt_size e
 have a50:a≠50:=by
  rintro rfl
  obtain ⟨ps,e'⟩:=W.tabs.t50
  obtain ⟨n,e⟩:=p
  rw [e] at e';cases e'
 have hI3:h₃.get? s.heap.objs.size=some { cls:=.type "list_iterator",data:=.fields #[.ref a,.int 0 0] }:=hx3 _ _ (by
  intro e
  obtain ⟨ps,e'⟩:=W.tabs.t50
  have:=Heap.lt_size e'
  rw [← e] at this;exact Nat.lt_irrefl _ this) (Heap.get?_push_size _ rfl)
 have hl3:h₃.IsList a us:=p.isList.at fun o e=>hx3 _ _ a50 (Heap.get?_push_of_some _ e)
 have hsz:h'.objs.size=h₃.objs.size+1:=by rw [hs'.1,Heap.size_push]
 have keep':∀ b o,h₃.get? b=some o→h'.get? b=some o:=fun b o e=>hs'.extBut b o (Nat.ne_of_lt (Heap.lt_size e)) (Heap.get?_push_of_some _ e)
 have hlim3:h₃.NoLimit:=H.nolimit W3
 have hclt:cStatics<h₃.objs.size:=let ⟨_,hn,_⟩:=hlim3;hn.lt
 have W₀:∀ A':Around,A'.handled=none→Walks pw w A' s.heap.objs.size (List.range h₃.objs.size) [s.heap.objs.size] us.size (fun i v=>us[i]?=some v) (fun i h=>h.IsListIter s.heap.objs.size a i∧h.IsList a us):=fun A' hA =>
  (Walks.list hA s.heap.objs.size a (Nat.ne_of_lt halt) us).mono_fp fun b hb=>by
   simp only [List.mem_cons,List.not_mem_nil,or_false] at hb
   rcases hb with rfl | rfl
   ·exact List.mem_range.mpr hIlt
   ·exact List.mem_range.mpr (Nat.lt_trans halt hIlt)
 have hcw:cStatics∉[s.heap.objs.size]:=by
  simp only [List.mem_singleton]
  intro e
  obtain ⟨_,hn,_⟩:=H.nolimit W
  have:=hn.lt
  rw [e] at this;exact Nat.lt_irrefl _ this
 have hC:h₃.objs.size∉List.range h₃.objs.size:=fun hm=>Nat.lt_irrefl _ (List.mem_range.mp hm)
 have helt:EltOk w (genEnv scope [] h₃.objs.size (.ref c') builtinsNs env) x elt (fun i v=>us[i]?=some v) (fun i v=>∃ u,v=.str (f (ts.getD i "")) u):=fun A' E' i v s₂ m₂ hA hi hpos hns hm2=>by
  have hi':i<ts.length:=by rw [← hus];exact (Array.getElem?_eq_some_iff.mp hi).1
  obtain ⟨t,ht⟩:=All2.strs hr i hi'
  have hi2:us.toList[i]?=some v:=by rw [Array.getElem?_toList];exact hi
  rw [hi2] at ht;cases ht
  exact he h₃.objs.size (.ref c') A' E' (ts.getD i "") t s₂ m₂ hA (by rw [List.getD_eq_getElem?_getD,List.getElem?_eq_getElem hi'];exact List.getElem_mem hi') hpos hns hm2
 have WS:=WalksS.genexpQ (prog:=pw) (w:=w) (A:=A.in4) (by exact ha.handled) h'.objs.size s.gens.size h₃.objs.size (List.range h₃.objs.size) [s.heap.objs.size] yes us.size (fun i v=>∃ u,v=.str (f (ts.getD i "")) u) (by rw [hsz];exact Nat.succ_ne_self _) (fun hm=>by have h:=List.mem_range.mp hm;rw [hsz] at h;exact absurd h (Nat.not_lt.mpr (Nat.le_succ _))) (fun b hb=>List.mem_range.mpr (by rw [List.mem_singleton.mp hb];exact hIlt)) (by exact ha.room) (List.mem_range.mpr hclt) (Nat.ne_of_lt hclt) hcw
 refine args_nil ?_
 refine SC.joinGen (WalksS.in4_2 WS) (fun i s hst=>hst.1.typeIs) (gen_fresh (A:=A.in4) (cenv:=genEnv scope [] h₃.objs.size (.ref c') builtinsNs env) (m:=fun y=>if y=".0" then some (.ref s.heap.objs.size) else none) (by exact ha.handled) W₀ hxl (by simp [genEnv,hkind]) hco hC helt
  ⟨_,_,_,Heap.get?_push_size _ rfl,rfl,rfl,rfl⟩ (Array.getElem?_push_size ..) ⟨⟨_,Heap.get?_push_of_some _ (keep' _ _ hI3),rfl,rfl⟩,hl3.at fun o e=>Heap.get?_push_of_some _ (keep' _ _ e)⟩ (hn'.push _) (hlim3.keeps fun b o e=>Heap.get?_push_of_some _ (keep' b o e)))
  (fun b hb=>?_) List.mem_cons_self (fun i v hv=>let ⟨_,_,u,e⟩:=hv;⟨_,u,e⟩) (fun s' l hmv hit=>?_) (by rw [passing_yes,List.length_range,hus];exact Nat.le_trans hl few_line)
 ·show b<(h'.push _).objs.size
  rw [Heap.size_push]
  simp only [List.mem_cons,List.mem_range] at hb
  rcases hb with rfl | rfl | hb
  ·exact Nat.lt_succ_self _
  ·rw [hsz];exact Nat.lt_succ_of_lt (Nat.lt_succ_self _)
  ·rw [hsz];exact Nat.lt_succ_of_lt (Nat.lt_succ_of_lt hb)
 have hlm:l.map (·.1)=ts.map f:=by
  have hsz2:=hit.1
  rw [passing_yes,List.length_range,hus] at hsz2
  have hll:l.length=ts.length:=by simpa [strValues] using hsz2
  apply List.ext_getElem?
  intro j
  by_cases hj:j<l.length
  ·obtain ⟨i,hi,u,e⟩:=hit.2 j (.str l[j].1 l[j].2) (by simp [strValues,List.getElem?_eq_getElem hj])
   rw [passing_yes] at hi
   have:i=j:=by
    have:=List.getElem?_eq_some_iff.mp hi
    obtain ⟨h1,h2⟩:=this
    simpa using h2.symm
   subst this
   injection e with e1 e2
   rw [List.getElem?_map,List.getElem?_eq_getElem hj,List.getElem?_map,List.getElem?_eq_getElem (by exact Nat.lt_of_lt_of_eq hj hll)]
   simp only [Option.map_some,Option.some.injEq]
   have h3:ts.getD i ""=ts[i]'(by exact Nat.lt_of_lt_of_eq hj hll):=by rw [List.getD_eq_getElem?_getD,List.getElem?_eq_getElem (by exact Nat.lt_of_lt_of_eq hj hll)];rfl
   rw [← h3];exact e1
  ·rw [List.getElem?_eq_none (by simpa using Nat.le_of_not_lt hj),List.getElem?_eq_none (by rw [List.length_map];lia)]
 rw [hlm]
 refine ⟨hok,fun t' k'=>?_⟩
 have kk:∀ b o,b≠s.heap.objs.size→h₃.get? b=some o→s'.heap.get? b=some o:=fun b o hb e=>hmv.heap b o (by
  simp only [List.mem_cons,List.not_mem_nil,or_false]
  rintro (q | q)
  ·exact absurd (Heap.lt_size e) (by rw [q];exact Nat.lt_irrefl _)
  ·exact hb q) (Heap.get?_push_of_some _ (keep' b o e))
 have hnone:s.heap.get? s.heap.objs.size=none:=Heap.get?_none_of_le (Nat.le_refl _)
 refine let ZZ:Prop:=_;(?_:ZZ)
 obtain ⟨q1,q2,q3⟩:=W.live hnone
 have Wb:Wd B σ S { s with heap:=s'.heap,toks:=tk }:=W3.but (s':={ s with heap:=s'.heap,toks:=tk }) (L:=s.heap.objs.size) kk (W.newB hnone) q1 q2 q3 (fun o e=>by rw [show h₃.get? _=_ from hI3] at e;cases e;rfl) (.inl fun o e=>by rw [show h₃.get? _=_ from hI3] at e;cases e;rfl)
 have hbare:AllBare s'.gens:=GenOnlyQ.bare hmv.gens (AllBare.push W.gens rfl)
 have Wg:=Wb.gens' hbare
 have W':Wd B σ S { s' with toks:=k' }:=by
  refine Wg.same rfl rfl ?_
  exact hmv.os
 refine .now W' (.exact fun b o e h1 h5 h13=>?_) (av:=.str _) ⟨t',rfl⟩ q
 exact kk b o (by rintro rfl;rw [hnone] at e;cases e) (hx3 b o h5 (Heap.get?_push_of_some _ e))
theorem bs2_is:Str.ofString "\\\\"=⟨#[92,92]⟩:=by decide +kernel
theorem dash1:Str.ofString "-"=⟨#[45]⟩:=by decide +kernel
theorem rep_bs (a:Str):(Txt.replace a "\\" "\\\\").cps.toList=StrLaws.dbl 92 a.cps.toList:=by rw [bs_is,bs2_is];exact StrLaws.replace_double a 92
theorem dbl_len (c:Nat):∀ l:List Nat,(StrLaws.dbl c l).length≤2*l.length
 | []=>Nat.le_refl _
 | d::l=>by
  have:=dbl_len c l
  unfold StrLaws.dbl
  split <;> simp <;> lia
theorem dbl_mem {c d:Nat}:∀ {l:List Nat},d∈StrLaws.dbl c l→d∈l
 | [],h=>h
 | e::l,h=>by
  unfold StrLaws.dbl at h
  split at h
  ·rename_i q
   simp only [List.mem_cons] at h
   rcases h with h | h | h
   ·exact List.mem_cons.mpr (.inl (h.trans (by simpa using q.symm)))
   ·exact List.mem_cons.mpr (.inl (h.trans (by simpa using q.symm)))
   ·exact List.mem_cons_of_mem _ (dbl_mem h)
  ·rcases List.mem_cons.mp h with h | h
   ·exact List.mem_cons.mpr (.inl h)
   ·exact List.mem_cons_of_mem _ (dbl_mem h)
theorem rep_none {x z:Str} {c:Nat} (h:c∉x.cps.toList):Txt.replace x ⟨#[c]⟩ z=x:=by
 unfold Txt.replace
 rw [occ_char x (Nat.le_refl _)]
 have:posL x.cps.toList c 0 (x.length-0)=[]:=by
  unfold posL
  rw [List.filter_eq_nil_iff]
  intro i _
  simp only [decide_eq_true_eq]
  exact fun e=>h (List.mem_of_getElem? e)
 rw [this,if_pos (by rfl)]
noncomputable def escA (a:Str):Str:=Txt.replace (Txt.replace a "\\" "\\\\") "-" "\\-"
theorem escA_eq {a:Str} (h:45∉a.cps.toList):escA a=Txt.replace a "\\" "\\\\":=by
 unfold escA
 exact rep_none fun q=>h (by rw [rep_bs] at q;exact dbl_mem q)
theorem repl_elt {E:Value→Shared→Prop} {C:Addr} {code:Value} {scope:Scope} {x:Str} {a:Str} {t:Tok} {m:Str→Option Value} {p1 p2 p3 p4 p5 p6 p7 p8 p9:Pos} {k1 k2 k3 k4:Nat}
  (hx:scope.names.lookup x=some .local) (hk:scope.kind=.function) (hd:(x==("__debug__":Str))=false) (hl:a.length≤1000) (hpos:0<s.toks) (hn:s.heap.Ns C m) (hm:m x=some (.str a t))
  (l1:(p3.endLine==p6.line)=true) (l2:(p2.endLine==p9.line)=true)
  (hb1:attributeBase (.Name x p1) "replace" (genEnv scope [] C code builtinsNs env) (eval (.Name x p1) (genEnv scope [] C code builtinsNs env))=eval (.Name x p1) (genEnv scope [] C code builtinsNs env))
  (hb2:attributeBase (.Call (.Attribute (.Name x p1) "replace" p3) [.Constant (.str "\\") k1 p4,.Constant (.str "\\\\") k2 p5] [] p6) "replace" (genEnv scope [] C code builtinsNs env) (eval (.Call (.Attribute (.Name x p1) "replace" p3) [.Constant (.str "\\") k1 p4,.Constant (.str "\\\\") k2 p5] [] p6) (genEnv scope [] C code builtinsNs env))=eval (.Call (.Attribute (.Name x p1) "replace" p3) [.Constant (.str "\\") k1 p4,.Constant (.str "\\\\") k2 p5] [] p6) (genEnv scope [] C code builtinsNs env)) :
  wpAny (model pw w) A (eval (.Call (.Attribute (.Call (.Attribute (.Name x p1) "replace" p3) [.Constant (.str "\\") k1 p4,.Constant (.str "\\\\") k2 p5] [] p6) "replace" p2) [.Constant (.str "-") k3 p7,.Constant (.str "\\-") k4 p8] [] p9) (genEnv scope [] C code builtinsNs env))
   (fun r s₃=>(∃ u,r=.str (escA a) u)∧Keeps s s₃) E s:=by
 refine wpAny_Call_method (T:="str") (id:="str.replace") hb2 (by rfl) l2 PySem.F.plainAttrs_str PySem.F.slot_str_replace PySem.F.type_str_replace ?_
 refine wpAny_with_toks (Nat.le_refl s.toks) ?_
 refine wpAny_Call_method (T:="str") (id:="str.replace") hb1 (by rfl) l1 PySem.F.plainAttrs_str PySem.F.slot_str_replace PySem.F.type_str_replace (wpAny_Name (wpAny_loadName_local hk hx hn hm ?_) hd)
 refine ⟨typeIs_str _ _ _,nofun,callWith_method1 (args_cons (wpAny_Constant_str (args_cons (wpAny_Constant_str (args_nil ?_)) (by rfl))) (by rfl)) (by rfl) (by rfl)⟩
 refine SC.replace (by show s.toks≠0;exact Nat.ne_zero_of_lt hpos) (by show s.toks+1≠0;exact Ne.symm (ktu_ne 1 hpos)) (by show s.toks≠s.toks+1;exact Nat.ne_add_one s.toks) (by decide +kernel) ?_ fun t' k hle=>?_
 ·have:(Str.ofString "\\\\").length=2:=by decide +kernel
  rw [this];lia
 have hle':s.toks≤k:=hle
 refine ⟨typeIs_str _ _ _,nofun,callWith_method1 (args_cons (wpAny_Constant_str (args_cons (wpAny_Constant_str (args_nil ?_)) (by rfl))) (by rfl)) (by rfl) (by rfl)⟩
 have hl2:(Txt.replace a "\\" "\\\\").length≤4000:=by
  rw [len_list,rep_bs]
  have:=dbl_len 92 a.cps.toList
  have h2:=len_list a
  lia
 refine SC.replace (by show k≠0;lia) (by show k+1≠0;exact Ne.symm (Nat.zero_ne_add_one k)) (by show k≠k+1;exact Nat.ne_add_one k) (by decide +kernel) ?_ fun t2 k2=>?_
 ·have:(Str.ofString "\\-").length=2:=by decide +kernel
  rw [this];lia
 exact ⟨⟨t2,rfl⟩,s.heap,k2,rfl,fun _ _ e=>e⟩
noncomputable def reC:Array Nat:=#[14,14,4,1,1,9,0,64,0,1342177280,0,0,0,0,0,17,0,13,11,9,0,64,0,1342177280,0,0,0,0,0,17,1,1]
noncomputable def hit (c:Nat):Bool:=c==38||c==124||c==126
theorem inSet_at (i:Nat) (hi:i=5∨i=19) (c:Nat) (seen:Sre.Seen):∃ z,Sre.inSet reC c 32 i true seen=.ok (hit c,z):=by
 have key:(decide (c<256)&&(reC.getD (i+(1+c/32)) 0).testBit (c%32))=hit c:=by
  by_cases h:c<256
  ·have all:∀ i∈[5,19],∀ c<256,(decide (c<256)&&(reC.getD (i+(1+c/32)) 0).testBit (c%32))=hit c:=by decide +kernel
   exact all i (by simpa using hi) c h
  ·rw [decide_eq_false h,Bool.false_and]
   unfold hit
   simp;lia
 have step1:Sre.inSet reC c 32 i true seen=if (decide (c<256)&&(reC.getD (i+(1+c/32)) 0).testBit (c%32))=true then .ok (true,seen.add (reC.getD (i+0) 0)) else Sre.inSet reC c 31 (i+9) true (seen.add (reC.getD (i+0) 0)):=by
  rcases hi with rfl | rfl <;> rfl
 have step2:∀ z:Sre.Seen,Sre.inSet reC c 31 (i+9) true z=.ok (false,z.add 0):=by
  intro z
  rcases hi with rfl | rfl <;> rfl
 rw [step1,key]
 cases hit c
 ·exact ⟨_,step2 _⟩
 ·exact ⟨_,rfl⟩
noncomputable def firstHit (text:Array Nat):(fuel p:Nat)→Option Nat
 | 0,_=>none
 | fuel+1,p=>if p≥text.size then none else if hit (text.getD p 0)=true then some p else firstHit text fuel (p+1)
theorem firstS (text:Array Nat) (n p:Nat):firstHit text (n+1) p=if p≥text.size then none else if hit (text.getD p 0)=true then some p else firstHit text n (p+1):=rfl
theorem admitted_is (m:Sre.M) (hc:m.code=reC) (hl:m.lim=m.text.size):∀ (fuel p:Nat) (seen:Sre.Seen),∃ z,m.admitted fuel p seen=.ok (firstHit m.text fuel p,z)
 | 0,p,seen=>⟨seen,rfl⟩
 | fuel+1,p,seen=>by
  rw [firstS]
  show ∃ z,(if p≥m.lim then _ else _)=_
  rw [hl]
  by_cases h:p≥m.text.size
  ·rw [if_pos h,if_pos h];exact ⟨_,rfl⟩
  ·rw [if_neg h,if_neg h]
   obtain ⟨z,e⟩:=inSet_at 5 (.inl rfl) (m.text.getD p 0) seen
   rw [hc,show reC.size=32 from rfl,e]
   cases hh:hit (m.text.getD p 0) with
   | true=>exact ⟨z,by simp⟩
   | false =>
    obtain ⟨z',e'⟩:=admitted_is m hc hl fuel (p+1) z
    exact ⟨z',by simpa using e'⟩
structure Found (m:Sre.M) (p:Nat):Prop where
 outcome:m.outcome=some .matched
 start:m.start=p
 handed:m.handed=p+1
 marks:m.marks=#[some p,some (p+1)]
 lastmark:m.lastmark=1
noncomputable abbrev mS (text:Array Nat) (p:Nat):Sre.M:={ code:=reC,text,lim:=text.size,start:=p,pc:=15,pos:=p,handed:=p,marks:=#[none,none],mustAdvance:=false,seen:=({}:Sre.Seen).add 14 }
theorem forSearch_is (text:Array Nat) (p:Nat):Sre.forSearch reC text 1 p text.size false=if (decide (p>text.size)||decide (text.size-p<1))=true then (mS text p).say false else { mS text p with lastStart:=text.size }.attemptFrom p true:=by rfl
noncomputable abbrev m1 (text:Array Nat) (p q:Nat) (z:Sre.Seen):Sre.M:={ mS text p with lastStart:=text.size,seen:=z,start:=q,pos:=q,handed:=q,lastmark := -1,lastindex := -1,frames:=[{ wait:=.nextStart,pc:=15,pos:=q,outermost:=true }],weight:=1,outermost:=true }
theorem attempt_is (text:Array Nat) (p q:Nat) (z:Sre.Seen):({ ({ mS text p with lastStart:=text.size }:Sre.M) with mustAdvance:=false,seen:=z }:Sre.M).attemptAt q true=m1 text p q z:=by rfl
noncomputable abbrev m2 (text:Array Nat) (p q:Nat) (z:Sre.Seen):Sre.M:={ m1 text p q z with seen:=z.add 17,marks:=#[some q,none],lastmark:=0,pc:=17 }
theorem step1_is (text:Array Nat) (p q:Nat) (z:Sre.Seen):(m1 text p q z).step=m2 text p q z:=by rfl
noncomputable abbrev m3 (text:Array Nat) (p q:Nat) (z:Sre.Seen):Sre.M:={ m1 text p q z with seen:=z,marks:=#[some q,none],lastmark:=0,pc:=29,pos:=q+1 }
theorem step2_is (text:Array Nat) (p q:Nat) (z:Sre.Seen) (hq:q<text.size) (hh:hit (text.getD q 0)=true):∃ z',(m2 text p q z).step=m3 text p q z':=by
 obtain ⟨z',e⟩:=inSet_at 19 (.inr rfl) (text.getD q 0) ((z.add 17).add 13)
 rw [hh] at e
 refine ⟨z',?_⟩
 have h1:(m2 text p q z).step=if q≥text.size then ({ m2 text p q z with seen:=(z.add 17).add 13 }:Sre.M).say false else
   match Sre.inSet reC (text.getD q 0) 32 19 true ((z.add 17).add 13) with
   | .error why=>({ m2 text p q z with seen:=(z.add 17).add 13 }:Sre.M).stick why
   | .ok (false,seen)=>({ m2 text p q z with seen }:Sre.M).say false
   | .ok (true,seen)=>{ m2 text p q z with seen,pc:=29,pos:=q+1 }:=by rfl
 rw [h1,if_neg (by exact Nat.not_le_of_lt hq),e]
noncomputable abbrev m4 (text:Array Nat) (p q:Nat) (z:Sre.Seen):Sre.M:={ m3 text p q z with seen:=z.add 17,marks:=#[some q,some (q+1)],lastmark:=1,lastindex:=1,pc:=31 }
theorem step3_is (text:Array Nat) (p q:Nat) (z:Sre.Seen):(m3 text p q z).step=m4 text p q z:=by kernel_rfl
theorem step456 (text:Array Nat) (p q:Nat) (z:Sre.Seen):(m4 text p q z).step.outcome=none∧(m4 text p q z).step.step.outcome=none∧Found (m4 text p q z).step.step.step q:=⟨rfl,rfl,rfl,rfl,rfl,rfl,rfl⟩
theorem say_false (m:Sre.M) (h:m.outcome=none) (hf:m.frames=[]):(m.say false).step.outcome=some .failed:=by
 unfold Sre.M.step Sre.M.say
 rw [h,hf];rfl
open PySem.Builtin.Re in
theorem rules_go {seen:Sre.Seen} {R:Unit→Shared→Prop}:∀ (l:List Nat) {s:Shared},R () s→wpAny (model pw w) A (forIn l PUnit.unit fun i r=>if seen.has i=true then do rule (Sre.names.getD i "");pure (ForInStep.yield r) else pure (ForInStep.yield r)) R (fun _ _=>False) s
 | [],s,h=>by rw [List.forIn_nil];exact wpAny_pure h
 | i::l,s,h=>by
  rw [List.forIn_cons]
  refine wpAny_bind ?_
  by_cases hc:seen.has i=true
  ·refine wpAny_ite_true (decide_eq_true hc) ?_
   refine wpAny_bind (wpAny_rule (wpAny_pure ?_))
   exact rules_go l h
  ·refine wpAny_ite_false (decide_eq_false hc) ?_
   exact wpAny_pure (rules_go l h)
theorem runForS (n:Nat) (m:Sre.M):m.runFor (n+1)=if m.outcome.isSome=true then m else m.step.runFor n:=rfl
theorem runFor_some {m:Sre.M} (h:m.outcome.isSome=true):∀ n,m.runFor n=m
 | 0=>rfl
 | n+1=>by rw [runForS,if_pos h]
theorem runFor_step {m:Sre.M} (n:Nat) (h:m.outcome=none):m.runFor (n+1)=m.step.runFor n:=by
 rw [runForS,if_neg (by rw [h];decide)]
open PySem.Builtin.Re in
theorem drive_one {m m':Sre.M} {k:Nat} {R:Sre.M→Shared→Prop} (e:m.runFor 4=m') (h:m'.outcome.isSome=true) (hr:R m' s):wpAny (model pw w) A (reDrive (k+1) m) R (fun _ _=>False) s:=by
 show wpAny _ _ (if (m.runFor 4).outcome.isSome=true then pure (m.runFor 4) else _) _ _ _
 rw [e,if_pos h]
 exact wpAny_pure hr
open PySem.Builtin.Re in
theorem drive_two {m m':Sre.M} {k:Nat} {R:Sre.M→Shared→Prop} (e:m.runFor 4=m') (h:m'.outcome=none) (hr:wpAny (model pw w) A (reDrive k m') R (fun _ _=>False) s):wpAny (model pw w) A (reDrive (k+1) m) R (fun _ _=>False) s:=by
 show wpAny _ _ (if (m.runFor 4).outcome.isSome=true then pure (m.runFor 4) else _) _ _ _
 rw [e,if_neg (by rw [h];decide)]
 refine wpAny_bind (wpAny_rule ?_)
 show wpAny _ _ (reDrive k (m.runFor 4)) _ _ _
 rw [e];exact hr
theorem two64:(2 ^ 64:Nat)=18446744073709551614+1+1:=by rfl
open PySem.Builtin.Re in
theorem run_end {m:Sre.M} {R:Option Sre.M→Shared→Prop} (h:wpAny (model pw w) A (reDrive (18446744073709551614+1+1) m) (fun m s'=>match m.outcome with | some .matched=>R (some m) s' | some .failed=>R none s' | _=>False) (fun _ _=>False) s) :
  wpAny (model pw w) A (reRunToEnd m) R (fun _ _=>False) s:=by
 unfold reRunToEnd
 refine wpAny_bind (wpAny_mono h ?_ (fun _ _ f=>f))
 intro m s' hm
 refine wpAny_bind (rules_go _ ?_)
 rcases ho:m.outcome with _ | o
 ·rw [ho] at hm;exact hm.elim
 ·cases o with
  | matched=>rw [ho] at hm;exact wpAny_pure hm
  | failed=>rw [ho] at hm;exact wpAny_pure hm
  | stuck=>rw [ho] at hm;exact hm.elim
theorem found_m1 (text:Array Nat) (p q:Nat) (z:Sre.Seen) (hq:q<text.size) (hh:hit (text.getD q 0)=true):∃ a b,(m1 text p q z).runFor 4=a∧a.outcome=none∧a.runFor 4=b∧Found b q:=by
 obtain ⟨z',e2⟩:=step2_is text p q z hq hh
 obtain ⟨h4,h5,h6⟩:=step456 text p q z'
 refine ⟨(m4 text p q z').step,(m4 text p q z').step.step.step,?_,h4,?_,h6⟩
 ·rw [runFor_step 3 rfl,step1_is,runFor_step 2 rfl,e2,runFor_step 1 rfl,step3_is,runFor_step 0 rfl];rfl
 ·rw [runFor_step 3 h4,runFor_step 2 h5]
  exact runFor_some (by rw [h6.outcome];rfl) 2
theorem firstHit_lt (text:Array Nat):∀ (n p q:Nat),firstHit text n p=some q→p≤q∧q<text.size∧hit (text.getD q 0)=true
 | 0,p,q,h=>nomatch h
 | n+1,p,q,h=>by
  rw [firstS] at h
  by_cases h1:p≥text.size
  ·rw [if_pos h1] at h;cases h
  ·rw [if_neg h1] at h
   by_cases h2:hit (text.getD p 0)=true
   ·rw [if_pos h2] at h
    cases h
    exact ⟨Nat.le_refl _,by exact Nat.lt_of_not_le h1,h2⟩
   ·rw [if_neg h2] at h
    obtain ⟨a,b,c⟩:=firstHit_lt text n (p+1) q h
    exact ⟨by exact Nat.le_of_succ_le a,b,c⟩
theorem fails_go {m:Sre.M} (h:m.outcome=none) (hf:m.frames=[]):∃ a,(m.say false).runFor 4=a∧a.outcome=some .failed:=by
 refine ⟨(m.say false).step,?_,say_false m h hf⟩
 rw [runFor_step 3 (by unfold Sre.M.say;exact h)]
 exact runFor_some (by rw [say_false m h hf];rfl) 3
open PySem.Builtin.Re in
theorem search_end {text:Array Nat} {p:Nat} {R:Option Sre.M→Shared→Prop}
  (h:match firstHit text (text.size+1-p) p with | none=>R none s | some q=>∀ m,Found m q→R (some m) s) :
  wpAny (model pw w) A (reRunToEnd (Sre.forSearch reC text 1 p text.size false)) R (fun _ _=>False) s:=by
 have fail:∀ m:Sre.M,m.outcome=none→m.frames=[]→R none s→wpAny (model pw w) A (reRunToEnd (m.say false)) R (fun _ _=>False) s:=by
  intro m h1 h2 hr
  obtain ⟨a,e,ho⟩:=fails_go h1 h2
  refine run_end (drive_one e (by rw [ho];rfl) ?_)
  rw [ho];exact hr
 rw [forSearch_is]
 by_cases hc:(decide (p>text.size)||decide (text.size-p<1))=true
 ·rw [if_pos hc]
  have hn:firstHit text (text.size+1-p) p=none:=by
   have hp:p≥text.size:=by simp at hc;lia
   cases hk:text.size+1-p with
   | zero=>rfl
   | succ k=>rw [firstS,if_pos hp]
  rw [hn] at h
  exact fail _ rfl rfl h
 ·rw [if_neg hc]
  unfold Sre.M.attemptFrom
  rw [show ({ mS text p with lastStart:=text.size }:Sre.M).hasFirstSet=true from rfl]
  obtain ⟨z,e⟩:=admitted_is ({ mS text p with lastStart:=text.size }:Sre.M) rfl rfl (text.size+1-p) p (({}:Sre.Seen).add 14)
  have e':({ mS text p with lastStart:=text.size }:Sre.M).admitted (({ mS text p with lastStart:=text.size }:Sre.M).lim+1-p) p ({ mS text p with lastStart:=text.size }:Sre.M).seen=.ok (firstHit text (text.size+1-p) p,z):=e
  rw [e',Bool.not_true,if_neg Bool.false_ne_true]
  cases hf:firstHit text (text.size+1-p) p with
  | none =>
   rw [hf] at h
   exact fail _ rfl rfl h
  | some q =>
   rw [hf] at h
   refine let ZZ:Prop:=_;(?_:ZZ)
   obtain ⟨_,hq,hh⟩:=firstHit_lt _ _ _ _ hf
   refine let ZZ:Prop:=_;(?_:ZZ)
   obtain ⟨a,b,ea,ha,eb,fb⟩:=found_m1 text p q z hq hh
   show wpAny _ _ (reRunToEnd (({ ({ mS text p with lastStart:=text.size }:Sre.M) with mustAdvance:=false,seen:=z }:Sre.M).attemptAt q true)) _ _ _
   refine run_end (drive_two ea ha (drive_one eb (by rw [fb.outcome];rfl) ?_))
   rw [fb.outcome]
   exact h b fb
theorem codeAny_expr {e:Expr} {R:Result→Shared→Prop}
  (h:wpAny (model pw w) (A.deeper env) (eval e env) (fun v s'=>R (.ok (.ret v)) s')
   (fun e s'=>wpAny (model pw w) (A.deeper env) («leaving» env e) (fun _ s''=>R (.error e) s'') (fun e' s''=>R (.error e') s'') s') s) :
  codeAny (model pw w) A (.expr e env) R s:=by
 refine codeAny_of_tree ?_
 show wpAny _ (A.deeper env) (do point;ret (← (eval e env).onRaise («leaving» env))) _ _ s
 exact wpAny_bind (wpAny_point (wpAny_bind (wpAny_onRaise (wpAny_mono h (fun f s' h'=>wpAny_pure h') fun _ _ h'=>h'))))
theorem codeAny_call_lambda {R:Result→Shared→Prop} {a:Addr} {o:Obj} {fd:FuncData} {body:Expr} {args:Args} {binds:List (Str×Value)}
  (hroom:A.depth<recursionLimit) (ho:s.heap.get? a=some o) (hdata:o.data=.func fd) (hlim:s.heap.NoLimit) (hcd:s.heap.CodeRec fd.code fd.qualname)
  (hbody:fd.body=.expr body) (hbind:BindsTo s fd args binds)
  (hcell:∀ x∈fd.scope.names,x.2≠.cell) (hloc:∀ x∈binds,fd.scope.names.lookup x.1=some .local)
  (h:∀ h₀,h₀.Ns s.heap.objs.size (fun x=>binds.reverse.lookup x)→(∀ b o,s.heap.get? b=some o→h₀.get? b=some o) →
   wpAny (model pw w) (A.deeper (callEnv fd s.heap.objs.size a)) (eval body (callEnv fd s.heap.objs.size a)) (fun v s'=>R (.ok (.ret v)) s')
    (fun e s'=>wpAny (model pw w) (A.deeper (callEnv fd s.heap.objs.size a)) («leaving» (callEnv fd s.heap.objs.size a) e) (fun _ s''=>R (.error e) s'') (fun e' s''=>R (.error e') s'') s')
    { s with heap:=h₀,toks:=s.toks+binds.length })
  (hco:fd.scope.isCoroutine=false) (hgen:fd.scope.isGenerator=false) (hk:fd.scope.kind=.function) :
  codeAny (model pw w) A (.call (.ref a) args) R s:=by
 refine codeAny_of_tree ?_
 show wpAny _ A.in1 (callAny (.ref a) args) _ _ s
 refine wpAny_bind (wpAny_load ho ?_)
 obtain ⟨c,oc,vs,tq,hc,hoc,hdc,hq⟩:=hcd
 rw [hdata]
 show wpAny _ _ (callFunction a fd args) _ _ _
 unfold callFunction
 rw [hco,hgen,hbody,hc]
 have hc':fd.code=.ref c:=hc
 refine wpAny_bind (m:=field (.ref c) 1) (wpAny_field hoc hdc hq (wpAny_bind (wpAny_pure ?_)))
 refine wpAny_bind (hbind _ _ _ _ (wpAny_bind ?_))
 rw [← hc']
 refine wpAny_newFunctionEnv hcell hloc (fun h₀ hns₀ hsb₀=>wpAny_bind (wpAny_enterFrame (hlim.fresh _ hsb₀) hroom (wpAny_pure (And.intro rfl (codeAny_expr (h h₀ hns₀ fun b o e=>?_)))))) hk
 exact hsb₀.extBut b o (Nat.ne_of_lt (Heap.lt_size e)) (Heap.get?_push_of_some _ e)
theorem EvA.lam (H:St w B) {qn:Str} {a:List Arg} {body:Expr} {scope:Scope} {pos:Pos} (hc:env.code=.ref 54) (hg:env.globals=mainGlobals) (hqn:env.qual++"<lambda>"=qn) (hm:(pos,qn)∈qs50)
  (hdis:∀ q∈qs50,q.1.line=pos.line→q.1.col=pos.col→q.2=qn) (hclos:closureFor scope env=pure [])
  (q:∀ pm c',Q (.obj (fnO (mkFd "<lambda>" qn ⟨[],a,none,[],[],none,[]⟩ (.expr body) scope pm .none c'))) S):EvA w B n env (.Lambda ⟨[],a,none,[],[],none,[]⟩ body scope pos) loc S Q:=.mk fun A σ s E ha W F=>by
 refine wpAny_bind (wpAny_pure (wpAny_bind (wpAny_holding (wpAny_pure ?_))))
 rw [hqn]
 refine wp_makeFn H W hg hc (.inl rfl) W.tabs.a50 hm hdis (fun h' hx t=>⟨t,W.tabs.a130.keep (fun a o e i=>hx a o (by rintro rfl;exact (W.out_of_imm e i).2.1 rfl) e) (fun o e=>hx _ o (by decide) e)⟩) rfl hclos (fun b e=>by cases e) fun c' a' h' tk pm W' X hn hf hc1=>?_
 exact .now (av:=.obj _) W' X ⟨a',rfl,hf,rfl,fun fd c e1 e2=>by cases e1;cases e2;exact hc1⟩ (q pm c')
namespace RE
theorem slot_group:Slot "re.Match" "group" "re.Match.group" :=
 .of (owner:="re.Match") (n:="group") (by rw [typeLookup_type,builtinLookup_eq_fast];kernel_rfl) (by decide +kernel) (by decide +kernel) (by decide +kernel)
  (by first | exact .inl (by decide +kernel) | exact .inr (by decide +kernel)) (by rw [isSubtype_type];kernel_rfl)
theorem entry_group:entryFor table "re.Match.group"=some Builtin.«re.Match.group»:=entryFor_of_tree (by kernel_rfl)
theorem args_group (a b:Value):argsOk "re.Match.group" ⟨[a,b],[]⟩:=by unfold argsOk;kernel_rfl
theorem type_group:typeOf (.builtin "re.Match.group")=pure (.type "method_descriptor"):=by show builtinType _=_;rw [builtinType_eq_fast];kernel_rfl
theorem plainAttrs_match:PlainAttrs "re.Match" :=
 ⟨⟨"object.__getattribute__",by rw [typeLookup_type,builtinLookup_eq_fast];kernel_rfl,by decide +kernel⟩,by rw [typeLookup_type,builtinLookup_eq_fast];kernel_rfl⟩
theorem slot_sub:Slot "re.Pattern" "sub" "re.Pattern.sub" :=
 .of (owner:="re.Pattern") (n:="sub") (by rw [typeLookup_type,builtinLookup_eq_fast];kernel_rfl) (by decide +kernel) (by decide +kernel) (by decide +kernel)
  (by first | exact .inl (by decide +kernel) | exact .inr (by decide +kernel)) (by rw [isSubtype_type];kernel_rfl)
theorem entry_sub:entryFor table "re.Pattern.sub"=some Builtin.«re.Pattern.sub»:=entryFor_of_tree (by kernel_rfl)
theorem entry_loop:entryFor table "re.Pattern.sub.loop"=some Builtin.«re.Pattern.sub.loop»:=entryFor_of_tree (by kernel_rfl)
theorem plain_loop:plainId "re.Pattern.sub.loop"=true:=by decide +kernel
theorem args_sub (a b c:Value):argsOk "re.Pattern.sub" ⟨[a,b,c],[]⟩:=by unfold argsOk;kernel_rfl
theorem type_sub:typeOf (.builtin "re.Pattern.sub")=pure (.type "method_descriptor"):=by show builtinType _=_;rw [builtinType_eq_fast];kernel_rfl
theorem plainAttrs_pat:PlainAttrs "re.Pattern" :=
 ⟨⟨"object.__getattribute__",by rw [typeLookup_type,builtinLookup_eq_fast];kernel_rfl,by decide +kernel⟩,by rw [typeLookup_type,builtinLookup_eq_fast];kernel_rfl⟩
end RE
noncomputable abbrev matchO (st pat:Value) (lim:Nat) (last:Int) (tp:Addr):Obj:={ cls:=.type "re.Match",data:=.fields #[st,pat,rawInt 0,rawInt lim,rawInt last,.ref tp] }
theorem call_group {E:Value→Shared→Prop} {R:Value→Shared→Prop} {a tp:Addr} {x:Str} {t u:Tok} {pat:Value} {lim q:Nat} {last a1 a2:Int} (hm:s.heap.get? a=some (matchO (.str x t) pat lim last tp)) (ht:s.heap.get? tp=some (tupO [rawInt a1,rawInt a2,rawInt q,rawInt (q+1:Nat)]))
  (hq:q<x.cps.size) (h:R (.str ⟨#[x.cps.getD q 0]⟩ s.toks) { s with toks:=s.toks+1 }):wpAny (model pw w) A (call (.builtin "re.Match.group") [.ref a,.int 1 u]) R E s:=by
 refine wpAny_call (codeAny_call_builtin RE.slot_group.plain RE.entry_group (RE.slot_group.check _ _ _ _ _ _ _ _ ⟨_,hm,rfl⟩ (RE.args_group _ _) ?_))
 refine wpAny_bind (wpAny_of_eq (a:=()) rfl ?_)
 dsimp only
 refine wpAny_bind (wpAny_bind (wpAny_fieldsOf hm rfl ?_))
 refine wpAny_bind (wpAny_bind (wpAny_seqItems ht rfl (wpAny_pure (wpAny_pure ?_))))
 refine wpAny_bind ?_
 refine wpAny_of_eq (a:=1) (by kernel_rfl) ?_
 have es:Array.map Builtin.Re.reRawOf ((some #[rawInt a1,rawInt a2,rawInt q,rawInt (q+1:Nat)]).getD #[])=#[a1,a2,(q:Int),((q+1:Nat):Int)]:=List.map_toArray
 rw [es]
 refine wpAny_bind ?_
 show wpAny _ _ (if (decide ((q:Int)<0)||decide (((q+1:Nat):Int)<0))=true then (pure Value.none:Sem Value) else _) _ _ _
 refine wpAny_ite_false (decide_eq_false (by rw [Bool.or_eq_true,decide_eq_true_eq,decide_eq_true_eq];exact of_decide_eq_false rfl)) ?_
 refine wpAny_bind (wpAny_of_eq (a:=(x.cps,0)) rfl ?_)
 show wpAny _ _ (mkStr ⟨x.cps.extract q (q+1)⟩) _ _ _
 have ex:x.cps.extract q (q+1)=#[x.cps.getD q 0]:=by
  apply Array.ext
  ·simp;lia
  ·intro i h1 h2
   simp at h2
   subst h2
   simp [hq]
 rw [ex]
 exact wpAny_mkStr (wpAny_pure h) (by show 1≤sizeLine;decide)
noncomputable def lamE:Expr:=.BinOp (.Constant (.str "\\") 0 ⟨58,50,58,54⟩) .Add (.BoolOp .Or [.Call (.Attribute (.Name "_m" ⟨58,58,58,60⟩) "group" ⟨58,58,58,66⟩) [.Constant (.int 1) 0 ⟨58,67,58,68⟩] [] ⟨58,58,58,69⟩,.Constant (.str "") 0 ⟨58,73,58,75⟩] ⟨58,58,58,75⟩) ⟨58,50,58,76⟩
noncomputable def lamS:Scope:={ kind:=.function,names:=[(Str.ofString "_m",.local)],isGenerator:=false,isCoroutine:=false,more:=[] }
noncomputable def lamA:Arguments:=⟨[],[{ arg:="_m",annotation:=none,pos:=⟨58,46,58,48⟩:Arg }],none,[],[],none,[]⟩
noncomputable abbrev lamFd (pm:Value) (c':Addr):FuncData:=mkFd "<lambda>" "_translate.<locals>.<lambda>" lamA (.expr lamE) lamS pm .none c'
theorem add2 (c:Nat):(Str.ofString "\\")++(⟨#[c]⟩:Str)=⟨#[92,c]⟩:=str_ext (by rw [app_list,bs_is];rfl)
theorem lam_call {E:Value→Shared→Prop} {f mm tp c':Addr} {pm:Value} {x:Str} {t:Tok} {pat:Value} {lim q:Nat} {last a1 a2:Int}
  (hf:s.heap.get? f=some (fnO (lamFd pm c'))) (hc:Code1 s.heap c' "_translate.<locals>.<lambda>") (hl:s.heap.NoLimit) (hroom:A.depth<recursionLimit)
  (hm:s.heap.get? mm=some (matchO (.str x t) pat lim last tp)) (ht:s.heap.get? tp=some (tupO [rawInt a1,rawInt a2,rawInt q,rawInt (q+1:Nat)])) (hq:q<x.cps.size) :
  wpAny (model pw w) A (call (.ref f) [.ref mm]) (fun r s'=>(∃ u,r=.str ⟨#[92,x.cps.getD q 0]⟩ u)∧Keeps s s') E s:=by
 refine wpAny_call (codeAny_call_lambda (fd:=lamFd pm c') (body:=lamE) (binds:=[(Str.ofString "_m",.ref mm)]) hroom hf rfl hl ?_ rfl (BindsTo.of_eq (by kernel_rfl)) (by show ∀ x∈lamS.names,x.2≠.cell;decide +kernel) (fun y hy=>?_) (fun h₀ hn₀ hk₀=>?_) rfl rfl rfl)
 ·refine let ZZ:Prop:=_;(?_:ZZ)
  obtain ⟨o,us,t,hg,_,hd,hu⟩:=hc
  exact ⟨c',o,us,t,rfl,hg,hd,hu⟩
 ·rw [List.mem_singleton] at hy
  subst hy;show lamS.names.lookup (Str.ofString "_m")=some .local;decide +kernel
 have hm':=hk₀ _ _ hm
 have ht':=hk₀ _ _ ht
 refine wpAny_BinOp (wpAny_Constant_str ?_)
 refine wpAny_Or2 ?_
 refine wpAny_Call_method (T:="re.Match") (id:="re.Match.group") (by rfl) (by rfl) (by rfl) RE.plainAttrs_match RE.slot_group RE.type_group (wpAny_Name (wpAny_loadName_local (v:=.ref mm) (m:=fun x=>List.lookup x [(Str.ofString "_m",Value.ref mm)].reverse) rfl (by show lamS.names.lookup (Str.ofString "_m")=some .local;decide +kernel) hn₀ (by kernel_rfl) ?_) (by decide +kernel))
 refine ⟨⟨_,hm',rfl⟩,fun a e=>by cases e;exact ⟨_,hm',rfl⟩,callWith_method1 (args_cons (wpAny_Constant_int (args_nil ?_)) (by rfl)) (by rfl) (by rfl)⟩
 refine call_group hm' ht' hq ?_
 refine P.truthy_str (by show ¬ ((1:Nat):Int)≥2 ^ 63;decide) ?_
 refine P.add_str (add_post (show (1:Nat)+1≤fewItems by decide) fun t' k=>?_)
 exact ⟨⟨t',rfl⟩,h₀,k,rfl,hk₀⟩
noncomputable def escC (c:Nat):List Nat:=if hit c=true then [92,c] else [c]
structure SubH (w:World) (h:Heap) (f c':Addr) (pm:Value):Prop where
 pat:h.get? 36=some (ob2_36 w.params)
 code:h.get? 35=some (ob2_35 w.params)
 fn:h.get? f=some (fnO (lamFd pm c'))
 fc:Code1 h c' "_translate.<locals>.<lambda>"
 lim:h.NoLimit
structure NeP (pl f c':Addr):Prop where
 pat:(36:Nat)≠pl
 code:(35:Nat)≠pl
 fn:f≠pl
 fc:c'≠pl
 lim:cStatics≠pl
theorem SubH.keep {h h':Heap} {f c' pl:Addr} {pm:Value} (H:SubH w h f c' pm) (N:NeP pl f c') (x:Heap.ExtBut pl h h'):SubH w h' f c' pm :=
 ⟨x _ _ N.pat H.pat,x _ _ N.code H.code,x _ _ N.fn H.fn,let ⟨o,vs,t,h1,h2,h3,h4⟩:=H.fc;⟨o,vs,t,x _ _ N.fc h1,h2,h3,h4⟩,H.lim.extBut x N.lim⟩
open PySem.Builtin.Re in
theorem whole_target {E:Value→Shared→Prop} {f c':Addr} {pm:Value} {x:Str} {t:Tok} {R:ReTarget→Shared→Prop} (H:SubH w s.heap f c' pm)
  (h:R { pattern:=.ref 36,string:=.str x t,code:=reC,text:=x.cps,kind:=0,groups:=1,pos:=0,lim:=x.cps.size } s):wpAny (model pw w) A (reWholeTarget (.ref 36) (.str x t)) R E s:=by
 unfold reWholeTarget
 refine wpAny_bind (wpAny_fieldsOf H.pat rfl ?_)
 refine wpAny_bind (wpAny_of_eq (a:=(x.cps,0)) rfl ?_)
 refine wpAny_bind (wpAny_of_eq (a:=()) rfl ?_)
 refine wpAny_bind (wpAny_bind (wpAny_seqItems H.code rfl (wpAny_pure (wpAny_pure ?_))))
 refine cast (congrArg (fun z=>R z s) ?_) h
 kernel_rfl
open PySem.Builtin.Re in
theorem new_match {m:Sre.M} {q lim:Nat} {st pat:Value} (F:Found m q):reNewMatch pat st 1 0 lim m=(do
  let tp←newTuple [rawInt q,rawInt (q+1:Nat),rawInt q,rawInt (q+1:Nat)]
  newFields "re.Match" [st,pat,rawInt (0:Nat),rawInt lim,rawInt m.lastindex,tp]):=by
 obtain ⟨ho,hs,hh,hm,hl⟩:=F
 unfold reNewMatch
 rw [hm,hl,hs,hh]
 have e:decide (q>q+1)=false:=decide_eq_false (by exact Nat.not_succ_lt_self)
 show (if (true&&decide (q>q+1)||false)=true then _ else _)=_
 rw [e]
 rfl
open PySem.Builtin.Re in
noncomputable def subTail (x:Str) (t:Tok) (f pl:Addr) (cnt:Int) (m:Sre.M):Sem PySem.Fin:=do
 let found←reNewMatch (.ref 36) (.str x t) 1 0 x.cps.size m
 let item←holding [found] (if ((1:Int)==1)=true then call (.ref f) [found] else do reExpand (.ref f) (← reFound found))
 if (item != .none)=true then do
  updateSeq pl (·.push item)
  again (.builtin "re.Pattern.sub.loop" ⟨[.ref 36,.str x t,.ref f,.int 1 0,.int 0 0,.int (cnt+1) 0,.int m.handed 0,.int m.handed 0,.bool (m.handed==m.start),.ref pl,.bool false],[]⟩)
 else again (.builtin "re.Pattern.sub.loop" ⟨[.ref 36,.str x t,.ref f,.int 1 0,.int 0 0,.int (cnt+1) 0,.int m.handed 0,.int m.handed 0,.bool (m.handed==m.start),.ref pl,.bool false],[]⟩)
theorem strVals_snoc (ps:List (Str×Tok)) (y:Str) (u:Tok):(strValues ps).toArray.push (.str y u)=(strValues (ps++[(y,u)])).toArray:=by
 unfold strValues
 simp
theorem sub_tail {E:Value→Shared→Prop} {x:Str} {t:Tok} {f pl c':Addr} {pm:Value} {cnt:Int} {m:Sre.M} {q:Nat} {ps:List (Str×Tok)} {R:PySem.Fin→Shared→Prop} (hroom:A.depth<recursionLimit) (F:Found m q) (H:SubH w s.heap f c' pm) (N:NeP pl f c')
  (hp:s.heap.PlainList pl (strValues ps).toArray) (hq:q<x.cps.size) (hps:ps.length≤3000)
  (h:∀ u h' tk,Heap.ExtBut pl s.heap h'→h'.PlainList pl (strValues (ps++[(⟨#[92,x.cps.getD q 0]⟩,u)])).toArray →
   R (.again (.builtin "re.Pattern.sub.loop" ⟨[.ref 36,.str x t,.ref f,rawInt 1,rawInt 0,rawInt (cnt+1),rawInt (q+1:Nat),rawInt (q+1:Nat),.bool false,.ref pl,.bool false],[]⟩)) { s with heap:=h',toks:=tk }) :
  wpAny (model pw w) A (subTail x t f pl cnt m) R E s:=by
 unfold subTail
 rw [new_match F]
 refine wpAny_bind (wpAny_bind (wpAny_newTuple ?_ (by show 4≤sizeLine;decide)))
 refine wpAny_newObj_type ?_ (by size_fits)
 refine wpAny_bind (wpAny_holding ?_)
 have k1:∀ b o,s.heap.get? b=some o→((s.heap.push (tupO [rawInt q,rawInt (q+1:Nat),rawInt q,rawInt (q+1:Nat)])).push (matchO (.str x t) (.ref 36) x.cps.size m.lastindex s.heap.objs.size)).get? b=some o:=fun b o e=>Heap.get?_push_of_some _ (Heap.get?_push_of_some _ e)
 have H1:SubH w ((s.heap.push (tupO [rawInt q,rawInt (q+1:Nat),rawInt q,rawInt (q+1:Nat)])).push (matchO (.str x t) (.ref 36) x.cps.size m.lastindex s.heap.objs.size)) f c' pm:=H.keep N fun b o _ e=>k1 b o e
 refine wpAny_mono (lam_call (x:=x) (t:=t) (q:=q) (pm:=pm) (c':=c') H1.fn H1.fc H1.lim hroom (Heap.get?_push_size _ rfl) (Heap.get?_push_of_some _ (Heap.get?_push_size _ rfl)) hq) (fun r s₂ hr=>?_) fun _ _ e=>e
 obtain ⟨⟨u,rfl⟩,h₂,tk,rfl,k2⟩:=hr
 refine wpAny_ite_true (decide_eq_true (by rfl)) ?_
 obtain ⟨nl,hp'⟩:=hp
 have hp2:=k2 _ _ (k1 _ _ hp')
 refine wpAny_bind (wpAny_updateSeq hp2 rfl (wpAny_pure ?_) (by rw [List.size_toArray];unfold strValues;rw [List.length_map];show _≤sizeLine;exact Nat.le_trans hps (by decide)) (by rw [Array.size_push,List.size_toArray];unfold strValues;rw [List.length_map];show _≤sizeLine+1;exact Nat.succ_le_succ (Nat.le_trans hps (by decide))))
 rw [F.handed,F.start]
 have eb:(q+1==q)=false:=by simp
 rw [eb]
 refine h u _ _ (fun b o hb e=>(Heap.SameBut.update ..).extBut b o hb (k2 _ _ (k1 _ _ e))) ⟨nl+1,?_⟩
 rw [Heap.get?_update_self _ hp2 (by rw [Obj.mapSeq_push_plain];rfl),Obj.mapSeq_push_plain,strVals_snoc]
theorem hit_between (text:Array Nat):∀ (n p:Nat),match firstHit text n p with | some q=>∀ i,p≤i→i<q→hit (text.getD i 0)=false | none=>text.size<p+n→∀ i,p≤i→i<text.size→hit (text.getD i 0)=false
 | 0,p=>by show text.size<p+0→_;intro h i h1 h2;lia
 | n+1,p=>by
  rw [firstS]
  by_cases h1:p≥text.size
  ·rw [if_pos h1];show _→_;intro h i h3 h4;lia
  ·rw [if_neg h1]
   by_cases h2:hit (text.getD p 0)=true
   ·rw [if_pos h2];show ∀ i,_;intro i h3 h4;lia
   ·rw [if_neg h2]
    have ih:=hit_between text n (p+1)
    have hn:hit (text.getD p 0)=false:=by simpa using h2
    cases hf:firstHit text n (p+1) with
    | none =>
     rw [hf] at ih
     intro h i h3 h4
     by_cases e:i=p
     ·subst e;exact hn
     ·exact ih (by lia) i (by lia) h4
    | some q =>
     rw [hf] at ih
     intro i h3 h4
     by_cases e:i=p
     ·subst e;exact hn
     ·exact ih i (by lia) h4
theorem nohit_flat {l:List Nat} (h:∀ c∈l,hit c=false):l.flatMap escC=l:=by
 induction l with
 | nil=>rfl
 | cons a l ih =>
  rw [List.flatMap_cons,ih fun c hc=>h c (List.mem_cons_of_mem _ hc)]
  unfold escC
  rw [h a List.mem_cons_self];rfl
theorem part_flat (x:Array Nat) {d q:Nat} (hdq:d≤q) (hq:q≤x.size) (hn:∀ i,d≤i→i<q→hit (x.getD i 0)=false):(x.toList.take q).flatMap escC=(x.toList.take d).flatMap escC++(x.extract d q).toList:=by
 have e:x.toList.take q=x.toList.take d++(x.extract d q).toList:=by
  rw [Array.toList_extract,List.extract_eq_take_drop]
  conv=>lhs;rw [show q=d+(q-d) by lia,List.take_add]
 have hnn:∀ c∈(x.extract d q).toList,hit c=false:=by
  intro c hc
  rw [Array.toList_extract,List.extract_eq_take_drop] at hc
  obtain ⟨i,hi,rfl⟩:=List.mem_iff_getElem.mp hc
  rw [List.length_take,List.length_drop,Array.length_toList] at hi
  have:=hn (d+i) (by lia) (by (clear hq;lia))
  rw [Array.getD_eq_getD_getElem?,Array.getElem?_eq_getElem (by lia)] at this
  simpa using this
 rw [e,List.flatMap_append,nohit_flat hnn]
theorem hit_flat (x:Array Nat) {q:Nat} (hq:q<x.size) (hh:hit (x.getD q 0)=true):(x.toList.take (q+1)).flatMap escC=(x.toList.take q).flatMap escC++[92,x.getD q 0]:=by
 rw [List.take_add_one,List.flatMap_append]
 congr 1
 have:x.toList[q]?=some (x.getD q 0):=by rw [Array.getElem?_toList,Array.getD_eq_getD_getElem?,Array.getElem?_eq_getElem hq];rfl
 rw [this]
 show [x.getD q 0].flatMap escC=_
 rw [List.flatMap_cons,List.flatMap_nil,List.append_nil]
 unfold escC
 rw [if_pos hh]
theorem escC_len (l:List Nat):(l.flatMap escC).length≤2*l.length:=by
 induction l with
 | nil=>simp
 | cons a l ih =>
  rw [List.flatMap_cons,List.length_append,List.length_cons]
  have:(escC a).length≤2:=by unfold escC;split <;> simp
  lia
theorem flat_sum (ps:List (Str×Tok)):((ps.map Prod.fst).map fun s=>s.length+nilS.length).sum=((ps.map Prod.fst).flatMap (·.cps.toList)).length:=by
 induction ps with
 | nil=>rfl
 | cons p ps ih =>
  rw [List.map_cons,List.map_cons,List.sum_cons,ih,List.flatMap_cons,List.length_append,nilS_len]
  rw [len_list];lia
theorem glued_list:∀ (l:List Str),(Builtin.Str.glued nilS l).cps.toList=l.flatMap (·.cps.toList):=by
 have key:∀ (l:List Str) (acc:Array Nat),(l.foldl (fun acc p=>acc++nilS.cps++p.cps) acc).toList=acc.toList++l.flatMap (·.cps.toList):=by
  intro l
  induction l with
  | nil=>intro acc;simp
  | cons a l ih =>
   intro acc
   rw [List.foldl_cons,ih]
   have:nilS.cps.toList=[]:=by decide +kernel
   simp [this]
 intro l
 cases l with
 | nil=>rfl
 | cons a l =>
  show (l.foldl (fun acc p=>acc++nilS.cps++p.cps) a.cps).toList=_
  rw [key];rfl
theorem upd_piece {E:Value→Shared→Prop} {pl:Addr} {ps:List (Str×Tok)} {y:Str} {u:Tok} {R:Unit→Shared→Prop} (hp:s.heap.PlainList pl (strValues ps).toArray) (hps:ps.length≤3000)
  (h:∀ h',Heap.ExtBut pl s.heap h'→h'.PlainList pl (strValues (ps++[(y,u)])).toArray→R () { s with heap:=h' }):wpAny (model pw w) A (updateSeq pl (·.push (.str y u))) R E s:=by
 obtain ⟨nl,hp'⟩:=hp
 refine wpAny_updateSeq hp' rfl (h _ (Heap.SameBut.update ..).extBut ⟨nl+1,?_⟩) (by rw [List.size_toArray];unfold strValues;rw [List.length_map];show _≤sizeLine;exact Nat.le_trans hps (by decide)) (by rw [Array.size_push,List.size_toArray];unfold strValues;rw [List.length_map];show _≤sizeLine+1;exact Nat.succ_le_succ (Nat.le_trans hps (by decide)))
 rw [Heap.get?_update_self _ hp' (by rw [Obj.mapSeq_push_plain];rfl),Obj.mapSeq_push_plain,strVals_snoc]
theorem ext_nil (x:Str):(⟨x.cps.extract 0 0⟩:Str)=nilS:=str_ext (by simp;decide +kernel)
theorem join_pieces {E:Value→Shared→Prop} {pl:Addr} {ps:List (Str×Tok)} {u:Tok} {R:Value→Shared→Prop} (hp:s.heap.PlainList pl (strValues ps).toArray) (hl:((ps.map Prod.fst).flatMap (·.cps.toList)).length≤3000)
  (h:∀ y u tk,y.cps.toList=(ps.map Prod.fst).flatMap (·.cps.toList)→R (.str y u) { s with toks:=tk }):wpAny (model pw w) A (call (.builtin "str.join") [.str nilS u,.ref pl]) R E s:=by
 obtain ⟨n,p⟩:=hp
 have few:=few_line
 have f1:3000≤fewItems:=by decide
 refine call_meets PySem.F.slot_str_join (typeIs_str s nilS u) PySem.F.entry_str_join (PySem.F.args_str_join_2 _ _) (join_meets nilS u pl ps ?_) ⟨⟨n,p⟩,?_⟩
 ·have:(ps.map Prod.fst).toArray.foldl (fun (n:Nat) (s:Str)=>n+s.length+nilS.length) 0=((ps.map Prod.fst).map fun s=>s.length+nilS.length).sum:=by
   rw [← Array.foldl_toList,List.toList_toArray,foldl_len,Nat.zero_add]
  rw [this,flat_sum]
  unfold Builtin.Str.tooLong
  lia
 ·have hg:(Builtin.Str.glued nilS (ps.map Prod.fst)).length≤sizeLine:=by rw [len_list,glued_list];lia
  exact ⟨hg,fun t k=>h _ _ _ (glued_list _)⟩
open PySem.Builtin.Re in
theorem sub_loop {f c' pl:Addr} {pm:Value} {x:Str} {t:Tok} {R:Result→Shared→Prop} (hroom:A.in1.depth<recursionLimit) (hx:x.length≤1000) (N:NeP pl f c') :
  ∀ (k d:Nat) (cnt:Int) (ps:List (Str×Tok)) (s:Shared),x.cps.size-d=k→d≤x.cps.size→SubH w s.heap f c' pm→s.heap.PlainList pl (strValues ps).toArray→ps.length≤2*d→((ps.map Prod.fst).flatMap (·.cps.toList))=(x.cps.toList.take d).flatMap escC →
  (∀ h' tk y u,Heap.ExtBut pl s.heap h'→y.cps.toList=x.cps.toList.flatMap escC→R (.ok (.ret (.str y u))) { s with heap:=h',toks:=tk }) →
  codeAny (model pw w) A (.builtin "re.Pattern.sub.loop" ⟨[.ref 36,.str x t,.ref f,rawInt 1,rawInt 0,rawInt cnt,rawInt d,rawInt d,.bool false,.ref pl,.bool false],[]⟩) R s:=by
 intro k
 have hxs:x.cps.size≤1000:=hx
 induction k using Nat.strongRecOn with
 | _ k ih =>
  intro d cnt ps s hk hd H hp hps hfl hR
  refine codeAny_builtin RE.entry_loop ?_
  rw [Around.under_plainId RE.plain_loop _]
  dsimp only [rawInt]
  refine wpAny_bind (whole_target H ?_)
  refine wpAny_ite_false (decide_eq_false (by decide)) ?_
  refine wpAny_bind ?_
  refine wpAny_ite_false (decide_eq_false (by simp)) ?_
  have hb:=hit_between x.cps (x.cps.size+1-d) d
  refine wpAny_mono (search_end (p:=d) (R:=fun o s'=>wpAny (model pw w) A.in1 (match o with
   | some m=>(if d<m.start then do
      updateSeq pl (·.push (← reSlice x.cps 0 d m.start))
      subTail x t f pl cnt m
     else subTail x t f pl cnt m)
   | none=>do
    if d<x.cps.size then updateSeq pl (·.push (← reSlice x.cps 0 d x.cps.size))
    let joiner←reSlice x.cps 0 0 0
    let text←if ((← seqItems? (.ref pl)).getD #[]).isEmpty then pure joiner
     else call (.builtin (if ((0:Nat)==0)=true then "str.join" else "bytes.join")) [joiner,.ref pl]
    if (false:Bool)=true then ret (← holding [text] do newTuple [text,← mkInt cnt]) else ret text)
   (fun fin s'=>match fin with | .done f=>R (.ok f) s' | .again c'=>c'.quiet=true∧codeAny (model pw w) A c' R s') (fun e s'=>R (.error e) s') s') ?_) (fun o s' ho=>?_) (fun _ _ e=>e.elim)
  ·cases hf:firstHit x.cps (x.cps.size+1-d) d with
   | some q =>
    rw [hf] at hb
    dsimp only at hb ⊢
    intro m F
    obtain ⟨hdq,hq,hh⟩:=firstHit_lt _ _ _ _ hf
    rw [F.start]
    have fin:∀ (ps':List (Str×Tok)) (h₁:Heap) (tk₁:Nat),Heap.ExtBut pl s.heap h₁→h₁.PlainList pl (strValues ps').toArray→ps'.length≤2*d+1→((ps'.map Prod.fst).flatMap (·.cps.toList))=(x.cps.toList.take q).flatMap escC →
      wpAny (model pw w) A.in1 (subTail x t f pl cnt m) (fun fin s'=>match fin with | .done f=>R (.ok f) s' | .again c'=>c'.quiet=true∧codeAny (model pw w) A c' R s') (fun e s'=>R (.error e) s') { s with heap:=h₁,toks:=tk₁ }:=by
     intro ps' h₁ tk₁ x₁ p₁ l₁ f₁
     refine sub_tail hroom F (H.keep N x₁) N p₁ hq (by lia) fun u h' tk x' p'=>⟨plainId_quiet RE.plain_loop _,ih (x.cps.size-(q+1)) (by (clear hf;lia)) (q+1) (cnt+1) _ _ rfl hq ((H.keep N x₁).keep N x') p' (by rw [List.length_append,List.length_singleton];lia) ?_ fun h3 tk3 y u3 x3 hy=>hR h3 tk3 y u3 (fun b o hne e=>x3 b o hne (x' b o hne (x₁ b o hne e))) hy⟩
     rw [List.map_append,List.flatMap_append,f₁,hit_flat _ hq hh]
     simp
    by_cases hlt:d<q
    ·refine wpAny_ite_true (decide_eq_true hlt) ?_
     refine wpAny_bind ?_
     have hel:(⟨x.cps.extract d q⟩:Str).length≤1000:=by show (x.cps.extract d q).size≤1000;rw [Array.size_extract];(clear hk;lia)
     refine wpAny_mkStr ?_ (Nat.le_trans hel (by decide))
     refine wpAny_bind (upd_piece (s:={ s with toks:=s.toks+1 }) hp (by lia) fun h' x' p'=>?_)
     refine fin _ h' _ x' p' (by rw [List.length_append,List.length_singleton];lia) ?_
     rw [List.map_append,List.flatMap_append,hfl,part_flat x.cps hdq (Nat.le_of_lt hq) hb]
     simp
    ·refine wpAny_ite_false (decide_eq_false hlt) ?_
     have e:q=d:=by lia
     subst e
     exact fin ps s.heap s.toks (fun b o _ e=>e) hp (by lia) hfl
   | none =>
    rw [hf] at hb
    dsimp only at hb ⊢
    have hb':=hb (by lia)
    have fin:∀ (ps':List (Str×Tok)) (h₁:Heap) (tk₁:Nat),Heap.ExtBut pl s.heap h₁→h₁.PlainList pl (strValues ps').toArray→((ps'.map Prod.fst).flatMap (·.cps.toList))=x.cps.toList.flatMap escC →
      wpAny (model pw w) A.in1 (do
       let joiner←reSlice x.cps 0 0 0
       let text←if ((← seqItems? (.ref pl)).getD #[]).isEmpty then pure joiner
        else call (.builtin (if ((0:Nat)==0)=true then "str.join" else "bytes.join")) [joiner,.ref pl]
       if (false:Bool)=true then ret (← holding [text] do newTuple [text,← mkInt cnt]) else ret text) (fun fin s'=>match fin with | .done f=>R (.ok f) s' | .again c'=>c'.quiet=true∧codeAny (model pw w) A c' R s') (fun e s'=>R (.error e) s') { s with heap:=h₁,toks:=tk₁ }:=by
     intro ps' h₁ tk₁ x₁ p₁ f₁
     refine wpAny_bind ?_
     show wpAny _ _ (mkStr ⟨x.cps.extract 0 0⟩) _ _ _
     rw [ext_nil]
     refine wpAny_mkStr ?_ (by rw [nilS_len];decide)
     obtain ⟨nl,hp'⟩:=id p₁
     refine wpAny_bind (wpAny_seqItems hp' rfl ?_)
     have hl3:((ps'.map Prod.fst).flatMap (·.cps.toList)).length≤3000:=by
      rw [f₁];have h1:=escC_len x.cps.toList;have h2:x.cps.toList.length=x.cps.size:=Array.length_toList;rw [h2] at h1;exact Nat.le_trans h1 (by lia)
     cases ps' with
     | nil =>
      refine wpAny_ite_true (decide_eq_true (by rfl)) ?_
      refine wpAny_bind (wpAny_pure ?_)
      refine wpAny_ite_false (decide_eq_false (by decide)) ?_
      refine wpAny_pure (hR h₁ _ nilS _ x₁ ?_)
      rw [← f₁];decide +kernel
     | cons p ps' =>
      refine wpAny_bind (join_pieces (s:={ s with heap:=h₁,toks:=tk₁+1 }) p₁ hl3 fun y u tk hy=>?_)
      exact wpAny_pure (hR h₁ _ y _ x₁ (hy.trans f₁))
    by_cases hlt:d<x.cps.size
    ·refine wpAny_ite_true (decide_eq_true hlt) ?_
     refine wpAny_bind ?_
     have hel:(⟨x.cps.extract d x.cps.size⟩:Str).length≤1000:=by show (x.cps.extract d x.cps.size).size≤1000;rw [Array.size_extract];(clear hk;lia)
     refine wpAny_mkStr ?_ (Nat.le_trans hel (by decide))
     refine wpAny_bind (upd_piece (s:={ s with toks:=s.toks+1 }) hp (by (clear hlt;lia)) fun h' x' p'=>?_)
     refine fin _ h' _ x' p' ?_
     have e:=part_flat x.cps hd (Nat.le_refl _) hb'
     rw [List.take_of_length_le (by rw [Array.length_toList];exact Nat.le_refl _)] at e
     rw [List.map_append,List.flatMap_append,hfl,e]
     simp
    ·refine wpAny_ite_false (decide_eq_false hlt) ?_
     refine fin ps s.heap s.toks (fun b o _ e=>e) hp ?_
     rw [hfl,List.take_of_length_le (by rw [Array.length_toList];(clear hd;lia))]
  ·cases o with
   | none=>exact ho
   | some m=>exact ho
namespace RE
theorem str_ba:isSubtype (.type "str") (.type "bytearray")=pure false:=by rw [isSubtype_type];kernel_rfl
theorem fn_call:typeLookup (.type "function") "__call__"=pure (some (.builtin "function.__call__")):=by rw [typeLookup_type,builtinLookup_eq_fast];kernel_rfl
end RE
open PySem.Builtin.Re in
theorem call_sub {E:Value→Shared→Prop} {f c':Addr} {pm:Value} {x:Str} {t:Tok} {R:Value→Shared→Prop} (hroom:A.in1.depth<recursionLimit) (hx:x.length≤1000) (H:SubH w s.heap f c' pm)
  (h:∀ h' tk y u,(∀ b o,s.heap.get? b=some o→h'.get? b=some o)→y.cps.toList=x.cps.toList.flatMap escC→R (.str y u) { s with heap:=h',toks:=tk }) :
  wpAny (model pw w) A (call (.builtin "re.Pattern.sub") [.ref 36,.ref f,.str x t]) R E s:=by
 have hT:s.TypeIs (.ref 36) "re.Pattern":=⟨_,H.pat,rfl⟩
 refine wpAny_call (codeAny_call_builtin RE.slot_sub.plain RE.entry_sub (RE.slot_sub.check _ _ _ _ _ _ _ _ hT (RE.args_sub _ _ _) ?_))
 refine wpAny_bind (wpAny_of_eq (a:=[some (.ref f),some (.str x t),none]) (by kernel_rfl) ?_)
 refine wpAny_bind (wpAny_pure ?_)
 refine wpAny_bind ?_
 refine wpAny_bind (wpAny_typeOf (T:="function") ⟨_,H.fn,rfl⟩ ?_)
 refine wpAny_of_eq RE.fn_call ?_
 refine wpAny_ite_true (decide_eq_true (by rfl)) ?_
 refine wpAny_bind (wpAny_pure ?_)
 refine wpAny_ite_true (decide_eq_true (by rfl)) ?_
 refine wpAny_bind (wpAny_pure ?_)
 refine wpAny_bind (wpAny_holding (whole_target H ?_))
 refine wpAny_ite_true (decide_eq_true (by rfl)) ?_
 refine wpAny_bind (wpAny_bind (wpAny_isInstance (T:="str") (b:=false) rfl RE.str_ba ?_))
 refine wpAny_ite_false (decide_eq_false (by decide)) ?_
 refine wpAny_pure ?_
 refine wpAny_bind (wpAny_newObj_type ?_ (by size_fits))
 have k1:∀ b o,s.heap.get? b=some o→(s.heap.push { cls:=.type "list",data:=.seq [].toArray }).get? b=some o:=fun b o e=>Heap.get?_push_of_some _ e
 have ne:∀ {b:Addr} {o:Obj},s.heap.get? b=some o→b≠s.heap.objs.size:=fun e=>Nat.ne_of_lt (Heap.lt_size e)
 have N:NeP s.heap.objs.size f c':=by
  refine ⟨ne H.pat,ne H.code,ne H.fn,?_,?_⟩
  ·obtain ⟨o,vs,t,h1,_⟩:=H.fc;exact ne h1
  ·obtain ⟨_,⟨o,_,_,h1,_⟩,_⟩:=H.lim;exact ne h1
 refine wpAny_pure ⟨plainId_quiet RE.plain_loop _,sub_loop hroom hx N (x.cps.size-0) 0 0 [] { s with heap:=s.heap.push { cls:=.type "list",data:=.seq [].toArray } } rfl (Nat.zero_le _) (H.keep N fun b o _ e=>k1 b o e) ⟨_,Heap.get?_push_size _ rfl⟩ (Nat.zero_le _) (by simp) fun h' tk y u x' hy=>?_⟩
 exact h h' tk y u (fun b o e=>x' b o (ne e) (k1 b o e)) hy
theorem OpT.subst (H:St w B) {pm:Value} {c':Addr} {x:Str} (hx:x.length≤1000) (q:∀ y:Str,y.cps.toList=x.cps.toList.flatMap escC→Q (.str y) S) :
  OpT w B n (Mine.callB "re.Pattern.sub") [.val (.ref 36),.obj (fnO (lamFd pm c')),.str x] S Q:=.mk fun A σ s E vs ha W r=>by
 obtain ⟨v1,v2,v3,rfl,r1,r2,r3⟩:=r.three
 obtain rfl:v1=.ref 36:=r1
 obtain ⟨f,rfl,hf,_,hfo⟩:=r2
 obtain ⟨t,rfl⟩:=r3
 have room:A.in1.depth<recursionLimit:=by have:=ha.depth;simp only [Around.in1_depth,recursionLimit];lia
 refine call_sub room hx ⟨H.at W (o:=ob2_36 w.params) (by kernel_rfl),H.at W (o:=ob2_35 w.params) (by kernel_rfl),hf,hfo _ _ rfl rfl,H.nolimit W⟩ fun h' tk y u k hy=>?_
 exact .now (av:=.str y) (W.keeps k) (Ext.of_keeps k) ⟨u,rfl⟩ (q y hy)
theorem callWith_bm {E:Value→Shared→Prop} {pos:Pos} {b a:Addr} {e:Expr} {rest:List Expr} {R:Value→Shared→Prop}
  (h:wpAny (model pw w) A (spliced (backTo pos (starEach (e::rest) env))) (fun vs s₁=>s₁.heap.get? b=some (bmO a)∧wpAny (model pw w) A (call (.ref b) vs) R E s₁) E s)
  (he:starEach (e::rest) env=(false,eval e env)::starEach rest env) (hplain:(backTo pos (starEach rest env)).any (·.1)=false) :
  wpAny (model pw w) A (callWith pos (.ref b) [] (backTo pos (starEach (e::rest) env)) []) R E s:=by
 rw [he] at h ⊢
 unfold callWith
 have h2:wpAny (model pw w) A (evalArgs (.ref b) true (backTo pos ((false,eval e env)::starEach rest env)) []) (fun x s₁=>s₁.heap.get? b=some (bmO a)∧wpAny (model pw w) A (call (.ref b) x.pos x.kw) R E s₁) E s:=evalArgs_plain h
 refine wpAny_bind (wpAny_holding (wpAny_mono h2 (fun x s₁ h₁=>wpAny_bind (wpAny_standAt ?_)) fun _ _ x=>x))
 obtain ⟨hb,h₁⟩:=h₁
 have hp:(backTo pos ((false,eval e env)::starEach rest env)).any (·.1)=false:=by show (false||(backTo pos (starEach rest env)).any (·.1))=false;rw [hplain];rfl
 rw [hp]
 refine wpAny_bind (m:=keeperOf (.ref b)) ?_
 refine wpAny_bind (wpAny_load hb (wpAny_pure ?_))
 exact wpAny_bind (wpAny_mono h₁ (fun r s₂ hr=>wpAny_bind (wpAny_holding (wpAny_point (wpAny_pure hr)))) fun _ _ x=>x)
theorem EvA.callBm {x:Str} {p pos:Pos} {k:Nat} {e:Expr} {Q:AV→Store→Prop} (hx:(x,AV.bm k)∈loc) (hk:env.kindOf x=some .local)
  (h:ArT w B n env (spliced (backTo pos (starEach [e] env))) loc S fun avs S₁=>∃ av l,avs=[av]∧S₁[k]?=some l∧l.length≤fewItems∧Q .none (S₁.set k (l++[av]))) (hd:(x==("__debug__":Str))=false:=by decide +kernel)
  (he:starEach [e] env=(false,eval e env)::starEach [] env:=by rfl) :
  EvA w B n env (.Call (.Name x p) [e] [] pos) loc S Q:=.mk fun A σ s E ha W F=>by
 refine wpAny_Call_NameR ?_
 refine let ZZ:Prop:=_;(?_:ZZ)
 obtain ⟨⟨m,hn,hm⟩,ok⟩:=id F
 rcases hm x _ hx with q | ⟨v,hv,⟨b,a,ha',rfl,hb⟩⟩
 ·cases q
 have fin:wpAny (model pw w) A (callWith pos (.ref b) [] (backTo pos (starEach [e] env)) []) (Pst B σ s Q) E s:=callWith_bm (a:=a) (by
  refine h.bind ha W F fun vs s₁ τ avs S₁ W₁ f₁ x₁ r₁ p=>?_
  refine let ZZ:Prop:=_;(?_:ZZ)
  obtain ⟨av,l,rfl,hl,hlen,q⟩:=p
  obtain ⟨v,rfl,rv⟩:=r₁.one
  have hb':s₁.heap.get? b=some (bmO a):=W.imm_kept x₁ _ _ hb rfl
  refine ⟨hb',?_⟩
  have hak:(σ++τ)[k]?=some a:=by rw [List.getElem?_append_left (List.getElem?_eq_some_iff.mp ha').1];exact ha'
  refine let ZZ:Prop:=_;(?_:ZZ)
  obtain ⟨a2,us,e2,ha2,p,hr⟩:=W₁.lst hl (v:=.ref a) ⟨a,hak,rfl⟩
  cases e2
  have hz:us.size=l.length:=by rw [hr.length];simp
  refine call_bm hb' p (fun h' hp hs'=>?_) (by rw [hz];exact Nat.le_trans hlen (by decide))
  have W₄:Wd B (σ++τ) (S₁.set k (l++[av])) { s₁ with heap:=h' }:=W₁.setList hak hs' hp (by rw [Array.toList_push];exact hr.append ⟨rv,trivial⟩)
  have pp:Pst B (σ++τ) s₁ Q .none { s₁ with heap:=h' }:=.now W₄ (Ext.setList (List.mem_of_getElem? hak) hs') (av:=.none) rfl q
  exact pp.back W W₁ x₁ f₁) he (by rfl)
 rcases hv with ⟨h1,h2⟩ | ⟨h1,c,h2,h3⟩
 ·exact wpAny_Name (wpAny_loadName_local ok.kind h1 hn h2 fin) hd
 ·exact wpAny_Name (wpAny_loadName_cell ok.kind h1 h2 h3 fin) hd
theorem ExA.assignSwap {x y:Str} {p1 p2 tpos pos:Pos} {k:Nat} {value:Expr} {c d:Sc} {f g:AV→Loc} (hu:UpdF loc y f) (hv:UpdF (f (.sc d)) x g) (hk:env.kindOf x=some .local) (hk2:env.kindOf y=some .local)
  (h:EvA w B n env value loc S fun av S₁=>av=.tup [c,d]∧ExA w B n env rest (g (.sc c)) S₁ K)
  (hs:swapsWithSole [.Tuple [.Name x p1,.Name y p2] k tpos] value pos.line env=pure false:=by rfl) (hw:swappedStores [.Tuple [.Name x p1,.Name y p2] k tpos] value env=pure (some [x,y]):=by rfl) :
  ExA w B n env (.Assign [.Tuple [.Name x p1,.Name y p2] k tpos] value pos::rest) loc S K :=
 ExA.cons <| .mk fun A σ s E ha W F=>by
  refine PyProof.Rows.Assign_Tuple_swapped (names:=[x,y]) ?_ hs hw
  refine h.bind ha W F fun v s₁ τ av S₁ W₁ f₁ x₁ r₁ p=>?_
  obtain ⟨rfl,hq⟩:=p
  refine let ZZ:Prop:=_;(?_:ZZ)
  obtain ⟨a,us,rfl,e,hr⟩:=r₁
  refine let ZZ:Prop:=_;(?_:ZZ)
  obtain ⟨v1,v2,rfl,r1,r2⟩:=hr.two
  have ht:s₁.heap.IsTuple a #[v1,v2]:=⟨_,e,rfl,0,rfl⟩
  refine wpAny_unpackItems_tuple (items:=#[v1,v2]) ha.handled ht fun h' hx=>?_
  have hk':∀ b o,s₁.heap.get? b=some o→h'.get? b=some o:=fun b o e=>hx b o (Nat.ne_of_lt (Heap.lt_size e)) e
  have X:Ext (σ++τ) s₁.heap h':=Ext.of_keeps hk'
  have W':Wd B (σ++τ) S₁ { s₁ with heap:=h' }:=W₁.keeps hk'
  have F₁:=F.mono W τ x₁
  have F':Fm B (σ++τ) env loc h':=by have:=F₁.mono W₁ [] X;rwa [List.append_nil] at this
  refine assignInOrder_cons (wpAny_bindName ?_)
  refine (StT.store (Q:=fun loc' S'=>loc'=f (.sc d)∧S'=S₁) hu hk2 ⟨rfl,rfl⟩).bind v2 ha W' F' r2 fun _ s₂ τ₂ af loc₂ S₂ W₂ f₂ x₂ F₂ r₂ p=>?_
  obtain ⟨rfl,rfl⟩:=p
  refine assignInOrder_cons (wpAny_bindName ?_)
  refine wpAny_mono ((StT.store (Q:=fun loc' S'=>ExA w B n env rest loc' S' K) hv hk hq).run A (σ++τ++τ₂) s₂ E v1 ha W₂ F₂ r1) (fun _ s₃ p=>?_) fun _ _ e=>e
  refine assignInOrder_nil ?_
  have p1:=p.back (s:={ s₁ with heap:=h' }) F'.live W₂ F₂ x₂ f₂
  have p0:PstF B (σ++τ++[]) env { s₁ with heap:=h' } (fun _ loc' S'=>ExA w B n env rest loc' S' K) .next s₃:=by rwa [List.append_nil]
  have p3:=p0.back F₁.live (by rwa [List.append_nil]) (by rwa [List.append_nil]) X.toF (fun a h=>by cases h)
  have p4:=p3.back F.live W₁ F₁ x₁.toF f₁
  refine let ZZ:Prop:=_;(?_:ZZ)
  obtain ⟨τ',af,loc',S',a1,b1,c1,d1,e1,g1⟩:=p4
  cases af with
  | next=>exact ⟨τ',.next,loc',S',a1,b1,c1,d1,e1,g1⟩
  | brk=>exact absurd e1 nofun
  | cont=>exact absurd e1 nofun
  | ret av=>obtain ⟨v,e1,_⟩:=e1;cases e1
theorem OpT.gtS {x y:Str} (q:Q (.bool (decide (y.cps.toList<x.cps.toList))) S):OpT w B n (opC .Gt) [.str x,.str y] S Q:=.mk fun A σ s E vs ha W r=>by
 obtain ⟨v1,v2,rfl,⟨t,rfl⟩,⟨u,rfl⟩⟩:=r.two
 exact P.gt_str (Pst.sc W (c:=.bool _) rfl q)
theorem OpT.inStrs {x:Str} {l:List Str} (q:Q (.bool (l.any (·==x))) S):OpT w B n (opC .In) [.str x,.tup (l.map .str)] S Q:=.mk fun A σ s E vs ha W r=>by
 refine let ZZ:Prop:=_;(?_:ZZ)
 obtain ⟨v,y,rfl,⟨t,rfl⟩,⟨a,us,rfl,e,hr⟩⟩:=r.two
 have all:∀ (l:List Str) (us:List Value),All2 RSc (l.map .str) us→PyProof.Rows.StrsAre us l :=
  fun l us h=>All2.indM (P:=fun l us=>PyProof.Rows.StrsAre us l) .nil (fun a u l us r ih=>by obtain ⟨t,rfl⟩:=r;exact .cons _ _ ih) h
 exact PyProof.Rows.in_tuple_strs (items:=us.toArray) ⟨_,e,rfl,0,rfl⟩ (all l us hr) (Pst.sc W (c:=.bool _) rfl q)
theorem ExA.assertOk {test:Expr} {pos:Pos} (h:TsA w B n env test loc S fun b S₁=>b=true∧ExA w B n env rest loc S₁ K):ExA w B n env (.Assert test none pos::rest) loc S K :=
 ExA.cons <| .mk fun A σ s E ha W F=>by
  refine wpAny_Assert_holds (h.bind ha W F fun b s₁ τ S₁ W₁ f₁ x₁ p=>?_)
  obtain ⟨hb,q⟩:=p
  exact ⟨hb,τ,.next,loc,S₁,W₁,f₁,x₁.toF,F.mono W τ x₁,rfl,q⟩
theorem all2_erase {R:AV→Value→Prop} {l:List AV} {m:List Value} (h:All2 R l m):∀ i,All2 R (l.eraseIdx i) (m.eraseIdx i) :=
 All2.ind (P:=fun l m=>∀ i,All2 R (l.eraseIdx i) (m.eraseIdx i)) (fun _=>trivial) (fun a b l m r h ih i=>by
  cases i with
  | zero=>exact h
  | succ i=>exact ⟨r,ih i⟩) h
theorem ExA.delL {o i:Expr} {pos' pos:Pos} {k:Nat}
  (h:EvA w B n env o loc S fun ov S₁=>EvA w B n env i loc S₁ fun iv S₂=>ov=.lst k∧∃ (j:Nat) (l:List AV),iv=.int j∧S₂[k]?=some l∧j<l.length∧l.length≤fewItems∧ExA w B n env rest loc (S₂.set k (l.eraseIdx j)) K) :
  ExA w B n env (.Delete [.Subscript o i pos'] pos::rest) loc S K :=
 ExA.cons <| .mk fun A σ s E ha W F=>by
  refine wpAny_Delete (wpAny_deleteEach_cons (wpAny_delete_Subscript ?_))
  refine h.bind ha W F fun o s₁ τ ov S₁ W₁ f₁ x₁ r₁ h₁=>?_
  have F₁:=F.mono W τ x₁
  refine h₁.bind ha W₁ F₁ fun i s₂ τ₂ iv S₂ W₂ f₂ x₂ r₂ p=>?_
  refine let ZZ:Prop:=_;(?_:ZZ)
  obtain ⟨rfl,j,l,rfl,hk,hj,hl,q⟩:=p
  have F₂:=F₁.mono W₁ τ₂ x₂
  obtain ⟨u,rfl⟩:=r₂
  refine let ZZ:Prop:=_;(?_:ZZ)
  obtain ⟨a,vs,rfl,ha',p,hr⟩:=W₂.lst hk (r₁.mono W₁ x₂)
  have hz:vs.size=l.length:=by rw [hr.length];simp
  have hjn:(j:Int).toNat=j:=rfl
  have few:=few_line
  refine wpAny_delItem_plain (k:=j) p ?_ ?_ (fun h' hp hs'=>?_) (by rw [hz];exact Nat.le_trans hl few_line)
  ·have f1:fewItems<2 ^ 63:=by decide
   unfold Builtin.List.listFitsIndex
   simp only [Bool.and_eq_true,decide_eq_true_eq]
   lia
  ·rw [hz]
   unfold seqIndex?
   simp
   lia
  have W₄:Wd B (σ++τ++τ₂) (S₂.set k (l.eraseIdx j)) { s₂ with heap:=h' }:=W₂.setList ha' hs' hp (by
   rw [Array.toList_eraseIdxIfInBounds];exact all2_erase hr j)
  have x₄:Ext (σ++τ++τ₂) s₂.heap h':=Ext.setList (List.mem_of_getElem? ha') hs'
  have F₄:=F₂.mono W₂ [] x₄
  rw [List.append_nil] at F₄
  refine wpAny_deleteEach_nil ?_
  have p₄:PstF B (σ++τ++τ₂) env s₂ (fun af loc₁ S₁=>match af with | .next=>ExA w B n env rest loc₁ S₁ K | af=>K af loc₁ S₁) .next { s₂ with heap:=h' }:=.now W₄ x₄.toF F₄ (af:=.next) rfl q
  exact (p₄.back F₁.live W₂ F₂ x₂.toF f₂).back F.live W₁ F₁ x₁.toF f₁
end
section
variable {w:World} {B:Bs} {n:Nat} {env:Env} {loc:Loc} {S:Store} {σ:List Addr} {s:Shared} {A:Around} {Q:AV→Store→Prop} {K:AF→Loc→Store→Prop} {rest:List Stmt}
noncomputable def bodyC (l:List (Nat×Nat)):List Nat:=l.flatMap fun p=>[p.1,45,p.2]
noncomputable def preC (bar:Bool):List Nat:=if bar then [33] else []
noncomputable def okC (c:Nat):Prop:=c≠33∧c≠45∧c≠93
structure Pat (x:Str) (bar:Bool) (l:List (Nat×Nat)):Prop where
 eq:x.cps.toList=91::(preC bar++bodyC l++[93])
 ok:∀ p∈l,okC p.1∧okC p.2
 ne:0<l.length
 len:l.length≤30
noncomputable def s0 (bar:Bool):Nat:=if bar then 2 else 1
theorem s0_pos (bar:Bool):1≤s0 bar∧s0 bar≤2:=by cases bar <;> decide
theorem bodyC_len (l:List (Nat×Nat)):(bodyC l).length=3*l.length:=by
 induction l with
 | nil=>rfl
 | cons a l ih=>unfold bodyC at *;simp only [List.flatMap_cons,List.length_append,List.length_cons,List.length_nil,ih];lia
theorem bodyC_drop (l:List (Nat×Nat)) (t:Nat):(bodyC l).drop (3*t)=bodyC (l.drop t):=by
 induction t generalizing l with
 | zero=>rfl
 | succ t ih =>
  cases l with
  | nil=>simp [bodyC]
  | cons a l =>
   rw [List.drop_succ_cons,← ih l]
   show ([a.1,45,a.2]++bodyC l).drop (3*(t+1))=_
   rw [show 3*(t+1)=[a.1,45,a.2].length+3*t by simp;lia,List.drop_append,List.drop_eq_nil_of_le (by exact Nat.le_add_right [a.fst,45,a.snd].length (3*t))]
   simp
variable {x:Str} {bar:Bool} {l:List (Nat×Nat)}
theorem Pat.length (P:Pat x bar l):x.length=s0 bar+3*l.length+1:=by
 rw [len_list,P.eq]
 simp only [List.length_cons,List.length_append,bodyC_len,List.length_nil]
 unfold preC s0
 cases bar <;> simp <;> lia
theorem Pat.drop (P:Pat x bar l) {t:Nat} (ht:t≤l.length):x.cps.toList.drop (s0 bar+3*t)=bodyC (l.drop t)++[93]:=by
 have hs:(91::preC bar).length=s0 bar:=by cases bar <;> rfl
 rw [P.eq,show 91::(preC bar++bodyC l++[93])=(91::preC bar)++(bodyC l++[93]) by simp,← hs,← List.drop_drop,List.drop_left,List.drop_append,bodyC_drop]
 rw [show 3*t-(bodyC l).length=0 by rw [bodyC_len];lia]
 rfl
theorem get_drop {l:List Nat} {a b:Nat}:l[a+b]?=(l.drop a)[b]?:=by rw [List.getElem?_drop]
theorem Pat.cons (P:Pat x bar l) {t:Nat} (ht:t<l.length):x.cps.toList.drop (s0 bar+3*t)=(l[t]).1::45::(l[t]).2::(bodyC (l.drop (t+1))++[93]):=by
 rw [P.drop (Nat.le_of_lt ht),List.drop_eq_getElem_cons ht]
 rfl
theorem Pat.lo (P:Pat x bar l) {t:Nat} (ht:t<l.length):x.cps.toList[s0 bar+3*t]?=some (l[t]).1:=by
 rw [← Nat.add_zero (s0 bar+3*t),get_drop,P.cons ht];rfl
theorem Pat.dash (P:Pat x bar l) {t:Nat} (ht:t<l.length):x.cps.toList[s0 bar+3*t+1]?=some 45:=by
 rw [get_drop,P.cons ht];rfl
theorem Pat.hi (P:Pat x bar l) {t:Nat} (ht:t<l.length):x.cps.toList[s0 bar+3*t+2]?=some (l[t]).2:=by
 rw [get_drop,P.cons ht];rfl
theorem Pat.last (P:Pat x bar l):x.cps.toList[s0 bar+3*l.length]?=some 93:=by
 rw [← Nat.add_zero (s0 bar+3*l.length),get_drop,P.drop (Nat.le_refl _),List.drop_length];rfl
theorem Pat.not93 (P:Pat x bar l) {j:Nat} (h:j<s0 bar+3*l.length):∃ c,x.cps.toList[j]?=some c∧c≠93:=by
 have e:x.cps.toList=(91::(preC bar++bodyC l))++[93]:=by rw [P.eq];simp
 have hl:(91::(preC bar++bodyC l)).length=s0 bar+3*l.length:=by
  simp only [List.length_cons,List.length_append,bodyC_len]
  unfold preC s0
  cases bar <;> simp <;> lia
 rw [e,List.getElem?_append_left (by rw [hl];exact h)]
 refine ⟨_,List.getElem?_eq_getElem (by rw [hl];exact h),?_⟩
 have hm:=List.getElem_mem (l:=91::(preC bar++bodyC l)) (n:=j) (by rw [hl];exact h)
 intro q
 rw [q] at hm
 rcases List.mem_cons.mp hm with q | hm
 ·cases q
 rcases List.mem_append.mp hm with hm | hm
 ·cases bar <;> simp [preC] at hm
 ·obtain ⟨p,hp,hm⟩:=List.mem_flatMap.mp hm
  have:=P.ok p hp
  simp at hm
  rcases hm with q2 | q2
  ·exact this.1.2.2 q2.symm
  ·exact this.2.2.2 q2.symm
noncomputable def hdT:List (Nat×Nat)→List Nat
 | []=>[]
 | p::_=>[p.1]
noncomputable def chF (pre:List Nat):List (Nat×Nat)→List (List Nat)
 | []=>[pre]
 | p::r=>(pre++[p.1])::chF [p.2] r
noncomputable def moreT:List (Nat×Nat)→List (List Nat)
 | []=>[]
 | p::r=>chF [p.2] r
theorem chF_eq (pre:List Nat) (l:List (Nat×Nat)):chF pre l=(pre++hdT l)::moreT l:=by
 cases l with
 | nil=>exact congrArg (·::[]) (List.append_nil pre).symm
 | cons p r=>rfl
theorem chF_len (pre:List Nat) (l:List (Nat×Nat)):(chF pre l).length=l.length+1:=by
 induction l generalizing pre with
 | nil=>rfl
 | cons p r ih=>simp [chF,ih]
noncomputable def preT (bar:Bool) (l:List (Nat×Nat)) (t:Nat):List Nat:=match t with
 | 0=>preC bar
 | t+1=>[(l.getD t (0,0)).2]
theorem chF_drop (bar:Bool) (l:List (Nat×Nat)):∀ t,t≤l.length→(chF (preC bar) l).drop t=chF (preT bar l t) (l.drop t):=by
 have key:∀ (l:List (Nat×Nat)) (pre:List Nat) (t:Nat),t≤l.length→(chF pre l).drop t=chF (match t with | 0=>pre | t+1=>[(l.getD t (0,0)).2]) (l.drop t):=by
  intro l
  induction l with
  | nil =>
   intro pre t ht
   cases t with
   | zero=>rfl
   | succ t=>exact absurd ht (by simp)
  | cons p r ih =>
   intro pre t ht
   cases t with
   | zero=>rfl
   | succ t =>
    show (chF [p.2] r).drop t=chF _ (r.drop t)
    rw [ih [p.2] t (by simpa using ht)]
    cases t <;> rfl
 intro t ht
 rw [key l (preC bar) t ht]
 cases t <;> rfl
theorem chF_get (bar:Bool) (l:List (Nat×Nat)) {t:Nat} (ht:t<l.length):(chF (preC bar) l)[t]?=some (preT bar l t++[(l[t]).1]):=by
 have h:((chF (preC bar) l).drop t)[0]?=(chF (preT bar l t) (l.drop t))[0]?:=by rw [chF_drop bar l t (Nat.le_of_lt ht)]
 rw [List.getElem?_drop,List.drop_eq_getElem_cons ht] at h
 exact h
theorem chF_last (bar:Bool) (l:List (Nat×Nat)):(chF (preC bar) l).drop l.length=[preT bar l l.length]:=by
 rw [chF_drop bar l _ (Nat.le_refl _),List.drop_length];rfl
end
section
variable {w:World} {B:Bs} {n:Nat} {env:Env} {loc:Loc} {S:Store} {σ:List Addr} {s:Shared} {A:Around} {Q:AV→Store→Prop} {K:AF→Loc→Store→Prop} {rest:List Stmt}
noncomputable def eC (c:Nat):List Nat:=if (c==92||hit c)=true then [92,c] else [c]
noncomputable def tk (c:Nat):Tk:=(c==92||hit c,c)
noncomputable def tk1 (c:Nat):Tk:=(c==92||hit c||c==94||c==91,c)
noncomputable def d92 (k:Nat):List Nat:=if k=92 then [k,k] else [k]
theorem dbl_flat (l:List Nat):StrLaws.dbl 92 l=l.flatMap d92:=by
 induction l with
 | nil=>rfl
 | cons k r ih =>
  rw [List.flatMap_cons,← ih]
  show (if k=92 then k::k::StrLaws.dbl 92 r else k::StrLaws.dbl 92 r)=(if k=92 then [k,k] else [k])++StrLaws.dbl 92 r
  split <;> rfl
theorem d92_esc (c:Nat):(d92 c).flatMap escC=eC c:=by
 unfold d92 eC escC
 by_cases h:c=92
 ·subst h;rfl
 ·rw [if_neg h,List.flatMap_cons,List.flatMap_nil,List.append_nil]
  have:(c==92)=false:=by simpa using h
  rw [this,Bool.false_or]
theorem dbl_esc (l:List Nat):(StrLaws.dbl 92 l).flatMap escC=l.flatMap eC:=by
 rw [dbl_flat]
 induction l with
 | nil=>rfl
 | cons k r ih=>rw [List.flatMap_cons,List.flatMap_append,ih,d92_esc,List.flatMap_cons]
theorem eC_tk (c:Nat):eC c=tkS (tk c):=by unfold eC tkS tk;rfl
noncomputable def outC (l:List (Nat×Nat)):List Nat:=l.flatMap fun p=>eC p.1++45::eC p.2
noncomputable def mkS (l:List Nat):Str:=⟨l.toArray⟩
theorem glued_sep (sep a:Str) (l:List Str):(Builtin.Str.glued sep (a::l)).cps.toList=a.cps.toList++l.flatMap fun s=>sep.cps.toList++s.cps.toList:=by
 have key:∀ (l:List Str) (acc:Array Nat),(l.foldl (fun acc p=>acc++sep.cps++p.cps) acc).toList=acc.toList++l.flatMap fun s=>sep.cps.toList++s.cps.toList:=by
  intro l
  induction l with
  | nil=>intro acc;simp
  | cons a l ih =>
   intro acc
   rw [List.foldl_cons,ih]
   simp
 exact key _ _
theorem esc_mk {c:List Nat} (h:45∉c):(escA (mkS c)).cps.toList=c.flatMap d92:=by
 rw [escA_eq (by exact h),rep_bs,dbl_flat];rfl
theorem glue_go (F:List (Nat×Nat)):∀ pre:List Nat,(∀ c∈chF pre F,45∉c) →
  (escA (mkS (pre++hdT F))).cps.toList++((moreT F).map fun c=>escA (mkS c)).flatMap (fun s=>[45]++s.cps.toList)=pre.flatMap d92++F.flatMap fun p=>d92 p.1++45::d92 p.2:=by
 induction F with
 | nil =>
  intro pre h
  rw [esc_mk (h _ (by rw [chF_eq];exact List.mem_cons_self))]
  simp [hdT,moreT]
 | cons p r ih =>
  intro pre h
  have h1:45∉pre++[p.1]:=h _ List.mem_cons_self
  have h2:∀ c∈chF [p.2] r,45∉c:=fun c hc=>h c (List.mem_cons_of_mem _ hc)
  show (escA (mkS (pre++[p.1]))).cps.toList++((chF [p.2] r).map fun c=>escA (mkS c)).flatMap _=_
  rw [esc_mk h1,chF_eq,List.map_cons,List.flatMap_cons,List.append_assoc [45],ih [p.2] h2]
  simp
theorem joined_esc {pre:List Nat} {F:List (Nat×Nat)} (h:∀ c∈chF pre F,45∉c):(Txt.join (Str.ofString "-") ((chF pre F).map fun c=>escA (mkS c))).cps.toList=pre.flatMap d92++F.flatMap fun p=>d92 p.1++45::d92 p.2:=by
 rw [chF_eq,List.map_cons]
 unfold Txt.join
 rw [glued_sep,dash1]
 exact glue_go F pre h
theorem joined_sub {pre:List Nat} {F:List (Nat×Nat)}:(pre.flatMap d92++F.flatMap fun p=>d92 p.1++45::d92 p.2).flatMap escC=pre.flatMap eC++outC F:=by
 have one:∀ l:List Nat,(l.flatMap d92).flatMap escC=l.flatMap eC:=fun l=>by rw [← dbl_flat,dbl_esc]
 rw [List.flatMap_append,one]
 congr 1
 unfold outC
 induction F with
 | nil=>rfl
 | cons p r ih =>
  rw [List.flatMap_cons,List.flatMap_append,ih,List.flatMap_cons,List.flatMap_append,List.flatMap_cons,d92_esc,d92_esc]
  rfl
theorem chF_no45 {pre:List Nat} {F:List (Nat×Nat)} (hp:45∉pre) (h:∀ p∈F,p.1≠45∧p.2≠45):∀ c∈chF pre F,45∉c:=by
 induction F generalizing pre with
 | nil=>intro c hc;rw [show c=pre from by simpa [chF] using hc];exact hp
 | cons p r ih =>
  intro c hc
  obtain ⟨h1,h2⟩:=h p List.mem_cons_self
  rcases List.mem_cons.mp hc with rfl | hc
  ·intro hm
   rcases List.mem_append.mp hm with hm | hm
   ·exact hp hm
   ·exact h1 (List.mem_singleton.mp hm).symm
  ·exact ih (by intro hm;exact h2 (List.mem_singleton.mp hm).symm) (fun q hq=>h q (List.mem_cons_of_mem _ hq)) c hc
noncomputable def outT (bar:Bool):List (Nat×Nat)→List (Tk×Tk)
 | []=>[]
 | p::r=>((if bar then tk p.1 else tk1 p.1),tk p.2)::r.map fun p=>(tk p.1,tk p.2)
theorem flat_out (r:List (Nat×Nat)):flat (trip (r.map fun p=>(tk p.1,tk p.2)))=outC r:=by
 induction r with
 | nil=>rfl
 | cons p r ih =>
  show flat ([tk p.1,(false,45),tk p.2]++trip (r.map fun p=>(tk p.1,tk p.2)))=_
  rw [flat_app,ih]
  show tkS (tk p.1)++(tkS (false,45)++(tkS (tk p.2)++[]))++outC r=_
  unfold outC
  rw [List.flatMap_cons,eC_tk,eC_tk]
  simp [tkS]
theorem flat_outT (bar:Bool) (p:Nat×Nat) (r:List (Nat×Nat)):flat (trip (outT bar (p::r)))=tkS (if bar then tk p.1 else tk1 p.1)++45::(eC p.2++outC r):=by
 show flat ([if bar then tk p.1 else tk1 p.1,(false,45),tk p.2]++trip (r.map fun p=>(tk p.1,tk p.2)))=_
 rw [flat_app,flat_out,eC_tk]
 show tkS _++(tkS (false,45)++(tkS (tk p.2)++[]))++outC r=_
 simp [tkS]
theorem outT_ok (bar:Bool) (F:List (Nat×Nat)):∀ p∈outT bar F,okTk p.1∧okTk p.2:=by
 have h1:∀ c,okTk (tk c):=fun c=>by
  by_cases h:c=92
  ·subst h;exact .inl rfl
  ·exact .inr h
 have h2:∀ c,okTk (tk1 c):=fun c=>by
  by_cases h:c=92
  ·subst h;exact .inl rfl
  ·exact .inr h
 cases F with
 | nil=>intro p hp;cases hp
 | cons q r =>
  intro p hp
  rcases List.mem_cons.mp hp with rfl | hp
  ·refine ⟨?_,h1 _⟩
   show okTk (if bar=true then _ else _)
   split
   ·exact h1 _
   ·exact h2 _
  ·obtain ⟨p',_,rfl⟩:=List.mem_map.mp hp
   exact ⟨h1 _,h1 _⟩
theorem outT_val (bar:Bool) (F:List (Nat×Nat)) (h:∀ p∈F,p.1≠45∧p.2≠45):(outT bar F).map (fun p=>(tkV p.1,tkV p.2))=F.map fun p=>((p.1:Int),(p.2:Int)):=by
 have h1:∀ c b,c≠45→tkV (b,c)=(c:Int):=fun c b hc=>by
  unfold tkV
  rw [if_neg hc];split <;> rfl
 cases F with
 | nil=>rfl
 | cons q r =>
  obtain ⟨a1,a2⟩:=h q List.mem_cons_self
  show _::List.map _ (r.map _)=_::_
  rw [List.map_map]
  congr 1
  ·show (tkV (if bar=true then tk q.1 else tk1 q.1),tkV (tk q.2))=_
   unfold tk tk1
   rw [h1 _ _ a2]
   cases bar
   ·rw [if_neg (by decide),h1 _ _ a1]
   ·rw [if_pos rfl,h1 _ _ a1]
  ·refine List.map_congr_left fun p hp=>?_
   obtain ⟨b1,b2⟩:=h p (List.mem_cons_of_mem _ hp)
   show (tkV (tk p.1),tkV (tk p.2))=_
   unfold tk
   rw [h1 _ _ b1,h1 _ _ b2]
theorem outT_len (bar:Bool) (F:List (Nat×Nat)):(outT bar F).length=F.length:=by
 cases F with
 | nil=>rfl
 | cons p r=>simp [outT]
end
section
variable {w:World} {B:Bs} {n:Nat} {env:Env} {loc:Loc} {S:Store} {σ:List Addr} {s:Shared} {A:Around} {Q:AV→Store→Prop} {K:AF→Loc→Store→Prop} {rest:List Stmt}
noncomputable abbrev trEnv (L:Addr):Env:=callEnv (fdOf 6 (Str.ofString "_translate") 54 (Value.str (Str.ofString "cpy313.fnmatch") 475)) L 55
noncomputable def trElse:List Stmt:=stE (stAt (stB (stAt (stE (stAt (stE (stAt (stB (stAt (fnB 6) 3)) 2)) 0)) 0)) 4)
noncomputable def trE1:List Stmt:=stE (stAt trElse 1)
variable {x:Str} {bar:Bool} {l:List (Nat×Nat)}
noncomputable def iT (bar:Bool) (t:Nat):Nat:=if t=0 then 1 else s0 bar+3*t-1
theorem cut_is {x:Str} {a b:Nat} {c:List Nat} (h:(x.cps.toList.drop a).take (b-a)=c):cut x a b=mkS c:=by unfold cut mkS;rw [h]
theorem Pat.chunk (P:Pat x bar l) {t:Nat} (ht:t<l.length):cut x (iT bar t) (s0 bar+1+3*t)=mkS (preT bar l t++[(l[t]).1]):=by
 refine cut_is ?_
 cases t with
 | zero =>
  obtain ⟨p,l',rfl⟩:∃ p l',l=p::l':=by cases l with | nil=>cases ht | cons p l'=>exact ⟨p,l',rfl⟩
  rw [P.eq]
  cases bar <;> rfl
 | succ t =>
  have e:iT bar (t+1)=s0 bar+3*t+2:=by unfold iT;rw [if_neg (by exact Nat.add_one_ne_zero t)];exact Nat.add_succ_sub_one (s0 bar) (Nat.mul 3 t+2)
  rw [e,← List.drop_drop,P.cons (by exact Nat.lt_of_succ_lt ht),show s0 bar+1+3*(t+1)-(s0 bar+3*t+2)=2 by lia,List.drop_eq_getElem_cons ht]
  show [(l[t]).2,(l[t+1]).1]=[(l.getD t (0,0)).2]++[(l[t+1]).1]
  rw [List.getD_eq_getElem?_getD,List.getElem?_eq_getElem (by exact Nat.lt_of_succ_lt ht)]
  rfl
theorem Pat.lastChunk (P:Pat x bar l):cut x (iT bar l.length) (s0 bar+3*l.length)=mkS (preT bar l l.length):=by
 refine cut_is ?_
 have hl:=P.ne
 obtain ⟨t,ht⟩:∃ t,l.length=t+1:=⟨l.length-1,by exact (Nat.sub_eq_iff_eq_add hl).mp rfl⟩
 have e:iT bar l.length=s0 bar+3*t+2:=by unfold iT;rw [if_neg (by exact Nat.ne_zero_of_lt hl)];lia
 rw [e,← List.drop_drop,P.cons (by lia),show s0 bar+3*l.length-(s0 bar+3*t+2)=1 by lia]
 refine Eq.trans ?_ (congrArg (preT bar l) ht).symm
 show [(l[t]).2]=[(l.getD t (0,0)).2]
 rw [List.getD_eq_getElem?_getD,List.getElem?_eq_getElem (by lia)]
 rfl
theorem Pat.find1 (P:Pat x bar l) {t:Nat} (h:t<l.length):∃ tl,posL x.cps.toList 45 (s0 bar+1+3*t) (s0 bar+3*l.length-(s0 bar+1+3*t))=(s0 bar+1+3*t)::tl:=by
 obtain ⟨k,hk⟩:∃ k,s0 bar+3*l.length-(s0 bar+1+3*t)=k+1:=⟨s0 bar+3*l.length-(s0 bar+1+3*t)-1,by lia⟩
 have d:=P.dash h
 rw [show s0 bar+3*t+1=s0 bar+1+3*t by exact Nat.add_right_comm (s0 bar) (3*t) 1] at d
 unfold posL
 rw [hk,List.range'_succ,List.filter_cons,if_pos (by rw [d];simp)]
 exact ⟨_,rfl⟩
theorem find2 (x:Str) (bar:Bool) (m:Nat):posL x.cps.toList 45 (s0 bar+1+3*m) (s0 bar+3*m-(s0 bar+1+3*m))=[]:=by
 rw [show s0 bar+3*m-(s0 bar+1+3*m)=0 by lia]
 rfl
noncomputable def strsL (cs:List (List Nat)):List AV:=cs.map fun c=>.str (mkS c)
theorem strsL_snoc (cs:List (List Nat)) (c:List Nat):strsL cs++[.str (mkS c)]=strsL (cs++[c]):=by simp [strsL]
noncomputable abbrev locT (x:Str) (ks:Nat) (any:Str) (r:Nat) (i j st ck k ch:AV):Loc:=[("pat",.str x),("STAR",.lst ks),("QUESTION_MARK",.str any),("res",.lst r),("add",.bm r),("i",i),("n",.int (x.length:Int)),("c",.str ⟨#[91]⟩),("j",j),("stuff",st),("chunks",ck),("k",k),("chunk",ch)]
noncomputable def chRest:List Stmt:=trE1.drop 5
theorem chunks_w {L:Addr} (H:St w (B.into (trEnv L))) (P:Pat x bar l) {ks:Nat} {any:Str} {r:Nat} {st:AV}
  (q:ExA w (B.into (trEnv L)) n (trEnv L) chRest (locT x ks any r (.int (iT bar l.length:Nat)) (.int (s0 bar+3*l.length:Nat)) st (.lst S.length) (.int (-1)) (.str (mkS (preT bar l l.length)))) (S++[strsL (chF (preC bar) l)]) K) :
  ExA w (B.into (trEnv L)) n (trEnv L) trE1 (locT x ks any r (.int ((1:Nat):Int)) (.int (s0 bar+3*l.length:Nat)) st .unb .unb .unb) S K:=by
 have hxl:=P.length
 have hs:=s0_pos bar
 have hll:=P.len
 have hln:=P.ne
 have fewx:x.length≤fewItems:=by unfold fewItems;lia
 have fit:∀ j:Nat,j≤1000→(decide ((j:Int) < -(2 ^ 63:Int))||decide ((j:Int)≥2 ^ 63))=false:=fun j hj=>by simp;lia
 have ex:Str.ofString "!"=⟨#[33]⟩:=by decide +kernel
 have hcl:=chF_len (preC bar) l
 show ExA _ _ _ _ (_::_::_::_::_::chRest) _ _ _
 refine ExA.assign (by walk_at "u") (EvA.list ?_)
 walk_at "s"
 refine ⟨Nat.zero_le _,?_⟩
 obtain ⟨c1,hc1,hc1'⟩:∃ c1,x.cps.toList[1]?=some c1∧decide (c1=33)=bar:=by
  rw [P.eq]
  cases bar with
  | true=>exact ⟨33,rfl,rfl⟩
  | false =>
   obtain ⟨p,l',rfl⟩:∃ p l',l=p::l':=by cases l with | nil=>cases hln | cons p l'=>exact ⟨p,l',rfl⟩
   exact ⟨p.1,rfl,by simpa using (P.ok p List.mem_cons_self).1.1⟩
 refine ExA.assign (by walk_at "u") (EvA.ite (TsA.cmp (EvA.subS ?_)))
 walk_at "s"
 refine ⟨⟨_,rfl⟩,OpT.getS (c:=c1) (fit 1 (by exact Nat.le_of_ble_eq_true rfl)) (at_of hc1) ?_⟩
 walk_at "s"
 rw [ex]
 refine OpT.eqS (TrT.bool ?_)
 rw [str1,hc1']
 have goal:ExA w (B.into (trEnv L)) n (trEnv L) (trE1.drop 2) (locT x ks any r (.int ((1:Nat):Int)) (.int (s0 bar+3*l.length:Nat)) st (.lst S.length) (.int (s0 bar+1:Nat)) .unb) (S++[[]]) K:=by
  show ExA _ _ _ _ (_::_::_::chRest) _ _ _
  let I:Nat→Loc→Store→Prop:=fun m loc' S'=>∃ t:Nat,t≤l.length∧m=l.length-t∧loc'=locT x ks any r (.int (iT bar t:Nat)) (.int (s0 bar+3*l.length:Nat)) st (.lst S.length) (.int (s0 bar+1+3*t:Nat)) .unb∧S'=S++[strsL ((chF (preC bar) l).take t)]
  refine ExA.while I ?_ l.length ⟨0,Nat.zero_le _,rfl,rfl,rfl⟩
  rintro m loc' S' ⟨t,t1,rfl,rfl,rfl⟩
  refine TsA.val (EvA.bool (TrT.bool ?_))
  refine ifP rfl ?_
  refine ExA.assign (by walk_at "u") (EvA.meth (T:="str") (id:="str.find") ?_ PySem.F.plainAttrs_str PySem.F.slot_str_find PySem.F.type_str_find)
  walk_at "s"
  refine ⟨rfl,?_⟩
  walk_at "s"
  rw [dash_is]
  refine OpT.find4 (by exact Nat.le.intro (id (Eq.symm hxl))) ?_
  by_cases ht:t<l.length
  ·obtain ⟨tl,htl⟩:=P.find1 ht
   rw [htl]
   refine ExA.ite (TsA.cmp ?_)
   walk_at "s"
   refine ifN (by simp;exact Int.zero_le_ofNat (s0 bar+1+3*t)) ?_
   refine ExA.nil ?_
   refine ExA.expr (EvA.meth (T:="list") (id:="list.append") ?_ F.plainAttrs_list slot_list_append type_list_append)
   walk_at "s"
   refine ⟨rfl,?_⟩
   refine ArT.cons (EvA.sliceS ?_)
   walk_at "s"
   refine EvP.yes ?_
   walk_at "s"
   refine ⟨_,rfl,EvP.yes ?_⟩
   walk_at "s"
   have hi:iT bar t≤s0 bar+1+3*t:=by unfold iT;split <;> lia
   have hcu:=cuts_min (x:=x) (p:=iT bar t) (q:=s0 bar+1+3*t) (by lia) hi
   rw [Nat.min_eq_left (by lia)] at hcu
   refine ⟨_,rfl,x,iT bar t,s0 bar+1+3*t,rfl,hcu,fewx,?_⟩
   walk_at "s"
   rw [P.chunk ht]
   refine OpT.append (l:=strsL ((chF (preC bar) l).take t)) (by rw [List.getElem?_append_right (Nat.le_refl _),Nat.sub_self];rfl) (by unfold strsL fewItems;rw [List.length_map,List.length_take];lia) ?_
   refine ExA.assign (by walk_at "u") ?_
   walk_at "s"
   refine ExA.assign (by walk_at "u") ?_
   walk_at "s"
   refine ExA.nil ⟨l.length-(t+1),by exact Nat.sub_succ_lt_self l.length t ht,t+1,ht,rfl,?_,?_⟩
   ·have e1:((s0 bar+1+3*t:Nat):Int)+1=((iT bar (t+1):Nat):Int):=by unfold iT;rw [if_neg (by exact Nat.add_one_ne_zero t)];lia
    have e2:((s0 bar+1+3*t:Nat):Int)+3=((s0 bar+1+3*(t+1):Nat):Int):=by exact Int.mem_toNat?.mp rfl
    rw [e1,e2]
   ·rw [List.set_append_right _ _ (Nat.le_refl _),Nat.sub_self,strsL_snoc,List.take_add_one,chF_get bar l ht]
    rfl
  ·obtain rfl:t=l.length:=by lia
   rw [find2]
   refine ExA.ite (TsA.cmp ?_)
   walk_at "s"
   refine ifP (by decide) ?_
   refine ExA.brk ?_
   have ih:iT bar l.length≤s0 bar+3*l.length:=by unfold iT;split <;> (clear q hcl;lia)
   have hcu:=cuts_min (x:=x) (p:=iT bar l.length) (q:=s0 bar+3*l.length) (by lia) ih
   rw [Nat.min_eq_left (by exact Nat.le.intro (id (Eq.symm hxl)))] at hcu
   refine ExA.assign (by walk_at "u") (EvA.sliceS ?_)
   walk_at "s"
   refine EvP.yes ?_
   walk_at "s"
   refine ⟨_,rfl,EvP.yes ?_⟩
   walk_at "s"
   refine ⟨_,rfl,x,iT bar l.length,s0 bar+3*l.length,rfl,hcu,fewx,?_⟩
   rw [P.lastChunk]
   obtain ⟨t,ht2⟩:∃ t,l.length=t+1:=⟨l.length-1,by exact (Nat.sub_eq_iff_eq_add hln).mp rfl⟩
   have h1:(mkS (preT bar l l.length)).length=1:=by rw [ht2];rfl
   refine ExA.ite (TsA.val ?_)
   walk_at "s"
   refine TrT.str (by rw [h1];unfold fewItems;exact Nat.le_of_ble_eq_true rfl) ?_
   refine ifP (by rw [h1];decide) ?_
   refine ExA.expr (EvA.meth (T:="list") (id:="list.append") ?_ F.plainAttrs_list slot_list_append type_list_append)
   walk_at "s"
   refine ⟨rfl,?_⟩
   walk_at "s"
   refine OpT.append (l:=strsL ((chF (preC bar) l).take l.length)) (by rw [List.getElem?_append_right (Nat.le_refl _),Nat.sub_self];rfl) (by unfold strsL fewItems;rw [List.length_map,List.length_take];(clear ht2;lia)) ?_
   refine ExA.nil ?_
   rw [List.set_append_right _ _ (Nat.le_refl _),Nat.sub_self,strsL_snoc]
   have e:(chF (preC bar) l).take l.length++[preT bar l l.length]=chF (preC bar) l:=by rw [← chF_last bar l,List.take_append_drop]
   show ExA _ _ _ _ _ _ (S++[strsL ((chF (preC bar) l).take l.length++[preT bar l l.length])]) _
   rw [e]
   exact q
 cases bar with
 | true =>
  refine ifP rfl ?_
  walk_at "s"
  exact goal
 | false =>
  refine ifN (by decide) ?_
  walk_at "s"
  exact goal
end
section
variable {w:World} {B:Bs} {n:Nat} {env:Env} {loc:Loc} {S:Store} {σ:List Addr} {s:Shared} {A:Around} {Q:AV→Store→Prop} {K:AF→Loc→Store→Prop} {rest:List Stmt}
variable {x:Str} {bar:Bool} {l:List (Nat×Nat)}
noncomputable def fr (l:List (Nat×Nat)):List (Nat×Nat):=l.filter fun p=>decide (p.1≤p.2)
noncomputable def stT (bar:Bool) (l:List (Nat×Nat)) (t:Nat):List (List Nat):=(chF (preC bar) l).take t++chF (preT bar l t) (fr (l.drop t))
theorem stT_last (bar:Bool) (l:List (Nat×Nat)):stT bar l l.length=chF (preC bar) l:=by
 unfold stT
 rw [List.drop_length]
 show _++[preT bar l l.length]=_
 rw [← chF_last bar l,List.take_append_drop]
theorem stT_zero (bar:Bool) (l:List (Nat×Nat)):stT bar l 0=chF (preC bar) (fr l):=by rfl
theorem preT_succ (bar:Bool) (l:List (Nat×Nat)) {u:Nat} (hu:u<l.length):preT bar l (u+1)=[(l[u]).2]:=by
 show [(l.getD u (0,0)).2]=_
 rw [List.getD_eq_getElem?_getD,List.getElem?_eq_getElem hu];rfl
theorem stT_succ (bar:Bool) (l:List (Nat×Nat)) {u:Nat} (hu:u<l.length):stT bar l (u+1)=(chF (preC bar) l).take u++(preT bar l u++[(l[u]).1])::([(l[u]).2]++hdT (fr (l.drop (u+1))))::moreT (fr (l.drop (u+1))):=by
 unfold stT
 rw [List.take_add_one,chF_get bar l hu,preT_succ bar l hu,chF_eq [(l[u]).2]]
 simp
theorem stT_keep (bar:Bool) (l:List (Nat×Nat)) {u:Nat} (hu:u<l.length) (h:(l[u]).1≤(l[u]).2):stT bar l u=stT bar l (u+1):=by
 have e:fr (l.drop u)=l[u]::fr (l.drop (u+1)):=by
  unfold fr;rw [List.drop_eq_getElem_cons hu,List.filter_cons,if_pos (by simpa using h)]
 rw [stT_succ bar l hu]
 unfold stT
 rw [e]
 show _++(preT bar l u++[(l[u]).1])::chF [(l[u]).2] (fr (l.drop (u+1)))=_
 rw [chF_eq [(l[u]).2]]
theorem stT_del (bar:Bool) (l:List (Nat×Nat)) {u:Nat} (hu:u<l.length) (h:¬ (l[u]).1≤(l[u]).2):stT bar l u=(chF (preC bar) l).take u++(preT bar l u++hdT (fr (l.drop (u+1))))::moreT (fr (l.drop (u+1))):=by
 have e:fr (l.drop u)=fr (l.drop (u+1)):=by
  unfold fr;rw [List.drop_eq_getElem_cons hu,List.filter_cons,if_neg (by simpa using h)]
 unfold stT
 rw [e,chF_eq (preT bar l u)]
theorem take_len (bar:Bool) (l:List (Nat×Nat)) {u:Nat} (hu:u<l.length):((chF (preC bar) l).take u).length=u:=by
 rw [List.length_take,chF_len];lia
theorem strs_at {A M:List (List Nat)} {c:List Nat} {u:Nat} (h:A.length=u):(strsL (A++c::M))[u]?=some (.str (mkS c)):=by
 unfold strsL;rw [List.getElem?_map,List.getElem?_append_right (by exact Nat.le_of_eq h),h,Nat.sub_self];rfl
theorem strs_at1 {A M:List (List Nat)} {c d:List Nat} {u:Nat} (h:A.length=u):(strsL (A++c::d::M))[u+1]?=some (.str (mkS d)):=by
 unfold strsL;rw [List.getElem?_map,List.getElem?_append_right (by exact Nat.le.intro (congrFun (congrArg HAdd.hAdd h) 1)),h,show u+1-u=1 by exact Nat.add_sub_self_left u 1];rfl
theorem strs_set {A M:List (List Nat)} {c d v:List Nat} {u:Nat} (h:A.length=u):((strsL (A++c::d::M)).set u (.str (mkS v))).eraseIdx (u+1)=strsL (A++v::M):=by
 have hA:(A.map fun c=>AV.str (mkS c)).length=u:=by rw [List.length_map];exact h
 unfold strsL
 rw [List.map_append,List.set_append_right _ _ (by exact Nat.le_of_eq hA),hA,Nat.sub_self,List.map_cons,List.map_cons,List.set_cons_zero,List.eraseIdx_append_of_length_le (by exact Nat.le.intro (congrFun (congrArg HAdd.hAdd hA) 1)),hA,show u+1-u=1 by exact Nat.add_sub_self_left u 1]
 simp
theorem strs_len (cs:List (List Nat)):(strsL cs).length=cs.length:=by unfold strsL;rw [List.length_map]
theorem mkS_len (c:List Nat):(mkS c).length=c.length:=by show c.toArray.size=_;simp
theorem mkS_list (c:List Nat):(mkS c).cps.toList=c:=rfl
theorem mkS_app (c d:List Nat):mkS c++mkS d=mkS (c++d):=str_ext (by rw [app_list];rfl)
theorem cuts_init {x:Str} (h:1≤x.length):Cuts x none (some (-1)) 0 (x.length-1):=by
 refine ⟨?_,Nat.zero_le _,by exact Nat.sub_le x.length 1⟩
 have:=(cuts_neg (x:=x) (a:=0) (by exact (Nat.le_sub_one_iff_lt h).mpr h) h).1
 rw [← this]
 unfold Builtin.Str.strSliceIndices;rfl
theorem cuts_tail {x:Str} (h:1≤x.length):Cuts x (some 1) none 1 x.length:=by
 refine ⟨?_,h,Nat.le_refl _⟩
 unfold Builtin.Str.strSliceIndices
 have e:(x.length:Int)=max 0 (min (if (x.length:Int)<0 then (x.length:Int)+x.length else x.length) x.length):=by rw [if_neg (by exact Int.not_ofNat_neg x.length)];lia
 exact congrArg (fun u=>sliceRange _ u 1) e
theorem rng_facts:∀ m:Nat,m<31→Builtin.Range.small (m:Int) 0 (-1)=true∧Builtin.Range.rangeSize (m:Int) 0 (-1)=(m:Int)∧Builtin.divisionGoesByPylong (0-(m:Int)) (-1)=false:=by decide +kernel
end
section
variable {w:World} {B:Bs} {n:Nat} {env:Env} {loc:Loc} {S:Store} {σ:List Addr} {s:Shared} {A:Around} {Q:AV→Store→Prop} {K:AF→Loc→Store→Prop} {rest:List Stmt}
variable {x:Str} {bar:Bool} {l:List (Nat×Nat)}
theorem chF_small {pre:List Nat} (F:List (Nat×Nat)) (hp:pre.length≤1):∀ c∈chF pre F,c.length≤2:=by
 induction F generalizing pre with
 | nil=>intro c hc;rw [show c=pre from by simpa [chF] using hc];exact Nat.le_succ_of_le hp
 | cons p r ih =>
  intro c hc
  rcases List.mem_cons.mp hc with rfl | hc
  ·simp;exact String.Pos.Raw.mk_le_mk.mp hp
  ·exact ih (by simp) c hc
theorem preC_len (bar:Bool):(preC bar).length≤1:=by cases bar <;> decide
theorem escA_len (c:List Nat) (h:45∉c):(escA (mkS c)).length≤2*c.length:=by
 rw [len_list,esc_mk h]
 induction c with
 | nil=>simp
 | cons a c ih =>
  rw [List.flatMap_cons,List.length_append,List.length_cons]
  have h1:(d92 a).length≤2:=by unfold d92;split <;> simp
  have:=ih fun q=>h (List.mem_cons_of_mem _ q)
  lia
theorem sum_le {f:List Nat→Nat} {b:Nat} (cs:List (List Nat)) (h:∀ c∈cs,f c≤b):(cs.map f).sum≤b*cs.length:=by
 induction cs with
 | nil=>simp
 | cons c cs ih =>
  rw [List.map_cons,List.sum_cons,List.length_cons,Nat.mul_add,Nat.mul_one]
  have h1:=h c List.mem_cons_self
  have h2:=ih fun d hd=>h d (List.mem_cons_of_mem _ hd)
  lia
theorem fr_le (l:List (Nat×Nat)):(fr l).length≤l.length:=List.length_filter_le _ _
theorem join_ok {cs:List (List Nat)} (h1:∀ c∈cs,c.length≤2) (h2:∀ c∈cs,45∉c) (hl:cs.length≤40):JoinOk (Str.ofString "-") ((cs.map mkS).map escA)=true:=by
 unfold JoinOk
 rw [← Array.foldl_toList,List.toList_toArray]
 rw [foldl_len,Nat.zero_add]
 have e:(((cs.map mkS).map escA).map fun s=>s.length+(Str.ofString "-").length).sum≤5*cs.length:=by
  rw [List.map_map,List.map_map]
  refine sum_le cs fun c hc=>?_
  show (escA (mkS c)).length+(Str.ofString "-").length≤5
  have:=escA_len c (h2 c hc)
  have:=h1 c hc
  have e1:(Str.ofString "-").length=1:=by decide +kernel
  lia
 unfold Builtin.Str.tooLong
 rw [Bool.not_eq_true',decide_eq_false_iff_not]
 have:1000≤sizeLine:=by decide
 lia
theorem chunks2_w {L:Addr} (H:St w (B.into (trEnv L))) (P:Pat x bar l) {ks:Nat} {any:Str} {r:Nat} {i st ch kk:AV}
  (q:∀ k (y:Str),y.cps.toList=(preC bar).flatMap d92++(fr l).flatMap (fun p=>d92 p.1++45::d92 p.2)→K .next (locT x ks any r i (.int (s0 bar+3*l.length:Nat)) (.str y) (.lst S.length) k ch) (S++[strsL (chF (preC bar) (fr l))])) :
  ExA w (B.into (trEnv L)) (n+1) (trEnv L) chRest (locT x ks any r i (.int (s0 bar+3*l.length:Nat)) st (.lst S.length) kk ch) (S++[strsL (chF (preC bar) l)]) K:=by
 have hll:=P.len
 have hln:=P.ne
 obtain ⟨r1,r2,r3⟩:=rng_facts l.length (by exact Nat.lt_succ_of_le hll)
 have hcl:=chF_len (preC bar) l
 have few1000:1000≤fewItems:=by decide
 have fit:∀ j:Int,-10≤j→j≤1000→(decide (j < -(2 ^ 63:Int))||decide (j≥2 ^ 63))=false:=fun j hj hj'=>by simp;lia
 have hSat:∀ v:List AV,(S++[v])[S.length]?=some v:=fun v=>by rw [List.getElem?_append_right (Nat.le_refl _),Nat.sub_self];rfl
 have hSset:∀ v u:List AV,(S++[v]).set S.length u=S++[u]:=fun v u=>by rw [List.set_append_right _ _ (Nat.le_refl _),Nat.sub_self];rfl
 let J:Loc→Store→Prop:=fun loc₂ S₂=>∃ k,loc₂=locT x ks any r i (.int (s0 bar+3*l.length:Nat)) st (.lst S.length) k ch∧S₂=S++[strsL (chF (preC bar) (fr l))]
 refine ExA.seq J ?_ ?_
 ·let I:Nat→Loc→Store→Prop:=fun t loc₂ S₂=>t≤l.length∧∃ k,loc₂=locT x ks any r i (.int (s0 bar+3*l.length:Nat)) st (.lst S.length) k ch∧S₂=S++[strsL (stT bar l (l.length-t))]
  refine ExS.forR (l.length:Int) 0 (-1) l.length I r2 r1 ?_ ?_ ?_
  ·refine EvA.callT H (n_range _) (b_range _) (by kernel_rfl) ?_
   refine ArT.cons (EvA.bin (EvA.callB H (n_len _) (b_len _) (by kernel_rfl) ?_))
   walk_at "s"
   refine OpT.lenL (hSat _) (by rw [strs_len];lia) ?_
   walk_at "s"
   refine EvA.un ?_
   walk_at "s"
   refine OpT.negI ?_
   walk_at "s"
   rw [strs_len,hcl,show ((l.length+1:Nat):Int)-1=(l.length:Int) by lia]
   refine OpT.range3 (by decide) r3 fun t u v=>⟨⟨t,u,v,rfl⟩,Nat.zero_le _,_,rfl,?_⟩
   rw [Nat.sub_zero,stT_last]
  ·rintro t loc₂ S₂ ht ⟨_,k,rfl,rfl⟩
   refine StT.name (by walk_at "u") (by kernel_rfl) ?_
   obtain ⟨u,hu⟩:∃ u,l.length-t=u+1:=⟨l.length-t-1,by lia⟩
   have hul:u<l.length:=by lia
   have ek:(l.length:Int)+(t:Int) * -1=((u+1:Nat):Int):=by lia
   have ek1:((u+1:Nat):Int)-1=(u:Int):=by lia
   rw [hu,ek]
   have hA:=take_len bar l hul
   have hst:=stT_succ bar l hul
   have g1:(strsL (stT bar l (u+1)))[((u:Nat):Int).toNat]?=some (.str (mkS (preT bar l u++[(l[u]).1]))):=by rw [hst];exact strs_at hA
   have g2:(strsL (stT bar l (u+1)))[((u+1:Nat):Int).toNat]?=some (.str (mkS ([(l[u]).2]++hdT (fr (l.drop (u+1)))))):=by rw [hst];exact strs_at1 hA
   have hlen:(strsL (stT bar l (u+1))).length≤fewItems:=by
    rw [strs_len];unfold stT
    rw [List.length_append,List.length_take,chF_len,chF_len]
    have:=fr_le (l.drop (u+1))
    rw [List.length_drop] at this
    lia
   have hlt:u+1<(strsL (stT bar l (u+1))).length:=(List.getElem?_eq_some_iff.mp g2).1
   refine ExA.ite (TsA.cmp (EvA.subS (EvA.subL ?_)))
   walk_at "s"
   rw [ek1]
   refine ⟨⟨_,rfl⟩,OpT.getL (hSat _) (by exact Int.natCast_nonneg u) g1 hlen ?_⟩
   refine EvA.un ?_
   walk_at "s"
   refine OpT.negI ⟨⟨_,rfl⟩,OpT.getS (c:=(l[u]).1) (fit _ (by lia) (by exact Int.neg_ofNat_le_ofNat 1 1000)) (last_of (l:=preT bar l u) rfl) ?_⟩
   refine EvA.subS (EvA.subL ?_)
   walk_at "s"
   refine ⟨⟨_,rfl⟩,OpT.getL (hSat _) (by exact Int.natCast_nonneg (u+1)) g2 hlen ?_⟩
   walk_at "s"
   refine ⟨⟨_,rfl⟩,OpT.getS (c:=(l[u]).2) (fit _ (by exact Int.neg_ofNat_le_ofNat 10 0) (by exact Int.zero_le_ofNat 1000)) (at_of (p:=0) rfl) ?_⟩
   refine OpT.gtS (TrT.bool ?_)
   have hcmp:decide ((⟨#[(l[u]).2]⟩:Str).cps.toList<(⟨#[(l[u]).1]⟩:Str).cps.toList)=decide ((l[u]).2<(l[u]).1):=by
    rw [decide_eq_decide]
    rw [List.cons_lt_cons_iff]
    exact ⟨fun h=>h.elim id fun h=>absurd h.2 (List.not_lt_nil _),.inl⟩
   rw [hcmp]
   by_cases hc:(l[u]).1≤(l[u]).2
   ·refine ifN (by simpa using hc) ?_
    refine ExA.nil (ExA.nil ⟨by lia,_,rfl,?_⟩)
    rw [show l.length-(t+1)=u by lia,stT_keep bar l hul hc]
   ·refine ifP (by simp;exact Nat.lt_of_not_le hc) ?_
    refine ExA.setSub (k:=S.length) (EvA.bin (EvA.sliceS (EvA.subL ?_)))
    walk_at "s"
    rw [ek1]
    refine ⟨⟨_,rfl⟩,OpT.getL (hSat _) (by exact Int.natCast_nonneg u) g1 hlen ?_⟩
    refine EvP.no (EvP.yes (EvA.un ?_))
    walk_at "s"
    have e1:cut (mkS (preT bar l u++[(l[u]).1])) 0 ((mkS (preT bar l u++[(l[u]).1])).length-1)=mkS (preT bar l u):=cut_is (by
     rw [mkS_len,mkS_list,List.drop_zero,List.length_append,List.length_singleton,Nat.add_sub_cancel,Nat.sub_zero,List.take_left])
    have l1:(preT bar l u++[(l[u]).1]).length≤10:=by
     have:(preT bar l u).length≤1:=by cases u with | zero=>exact preC_len bar | succ u=>exact Nat.le_refl _
     simp;lia
    have l2:([(l[u]).2]++hdT (fr (l.drop (u+1)))).length≤10:=by
     have:(hdT (fr (l.drop (u+1)))).length≤1:=by cases fr (l.drop (u+1)) <;> simp [hdT]
     simp;lia
    refine OpT.negI ⟨_,rfl,_,0,_,rfl,cuts_init (by rw [mkS_len];simp),by rw [mkS_len];lia,?_⟩
    rw [e1]
    refine EvA.sliceS (EvA.subL ?_)
    walk_at "s"
    refine ⟨⟨_,rfl⟩,OpT.getL (hSat _) (by exact Int.natCast_nonneg (u+1)) g2 hlen ?_⟩
    refine EvP.yes ?_
    walk_at "s"
    have e2:cut (mkS ([(l[u]).2]++hdT (fr (l.drop (u+1))))) 1 (mkS ([(l[u]).2]++hdT (fr (l.drop (u+1))))).length=mkS (hdT (fr (l.drop (u+1)))):=cut_is (by
     rw [mkS_len,mkS_list]
     show List.take _ (hdT (fr (l.drop (u+1))))=_
     rw [List.take_of_length_le (by simp)])
    refine ⟨_,rfl,EvP.no ⟨_,1,_,rfl,cuts_tail (by rw [mkS_len];simp),by rw [mkS_len];lia,?_⟩⟩
    rw [e2]
    refine OpT.addS (by rw [mkS_len,mkS_len];simp at l1 l2;lia) ?_
    rw [mkS_app]
    walk_at "s"
    rw [ek1]
    refine ⟨rfl,(u:Int),_,rfl,hSat _,by exact Int.natCast_nonneg u,by lia,hlen,?_⟩
    rw [hSset]
    refine ExA.delL (k:=S.length) ?_
    walk_at "s"
    refine ⟨rfl,u+1,_,rfl,hSat _,by rw [List.length_set];exact hlt,by rw [List.length_set];exact hlen,?_⟩
    rw [hSset]
    have e3:((strsL (stT bar l (u+1))).set ((u:Nat):Int).toNat (.str (mkS (preT bar l u++hdT (fr (l.drop (u+1))))))).eraseIdx (u+1)=strsL (stT bar l u):=by
     rw [hst,stT_del bar l hul hc]
     exact strs_set hA
    rw [e3]
    refine ExA.nil (ExA.nil ⟨by lia,_,rfl,?_⟩)
    rw [show l.length-(t+1)=u by lia]
  ·rintro loc₂ S₂ ⟨_,k,rfl,rfl⟩
   exact ⟨k,rfl,by rw [Nat.sub_self,stT_zero]⟩
 ·rintro loc₂ S₂ ⟨k,rfl,rfl⟩
  have hpre:45∉preC bar:=by cases bar <;> decide
  have hno:∀ c∈chF (preC bar) (fr l),45∉c:=chF_no45 hpre fun p hp=>⟨(P.ok p ((List.mem_filter.mp hp).1)).1.2.1,(P.ok p ((List.mem_filter.mp hp).1)).2.2.1⟩
  have hsm:=chF_small (fr l) (preC_len bar)
  have hfl:=fr_le l
  have hlen2:=chF_len (preC bar) (fr l)
  refine ExA.assign (by walk_at "u") (EvA.joinGen H (ts:=(chF (preC bar) (fr l)).map mkS) (f:=escA) rfl rfl (by kernel_rfl) (by decide +kernel) (by decide +kernel) (by walk_at "e") (by rw [hSat];unfold strsL;rw [List.map_map];rfl) (by rw [List.length_map];lia) (by kernel_rfl) (by decide +kernel) (by kernel_rfl) (by rfl) (by decide +kernel) (by decide +kernel) (by decide +kernel) (by kernel_rfl) (fun v=>by rfl) ?_ (join_ok hsm hno (by lia)) ?_ (by rfl) (by rfl))
  ·intro C code A' E' a t s₂ m₂ hA' ha hpos hns hm2
   obtain ⟨c,hc,rfl⟩:=List.mem_map.mp ha
   exact repl_elt (by decide +kernel) (by kernel_rfl) (by decide +kernel) (by rw [mkS_len];have:=hsm c hc;lia) hpos hns hm2 (by rfl) (by rfl) (by rfl) (by rfl)
  ·rw [List.map_map]
   exact ExA.nil (q k _ (joined_esc hno))
end
section
variable {w:World} {B:Bs} {n:Nat} {env:Env} {loc:Loc} {S:Store} {σ:List Addr} {s:Shared} {A:Around} {Q:AV→Store→Prop} {K:AF→Loc→Store→Prop} {rest:List Stmt}
variable {x:Str} {bar:Bool} {l:List (Nat×Nat)}
theorem o_pat (P:Params):(Hp1 P).get? 36=some (ob2_36 P):=by kernel_rfl
theorem eC_len (c:Nat):1≤(eC c).length∧(eC c).length≤2:=by unfold eC;split <;> simp
theorem outC_len (F:List (Nat×Nat)):(outC F).length≤5*F.length:=by
 induction F with
 | nil=>simp [outC]
 | cons p r ih =>
  unfold outC at *
  rw [List.flatMap_cons,List.length_append,List.length_append,List.length_cons,List.length_cons]
  have:=eC_len p.1
  have:=eC_len p.2
  lia
noncomputable def tailStm:List Stmt:=trElse.drop 2
theorem else_w {L:Addr} (H:St w (B.into (trEnv L))) (P:Pat x bar l) {ks:Nat} {any:Str} (hne:∃ p∈l,p.1≤p.2)
  (q:∀ (y:Str) (r:Store) (st ck k ch:AV),y.cps.toList=91::((if bar then [94] else [])++flat (trip (outT bar (fr l)))++[93])→K .next (locT x ks any S.length (.int (x.length:Int)) (.int (s0 bar+3*l.length:Nat)) st ck k ch) (S++[[.str y]]++r)) :
  ExA w (B.into (trEnv L)) (n+2) (trEnv L) trElse (locT x ks any S.length (.int ((1:Nat):Int)) (.int (s0 bar+3*l.length:Nat)) .unb .unb .unb .unb) (S++[[]]) K:=by
 have hxl:=P.length
 have hs:=s0_pos bar
 have hll:=P.len
 have hln:=P.ne
 have fewx:x.length≤fewItems:=by unfold fewItems;lia
 have hcu:=cuts_min (x:=x) (p:=1) (q:=s0 bar+3*l.length) (by (clear q hs hln;lia)) (by (clear q;lia))
 rw [Nat.min_eq_left (by exact Nat.le.intro (id (Eq.symm hxl)))] at hcu
 show ExA _ _ _ _ (_::_::tailStm) _ _ _
 refine ExA.assign (by walk_at "u") (EvA.sliceS ?_)
 walk_at "s"
 refine EvP.yes ?_
 walk_at "s"
 refine ⟨_,rfl,EvP.yes ?_⟩
 walk_at "s"
 refine ⟨_,rfl,x,1,s0 bar+3*l.length,rfl,hcu,fewx,?_⟩
 have hin:45∈(cut x 1 (s0 bar+3*l.length)).cps.toList:=by
  have d:=P.dash hln
  show 45∈(x.cps.toList.drop 1).take (s0 bar+3*l.length-1)
  refine List.mem_of_getElem? (i:=s0 bar) ?_
  rw [List.getElem?_take_of_lt (by (clear q hne hcu;lia)),List.getElem?_drop,show 1+s0 bar=s0 bar+3*0+1 by exact Nat.add_comm 1 (s0 bar)]
  exact d
 let J:Loc→Store→Prop:=fun loc₂ S₂=>∃ (y:Str) (i ck k ch:AV) (r:Store),y.cps.toList=(preC bar).flatMap d92++(fr l).flatMap (fun p=>d92 p.1++45::d92 p.2)∧loc₂=locT x ks any S.length i (.int (s0 bar+3*l.length:Nat)) (.str y) ck k ch∧S₂=S++[[]]++r
 refine ExA.seq J ?_ ?_
 ·refine ExS.ite (TsA.cmp ?_)
  walk_at "s"
  rw [dash_is]
  refine OpT.notInS (TrT.bool ?_)
  refine ifN (by rw [decide_eq_true hin];decide) ?_
  show ExA _ _ _ _ trE1 _ _ _
  exact chunks_w H P (chunks2_w (n:=n+1) H P fun k y hy=>⟨y,_,_,k,_,_,hy,rfl,rfl⟩)
 rintro loc₂ S₂ ⟨y,i,ck,k,ch,r,hy,rfl,rfl⟩
 obtain ⟨p,F,hF⟩:∃ p F,fr l=p::F:=by
  obtain ⟨p,hp,hle⟩:=hne
  have:p∈fr l:=List.mem_filter.mpr ⟨hp,by simpa using hle⟩
  cases h:fr l with
  | nil=>rw [h] at this;cases this
  | cons p r=>exact ⟨p,r,rfl⟩
 have hfl:F.length≤30:=by have:=fr_le l;rw [hF] at this;simp at this;lia
 have hyl:y.length≤1000:=by
  rw [len_list,hy,hF]
  have h1:∀ c,(d92 c).length≤2:=fun c=>by unfold d92;split <;> simp
  have h2:∀ G:List (Nat×Nat),(G.flatMap fun p=>d92 p.1++45::d92 p.2).length≤5*G.length:=by
   intro G
   induction G with
   | nil=>simp
   | cons p r ih =>
    rw [List.flatMap_cons,List.length_append,List.length_append,List.length_cons,List.length_cons]
    have:=h1 p.1
    have:=h1 p.2
    lia
  have h3:=h2 (p::F)
  have h4:((preC bar).flatMap d92).length≤2:=by cases bar <;> decide
  rw [List.length_append]
  rw [List.length_cons] at h3
  lia
 refine ExA.assign (by walk_at "u") (EvA.methG (T:="re.Pattern") (id:="re.Pattern.sub") ?_ RE.plainAttrs_pat RE.slot_sub RE.type_sub)
 refine EvA.glob H (g_twin _) (by kernel_rfl) ⟨fun σ s v W r=>?_,?_⟩
 ·obtain rfl:v=.ref 36:=r
  have h36:=H.at W (o_pat _)
  exact ⟨⟨_,h36,rfl⟩,fun a e=>by cases e;exact ⟨_,h36,rfl⟩⟩
 refine ArT.cons (EvA.lam H (qn:="_translate.<locals>.<lambda>") rfl rfl (by kernel_rfl) (by decide +kernel) (by decide +kernel) (by rfl) fun pm c'=>?_)
 walk_at "s"
 refine OpT.subst H hyl fun z hz=>?_
 rw [hy,joined_sub,hF] at hz
 have hpre:(preC bar).flatMap eC=preC bar:=by cases bar <;> rfl
 rw [hpre] at hz
 have hz':z.cps.toList=preC bar++(eC p.1++45::(eC p.2++outC F)):=by rw [hz];unfold outC;rw [List.flatMap_cons];simp
 have le1:=eC_len p.1
 have le2:=eC_len p.2
 have hzl:3≤z.length∧z.length≤500:=by
  have h1:=outC_len F
  have h2:=preC_len bar
  rw [len_list,hz']
  simp only [List.length_append,List.length_cons]
  (clear hne;lia)
 have fewz:z.length≤fewItems:=by unfold fewItems;lia
 refine ExA.assign (by walk_at "u") ?_
 walk_at "s"
 have ei:((s0 bar+3*l.length:Nat):Int)+1=(x.length:Int):=by exact Eq.symm ((fun {a b}=>Int.neg_inj.mp) (congrArg Neg.neg (congrArg Nat.cast hxl)))
 rw [ei]
 refine ExA.ite (TsA.not (TsA.val ?_))
 walk_at "s"
 refine TrT.str fewz ?_
 refine ifN (by rw [show (z.length != 0)=true by simp;lia];decide) ?_
 refine ExA.ite (TsA.cmp ?_)
 walk_at "s"
 refine OpT.eqS (TrT.bool ?_)
 have ex:Str.ofString "!"=⟨#[33]⟩:=by decide +kernel
 refine ifN (by
  rw [ex,decide_eq_true_eq]
  rintro rfl
  have:(⟨#[33]⟩:Str).length=1:=rfl
  lia) ?_
 have hfo:=flat_outT bar p F
 rw [← hF] at hfo
 have hp33:p.1≠33:=by
  have:p∈fr l:=by rw [hF];exact List.mem_cons_self
  exact (P.ok p (List.mem_filter.mp this).1).1.1
 let J:Loc→Store→Prop:=fun loc₂ S₂=>∃ z2:Str,z2.length≤600∧z2.cps.toList=(if bar then [94] else [])++flat (trip (outT bar (fr l)))∧loc₂=locT x ks any S.length (.int (x.length:Int)) (.int (s0 bar+3*l.length:Nat)) (.str z2) ck k ch∧S₂=S++[[]]++r
 refine ExA.seq J ?_ ?_
 ·refine ExS.ite (TsA.cmp (EvA.subS ?_))
  walk_at "s"
  cases bar with
  | true =>
   have g:z.cps.toList[0]?=some 33:=by rw [hz'];rfl
   refine ⟨⟨_,rfl⟩,OpT.getS (c:=33) (by decide) (at_of (p:=0) g) ?_⟩
   walk_at "s"
   refine OpT.eqS (TrT.bool ?_)
   refine ifP (by rw [ex];simp) ?_
   refine ExA.assign (by walk_at "u") ?_
   walk_at "s"
   refine EvA.sliceS ?_
   walk_at "s"
   refine EvP.yes ?_
   walk_at "s"
   refine ⟨_,rfl,EvP.no ⟨_,1,_,rfl,cuts_tail (by lia),fewz,?_⟩⟩
   have hcl:(cut z 1 z.length).cps.toList=eC p.1++45::(eC p.2++outC F):=by
    show (z.cps.toList.drop 1).take (z.length-1)=_
    rw [List.take_of_length_le (by rw [List.length_drop,← len_list];exact Nat.le_refl (z.length-1)),hz']
    rfl
   have hcz:(cut z 1 z.length).length≤500:=by
    have:(cut z 1 z.length).length=z.length-1:=by
     show ((z.cps.toList.drop 1).take (z.length-1)).length=_
     rw [List.length_take,List.length_drop,← len_list];exact Nat.min_self (z.length-1)
    (clear hne;lia)
   have l1:(Str.ofString "^").length=1:=by decide +kernel
   refine OpT.addS (by rw [l1];unfold fewItems;lia) ?_
   refine ExA.nil ⟨_,?_,?_,rfl,rfl⟩
   ·rw [Str.length_append,l1];lia
   ·rw [hfo,app_list,hcl,show (Str.ofString "^").cps.toList=[94] by decide +kernel]
    rw [if_pos rfl,if_pos rfl,eC_tk]
  | false =>
   have hz2:z.cps.toList=eC p.1++45::(eC p.2++outC F):=hz'
   obtain ⟨c0,hc0⟩:∃ c0,c0=if (p.1==92||hit p.1)=true then 92 else p.1:=⟨_,rfl⟩
   have g:z.cps.toList[0]?=some c0:=by
    rw [hz2,hc0];unfold eC
    by_cases he:(p.1==92||hit p.1)=true
    ·rw [if_pos he,if_pos he];rfl
    ·rw [if_neg he,if_neg he];rfl
   have c33:c0≠33:=by
    rw [hc0];split
    ·decide
    ·exact hp33
   refine ⟨⟨_,rfl⟩,OpT.getS (c:=c0) (by decide) (at_of (p:=0) g) ?_⟩
   walk_at "s"
   refine OpT.eqS (TrT.bool ?_)
   refine ifN (by rw [ex,str1];simpa using c33) ?_
   refine ExA.ite (TsA.cmp (EvA.subS ?_))
   walk_at "s"
   refine ⟨⟨_,rfl⟩,OpT.getS (c:=c0) (by decide) (at_of (p:=0) g) ?_⟩
   refine EvA.tuple ?_
   walk_at "s"
   refine ⟨[.str (Str.ofString "^"),.str (Str.ofString "[")],rfl,by decide,?_⟩
   refine OpT.inStrs (l:=[Str.ofString "^",Str.ofString "["]) (TrT.bool ?_)
   have hany:([Str.ofString "^",Str.ofString "["].any (·==(⟨#[c0]⟩:Str)))=(decide (94=c0)||decide (91=c0)):=by
    rw [show Str.ofString "^"=⟨#[94]⟩ by decide +kernel,show Str.ofString "["=⟨#[91]⟩ by decide +kernel]
    rw [List.any_cons,List.any_cons,List.any_nil,Bool.or_false,PyProof.Rows.one_beq,PyProof.Rows.one_beq]
   rw [hany]
   have hb0:(if false=true then tk p.1 else tk1 p.1)=tk1 p.1:=if_neg (by decide)
   by_cases hc:c0=94∨c0=91
   ·refine ifP (by rcases hc with h | h <;> rw [h] <;> decide) ?_
    have he:(p.1==92||hit p.1)=false:=by
     cases he:(p.1==92||hit p.1) with
     | false=>rfl
     | true=>rw [he,if_pos rfl] at hc0;(clear hne;lia)
    rw [he,if_neg (by decide)] at hc0
    subst hc0
    refine ExA.assign (by walk_at "u") ?_
    walk_at "s"
    have l1:(Str.ofString "\\").length=1:=by decide +kernel
    refine OpT.addS (by rw [l1];unfold fewItems;lia) ?_
    refine ExA.nil (ExA.nil ⟨_,?_,?_,rfl,rfl⟩)
    ·rw [Str.length_append,l1];lia
    ·rw [hfo,hb0,app_list,hz2,bs_is,if_neg (by decide)]
     have t1:tkS (tk1 p.1)=[92,p.1]:=by
      unfold tkS tk1
      rw [if_pos (by rw [he];rcases hc with h | h <;> rw [h] <;> rfl)]
     have t2:eC p.1=[p.1]:=by unfold eC;rw [he,if_neg (by decide)]
     rw [t1,t2];rfl
   ·refine ifN (by simp only [Bool.or_eq_true,decide_eq_true_eq];lia) ?_
    refine ExA.nil (ExA.nil ⟨z,by lia,?_,rfl,rfl⟩)
    rw [hfo,hb0,if_neg (by decide),hz2]
    have t1:tkS (tk1 p.1)=eC p.1:=by
     unfold tkS tk1 eC
     dsimp only
     cases he:(p.1==92||hit p.1) with
     | true=>rw [Bool.true_or,Bool.true_or]
     | false =>
      rw [he,if_neg (by decide)] at hc0
      have h1:(p.1==94)=false:=by simp;lia
      have h2:(p.1==91)=false:=by simp;lia
      rw [h1,h2];rfl
    rw [t1];rfl
 rintro loc₂ S₂ ⟨z2,hz2l,hz2,rfl,rfl⟩
 have lb1:(Str.ofString "[").length=1:=by decide +kernel
 have lb2:(Str.ofString "]").length=1:=by decide +kernel
 have le0:Str.empty.length=0:=rfl
 refine ExA.expr (EvA.callBm (k:=S.length) (by walk_at "e") (by kernel_rfl) (ArT.cons (EvA.joined ?_)))
 show EvA w _ _ _ _ _ _ _
 walk_at "s"
 refine ⟨_,rfl,by rw [Str.length_append,le0,lb1];decide,?_⟩
 show EvA w _ _ _ _ _ _ _
 refine EvA.fmtS ?_
 walk_at "s"
 refine ⟨z2,rfl,by unfold fewItems;lia,z2,rfl,by rw [Str.length_append,Str.length_append,le0,lb1];unfold fewItems;lia,?_⟩
 show EvA w _ _ _ _ _ _ _
 walk_at "s"
 refine ⟨_,rfl,by rw [Str.length_append,Str.length_append,Str.length_append,le0,lb1,lb2];unfold fewItems;lia,?_⟩
 show ArT _ _ _ _ _ _ _ _
 walk_at "s"
 refine ⟨_,[],rfl,by rw [List.append_assoc,List.getElem?_append_right (Nat.le_refl _),Nat.sub_self];rfl,Nat.zero_le _,?_⟩
 have es:∀ v:List AV,(S++[[]]++r).set S.length v=S++[v]++r:=fun v=>by
  rw [List.append_assoc,List.set_append_right _ _ (Nat.le_refl _),Nat.sub_self,List.append_assoc];rfl
 rw [es]
 refine ExA.nil (ExA.nil (ExA.nil (q _ r _ _ _ _ ?_)))
 rw [app_list,app_list,app_list,hz2,show (Str.ofString "[").cps.toList=[91] by decide +kernel,show (Str.ofString "]").cps.toList=[93] by decide +kernel]
 simp [Str.empty]
end
section
variable {w:World} {B:Bs} {n:Nat} {env:Env} {loc:Loc} {S:Store} {σ:List Addr} {s:Shared} {A:Around} {Q:AV→Store→Prop} {K:AF→Loc→Store→Prop} {rest:List Stmt}
variable {x:Str} {bar:Bool} {l:List (Nat×Nat)}
inductive TI (x:Str) (bar:Bool) (l:List (Nat×Nat)) (ks:Nat) (any:Str) (S:Store):Nat→Loc→Store→Prop
 | go:TI x bar l ks any S 1 ([("pat",.str x),("STAR",.lst ks),("QUESTION_MARK",.str any),("res",.lst S.length),("add",.bm S.length),("i",.int 0),("n",.int (x.length:Int)),("c",.unb),("j",.unb),("stuff",.unb),("chunks",.unb),("k",.unb),("chunk",.unb)]:Loc) (S++[[]])
 | out (y:Str) (r:Store) (c j st ck k ch:AV) (hy:y.cps.toList=91::((if bar then [94] else [])++flat (trip (outT bar (l.filter fun p=>decide (p.1≤p.2))))++[93])):TI x bar l ks any S 0 ([("pat",.str x),("STAR",.lst ks),("QUESTION_MARK",.str any),("res",.lst S.length),("add",.bm S.length),("i",.int (x.length:Int)),("n",.int (x.length:Int)),("c",c),("j",j),("stuff",st),("chunks",ck),("k",k),("chunk",ch)]:Loc) (S++[[.str y]]++r)
theorem translate_w (H:St w B) (P:Pat x bar l) {ks:Nat} {any:Str} (hne:∃ p∈l,p.1≤p.2)
  (q:∀ (y:Str) (r:Store),y.cps.toList=91::((if bar then [94] else [])++flat (trip (outT bar (l.filter fun p=>decide (p.1≤p.2))))++[93])→Q (.lst S.length) (S++[[.str y]]++r)) :
  OpT w B (n+4) (callD 55) [.str x,.lst ks,.str any] S Q:=by
 refine OpT.def H (ps:=["pat","STAR","QUESTION_MARK"]) ["res","add","i","n","c","j","stuff","chunks","k","chunk"]
  [("pat",.str x),("STAR",.lst ks),("QUESTION_MARK",.str any),("res",.unb),("add",.unb),("i",.unb),("n",.unb),("c",.unb),("j",.unb),("stuff",.unb),("chunks",.unb),("k",.unb),("chunk",.unb)]
  (f_translate _) (c_translate _) rfl (all3 fun _ _ _=>by kernel_rfl) (by decide +kernel) (by decide +kernel) (by decide +kernel) (fun L hL H=>?_)
 have hxl:=P.length
 have hs:=s0_pos bar
 have hll:=P.len
 have hln:=P.ne
 have fewx:x.length≤fewItems:=by unfold fewItems;lia
 refine ExA.assign (by walk_at "u") (EvA.list ?_)
 walk_at "s"
 refine ⟨Nat.zero_le _,?_⟩
 refine ExA.assign (by walk_at "u") (EvA.append ?_)
 walk_at "s"
 refine ⟨S.length,rfl,by simp,?_⟩
 refine ExA.assignSwap (c:=.int 0) (d:=.int (x.length:Int)) (by walk_at "u") (by walk_at "u") (by kernel_rfl) (by kernel_rfl) (EvA.tuple ?_)
 walk_at "s"
 refine EvA.callB H (n_len _) (b_len _) (by kernel_rfl) ?_
 walk_at "s"
 refine OpT.lenS fewx ?_
 walk_at "s"
 refine ⟨[.int 0,.int (x.length:Int)],rfl,by show 2≤fewItems;decide,rfl,?_⟩
 have g0:x.cps.toList[0]?=some 91:=by rw [P.eq];rfl
 have fit:∀ j:Nat,j≤1000→(decide ((j:Int) < -(2 ^ 63:Int))||decide ((j:Int)≥2 ^ 63))=false:=fun j hj=>by simp;lia
 refine ExA.while (TI x bar l ks any S) (fun m loc' S' q₀=>?_) 1 .go
 cases q₀ with
 | out y r c j st ck k ch hy =>
  refine TsA.cmp ?_
  walk_at "s"
  refine ifN (by simp) ?_
  refine ExA.assertOk (TsA.cmp ?_)
  walk_at "s"
  refine OpT.eqI (TrT.bool ⟨by simp,?_⟩)
  refine ExA.ret ?_
  walk_at "s"
  exact q y r hy
 | go =>
  refine TsA.cmp ?_
  walk_at "s"
  refine ifP (by simp;exact Nat.lt_of_sub_eq_succ hxl) ?_
  refine ExA.assign (by walk_at "u") (EvA.subS ?_)
  walk_at "s"
  refine ⟨⟨_,rfl⟩,OpT.getS (c:=91) (fit 0 (by exact Nat.zero_le 1000)) (at_of (p:=0) g0) ?_⟩
  refine ExA.assign (by walk_at "u") ?_
  walk_at "s"
  rw [show (0:Int)+1=((1:Nat):Int) from rfl]
  refine ExA.ite (TsA.cmp ?_)
  walk_at "s"
  refine OpT.eqS (TrT.bool ?_)
  refine ifN (by decide +kernel) ?_
  refine ExA.ite (TsA.cmp ?_)
  walk_at "s"
  refine OpT.eqS (TrT.bool ?_)
  refine ifN (by decide +kernel) ?_
  refine ExA.ite (TsA.cmp ?_)
  walk_at "s"
  refine OpT.eqS (TrT.bool ?_)
  refine ifP (by decide +kernel) ?_
  refine ExA.assign (by walk_at "u") ?_
  walk_at "s"
  obtain ⟨j0,hj0⟩:∃ j0,j0=s0 bar+3*l.length:=⟨_,rfl⟩
  have ex:Str.ofString "!"=⟨#[33]⟩:=by decide +kernel
  have eb:Str.ofString "]"=⟨#[93]⟩:=by decide +kernel
  let J:Loc→Store→Prop:=fun loc₂ S₂=>loc₂=([("pat",.str x),("STAR",.lst ks),("QUESTION_MARK",.str any),("res",.lst S.length),("add",.bm S.length),("i",.int ((1:Nat):Int)),("n",.int (x.length:Int)),("c",.str ⟨#[91]⟩),("j",.int (s0 bar:Nat)),("stuff",.unb),("chunks",.unb),("k",.unb),("chunk",.unb)]:Loc)∧S₂=S++[[]]
  refine ExA.seq J ?_ ?_
  ·refine ExS.ite (TsA.and (TsT.andCons (TsA.cmp ?_)))
   walk_at "s"
   refine ifP (by simp;(clear hj0 hs;lia)) ?_
   refine TsT.andCons (TsA.cmp (EvA.subS ?_))
   walk_at "s"
   obtain ⟨c1,hc1,hc1'⟩:∃ c1,x.cps.toList[1]?=some c1∧decide (c1=33)=bar:=by
    rw [P.eq]
    cases bar with
    | true=>exact ⟨33,rfl,rfl⟩
    | false =>
     obtain ⟨p,l',rfl⟩:∃ p l',l=p::l':=by cases l with | nil=>cases hln | cons p l'=>exact ⟨p,l',rfl⟩
     exact ⟨p.1,rfl,by simpa using (P.ok p List.mem_cons_self).1.1⟩
   refine ⟨⟨_,rfl⟩,OpT.getS (c:=c1) (fit 1 (by exact Nat.le_of_ble_eq_true rfl)) (at_of hc1) ?_⟩
   walk_at "s"
   refine OpT.eqS (TrT.bool ?_)
   rw [show decide ((⟨#[c1]⟩:Str)=Str.ofString "!")=bar by rw [ex,str1,hc1']]
   cases bar with
   | true =>
    refine ifP rfl ?_
    refine TsT.andNil ?_
    refine ifP rfl ?_
    refine ExA.assign (by walk_at "u") ?_
    walk_at "s"
    exact ExA.nil ⟨rfl,rfl⟩
   | false =>
    exact ifN (by decide) (ifN (by decide) (ExA.nil ⟨rfl,rfl⟩))
  rintro loc₂ S₂ ⟨rfl,rfl⟩
  have hjj:s0 bar<x.length:=by (clear hln;lia)
  let J:Loc→Store→Prop:=fun loc₂ S₂=>loc₂=([("pat",.str x),("STAR",.lst ks),("QUESTION_MARK",.str any),("res",.lst S.length),("add",.bm S.length),("i",.int ((1:Nat):Int)),("n",.int (x.length:Int)),("c",.str ⟨#[91]⟩),("j",.int (s0 bar:Nat)),("stuff",.unb),("chunks",.unb),("k",.unb),("chunk",.unb)]:Loc)∧S₂=S++[[]]
  refine ExA.seq J ?_ ?_
  ·refine ExS.ite (TsA.and (TsT.andCons (TsA.cmp ?_)))
   walk_at "s"
   refine ifP (by simpa using hjj) ?_
   refine TsT.andCons (TsA.cmp (EvA.subS ?_))
   walk_at "s"
   refine let ZZ:Prop:=_;(?_:ZZ)
   obtain ⟨c2,hc2,hn2⟩:=P.not93 (j:=s0 bar) (by lia)
   refine ⟨⟨_,rfl⟩,OpT.getS (c:=c2) (fit _ (by lia)) (at_of hc2) ?_⟩
   walk_at "s"
   have hcd:¬ decide ((⟨#[c2]⟩:Str)=Str.ofString "]")=true:=by rw [eb,str1,decide_eq_false hn2];decide
   exact OpT.eqS (TrT.bool (ifN hcd (ifN hcd (ExA.nil ⟨rfl,rfl⟩))))
  rintro loc₂ S₂ ⟨rfl,rfl⟩
  let I:Nat→Loc→Store→Prop:=fun m loc' S'=>∃ j:Nat,s0 bar≤j∧j≤j0∧m=j0-j∧loc'=([("pat",.str x),("STAR",.lst ks),("QUESTION_MARK",.str any),("res",.lst S.length),("add",.bm S.length),("i",.int ((1:Nat):Int)),("n",.int (x.length:Int)),("c",.str ⟨#[91]⟩),("j",.int (j:Nat)),("stuff",.unb),("chunks",.unb),("k",.unb),("chunk",.unb)]:Loc)∧S'=S++[[]]
  refine ExA.while I ?_ (j0-s0 bar) ⟨s0 bar,Nat.le_refl _,by exact Nat.le.intro (id (Eq.symm hj0)),rfl,rfl,rfl⟩
  rintro m loc' S' ⟨j,j1,j2,rfl,rfl,rfl⟩
  refine TsA.and (TsT.andCons (TsA.cmp ?_))
  walk_at "s"
  refine ifP (by simp;lia) ?_
  refine TsT.andCons (TsA.cmp (EvA.subS ?_))
  walk_at "s"
  by_cases hj:j<j0
  ·refine let ZZ:Prop:=_;(?_:ZZ)
   obtain ⟨c2,hc2,hn2⟩:=P.not93 (j:=j) (by exact Nat.lt_of_lt_of_eq hj hj0)
   refine ⟨⟨_,rfl⟩,OpT.getS (c:=c2) (fit _ (by lia)) (at_of hc2) ?_⟩
   walk_at "s"
   refine OpT.neS (TrT.bool (ifP (by rw [eb,decide_not,str1,decide_eq_false hn2];decide) ?_))
   refine TsT.andNil ?_
   refine ifP rfl ?_
   refine ExA.assign (by walk_at "u") ?_
   walk_at "s"
   exact ExA.nil ⟨j0-(j+1),by exact Nat.sub_succ_lt_self j0 j hj,j+1,by exact Nat.le_add_right_of_le j1,by exact Nat.succ_le_of_lt hj,rfl,rfl,rfl⟩
  obtain rfl:j=j0:=by (clear hj0;lia)
  refine ⟨⟨_,rfl⟩,OpT.getS (c:=93) (fit _ (by lia)) (at_of (by rw [hj0];exact P.last)) ?_⟩
  walk_at "s"
  refine OpT.neS (TrT.bool (ifN (by rw [eb];simp) (ifN (by rw [eb];simp) ?_)))
  refine ExA.ite (TsA.cmp ?_)
  walk_at "s"
  refine OpT.geI (TrT.bool ?_)
  refine ifN (by simp;lia) ?_
  subst hj0
  refine else_w (n:=n+1) H P hne fun y r st ck k ch hy=>?_
  repeat (refine ExA.nil ?_)
  exact ⟨0,by decide,.out y r _ _ st ck k ch hy⟩
end
section
variable {w:World} {B:Bs} {n:Nat} {env:Env} {loc:Loc} {S:Store} {σ:List Addr} {s:Shared} {A:Around} {Q:AV→Store→Prop} {K:AF→Loc→Store→Prop} {rest:List Stmt}
theorem OpT.addL {i j:Nat} {l m:List AV} (hi:S[i]?=some l) (hj:S[j]?=some m) (hl:l.length+m.length≤fewItems) (q:Q (.lst S.length) (S++[l++m])):OpT w B n (opB .Add) [.lst i,.lst j] S Q:=.mk fun A σ s E vs ha W r=>by
 obtain ⟨x,y,rfl,r1,r2⟩:=r.two
 obtain ⟨a,us,rfl,ha1,⟨n1,p1⟩,h1⟩:=W.lst hi r1
 obtain ⟨b,ws,rfl,hb1,⟨n2,p2⟩,h2⟩:=W.lst hj r2
 have z1:us.size=l.length:=by rw [h1.length];simp
 have z2:ws.size=m.length:=by rw [h2.length];simp
 refine P.add_list p1 p2 ?_ (by rw [z1,z2];exact Nat.le_trans hl few_line)
 have W₁:=W.newList (s':={ s with heap:=s.heap.push { cls:=.type "list",data:=.seq (us++ws) } }) (l:=l++m) (vs:=us++ws) rfl (by rw [Array.toList_append];exact h1.append h2)
 have hn:s.heap.get? s.heap.objs.size=none:=Heap.get?_none_of_le (Nat.le_refl _)
 exact ⟨[s.heap.objs.size],.lst S.length,_,W₁,by simpa using hn,Ext.push _ _,⟨_,by rw [← W.len];simp,rfl⟩,q⟩
theorem OpT.isStr {av:AV} {b:Bool} (h:(b=true∧∃ x,av=.str x)∨(b=false∧∃ l,av=.tup l)) (q:Q (.bool b) S):OpT w B n (Mine.callB "isinstance") [av,.val (.type "str")] S Q:=.mk fun A σ s E vs ha W r=>by
 obtain ⟨v,y,rfl,r1,r2⟩:=r.two
 obtain rfl:y=.type "str":=r2
 rcases h with ⟨rfl,x,rfl⟩ | ⟨rfl,l,rfl⟩
 ·obtain ⟨t,rfl⟩:=r1
  exact IsiPair.str_str (Pst.sc W (c:=.bool true) rfl q)
 ·obtain ⟨a,us,rfl,ho,_⟩:=r1
  exact IsiPair.tuple_str ho rfl (Pst.sc W (c:=.bool false) rfl q)
noncomputable abbrev PI:=Int×Int
noncomputable abbrev G (l:List PI) (i:Nat):PI:=l.getD i (0,0)
noncomputable def le2 (p q:PI):Prop:=ltP q p=false
theorem le2_iff (p q:PI):le2 p q↔p.1<q.1∨(p.1=q.1∧p.2≤q.2):=by
 unfold le2 ltP
 rw [decide_eq_false_iff_not]
 refine ⟨fun h=>?_,fun h q=>?_⟩
 ·rcases Int.lt_trichotomy p.1 q.1 with a | a | a
  ·exact .inl a
  ·exact .inr ⟨a,Int.not_lt.mp fun b=>h (.inr ⟨a.symm,b⟩)⟩
  ·exact absurd (.inl a) h
 ·rcases h with a | a <;> rcases q with b | b
  ·exact Int.lt_irrefl _ (Int.lt_trans a b)
  ·exact Int.lt_irrefl _ (b.1▸a)
  ·exact Int.lt_irrefl _ (a.1▸b)
  ·exact Int.not_le.mpr b.2 a.2
theorem le2_refl (p:PI):le2 p p:=by rw [le2_iff];lia
theorem le2_trans {p q r:PI} (h1:le2 p q) (h2:le2 q r):le2 p r:=by rw [le2_iff] at *;exact h1.elim (fun a=>h2.elim (fun b=>.inl (Int.lt_trans a b)) fun b=>.inl (b.1▸a)) fun a=>h2.elim (fun b=>.inl (a.1▸b)) fun b=>.inr ⟨a.1.trans b.1,Int.le_trans a.2 b.2⟩
theorem lt_le2 {p q:PI} (h:ltP p q=true):le2 p q:=by
 unfold ltP at h;rw [decide_eq_true_eq] at h;rw [le2_iff];lia
theorem G_set_self {l:List PI} {i:Nat} {x:PI} (h:i<l.length):G (l.set i x) i=x:=by
 unfold G;rw [List.getD_eq_getElem?_getD,List.getElem?_set_self h];rfl
theorem G_set_ne {l:List PI} {i j:Nat} {x:PI} (h:i≠j):G (l.set i x) j=G l j:=by
 unfold G;rw [List.getD_eq_getElem?_getD,List.getD_eq_getElem?_getD,List.getElem?_set_ne h]
noncomputable def Hp (l:List PI):Prop:=∀ i,0<i→i<l.length→le2 (G l ((i-1)/2)) (G l i)
structure Hole (l:List PI) (pos:Nat):Prop where
 rest:∀ i,0<i→i<l.length→i≠pos→(i-1)/2≠pos→le2 (G l ((i-1)/2)) (G l i)
 over:∀ i,0<i→i<l.length→(i-1)/2=pos→0<pos→le2 (G l ((pos-1)/2)) (G l i)
theorem sdn_heap (x:PI):∀ (pos:Nat) (l:List PI),pos<l.length→Hole l pos→(∀ i,0<i→i<l.length→(i-1)/2=pos→le2 x (G l i))→Hp (sdn x l pos):=by
 intro pos
 induction pos using Nat.strongRecOn with
 | _ pos ih =>
  intro l hp H hx
  rw [sdn_eq]
  by_cases h0:pos=0
  ·subst h0
   rw [dif_pos rfl]
   intro i hi hl
   rw [List.length_set] at hl
   rw [G_set_ne (j:=i) (by exact Ne.symm (Nat.ne_zero_of_lt hi))]
   by_cases hpar:(i-1)/2=0
   ·rw [hpar,G_set_self hp];exact hx i hi hl hpar
   ·rw [G_set_ne (by exact neN fun a=>hpar (id (Eq.symm a)))];exact H.rest i hi hl (by exact Nat.ne_zero_of_lt hi) hpar
  ·rw [dif_neg h0]
   have hpp:(pos-1)/2<pos:=by lia
   by_cases hlt:ltP x (l.getD ((pos-1)/2) (0,0))=true
   ·rw [if_pos hlt]
    refine ih _ hpp _ (by rw [List.length_set];exact Nat.lt_trans hpp hp) ⟨fun i hi hl h1 h2=>?_,fun i hi hl h1 h2=>?_⟩ fun i hi hl h1=>?_
    ·rw [List.length_set] at hl
     have hip:i≠pos:=fun e=>h2 (by rw [e])
     rw [G_set_ne (j:=i) (fun e=>hip e.symm)]
     by_cases h3:(i-1)/2=pos
     ·rw [h3,G_set_self hp];exact H.over i hi hl h3 (by exact Nat.zero_lt_of_ne_zero h0)
     ·rw [G_set_ne (fun e=>h3 e.symm)];exact H.rest i hi hl hip h3
    ·rw [List.length_set] at hl
     rw [G_set_ne (j:=((pos-1)/2-1)/2) (by lia)]
     have hb:le2 (G l (((pos-1)/2-1)/2)) (G l ((pos-1)/2)):=H.rest _ h2 (by exact Nat.lt_trans hpp hp) (by exact Nat.ne_of_lt hpp) (by lia)
     by_cases h3:i=pos
     ·rw [h3,G_set_self hp];exact hb
     ·rw [G_set_ne (fun e=>h3 e.symm)]
      have:=H.rest i hi hl h3 (by lia)
      rw [h1] at this
      exact le2_trans hb this
    ·rw [List.length_set] at hl
     by_cases h3:i=pos
     ·rw [h3,G_set_self hp];exact lt_le2 hlt
     ·rw [G_set_ne (fun e=>h3 e.symm)]
      have:=H.rest i hi hl h3 (by lia)
      rw [h1] at this
      exact le2_trans (lt_le2 hlt) this
   ·rw [if_neg hlt]
    have hle:le2 (G l ((pos-1)/2)) x:=by unfold le2;simpa using hlt
    intro i hi hl
    rw [List.length_set] at hl
    by_cases h1:i=pos
    ·rw [h1,G_set_self hp,G_set_ne (by exact Ne.symm (Nat.ne_of_lt hpp))];exact hle
    ·rw [G_set_ne (j:=i) (fun e=>h1 e.symm)]
     by_cases h2:(i-1)/2=pos
     ·rw [h2,G_set_self hp];exact hx i hi hl h2
     ·rw [G_set_ne (fun e=>h2 e.symm)];exact H.rest i hi hl h1 h2
theorem set_erase:∀ (l:List PI) (i:Nat) (x:PI),i<l.length→(l.set i x).Perm (x::l.eraseIdx i)
 | a::l,0,x,_=>List.Perm.refl _
 | a::l,i+1,x,h=>((set_erase l i x (by simpa using h)).cons a).trans (List.Perm.swap _ _ _)
 | [],_,_,h=>absurd h (Nat.not_lt_zero _)
theorem get_erase {l:List PI} {i:Nat} (h:i<l.length):(l[i]::l.eraseIdx i).Perm l:=by
 have:=(set_erase l i l[i] h).symm
 rwa [List.set_getElem_self h] at this
theorem swap_perm {l:List PI} {i j:Nat} (hi:i<l.length) (hj:j<l.length) (hij:i≠j) (x:PI):((l.set i (G l j)).set j x).Perm (l.set i x):=by
 have e:G l j=l[j]:=by unfold G;rw [List.getD_eq_getElem?_getD,List.getElem?_eq_getElem hj];rfl
 have h1:((l.set i (G l j)).set j x).Perm (x::(l.set i (G l j)).eraseIdx j):=set_erase _ _ x (by rw [List.length_set];exact hj)
 have hj':j<(l.set i (G l j)).length:=by rw [List.length_set];exact hj
 have h2:((l.set i (G l j))[j]::(l.set i (G l j)).eraseIdx j).Perm (l.set i (G l j)):=get_erase hj'
 have e2:(l.set i (G l j))[j]=G l j:=(List.getElem_set_ne hij _).trans e.symm
 rw [e2] at h2
 have h3:(l.set i (G l j)).Perm (G l j::l.eraseIdx i):=set_erase _ _ _ hi
 have h4:((l.set i (G l j)).eraseIdx j).Perm (l.eraseIdx i):=(h2.trans h3).cons_inv
 exact h1.trans ((h4.cons x).trans (set_erase _ _ x hi).symm)
theorem sdn_perm (x:PI):∀ (pos:Nat) (l:List PI),pos<l.length→(sdn x l pos).Perm (l.set pos x):=by
 intro pos
 induction pos using Nat.strongRecOn with
 | _ pos ih =>
  intro l hp
  rw [sdn_eq]
  by_cases h0:pos=0
  ·subst h0;rw [dif_pos rfl]
  ·rw [dif_neg h0]
   split
   ·exact (ih ((pos-1)/2) (by omega) _ (by rw [List.length_set];omega)).trans (swap_perm hp (by omega) (by omega) x)
   ·exact List.Perm.refl _
theorem kid {i pos:Nat} (h0:0<i) (h:(i-1)/2=pos):i=2*pos+1∨i=2*pos+2:=by
 have r:=Nat.div_add_mod (i-1) 2
 rw [h] at r
 rcases Nat.mod_two_eq_zero_or_one (i-1) with e | e <;> rw [e] at r
 ·exact .inl ((congrArg (·+1) r).trans (Nat.sub_add_cancel h0)).symm
 ·exact .inr ((congrArg (·+1) r).trans (Nat.sub_add_cancel h0)).symm
theorem up_lt (pos:Nat):pos<2*pos+1:=Nat.lt_succ_of_le (Nat.le_mul_of_pos_left pos (by decide))
theorem sup_spec (x:PI):∀ (k pos:Nat) (l:List PI),l.length-pos=k→pos<l.length→Hole l pos →
  (sup x l pos).1.length=l.length∧(sup x l pos).2<l.length∧l.length≤2*(sup x l pos).2+1∧Hole (sup x l pos).1 (sup x l pos).2∧((sup x l pos).1.set (sup x l pos).2 x).Perm (l.set pos x):=by
 intro k
 induction k using Nat.strongRecOn with
 | _ k ih =>
  intro pos l hk hp H
  rw [sup_eq]
  by_cases hc:2*pos+1<l.length
  ·rw [dif_pos hc]
   obtain ⟨c,hcd⟩:∃ c,c=if 2*pos+2<l.length∧ltP (l.getD (2*pos+1) (0,0)) (l.getD (2*pos+2) (0,0))=false then 2*pos+2 else 2*pos+1:=⟨_,rfl⟩
   rw [← hcd]
   have c1:c<l.length∧(c-1)/2=pos∧pos<c∧(∀ i,0<i→i<l.length→(i-1)/2=pos→le2 (G l c) (G l i)):=by
    by_cases h2:2*pos+2<l.length∧ltP (l.getD (2*pos+1) (0,0)) (l.getD (2*pos+2) (0,0))=false
    ·rw [if_pos h2] at hcd
     refine ⟨hcd▸h2.1,by rw [hcd];exact Nat.mul_add_div (by decide) pos 1,hcd▸Nat.lt_succ_of_lt (up_lt pos),fun i hi hl hpar=>?_⟩
     have:=kid hi hpar
     rcases this with rfl | rfl
     ·rw [hcd];exact h2.2
     ·rw [hcd];exact le2_refl _
    ·rw [if_neg h2] at hcd
     refine ⟨by exact lt_of_eq_of_lt hcd hc,by rw [hcd];exact Nat.mul_div_cancel_left pos (by decide),hcd▸up_lt pos,fun i hi hl hpar=>?_⟩
     have:=kid hi hpar
     rcases this with rfl | rfl
     ·rw [hcd];exact le2_refl _
     ·rw [hcd]
      refine lt_le2 ?_
      cases hb:ltP (G l (2*pos+1)) (G l (2*pos+2)) with
      | true=>rfl
      | false=>exact absurd ⟨hl,hb⟩ h2
   refine let ZZ:Prop:=_;(?_:ZZ)
   obtain ⟨c1,c2,c3,c4⟩:=c1
   have H':Hole (l.set pos (l.getD c (0,0))) c:=by
    refine ⟨fun i hi hl h1 h2=>?_,fun i hi hl h1 h2=>?_⟩
    ·rw [List.length_set] at hl
     by_cases h3:i=pos
     ·rw [h3,G_set_self hp,G_set_ne (by omega)]
      exact H.over c (by exact Nat.zero_lt_of_lt c3) c1 c2 (by exact Nat.lt_of_lt_of_eq hi h3)
     ·rw [G_set_ne (j:=i) (fun e=>h3 e.symm)]
      by_cases h4:(i-1)/2=pos
      ·rw [h4,G_set_self hp];exact c4 i hi hl h4
      ·rw [G_set_ne (fun e=>h4 e.symm)];exact H.rest i hi hl h3 h4
    ·rw [List.length_set] at hl
     rw [c2,G_set_self hp,G_set_ne (by omega)]
     have:=H.rest i hi hl (by omega) (by omega)
     rw [h1] at this
     exact this
   have hl':(l.set pos (l.getD c (0,0))).length=l.length:=List.length_set
   refine let ZZ:Prop:=_;(?_:ZZ)
   obtain ⟨a1,a2,a3,a4,a5⟩:=ih (l.length-c) (hk▸Nat.sub_lt_sub_left hp c3) c (l.set pos (l.getD c (0,0))) (by rw [hl']) (by rw [hl'];exact c1) H'
   rw [hl'] at a1 a2 a3
   exact ⟨a1,a2,a3,a4,a5.trans (swap_perm hp c1 (by exact Nat.ne_of_lt c3) x)⟩
  ·rw [dif_neg hc]
   exact ⟨rfl,hp,by exact Nat.le_of_not_lt hc,H,List.Perm.refl _⟩
theorem Hole.set {l:List PI} {pos:Nat} (H:Hole l pos) (x:PI):Hole (l.set pos x) pos:=by
 refine ⟨fun i hi hl h1 h2=>?_,fun i hi hl h1 h2=>?_⟩
 ·rw [List.length_set] at hl
  rw [G_set_ne (fun e=>h1 e.symm),G_set_ne (fun e=>h2 e.symm)];exact H.rest i hi hl h1 h2
 ·rw [List.length_set] at hl
  rw [G_set_ne (by omega),G_set_ne (by omega)];exact H.over i hi hl h1 h2
theorem supAll_spec {l:List PI} (hp:0<l.length) (H:Hole l 0):Hp (supAll l)∧(supAll l).Perm l:=by
 unfold supAll
 obtain ⟨a1,a2,a3,a4,a5⟩:=sup_spec (l.getD 0 (0,0)) (l.length-0) 0 l rfl hp H
 have hlen:((sup (l.getD 0 (0,0)) l 0).1.set (sup (l.getD 0 (0,0)) l 0).2 (l.getD 0 (0,0))).length=l.length:=by rw [List.length_set];exact a1
 refine ⟨sdn_heap _ _ _ (by rw [hlen];exact a2) (a4.set _) fun i hi hl h1=>by rw [hlen] at hl;lia,?_⟩
 refine (sdn_perm _ _ _ (by rw [hlen];exact a2)).trans ?_
 rw [List.set_set]
 refine a5.trans ?_
 have:l.set 0 (l.getD 0 (0,0))=l:=by
  refine set_of_get ?_
  rw [List.getD_eq_getElem?_getD,List.getElem?_eq_getElem hp];rfl
 rw [this]
theorem Hp.hole {l:List PI} (h:Hp l) (x:PI):Hole (l.set 0 x) 0:=by
 refine ⟨fun i hi hl h1 h2=>?_,fun i hi hl h1 h2=>absurd h2 (by exact Nat.not_lt_zero 0)⟩
 rw [List.length_set] at hl
 rw [G_set_ne (by exact neN (id (Ne.symm h2))),G_set_ne (by exact Ne.symm (Nat.ne_zero_of_lt hi))]
 exact h i hi hl
theorem Hp.min {l:List PI} (h:Hp l):∀ i,i<l.length→le2 (G l 0) (G l i):=by
 intro i
 induction i using Nat.strongRecOn with
 | _ i ih =>
  intro hi
  by_cases h0:i=0
  ·subst h0;exact le2_refl _
  ·exact le2_trans (ih ((i-1)/2) (by omega) (by omega)) (h i (by exact Nat.zero_lt_of_ne_zero h0) hi)
theorem Hp.init {l:List PI} (h:Hp l):Hp l.dropLast:=by
 intro i hi hl
 rw [List.length_dropLast] at hl
 have e:∀ j,j<l.length-1→G l.dropLast j=G l j:=fun j hj=>by
  unfold G;rw [List.getD_eq_getElem?_getD,List.getD_eq_getElem?_getD,List.getElem?_dropLast,if_pos hj]
 rw [e _ (by omega),e _ hl]
 exact h i hi (by exact Nat.lt_of_lt_pred hl)
theorem push_spec {l:List PI} (h:Hp l) (x:PI):Hp (pushL l x)∧(pushL l x).Perm (x::l):=by
 unfold pushL
 have hlen:l.length<(l++[x]).length:=by simp
 have e:∀ j,j<l.length→G (l++[x]) j=G l j:=fun j hj=>by
  unfold G;rw [List.getD_eq_getElem?_getD,List.getD_eq_getElem?_getD,List.getElem?_append_left hj]
 refine ⟨sdn_heap x _ _ hlen ⟨fun i hi hl h1 h2=>?_,fun i hi hl h1 h2=>?_⟩ fun i hi hl h1=>?_,?_⟩
 ·simp only [List.length_append,List.length_singleton] at hl
  rw [e _ (by lia),e _ (by lia)];exact h i hi (by lia)
 ·simp only [List.length_append,List.length_singleton] at hl;lia
 ·simp only [List.length_append,List.length_singleton] at hl;lia
 ·refine (sdn_perm x _ _ hlen).trans ?_
  rw [List.set_append_right _ _ (Nat.le_refl _),Nat.sub_self]
  exact List.perm_append_comm
theorem pushAll_spec (l:List PI):∀ h:List PI,Hp h→Hp (pushAll h l)∧(pushAll h l).Perm (l++h):=by
 induction l with
 | nil=>intro h hh;exact ⟨hh,List.Perm.refl _⟩
 | cons a l ih =>
  intro h hh
  obtain ⟨p1,p2⟩:=push_spec hh a
  obtain ⟨q1,q2⟩:=ih _ p1
  refine ⟨q1,q2.trans ?_⟩
  exact (p2.append_left l).trans List.perm_middle
theorem pop_spec {l:List PI} (h:Hp l) (hne:l≠[]):Hp (popL l).2∧((popL l).1::(popL l).2).Perm l∧∀ q∈(popL l).2,le2 (popL l).1 q:=by
 unfold popL
 have hl:0<l.length:=List.length_pos_iff.mpr hne
 have e:l=l.dropLast++[l.getLastD (0,0)]:=by
  rw [List.getLastD_eq_getLast?,List.getLast?_eq_some_getLast hne]
  exact (List.dropLast_concat_getLast hne).symm
 by_cases hd:l.dropLast=[]
 ·rw [if_pos hd]
  refine ⟨fun i hi hl=>absurd hl (Nat.not_lt_zero _),?_,fun q hq=>absurd hq List.not_mem_nil⟩
  rw [hd] at e
  exact List.Perm.of_eq e.symm
 ·rw [if_neg hd]
  have hdl:0<l.dropLast.length:=List.length_pos_iff.mpr hd
  have H0:=h.init
  obtain ⟨s1,s2⟩:=supAll_spec (l:=l.dropLast.set 0 (l.getLastD (0,0))) (by rw [List.length_set];exact hdl) (H0.hole _)
  have hp2:(l.dropLast.getD 0 (0,0)::l.dropLast.set 0 (l.getLastD (0,0))).Perm l:=by
   have a1:(l.dropLast.set 0 (l.getLastD (0,0))).Perm (l.getLastD (0,0)::l.dropLast.eraseIdx 0):=set_erase _ _ _ hdl
   have a2:(l.dropLast[0]::l.dropLast.eraseIdx 0).Perm l.dropLast:=get_erase hdl
   have a3:l.dropLast.getD 0 (0,0)=l.dropLast[0]:=by rw [List.getD_eq_getElem?_getD,List.getElem?_eq_getElem hdl];rfl
   rw [a3]
   refine (a1.cons _).trans ((List.Perm.swap _ _ _).trans ((a2.cons _).trans ?_))
   conv=>rhs;rw [e]
   exact (List.perm_append_comm (l₁:=[l.getLastD (0,0)]))
  have hp3:=(s2.cons (l.dropLast.getD 0 (0,0))).trans hp2
  refine ⟨s1,hp3,fun q hq=>?_⟩
  have hq':q∈l:=hp3.mem_iff.mp (List.mem_cons_of_mem _ hq)
  obtain ⟨i,hi,rfl⟩:=List.getElem_of_mem hq'
  have:=h.min i hi
  have e0:G l 0=l.dropLast.getD 0 (0,0):=by
   rw [List.length_dropLast] at hdl
   unfold G;rw [List.getD_eq_getElem?_getD,List.getD_eq_getElem?_getD,List.getElem?_dropLast,if_pos hdl]
  rw [e0] at this
  have e1:G l i=l[i]:=by unfold G;rw [List.getD_eq_getElem?_getD,List.getElem?_eq_getElem hi];rfl
  rw [e1] at this
  exact this
theorem rep_spec {l:List PI} (h:Hp l) (hne:l≠[]) (x:PI):Hp (repL l x)∧(G l 0::repL l x).Perm (x::l):=by
 unfold repL
 have hl:0<l.length:=List.length_pos_iff.mpr hne
 obtain ⟨s1,s2⟩:=supAll_spec (l:=l.set 0 x) (by rw [List.length_set];exact hl) (h.hole x)
 refine ⟨s1,(s2.cons _).trans ?_⟩
 have a1:(l.set 0 x).Perm (x::l.eraseIdx 0):=set_erase _ _ _ hl
 have a2:(l[0]::l.eraseIdx 0).Perm l:=get_erase hl
 have a3:G l 0=l[0]:=by unfold G;rw [List.getD_eq_getElem?_getD,List.getElem?_eq_getElem hl];rfl
 rw [a3]
 exact (a1.cons _).trans ((List.Perm.swap _ _ _).trans (a2.cons _))
noncomputable def LowP (L:List PI) (a:Int):Prop:=(∃ p∈L,p.1=a)∧∀ o∈L,¬ (o.1<a∧a≤o.2+1)
noncomputable def HighP (L:List PI) (b:Int):Prop:=(∃ p∈L,p.2=b)∧∀ o∈L,¬ (o.1≤b+1∧b+1≤o.2)
theorem LowP.perm {L M:List PI} (h:L.Perm M) (a:Int):LowP L a↔LowP M a:=by
 constructor
 ·rintro ⟨⟨p,hp,e⟩,k⟩;exact ⟨⟨p,h.mem_iff.mp hp,e⟩,fun o ho=>k o (h.mem_iff.mpr ho)⟩
 ·rintro ⟨⟨p,hp,e⟩,k⟩;exact ⟨⟨p,h.mem_iff.mpr hp,e⟩,fun o ho=>k o (h.mem_iff.mp ho)⟩
theorem HighP.perm {L M:List PI} (h:L.Perm M) (a:Int):HighP L a↔HighP M a:=by
 constructor
 ·rintro ⟨⟨p,hp,e⟩,k⟩;exact ⟨⟨p,h.mem_iff.mp hp,e⟩,fun o ho=>k o (h.mem_iff.mpr ho)⟩
 ·rintro ⟨⟨p,hp,e⟩,k⟩;exact ⟨⟨p,h.mem_iff.mpr hp,e⟩,fun o ho=>k o (h.mem_iff.mp ho)⟩
structure JS (L R:List PI):Prop where
 low:∀ a,LowP L a↔a∈R.map (·.1)
 high:∀ b,HighP L b↔b∈R.map (·.2)
 slow:(R.map (·.1)).Pairwise (·<·)
 shigh:(R.map (·.2)).Pairwise (·<·)
 ne:∀ p∈R,p.1≤p.2
theorem JS.perm {L M R:List PI} (h:L.Perm M) (J:JS L R):JS M R :=
 ⟨fun a=>(LowP.perm h a).symm.trans (J.low a),fun a=>(HighP.perm h a).symm.trans (J.high a),J.slow,J.shigh,J.ne⟩
theorem JS.nil:JS [] []:=by
 refine ⟨fun a=>⟨fun h=>?_,fun h=>?_⟩,fun a=>⟨fun h=>?_,fun h=>?_⟩,List.Pairwise.nil,List.Pairwise.nil,fun p hp=>?_⟩
 ·obtain ⟨⟨p,hp,_⟩,_⟩:=h;cases hp
 ·cases h
 ·obtain ⟨⟨p,hp,_⟩,_⟩:=h;cases hp
 ·cases h
 ·cases hp
theorem low_merge {p q x:PI} {M:List PI} (hp:p.1≤p.2) (hq:q.1≤q.2) (h1:p.1≤q.1) (h2:q.1≤p.2+1) (x1:x.1=p.1) (x2:x.2=if q.2>p.2 then q.2 else p.2) (a:Int):LowP (p::q::M) a↔LowP (x::M) a:=by
 constructor
 ·intro p₀
  refine let ZZ:Prop:=_;(?_:ZZ)
  obtain ⟨⟨w,hw,e⟩,k⟩:=p₀
  have kp:=k p List.mem_cons_self
  have kq:=k q (List.mem_cons_of_mem _ List.mem_cons_self)
  refine ⟨?_,fun o ho=>?_⟩
  ·rcases List.mem_cons.mp hw with rfl | hw
   ·exact ⟨x,List.mem_cons_self,by lia⟩
   ·rcases List.mem_cons.mp hw with rfl | hw
    ·exact ⟨x,List.mem_cons_self,by lia⟩
    ·exact ⟨w,List.mem_cons_of_mem _ hw,e⟩
  ·rcases List.mem_cons.mp ho with rfl | ho
   ·split at x2 <;> lia
   ·exact k o (List.mem_cons_of_mem _ (List.mem_cons_of_mem _ ho))
 ·rintro ⟨⟨w,hw,e⟩,k⟩
  have kx:=k x List.mem_cons_self
  refine ⟨?_,fun o ho=>?_⟩
  ·rcases List.mem_cons.mp hw with rfl | hw
   ·exact ⟨p,List.mem_cons_self,by lia⟩
   ·exact ⟨w,List.mem_cons_of_mem _ (List.mem_cons_of_mem _ hw),e⟩
  ·rcases List.mem_cons.mp ho with rfl | ho
   ·split at x2 <;> lia
   ·rcases List.mem_cons.mp ho with rfl | ho
    ·split at x2 <;> lia
    ·exact k o (List.mem_cons_of_mem _ ho)
theorem high_merge {p q x:PI} {M:List PI} (hp:p.1≤p.2) (hq:q.1≤q.2) (h1:p.1≤q.1) (h2:q.1≤p.2+1) (x1:x.1=p.1) (x2:x.2=if q.2>p.2 then q.2 else p.2) (a:Int):HighP (p::q::M) a↔HighP (x::M) a:=by
 constructor
 ·rintro ⟨⟨w,hw,e⟩,k⟩
  have kp:=k p List.mem_cons_self
  have kq:=k q (List.mem_cons_of_mem _ List.mem_cons_self)
  refine ⟨?_,fun o ho=>?_⟩
  ·rcases List.mem_cons.mp hw with rfl | hw
   ·exact ⟨x,List.mem_cons_self,by split at x2 <;> lia⟩
   ·rcases List.mem_cons.mp hw with rfl | hw
    ·exact ⟨x,List.mem_cons_self,by split at x2 <;> lia⟩
    ·exact ⟨w,List.mem_cons_of_mem _ hw,e⟩
  ·rcases List.mem_cons.mp ho with rfl | ho
   ·split at x2 <;> lia
   ·exact k o (List.mem_cons_of_mem _ (List.mem_cons_of_mem _ ho))
 ·rintro ⟨⟨w,hw,e⟩,k⟩
  have kx:=k x List.mem_cons_self
  refine ⟨?_,fun o ho=>?_⟩
  ·rcases List.mem_cons.mp hw with rfl | hw
   ·split at x2
    ·exact ⟨q,List.mem_cons_of_mem _ List.mem_cons_self,by lia⟩
    ·exact ⟨p,List.mem_cons_self,by lia⟩
   ·exact ⟨w,List.mem_cons_of_mem _ (List.mem_cons_of_mem _ hw),e⟩
  ·rcases List.mem_cons.mp ho with rfl | ho
   ·split at x2 <;> lia
   ·rcases List.mem_cons.mp ho with rfl | ho
    ·split at x2 <;> lia
    ·exact k o (List.mem_cons_of_mem _ ho)
theorem JS.cons {p:PI} {M R:List PI} (hp:p.1≤p.2) (hM:∀ q∈M,p.2+1<q.1∧q.1≤q.2) (J:JS M R):JS (p::M) (p::R):=by
 have lo:∀ a∈R.map (·.1),p.1<a:=fun a ha=>by
  refine let ZZ:Prop:=_;(?_:ZZ)
  obtain ⟨⟨q,hq,e⟩,_⟩:=(J.low a).mpr ha
  have:=hM q hq
  lia
 have hi:∀ b∈R.map (·.2),p.2<b:=fun b hb=>by
  obtain ⟨⟨q,hq,e⟩,_⟩:=(J.high b).mpr hb
  have:=hM q hq
  lia
 refine ⟨fun a=>?_,fun b=>?_,?_,?_,?_⟩
 ·rw [List.map_cons,List.mem_cons,← J.low a]
  constructor
  ·rintro ⟨⟨w,hw,e⟩,k⟩
   rcases List.mem_cons.mp hw with rfl | hw
   ·exact .inl e.symm
   ·exact .inr ⟨⟨w,hw,e⟩,fun o ho=>k o (List.mem_cons_of_mem _ ho)⟩
  ·rintro (rfl | ⟨⟨w,hw,e⟩,k⟩)
   ·refine ⟨⟨p,List.mem_cons_self,rfl⟩,fun o ho=>?_⟩
    rcases List.mem_cons.mp ho with rfl | ho
    ·lia
    ·have:=hM o ho;lia
   ·refine ⟨⟨w,List.mem_cons_of_mem _ hw,e⟩,fun o ho=>?_⟩
    rcases List.mem_cons.mp ho with rfl | ho
    ·have:=hM w hw;lia
    ·exact k o ho
 ·rw [List.map_cons,List.mem_cons,← J.high b]
  constructor
  ·rintro ⟨⟨w,hw,e⟩,k⟩
   rcases List.mem_cons.mp hw with rfl | hw
   ·exact .inl e.symm
   ·exact .inr ⟨⟨w,hw,e⟩,fun o ho=>k o (List.mem_cons_of_mem _ ho)⟩
  ·rintro (rfl | ⟨⟨w,hw,e⟩,k⟩)
   ·refine ⟨⟨p,List.mem_cons_self,rfl⟩,fun o ho=>?_⟩
    rcases List.mem_cons.mp ho with rfl | ho
    ·lia
    ·have:=hM o ho;lia
   ·refine ⟨⟨w,List.mem_cons_of_mem _ hw,e⟩,fun o ho=>?_⟩
    rcases List.mem_cons.mp ho with rfl | ho
    ·have:=hM w hw;lia
    ·exact k o ho
 ·rw [List.map_cons,List.pairwise_cons];exact ⟨lo,J.slow⟩
 ·rw [List.map_cons,List.pairwise_cons];exact ⟨hi,J.shigh⟩
 ·intro q hq
  rcases List.mem_cons.mp hq with rfl | hq
  ·exact hp
  ·exact J.ne q hq
theorem joinGo_spec:∀ (n:Nat) (h j:List PI),h.length≤n→Hp h→(∀ p∈h,p.1≤p.2)→∃ R,joinGo n h j=j++R∧JS h R:=by
 intro n
 induction n with
 | zero =>
  intro h j hl H hn
  obtain rfl:h=[]:=List.length_eq_zero_iff.mp (by exact Nat.eq_zero_of_le_zero hl)
  exact ⟨[],(List.append_nil j).symm,JS.nil⟩
 | succ n ih =>
  intro h j hl H hn
  rw [joinGoS]
  by_cases h0:h=[]
  ·subst h0
   exact ⟨[],by simp,JS.nil⟩
  ·rw [if_neg h0]
   obtain ⟨P1,P2,P3⟩:=pop_spec H h0
   obtain ⟨p,hpe⟩:∃ p,p=(popL h).1:=⟨_,rfl⟩
   obtain ⟨M,hMe⟩:∃ M,M=(popL h).2:=⟨_,rfl⟩
   rw [← hpe,← hMe] at P2 P3 ⊢
   rw [← hMe] at P1
   have hlen:M.length+1=h.length:=by have:=P2.length_eq;simpa using this
   have hp:p.1≤p.2:=hn p (P2.mem_iff.mp List.mem_cons_self)
   have hMn:∀ q∈M,q.1≤q.2:=fun q hq=>hn q (P2.mem_iff.mp (List.mem_cons_of_mem _ hq))
   by_cases hc:M≠[]∧(M.getD 0 (0,0)).1≤p.2+1
   ·rw [if_pos hc]
    obtain ⟨x,hx⟩:∃ x:PI,x=(p.1,if (M.getD 0 (0,0)).2>p.2 then (M.getD 0 (0,0)).2 else p.2):=⟨_,rfl⟩
    rw [← hx]
    obtain ⟨R1,R2⟩:=rep_spec P1 hc.1 x
    have hMl:0<M.length:=List.length_pos_iff.mpr hc.1
    have e0:M.getD 0 (0,0)=M[0]:=by rw [List.getD_eq_getElem?_getD,List.getElem?_eq_getElem hMl];rfl
    have hq0:M.getD 0 (0,0)∈M:=by rw [e0];exact List.getElem_mem hMl
    have pM:(M.getD 0 (0,0)::M.eraseIdx 0).Perm M:=by rw [e0];exact get_erase hMl
    have pR:(repL M x).Perm (x::M.eraseIdx 0):=(R2.trans ((pM.symm.cons x).trans (List.Perm.swap _ _ _))).cons_inv
    have hxn:x.1≤x.2:=by rw [hx];dsimp only;split <;> lia
    have hrn:∀ w∈repL M x,w.1≤w.2:=fun w hw=>by
     rcases List.mem_cons.mp (pR.mem_iff.mp hw) with rfl | hw
     ·exact hxn
     ·exact hMn w (pM.mem_iff.mp (List.mem_cons_of_mem _ hw))
    have hrl:(repL M x).length≤n:=by have:=R2.length_eq;simp at this;lia
    obtain ⟨R,hR,J⟩:=ih (repL M x) j hrl R1 hrn
    refine ⟨R,hR,?_⟩
    have hle:=(le2_iff _ _).mp (P3 _ hq0)
    have hph:(p::M.getD 0 (0,0)::M.eraseIdx 0).Perm h:=(pM.cons p).trans P2
    refine JS.perm hph ?_
    have J':=J.perm pR
    have m1:p.1≤(M.getD 0 (0,0)).1:=by lia
    exact ⟨fun a=>(low_merge hp (hMn _ hq0) m1 hc.2 (by rw [hx]) (by rw [hx]) a).trans (J'.low a),fun a=>(high_merge hp (hMn _ hq0) m1 hc.2 (by rw [hx]) (by rw [hx]) a).trans (J'.high a),J'.slow,J'.shigh,J'.ne⟩
   ·rw [if_neg hc]
    obtain ⟨R,hR,J⟩:=ih M (j++[p]) (by lia) P1 hMn
    refine ⟨p::R,by rw [hR];simp,?_⟩
    refine JS.perm P2 (JS.cons hp (fun q hq=>⟨?_,hMn q hq⟩) J)
    have hMne:M≠[]:=fun e=>by rw [e] at hq;cases hq
    have h1:¬ (M.getD 0 (0,0)).1≤p.2+1:=fun h=>hc ⟨hMne,h⟩
    obtain ⟨i,hi,rfl⟩:=List.getElem_of_mem hq
    have h2:=(le2_iff _ _).mp (P1.min i hi)
    have e1:G M i=M[i]:=by unfold G;rw [List.getD_eq_getElem?_getD,List.getElem?_eq_getElem hi];rfl
    rw [e1] at h2
    change (M.getD 0 (0,0)).1<_∨(M.getD 0 (0,0)).1=_∧_ at h2
    lia
theorem joinL_spec {l:List PI} (hn:∀ p∈l,p.1≤p.2):JS l (joinL l):=by
 obtain ⟨h1,h2⟩:=pushAll_spec l [] (fun i hi hl=>absurd hl (Nat.not_lt_zero _))
 rw [List.append_nil] at h2
 obtain ⟨R,hR,J⟩:=joinGo_spec l.length (pushAll [] l) [] (by rw [h2.length_eq];exact Nat.le_refl _) h1 fun p hp=>hn p (h2.mem_iff.mp hp)
 unfold joinL
 rw [hR,List.nil_append]
 exact J.perm h2
theorem dedup_spec (ns:List Int):(∀ a,a∈dedupI ns↔a∈ns)∧(dedupI ns).Nodup:=by
 have key:∀ (ns acc:List Int),acc.Nodup→(∀ a,a∈ns.foldl (fun acc i=>if i∈acc then acc else acc++[i]) acc↔a∈acc∨a∈ns)∧(ns.foldl (fun acc i=>if i∈acc then acc else acc++[i]) acc).Nodup:=by
  intro ns
  induction ns with
  | nil=>intro acc h;exact ⟨fun a=>by simp,h⟩
  | cons i ns ih =>
   intro acc h
   rw [List.foldl_cons]
   by_cases hi:i∈acc
   ·rw [if_pos hi]
    obtain ⟨h1,h2⟩:=ih acc h
    refine ⟨fun a=>?_,h2⟩
    rw [h1,List.mem_cons]
    constructor
    ·rintro (h | h)
     ·exact .inl h
     ·exact .inr (.inr h)
    ·rintro (h | rfl | h)
     ·exact .inl h
     ·exact .inl hi
     ·exact .inr h
   ·rw [if_neg hi]
    have hn:(acc++[i]).Nodup:=by
     rw [List.nodup_append]
     refine ⟨h,by simp,fun a ha b hb e=>?_⟩
     rw [List.mem_singleton] at hb
     subst hb;subst e;exact hi ha
    obtain ⟨h1,h2⟩:=ih (acc++[i]) hn
    refine ⟨fun a=>?_,h2⟩
    rw [h1,List.mem_append,List.mem_singleton,List.mem_cons,or_assoc]
 obtain ⟨h1,h2⟩:=key ns [] List.nodup_nil
 exact ⟨fun a=>by rw [show dedupI ns=ns.foldl (fun acc i=>if i∈acc then acc else acc++[i]) [] from rfl,h1];simp,h2⟩
theorem sorted_ext:∀ {l m:List Int},l.Pairwise (·<·)→m.Pairwise (·<·)→(∀ a,a∈l↔a∈m)→l=m
 | [],[],_,_,_=>rfl
 | a::l,[],_,_,h=>absurd ((h a).mp List.mem_cons_self) List.not_mem_nil
 | [],b::m,_,_,h=>absurd ((h b).mpr List.mem_cons_self) List.not_mem_nil
 | a::l,b::m,h1,h2,h=>by
  rw [List.pairwise_cons] at h1 h2
  have e:a=b:=by
   have ha:=(h a).mp List.mem_cons_self
   have hb:=(h b).mpr List.mem_cons_self
   rcases List.mem_cons.mp ha with e | ha
   ·exact e
   rcases List.mem_cons.mp hb with e | hb
   ·exact e.symm
   have:=h1.1 b hb
   have:=h2.1 a ha
   lia
  subst e
  rw [sorted_ext h1.2 h2.2 fun x=>?_]
  constructor
  ·intro hx
   rcases List.mem_cons.mp ((h x).mp (List.mem_cons_of_mem _ hx)) with e | hx'
   ·have:=h1.1 x hx;lia
   ·exact hx'
  ·intro hx
   rcases List.mem_cons.mp ((h x).mpr (List.mem_cons_of_mem _ hx)) with e | hx'
   ·have:=h2.1 x hx;lia
   ·exact hx'
theorem sorted_lt {n:List Int} (h1:n.Pairwise (·≤·)) (h2:n.Nodup):n.Pairwise (·<·):=by
 induction n with
 | nil=>exact List.Pairwise.nil
 | cons a n ih =>
  rw [List.pairwise_cons] at h1
  rw [List.nodup_cons] at h2
  rw [List.pairwise_cons]
  refine ⟨fun b hb=>?_,ih h1.2 h2.2⟩
  have:=h1.1 b hb
  have:a≠b:=fun e=>h2.1 (e▸hb)
  lia
theorem mem_lowsF (l:List PI) (a:Int):a∈lowsF l↔LowP l a:=by
 unfold lowsF LowP
 rw [List.mem_filterMap]
 constructor
 ·rintro ⟨p,hp,h⟩
  split at h
  ·rename_i hc
   obtain rfl:p.1=a:=by simpa using h
   rw [List.isEmpty_iff,List.filter_eq_nil_iff] at hc
   refine ⟨⟨p,hp,rfl⟩,fun o ho h=>hc o ho ?_⟩
   unfold coverL;rw [decide_eq_true_eq];exact h
  ·cases h
 ·rintro ⟨⟨p,hp,rfl⟩,k⟩
  refine ⟨p,hp,?_⟩
  rw [if_pos]
  rw [List.isEmpty_iff,List.filter_eq_nil_iff]
  intro o ho h
  unfold coverL at h;rw [decide_eq_true_eq] at h
  exact k o ho h
theorem mem_highsF (l:List PI) (a:Int):a∈highsF l↔HighP l a:=by
 unfold highsF HighP
 rw [List.mem_filterMap]
 constructor
 ·rintro ⟨p,hp,h⟩
  split at h
  ·rename_i hc
   obtain rfl:p.2=a:=by simpa using h
   rw [List.isEmpty_iff,List.filter_eq_nil_iff] at hc
   refine ⟨⟨p,hp,rfl⟩,fun o ho h=>hc o ho ?_⟩
   unfold coverH;rw [decide_eq_true_eq];exact h
  ·cases h
 ·rintro ⟨⟨p,hp,rfl⟩,k⟩
  refine ⟨p,hp,?_⟩
  rw [if_pos]
  rw [List.isEmpty_iff,List.filter_eq_nil_iff]
  intro o ho h
  unfold coverH at h;rw [decide_eq_true_eq] at h
  exact k o ho h
theorem fewest_len {l:List PI} (hn:∀ p∈l,p.1≤p.2):(dedupI (lowsF l)).length=(dedupI (highsF l)).length:=by
 have J:=joinL_spec hn
 obtain ⟨a1,a2⟩:=dedup_spec (lowsF l)
 obtain ⟨b1,b2⟩:=dedup_spec (highsF l)
 have e1:(dedupI (lowsF l)).Perm ((joinL l).map (·.1)):=(List.perm_ext_iff_of_nodup a2 (J.slow.imp fun h=>by exact Int.ne_of_lt h)).mpr fun a=>by rw [a1,mem_lowsF,J.low]
 have e2:(dedupI (highsF l)).Perm ((joinL l).map (·.2)):=(List.perm_ext_iff_of_nodup b2 (J.shigh.imp fun h=>by exact Int.ne_of_lt h)).mpr fun a=>by rw [b1,mem_highsF,J.high]
 rw [e1.length_eq,e2.length_eq,List.length_map,List.length_map]
theorem fewest_eq {l:List PI} (hn:∀ p∈l,p.1≤p.2) {n1 n2:List Int} (p1:n1.Perm (dedupI (lowsF l))) (s1:n1.Pairwise (·≤·)) (p2:n2.Perm (dedupI (highsF l))) (s2:n2.Pairwise (·≤·)):n1.zip n2=joinL l:=by
 have J:=joinL_spec hn
 obtain ⟨a1,a2⟩:=dedup_spec (lowsF l)
 obtain ⟨b1,b2⟩:=dedup_spec (highsF l)
 have e1:n1=(joinL l).map (·.1):=sorted_ext (sorted_lt s1 (p1.nodup_iff.mpr a2)) J.slow fun a=>by rw [p1.mem_iff,a1,mem_lowsF,J.low]
 have e2:n2=(joinL l).map (·.2):=sorted_ext (sorted_lt s2 (p2.nodup_iff.mpr b2)) J.shigh fun a=>by rw [p2.mem_iff,b1,mem_highsF,J.high]
 rw [e1,e2]
 have key:∀ R:List PI,(R.map (·.1)).zip (R.map (·.2))=R:=by
  intro R
  induction R with
  | nil=>rfl
  | cons p R ih=>rw [List.map_cons,List.map_cons,List.zip_cons_cons,ih]
 exact key _
theorem joined_mem {l:List PI} (hn:∀ p∈l,p.1≤p.2):∀ p∈joinL l,(∃ q∈l,q.1=p.1)∧(∃ q∈l,q.2=p.2)∧p.1≤p.2:=by
 have J:=joinL_spec hn
 intro p hp
 exact ⟨((J.low p.1).mpr (List.mem_map_of_mem hp)).1,((J.high p.2).mpr (List.mem_map_of_mem hp)).1,J.ne p hp⟩
theorem joined_len {l:List PI} (hn:∀ p∈l,p.1≤p.2):(joinL l).length≤l.length:=by
 have J:=joinL_spec hn
 obtain ⟨a1,a2⟩:=dedup_spec (lowsF l)
 have e1:(dedupI (lowsF l)).Perm ((joinL l).map (·.1)):=(List.perm_ext_iff_of_nodup a2 (J.slow.imp fun h=>by exact Int.ne_of_lt h)).mpr fun a=>by rw [a1,mem_lowsF,J.low]
 have h1:=e1.length_eq
 rw [List.length_map] at h1
 have h2:=dedupI_len (lowsF l)
 have h3:(lowsF l).length≤l.length:=List.length_filterMap_le _ _
 lia
theorem joined_ne {l:List PI} (hn:∀ p∈l,p.1≤p.2) (h:l≠[]):joinL l≠[]:=by
 have J:=joinL_spec hn
 intro e
 have hlow:∀ a,¬ LowP l a:=fun a ha=>by have:=(J.low a).mp ha;rw [e] at this;cases this
 -- the least lower end of all is one
 have:∀ (m:List PI),m≠[]→∃ p∈m,∀ o∈m,p.1≤o.1:=by
  intro m
  induction m with
  | nil=>intro h;exact absurd rfl h
  | cons a m ih =>
   intro _
   by_cases hm:m=[]
   ·subst hm;exact ⟨a,List.mem_cons_self,fun o ho=>by rw [List.mem_singleton] at ho;subst ho;exact Int.le_refl _⟩
   ·obtain ⟨p,hp,k⟩:=ih hm
    by_cases hc:a.1≤p.1
    ·refine ⟨a,List.mem_cons_self,fun o ho=>?_⟩
     rcases List.mem_cons.mp ho with rfl | ho
     ·exact Int.le_refl _
     ·have:=k o ho;exact Int.le_trans hc (k o ho)
    ·refine ⟨p,List.mem_cons_of_mem _ hp,fun o ho=>?_⟩
     rcases List.mem_cons.mp ho with rfl | ho
     ·exact Int.le_of_not_le hc
     ·exact k o ho
 obtain ⟨p,hp,k⟩:=this l h
 exact hlow p.1 ⟨⟨p,hp,rfl⟩,fun o ho hc=>by have:=k o ho;lia⟩
noncomputable def flatA:AV→Prop
 | .sc _=>True
 | .tup _=>True
 | _=>False
noncomputable def FlatS (S:Store):Prop:=∀ l∈S,∀ av∈l,flatA av
theorem flat_plain {S:Store} (h:FlatS S):PlainS S:=fun l hl av ha=>by
 have:=h l hl av ha
 cases av <;> first | exact trivial | exact this.elim
theorem RV.flat {σ σ':List Addr} {h:Heap} {av:AV} {v:Value} (f:flatA av) (r:RV σ h av v):RV σ' h av v:=by
 cases av <;> first | exact r | exact f.elim
theorem All2.flat {σ σ':List Addr} {h:Heap} {l:List AV} {vs:List Value} (f:∀ av∈l,flatA av) (r:All2 (RV σ h) l vs):All2 (RV σ' h) l vs:=All2.monoP (fun _ _ f r=>r.flat f) f r
theorem Wd.drop {τ₂:List Addr} {S₁ r:Store} (W:Wd B (σ++τ₂) (S₁++r) s) (hl:σ.length=S₁.length) (hf:FlatS S₁):Wd B σ S₁ s:=by
 refine ⟨hl,(List.nodup_append.mp W.nodup).1,fun a ha=>W.fresh a (List.mem_append_left _ ha),fun k l e=>?_,W.kept,W.tabs,W.gens,W.os,W.frs⟩
 have hk:k<S₁.length:=(List.getElem?_eq_some_iff.mp e).1
 obtain ⟨a,vs,h1,h2,h3⟩:=W.lists k l (by rw [List.getElem?_append_left hk];exact e)
 rw [List.getElem?_append_left (by exact Nat.lt_of_lt_of_eq hk (id (Eq.symm hl)))] at h1
 exact ⟨a,vs,h1,h2,h3.flat (hf l (List.mem_of_getElem? e))⟩
theorem EvT.drop {t:Sem Value} {k:Nat} {S₁:Store} (hf:FlatS S₁) (hk:k<S₁.length) (hS:S.length≤S₁.length) (h:EvT w B n env t loc S fun av S'=>av=.lst k∧(∃ r,S'=S₁++r)∧Q (.lst k) S₁):EvT w B n env t loc S Q:=.mk fun A σ s E ha W F=>by
 refine h.bind ha W F fun v s' τ av S' W' f' x' r' p=>?_
 obtain ⟨rfl,⟨r,rfl⟩,q⟩:=p
 have l1:=W.len
 have l2:=W'.len
 rw [List.length_append,List.length_append] at l2
 have e:σ++τ=(σ++τ.take (S₁.length-σ.length))++τ.drop (S₁.length-σ.length):=by rw [List.append_assoc,List.take_append_drop]
 have hl:(σ++τ.take (S₁.length-σ.length)).length=S₁.length:=by rw [List.length_append,List.length_take];lia
 rw [e] at W' r'
 refine ⟨τ.take (S₁.length-σ.length),.lst k,S₁,W'.drop hl hf,fun a ha=>f' a (List.mem_of_mem_take ha),x',?_,q⟩
 obtain ⟨a,h1,rfl⟩:=r'
 rw [List.getElem?_append_left (by exact Nat.lt_of_lt_of_eq hk (id (Eq.symm hl)))] at h1
 exact ⟨a,h1,rfl⟩
theorem pick_take (l:List AV) (m:Nat):pickL l none (some (m:Int)) none=l.take m:=by
 have e:sliceRange (sliceBounds none (some (m:Int)) none l.length).1 (sliceBounds none (some (m:Int)) none l.length).2.1 (sliceBounds none (some (m:Int)) none l.length).2.2=List.range (min m l.length):=by
  have b1:(sliceBounds none (some (m:Int)) none l.length).1=0:=by rfl
  have b2:(sliceBounds none (some (m:Int)) none l.length).2.1=((min m l.length:Nat):Int):=by
   show max (0:Int) (min (if (m:Int)<0 then (m:Int)+l.length else m) l.length)=_
   rw [if_neg (by exact Int.not_ofNat_neg m)];lia
  have b3:(sliceBounds none (some (m:Int)) none l.length).2.2=1:=by rfl
  rw [b1,b2,b3]
  have c:(if (1:Int)>0 then (if (0:Int)<((min m l.length:Nat):Int) then (((min m l.length:Nat):Int)-0+1-1)/1 else 0) else (if (0:Int)>((min m l.length:Nat):Int) then (0-((min m l.length:Nat):Int)-1-1)/(-1) else 0)).toNat=min m l.length:=by
   rw [if_pos (by decide)]
   split <;> lia
  show List.map _ (List.range (Int.toNat _))=_
  rw [c]
  conv=>rhs;rw [← List.map_id (List.range (min m l.length))]
  refine List.map_congr_left fun k _=>?_
  show (0+1*(k:Int)).toNat=k
  lia
 unfold pickL
 rw [e]
 have key:∀ (j:Nat),j≤l.length→(List.range j).filterMap (l[·]?)=l.take j:=by
  intro j
  induction j with
  | zero=>intro _;simp
  | succ j ih =>
   intro hj
   rw [List.range_succ,List.filterMap_append,ih (by exact Nat.le_of_succ_le hj),List.take_add_one]
   congr 1
 rw [key _ (Nat.min_le_right _ _)]
 rw [← List.take_eq_take_min]
noncomputable def dr1 (x:Nat):Option PI:=if surr (ends x).1=true then none else if kindN x>5 then none else if surr (ends x).2=true then none else some (ends x)
noncomputable def drawnL (xs:List Nat):List PI:=xs.filterMap dr1
noncomputable def drawnF:AV→Option AV
 | .tup l=>some (.tup l)
 | _=>none
theorem due_drawn (i x:Nat):drawnF (dueOf i x)=(dr1 x).map .pair:=by
 unfold dueOf dr1
 split
 ·rfl
 ·split
  ·rfl
  ·split <;> rfl
theorem drawn_due (xs:List Nat):(dueTo xs xs.length).filterMap drawnF=pairs (drawnL xs):=by
 unfold dueTo drawnL pairs
 rw [List.filterMap_map,List.map_filterMap]
 have e:∀ ys:List Nat,∀ f:Nat→Option AV,(List.range ys.length).filterMap (fun i=>f (ys.getD i 0))=ys.filterMap f:=by
  intro ys f
  have h:(List.range ys.length).map (fun i=>ys.getD i 0)=ys:=by
   apply List.ext_getElem
   ·simp
   ·intro i h1 h2
    simp at h1
    simp [List.getElem?_eq_getElem h1]
  conv=>rhs;rw [← h,List.filterMap_map]
  rfl
 rw [← e xs]
 have e2:(drawnF∘fun i=>dueOf i (xs.getD i 0))=fun i=>(dr1 (xs.getD i 0)).map AV.pair:=funext fun i=>due_drawn i _
 rw [e2]
theorem due_cm (xs:List Nat) (m:Nat):∀ a∈dueTo xs m,Cm a:=by
 intro a ha
 obtain ⟨i,_,rfl⟩:=List.mem_map.mp ha
 unfold dueOf
 split
 ·exact .str _
 ·split
  ·exact .str _
  ·split
   ·exact .str _
   ·exact .pair _
theorem eqLs_refl:∀ {l:List AV},(∀ a∈l,Cm a)→eqLs l l=true
 | [],_=>rfl
 | a::l,h=>by
  have h1:eqA a a=true:=by
   cases h a List.mem_cons_self with
   | int i=>rw [eqA_int,beq_self_eq_true]
   | str x=>rw [eqA_str,beq_self_eq_true]
   | pair p=>rw [eqA_pair,beq_self_eq_true]
  show (eqA a a&&eqLs l l)=true
  rw [h1,eqLs_refl fun b hb=>h b (List.mem_cons_of_mem _ hb)];rfl
theorem pairs_cm (l:List PI):∀ a∈pairs l,Cm a:=fun a ha=>by
 obtain ⟨p,_,rfl⟩:=List.mem_map.mp ha
 exact .pair p
structure GoodP (p:PI):Prop where
 nn:0≤p.1∧0≤p.2
 big:p.1≤1114111∧p.2≤1114111
 lo:okC p.1.toNat
 hi:okC p.2.toNat
noncomputable def endsR (r a k:Nat):PI :=
 let low:=lowT.getD r 0
 let h0:Int:=(low:Int)+(a:Int)-1
 let h1:Int:=if [33,45,93].any (fun j=>j==h0) then h0+1 else h0
 let lift:Int:=if (k:Int)=4 then 55232 else if (k:Int)=5 then 57279 else 0
 ((low:Int)+lift,h1+lift)
noncomputable def goodB (p:PI):Bool:=decide (0≤p.1)&&decide (0≤p.2)&&decide (p.1≤1114111)&&decide (p.2≤1114111)&&[33,45,93].all (fun c=>p.1 != c&&p.2 != c)
theorem good_of {p:PI} (h:goodB p=true):GoodP p:=by
 unfold goodB at h
 simp only [Bool.and_eq_true,decide_eq_true_eq,List.all_cons,List.all_nil,bne_iff_ne] at h
 obtain ⟨⟨⟨⟨h1,h2⟩,h3⟩,h4⟩,⟨h5,h6⟩,⟨h7,h8⟩,⟨h9,h10⟩,_⟩:=h
 refine ⟨⟨h1,h2⟩,⟨h3,h4⟩,⟨?_,?_,?_⟩,⟨?_,?_,?_⟩⟩ <;> lia
theorem endsR_good:∀ r<20,∀ a<8,∀ k<8,goodB (endsR r a k)=true:=by decide +kernel
theorem ends_good (x:Nat):GoodP (ends x):=by
 refine good_of ?_
 have e:ends x=endsR (x%20) (x/20%8) (x/160%8):=rfl
 exact endsR_good _ (Nat.mod_lt _ (by decide)) _ (Nat.mod_lt _ (by decide)) _ (Nat.mod_lt _ (by decide))
theorem drawn_good (xs:List Nat):∀ p∈drawnL xs,GoodP p:=by
 intro p hp
 obtain ⟨x,_,h⟩:=List.mem_filterMap.mp hp
 unfold dr1 at h
 split at h
 ·cases h
 ·split at h
  ·cases h
  ·split at h
   ·cases h
   ·cases h;exact ends_good x
noncomputable def ne0 (p:PI):Bool:=decide (p.1≤p.2)
theorem dr83:∃ p,dr1 83=some p∧ne0 p=true:=⟨ends 83,by decide +kernel,by decide +kernel⟩
noncomputable def xsOf (ys:List Int):List Nat:=[83,4,49,31,663,679,994]++(ys.take 7).map fun y=>(y.fmod 1000000).toNat
noncomputable def modF:AV→Option AV
 | .sc (.int y)=>some (.int (y.fmod 1000000))
 | _=>none
theorem fmod_ok (y:Int):0≤y.fmod 1000000∧y.fmod 1000000<1000000:=by
 rw [Int.fmod_eq_emod_of_nonneg _ (by decide)]
 exact ⟨Int.emod_nonneg _ (by decide),Int.emod_lt_of_pos _ (by decide)⟩
theorem mod_map (l:List Int):(l.map AV.int).filterMap modF=nums (l.map fun y=>(y.fmod 1000000).toNat):=by
 induction l with
 | nil=>rfl
 | cons y l ih =>
  rw [List.map_cons,List.filterMap_cons_some (f:=modF) (b:=AV.int (y.fmod 1000000)) rfl,ih,List.map_cons]
  have:=fmod_ok y
  show AV.int (y.fmod 1000000)::_=AV.int (((y.fmod 1000000).toNat:Nat):Int)::_
  rw [Int.toNat_of_nonneg this.1];rfl
noncomputable def seven:List AV:=[.int 83,.int 4,.int 49,.int 31,.int 663,.int 679,.int 994]
theorem nums_xs (ys:List Int):seven++nums ((ys.take 7).map fun y=>(y.fmod 1000000).toNat)=nums (xsOf ys):=by
 unfold xsOf nums
 rw [List.map_append];rfl
theorem xsOf_len (ys:List Int):(xsOf ys).length≤14:=by
 unfold xsOf
 simp;lia
theorem xsOf_lt (ys:List Int):∀ x∈xsOf ys,x<1000000:=by
 intro x hx
 rcases List.mem_append.mp hx with h | h
 ·simp at h;lia
 ·obtain ⟨y,_,rfl⟩:=List.mem_map.mp h
  have:=fmod_ok y
  lia
noncomputable abbrev lawEnv (L:Addr):Env:=callEnv (fdOf 32 (Str.ofString "law") 196 (.str (Str.ofString "law_in0058_01") 670)) L 197
noncomputable abbrev locL (k a b c d e f:AV):Loc:=[("script",k),("numbers",a),("told",b),("drawn",c),("ranges",d),("joined",e),("star",f)]
noncomputable def lawB:List Stmt:=fnB 32
noncomputable def lawB2:List Stmt:=match lawB with | _::r=>r | _=>[]
theorem ints_flat (l:List Int):∀ av∈l.map AV.int,flatA av:=fun av h=>by obtain ⟨i,_,rfl⟩:=List.mem_map.mp h;exact trivial
theorem nums_flat (l:List Nat):∀ av∈nums l,flatA av:=fun av h=>by obtain ⟨i,_,rfl⟩:=List.mem_map.mp h;exact trivial
theorem seven_flat:∀ av∈seven,flatA av:=fun av h=>by
 unfold seven at h
 simp only [List.mem_cons,List.not_mem_nil,or_false] at h
 rcases h with rfl | rfl | rfl | rfl | rfl | rfl | rfl <;> exact trivial
theorem FlatS.snoc {S:Store} (h:FlatS S) {l:List AV} (hl:∀ av∈l,flatA av):FlatS (S++[l]):=fun m hm=>by
 rcases List.mem_append.mp hm with hm | hm
 ·exact h m hm
 ·rw [List.mem_singleton] at hm;subst hm;exact hl
theorem at_end {S:Store} (v:List AV):(S++[v])[S.length]?=some v:=by rw [List.getElem?_append_right (Nat.le_refl _),Nat.sub_self];rfl
theorem EvA.sliceV {value:Expr} {a:Addr} {ob:Obj} {us:Array Value} {nn:Nat} {li:List AV} (hB:B.heap.get? a=some ob) (hc:ob.cls=.type "list") (hd:ob.data=.seq us nn) (h5:a≠50) (h13:a≠130) (hf:∀ av∈li,flatA av) (hr0:∀ σ h,All2 (RV σ h) li us.toList) {lower upper:Option Expr} {p pos:Pos}
  (h:EvA w B n env value loc S fun v S₁=>EvP w B n env lower loc S₁ fun lo S₂=>EvP w B n env upper loc S₂ fun u S₃ =>
   v=.val (.ref a)∧li.length≤fewItems∧Q (.lst S₃.length) (S₃++[pickL li lo u none])) :
  EvA w B n env (.Subscript value (.Slice lower upper none p) pos) loc S Q:=.mk fun A σ s E ha W F=>by
 refine sub_slice (h.bind ha W F fun o s₁ τ av S₁ W₁ f₁ x₁ r₁ h₁=>?_)
 have F₁:=F.mono W τ x₁
 refine wpAny_mono (h₁.run ha W₁ F₁) (fun vl s₂ p=>?_) fun _ _ e=>e
 refine let ZZ:Prop:=_;(?_:ZZ)
 obtain ⟨l,τ₂,S₂,rfl,W₂,f₂,x₂,h₂⟩:=p
 have F₂:=F₁.mono W₁ τ₂ x₂
 refine wpAny_mono (h₂.run ha W₂ F₂) (fun vu s₃ p=>?_) fun _ _ e=>e
 refine let ZZ:Prop:=_;(?_:ZZ)
 obtain ⟨u,τ₃,S₃,rfl,W₃,f₃,x₃,rfl,hl,q⟩:=p
 obtain rfl:o=.ref a:=r₁
 have pl:s₃.heap.IsList a us:=⟨_,W₃.kept a ob hB h5 h13,hc,nn,hd⟩
 have hr:=hr0 (σ++τ++τ₂++τ₃) s₃.heap
 have hz:us.size=li.length:=by rw [hr.length];simp
 refine ⟨⟨"list",_,list_getitem_lookup,pl.typeIs⟩,?_⟩
 have W₅:=W₃.push { cls:=.type "slice",data:=.fields #[partValue l,partValue u,Value.none] } (s':={ s₃ with heap:=s₃.heap.push { cls:=.type "slice",data:=.fields #[partValue l,partValue u,Value.none] } })
 have x₅:Ext (σ++τ++τ₂++τ₃) s₃.heap (s₃.heap.push { cls:=.type "slice",data:=.fields #[partValue l,partValue u,Value.none] }):=Ext.push _ _
 refine wpAny_getItem_list_slice (pl.push _) (Heap.IsSliceOf.new ..) (isPart_of l) (isPart_of u) (.none) nofun ?_ (by rw [hz];exact Nat.le_trans hl few_line)
 generalize hH:s₃.heap.push { cls:=.type "slice",data:=.fields #[partValue l,partValue u,Value.none] }=H at W₅ x₅ ⊢
 have hn:H.get? H.objs.size=none:=Heap.get?_none_of_le (Nat.le_refl _)
 have hr₅:All2 (RV (σ++τ++τ₂++τ₃) H) (pickL li (l.map (·.1)) (u.map (·.1)) none) (slicePick us (l.map (·.1)) (u.map (·.1)) none).toList:=by
  have e:(slicePick us (l.map (·.1)) (u.map (·.1)) none).toList=(sliceRange (sliceBounds (l.map (·.1)) (u.map (·.1)) none li.length).1 (sliceBounds (l.map (·.1)) (u.map (·.1)) none li.length).2.1 (sliceBounds (l.map (·.1)) (u.map (·.1)) none li.length).2.2).filterMap (us.toList[·]?):=by
   simp [slicePick,hz]
  rw [e]
  exact (All2.mono (fun _ _ r=>RV.mono0 W₃ x₅ r) hr).places _
 have W₆:Wd B (σ++τ++τ₂++τ₃++[H.objs.size]) (S₃++[pickL li (l.map (·.1)) (u.map (·.1)) none]) { s₃ with heap:=H.push { cls:=.type "list",data:=.seq (slicePick us (l.map (·.1)) (u.map (·.1)) none) } }:=W₅.newList rfl hr₅
 have fH:s₃.heap.get? H.objs.size=none:=Ext.new W₃ (τ:=[]) (by rw [List.append_nil];exact W₅) x₅ hn
 have p:Pst B (σ++τ++τ₂++τ₃) s₃ Q (.ref H.objs.size) { s₃ with heap:=H.push { cls:=.type "list",data:=.seq (slicePick us (l.map (·.1)) (u.map (·.1)) none) } } :=
  ⟨[H.objs.size],.lst S₃.length,_,W₆,by simpa using fH,x₅.then fun b o e _ _ _ _=>Heap.get?_push_of_some _ e,⟨_,by rw [← W₃.len];simp,rfl⟩,q⟩
 exact ((p.back W₂ W₃ x₃ f₃).back W₁ W₂ x₂ f₂).back W W₁ x₁ f₁
theorem law1_w {L:Addr} (H:St w (B.into (lawEnv L))) {ys:List Int} {a:Addr} {ob:Obj} {us:Array Value} {nn:Nat} {S:Store} (hS:FlatS S) (hB:B.heap.get? a=some ob) (hc:ob.cls=.type "list") (hdt:ob.data=.seq us nn) (h5:a≠50) (h13:a≠130) (hr0:∀ σ h,All2 (RV σ h) (ys.map .int) us.toList) (hl:ys.length≤63)
  (q:∀ S':Store,FlatS S'→S'[S'.length-1]?=some (nums (xsOf ys))→0<S'.length→S.length≤S'.length→ExA w (B.into (lawEnv L)) n (lawEnv L) lawB2 (locL (.val (.ref a)) (.lst (S'.length-1)) .unb .unb .unb .unb .unb) S' K) :
  ExA w (B.into (lawEnv L)) n (lawEnv L) lawB (locL (.val (.ref a)) .unb .unb .unb .unb .unb .unb) S K:=by
 have few1:1000≤fewItems:=by decide
 show ExA _ _ _ _ (_::lawB2) _ _ _
 refine ExA.assign (by walk_at "u") (EvA.bin (EvA.list ?_))
 walk_at "s"
 refine ⟨by show 7≤fewItems;decide,?_⟩
 have hS1:FlatS (S++[seven]):=hS.snoc seven_flat
 have hS2:FlatS (S++[seven]++[(ys.take 7).map AV.int]):=hS1.snoc (ints_flat _)
 have hS3:FlatS (S++[seven]++[(ys.take 7).map AV.int]++[nums ((ys.take 7).map fun y=>(y.fmod 1000000).toNat)]):=hS2.snoc (nums_flat _)
 have e1:(S++[seven]).length=S.length+1:=by simp
 have e2:(S++[seven]++[(ys.take 7).map AV.int]).length=S.length+2:=by simp
 have e3:(S++[seven]++[(ys.take 7).map AV.int]++[nums ((ys.take 7).map fun y=>(y.fmod 1000000).toNat)]).length=S.length+3:=by simp
 refine EvT.drop (k:=S.length+2) hS3 (by rw [e3];lia) (by rw [e3];simp) (EvA.comp [("y",.unb)] (fun lc=>∃ a:AV,lc=([("y",a)]:Loc)) ((ys.take 7).map .int) modF (S.length+1) (S++[seven]++[(ys.take 7).map AV.int]) (by rfl) (fun _=>rfl) (fun _=>rfl) rfl (by decide +kernel)
  (fun x av h=>by simp at h;exact h.2) (by decide +kernel) ⟨_,rfl⟩ (by rw [List.length_map,List.length_take];lia) (by rw [← e1];exact at_end _) ?_ ?_ ?_)
 ·refine EvA.sliceV (B:=B.into (lawEnv L)) hB hc hdt h5 h13 (ints_flat ys) hr0 ?_
  walk_at "s"
  refine EvP.no (EvP.yes ?_)
  walk_at "s"
  refine ⟨_,rfl,rfl,by rw [List.length_map];lia,?_⟩
  have:=pick_take (ys.map AV.int) 7
  rw [← List.map_take] at this
  show AV.lst (S++[seven]).length=_∧(S++[seven])++[pickL (ys.map AV.int) none (some ((7:Nat):Int)) none]=_
  rw [this,e1]
  exact ⟨rfl,rfl⟩
 ·rintro C acc r lc av hC ⟨b,rfl⟩ hav
  obtain ⟨y,hy,rfl⟩:=List.mem_map.mp hav
  refine StT.name (by walk_at "u") (by kernel_rfl) ⟨⟨_,rfl⟩,rfl,TsT.ifs0 ⟨r,rfl,?_⟩⟩
  refine ifP rfl ?_
  walk_at "s"
  exact OpT.modI (by decide) ⟨r,rfl,rfl⟩
 ·intro r
  rw [mod_map]
  refine ⟨by rw [e2],⟨r,by simp⟩,?_⟩
  refine OpT.addL (i:=S.length) (j:=S.length+2) (l:=seven) (m:=nums ((ys.take 7).map fun y=>(y.fmod 1000000).toNat)) ?_ (by rw [← e2];exact at_end _) ?_ ?_
  ·rw [List.append_assoc,List.append_assoc,List.getElem?_append_right (Nat.le_refl _),Nat.sub_self];rfl
  ·rw [nums_len,List.length_map,List.length_take];show 7+_≤_;lia
  ·rw [nums_xs]
   have e4:(S++[seven]++[(ys.take 7).map AV.int]++[nums ((ys.take 7).map fun y=>(y.fmod 1000000).toNat)]++[nums (xsOf ys)]).length-1=S.length+3:=by simp
   have:=q (S++[seven]++[(ys.take 7).map AV.int]++[nums ((ys.take 7).map fun y=>(y.fmod 1000000).toNat)]++[nums (xsOf ys)]) (hS3.snoc (nums_flat _)) (by rw [e4,← e3];exact at_end _) (by simp) (by simp)
   rw [e4] at this
   rw [e3]
   exact this
noncomputable def lawB3:List Stmt:=match lawB with | _::_::_::_::_::_::_::r=>r | _=>[]
noncomputable def rangesL (ys:List Int):List PI:=(drawnL (xsOf ys)).filter ne0
theorem get_app {S:Store} {j:Nat} {l:List AV} (h:S[j]?=some l) (r:Store):(S++r)[j]?=some l:=by rw [List.getElem?_append_left (List.getElem?_eq_some_iff.mp h).1];exact h
theorem drawn_len (ys:List Int):(drawnL (xsOf ys)).length≤14:=Nat.le_trans (List.length_filterMap_le _ _) (xsOf_len ys)
theorem ranges_len (ys:List Int):(rangesL ys).length≤14:=Nat.le_trans (List.length_filter_le _ _) (drawn_len ys)
theorem ranges_ne (ys:List Int):∀ p∈rangesL ys,p.1≤p.2:=fun p hp=>by
 have:=(List.mem_filter.mp hp).2
 unfold ne0 at this;rwa [decide_eq_true_eq] at this
theorem due_cd (xs:List Nat) (m:Nat):∀ a∈dueTo xs m,(∃ x,a=.str x)∨∃ p,a=.pair p:=by
 intro a ha
 obtain ⟨i,_,rfl⟩:=List.mem_map.mp ha
 unfold dueOf
 split
 ·exact .inl ⟨_,rfl⟩
 ·split
  ·exact .inl ⟨_,rfl⟩
  ·split
   ·exact .inl ⟨_,rfl⟩
   ·exact .inr ⟨_,rfl⟩
theorem law2_w {L:Addr} (H:St w (B.into (lawEnv L))) {ys:List Int} {k:AV} {kn:Nat} {S:Store} (hS:FlatS S) (hk:S[kn]?=some (nums (xsOf ys)))
  (q:∀ (S':Store) (jd jr jj:Nat) (b:AV),S'[jd]?=some (pairs (drawnL (xsOf ys)))→S'[jr]?=some (pairs (rangesL ys))→S'[jj]?=some (pairs (joinL (rangesL ys)))→ExA w (B.into (lawEnv L)) (n+7) (lawEnv L) lawB3 (locL k (.lst kn) b (.lst jd) (.lst jr) (.lst jj) .unb) S' K) :
  ExA w (B.into (lawEnv L)) (n+7) (lawEnv L) lawB2 (locL k (.lst kn) .unb .unb .unb .unb .unb) S K:=by
 have few1:1000≤fewItems:=by decide
 have hxl:=xsOf_len ys
 have hxt:=xsOf_lt ys
 obtain ⟨D,hD⟩:∃ D,D=dueTo (xsOf ys) (xsOf ys).length:=⟨_,rfl⟩
 have hDl:D.length≤14:=by rw [hD];unfold dueTo;rw [List.length_map,List.length_range];exact hxl
 have hcm:∀ a∈D,Cm a:=by rw [hD];exact due_cm _ _
 have hcd:∀ a∈D,(∃ x,a=.str x)∨∃ p,a=.pair p:=by rw [hD];exact due_cd _ _
 show ExA _ _ _ _ (_::_::_::_::_::_::lawB3) _ _ _
 refine ExA.assign (by walk_at "u") (EvA.callD H (g_law_told _) (f_law_told _) (by kernel_rfl) ?_)
 refine ArT.cons (EvA.callD H (g_law_lines _) (f_law_lines _) (by kernel_rfl) ?_)
 walk_at "s"
 refine lines_w (n:=n+5) H hk (by lia) hxt ?_
 walk_at "s"
 refine told_due (n:=n) H (flat_plain hS) (by lia) ?_
 refine ExA.ite (TsA.cmp ?_)
 walk_at "s"
 refine EvA.callD H (g_law_due _) (f_law_due _) (by kernel_rfl) ?_
 walk_at "s"
 refine due_w (n:=n+5) H (get_app hk _) (by lia) hxt ?_
 rw [← hD]
 refine OpT.neL (get_app (at_end D) _) (at_end D) hcm hcm (TrT.bool ?_)
 refine ifN (by rw [eqLs_refl hcm];decide) ?_
 refine ExA.nil ?_
 refine ExA.assignCompX none [] [("one",.unb)] (fun lc=>∃ a:AV,lc=([("one",a)]:Loc)) D drawnF S.length (S++[D]++[D])
  (by walk_at "u") rfl (fun y c h=>by cases h) (fun k=>rfl) (fun h=>rfl) rfl (by decide +kernel) (fun x av h=>.inl (by simp at h;exact h.2)) (by decide +kernel) ⟨_,rfl⟩ (by lia) (get_app (at_end D) _) ?_ ?_ ?_
 ·walk_at "s"
  exact ⟨rfl,rfl⟩
 ·rintro C acc r lc a hC hC1 hne ⟨b,rfl⟩ ha
  rcases hcd a ha with ⟨x,rfl⟩ | ⟨p,rfl⟩
  ·refine AsT.of (StT.name (by walk_at "u") (by kernel_rfl) ⟨⟨_,rfl⟩,rfl,TsT.ifs1 (TsA.not (TsA.val (EvA.callB H (n_isinstance _) (b_isinstance _) (by kernel_rfl) ?_)))⟩)
   walk_at "s"
   refine EvA.blt H (n_str _) (b_str _) (by kernel_rfl) ?_
   walk_at "s"
   refine OpT.isStr (b:=true) (.inl ⟨rfl,x,rfl⟩) (TrT.bool ⟨r,rfl,?_⟩)
   refine ifN (by decide) ?_
   rfl
  ·refine AsT.of (StT.name (by walk_at "u") (by kernel_rfl) ⟨⟨_,rfl⟩,rfl,TsT.ifs1 (TsA.not (TsA.val (EvA.callB H (n_isinstance _) (b_isinstance _) (by kernel_rfl) ?_)))⟩)
   walk_at "s"
   refine EvA.blt H (n_str _) (b_str _) (by kernel_rfl) ?_
   walk_at "s"
   refine OpT.isStr (b:=false) (.inr ⟨rfl,_,rfl⟩) (TrT.bool ⟨r,rfl,?_⟩)
   refine ifP (by decide) ?_
   walk_at "s"
   exact ⟨r,rfl,rfl⟩
 intro r
 rw [hD,drawn_due]
 obtain ⟨S₃,hS₃⟩:∃ S₃,S₃=S++[dueTo (xsOf ys) (xsOf ys).length]++[dueTo (xsOf ys) (xsOf ys).length]++pairs (drawnL (xsOf ys))::r:=⟨_,rfl⟩
 have hd:S₃[(S++[dueTo (xsOf ys) (xsOf ys).length]++[dueTo (xsOf ys) (xsOf ys).length]).length]?=some (pairs (drawnL (xsOf ys))):=by rw [hS₃,List.getElem?_append_right (Nat.le_refl _),Nat.sub_self];rfl
 rw [← hS₃]
 generalize (S++[dueTo (xsOf ys) (xsOf ys).length]++[dueTo (xsOf ys) (xsOf ys).length]).length=jd at hd ⊢
 have hdl:=drawn_len ys
 have hrl:=ranges_len ys
 refine ExA.assignCompX none [] [("pair",.unb)] (fun lc=>∃ a:AV,lc=([("pair",a)]:Loc)) (pairs (drawnL (xsOf ys))) (onePF ne0) jd S₃
  (by walk_at "u") rfl (fun y c h=>by cases h) (fun k=>rfl) (fun h=>rfl) rfl (by decide +kernel) (fun x av h=>.inl (by simp at h;exact h.2)) (by decide +kernel) ⟨_,rfl⟩ (by rw [pairs_len];lia) hd ?_ ?_ ?_
 ·walk_at "s"
  exact ⟨rfl,rfl⟩
 ·rintro C acc r lc a hC hC1 hne ⟨b,rfl⟩ ha
  obtain ⟨p,hp,rfl⟩:=List.mem_map.mp ha
  refine AsT.of (StT.name (by walk_at "u") (by kernel_rfl) ⟨⟨_,rfl⟩,rfl,TsT.ifs1 (TsA.cmp (EvA.subT ?_))⟩)
  walk_at "s"
  refine ⟨⟨_,rfl⟩,OpT.getT (by exact Int.zero_le_ofNat 0) (c:=.int p.1) rfl (by show 2≤fewItems;decide) ?_⟩
  refine EvA.subT ?_
  walk_at "s"
  refine ⟨⟨_,rfl⟩,OpT.getT (by exact Int.one_nonneg) (c:=.int p.2) rfl (by show 2≤fewItems;decide) ?_⟩
  walk_at "s"
  refine ⟨r,rfl,?_⟩
  by_cases hc:p.1≤p.2
  ·refine ifP (by simpa using hc) ?_
   walk_at "s"
   refine ⟨r,rfl,?_⟩
   show (if ne0 (p.1,p.2)=true then _ else _)=_
   rw [if_pos (by unfold ne0;simpa using hc)]
  ·refine ifN (by simpa using hc) ?_
   show (if ne0 (p.1,p.2)=true then _ else _)=_
   rw [if_neg (by unfold ne0;simpa using hc)]
 intro r
 rw [one_map]
 obtain ⟨S₄,hS₄⟩:∃ S₄,S₄=S₃++pairs ((drawnL (xsOf ys)).filter ne0)::r:=⟨_,rfl⟩
 have hr:S₄[S₃.length]?=some (pairs (rangesL ys)):=by rw [hS₄,List.getElem?_append_right (Nat.le_refl _),Nat.sub_self];rfl
 have hd4:S₄[jd]?=some (pairs (drawnL (xsOf ys))):=by rw [hS₄];exact get_app hd _
 rw [← hS₄]
 generalize S₃.length=jr at hr ⊢
 refine ExA.assign (by walk_at "u") (EvA.callD H (g_law_joined _) (f_law_joined _) (by kernel_rfl) ?_)
 walk_at "s"
 refine joined_w (n:=n+3) H hr (by lia) fun jj r5 hj=>?_
 refine ExA.ite (TsA.cmp ?_)
 walk_at "s"
 refine EvA.callD H (g_law_fewest _) (f_law_fewest _) (by kernel_rfl) ?_
 walk_at "s"
 refine fewest_w (n:=n+6) H (get_app hr _) (by lia) (fewest_len (ranges_ne ys)) fun j6 r6 n1 n2 p1 s1 p2 s2 hj6=>?_
 rw [fewest_eq (ranges_ne ys) p1 s1 p2 s2] at hj6
 refine OpT.neL (get_app hj _) hj6 (pairs_cm _) (pairs_cm _) (TrT.bool ?_)
 refine ifN (by rw [eqLs_refl (pairs_cm _)];decide) ?_
 refine ExA.nil ?_
 exact q _ jd jr jj _ (get_app (get_app hd4 _) _) (get_app (get_app hr _) _) (get_app hj _)
noncomputable def toN (p:PI):Nat×Nat:=(p.1.toNat,p.2.toNat)
theorem pieceS_list (p:PI):(pieceS p).cps.toList=[p.1.toNat,45,p.2.toNat]:=by
 unfold pieceS
 rw [app_list,app_list]
 have:dash.cps.toList=[45]:=by decide +kernel
 rw [this];rfl
theorem brS_list (l:List PI):(brS l).cps.toList=bodyC (l.map toN)++[93]:=by
 unfold brS joinS
 rw [app_list,glued_list]
 have:("]":Str).cps.toList=[93]:=by decide +kernel
 congr 1
 induction l with
 | nil=>rfl
 | cons p l ih =>
  rw [List.map_cons,List.flatMap_cons,ih,pieceS_list]
  rfl
theorem filter_back {l:List PI} (h:∀ p∈l,GoodP p):((l.map toN).filter fun p=>decide (p.1≤p.2)).map (fun p=>((p.1:Int),(p.2:Int)))=l.filter ne0:=by
 induction l with
 | nil=>rfl
 | cons p l ih =>
  have hp:=(h p List.mem_cons_self).nn
  have ih:=ih fun q hq=>h q (List.mem_cons_of_mem _ hq)
  rw [List.map_cons,List.filter_cons,List.filter_cons]
  have e:decide ((toN p).1≤(toN p).2)=ne0 p:=by
   unfold ne0 toN;rw [decide_eq_decide];dsimp only;lia
  rw [e]
  split
  ·rw [List.map_cons,ih]
   congr 1
   unfold toN
   dsimp only
   rw [Int.toNat_of_nonneg hp.1,Int.toNat_of_nonneg hp.2]
  ·exact ih
noncomputable def headL (bar:Bool):List Nat:=91::(if bar then [94] else [])
theorem EvA.check {L:Addr} (H:St w (B.into (lawEnv L))) {loc:Loc} {S:Store} {bar:Bool} {pre head xn:Str} {k1 k2 k3:Nat} {p1 p2 p3 p4 p5 p6 p7 p8 p9 p10 p11 p12:Pos} {l:List PI} {jx js:Nat}
  (hx:(xn,AV.lst jx)∈loc) (hstar:(Str.ofString "star",AV.lst js)∈loc) (hjx:S[jx]?=some (pairs l)) (hl:l.length≤30) (hg:∀ p∈l,GoodP p) (hne:∃ p∈l,p.1≤p.2)
  (hpre:pre.cps.toList=91::preC bar) (hhead:head.cps.toList=headL bar) (hdx:(xn==("__debug__":Str))=false)
  (q:∀ j r,(S++r)[j]?=some (pairs (l.filter ne0))→Q (.lst j) (S++r)) :
  EvA w (B.into (lawEnv L)) (n+7) (lawEnv L) (.Call (.Name (Str.ofString "_law_set") p1) [.Call (.Name (Str.ofString "_translate") p2) [.BinOp (.Constant (.str pre) k1 p3) .Add (.Call (.Name (Str.ofString "_law_bracket") p4) [.Name xn p5] [] p6) p7,.Name (Str.ofString "star") p8,.Constant (.str (Str.ofString "any")) k2 p9] [] p10,.Constant (.str head) k3 p11] [] p12) loc S Q:=by
 have hprel:pre.length≤2:=by rw [len_list,hpre];have:=preC_len bar;simp;exact preC_len bar
 have hbl:(brS l).length≤100:=by
  rw [len_list,brS_list,List.length_append,bodyC_len,List.length_map];simp;lia
 have hP:Pat (pre++brS l) bar (l.map toN):=by
  refine ⟨?_,fun p hp=>?_,?_,by rw [List.length_map];exact hl⟩
  ·rw [app_list,hpre,brS_list];simp
  ·obtain ⟨p',hp',rfl⟩:=List.mem_map.mp hp
   exact ⟨(hg p' hp').lo,(hg p' hp').hi⟩
  ·obtain ⟨p,hp,_⟩:=hne
   rw [List.length_map]
   exact List.length_pos_of_mem hp
 have hne':∃ p∈l.map toN,p.1≤p.2:=by
  obtain ⟨p,hp,h⟩:=hne
  refine ⟨toN p,List.mem_map_of_mem hp,?_⟩
  have:=(hg p hp).nn
  unfold toN;dsimp only;exact Int.toNat_le_toNat h
 refine EvA.callD H (g_law_set _) (f_law_set _) (by kernel_rfl) (ArT.cons ?_)
 refine EvA.callD H (g_translate _) (f_translate _) (by kernel_rfl) (ArT.cons ?_)
 refine EvA.bin (EvA.str ?_)
 refine EvA.callD H (g_law_bracket _) (f_law_bracket _) (by kernel_rfl) (ArT.cons (EvA.name hx ?_ nofun hdx))
 walk_at "s"
 refine bracket_w (n:=n+6) H hjx (by lia) (fun p hp=>⟨(hg p hp).nn.1,(hg p hp).big.1,(hg p hp).nn.2,(hg p hp).big.2⟩) fun r=>?_
 refine OpT.addS (Nat.le_trans (show pre.length+(brS l).length≤1000 by lia) (by decide)) ?_
 refine ArT.cons (EvA.name hstar ?_ nofun (by decide +kernel))
 walk_at "s"
 refine translate_w (n:=n+3) H hP hne' fun y r2 hy=>?_
 walk_at "s"
 have hF:∀ p∈(l.map toN).filter fun p=>decide (p.1≤p.2),p.1≠45∧p.2≠45:=fun p hp=>by
  have h1:=(hP.ok p (List.mem_filter.mp hp).1)
  exact ⟨h1.1.2.1,h1.2.2.1⟩
 refine set_w (n:=n+6) (l:=outT bar ((l.map toN).filter fun p=>decide (p.1≤p.2))) H (x:=y) ?_ ?_ (outT_ok _ _) ?_ ?_ fun j r3 hj=>?_
 ·rw [List.append_assoc,List.append_assoc,List.getElem?_append_right (by simp),List.getElem?_append_right (by simp)]
  simp
 ·rw [hy,hhead];unfold headL;simp
 ·rw [outT_len]
  have h1:=List.length_filter_le (fun p:Nat×Nat=>decide (p.1≤p.2)) (l.map toN)
  rw [List.length_map] at h1
  lia
 ·rw [len_list,hhead];unfold headL;cases bar <;> simp
 ·rw [outT_val _ _ hF,filter_back hg] at hj
  simp only [List.append_assoc] at hj ⊢
  exact q j _ hj
theorem drawn_some (ys:List Int):∃ p∈drawnL (xsOf ys),p.1≤p.2:=by
 obtain ⟨p,h1,h2⟩:=dr83
 refine ⟨p,List.mem_filterMap.mpr ⟨83,?_,h1⟩,by unfold ne0 at h2;rwa [decide_eq_true_eq] at h2⟩
 unfold xsOf
 exact List.mem_append_left _ List.mem_cons_self
theorem ranges_some (ys:List Int):rangesL ys≠[]:=by
 obtain ⟨p,h1,h2⟩:=drawn_some ys
 have:p∈rangesL ys:=List.mem_filter.mpr ⟨h1,by unfold ne0;rwa [decide_eq_true_eq]⟩
 intro e;rw [e] at this;cases this
theorem ranges_good (ys:List Int):∀ p∈rangesL ys,GoodP p:=fun p hp=>drawn_good _ p (List.mem_filter.mp hp).1
theorem joined_good (ys:List Int):∀ p∈joinL (rangesL ys),GoodP p:=fun p hp=>by
 obtain ⟨⟨a,ha,e1⟩,⟨b,hb,e2⟩,_⟩:=joined_mem (ranges_ne ys) p hp
 have g1:=ranges_good ys a ha
 have g2:=ranges_good ys b hb
 exact ⟨⟨e1▸g1.nn.1,e2▸g2.nn.2⟩,⟨e1▸g1.big.1,e2▸g2.big.2⟩,e1▸g1.lo,e2▸g2.hi⟩
theorem joined_some (ys:List Int):∃ p∈joinL (rangesL ys),p.1≤p.2:=by
 have h:=joined_ne (ranges_ne ys) (ranges_some ys)
 obtain ⟨p,hp⟩:=List.exists_mem_of_ne_nil _ h
 exact ⟨p,hp,(joined_mem (ranges_ne ys) p hp).2.2⟩
theorem joined_filter (ys:List Int):(joinL (rangesL ys)).filter ne0=joinL (rangesL ys):=by
 rw [List.filter_eq_self]
 intro p hp
 unfold ne0
 rw [decide_eq_true_eq]
 exact (joined_mem (ranges_ne ys) p hp).2.2
theorem law3_w {L:Addr} (H:St w (B.into (lawEnv L))) {ys:List Int} {jd jr jj:Nat} {k a b:AV} {S:Store} (hd:S[jd]?=some (pairs (drawnL (xsOf ys)))) (hr:S[jr]?=some (pairs (rangesL ys))) (hj:S[jj]?=some (pairs (joinL (rangesL ys))))
  (q:∀ loc' r,K (.ret (.bool true)) loc' (S++r)) :
  ExA w (B.into (lawEnv L)) (n+7) (lawEnv L) lawB3 (locL k a b (.lst jd) (.lst jr) (.lst jj) .unb) S K:=by
 have hdl:=drawn_len ys
 have hrl:=ranges_len ys
 have hjl:=joined_len (ranges_ne ys)
 have b1:(Str.ofString "[").cps.toList=91::preC false:=by decide +kernel
 have b2:(Str.ofString "[!").cps.toList=91::preC true:=by decide +kernel
 have h1:(Str.ofString "[").cps.toList=headL false:=by decide +kernel
 have h2:(Str.ofString "[^").cps.toList=headL true:=by decide +kernel
 refine ExA.assign (by walk_at "u") (EvA.list ?_)
 walk_at "s"
 refine ⟨by show 1≤fewItems;decide,?_⟩
 refine ExA.ite (TsA.cmp (EvA.check H (bar:=false) (l:=drawnL (xsOf ys)) (js:=S.length) (by walk_at "e") (by walk_at "e") (get_app hd _) (by lia) (drawn_good _) (drawn_some ys) b1 h1 (by decide +kernel) fun j r hs=>?_))
 walk_at "s"
 refine OpT.neL hs (get_app (get_app hr _) _) (pairs_cm _) (pairs_cm _) (TrT.bool ?_)
 refine ifN (by rw [show (drawnL (xsOf ys)).filter ne0=rangesL ys from rfl,eqLs_refl (pairs_cm _)];decide) ?_
 refine ExA.nil ?_
 refine ExA.ite (TsA.cmp (EvA.check H (bar:=true) (l:=drawnL (xsOf ys)) (js:=S.length) (by walk_at "e") (by walk_at "e") (get_app (get_app hd _) _) (by lia) (drawn_good _) (drawn_some ys) b2 h2 (by decide +kernel) fun j r2 hs=>?_))
 walk_at "s"
 refine OpT.neL hs (get_app (get_app (get_app hr _) _) _) (pairs_cm _) (pairs_cm _) (TrT.bool ?_)
 refine ifN (by rw [show (drawnL (xsOf ys)).filter ne0=rangesL ys from rfl,eqLs_refl (pairs_cm _)];decide) ?_
 refine ExA.nil ?_
 refine ExA.ret (EvA.cmp (EvA.check H (bar:=false) (l:=joinL (rangesL ys)) (js:=S.length) (by walk_at "e") (by walk_at "e") (get_app (get_app (get_app hj _) _) _) (by lia) (joined_good ys) (joined_some ys) b1 h1 (by decide +kernel) fun j r3 hs=>?_))
 walk_at "s"
 refine OpT.eqL hs (get_app (get_app (get_app (get_app hj _) _) _) _) (pairs_cm _) (pairs_cm _) ?_
 rw [joined_filter,eqLs_refl (pairs_cm _)]
 simp only [List.append_assoc]
 exact q _ _
theorem law_w (H:St w B) {ys:List Int} {a:Addr} {ob:Obj} {us:Array Value} {nn:Nat} (hS:FlatS S) (hB:B.heap.get? a=some ob) (hc:ob.cls=.type "list") (hdt:ob.data=.seq us nn) (h5:a≠50) (h13:a≠130) (hr0:∀ σ h,All2 (RV σ h) (ys.map .int) us.toList) (hl:ys.length≤63) (q:∀ S',Q (.bool true) S'):OpT w B (n+8) (callD 197) [.val (.ref a)] S Q:=by
 refine OpT.def H (ps:=["script"]) ["numbers","told","drawn","ranges","joined","star"] [("script",.val (.ref a)),("numbers",.unb),("told",.unb),("drawn",.unb),("ranges",.unb),("joined",.unb),("star",.unb)] (f_law _) (c_law _) rfl (all1 fun _=>by kernel_rfl) (by decide +kernel) (by decide +kernel) (by decide +kernel) (fun L hL H=>?_)
 refine law1_w H hS hB hc hdt h5 h13 hr0 hl fun S' hS' hk' h0 _=>?_
 refine law2_w H hS' hk' fun S₂ jd jr jj b hd hr hj=>?_
 exact law3_w H hd hr hj fun loc' r=>q _
theorem tab50 (P:Params):Tab1 (Hp1 P) 54 50 qs50 :=
 ⟨#[],⟨_,_,Str.ofString "/claim/cut.py",494,3,0,true,276,0,_,show (Hp1 P).get? 54=some (ob10_54 P) by kernel_rfl,rfl,rfl,rfl,rfl,rfl,rfl,show (Hp1 P).get? 50=some (ob10_50 P) by kernel_rfl,rfl,trivial,by decide⟩,
  ⟨⟨_,_,show (Hp1 P).get? 54=some (ob10_54 P) by kernel_rfl,rfl,rfl,rfl⟩,show (Hp1 P).get? 50=some (ob10_50 P) by kernel_rfl⟩,fun q _=>.inl rfl⟩
theorem tab130 (P:Params):Tab1 (Hp1 P) 134 130 qs130 :=
 ⟨#[],⟨_,_,Str.ofString "/claim/cut.py",661,3,0,true,276,0,_,show (Hp1 P).get? 134=some (ob22_134 P) by kernel_rfl,rfl,rfl,rfl,rfl,rfl,rfl,show (Hp1 P).get? 130=some (ob22_130 P) by kernel_rfl,rfl,trivial,by decide⟩,
  ⟨⟨_,_,show (Hp1 P).get? 134=some (ob22_134 P) by kernel_rfl,rfl,rfl,rfl⟩,show (Hp1 P).get? 130=some (ob22_130 P) by kernel_rfl⟩,fun q _=>.inl rfl⟩
theorem ns_det {h:Heap} {a:Addr} {m m':Str→Option Value} (x:h.Ns a m) (y:h.Ns a m') (k:Str):m k=m' k:=by
 obtain ⟨o,es,ep,e1,e2,_,e4⟩:=x
 obtain ⟨o',es',ep',f1,f2,_,f4⟩:=y
 rw [e1] at f1;cases f1
 rw [e2] at f2;cases f2
 rw [← e4,← f4]
theorem ints_all {R:WRecords} {cl:Str→Option Addr} {h:Heap}:∀ {xs:List Int} {vs:List Value} {as:List Addr},ReadsAllW R cl h vs (xs.map WData.int) as→∀ (σ:List Addr) (h':Heap),All2 (RV σ h') (xs.map AV.int) vs
 | [],vs,as,r,σ,h'=>by cases r;exact trivial
 | x::xs,vs,as,r,σ,h'=>by
  cases r with
  | cons r1 r2 =>
   obtain ⟨t,rfl,_⟩:=readsW_int_inv r1
   exact ⟨⟨t,rfl⟩,ints_all r2 σ h'⟩
theorem flat0:FlatS []:=fun l hl=>absurd hl List.not_mem_nil
theorem wd0 {s₁:Shared} (T:Tb s₁.heap) (hg:s₁.gens=#[]):Wd ⟨s₁.heap,s₁.os,[]⟩ [] [] s₁ :=
 ⟨rfl,List.nodup_nil,fun a ha=>absurd ha List.not_mem_nil,fun k l e=>by simp at e,fun _ _ e _ _=>e,T,AllBare.of_eq (by rw [hg]),rfl,fun e he=>absurd he List.not_mem_nil⟩
theorem law_end {w:World} {s₁:Shared} {mg:Str→Option Value} {fa a:Addr} {ob:Obj} {us:Array Value} {nn:Nat} {ys:List Int} {E:Value→Shared→Prop}
  (Y:∀ b o,(Hp1 w.params).get? b=some o→s₁.heap.get? b=some o) (hmg:s₁.heap.Ns mainGlobals mg) (hfa:mg (Str.ofString "law")=some (.ref fa)) (hg:s₁.gens=#[])
  (ha:s₁.heap.get? a=some ob) (hc:ob.cls=.type "list") (hd:ob.data=.seq us nn) (hr:∀ σ h,All2 (RV σ h) (ys.map AV.int) us.toList) (hl:ys.length≤63) :
  wpAny (model pw w) callerA (call (.ref fa) [.ref a]) (fun v s'=>v=.bool true∧OldK s₁.heap s'.heap∧s'.os=s₁.os∧AllBare s'.gens) E s₁:=by
 have H:St w ⟨s₁.heap,s₁.os,[]⟩:=⟨fun b o e _ _=>Y b o e⟩
 have T:Tb s₁.heap:=⟨(tab50 w.params).keep (fun b o e _=>Y b o e) (fun o e=>Y _ _ e),(tab130 w.params).keep (fun b o e _=>Y b o e) (fun o e=>Y _ _ e)⟩
 have W:Wd ⟨s₁.heap,s₁.os,[]⟩ [] [] s₁:=wd0 T hg
 have h197:fa=197:=by
  have e:=ns_det hmg (H.main W) (Str.ofString "law")
  rw [hfa,g_law w.params] at e
  cases e;rfl
 subst h197
 obtain ⟨ps50,e50⟩:=T.t50
 obtain ⟨ps130,e130⟩:=T.t130
 have n50:a≠50:=by rintro rfl;rw [e50] at ha;cases ha;cases hd
 have n130:a≠130:=by rintro rfl;rw [e130] at ha;cases ha;cases hd
 have k50:=Y 50 _ (show (Hp1 w.params).get? 50=some (ob10_50 w.params) by kernel_rfl)
 have k130:=Y 130 _ (show (Hp1 w.params).get? 130=some (ob22_130 w.params) by kernel_rfl)
 refine (law_w (n:=12) (Q:=fun av _=>av=.bool true) H (S:=[]) flat0 ha hc hd n50 n130 hr hl fun S'=>rfl).bind [.ref a] AOk.caller W ⟨rfl,trivial⟩ fun v s' τ av S' W' f' x' r' p=>?_
 obtain rfl:=p
 obtain rfl:v=.bool true:=r'
 obtain ⟨qs50,z50⟩:=W'.tabs.t50
 obtain ⟨qs130,z130⟩:=W'.tabs.t130
 refine ⟨rfl,⟨fun b o e=>?_,fun b o e=>?_⟩,W'.os,W'.gens⟩
 ·by_cases h1:b=50
  ·subst h1
   rw [k50] at e;cases e
   refine .inr (.inl ⟨T.a50.choose_spec.2.1.isCodeTable,rfl,#[],qs50,rfl,?_⟩)
   rw [z50,Array.empty_append];rfl
  ·by_cases h2:b=130
   ·subst h2
    rw [k130] at e;cases e
    refine .inr (.inl ⟨T.a130.choose_spec.2.1.isCodeTable,rfl,#[],qs130,rfl,?_⟩)
    rw [z130,Array.empty_append];rfl
   ·exact .inl (W'.kept b o e h1 h2)
 ·by_cases h1:b=50
  ·exact ⟨_,h1▸z50⟩
  ·by_cases h2:b=130
   ·exact ⟨_,h2▸z130⟩
   ·exact ⟨o,W'.kept b o e h1 h2⟩
theorem args_of {args:List WData} (h:rl.row.toRowW.claim.pre args=true):∃ xs:List Int,args=[WData.list (xs.map WData.int)]∧xs.length≤63:=by
 have hsh:=(pre_splitW h).1
 have hcond:=(pre_splitW h).2
 obtain ⟨d,r,rfl,h1,h2⟩:=hasAllW_cons (e:=.list .int) (es:=[]) hsh
 obtain ⟨xs,rfl,h3⟩:=hasW_list h1
 obtain ⟨ns,rfl⟩:=items_int h3
 have hr:r=[]:=by
  cases r with
  | nil=>rfl
  | cons a r=>exact absurd h2 (by simp [WShape.hasAll])
 subst hr
 refine ⟨ns,rfl,?_⟩
 have e:WTm.holds rl.row.records rl.row.pre { args:=[WData.list (ns.map WData.int)] }=decide (¬ (63:Int)<((ns.map WData.int).length:Int)):=by
  have e1:less? (WData.int 63) (WData.int ((ns.map WData.int).length:Int))=some (decide ((63:Int)<((ns.map WData.int).length:Int))):=by rfl
  show (match (match (match Option.map WData.bool (less? (WData.int 63) (WData.int ((ns.map WData.int).length:Int))) with
    | some (WData.bool b)=>some (WData.bool !b)
    | x=>none) with
   | some (WData.bool false)=>some (WData.bool false)
   | some (WData.bool true)=>some (WData.bool true)
   | x=>none) with
  | some (WData.bool true)=>true
  | x=>false)=_
  rw [e1]
  by_cases hc:(63:Int)<((ns.map WData.int).length:Int)
  ·rw [decide_eq_true hc,decide_eq_false (by exact not_not_intro hc)];rfl
  ·rw [decide_eq_false hc,decide_eq_true (by exact Not.imp hc fun a=>a)];rfl
 rw [e,decide_eq_true_eq,List.length_map] at hcond
 lia
theorem said_:OpenLaw.wellSaid rl=true:=by
 kernel_rfl
theorem final_:rl.Holds:=by
 refine holds_law said_ fun said=>?_
 refine holds_open (q:=qv) (loose:=looseN) (Xt:=XtM) (XP:=XL qv []) (Yf:=fun s=>s.heap) (Ya:=fun w=>Hp1 w.params) (YP:=fun w h=>∀ a o,(Hp1 w.params).get? a=some o→h.get? a=some o) (N:=6000) left_
  (fun w s e a o h=>by rw [show s.heap=Hp1 w.params from e];exact h) (fun w h h' y k a o e=>k a o (y a o e)) (fun s e=>xl_of s (Bool.and_eq_true_iff.mp e).1) XL.keeps (by rfl) (by rfl) (by rfl) (fun s e=>recFacts_of (Bool.and_eq_true_iff.mp e).2) (by rfl) (by first | assumption | decide +kernel) (by decide +kernel) ⟨rfl,rfl,rfl,rfl,rfl,by decide +kernel⟩ ⟨[.list []],by decide +kernel,by decide +kernel⟩ ?_
 intro w s₀ s₁ mg mb G Y fa o pm cd doc dV kV ho hd hcd hD hmg hg args vals as hpre hlay hrd hwl hlo
 refine let ZZ:Prop:=_;(?_:ZZ)
 obtain ⟨xs,rfl,hl⟩:=args_of hpre
 clear hd hcd hD ho
 cases hrd with
 | cons r1 r2 =>
  cases r2
  cases r1 with
  | list ha hc hdt hr =>
   refine wpAny_mono (law_end (mg:=mg) Y G.T.g hmg hg ha hc hdt (ints_all hr) hl) (fun v s' p=>?_) fun _ _ e=>e
   obtain ⟨rfl,h1,h2,h3⟩:=p
   exact ⟨.inl ⟨.bool true,.bool true,[],rfl,fun cls=>by rfl,ReadsW.bool true,postW_of (X:=true) (by rfl) (by kernel_rfl) rfl,fun _=>⟨List.nodup_nil,nofun⟩⟩,h1,h2,h3⟩
end
end Mine
theorem PySem.Challenge.cw_in0058_01_holds : PySem.Challenge.rw_in0058_01.Holds := by
  exact Mine.final_
