import PyProof.Rows.All
import Wide.All
import OpenK.AllK
import Wide.FinOn
import Lean
import PySem.Challenge.RW_ik0086_01
open PySem PySem.W PySem.W.X PyProof.Rows
set_option Elab.async false
set_option maxRecDepth 100000
set_option maxHeartbeats 0
set_option linter.unusedVariables false
set_option genSizeOf false
set_option genSizeOfSpec false
set_option genInjectivity false
set_option bootstrap.genMatcherCode false
set_option linter.deprecated false
namespace Mine
noncomputable section
section
abbrev pw : Program:=PySem.Challenge.pw_ik0086_01
noncomputable def q (s : String) : Str:=Str.ofString s
noncomputable def v (s : String) (t : Nat) : Value:=.str (Str.ofString s) t
noncomputable def r (a : Nat) : Value:=.ref a
noncomputable def E (P : Params) (s : String) (t : Nat) (x : Value) : DictEntry:=⟨PyData.keyHash P (Str.ofString s),.str (Str.ofString s) t,x⟩
noncomputable def subs : Stmt → List Stmt
 | .FunctionDef (body:=b) ..=>b
 | .ClassDef (body:=b) ..=>b
 | .If (body:=b) ..=>b
 | _=>[]
noncomputable def nth : List Stmt → Nat → Stmt
 | [],_=>default
 | s :: _,0=>s
 | _ :: l,n + 1=>nth l n
noncomputable def dig : List Nat → List Stmt → Stmt
 | [],_=>default
 | i :: p,l=>match p with
   | []=>nth l i
   | _ :: _=>dig p (subs (nth l i))
noncomputable def fP : Stmt → Arguments
 | .FunctionDef (args:=a) ..=>a
 | _=>default
noncomputable def fB : Stmt → List Stmt
 | .FunctionDef (body:=b) ..=>b
 | _=>[]
noncomputable def fS : Stmt → Scope
 | .FunctionDef (scope:=s) ..=>s
 | _=>default
noncomputable def F (p : List Nat) (name qual : Str) (globals : Addr) (closure : List (Str × Addr)) (d k doc mod : Value) (ann : Option Addr) (code ct : Value) (b : Addr) : Data:=
 .func { name:=name,qualname:=qual,params:=fP (dig p pw.main.body),body:=.stmts (fB (dig p pw.main.body)),scope:=fS (dig p pw.main.body),globals:=globals,closure:=closure,defaults:=d,kwdefaults:=k,doc:=doc,pyModule:=mod,annotations:=ann,code:=code,closureTuple:=ct,builtins:=b }
noncomputable def tO (t : String) (d : Data) : Obj:=⟨.type t,none,d,#[]⟩
noncomputable def nO (d : Data) : Obj:=⟨.none,none,d,#[]⟩
noncomputable def tu (l : Array Value) : Obj:=tO "tuple" (.seq l 0)
noncomputable def t0 : Obj:=tu #[]
noncomputable def f0 : Obj:=nO (.fields #[])
noncomputable def dO (l : Array DictEntry) (n : Nat) : Obj:=tO "dict" (.dict l n)
noncomputable def j0 (n : Nat) : Value:=.int (Int.ofNat n) 0
noncomputable def cO (m u : String) (t l a b c k : Nat) (z : Bool) (x x' y : Value) (y' : Value) (y'' : Value) (w : Nat) : Obj:=
 tO "code" (.fields #[v m t,v u (t + 1),v "/claim/cut.py" (t + 2),j0 l,j0 a,j0 b,j0 c,j0 k,x,.bool z,j0 322,x',.none,y,y',y'',.int (Int.ofNat w) 0,j0 l,v "/claim/cut.py" (w + 1)])
noncomputable def cD (m u : String) (t l a b c k x w : Nat) : Obj:=cO m u t l a b c k true (r x) (r (x + 1)) (r (x + 2)) (r (x + 3)) (r (x + 4)) w
noncomputable def fN (p : List Nat) (m u : String) : Obj:=nO (F p (q m) (q u) 0 [] .none .none .none .none none .none .none 0)
noncomputable def fO (p : List Nat) (m u : String) (x : Value) (c : Nat) : Obj:=tO "function" (F p (q m) (q u) 3 [] .none .none .none x none (r c) .none 0)
noncomputable def eB (P : Params) (s : String) (t : Nat) : DictEntry:=E P s t (.builtin s)
noncomputable def eT (P : Params) (s : String) (t : Nat) : DictEntry:=E P s t (.type s)
noncomputable def evens : List Obj → List Obj
 | []=>[]
 | a :: l=>match l with
   | []=>[a]
   | _ :: m=>a :: evens m
noncomputable def odds : List Obj → List Obj
 | []=>[]
 | _ :: l=>match l with
   | []=>[]
   | b :: m=>b :: odds m
noncomputable def mkT : Nat → List Obj → BT
 | 0,_=>.nil
 | n + 1,l=>match l with
   | []=>.nil
   | a :: m=>.node a (mkT n (evens m)) (mkT n (odds m))
noncomputable def ob0 (P : Params) : List Obj:=[
 dO #[E P "__name__" 1 (v "builtins" 160),E P "__doc__" 2 (.builtin "builtins.__doc__:str#\x6fpaque"),E P "__package__" 3 (.builtin "builtins.__package__:str#\x6fpaque"),E P "__loader__" 4 (.builtin "builtins.__loader__:shared#\x6fpaque"),E P "__spec__" 5 (.builtin "builtins.__spec__#\x6fpaque"),eB P "__build_class__" 6,eB P "__\x69mport__" 7,eB P "abs" 8,eB P "all" 9,eB P "any" 10,eB P "ascii" 11,eB P "bin" 12,eB P "breakpoint" 13,eB P "callable" 14,eB P "chr" 15,eB P "compile" 16,eB P "delattr" 17,eB P "dir" 18,eB P "divmod" 19,eB P "eval" 20,eB P "exec" 21,eB P "format" 22,eB P "getattr" 23,eB P "globals" 24,eB P "hasattr" 25,eB P "hash" 26,eB P "hex" 27,eB P "id" 28,eB P "input" 29,eB P "isinstance" 30,eB P "issubclass" 31,eB P "iter" 32,eB P "aiter" 33,eB P "len" 34,eB P "locals" 35,eB P "max" 36,eB P "min" 37,eB P "next" 38,eB P "anext" 39,eB P "oct" 40,eB P "ord" 41,eB P "pow" 42,eB P "print" 43,eB P "repr" 44,eB P "round" 45,eB P "setattr" 46,eB P "sorted" 47,eB P "sum" 48,eB P "vars" 49,E P "None" 50 .none,E P "Ellipsis" 51 (.ellipsis),E P "NotImplemented" 52 (.notImplemented),E P "False" 53 (.bool false),E P "True" 54 (.bool true),eT P "bool" 55,eT P "memoryview" 56,eT P "bytearray" 57,eT P "bytes" 58,eT P "classmethod" 59,eT P "complex" 60,eT P "dict" 61,eT P "enumerate" 62,eT P "filter" 63,eT P "float" 64,eT P "frozenset" 65,eT P "property" 66,eT P "int" 67,eT P "list" 68,eT P "map" 69,eT P "object" 70,eT P "range" 71,eT P "reversed" 72,eT P "set" 73,eT P "slice" 74,eT P "staticmethod" 75,eT P "str" 76,eT P "super" 77,eT P "tuple" 78,eT P "type" 79,eT P "zip" 80,E P "__debug__" 81 (.bool true),eT P "BaseException" 82,eT P "BaseExceptionGroup" 83,eT P "Exception" 84,eT P "GeneratorExit" 85,eT P "KeyboardInterrupt" 86,eT P "SystemExit" 87,eT P "ArithmeticError" 88,eT P "AssertionError" 89,eT P "AttributeError" 90,eT P "BufferError" 91,eT P "EOFError" 92,eT P "ImportError" 93,eT P "LookupError" 94,eT P "MemoryError" 95,eT P "NameError" 96,eT P "OSError" 97,eT P "ReferenceError" 98,eT P "RuntimeError" 99,eT P "StopAsyncIteration" 100,eT P "StopIteration" 101,eT P "SyntaxError" 102,eT P "SystemError" 103,eT P "TypeError" 104,eT P "ValueError" 105,eT P "Warning" 106,eT P "FloatingPointError" 107,eT P "OverflowError" 108,eT P "ZeroDivisionError" 109,eT P "BytesWarning" 110,eT P "DeprecationWarning" 111,eT P "EncodingWarning" 112,eT P "FutureWarning" 113,eT P "ImportWarning" 114,eT P "PendingDeprecationWarning" 115,eT P "ResourceWarning" 116,eT P "RuntimeWarning" 117,eT P "SyntaxWarning" 118,eT P "UnicodeWarning" 119,eT P "UserWarning" 120,eT P "BlockingIOError" 121,eT P "ChildProcessError" 122,eT P "ConnectionError" 123,eT P "FileExistsError" 124,eT P "FileNotFoundError" 125,eT P "InterruptedError" 126,eT P "IsADirectoryError" 127,eT P "NotADirectoryError" 128,eT P "PermissionError" 129,eT P "ProcessLookupError" 130,eT P "TimeoutError" 131,eT P "IndentationError" 132,eT P "_IncompleteInputError" 133,eT P "IndexError" 134,eT P "KeyError" 135,eT P "ModuleNotFoundError" 136,eT P "NotImplementedError" 137,eT P "PythonFinalizationError" 138,eT P "RecursionError" 139,eT P "UnboundLocalError" 140,eT P "UnicodeError" 141,eT P "BrokenPipeError" 142,eT P "ConnectionAbortedError" 143,eT P "ConnectionRefusedError" 144,eT P "ConnectionResetError" 145,eT P "TabError" 146,eT P "UnicodeDecodeError" 147,eT P "UnicodeEncodeError" 148,eT P "UnicodeTranslateError" 149,eT P "ExceptionGroup" 150,E P "EnvironmentError" 151 (.type "OSError"),E P "IOError" 152 (.type "OSError"),eB P "open" 153,E P "quit" 154 (.builtin "builtins.quit#\x6fpaque"),E P "exit" 155 (.builtin "builtins.exit#\x6fpaque"),E P "copyright" 156 (.builtin "builtins.copyright#\x6fpaque"),E P "credits" 157 (.builtin "builtins.credits#\x6fpaque"),E P "license" 158 (.builtin "builtins.license#\x6fpaque"),E P "help" 159 (.builtin "builtins.help#\x6fpaque")] 159,
 dO #[E P "builtins" 162 (r 4),E P "__main__" 163 (r 5),E P "_sre" 244 (r 12),E P "_collections" 293 (r 30)] 4]
noncomputable def ob4 (P : Params) : List Obj:=[
 ⟨.type "module",(some 0),.plain,#[]⟩,
 ⟨.type "module",(some 3),.plain,#[]⟩,
 dO #[] 0,
 t0,
 f0,
 tO "code" (.fields #[v "<module>" 176,v "<module>" 177,v "/claim/cut.py" 178,j0 1,j0 0,j0 0,j0 0,j0 0,r 7,.bool false,j0 175,r 8,.none,.none,.none,.none,j0 179,j0 1,v "/claim/cut.py" 180]),
 ⟨.type "frame",none,.plain,#[(some (r 9)),(some (r 3)),(some (r 3)),none,(some (v "__main__" 164)),none,(some (r 0))]⟩,
 dO #[E P "__name__" 247 (v "_sre" 246),E P "__doc__" 248 .none,E P "__package__" 250 (v "" 249),E P "__loader__" 251 (.builtin "off-the-table:_sre.__loader__:shared#\x6fpaque"),E P "__spec__" 252 (.builtin "off-the-table:_sre.__spec__:shared#\x6fpaque"),E P "compile" 253 (.builtin "_sre.compile"),E P "template" 254 (.builtin "off-the-table:_sre.template:shared#\x6fpaque"),E P "getcodesize" 255 (.builtin "off-the-table:_sre.getcodesize:shared#\x6fpaque"),E P "ascii_iscased" 256 (.builtin "off-the-table:_sre.ascii_iscased:shared#\x6fpaque"),E P "unicode_iscased" 257 (.builtin "off-the-table:_sre.unicode_iscased:shared#\x6fpaque"),E P "ascii_tolower" 258 (.builtin "off-the-table:_sre.ascii_tolower:shared#\x6fpaque"),E P "unicode_tolower" 259 (.builtin "off-the-table:_sre.unicode_tolower:shared#\x6fpaque"),E P "MAGIC" 261 (.int 20230612 260),E P "CODESIZE" 263 (.int 4 262),E P "MAXREPEAT" 265 (.int 4294967295 264),E P "MAXGROUPS" 267 (.int 1073741823 266),E P "copyright" 269 (v " SRE 2.2.2 Copyright (c) 1997-2002 by Secret Labs AB " 268)] 17,
 ⟨.type "module",(some 11),.plain,#[]⟩,
 dO #[E P "__module__" 189 (v "_frozen_\x69mportlib" 186),E P "__firstlineno__" 190 (.int 971 187),E P "__doc__" 191 (.builtin "_frozen_\x69mportlib.BuiltinImporter.__doc__:str#\x6fpaque"),E P "_ORIGIN" 192 (v "built-in" 188),E P "find_spec" 193 (.builtin "_frozen_\x69mportlib.BuiltinImporter.find_spec#\x6fpaque"),E P "create_module" 194 (.builtin "_frozen_\x69mportlib.BuiltinImporter.create_module#\x6fpaque"),E P "exec_module" 195 (.builtin "_frozen_\x69mportlib.BuiltinImporter.exec_module#\x6fpaque"),E P "get_code" 196 (.builtin "_frozen_\x69mportlib.BuiltinImporter.get_code#\x6fpaque"),E P "get_source" 197 (.builtin "_frozen_\x69mportlib.BuiltinImporter.get_source#\x6fpaque"),E P "is_package" 198 (.builtin "_frozen_\x69mportlib.BuiltinImporter.is_package#\x6fpaque"),E P "load_module" 199 (.builtin "_frozen_\x69mportlib.BuiltinImporter.load_module#\x6fpaque"),E P "__static_\x61ttributes__" 200 (r 15),E P "__dict__" 202 (r 16),E P "__weakref__" 204 (r 17)] 14,
 tO "type" (.cls { name:=(q "BuiltinImporter"),bases:=[.type "object"],mro:=[r 14,.type "object"],ns:=13,qualname:=(q "BuiltinImporter"),hasDict:=true,slotNames:=[],subclasses:=[],abstract:=false,collection:=none,hasDel:=false }),
 t0,
 tO "getset_descriptor" (.fields #[v "__dict__" 201,r 14,.builtin "function.__dict__",.builtin "function.__dict__#set"]),
 tO "getset_descriptor" (.fields #[v "__weakref__" 203,r 14,.builtin "ExceptionGroup.__weakref__",.none]),
 nO (.seq #[j0 13,.str ⟨#[6,189,10,95,95,109,111,100,117,108,101,95,95,6,186,17,95,102,114,111,122,101,110,95,105,109,112,111,114,116,108,105,98,6,190,15,95,95,102,105,114,115,116,108,105,110,101,110,111,95,95,4,187,0,971,6,191,7,95,95,100,111,99,95,95,9,52,95,102,114,111,122,101,110,95,105,109,112,111,114,116,108,105,98,46,66,117,105,108,116,105,110,73,109,112,111,114,116,101,114,46,95,95,100,111,99,95,95,58,115,116,114,35,111,112,97,113,117,101,6,192,7,95,79,82,73,71,73,78,6,188,8,98,117,105,108,116,45,105,110,6,193,9,102,105,110,100,95,115,112,101,99,9,50,95,102,114,111,122,101,110,95,105,109,112,111,114,116,108,105,98,46,66,117,105,108,116,105,110,73,109,112,111,114,116,101,114,46,102,105,110,100,95,115,112,101,99,35,111,112,97,113,117,101,6,194,13,99,114,101,97,116,101,95,109,111,100,117,108,101,9,54,95,102,114,111,122,101,110,95,105,109,112,111,114,116,108,105,98,46,66,117,105,108,116,105,110,73,109,112,111,114,116,101,114,46,99,114,101,97,116,101,95,109,111,100,117,108,101,35,111,112,97,113,117,101,6,195,11,101,120,101,99,95,109,111,100,117,108,101,9,52,95,102,114,111,122,101,110,95,105,109,112,111,114,116,108,105,98,46,66,117,105,108,116,105,110,73,109,112,111,114,116,101,114,46,101,120,101,99,95,109,111,100,117,108,101,35,111,112,97,113,117,101,6,196,8,103,101,116,95,99,111,100,101,9,49,95,102,114,111,122,101,110,95,105,109,112,111,114,116,108,105,98,46,66,117,105,108,116,105,110,73,109,112,111,114,116,101,114,46,103,101,116,95,99,111,100,101,35,111,112,97,113,117,101,6,197,10,103,101,116,95,115,111,117,114,99,101,9,51,95,102,114,111,122,101,110,95,105,109,112,111,114,116,108,105,98,46,66,117,105,108,116,105,110,73,109,112,111,114,116,101,114,46,103,101,116,95,115,111,117,114,99,101,35,111,112,97,113,117,101,6,198,10,105,115,95,112,97,99,107,97,103,101,9,51,95,102,114,111,122,101,110,95,105,109,112,111,114,116,108,105,98,46,66,117,105,108,116,105,110,73,109,112,111,114,116,101,114,46,105,115,95,112,97,99,107,97,103,101,35,111,112,97,113,117,101,6,199,11,108,111,97,100,95,109,111,100,117,108,101,9,52,95,102,114,111,122,101,110,95,105,109,112,111,114,116,108,105,98,46,66,117,105,108,116,105,110,73,109,112,111,114,116,101,114,46,108,111,97,100,95,109,111,100,117,108,101,35,111,112,97,113,117,101,6,200,21,95,95,115,116,97,116,105,99,95,97,116,116,114,105,98,117,116,101,115,95,95,4,0,0,15,6,202,8,95,95,100,105,99,116,95,95,4,0,0,16,6,204,11,95,95,119,101,97,107,114,101,102,95,95,4,0,0,17]⟩ 0,.bool true,.bool true,v "" 205,j0 21,.str ⟨#[6,227,10,95,95,109,111,100,117,108,101,95,95,6,217,17,95,102,114,111,122,101,110,95,105,109,112,111,114,116,108,105,98,6,228,15,95,95,102,105,114,115,116,108,105,110,101,110,111,95,95,4,218,0,562,6,229,7,95,95,100,111,99,95,95,9,47,95,102,114,111,122,101,110,95,105,109,112,111,114,116,108,105,98,46,77,111,100,117,108,101,83,112,101,99,46,95,95,100,111,99,95,95,58,115,116,114,35,111,112,97,113,117,101,6,230,8,95,95,105,110,105,116,95,95,9,44,95,102,114,111,122,101,110,95,105,109,112,111,114,116,108,105,98,46,77,111,100,117,108,101,83,112,101,99,46,95,95,105,110,105,116,95,95,35,111,112,97,113,117,101,6,231,8,95,95,114,101,112,114,95,95,9,44,95,102,114,111,122,101,110,95,105,109,112,111,114,116,108,105,98,46,77,111,100,117,108,101,83,112,101,99,46,95,95,114,101,112,114,95,95,35,111,112,97,113,117,101,6,232,6,95,95,101,113,95,95,9,42,95,102,114,111,122,101,110,95,105,109,112,111,114,116,108,105,98,46,77,111,100,117,108,101,83,112,101,99,46,95,95,101,113,95,95,35,111,112,97,113,117,101,6,233,6,99,97,99,104,101,100,9,42,95,102,114,111,122,101,110,95,105,109,112,111,114,116,108,105,98,46,77,111,100,117,108,101,83,112,101,99,46,99,97,99,104,101,100,35,111,112,97,113,117,101,6,234,6,112,97,114,101,110,116,9,42,95,102,114,111,122,101,110,95,105,109,112,111,114,116,108,105,98,46,77,111,100,117,108,101,83,112,101,99,46,112,97,114,101,110,116,35,111,112,97,113,117,101,6,235,12,104,97,115,95,108,111,99,97,116,105,111,110,9,48,95,102,114,111,122,101,110,95,105,109,112,111,114,116,108,105,98,46,77,111,100,117,108,101,83,112,101,99,46,104,97,115,95,108,111,99,97,116,105,111,110,35,111,112,97,113,117,101,6,236,21,95,95,115,116,97,116,105,99,95,97,116,116,114,105,98,117,116,101,115,95,95,4,0,0,23,6,238,8,95,95,100,105,99,116,95,95,4,0,0,24,6,240,11,95,95,119,101,97,107,114,101,102,95,95,4,0,0,25,6,241,8,95,95,104,97,115,104,95,95,0]⟩ 0,.bool true,.bool true,v "" 242] 1),
 tO "list" (.seq #[] 0),
 dO #[E P "name" 208 (v "_sre" 207),E P "loader" 209 (r 14),E P "origin" 210 (v "built-in" 184),E P "loader_state" 211 .none,E P "submodule_search_locations" 212 .none,E P "_uninitialized_submodules" 213 (r 19),E P "_set_fileattr" 214 (.bool false),E P "_cached" 215 .none,E P "_initializing" 243 (.bool false)] 9,
 dO #[E P "__module__" 227 (v "_frozen_\x69mportlib" 217),E P "__firstlineno__" 228 (.int 562 218),E P "__doc__" 229 (.builtin "_frozen_\x69mportlib.ModuleSpec.__doc__:str#\x6fpaque"),E P "__init__" 230 (.builtin "_frozen_\x69mportlib.ModuleSpec.__init__#\x6fpaque"),E P "__repr__" 231 (.builtin "_frozen_\x69mportlib.ModuleSpec.__repr__#\x6fpaque"),E P "__eq__" 232 (.builtin "_frozen_\x69mportlib.ModuleSpec.__eq__#\x6fpaque"),E P "cached" 233 (.builtin "_frozen_\x69mportlib.ModuleSpec.cached#\x6fpaque"),E P "parent" 234 (.builtin "_frozen_\x69mportlib.ModuleSpec.parent#\x6fpaque"),E P "has_location" 235 (.builtin "_frozen_\x69mportlib.ModuleSpec.has_location#\x6fpaque"),E P "__static_\x61ttributes__" 236 (r 23),E P "__dict__" 238 (r 24),E P "__weakref__" 240 (r 25),E P "__hash__" 241 .none] 13,
 tO "type" (.cls { name:=(q "ModuleSpec"),bases:=[.type "object"],mro:=[r 22,.type "object"],ns:=21,qualname:=(q "ModuleSpec"),hasDict:=true,slotNames:=[],subclasses:=[],abstract:=false,collection:=none,hasDel:=false }),
 tu #[v "_cached" 219,v "_set_fileattr" 220,v "_uninitialized_submodules" 221,v "loader" 222,v "loader_state" 223,v "name" 224,v "origin" 225,v "submodule_search_locations" 226],
 tO "getset_descriptor" (.fields #[v "__dict__" 237,r 22,.builtin "function.__dict__",.builtin "function.__dict__#set"]),
 tO "getset_descriptor" (.fields #[v "__weakref__" 239,r 22,.builtin "ExceptionGroup.__weakref__",.none]),
 ⟨r 22,(some 20),.plain,#[]⟩,
 nO (.seq #[j0 11,.str ⟨#[6,247,8,95,95,110,97,109,101,95,95,6,246,4,95,115,114,101,6,248,7,95,95,100,111,99,95,95,0,6,250,11,95,95,112,97,99,107,97,103,101,95,95,6,249,0,6,251,10,95,95,108,111,97,100,101,114,95,95,4,0,0,14,6,252,8,95,95,115,112,101,99,95,95,4,0,0,26,6,253,7,99,111,109,112,105,108,101,9,12,95,115,114,101,46,99,111,109,112,105,108,101,6,254,8,116,101,109,112,108,97,116,101,9,13,95,115,114,101,46,116,101,109,112,108,97,116,101,6,255,11,103,101,116,99,111,100,101,115,105,122,101,9,16,95,115,114,101,46,103,101,116,99,111,100,101,115,105,122,101,6,256,13,97,115,99,105,105,95,105,115,99,97,115,101,100,9,18,95,115,114,101,46,97,115,99,105,105,95,105,115,99,97,115,101,100,6,257,15,117,110,105,99,111,100,101,95,105,115,99,97,115,101,100,9,20,95,115,114,101,46,117,110,105,99,111,100,101,95,105,115,99,97,115,101,100,6,258,13,97,115,99,105,105,95,116,111,108,111,119,101,114,9,18,95,115,114,101,46,97,115,99,105,105,95,116,111,108,111,119,101,114,6,259,15,117,110,105,99,111,100,101,95,116,111,108,111,119,101,114,9,20,95,115,114,101,46,117,110,105,99,111,100,101,95,116,111,108,111,119,101,114,6,261,5,77,65,71,73,67,4,260,0,20230612,6,263,8,67,79,68,69,83,73,90,69,4,262,0,4,6,265,9,77,65,88,82,69,80,69,65,84,4,264,0,4294967295,6,267,9,77,65,88,71,82,79,85,80,83,4,266,0,1073741823,6,269,9,99,111,112,121,114,105,103,104,116,6,268,53,32,83,82,69,32,50,46,50,46,50,32,67,111,112,121,114,105,103,104,116,32,40,99,41,32,49,57,57,55,45,50,48,48,50,32,98,121,32,83,101,99,114,101,116,32,76,97,98,115,32,65,66,32]⟩ 0,.bool true,.bool false,v "_sre" 271,j0 29,.str ⟨#[6,297,8,95,95,110,97,109,101,95,95,6,296,12,95,99,111,108,108,101,99,116,105,111,110,115,6,298,7,95,95,100,111,99,95,95,9,31,95,99,111,108,108,101,99,116,105,111,110,115,46,95,95,100,111,99,95,95,58,115,116,114,35,111,112,97,113,117,101,6,300,11,95,95,112,97,99,107,97,103,101,95,95,6,299,0,6,301,10,95,95,108,111,97,100,101,114,95,95,4,0,0,14,6,302,8,95,95,115,112,101,99,95,95,4,0,0,33,6,303,15,95,99,111,117,110,116,95,101,108,101,109,101,110,116,115,9,28,95,99,111,108,108,101,99,116,105,111,110,115,46,95,99,111,117,110,116,95,101,108,101,109,101,110,116,115,6,304,5,100,101,113,117,101,8,17,99,111,108,108,101,99,116,105,111,110,115,46,100,101,113,117,101,6,305,11,100,101,102,97,117,108,116,100,105,99,116,8,23,99,111,108,108,101,99,116,105,111,110,115,46,100,101,102,97,117,108,116,100,105,99,116,6,306,15,95,100,101,113,117,101,95,105,116,101,114,97,116,111,114,8,27,99,111,108,108,101,99,116,105,111,110,115,46,95,100,101,113,117,101,95,105,116,101,114,97,116,111,114,6,307,23,95,100,101,113,117,101,95,114,101,118,101,114,115,101,95,105,116,101,114,97,116,111,114,8,35,99,111,108,108,101,99,116,105,111,110,115,46,95,100,101,113,117,101,95,114,101,118,101,114,115,101,95,105,116,101,114,97,116,111,114,6,308,12,95,116,117,112,108,101,103,101,116,116,101,114,8,24,99,111,108,108,101,99,116,105,111,110,115,46,95,116,117,112,108,101,103,101,116,116,101,114,6,309,11,79,114,100,101,114,101,100,68,105,99,116,8,23,99,111,108,108,101,99,116,105,111,110,115,46,79,114,100,101,114,101,100,68,105,99,116]⟩ 0,.bool true,.bool false,v "_collections" 311] 1),
 tu #[v "_count_elements" 277,v "deque" 278],
 dO #[E P "__name__" 297 (v "_collections" 296),E P "__doc__" 298 (.builtin "off-the-table:_collections.__doc__:shared#\x6fpaque"),E P "__package__" 300 (v "" 299),E P "__loader__" 301 (.builtin "off-the-table:_collections.__loader__:shared#\x6fpaque"),E P "__spec__" 302 (.builtin "off-the-table:_collections.__spec__:shared#\x6fpaque"),E P "_count_elements" 303 (.builtin "_collections._count_elements"),E P "deque" 304 (.type "collections.deque"),E P "defaultdict" 305 (.type "collections.defaultdict"),E P "_deque_iterator" 306 (.builtin "off-the-table:_collections._deque_iterator:shared#\x6fpaque"),E P "_deque_reverse_iterator" 307 (.builtin "off-the-table:_collections._deque_reverse_iterator:shared#\x6fpaque"),E P "_tuplegetter" 308 (.type "collections._tuplegetter"),E P "OrderedDict" 309 (.type "collections.OrderedDict")] 12,
 ⟨.type "module",(some 29),.plain,#[]⟩,
 tO "list" (.seq #[] 0),
 dO #[E P "name" 284 (v "_collections" 283),E P "loader" 285 (r 14),E P "origin" 286 (v "built-in" 282),E P "loader_state" 287 .none,E P "submodule_search_locations" 288 .none,E P "_uninitialized_submodules" 289 (r 31),E P "_set_fileattr" 290 (.bool false),E P "_cached" 291 .none,E P "_initializing" 292 (.bool false)] 9,
 ⟨r 22,(some 32),.plain,#[]⟩,
 t0]
noncomputable def ob36 (P : Params) : List Obj:=[
 cO "<module>" "<module>" 323 1 0 0 0 0 false (r 34) (r 35) .none .none .none 326,
 ⟨.type "frame",none,.plain,#[(some (r 36)),(some (r 3)),(some (r 3)),none,(some (v "__main__" 164)),none,(some (r 0))]⟩,
 t0,
 f0,
 tu #[v "k" 331],
 t0,
 fN [2] "_wall" "_wall",
 cD "_wall" "_wall" 328 3 1 0 0 3 38 332,
 fO [2] "_wall" "_wall" (v "__main__" 164) 43,
 tu #[.type "ValueError"],
 tO "builtin_function_or_method" (.fields #[.builtin "type.__prepare__",.type "type"]),
 dO #[E P "__module__" 344 (v "cpy313.statistics" 335),E P "__qualname__" 346 (v "StatisticsError" 345),E P "__firstlineno__" 348 (.int 7 347),E P "__static_\x61ttributes__" 349 (r 52)] 4,
 t0,
 f0,
 cO "StatisticsError" "StatisticsError" 339 7 0 0 0 0 false (r 48) (r 49) .none .none .none 342,
 ⟨.type "frame",none,.plain,#[(some (r 50)),(some (r 3)),(some (r 47)),none,(some (v "cpy313.statistics" 335)),none,(some (r 0))]⟩,
 t0,
 dO #[E P "__module__" 344 (v "cpy313.statistics" 335),E P "__firstlineno__" 348 (.int 7 347),E P "__static_\x61ttributes__" 349 (r 52),E P "__weakref__" 351 (r 55),E P "__doc__" 352 .none] 3,
 ⟨.type "type",none,(.cls { name:=(q "StatisticsError"),bases:=[.type "ValueError"],mro:=[r 54,.type "ValueError",.type "Exception",.type "BaseException",.type "object"],ns:=53,qualname:=(q "StatisticsError"),hasDict:=true,slotNames:=[],subclasses:=[],abstract:=false,collection:=none,hasDel:=false }),#[(some (r 45)),none,(some (v "StatisticsError" 337)),(some (v "StatisticsError" 345)),(some (.builtin "ValueError.__new__")),(some (.bool true))]⟩,
 tO "getset_descriptor" (.fields #[v "__weakref__" 350,r 54,.builtin "ExceptionGroup.__weakref__",.none]),
 tO "super" (.fields #[r 54,r 54,r 54]),
 tO "builtin_function_or_method" (.fields #[.builtin "object.__init_subclass__",r 54]),
 t0,
 f0,
 tu #[v "data" 358,v "n" 359,v "i" 360],
 t0,
 fN [5] "median" "median",
 cD "median" "median" 355 9 1 0 0 3 58 361,
 fO [5] "median" "median" (v "cpy313.statistics" 335) 63,
 t0,
 f0,
 tu #[v "data" 367,v "n" 368],
 t0,
 fN [6] "median_low" "median_low",
 cD "median_low" "median_low" 364 19 1 0 0 3 65 369,
 fO [6] "median_low" "median_low" (v "cpy313.statistics" 335) 70,
 t0,
 f0,
 tu #[v "data" 375,v "n" 376],
 t0,
 fN [7] "median_high" "median_high",
 cD "median_high" "median_high" 372 28 1 0 0 3 72 377,
 fO [7] "median_high" "median_high" (v "cpy313.statistics" 335) 77,
 t0,
 f0,
 tu #[v "pair" 385],
 t0,
 fN [9] "_second" "_second",
 cD "_second" "_second" 382 35 1 0 0 3 79 386,
 fO [9] "_second" "_second" (v "collections" 380) 84,
 t0,
 f0,
 tu #[v "x" 392],
 t0,
 fN [10] "_is_mapping" "_is_mapping",
 cD "_is_mapping" "_is_mapping" 389 37 1 0 0 3 86 393,
 fO [10] "_is_mapping" "_is_mapping" (v "collections" 380) 91,
 tu #[.type "dict"],
 tO "builtin_function_or_method" (.fields #[.builtin "type.__prepare__",.type "type"]),
 dO #[E P "__module__" 403 (v "collections" 380),E P "__qualname__" 405 (v "Counter" 404),E P "__firstlineno__" 407 (.int 45 406),E P "__init__" 417 (r 109),E P "__missing__" 425 (r 116),E P "total" 432 (r 123),E P "most_common" 442 (r 131),E P "elements" 449 (r 138),E P "fromkeys" 458 (r 145),E P "update" 471 (r 154),E P "subtract" 480 (r 162),E P "copy" 487 (r 169),E P "__reduce__" 494 (r 176),E P "__delitem__" 503 (r 184),E P "__repr__" 512 (r 191),E P "__eq__" 522 (r 198),E P "__ne__" 530 (r 205),E P "__le__" 540 (r 212),E P "__lt__" 548 (r 219),E P "__ge__" 558 (r 226),E P "__gt__" 566 (r 233),E P "__add__" 578 (r 240),E P "__sub__" 590 (r 247),E P "__or__" 603 (r 254),E P "__and__" 616 (r 261),E P "__pos__" 626 (r 268),E P "__neg__" 636 (r 275),E P "_keep_positive" 642 (r 280),E P "__iadd__" 652 (r 287),E P "__isub__" 662 (r 294),E P "__ior__" 673 (r 301),E P "__iand__" 684 (r 308),E P "__static_\x61ttributes__" 685 (r 309),E P "__classcell__" 686 (r 96)] 34]
noncomputable def ob96 (P : Params) : List Obj:=[
 tO "cell" (.cell (some (r 311))),
 t0,
 nO (.fields #[j0 47,j0 4,r 108,j0 51,j0 4,r 115,j0 54,j0 4,r 122,j0 57,j0 4,r 130,j0 70,j0 4,r 137,j0 73,j0 4,r 144,j0 79,j0 4,r 153,j0 93,j0 4,r 161,j0 96,j0 4,r 168,j0 99,j0 4,r 175,j0 102,j0 4,r 183,j0 106,j0 4,r 190,j0 117,j0 4,r 197,j0 122,j0 4,r 204,j0 127,j0 4,r 211,j0 132,j0 4,r 218,j0 137,j0 4,r 225,j0 142,j0 4,r 232,j0 147,j0 4,r 239,j0 160,j0 4,r 246,j0 173,j0 4,r 253,j0 187,j0 4,r 260,j0 198,j0 4,r 267,j0 205,j0 4,r 274,j0 212,j0 4,r 279,j0 218,j0 4,r 286,j0 223,j0 4,r 293,j0 228,j0 4,r 300,j0 235,j0 4,r 307]),
 cO "Counter" "Counter" 398 45 0 0 0 0 false (r 97) (r 98) .none .none .none 401,
 ⟨.type "frame",none,.plain,#[(some (r 99)),(some (r 3)),(some (r 95)),none,(some (v "collections" 380)),none,(some (r 0))]⟩,
 tu #[.none],
 tu #[r 96],
 tu #[v "__class__" 411],
 f0,
 tu #[v "self" 412,v "iterable" 413,v "kwds" 414],
 t0,
 fN [11,0] "__init__" "Counter.__init__",
 cD "__init__" "Counter.__init__" 408 47 2 2 0 11 103 415,
 tO "function" (F [11,0] (q "__init__") (q "Counter.__init__") 3 [((q "__class__"),96)] (r 101) .none .none (v "collections" 380) none (r 108) (r 102) 0),
 t0,
 f0,
 tu #[v "self" 421,v "key" 422],
 t0,
 fN [11,1] "__missing__" "Counter.__missing__",
 cD "__missing__" "Counter.__missing__" 418 51 2 0 0 3 110 423,
 fO [11,1] "__missing__" "Counter.__missing__" (v "collections" 380) 115,
 t0,
 f0,
 tu #[v "self" 429],
 t0,
 fN [11,2] "total" "Counter.total",
 cD "total" "Counter.total" 426 54 1 0 0 3 117 430,
 fO [11,2] "total" "Counter.total" (v "collections" 380) 122,
 tu #[.none],
 t0,
 f0,
 tu #[v "self" 436,v "n" 437,v "pairs" 438,v "pair" 439],
 t0,
 fN [11,3] "most_common" "Counter.most_common",
 cD "most_common" "Counter.most_common" 433 57 2 0 0 3 125 440,
 tO "function" (F [11,3] (q "most_common") (q "Counter.most_common") 3 [] (r 124) .none .none (v "collections" 380) none (r 130) .none 0),
 t0,
 f0,
 tu #[v "self" 446],
 t0,
 fN [11,4] "elements" "Counter.elements",
 cD "elements" "Counter.elements" 443 70 1 0 0 3 132 447,
 fO [11,4] "elements" "Counter.elements" (v "collections" 380) 137,
 t0,
 f0,
 tu #[v "args" 453,v "kwds" 454,v "n" 455],
 t0,
 fN [11,5] "fromkeys" "Counter.fromkeys",
 cD "fromkeys" "Counter.fromkeys" 450 73 0 0 0 15 139 456,
 fO [11,5] "fromkeys" "Counter.fromkeys" (v "collections" 380) 144,
 tu #[.none],
 tu #[r 96],
 tu #[v "__class__" 462],
 f0,
 tu #[v "self" 463,v "iterable" 464,v "kwds" 465,v "self_get" 466,v "elem" 467,v "count" 468],
 t0,
 fN [11,6] "update" "Counter.update",
 cD "update" "Counter.update" 459 79 2 2 0 11 148 469,
 tO "function" (F [11,6] (q "update") (q "Counter.update") 3 [((q "__class__"),96)] (r 146) .none .none (v "collections" 380) none (r 153) (r 147) 0),
 tu #[.none]]
noncomputable def ob156 (P : Params) : List Obj:=[
 t0,
 f0,
 tu #[v "self" 475,v "iterable" 476,v "kwds" 477],
 t0,
 fN [11,7] "subtract" "Counter.subtract",
 cD "subtract" "Counter.subtract" 472 93 2 2 0 11 156 478,
 tO "function" (F [11,7] (q "subtract") (q "Counter.subtract") 3 [] (r 155) .none .none (v "collections" 380) none (r 161) .none 0),
 t0,
 f0,
 tu #[v "self" 484],
 t0,
 fN [11,8] "copy" "Counter.copy",
 cD "copy" "Counter.copy" 481 96 1 0 0 3 163 485,
 fO [11,8] "copy" "Counter.copy" (v "collections" 380) 168,
 t0,
 f0,
 tu #[v "self" 491],
 t0,
 fN [11,9] "__reduce__" "Counter.__reduce__",
 cD "__reduce__" "Counter.__reduce__" 488 99 1 0 0 3 170 492,
 fO [11,9] "__reduce__" "Counter.__reduce__" (v "collections" 380) 175,
 tu #[r 96],
 tu #[v "__class__" 498],
 f0,
 tu #[v "self" 499,v "elem" 500],
 t0,
 fN [11,10] "__delitem__" "Counter.__delitem__",
 cD "__delitem__" "Counter.__delitem__" 495 102 2 0 0 3 178 501,
 tO "function" (F [11,10] (q "__delitem__") (q "Counter.__delitem__") 3 [((q "__class__"),96)] .none .none .none (v "collections" 380) none (r 183) (r 177) 0),
 t0,
 f0,
 tu #[v "self" 507,v "name" 508,v "d" 509],
 t0,
 fN [11,11] "__repr__" "Counter.__repr__",
 cD "__repr__" "Counter.__repr__" 504 106 1 0 0 3 185 510,
 fO [11,11] "__repr__" "Counter.__repr__" (v "collections" 380) 190,
 t0,
 f0,
 tu #[v "self" 516,v "other" 517],
 tu #[v "self" 518,v "other" 519],
 fN [11,12] "__eq__" "Counter.__eq__",
 cD "__eq__" "Counter.__eq__" 513 117 2 0 0 3 192 520,
 fO [11,12] "__eq__" "Counter.__eq__" (v "collections" 380) 197,
 t0,
 f0,
 tu #[v "self" 526,v "other" 527],
 t0,
 fN [11,13] "__ne__" "Counter.__ne__",
 cD "__ne__" "Counter.__ne__" 523 122 2 0 0 3 199 528,
 fO [11,13] "__ne__" "Counter.__ne__" (v "collections" 380) 204,
 t0,
 f0,
 tu #[v "self" 534,v "other" 535],
 tu #[v "self" 536,v "other" 537],
 fN [11,14] "__le__" "Counter.__le__",
 cD "__le__" "Counter.__le__" 531 127 2 0 0 3 206 538,
 fO [11,14] "__le__" "Counter.__le__" (v "collections" 380) 211,
 t0,
 f0,
 tu #[v "self" 544,v "other" 545]]
noncomputable def ob216 (P : Params) : List Obj:=[
 t0,
 fN [11,15] "__lt__" "Counter.__lt__",
 cD "__lt__" "Counter.__lt__" 541 132 2 0 0 3 213 546,
 fO [11,15] "__lt__" "Counter.__lt__" (v "collections" 380) 218,
 t0,
 f0,
 tu #[v "self" 552,v "other" 553],
 tu #[v "self" 554,v "other" 555],
 fN [11,16] "__ge__" "Counter.__ge__",
 cD "__ge__" "Counter.__ge__" 549 137 2 0 0 3 220 556,
 fO [11,16] "__ge__" "Counter.__ge__" (v "collections" 380) 225,
 t0,
 f0,
 tu #[v "self" 562,v "other" 563],
 t0,
 fN [11,17] "__gt__" "Counter.__gt__",
 cD "__gt__" "Counter.__gt__" 559 142 2 0 0 3 227 564,
 fO [11,17] "__gt__" "Counter.__gt__" (v "collections" 380) 232,
 t0,
 f0,
 tu #[v "self" 570,v "other" 571,v "result" 572,v "elem" 573,v "count" 574,v "newcount" 575],
 t0,
 fN [11,18] "__add__" "Counter.__add__",
 cD "__add__" "Counter.__add__" 567 147 2 0 0 3 234 576,
 fO [11,18] "__add__" "Counter.__add__" (v "collections" 380) 239,
 t0,
 f0,
 tu #[v "self" 582,v "other" 583,v "result" 584,v "elem" 585,v "count" 586,v "newcount" 587],
 t0,
 fN [11,19] "__sub__" "Counter.__sub__",
 cD "__sub__" "Counter.__sub__" 579 160 2 0 0 3 241 588,
 fO [11,19] "__sub__" "Counter.__sub__" (v "collections" 380) 246,
 t0,
 f0,
 tu #[v "self" 594,v "other" 595,v "result" 596,v "elem" 597,v "count" 598,v "other_count" 599,v "newcount" 600],
 t0,
 fN [11,20] "__or__" "Counter.__or__",
 cD "__or__" "Counter.__or__" 591 173 2 0 0 3 248 601,
 fO [11,20] "__or__" "Counter.__or__" (v "collections" 380) 253,
 t0,
 f0,
 tu #[v "self" 607,v "other" 608,v "result" 609,v "elem" 610,v "count" 611,v "other_count" 612,v "newcount" 613],
 t0,
 fN [11,21] "__and__" "Counter.__and__",
 cD "__and__" "Counter.__and__" 604 187 2 0 0 3 255 614,
 fO [11,21] "__and__" "Counter.__and__" (v "collections" 380) 260,
 t0,
 f0,
 tu #[v "self" 620,v "result" 621,v "elem" 622,v "count" 623],
 t0,
 fN [11,22] "__pos__" "Counter.__pos__",
 cD "__pos__" "Counter.__pos__" 617 198 1 0 0 3 262 624,
 fO [11,22] "__pos__" "Counter.__pos__" (v "collections" 380) 267,
 t0,
 f0,
 tu #[v "self" 630,v "result" 631,v "elem" 632,v "count" 633],
 t0,
 fN [11,23] "__neg__" "Counter.__neg__",
 cD "__neg__" "Counter.__neg__" 627 205 1 0 0 3 269 634,
 fO [11,23] "__neg__" "Counter.__neg__" (v "collections" 380) 274]
noncomputable def ob276 (P : Params) : List Obj:=[
 t0,
 f0,
 fN [11,24] "_keep_positive" "Counter._keep_positive",
 cO "_keep_positive" "Counter._keep_positive" 637 212 1 0 0 3 true (r 276) (r 277) .none .none (r 278) 640,
 fO [11,24] "_keep_positive" "Counter._keep_positive" (v "collections" 380) 279,
 t0,
 f0,
 tu #[v "self" 646,v "other" 647,v "elem" 648,v "count" 649],
 t0,
 fN [11,25] "__iadd__" "Counter.__iadd__",
 cD "__iadd__" "Counter.__iadd__" 643 218 2 0 0 3 281 650,
 fO [11,25] "__iadd__" "Counter.__iadd__" (v "collections" 380) 286,
 t0,
 f0,
 tu #[v "self" 656,v "other" 657,v "elem" 658,v "count" 659],
 t0,
 fN [11,26] "__isub__" "Counter.__isub__",
 cD "__isub__" "Counter.__isub__" 653 223 2 0 0 3 288 660,
 fO [11,26] "__isub__" "Counter.__isub__" (v "collections" 380) 293,
 t0,
 f0,
 tu #[v "self" 666,v "other" 667,v "elem" 668,v "other_count" 669,v "count" 670],
 t0,
 fN [11,27] "__ior__" "Counter.__ior__",
 cD "__ior__" "Counter.__ior__" 663 228 2 0 0 3 295 671,
 fO [11,27] "__ior__" "Counter.__ior__" (v "collections" 380) 300,
 t0,
 f0,
 tu #[v "self" 677,v "other" 678,v "elem" 679,v "count" 680,v "other_count" 681],
 t0,
 fN [11,28] "__iand__" "Counter.__iand__",
 cD "__iand__" "Counter.__iand__" 674 235 2 0 0 3 302 682,
 fO [11,28] "__iand__" "Counter.__iand__" (v "collections" 380) 307,
 t0,
 dO #[E P "__module__" 403 (v "collections" 380),E P "__firstlineno__" 407 (.int 45 406),E P "__init__" 417 (r 109),E P "__missing__" 425 (r 116),E P "total" 432 (r 123),E P "most_common" 442 (r 131),E P "elements" 449 (r 138),E P "fromkeys" 458 (r 145),E P "update" 471 (r 154),E P "subtract" 480 (r 162),E P "copy" 487 (r 169),E P "__reduce__" 494 (r 176),E P "__delitem__" 503 (r 184),E P "__repr__" 512 (r 191),E P "__eq__" 522 (r 198),E P "__ne__" 530 (r 205),E P "__le__" 540 (r 212),E P "__lt__" 548 (r 219),E P "__ge__" 558 (r 226),E P "__gt__" 566 (r 233),E P "__add__" 578 (r 240),E P "__sub__" 590 (r 247),E P "__or__" 603 (r 254),E P "__and__" 616 (r 261),E P "__pos__" 626 (r 268),E P "__neg__" 636 (r 275),E P "_keep_positive" 642 (r 280),E P "__iadd__" 652 (r 287),E P "__isub__" 662 (r 294),E P "__ior__" 673 (r 301),E P "__iand__" 684 (r 308),E P "__static_\x61ttributes__" 685 (r 309),E P "__dict__" 688 (r 312),E P "__weakref__" 690 (r 313),E P "__doc__" 691 .none,E P "__hash__" 692 .none] 6,
 ⟨.type "type",none,(.cls { name:=(q "Counter"),bases:=[.type "dict"],mro:=[r 311,.type "dict",.type "object"],ns:=310,qualname:=(q "Counter"),hasDict:=true,slotNames:=[],subclasses:=[],abstract:=false,collection:=none,hasDel:=false }),#[(some (r 93)),none,(some (v "Counter" 396)),(some (v "Counter" 404)),(some (.builtin "dict.__new__")),(some (.bool true))]⟩,
 tO "getset_descriptor" (.fields #[v "__dict__" 687,r 311,.builtin "function.__dict__",.builtin "function.__dict__#set"]),
 tO "getset_descriptor" (.fields #[v "__weakref__" 689,r 311,.builtin "ExceptionGroup.__weakref__",.none]),
 tO "super" (.fields #[r 311,r 311,r 311]),
 tO "builtin_function_or_method" (.fields #[.builtin "object.__init_subclass__",r 311]),
 t0,
 f0,
 tu #[v "data" 700,v "pairs" 701],
 t0,
 fN [13] "mode" "mode",
 cD "mode" "mode" 697 242 1 0 0 3 316 702,
 fO [13] "mode" "mode" (v "cpy313.statistics" 695) 321,
 t0,
 f0,
 fN [14] "multimode" "multimode",
 cO "multimode" "multimode" 705 248 1 0 0 3 true (r 323) (r 324) .none .none (r 325) 708,
 fO [14] "multimode" "multimode" (v "cpy313.statistics" 695) 326,
 tO "list" (.seq #[.int 14 716,.int 14 717,.int 4 718,.int 1 719,.int 1 720,.int 9 721,.int 0 722,.int 64 723,.int 0 724,.int 1342177280 725,.int 0 726,.int 0 727,.int 0 728,.int 0 729,.int 0 730,.int 17 731,.int 0 732,.int 13 733,.int 11 734,.int 9 735,.int 0 736,.int 64 737,.int 0 738,.int 1342177280 739,.int 0 740,.int 0 741,.int 0 742,.int 0 743,.int 0 744,.int 17 745,.int 1 746,.int 1 747] 0),
 dO #[] 0,
 tu #[.none,.none],
 tu #[j0 14,j0 14,j0 4,j0 1,j0 1,j0 9,j0 0,j0 64,j0 0,j0 1342177280,j0 0,j0 0,j0 0,j0 0,j0 0,j0 17,j0 0,j0 13,j0 11,j0 9,j0 0,j0 64,j0 0,j0 1342177280,j0 0,j0 0,j0 0,j0 0,j0 0,j0 17,j0 1,j0 1],
 tO "re.Pattern" (.fields #[v "([&~|])" 714,.int 32 749,j0 1,.none,.none,r 331,j0 0]),
 t0,
 f0,
 tu #[v "pat" 754,v "STAR" 755,v "parts" 756]]
noncomputable def ob336 (P : Params) : List Obj:=[
 t0,
 fN [17] "translate" "translate",
 cD "translate" "translate" 751 256 1 0 0 3 333 757,
 fO [17] "translate" "translate" (v "cpy313.fnmatch" 711) 338,
 tO "bytes_iterator" (.fields #[.none,j0 24]),
 dO #[⟨40,.int 40 763,v "\\(" 767⟩,⟨41,.int 41 769,v "\\)" 773⟩,⟨91,.int 91 775,v "\\[" 779⟩,⟨93,.int 93 781,v "\\]" 785⟩,⟨123,.int 123 787,v "\\{" 791⟩,⟨125,.int 125 793,v "\\}" 797⟩,⟨63,.int 63 799,v "\\?" 803⟩,⟨42,.int 42 805,v "\\*" 809⟩,⟨43,.int 43 811,v "\\+" 815⟩,⟨45,.int 45 817,v "\\-" 821⟩,⟨124,.int 124 823,v "\\|" 827⟩,⟨94,.int 94 829,v "\\^" 833⟩,⟨36,.int 36 835,v "\\$" 839⟩,⟨92,.int 92 841,v "\\\\" 845⟩,⟨46,.int 46 847,v "\\." 851⟩,⟨38,.int 38 853,v "\\&" 857⟩,⟨126,.int 126 859,v "\\~" 863⟩,⟨35,.int 35 865,v "\\#" 869⟩,⟨32,.int 32 871,v "\\ " 875⟩,⟨9,.int 9 877,.str ⟨#[92,9]⟩ 881⟩,⟨10,.int 10 883,.str ⟨#[92,10]⟩ 887⟩,⟨13,.int 13 889,.str ⟨#[92,13]⟩ 893⟩,⟨11,.int 11 895,.str ⟨#[92,11]⟩ 899⟩,⟨12,.int 12 901,.str ⟨#[92,12]⟩ 905⟩] 24,
 dO #[] 2,
 t0,
 tO "StopIteration" (.fields #[r 343,.none,.none,.none,.bool false,.none]),
 t0,
 f0,
 tu #[v "pattern" 911],
 t0,
 fN [20] "escape" "escape",
 cD "escape" "escape" 908 262 1 0 0 3 345 912,
 fO [20] "escape" "escape" (v "re" 760) 350,
 t0,
 f0,
 tu #[v "pat" 920,v "STAR" 921,v "QUESTION_MARK" 922,v "res" 923,v "add" 924,v "i" 925,v "n" 926,v "c" 927,v "j" 928,v "stuff" 929,v "chunks" 930,v "k" 931,v "chunk" 932],
 t0,
 fN [22] "_translate" "_translate",
 cD "_translate" "_translate" 917 269 3 0 0 3 352 933,
 fO [22] "_translate" "_translate" (v "cpy313.fnmatch" 915) 357,
 t0,
 f0,
 tu #[v "inp" 939,v "STAR" 940,v "res" 941,v "add" 942,v "i" 943,v "n" 944,v "fixed" 945],
 t0,
 fN [23] "_join_translated_parts" "_join_translated_parts",
 cD "_join_translated_parts" "_join_translated_parts" 936 331 2 0 0 3 359 946,
 fO [23] "_join_translated_parts" "_join_translated_parts" (v "cpy313.fnmatch" 915) 364,
 tO "list" (.seq #[.int 14 952,.int 17 953,.int 4 954,.int 1 955,.int 1 956,.int 21 957,.int 9 958,.int 0 959,.int 604043296 960,.int 1 961,.int 0 962,.int 0 963,.int 0 964,.int 0 965,.int 0 966,.int 8 967,.int 4 968,.int 0 969,.int 13 970,.int 14 971,.int 21 972,.int 9 973,.int 0 974,.int 604043296 975,.int 1 976,.int 0 977,.int 0 978,.int 0 979,.int 0 980,.int 0 981,.int 8 982,.int 4 983,.int 0 984,.int 1 985] 0),
 dO #[] 0,
 tu #[.none],
 tu #[j0 14,j0 17,j0 4,j0 1,j0 1,j0 21,j0 9,j0 0,j0 604043296,j0 1,j0 0,j0 0,j0 0,j0 0,j0 0,j0 8,j0 4,j0 0,j0 13,j0 14,j0 21,j0 9,j0 0,j0 604043296,j0 1,j0 0,j0 0,j0 0,j0 0,j0 0,j0 8,j0 4,j0 0,j0 1],
 tO "re.Pattern" (.fields #[v "[^\\w@%+=:,./-]" 950,.int 256 987,j0 0,.none,.none,r 369,j0 0]),
 t0,
 f0,
 tu #[v "n" 994,v "what" 995],
 t0,
 fN [26] "_whence" "_whence",
 cD "_whence" "_whence" 991 360 2 0 0 3 371 996,
 fO [26] "_whence" "_whence" (v "io" 989) 376,
 t0,
 f0,
 tu #[v "n" 1002,v "what" 1003],
 t0,
 fN [27] "_index" "_index",
 cD "_index" "_index" 999 365 2 0 0 3 378 1004,
 fO [27] "_index" "_index" (v "io" 989) 383,
 tu #[.type "OSError",.type "ValueError"],
 tO "builtin_function_or_method" (.fields #[.builtin "type.__prepare__",.type "type"]),
 dO #[E P "__module__" 1014 (v "io" 1019),E P "__qualname__" 1016 (v "UnsupportedOperation" 1015),E P "__firstlineno__" 1018 (.int 372 1017),E P "__static_\x61ttributes__" 1021 (r 392)] 4,
 t0,
 f0,
 cO "UnsupportedOperation" "UnsupportedOperation" 1009 372 0 0 0 0 false (r 388) (r 389) .none .none .none 1012,
 ⟨.type "frame",none,.plain,#[(some (r 390)),(some (r 3)),(some (r 387)),none,(some (v "io" 989)),none,(some (r 0))]⟩,
 t0,
 dO #[E P "__module__" 1014 (v "io" 1019),E P "__firstlineno__" 1018 (.int 372 1017),E P "__static_\x61ttributes__" 1021 (r 392),E P "__weakref__" 1023 (r 395),E P "__doc__" 1024 .none] 3,
 ⟨.type "type",none,(.cls { name:=(q "UnsupportedOperation"),bases:=[.type "OSError",.type "ValueError"],mro:=[r 394,.type "OSError",.type "ValueError",.type "Exception",.type "BaseException",.type "object"],ns:=393,qualname:=(q "UnsupportedOperation"),hasDict:=true,slotNames:=[],subclasses:=[],abstract:=false,collection:=none,hasDel:=false }),#[(some (r 385)),none,(some (v "UnsupportedOperation" 1007)),(some (v "UnsupportedOperation" 1015)),(some (.builtin "OSError.__new__")),(some (.bool true))]⟩,
 tO "getset_descriptor" (.fields #[v "__weakref__" 1022,r 394,.builtin "ExceptionGroup.__weakref__",.none])]
noncomputable def ob396 (P : Params) : List Obj:=[
 tO "super" (.fields #[r 394,r 394,r 394]),
 tO "builtin_function_or_method" (.fields #[.builtin "object.__init_subclass__",r 394]),
 t0,
 tO "builtin_function_or_method" (.fields #[.builtin "type.__prepare__",.type "type"]),
 dO #[E P "__module__" 1036 (v "io" 1041),E P "__qualname__" 1038 (v "IOBase" 1037),E P "__firstlineno__" 1040 (.int 374 1039),E P "__new__" 1051 (r 411),E P "__static_\x61ttributes__" 1052 (r 412)] 5,
 t0,
 nO (.fields #[j0 377,j0 4,r 410]),
 cO "IOBase" "IOBase" 1031 374 0 0 0 0 false (r 401) (r 402) .none .none .none 1034,
 ⟨.type "frame",none,.plain,#[(some (r 403)),(some (r 3)),(some (r 400)),none,(some (v "io" 989)),none,(some (r 0))]⟩,
 t0,
 f0,
 tu #[v "cls" 1046,v "args" 1047,v "kwargs" 1048],
 t0,
 fN [29,1] "__new__" "IOBase.__new__",
 cD "__new__" "IOBase.__new__" 1043 377 1 1 0 15 405 1049,
 fO [29,1] "__new__" "IOBase.__new__" (v "io" 989) 410,
 t0,
 dO #[E P "__module__" 1036 (v "io" 1041),E P "__firstlineno__" 1040 (.int 374 1039),E P "__new__" 1051 (r 415),E P "__static_\x61ttributes__" 1052 (r 412),E P "__dict__" 1055 (r 416),E P "__weakref__" 1057 (r 417),E P "__doc__" 1058 .none] 4,
 ⟨.type "type",none,(.cls { name:=(q "IOBase"),bases:=[.type "object"],mro:=[r 414,.type "object"],ns:=413,qualname:=(q "IOBase"),hasDict:=true,slotNames:=[],subclasses:=[r 429,r 441],abstract:=false,collection:=none,hasDel:=false }),#[none,none,(some (v "IOBase" 1029)),(some (v "IOBase" 1037)),(some .none),(some (.bool true))]⟩,
 tO "staticmethod" (.fields #[r 411]),
 tO "getset_descriptor" (.fields #[v "__dict__" 1054,r 414,.builtin "function.__dict__",.builtin "function.__dict__#set"]),
 tO "getset_descriptor" (.fields #[v "__weakref__" 1056,r 414,.builtin "ExceptionGroup.__weakref__",.none]),
 tO "super" (.fields #[r 414,r 414,r 414]),
 tO "builtin_function_or_method" (.fields #[.builtin "object.__init_subclass__",r 414]),
 tu #[r 414],
 tO "builtin_function_or_method" (.fields #[.builtin "type.__prepare__",.type "type"]),
 dO #[E P "__module__" 1068 (v "io" 1073),E P "__qualname__" 1070 (v "BufferedIOBase" 1069),E P "__firstlineno__" 1072 (.int 381 1071),E P "__static_\x61ttributes__" 1075 (r 427)] 4,
 t0,
 f0,
 cO "BufferedIOBase" "BufferedIOBase" 1063 381 0 0 0 0 false (r 423) (r 424) .none .none .none 1066,
 ⟨.type "frame",none,.plain,#[(some (r 425)),(some (r 3)),(some (r 422)),none,(some (v "io" 989)),none,(some (r 0))]⟩,
 t0,
 dO #[E P "__module__" 1068 (v "io" 1073),E P "__firstlineno__" 1072 (.int 381 1071),E P "__static_\x61ttributes__" 1075 (r 427),E P "__doc__" 1076 .none] 2]
noncomputable def ob430 (P : Params) : List Obj:=[
 tO "super" (.fields #[r 429,r 429,r 429]),
 tO "builtin_function_or_method" (.fields #[.builtin "object.__init_subclass__",r 429]),
 tu #[r 414],
 tO "builtin_function_or_method" (.fields #[.builtin "type.__prepare__",.type "type"]),
 dO #[E P "__module__" 1086 (v "io" 1091),E P "__qualname__" 1088 (v "TextIOBase" 1087),E P "__firstlineno__" 1090 (.int 383 1089),E P "__static_\x61ttributes__" 1093 (r 439)] 4,
 t0,
 f0,
 cO "TextIOBase" "TextIOBase" 1081 383 0 0 0 0 false (r 435) (r 436) .none .none .none 1084,
 ⟨.type "frame",none,.plain,#[(some (r 437)),(some (r 3)),(some (r 434)),none,(some (v "io" 989)),none,(some (r 0))]⟩,
 t0,
 dO #[E P "__module__" 1086 (v "io" 1091),E P "__firstlineno__" 1090 (.int 383 1089),E P "__static_\x61ttributes__" 1093 (r 439),E P "__doc__" 1094 .none] 2]
noncomputable def ob442 (P : Params) : List Obj:=[
 tO "super" (.fields #[r 441,r 441,r 441]),
 tO "builtin_function_or_method" (.fields #[.builtin "object.__init_subclass__",r 441]),
 tu #[r 429],
 tO "builtin_function_or_method" (.fields #[.builtin "type.__prepare__",.type "type"]),
 dO #[E P "__module__" 1104 (v "_io" 1109),E P "__qualname__" 1106 (v "BytesIO" 1105),E P "__firstlineno__" 1108 (.int 385 1107),E P "__init__" 1118 (r 458),E P "_BytesIO__check" 1125 (r 465),E P "_BytesIO__line" 1136 (r 472),E P "closed" 1144 (r 480),E P "close" 1151 (r 487),E P "__enter__" 1158 (r 494),E P "__exit__" 1166 (r 501),E P "readable" 1173 (r 508),E P "writable" 1180 (r 515),E P "seekable" 1187 (r 522),E P "isatty" 1194 (r 529),E P "flush" 1201 (r 536),E P "fileno" 1208 (r 543),E P "detach" 1215 (r 550),E P "getvalue" 1222 (r 557),E P "getbuffer" 1229 (r 564),E P "tell" 1236 (r 571),E P "seek" 1246 (r 579),E P "truncate" 1254 (r 587),E P "read" 1266 (r 595),E P "read1" 1276 (r 603),E P "readinto" 1286 (r 610),E P "readinto1" 1294 (r 617),E P "readline" 1304 (r 625),E P "readlines" 1312 (r 633),E P "__iter__" 1319 (r 640),E P "__next__" 1327 (r 647),E P "write" 1337 (r 654),E P "writelines" 1345 (r 661),E P "__repr__" 1352 (r 668),E P "__static_\x61ttributes__" 1355 (r 669)] 34,
 t0,
 nO (.fields #[j0 388,j0 4,r 457,j0 394,j0 4,r 464,j0 398,j0 4,r 471,j0 412,j0 4,r 478,j0 415,j0 4,r 486,j0 418,j0 4,r 493,j0 422,j0 4,r 500,j0 425,j0 4,r 507,j0 429,j0 4,r 514,j0 433,j0 4,r 521,j0 437,j0 4,r 528,j0 441,j0 4,r 535,j0 444,j0 4,r 542,j0 447,j0 4,r 549,j0 450,j0 4,r 556,j0 453,j0 4,r 563,j0 456,j0 4,r 570,j0 460,j0 4,r 578,j0 477,j0 4,r 586,j0 480,j0 4,r 594,j0 494,j0 4,r 602,j0 497,j0 4,r 609,j0 511,j0 4,r 616,j0 514,j0 4,r 624,j0 521,j0 4,r 632,j0 524,j0 4,r 639,j0 527,j0 4,r 646,j0 534,j0 4,r 653,j0 550,j0 4,r 660,j0 553,j0 4,r 667]),
 cO "BytesIO" "BytesIO" 1099 385 0 0 0 0 false (r 447) (r 448) .none .none .none 1102,
 ⟨.type "frame",none,.plain,#[(some (r 449)),(some (r 3)),(some (r 446)),none,(some (v "io" 989)),none,(some (r 0))]⟩,
 tu #[.none],
 t0,
 f0,
 tu #[v "self" 1114,v "initial_bytes" 1115],
 t0,
 fN [32,1] "__init__" "BytesIO.__init__",
 cD "__init__" "BytesIO.__init__" 1111 388 2 0 0 3 452 1116,
 tO "function" (F [32,1] (q "__init__") (q "BytesIO.__init__") 3 [] (r 451) .none .none (v "io" 989) none (r 457) .none 0),
 t0,
 f0,
 tu #[v "self" 1122],
 t0,
 fN [32,2] "__check" "BytesIO.__check",
 cD "__check" "BytesIO.__check" 1119 394 1 0 0 3 459 1123,
 fO [32,2] "__check" "BytesIO.__check" (v "io" 989) 464,
 t0,
 f0,
 tu #[v "self" 1129,v "limit" 1130,v "start" 1131,v "stop" 1132,v "i" 1133],
 t0,
 fN [32,3] "__line" "BytesIO.__line",
 cD "__line" "BytesIO.__line" 1126 398 2 0 0 3 466 1134,
 fO [32,3] "__line" "BytesIO.__line" (v "io" 989) 471,
 t0,
 f0,
 tu #[v "self" 1140],
 t0,
 fN [32,4] "closed" "BytesIO.closed",
 cD "closed" "BytesIO.closed" 1137 411 1 0 0 3 473 1141,
 fO [32,4] "closed" "BytesIO.closed" (v "io" 989) 478,
 tO "property" (.fields #[r 479,.none,.none,.none,v "closed" 1144,.bool false]),
 t0,
 f0,
 tu #[v "self" 1148],
 t0,
 fN [32,5] "close" "BytesIO.close",
 cD "close" "BytesIO.close" 1145 415 1 0 0 3 481 1149,
 fO [32,5] "close" "BytesIO.close" (v "io" 989) 486,
 t0,
 f0,
 tu #[v "self" 1155],
 t0,
 fN [32,6] "__enter__" "BytesIO.__enter__",
 cD "__enter__" "BytesIO.__enter__" 1152 418 1 0 0 3 488 1156,
 fO [32,6] "__enter__" "BytesIO.__enter__" (v "io" 989) 493,
 t0,
 f0,
 tu #[v "self" 1162,v "args" 1163],
 t0,
 fN [32,7] "__exit__" "BytesIO.__exit__",
 cD "__exit__" "BytesIO.__exit__" 1159 422 1 0 0 7 495 1164,
 fO [32,7] "__exit__" "BytesIO.__exit__" (v "io" 989) 500]
noncomputable def ob502 (P : Params) : List Obj:=[
 t0,
 f0,
 tu #[v "self" 1170],
 t0,
 fN [32,8] "readable" "BytesIO.readable",
 cD "readable" "BytesIO.readable" 1167 425 1 0 0 3 502 1171,
 fO [32,8] "readable" "BytesIO.readable" (v "io" 989) 507,
 t0,
 f0,
 tu #[v "self" 1177],
 t0,
 fN [32,9] "writable" "BytesIO.writable",
 cD "writable" "BytesIO.writable" 1174 429 1 0 0 3 509 1178,
 fO [32,9] "writable" "BytesIO.writable" (v "io" 989) 514,
 t0,
 f0,
 tu #[v "self" 1184],
 t0,
 fN [32,10] "seekable" "BytesIO.seekable",
 cD "seekable" "BytesIO.seekable" 1181 433 1 0 0 3 516 1185,
 fO [32,10] "seekable" "BytesIO.seekable" (v "io" 989) 521,
 t0,
 f0,
 tu #[v "self" 1191],
 t0,
 fN [32,11] "isatty" "BytesIO.isatty",
 cD "isatty" "BytesIO.isatty" 1188 437 1 0 0 3 523 1192,
 fO [32,11] "isatty" "BytesIO.isatty" (v "io" 989) 528,
 t0,
 f0,
 tu #[v "self" 1198],
 t0,
 fN [32,12] "flush" "BytesIO.flush",
 cD "flush" "BytesIO.flush" 1195 441 1 0 0 3 530 1199,
 fO [32,12] "flush" "BytesIO.flush" (v "io" 989) 535,
 t0,
 f0,
 tu #[v "self" 1205],
 t0,
 fN [32,13] "fileno" "BytesIO.fileno",
 cD "fileno" "BytesIO.fileno" 1202 444 1 0 0 3 537 1206,
 fO [32,13] "fileno" "BytesIO.fileno" (v "io" 989) 542,
 t0,
 f0,
 tu #[v "self" 1212],
 t0,
 fN [32,14] "detach" "BytesIO.detach",
 cD "detach" "BytesIO.detach" 1209 447 1 0 0 3 544 1213,
 fO [32,14] "detach" "BytesIO.detach" (v "io" 989) 549,
 t0,
 f0,
 tu #[v "self" 1219],
 t0,
 fN [32,15] "getvalue" "BytesIO.getvalue",
 cD "getvalue" "BytesIO.getvalue" 1216 450 1 0 0 3 551 1220,
 fO [32,15] "getvalue" "BytesIO.getvalue" (v "io" 989) 556,
 t0,
 f0,
 tu #[v "self" 1226],
 t0]
noncomputable def ob562 (P : Params) : List Obj:=[
 fN [32,16] "getbuffer" "BytesIO.getbuffer",
 cD "getbuffer" "BytesIO.getbuffer" 1223 453 1 0 0 3 558 1227,
 fO [32,16] "getbuffer" "BytesIO.getbuffer" (v "io" 989) 563,
 t0,
 f0,
 tu #[v "self" 1233],
 t0,
 fN [32,17] "tell" "BytesIO.tell",
 cD "tell" "BytesIO.tell" 1230 456 1 0 0 3 565 1234,
 fO [32,17] "tell" "BytesIO.tell" (v "io" 989) 570,
 tu #[.int 0 1237],
 t0,
 f0,
 tu #[v "self" 1241,v "pos" 1242,v "whence" 1243],
 t0,
 fN [32,18] "seek" "BytesIO.seek",
 cD "seek" "BytesIO.seek" 1238 460 3 3 0 3 573 1244,
 tO "function" (F [32,18] (q "seek") (q "BytesIO.seek") 3 [] (r 572) .none .none (v "io" 989) none (r 578) .none 0),
 tu #[.none],
 t0,
 f0,
 tu #[v "self" 1250,v "size" 1251],
 t0,
 fN [32,19] "truncate" "BytesIO.truncate",
 cD "truncate" "BytesIO.truncate" 1247 477 2 2 0 3 581 1252,
 tO "function" (F [32,19] (q "truncate") (q "BytesIO.truncate") 3 [] (r 580) .none .none (v "io" 989) none (r 586) .none 0),
 tu #[.int (-1) 1256],
 t0,
 f0,
 tu #[v "self" 1260,v "size" 1261,v "start" 1262,v "stop" 1263],
 t0,
 fN [32,20] "read" "BytesIO.read",
 cD "read" "BytesIO.read" 1257 480 2 2 0 3 589 1264,
 tO "function" (F [32,20] (q "read") (q "BytesIO.read") 3 [] (r 588) .none .none (v "io" 989) none (r 594) .none 0),
 tu #[.int (-1) 1268],
 t0,
 f0,
 tu #[v "self" 1272,v "size" 1273],
 t0,
 fN [32,21] "read1" "BytesIO.read1",
 cD "read1" "BytesIO.read1" 1269 494 2 2 0 3 597 1274,
 tO "function" (F [32,21] (q "read1") (q "BytesIO.read1") 3 [] (r 596) .none .none (v "io" 989) none (r 602) .none 0),
 t0,
 f0,
 tu #[v "self" 1280,v "buffer" 1281,v "start" 1282,v "n" 1283],
 t0,
 fN [32,22] "readinto" "BytesIO.readinto",
 cD "readinto" "BytesIO.readinto" 1277 497 2 2 0 3 604 1284,
 fO [32,22] "readinto" "BytesIO.readinto" (v "io" 989) 609,
 t0,
 f0,
 tu #[v "self" 1290,v "buffer" 1291],
 t0,
 fN [32,23] "readinto1" "BytesIO.readinto1",
 cD "readinto1" "BytesIO.readinto1" 1287 511 2 2 0 3 611 1292,
 fO [32,23] "readinto1" "BytesIO.readinto1" (v "io" 989) 616,
 tu #[.int (-1) 1296],
 t0,
 f0,
 tu #[v "self" 1300,v "size" 1301]]
noncomputable def ob622 (P : Params) : List Obj:=[
 t0,
 fN [32,24] "readline" "BytesIO.readline",
 cD "readline" "BytesIO.readline" 1297 514 2 2 0 3 619 1302,
 tO "function" (F [32,24] (q "readline") (q "BytesIO.readline") 3 [] (r 618) .none .none (v "io" 989) none (r 624) .none 0),
 tu #[.none],
 t0,
 f0,
 tu #[v "self" 1308,v "size" 1309],
 t0,
 fN [32,25] "readlines" "BytesIO.readlines",
 cD "readlines" "BytesIO.readlines" 1305 521 2 2 0 3 627 1310,
 tO "function" (F [32,25] (q "readlines") (q "BytesIO.readlines") 3 [] (r 626) .none .none (v "io" 989) none (r 632) .none 0),
 t0,
 f0,
 tu #[v "self" 1316],
 t0,
 fN [32,26] "__iter__" "BytesIO.__iter__",
 cD "__iter__" "BytesIO.__iter__" 1313 524 1 0 0 3 634 1317,
 fO [32,26] "__iter__" "BytesIO.__iter__" (v "io" 989) 639,
 t0,
 f0,
 tu #[v "self" 1323,v "line" 1324],
 t0,
 fN [32,27] "__next__" "BytesIO.__next__",
 cD "__next__" "BytesIO.__next__" 1320 527 1 0 0 3 641 1325,
 fO [32,27] "__next__" "BytesIO.__next__" (v "io" 989) 646,
 t0,
 f0,
 tu #[v "self" 1331,v "b" 1332,v "n" 1333,v "start" 1334],
 t0,
 fN [32,28] "write" "BytesIO.write",
 cD "write" "BytesIO.write" 1328 534 2 2 0 3 648 1335,
 fO [32,28] "write" "BytesIO.write" (v "io" 989) 653,
 t0,
 f0,
 tu #[v "self" 1341,v "lines" 1342],
 t0,
 fN [32,29] "writelines" "BytesIO.writelines",
 cD "writelines" "BytesIO.writelines" 1338 550 2 2 0 3 655 1343,
 fO [32,29] "writelines" "BytesIO.writelines" (v "io" 989) 660,
 t0,
 f0,
 tu #[v "self" 1349],
 t0,
 fN [32,30] "__repr__" "BytesIO.__repr__",
 cD "__repr__" "BytesIO.__repr__" 1346 553 1 0 0 3 662 1350,
 fO [32,30] "__repr__" "BytesIO.__repr__" (v "io" 989) 667,
 tu #[v "__buf" 1353,v "__pos" 1354],
 dO #[E P "__module__" 1104 (v "_io" 1109),E P "__firstlineno__" 1108 (.int 385 1107),E P "__init__" 1118 (r 458),E P "_BytesIO__check" 1125 (r 465),E P "_BytesIO__line" 1136 (r 472),E P "closed" 1144 (r 480),E P "close" 1151 (r 487),E P "__enter__" 1158 (r 494),E P "__exit__" 1166 (r 501),E P "readable" 1173 (r 508),E P "writable" 1180 (r 515),E P "seekable" 1187 (r 522),E P "isatty" 1194 (r 529),E P "flush" 1201 (r 536),E P "fileno" 1208 (r 543),E P "detach" 1215 (r 550),E P "getvalue" 1222 (r 557),E P "getbuffer" 1229 (r 564),E P "tell" 1236 (r 571),E P "seek" 1246 (r 579),E P "truncate" 1254 (r 587),E P "read" 1266 (r 595),E P "read1" 1276 (r 603),E P "readinto" 1286 (r 610),E P "readinto1" 1294 (r 617),E P "readline" 1304 (r 625),E P "readlines" 1312 (r 633),E P "__iter__" 1319 (r 640),E P "__next__" 1327 (r 647),E P "write" 1337 (r 654),E P "writelines" 1345 (r 661),E P "__repr__" 1352 (r 668),E P "__static_\x61ttributes__" 1355 (r 669),E P "__doc__" 1356 .none] 2,
 ⟨.type "type",none,(.cls { name:=(q "BytesIO"),bases:=[r 429],mro:=[r 671,r 429,r 414,.type "object"],ns:=670,qualname:=(q "BytesIO"),hasDict:=true,slotNames:=[],subclasses:=[],abstract:=false,collection:=none,hasDel:=false }),#[(some (r 444)),none,(some (v "BytesIO" 1097)),(some (v "BytesIO" 1105)),(some .none),(some (.bool true))]⟩,
 tO "super" (.fields #[r 671,r 671,r 671]),
 tO "builtin_function_or_method" (.fields #[.builtin "object.__init_subclass__",r 671]),
 tu #[r 441],
 tO "builtin_function_or_method" (.fields #[.builtin "type.__prepare__",.type "type"]),
 dO #[E P "__module__" 1366 (v "_io" 1371),E P "__qualname__" 1368 (v "StringIO" 1367),E P "__firstlineno__" 1370 (.int 555 1369),E P "__init__" 1383 (r 688),E P "_StringIO__translated" 1392 (r 695),E P "_StringIO__check" 1399 (r 702),E P "_StringIO__check_dot" 1406 (r 709),E P "_StringIO__line" 1421 (r 716),E P "closed" 1429 (r 724),E P "line_buffering" 1437 (r 732),E P "newlines" 1445 (r 740),E P "encoding" 1453 (r 748),E P "errors" 1461 (r 756),E P "close" 1468 (r 763),E P "__enter__" 1475 (r 770),E P "__exit__" 1483 (r 777),E P "readable" 1490 (r 784),E P "writable" 1497 (r 791),E P "seekable" 1504 (r 798),E P "isatty" 1511 (r 805),E P "flush" 1518 (r 812),E P "fileno" 1525 (r 819),E P "detach" 1532 (r 826),E P "getvalue" 1539 (r 833),E P "tell" 1546 (r 840),E P "seek" 1556 (r 848),E P "truncate" 1564 (r 856),E P "read" 1576 (r 864),E P "readline" 1586 (r 872),E P "readlines" 1596 (r 880),E P "__iter__" 1603 (r 887),E P "__next__" 1611 (r 894),E P "write" 1623 (r 901),E P "writelines" 1631 (r 908),E P "__repr__" 1638 (r 915),E P "__static_\x61ttributes__" 1642 (r 916)] 36,
 t0,
 nO (.fields #[j0 558,j0 4,r 687,j0 571,j0 4,r 694,j0 579,j0 4,r 701,j0 583,j0 4,r 708,j0 587,j0 4,r 715,j0 620,j0 4,r 722,j0 624,j0 4,r 730,j0 628,j0 4,r 738,j0 632,j0 4,r 746,j0 636,j0 4,r 754,j0 639,j0 4,r 762,j0 642,j0 4,r 769,j0 646,j0 4,r 776,j0 649,j0 4,r 783,j0 653,j0 4,r 790,j0 657,j0 4,r 797,j0 661,j0 4,r 804,j0 665,j0 4,r 811,j0 668,j0 4,r 818,j0 671,j0 4,r 825,j0 674,j0 4,r 832,j0 677,j0 4,r 839,j0 681,j0 4,r 847,j0 698,j0 4,r 855,j0 701,j0 4,r 863,j0 715,j0 4,r 871,j0 722,j0 4,r 879,j0 725,j0 4,r 886,j0 729,j0 4,r 893,j0 736,j0 4,r 900,j0 755,j0 4,r 907,j0 758,j0 4,r 914]),
 cO "StringIO" "StringIO" 1361 555 0 0 0 0 false (r 677) (r 678) .none .none .none 1364,
 ⟨.type "frame",none,.plain,#[(some (r 679)),(some (r 3)),(some (r 676)),none,(some (v "io" 989)),none,(some (r 0))]⟩,
 tO "tuple" (.seq #[v "" 1373,.str ⟨#[10]⟩ 1374] 0)]
noncomputable def ob682 (P : Params) : List Obj:=[
 t0,
 f0,
 tu #[v "self" 1378,v "initial_value" 1379,v "newline" 1380],
 t0,
 fN [33,1] "__init__" "StringIO.__init__",
 cD "__init__" "StringIO.__init__" 1375 558 3 0 0 3 682 1381,
 tO "function" (F [33,1] (q "__init__") (q "StringIO.__init__") 3 [] (r 681) .none .none (v "io" 989) none (r 687) .none 0),
 t0,
 f0,
 tu #[v "self" 1387,v "s" 1388,v "newline" 1389],
 t0,
 fN [33,2] "__translated" "StringIO.__translated",
 cD "__translated" "StringIO.__translated" 1384 571 2 0 0 3 689 1390,
 fO [33,2] "__translated" "StringIO.__translated" (v "io" 989) 694,
 t0,
 f0,
 tu #[v "self" 1396],
 t0,
 fN [33,3] "__check" "StringIO.__check",
 cD "__check" "StringIO.__check" 1393 579 1 0 0 3 696 1397,
 fO [33,3] "__check" "StringIO.__check" (v "io" 989) 701,
 t0,
 f0,
 tu #[v "self" 1403],
 t0,
 fN [33,4] "__check_dot" "StringIO.__check_dot",
 cD "__check_dot" "StringIO.__check_dot" 1400 583 1 0 0 3 703 1404,
 fO [33,4] "__check_dot" "StringIO.__check_dot" (v "io" 989) 708,
 t0,
 f0,
 tu #[v "self" 1410,v "limit" 1411,v "start" 1412,v "stop" 1413,v "cut" 1414,v "newline" 1415,v "i" 1416,v "j" 1417,v "end" 1418],
 t0,
 fN [33,5] "__line" "StringIO.__line",
 cD "__line" "StringIO.__line" 1407 587 2 0 0 3 710 1419,
 fO [33,5] "__line" "StringIO.__line" (v "io" 989) 715,
 t0,
 f0,
 tu #[v "self" 1425],
 t0,
 fN [33,6] "closed" "StringIO.closed",
 cD "closed" "StringIO.closed" 1422 619 1 0 0 3 717 1426,
 fO [33,6] "closed" "StringIO.closed" (v "io" 989) 722,
 tO "property" (.fields #[r 723,.none,.none,.none,v "closed" 1429,.bool false]),
 t0,
 f0,
 tu #[v "self" 1433],
 t0,
 fN [33,7] "line_buffering" "StringIO.line_buffering",
 cD "line_buffering" "StringIO.line_buffering" 1430 623 1 0 0 3 725 1434,
 fO [33,7] "line_buffering" "StringIO.line_buffering" (v "io" 989) 730,
 tO "property" (.fields #[r 731,.none,.none,.none,v "line_buffering" 1437,.bool false]),
 t0,
 f0,
 tu #[v "self" 1441],
 t0,
 fN [33,8] "newlines" "StringIO.newlines",
 cD "newlines" "StringIO.newlines" 1438 627 1 0 0 3 733 1442,
 fO [33,8] "newlines" "StringIO.newlines" (v "io" 989) 738,
 tO "property" (.fields #[r 739,.none,.none,.none,v "newlines" 1445,.bool false]),
 t0]
noncomputable def ob742 (P : Params) : List Obj:=[
 f0,
 tu #[v "self" 1449],
 t0,
 fN [33,9] "encoding" "StringIO.encoding",
 cD "encoding" "StringIO.encoding" 1446 631 1 0 0 3 741 1450,
 fO [33,9] "encoding" "StringIO.encoding" (v "io" 989) 746,
 tO "property" (.fields #[r 747,.none,.none,.none,v "encoding" 1453,.bool false]),
 t0,
 f0,
 tu #[v "self" 1457],
 t0,
 fN [33,10] "errors" "StringIO.errors",
 cD "errors" "StringIO.errors" 1454 635 1 0 0 3 749 1458,
 fO [33,10] "errors" "StringIO.errors" (v "io" 989) 754,
 tO "property" (.fields #[r 755,.none,.none,.none,v "errors" 1461,.bool false]),
 t0,
 f0,
 tu #[v "self" 1465],
 t0,
 fN [33,11] "close" "StringIO.close",
 cD "close" "StringIO.close" 1462 639 1 0 0 3 757 1466,
 fO [33,11] "close" "StringIO.close" (v "io" 989) 762,
 t0,
 f0,
 tu #[v "self" 1472],
 t0,
 fN [33,12] "__enter__" "StringIO.__enter__",
 cD "__enter__" "StringIO.__enter__" 1469 642 1 0 0 3 764 1473,
 fO [33,12] "__enter__" "StringIO.__enter__" (v "io" 989) 769,
 t0,
 f0,
 tu #[v "self" 1479,v "args" 1480],
 t0,
 fN [33,13] "__exit__" "StringIO.__exit__",
 cD "__exit__" "StringIO.__exit__" 1476 646 1 0 0 7 771 1481,
 fO [33,13] "__exit__" "StringIO.__exit__" (v "io" 989) 776,
 t0,
 f0,
 tu #[v "self" 1487],
 t0,
 fN [33,14] "readable" "StringIO.readable",
 cD "readable" "StringIO.readable" 1484 649 1 0 0 3 778 1488,
 fO [33,14] "readable" "StringIO.readable" (v "io" 989) 783,
 t0,
 f0,
 tu #[v "self" 1494],
 t0,
 fN [33,15] "writable" "StringIO.writable",
 cD "writable" "StringIO.writable" 1491 653 1 0 0 3 785 1495,
 fO [33,15] "writable" "StringIO.writable" (v "io" 989) 790,
 t0,
 f0,
 tu #[v "self" 1501],
 t0,
 fN [33,16] "seekable" "StringIO.seekable",
 cD "seekable" "StringIO.seekable" 1498 657 1 0 0 3 792 1502,
 fO [33,16] "seekable" "StringIO.seekable" (v "io" 989) 797,
 t0,
 f0,
 tu #[v "self" 1508]]
noncomputable def ob802 (P : Params) : List Obj:=[
 t0,
 fN [33,17] "isatty" "StringIO.isatty",
 cD "isatty" "StringIO.isatty" 1505 661 1 0 0 3 799 1509,
 fO [33,17] "isatty" "StringIO.isatty" (v "io" 989) 804,
 t0,
 f0,
 tu #[v "self" 1515],
 t0,
 fN [33,18] "flush" "StringIO.flush",
 cD "flush" "StringIO.flush" 1512 665 1 0 0 3 806 1516,
 fO [33,18] "flush" "StringIO.flush" (v "io" 989) 811,
 t0,
 f0,
 tu #[v "self" 1522],
 t0,
 fN [33,19] "fileno" "StringIO.fileno",
 cD "fileno" "StringIO.fileno" 1519 668 1 0 0 3 813 1523,
 fO [33,19] "fileno" "StringIO.fileno" (v "io" 989) 818,
 t0,
 f0,
 tu #[v "self" 1529],
 t0,
 fN [33,20] "detach" "StringIO.detach",
 cD "detach" "StringIO.detach" 1526 671 1 0 0 3 820 1530,
 fO [33,20] "detach" "StringIO.detach" (v "io" 989) 825,
 t0,
 f0,
 tu #[v "self" 1536],
 t0,
 fN [33,21] "getvalue" "StringIO.getvalue",
 cD "getvalue" "StringIO.getvalue" 1533 674 1 0 0 3 827 1537,
 fO [33,21] "getvalue" "StringIO.getvalue" (v "io" 989) 832,
 t0,
 f0,
 tu #[v "self" 1543],
 t0,
 fN [33,22] "tell" "StringIO.tell",
 cD "tell" "StringIO.tell" 1540 677 1 0 0 3 834 1544,
 fO [33,22] "tell" "StringIO.tell" (v "io" 989) 839,
 tu #[.int 0 1547],
 t0,
 f0,
 tu #[v "self" 1551,v "pos" 1552,v "whence" 1553],
 t0,
 fN [33,23] "seek" "StringIO.seek",
 cD "seek" "StringIO.seek" 1548 681 3 3 0 3 842 1554,
 tO "function" (F [33,23] (q "seek") (q "StringIO.seek") 3 [] (r 841) .none .none (v "io" 989) none (r 847) .none 0),
 tu #[.none],
 t0,
 f0,
 tu #[v "self" 1560,v "pos" 1561],
 t0,
 fN [33,24] "truncate" "StringIO.truncate",
 cD "truncate" "StringIO.truncate" 1557 698 2 2 0 3 850 1562,
 tO "function" (F [33,24] (q "truncate") (q "StringIO.truncate") 3 [] (r 849) .none .none (v "io" 989) none (r 855) .none 0),
 tu #[.int (-1) 1566],
 t0,
 f0,
 tu #[v "self" 1570,v "size" 1571,v "start" 1572,v "stop" 1573],
 t0]
noncomputable def ob862 (P : Params) : List Obj:=[
 fN [33,25] "read" "StringIO.read",
 cD "read" "StringIO.read" 1567 701 2 2 0 3 858 1574,
 tO "function" (F [33,25] (q "read") (q "StringIO.read") 3 [] (r 857) .none .none (v "io" 989) none (r 863) .none 0),
 tu #[.int (-1) 1578],
 t0,
 f0,
 tu #[v "self" 1582,v "size" 1583],
 t0,
 fN [33,26] "readline" "StringIO.readline",
 cD "readline" "StringIO.readline" 1579 715 2 2 0 3 866 1584,
 tO "function" (F [33,26] (q "readline") (q "StringIO.readline") 3 [] (r 865) .none .none (v "io" 989) none (r 871) .none 0),
 tu #[.int (-1) 1588],
 t0,
 f0,
 tu #[v "self" 1592,v "hint" 1593],
 t0,
 fN [33,27] "readlines" "StringIO.readlines",
 cD "readlines" "StringIO.readlines" 1589 722 2 2 0 3 874 1594,
 tO "function" (F [33,27] (q "readlines") (q "StringIO.readlines") 3 [] (r 873) .none .none (v "io" 989) none (r 879) .none 0),
 t0,
 f0,
 tu #[v "self" 1600],
 t0,
 fN [33,28] "__iter__" "StringIO.__iter__",
 cD "__iter__" "StringIO.__iter__" 1597 725 1 0 0 3 881 1601,
 fO [33,28] "__iter__" "StringIO.__iter__" (v "io" 989) 886,
 t0,
 f0,
 tu #[v "self" 1607,v "line" 1608],
 t0,
 fN [33,29] "__next__" "StringIO.__next__",
 cD "__next__" "StringIO.__next__" 1604 729 1 0 0 3 888 1609,
 fO [33,29] "__next__" "StringIO.__next__" (v "io" 989) 893,
 t0,
 f0,
 tu #[v "self" 1615,v "s" 1616,v "n" 1617,v "m" 1618,v "start" 1619,v "buf" 1620],
 t0,
 fN [33,30] "write" "StringIO.write",
 cD "write" "StringIO.write" 1612 736 2 2 0 3 895 1621,
 fO [33,30] "write" "StringIO.write" (v "io" 989) 900,
 t0,
 f0,
 tu #[v "self" 1627,v "lines" 1628],
 t0,
 fN [33,31] "writelines" "StringIO.writelines",
 cD "writelines" "StringIO.writelines" 1624 755 2 2 0 3 902 1629,
 fO [33,31] "writelines" "StringIO.writelines" (v "io" 989) 907,
 t0,
 f0,
 tu #[v "self" 1635],
 t0,
 fN [33,32] "__repr__" "StringIO.__repr__",
 cD "__repr__" "StringIO.__repr__" 1632 758 1 0 0 3 909 1636,
 fO [33,32] "__repr__" "StringIO.__repr__" (v "io" 989) 914,
 tu #[v "__buf" 1639,v "__newline" 1640,v "__pos" 1641],
 dO #[E P "__module__" 1366 (v "_io" 1371),E P "__firstlineno__" 1370 (.int 555 1369),E P "__init__" 1383 (r 688),E P "_StringIO__translated" 1392 (r 695),E P "_StringIO__check" 1399 (r 702),E P "_StringIO__check_dot" 1406 (r 709),E P "_StringIO__line" 1421 (r 716),E P "closed" 1429 (r 724),E P "line_buffering" 1437 (r 732),E P "newlines" 1445 (r 740),E P "encoding" 1453 (r 748),E P "errors" 1461 (r 756),E P "close" 1468 (r 763),E P "__enter__" 1475 (r 770),E P "__exit__" 1483 (r 777),E P "readable" 1490 (r 784),E P "writable" 1497 (r 791),E P "seekable" 1504 (r 798),E P "isatty" 1511 (r 805),E P "flush" 1518 (r 812),E P "fileno" 1525 (r 819),E P "detach" 1532 (r 826),E P "getvalue" 1539 (r 833),E P "tell" 1546 (r 840),E P "seek" 1556 (r 848),E P "truncate" 1564 (r 856),E P "read" 1576 (r 864),E P "readline" 1586 (r 872),E P "readlines" 1596 (r 880),E P "__iter__" 1603 (r 887),E P "__next__" 1611 (r 894),E P "write" 1623 (r 901),E P "writelines" 1631 (r 908),E P "__repr__" 1638 (r 915),E P "__static_\x61ttributes__" 1642 (r 916),E P "__doc__" 1643 .none] 2,
 ⟨.type "type",none,(.cls { name:=(q "StringIO"),bases:=[r 441],mro:=[r 918,r 441,r 414,.type "object"],ns:=917,qualname:=(q "StringIO"),hasDict:=true,slotNames:=[],subclasses:=[],abstract:=false,collection:=none,hasDel:=false }),#[(some (r 674)),none,(some (v "StringIO" 1359)),(some (v "StringIO" 1367)),(some .none),(some (.bool true))]⟩,
 tO "super" (.fields #[r 918,r 918,r 918]),
 tO "builtin_function_or_method" (.fields #[.builtin "object.__init_subclass__",r 918]),
 t0]
noncomputable def ob922 (P : Params) : List Obj:=[
 f0,
 tu #[v "name" 1651,v "x" 1652,v "t" 1653],
 t0,
 fN [35] "_kind" "_kind",
 cD "_kind" "_kind" 1648 761 2 0 0 3 921 1654,
 fO [35] "_kind" "_kind" (v "os.path" 1646) 926,
 t0,
 f0,
 tu #[v "name" 1660,v "x" 1661,v "k" 1662],
 t0,
 fN [36] "_fspath" "_fspath",
 cD "_fspath" "_fspath" 1657 782 2 0 0 3 928 1663,
 fO [36] "_fspath" "_fspath" (v "os.path" 1646) 933,
 t0,
 f0,
 tu #[v "funcname" 1669,v "args" 1670,v "s" 1671,v "k" 1672],
 t0,
 fN [37] "_check_arg_types" "_check_arg_types",
 cD "_check_arg_types" "_check_arg_types" 1666 787 1 0 0 7 935 1673,
 fO [37] "_check_arg_types" "_check_arg_types" (v "os.path" 1646) 940,
 t0,
 f0,
 tu #[v "s" 1679],
 t0,
 fN [38] "isabs" "isabs",
 cD "isabs" "isabs" 1676 792 1 0 0 3 942 1680,
 fO [38] "isabs" "isabs" (v "os.path" 1646) 947,
 t0,
 f0,
 tu #[v "a" 1686,v "p" 1687,v "b" 1688,v "sep" 1689,v "path" 1690],
 t0,
 fN [39] "join" "join",
 cD "join" "join" 1683 795 1 0 0 7 949 1691,
 fO [39] "join" "join" (v "os.path" 1646) 954,
 t0,
 f0,
 tu #[v "p" 1697,v "sep" 1698,v "i" 1699,v "head" 1700],
 t0,
 fN [40] "dirname" "dirname",
 cD "dirname" "dirname" 1694 815 1 0 0 3 956 1701,
 fO [40] "dirname" "dirname" (v "os.path" 1646) 961,
 t0,
 tO "builtin_function_or_method" (.fields #[.builtin "type.__prepare__",.type "type"]),
 dO #[E P "__module__" 1713 (v "cpy313.shlex" 1704),E P "__qualname__" 1715 (v "shlex" 1714),E P "__firstlineno__" 1717 (.int 824 1716),E P "__init__" 1729 (r 977),E P "punctuation_chars" 1737 (r 985),E P "push_token" 1745 (r 992),E P "push_source" 1754 (r 1000),E P "pop_source" 1761 (r 1007),E P "get_token" 1773 (r 1014),E P "read_token" 1784 (r 1021),E P "sourcehook" 1792 (r 1028),E P "error_leader" 1801 (r 1036),E P "__iter__" 1808 (r 1043),E P "__next__" 1816 (r 1050),E P "__static_\x61ttributes__" 1837 (r 1051)] 15,
 t0,
 nO (.fields #[j0 826,j0 4,r 976,j0 868,j0 4,r 983,j0 871,j0 4,r 991,j0 874,j0 4,r 999,j0 887,j0 4,r 1006,j0 894,j0 4,r 1013,j0 921,j0 4,r 1020,j0 1058,j0 4,r 1027,j0 1065,j0 4,r 1035,j0 1068,j0 4,r 1042,j0 1071,j0 4,r 1049]),
 cO "shlex" "shlex" 1708 824 0 0 0 0 false (r 966) (r 967) .none .none .none 1711,
 ⟨.type "frame",none,.plain,#[(some (r 968)),(some (r 3)),(some (r 965)),none,(some (v "cpy313.shlex" 1704)),none,(some (r 0))]⟩,
 tu #[.none,.none,.bool false,.bool false],
 t0,
 f0,
 tu #[v "self" 1721,v "instream" 1722,v "infile" 1723,v "posix" 1724,v "punctuation_chars" 1725,v "t" 1726],
 t0,
 fN [42,0] "__init__" "shlex.__init__",
 cD "__init__" "shlex.__init__" 1718 826 5 0 0 3 971 1727,
 tO "function" (F [42,0] (q "__init__") (q "shlex.__init__") 3 [] (r 970) .none .none (v "cpy313.shlex" 1704) none (r 976) .none 0),
 t0,
 f0,
 tu #[v "self" 1733],
 t0]
noncomputable def ob982 (P : Params) : List Obj:=[
 fN [42,1] "punctuation_chars" "shlex.punctuation_chars",
 cD "punctuation_chars" "shlex.punctuation_chars" 1730 867 1 0 0 3 978 1734,
 fO [42,1] "punctuation_chars" "shlex.punctuation_chars" (v "cpy313.shlex" 1704) 983,
 tO "property" (.fields #[r 984,.none,.none,.none,v "punctuation_chars" 1737,.bool false]),
 t0,
 f0,
 tu #[v "self" 1741,v "tok" 1742],
 t0,
 fN [42,2] "push_token" "shlex.push_token",
 cD "push_token" "shlex.push_token" 1738 871 2 0 0 3 986 1743,
 fO [42,2] "push_token" "shlex.push_token" (v "cpy313.shlex" 1704) 991,
 tu #[.none],
 t0,
 f0,
 tu #[v "self" 1749,v "newstream" 1750,v "newfile" 1751],
 t0,
 fN [42,3] "push_source" "shlex.push_source",
 cD "push_source" "shlex.push_source" 1746 874 3 0 0 3 994 1752,
 tO "function" (F [42,3] (q "push_source") (q "shlex.push_source") 3 [] (r 993) .none .none (v "cpy313.shlex" 1704) none (r 999) .none 0),
 t0,
 f0,
 tu #[v "self" 1758],
 t0,
 fN [42,4] "pop_source" "shlex.pop_source",
 cD "pop_source" "shlex.pop_source" 1755 887 1 0 0 3 1001 1759,
 fO [42,4] "pop_source" "shlex.pop_source" (v "cpy313.shlex" 1704) 1006,
 t0,
 f0,
 tu #[v "self" 1765,v "tok" 1766,v "raw" 1767,v "spec" 1768,v "newfile" 1769,v "newstream" 1770],
 t0,
 fN [42,5] "get_token" "shlex.get_token",
 cD "get_token" "shlex.get_token" 1762 894 1 0 0 3 1008 1771,
 fO [42,5] "get_token" "shlex.get_token" (v "cpy313.shlex" 1704) 1013,
 t0,
 f0,
 tu #[v "self" 1777,v "quoted" 1778,v "escapedstate" 1779,v "nextchar" 1780,v "result" 1781],
 t0,
 fN [42,6] "read_token" "shlex.read_token",
 cD "read_token" "shlex.read_token" 1774 921 1 0 0 3 1015 1782,
 fO [42,6] "read_token" "shlex.read_token" (v "cpy313.shlex" 1704) 1020,
 t0,
 f0,
 tu #[v "self" 1788,v "newfile" 1789],
 t0,
 fN [42,7] "sourcehook" "shlex.sourcehook",
 cD "sourcehook" "shlex.sourcehook" 1785 1058 2 0 0 3 1022 1790,
 fO [42,7] "sourcehook" "shlex.sourcehook" (v "cpy313.shlex" 1704) 1027,
 tu #[.none,.none],
 t0,
 f0,
 tu #[v "self" 1796,v "infile" 1797,v "lineno" 1798],
 t0,
 fN [42,8] "error_leader" "shlex.error_leader",
 cD "error_leader" "shlex.error_leader" 1793 1065 3 0 0 3 1030 1799,
 tO "function" (F [42,8] (q "error_leader") (q "shlex.error_leader") 3 [] (r 1029) .none .none (v "cpy313.shlex" 1704) none (r 1035) .none 0),
 t0,
 f0,
 tu #[v "self" 1805],
 t0,
 fN [42,9] "__iter__" "shlex.__iter__"]
noncomputable def ob1042 (P : Params) : List Obj:=[
 cD "__iter__" "shlex.__iter__" 1802 1068 1 0 0 3 1037 1806,
 fO [42,9] "__iter__" "shlex.__iter__" (v "cpy313.shlex" 1704) 1042,
 t0,
 f0,
 tu #[v "self" 1812,v "token" 1813],
 t0,
 fN [42,10] "__next__" "shlex.__next__",
 cD "__next__" "shlex.__next__" 1809 1071 1 0 0 3 1044 1814,
 fO [42,10] "__next__" "shlex.__next__" (v "cpy313.shlex" 1704) 1049,
 tu #[v "_punctuation_chars" 1817,v "_pushback_chars" 1818,v "commenters" 1819,v "debug" 1820,v "eof" 1821,v "escape" 1822,v "escapedquotes" 1823,v "filestack" 1824,v "infile" 1825,v "instream" 1826,v "lineno" 1827,v "posix" 1828,v "pushback" 1829,v "quotes" 1830,v "source" 1831,v "state" 1832,v "token" 1833,v "whitespace" 1834,v "whitespace_split" 1835,v "wordchars" 1836],
 dO #[E P "__module__" 1713 (v "cpy313.shlex" 1704),E P "__firstlineno__" 1717 (.int 824 1716),E P "__init__" 1729 (r 977),E P "punctuation_chars" 1737 (r 985),E P "push_token" 1745 (r 992),E P "push_source" 1754 (r 1000),E P "pop_source" 1761 (r 1007),E P "get_token" 1773 (r 1014),E P "read_token" 1784 (r 1021),E P "sourcehook" 1792 (r 1028),E P "error_leader" 1801 (r 1036),E P "__iter__" 1808 (r 1043),E P "__next__" 1816 (r 1050),E P "__static_\x61ttributes__" 1837 (r 1051),E P "__dict__" 1839 (r 1054),E P "__weakref__" 1841 (r 1055),E P "__doc__" 1842 .none] 4,
 ⟨.type "type",none,(.cls { name:=(q "shlex"),bases:=[.type "object"],mro:=[r 1053,.type "object"],ns:=1052,qualname:=(q "shlex"),hasDict:=true,slotNames:=[],subclasses:=[],abstract:=false,collection:=none,hasDel:=false }),#[none,none,(some (v "shlex" 1706)),(some (v "shlex" 1714)),(some (.builtin "object.__new__")),(some (.bool true))]⟩,
 tO "getset_descriptor" (.fields #[v "__dict__" 1838,r 1053,.builtin "function.__dict__",.builtin "function.__dict__#set"]),
 tO "getset_descriptor" (.fields #[v "__weakref__" 1840,r 1053,.builtin "ExceptionGroup.__weakref__",.none]),
 tO "super" (.fields #[r 1053,r 1053,r 1053]),
 tO "builtin_function_or_method" (.fields #[.builtin "object.__init_subclass__",r 1053]),
 tu #[.bool false,.bool true],
 t0,
 f0,
 tu #[v "s" 1848,v "comments" 1849,v "posix" 1850,v "lex" 1851],
 t0,
 fN [43] "split" "split",
 cD "split" "split" 1845 1076 3 0 0 3 1059 1852,
 tO "function" (F [43] (q "split") (q "split") 3 [] (r 1058) .none .none (v "cpy313.shlex" 1704) none (r 1064) .none 0),
 tO "builtin_function_or_method" (.fields #[.builtin "re.Pattern.search",r 370]),
 t0,
 f0,
 tu #[v "s" 1860],
 t0,
 fN [45] "quote" "quote",
 cD "quote" "quote" 1857 1085 1 0 0 3 1067 1861,
 fO [45] "quote" "quote" (v "cpy313.shlex" 1704) 1072,
 t0,
 f0,
 fN [47] "_law_fits" "_law_fits",
 cO "_law_fits" "_law_fits" 1866 1092 2 0 0 3 true (r 1074) (r 1075) .none .none (r 1076) 1869,
 fO [47] "_law_fits" "_law_fits" (v "law_ik0086_01" 1864) 1077,
 t0,
 f0,
 tu #[v "deed" 1875,v "error" 1876],
 t0,
 fN [48] "_law_refused" "_law_refused",
 cD "_law_refused" "_law_refused" 1872 1101 1 0 0 3 1079 1877,
 fO [48] "_law_refused" "_law_refused" (v "law_ik0086_01" 1864) 1084,
 t0,
 f0,
 fN [49] "_law_common" "_law_common",
 cO "_law_common" "_law_common" 1880 1107 1 0 0 3 true (r 1086) (r 1087) .none .none (r 1088) 1883,
 fO [49] "_law_common" "_law_common" (v "law_ik0086_01" 1864) 1089,
 t0,
 f0,
 fN [50] "_law_middle" "_law_middle",
 cO "_law_middle" "_law_middle" 1886 1111 1 0 0 3 true (r 1091) (r 1092) .none .none (r 1093) 1889,
 fO [50] "_law_middle" "_law_middle" (v "law_ik0086_01" 1864) 1094,
 t0,
 f0,
 fN [51] "_law_right" "_law_right",
 cO "_law_right" "_law_right" 1892 1115 2 0 0 3 true (r 1096) (r 1097) .none .none (r 1098) 1895,
 fO [51] "_law_right" "_law_right" (v "law_ik0086_01" 1864) 1099,
 t0]
noncomputable def ob1102 (P : Params) : List Obj:=[
 f0,
 fN [52] "law" "law",
 cO "law" "law" 1898 1121 1 0 0 3 true (r 1101) (r 1102) .none .none (r 1103) 1901,
 fO [52] "law" "law" (v "law_ik0086_01" 1864) 1104]
noncomputable def c2v0 (P : Params) : Obj:=nO (.dict #[E P "\x69mport.loaded._sre" 183 (.bool true),E P "class._frozen_\x69mportlib.BuiltinImporter" 185 (r 14),E P "watched.\x69mport" 206 (r 18),E P "class._frozen_\x69mportlib.ModuleSpec" 216 (r 22),E P "sys.modules.booked-epoch" 245 (.int 4 0),E P "\x69mport.later-laid._sre" 270 (.bool true),E P "watched.library" 272 (r 27),E P "watched.library-objects" 0 (.str ⟨#[12,30]⟩ 0),E P "watched.library-deep._sre" 273 (.str ⟨#[4,0,0,11,4,0,0,11,4,0,0,3,4,0,0,11,8,4,100,105,99,116,2]⟩ 0),E P "\x69mport.loaded._collections" 281 (.bool true),E P "sys.modules.landed._collections" 295 (.bool true),E P "\x69mport.later-laid._collections" 310 (.bool true),E P "watched.library-deep._collections" 312 (.str ⟨#[4,0,0,29,4,0,0,29,4,0,0,3,4,0,0,29,8,4,100,105,99,116,2]⟩ 0)] 13)
noncomputable def c3v0 (P : Params) : Obj:=dO #[E P "__name__" 165 (v "__main__" 164),E P "__doc__" 166 .none,E P "__package__" 167 .none,E P "__loader__" 168 (.builtin "__main__.__loader__#\x6fpaque"),E P "__spec__" 169 .none,E P "__annotations__" 170 (r 6),E P "__builtins__" 171 (r 4),E P "__file__" 173 (v "/claim/cut.py" 172),E P "__cached__" 174 .none,E P "_sre" 275 (r 12),E P "_count_elements" 318 (.builtin "_collections._count_elements"),E P "deque" 321 (.type "collections.deque")] 12
noncomputable def c35v0 (P : Params) : Obj:=f0
noncomputable def c3v1 (P : Params) : Obj:=dO #[E P "__name__" 165 (v "collections" 380),E P "__doc__" 166 .none,E P "__package__" 167 .none,E P "__loader__" 168 (.builtin "__main__.__loader__#\x6fpaque"),E P "__spec__" 169 .none,E P "__annotations__" 170 (r 6),E P "__builtins__" 171 (r 4),E P "__file__" 173 (v "/claim/cut.py" 172),E P "__cached__" 174 .none,E P "_sre" 275 (r 12),E P "_count_elements" 318 (.builtin "_collections._count_elements"),E P "deque" 321 (.type "collections.deque"),E P "_wall" 334 (r 44),E P "StatisticsError" 354 (r 54),E P "median" 363 (r 64),E P "median_low" 371 (r 71),E P "median_high" 379 (r 78),E P "_second" 388 (r 85),E P "_is_mapping" 395 (r 92),E P "Counter" 694 (r 311)] 20
noncomputable def c35v1 (P : Params) : Obj:=nO (.fields #[j0 3,j0 0,r 43,j0 7,j0 0,r 50,j0 9,j0 0,r 63,j0 19,j0 0,r 70,j0 28,j0 0,r 77,j0 35,j0 0,r 84,j0 37,j0 0,r 91,j0 45,j0 0,r 99])
noncomputable def c3v2 (P : Params) : Obj:=dO #[E P "__name__" 165 (v "re" 760),E P "__doc__" 166 .none,E P "__package__" 167 .none,E P "__loader__" 168 (.builtin "__main__.__loader__#\x6fpaque"),E P "__spec__" 169 .none,E P "__annotations__" 170 (r 6),E P "__builtins__" 171 (r 4),E P "__file__" 173 (v "/claim/cut.py" 172),E P "__cached__" 174 .none,E P "_sre" 275 (r 12),E P "_count_elements" 318 (.builtin "_collections._count_elements"),E P "deque" 321 (.type "collections.deque"),E P "_wall" 334 (r 44),E P "StatisticsError" 354 (r 54),E P "median" 363 (r 64),E P "median_low" 371 (r 71),E P "median_high" 379 (r 78),E P "_second" 388 (r 85),E P "_is_mapping" 395 (r 92),E P "Counter" 694 (r 311),E P "mode" 704 (r 322),E P "multimode" 710 (r 327),E P "twin_re_1_fnmatch" 750 (r 332),E P "translate" 759 (r 339)] 24
noncomputable def c35v2 (P : Params) : Obj:=nO (.fields #[j0 3,j0 0,r 43,j0 7,j0 0,r 50,j0 9,j0 0,r 63,j0 19,j0 0,r 70,j0 28,j0 0,r 77,j0 35,j0 0,r 84,j0 37,j0 0,r 91,j0 45,j0 0,r 99,j0 242,j0 0,r 321,j0 248,j0 0,r 326,j0 256,j0 0,r 338])
noncomputable def c3v3 (P : Params) : Obj:=dO #[E P "__name__" 165 (v "re" 760),E P "__doc__" 166 .none,E P "__package__" 167 .none,E P "__loader__" 168 (.builtin "__main__.__loader__#\x6fpaque"),E P "__spec__" 169 .none,E P "__annotations__" 170 (r 6),E P "__builtins__" 171 (r 4),E P "__file__" 173 (v "/claim/cut.py" 172),E P "__cached__" 174 .none,E P "_sre" 275 (r 12),E P "_count_elements" 318 (.builtin "_collections._count_elements"),E P "deque" 321 (.type "collections.deque"),E P "_wall" 334 (r 44),E P "StatisticsError" 354 (r 54),E P "median" 363 (r 64),E P "median_low" 371 (r 71),E P "median_high" 379 (r 78),E P "_second" 388 (r 85),E P "_is_mapping" 395 (r 92),E P "Counter" 694 (r 311),E P "mode" 704 (r 322),E P "multimode" 710 (r 327),E P "twin_re_1_fnmatch" 750 (r 332),E P "translate" 759 (r 339),E P "_special_chars_map" 907 (r 341)] 25
noncomputable def c2v4 (P : Params) : Obj:=nO (.dict #[E P "\x69mport.loaded._sre" 183 (.bool true),E P "class._frozen_\x69mportlib.BuiltinImporter" 185 (r 14),E P "watched.\x69mport" 206 (r 18),E P "class._frozen_\x69mportlib.ModuleSpec" 216 (r 22),E P "sys.modules.booked-epoch" 245 (.int 4 0),E P "\x69mport.later-laid._sre" 270 (.bool true),E P "watched.library" 272 (r 27),E P "watched.library-objects" 0 (.str ⟨#[12,30]⟩ 0),E P "watched.library-deep._sre" 273 (.str ⟨#[4,0,0,11,4,0,0,11,4,0,0,3,4,0,0,11,8,4,100,105,99,116,2]⟩ 0),E P "\x69mport.loaded._collections" 281 (.bool true),E P "sys.modules.landed._collections" 295 (.bool true),E P "\x69mport.later-laid._collections" 310 (.bool true),E P "watched.library-deep._collections" 312 (.str ⟨#[4,0,0,29,4,0,0,29,4,0,0,3,4,0,0,29,8,4,100,105,99,116,2]⟩ 0),E P "type.__subclasses__.OSError.0" 1025 (.int 394 0),E P "type.__subclasses__.OSError.n" 1026 (.int 1 0)] 15)
noncomputable def c3v4 (P : Params) : Obj:=dO #[E P "__name__" 165 (v "io" 989),E P "__doc__" 166 .none,E P "__package__" 167 .none,E P "__loader__" 168 (.builtin "__main__.__loader__#\x6fpaque"),E P "__spec__" 169 .none,E P "__annotations__" 170 (r 6),E P "__builtins__" 171 (r 4),E P "__file__" 173 (v "/claim/cut.py" 172),E P "__cached__" 174 .none,E P "_sre" 275 (r 12),E P "_count_elements" 318 (.builtin "_collections._count_elements"),E P "deque" 321 (.type "collections.deque"),E P "_wall" 334 (r 44),E P "StatisticsError" 354 (r 54),E P "median" 363 (r 64),E P "median_low" 371 (r 71),E P "median_high" 379 (r 78),E P "_second" 388 (r 85),E P "_is_mapping" 395 (r 92),E P "Counter" 694 (r 311),E P "mode" 704 (r 322),E P "multimode" 710 (r 327),E P "twin_re_1_fnmatch" 750 (r 332),E P "translate" 759 (r 339),E P "_special_chars_map" 907 (r 341),E P "escape" 914 (r 351),E P "_translate" 935 (r 358),E P "_join_translated_parts" 948 (r 365),E P "twin_re_1_shlex" 988 (r 370),E P "_whence" 998 (r 377),E P "_index" 1006 (r 384),E P "UnsupportedOperation" 1028 (r 394),E P "IOBase" 1060 (r 414),E P "BufferedIOBase" 1078 (r 429),E P "TextIOBase" 1096 (r 441)] 35
noncomputable def c35v4 (P : Params) : Obj:=nO (.fields #[j0 3,j0 0,r 43,j0 7,j0 0,r 50,j0 9,j0 0,r 63,j0 19,j0 0,r 70,j0 28,j0 0,r 77,j0 35,j0 0,r 84,j0 37,j0 0,r 91,j0 45,j0 0,r 99,j0 242,j0 0,r 321,j0 248,j0 0,r 326,j0 256,j0 0,r 338,j0 262,j0 0,r 350,j0 269,j0 0,r 357,j0 331,j0 0,r 364,j0 360,j0 0,r 376,j0 365,j0 0,r 383,j0 372,j0 0,r 390,j0 374,j0 0,r 403,j0 381,j0 0,r 425,j0 383,j0 0,r 437])
noncomputable def c429v4 (P : Params) : Obj:=⟨.type "type",none,(.cls { name:=(q "BufferedIOBase"),bases:=[r 414],mro:=[r 429,r 414,.type "object"],ns:=428,qualname:=(q "BufferedIOBase"),hasDict:=true,slotNames:=[],subclasses:=[],abstract:=false,collection:=none,hasDel:=false }),#[(some (r 420)),none,(some (v "BufferedIOBase" 1061)),(some (v "BufferedIOBase" 1069)),(some .none),(some (.bool true))]⟩
noncomputable def c441v4 (P : Params) : Obj:=⟨.type "type",none,(.cls { name:=(q "TextIOBase"),bases:=[r 414],mro:=[r 441,r 414,.type "object"],ns:=440,qualname:=(q "TextIOBase"),hasDict:=true,slotNames:=[],subclasses:=[],abstract:=false,collection:=none,hasDel:=false }),#[(some (r 432)),none,(some (v "TextIOBase" 1079)),(some (v "TextIOBase" 1087)),(some .none),(some (.bool true))]⟩
noncomputable def c3v5 (P : Params) : Obj:=dO #[E P "__name__" 165 (v "io" 989),E P "__doc__" 166 .none,E P "__package__" 167 .none,E P "__loader__" 168 (.builtin "__main__.__loader__#\x6fpaque"),E P "__spec__" 169 .none,E P "__annotations__" 170 (r 6),E P "__builtins__" 171 (r 4),E P "__file__" 173 (v "/claim/cut.py" 172),E P "__cached__" 174 .none,E P "_sre" 275 (r 12),E P "_count_elements" 318 (.builtin "_collections._count_elements"),E P "deque" 321 (.type "collections.deque"),E P "_wall" 334 (r 44),E P "StatisticsError" 354 (r 54),E P "median" 363 (r 64),E P "median_low" 371 (r 71),E P "median_high" 379 (r 78),E P "_second" 388 (r 85),E P "_is_mapping" 395 (r 92),E P "Counter" 694 (r 311),E P "mode" 704 (r 322),E P "multimode" 710 (r 327),E P "twin_re_1_fnmatch" 750 (r 332),E P "translate" 759 (r 339),E P "_special_chars_map" 907 (r 341),E P "escape" 914 (r 351),E P "_translate" 935 (r 358),E P "_join_translated_parts" 948 (r 365),E P "twin_re_1_shlex" 988 (r 370),E P "_whence" 998 (r 377),E P "_index" 1006 (r 384),E P "UnsupportedOperation" 1028 (r 394),E P "IOBase" 1060 (r 414),E P "BufferedIOBase" 1078 (r 429),E P "TextIOBase" 1096 (r 441),E P "BytesIO" 1358 (r 671)] 36
noncomputable def c35v5 (P : Params) : Obj:=nO (.fields #[j0 3,j0 0,r 43,j0 7,j0 0,r 50,j0 9,j0 0,r 63,j0 19,j0 0,r 70,j0 28,j0 0,r 77,j0 35,j0 0,r 84,j0 37,j0 0,r 91,j0 45,j0 0,r 99,j0 242,j0 0,r 321,j0 248,j0 0,r 326,j0 256,j0 0,r 338,j0 262,j0 0,r 350,j0 269,j0 0,r 357,j0 331,j0 0,r 364,j0 360,j0 0,r 376,j0 365,j0 0,r 383,j0 372,j0 0,r 390,j0 374,j0 0,r 403,j0 381,j0 0,r 425,j0 383,j0 0,r 437,j0 385,j0 0,r 449])
noncomputable def c429v5 (P : Params) : Obj:=⟨.type "type",none,(.cls { name:=(q "BufferedIOBase"),bases:=[r 414],mro:=[r 429,r 414,.type "object"],ns:=428,qualname:=(q "BufferedIOBase"),hasDict:=true,slotNames:=[],subclasses:=[r 671],abstract:=false,collection:=none,hasDel:=false }),#[(some (r 420)),none,(some (v "BufferedIOBase" 1061)),(some (v "BufferedIOBase" 1069)),(some .none),(some (.bool true))]⟩
noncomputable def c3v6 (P : Params) : Obj:=dO #[E P "__name__" 165 (v "io" 989),E P "__doc__" 166 .none,E P "__package__" 167 .none,E P "__loader__" 168 (.builtin "__main__.__loader__#\x6fpaque"),E P "__spec__" 169 .none,E P "__annotations__" 170 (r 6),E P "__builtins__" 171 (r 4),E P "__file__" 173 (v "/claim/cut.py" 172),E P "__cached__" 174 .none,E P "_sre" 275 (r 12),E P "_count_elements" 318 (.builtin "_collections._count_elements"),E P "deque" 321 (.type "collections.deque"),E P "_wall" 334 (r 44),E P "StatisticsError" 354 (r 54),E P "median" 363 (r 64),E P "median_low" 371 (r 71),E P "median_high" 379 (r 78),E P "_second" 388 (r 85),E P "_is_mapping" 395 (r 92),E P "Counter" 694 (r 311),E P "mode" 704 (r 322),E P "multimode" 710 (r 327),E P "twin_re_1_fnmatch" 750 (r 332),E P "translate" 759 (r 339),E P "_special_chars_map" 907 (r 341),E P "escape" 914 (r 351),E P "_translate" 935 (r 358),E P "_join_translated_parts" 948 (r 365),E P "twin_re_1_shlex" 988 (r 370),E P "_whence" 998 (r 377),E P "_index" 1006 (r 384),E P "UnsupportedOperation" 1028 (r 394),E P "IOBase" 1060 (r 414),E P "BufferedIOBase" 1078 (r 429),E P "TextIOBase" 1096 (r 441),E P "BytesIO" 1358 (r 671),E P "StringIO" 1645 (r 918)] 37
noncomputable def c35v6 (P : Params) : Obj:=nO (.fields #[j0 3,j0 0,r 43,j0 7,j0 0,r 50,j0 9,j0 0,r 63,j0 19,j0 0,r 70,j0 28,j0 0,r 77,j0 35,j0 0,r 84,j0 37,j0 0,r 91,j0 45,j0 0,r 99,j0 242,j0 0,r 321,j0 248,j0 0,r 326,j0 256,j0 0,r 338,j0 262,j0 0,r 350,j0 269,j0 0,r 357,j0 331,j0 0,r 364,j0 360,j0 0,r 376,j0 365,j0 0,r 383,j0 372,j0 0,r 390,j0 374,j0 0,r 403,j0 381,j0 0,r 425,j0 383,j0 0,r 437,j0 385,j0 0,r 449,j0 555,j0 0,r 679])
noncomputable def c441v6 (P : Params) : Obj:=⟨.type "type",none,(.cls { name:=(q "TextIOBase"),bases:=[r 414],mro:=[r 441,r 414,.type "object"],ns:=440,qualname:=(q "TextIOBase"),hasDict:=true,slotNames:=[],subclasses:=[r 918],abstract:=false,collection:=none,hasDel:=false }),#[(some (r 432)),none,(some (v "TextIOBase" 1079)),(some (v "TextIOBase" 1087)),(some .none),(some (.bool true))]⟩
noncomputable def c3v7 (P : Params) : Obj:=dO #[E P "__name__" 165 (v "law_ik0086_01" 1864),E P "__doc__" 166 .none,E P "__package__" 167 .none,E P "__loader__" 168 (.builtin "__main__.__loader__#\x6fpaque"),E P "__spec__" 169 .none,E P "__annotations__" 170 (r 6),E P "__builtins__" 171 (r 4),E P "__file__" 173 (v "/claim/cut.py" 172),E P "__cached__" 174 .none,E P "_sre" 275 (r 12),E P "_count_elements" 318 (.builtin "_collections._count_elements"),E P "deque" 321 (.type "collections.deque"),E P "_wall" 334 (r 44),E P "StatisticsError" 354 (r 54),E P "median" 363 (r 64),E P "median_low" 371 (r 71),E P "median_high" 379 (r 78),E P "_second" 388 (r 85),E P "_is_mapping" 395 (r 92),E P "Counter" 694 (r 311),E P "mode" 704 (r 322),E P "multimode" 710 (r 327),E P "twin_re_1_fnmatch" 750 (r 332),E P "translate" 759 (r 339),E P "_special_chars_map" 907 (r 341),E P "escape" 914 (r 351),E P "_translate" 935 (r 358),E P "_join_translated_parts" 948 (r 365),E P "twin_re_1_shlex" 988 (r 370),E P "_whence" 998 (r 377),E P "_index" 1006 (r 384),E P "UnsupportedOperation" 1028 (r 394),E P "IOBase" 1060 (r 414),E P "BufferedIOBase" 1078 (r 429),E P "TextIOBase" 1096 (r 441),E P "BytesIO" 1358 (r 671),E P "StringIO" 1645 (r 918),E P "_kind" 1656 (r 927),E P "_fspath" 1665 (r 934),E P "_check_arg_types" 1675 (r 941),E P "isabs" 1682 (r 948),E P "join" 1693 (r 955),E P "dirname" 1703 (r 962),E P "shlex" 1844 (r 1053),E P "split" 1854 (r 1065),E P "_find_unsafe" 1856 (r 1066),E P "quote" 1863 (r 1073),E P "_law_fits" 1871 (r 1078),E P "_law_refused" 1879 (r 1085),E P "_law_common" 1885 (r 1090),E P "_law_middle" 1891 (r 1095),E P "_law_right" 1897 (r 1100),E P "law" 1903 (r 1105)] 53
noncomputable def c35v7 (P : Params) : Obj:=nO (.fields #[j0 3,j0 0,r 43,j0 7,j0 0,r 50,j0 9,j0 0,r 63,j0 19,j0 0,r 70,j0 28,j0 0,r 77,j0 35,j0 0,r 84,j0 37,j0 0,r 91,j0 45,j0 0,r 99,j0 242,j0 0,r 321,j0 248,j0 0,r 326,j0 256,j0 0,r 338,j0 262,j0 0,r 350,j0 269,j0 0,r 357,j0 331,j0 0,r 364,j0 360,j0 0,r 376,j0 365,j0 0,r 383,j0 372,j0 0,r 390,j0 374,j0 0,r 403,j0 381,j0 0,r 425,j0 383,j0 0,r 437,j0 385,j0 0,r 449,j0 555,j0 0,r 679,j0 761,j0 0,r 926,j0 782,j0 0,r 933,j0 787,j0 0,r 940,j0 792,j0 0,r 947,j0 795,j0 0,r 954,j0 815,j0 0,r 961,j0 824,j0 0,r 968,j0 1076,j0 0,r 1064,j0 1085,j0 0,r 1072,j0 1092,j0 0,r 1077,j0 1101,j0 0,r 1084,j0 1107,j0 0,r 1089,j0 1111,j0 0,r 1094,j0 1115,j0 0,r 1099,j0 1121,j0 0,r 1104])
noncomputable def ol0 (P : Params) : List Obj:=ob0 P ++ ([c2v0 P] ++ ([c3v0 P] ++ (ob4 P ++ ([c35v0 P] ++ ((ob36 P).take 2)))))
noncomputable def tr0 (P : Params) : BT:=mkT 12 (ol0 P)
noncomputable def st0 (w : World) (os : OsState) : SharedT:=⟨tr0 w.params,38,{},#[],{},328,os⟩
noncomputable def ol1 (P : Params) : List Obj:=ob0 P ++ ([c2v0 P] ++ ([c3v1 P] ++ (ob4 P ++ ([c35v1 P] ++ (ob36 P ++ (ob96 P ++ (ob156 P ++ (ob216 P ++ ((ob276 P).take 40)))))))))
noncomputable def tr1 (P : Params) : BT:=mkT 12 (ol1 P)
noncomputable def st1 (w : World) (os : OsState) : SharedT:=⟨tr1 w.params,316,{},#[],{},695,os⟩
noncomputable def ol2 (P : Params) : List Obj:=ob0 P ++ ([c2v0 P] ++ ([c3v2 P] ++ (ob4 P ++ ([c35v2 P] ++ (ob36 P ++ (ob96 P ++ (ob156 P ++ (ob216 P ++ (ob276 P ++ ((ob336 P).take 4))))))))))
noncomputable def tr2 (P : Params) : BT:=mkT 12 (ol2 P)
noncomputable def st2 (w : World) (os : OsState) : SharedT:=⟨tr2 w.params,340,{},#[],{},762,os⟩
noncomputable def ol3 (P : Params) : List Obj:=ob0 P ++ ([c2v0 P] ++ ([c3v3 P] ++ (ob4 P ++ ([c35v2 P] ++ (ob36 P ++ (ob96 P ++ (ob156 P ++ (ob216 P ++ (ob276 P ++ ((ob336 P).take 9))))))))))
noncomputable def tr3 (P : Params) : BT:=mkT 12 (ol3 P)
noncomputable def st3 (w : World) (os : OsState) : SharedT:=⟨tr3 w.params,345,{},#[],{},908,os⟩
noncomputable def ol4 (P : Params) : List Obj:=ob0 P ++ ([c2v4 P] ++ ([c3v4 P] ++ (ob4 P ++ ([c35v4 P] ++ (ob36 P ++ (ob96 P ++ (ob156 P ++ (ob216 P ++ (ob276 P ++ (ob336 P ++ (ob396 P ++ ([c429v4 P] ++ (ob430 P ++ ([c441v4 P] ++ ((ob442 P).take 2)))))))))))))))
noncomputable def tr4 (P : Params) : BT:=mkT 12 (ol4 P)
noncomputable def st4 (w : World) (os : OsState) : SharedT:=⟨tr4 w.params,444,{},#[],{},1097,os⟩
noncomputable def ol5 (P : Params) : List Obj:=ob0 P ++ ([c2v4 P] ++ ([c3v5 P] ++ (ob4 P ++ ([c35v5 P] ++ (ob36 P ++ (ob96 P ++ (ob156 P ++ (ob216 P ++ (ob276 P ++ (ob336 P ++ (ob396 P ++ ([c429v5 P] ++ (ob430 P ++ ([c441v4 P] ++ (ob442 P ++ (ob502 P ++ (ob562 P ++ ((ob622 P).take 52))))))))))))))))))
noncomputable def tr5 (P : Params) : BT:=mkT 12 (ol5 P)
noncomputable def st5 (w : World) (os : OsState) : SharedT:=⟨tr5 w.params,674,{},#[],{},1359,os⟩
noncomputable def ol6 (P : Params) : List Obj:=ob0 P ++ ([c2v4 P] ++ ([c3v6 P] ++ (ob4 P ++ ([c35v6 P] ++ (ob36 P ++ (ob96 P ++ (ob156 P ++ (ob216 P ++ (ob276 P ++ (ob336 P ++ (ob396 P ++ ([c429v5 P] ++ (ob430 P ++ ([c441v6 P] ++ (ob442 P ++ (ob502 P ++ (ob562 P ++ (ob622 P ++ (ob682 P ++ (ob742 P ++ (ob802 P ++ ((ob862 P).take 59))))))))))))))))))))))
noncomputable def tr6 (P : Params) : BT:=mkT 12 (ol6 P)
noncomputable def st6 (w : World) (os : OsState) : SharedT:=⟨tr6 w.params,921,{},#[],{},1646,os⟩
noncomputable def ol7 (P : Params) : List Obj:=ob0 P ++ ([c2v4 P] ++ ([c3v7 P] ++ (ob4 P ++ ([c35v7 P] ++ (ob36 P ++ (ob96 P ++ (ob156 P ++ (ob216 P ++ (ob276 P ++ (ob336 P ++ (ob396 P ++ ([c429v5 P] ++ (ob430 P ++ ([c441v6 P] ++ (ob442 P ++ (ob502 P ++ (ob562 P ++ (ob622 P ++ (ob682 P ++ (ob742 P ++ (ob802 P ++ (ob862 P ++ (ob922 P ++ (ob982 P ++ (ob1042 P ++ (ob1102 P))))))))))))))))))))))))))
noncomputable def tr7 (P : Params) : BT:=mkT 12 (ol7 P)
noncomputable def st7 (w : World) (os : OsState) : SharedT:=⟨tr7 w.params,1106,{},#[],{},1904,os⟩
noncomputable abbrev ann : Option Value:=some (.ref 6)
noncomputable abbrev env : Env:={ scope:=pw.main.scope,locals:=mainNs,globals:=mainNs,cells:=[],code:=.ref 36,frame:=some 37 }
noncomputable abbrev bd : List Stmt:=behindTheImports pw
noncomputable abbrev cE : Code:=.body bd env
noncomputable abbrev qp : Pos:=⟨0,0,0,0⟩
noncomputable abbrev B : List Frame:=[topFrame qp]
noncomputable def he0 (P : Params) : Heap:=absHeap (mkT 12 ((ol0 P).take 34)) 34 {}
theorem open0 : ∀ w : World,(fencedOpening treeTable pw w 20000).map (fun s=>(s.heap,s.gens,s.drawn,s.toks)) = some (he0 w.params,#[],{},322):=by
 intro w
 unfold fencedOpening
 rw [PySem.W.Fast.te10274390034422433532,PySem.W.Fast.te14289696077712309145,PySem.W.Fast.te14364793385576792824,PySem.W.Fast.te1435165496053646825]
 kernel_rfl
theorem pre0 (w : World) (os : OsState) : topGo treeTable pw w 34 ann 12 ⟨he0 w.params,#[],{},322,os⟩ (topStub pw) = some ((st0 w os).abs,⟨denote treeTable cE,cE,⟨0,0,0,0⟩,B⟩):=by
 rw [PySem.W.Fast.te15667345088766844465,PySem.W.Fast.te14364793385576792824,PySem.W.Fast.te11892475500146522536]
 kernel_rfl
noncomputable abbrev sts1 : List Stmt:=(bd.drop 0).take 10
theorem pc1 (w : World) (os : OsState) : segRunT treeTable pw w 34 ann 1 1574 (st0 w os) (piecesOf sts1 env cE ⟨0,0,0,0⟩ B) = some (.next,st1 w os,cE,⟨45,0,240,36⟩):=by
 rw [PySem.W.Fast.te10110043849684766642,PySem.W.Fast.te14364793385576792824]
 kernel_rfl
noncomputable abbrev sts2 : List Stmt:=(bd.drop 10).take 7
theorem pc2 (w : World) (os : OsState) : segRunT treeTable pw w 34 ann 1 196 (st1 w os) (piecesOf sts2 env cE ⟨45,0,240,36⟩ B) = some (.next,st2 w os,cE,⟨260,0,260,8⟩):=by
 rw [PySem.W.Fast.te10110043849684766642,PySem.W.Fast.te14364793385576792824]
 kernel_rfl
noncomputable abbrev sts3 : List Stmt:=(bd.drop 17).take 1
theorem pc3r (w : World) (a b : Bool) (os : OsState) : segRunT treeTable pw ((w.withFollow "comprehension-iter-twice" a).withFollow "special-get-raises" b) 34 ann 1 1253 (st2 w os) (piecesOf sts3 env cE ⟨260,0,260,8⟩ B) = some (.next,st3 w os,cE,⟨261,0,261,18⟩):=by
 rw [PySem.W.Fast.te10110043849684766642,PySem.W.Fast.te14364793385576792824]
 cases a <;> cases b <;> kernel_rfl
noncomputable abbrev sts4 : List Stmt:=(bd.drop 18).take 12
theorem pc4 (w : World) (os : OsState) : segRunT treeTable pw w 34 ann 1 1160 (st3 w os) (piecesOf sts4 env cE ⟨261,0,261,18⟩ B) = some (.next,st4 w os,cE,⟨383,0,384,21⟩):=by
 rw [PySem.W.Fast.te10110043849684766642,PySem.W.Fast.te14364793385576792824]
 kernel_rfl
noncomputable abbrev sts5 : List Stmt:=(bd.drop 30).take 1
theorem pc5 (w : World) (os : OsState) : segRunT treeTable pw w 34 ann 1 1278 (st4 w os) (piecesOf sts5 env cE ⟨383,0,384,21⟩ B) = some (.next,st5 w os,cE,⟨385,0,554,17⟩):=by
 rw [PySem.W.Fast.te10110043849684766642,PySem.W.Fast.te14364793385576792824]
 kernel_rfl
noncomputable abbrev sts6 : List Stmt:=(bd.drop 31).take 1
theorem pc6 (w : World) (os : OsState) : segRunT treeTable pw w 34 ann 1 1578 (st5 w os) (piecesOf sts6 env cE ⟨385,0,554,17⟩ B) = some (.next,st6 w os,cE,⟨555,0,759,17⟩):=by
 rw [PySem.W.Fast.te10110043849684766642,PySem.W.Fast.te14364793385576792824]
 kernel_rfl
noncomputable abbrev sts7 : List Stmt:=(bd.drop 32).take 19
theorem pc7 (w : World) (os : OsState) : segRunT treeTable pw w 34 ann 1 1097 (st6 w os) (piecesOf sts7 env cE ⟨555,0,759,17⟩ B) = some (.next,st7 w os,cE,⟨1121,0,1137,140⟩):=by
 rw [PySem.W.Fast.te10110043849684766642,PySem.W.Fast.te14364793385576792824]
 kernel_rfl
theorem pc3 (w : World) : ∀ os : OsState,segRunT treeTable pw w 34 ann 1 1253 (st2 w os) (piecesOf sts3 env cE ⟨260,0,260,8⟩ B) = some (.next,st3 w os,cE,⟨261,0,261,18⟩):=
 byRow2 "special-get-raises" (P:=fun w=>∀ os : OsState,segRunT treeTable pw w 34 ann 1 1253 (st2 w os) (piecesOf sts3 env cE ⟨260,0,260,8⟩ B) = some (.next,st3 w os,cE,⟨261,0,261,18⟩))
  (byRow2 "comprehension-iter-twice" (P:=fun w=>∀ os : OsState,segRunT treeTable pw (w.withFollow "special-get-raises" false) 34 ann 1 1253 (st2 w os) (piecesOf sts3 env cE ⟨260,0,260,8⟩ B) = some (.next,st3 w os,cE,⟨261,0,261,18⟩))
   (fun w os=>pc3r w false false os) (fun w os=>pc3r w true false os))
  (byRow2 "comprehension-iter-twice" (P:=fun w=>∀ os : OsState,segRunT treeTable pw (w.withFollow "special-get-raises" true) 34 ann 1 1253 (st2 w os) (piecesOf sts3 env cE ⟨260,0,260,8⟩ B) = some (.next,st3 w os,cE,⟨261,0,261,18⟩))
   (fun w os=>pc3r w false true os) (fun w os=>pc3r w true true os)) w
theorem blk (w : World) (os : OsState) : segRun treeTable pw w 34 ann 1 1 (st0 w os).abs (blockOf bd env cE ⟨0,0,0,0⟩ B) = some (.next,(st0 w os).abs,cE,⟨0,0,0,0⟩):=by
 rw [PySem.W.Fast.te14374325043358763698,PySem.W.Fast.te14364793385576792824]
 kernel_rfl
theorem fin (w : World) (os : OsState) : topRun treeTable pw w 34 ann 2 (st7 w os).abs ⟨doneF .next,cE,⟨1121,0,1137,140⟩,B⟩ = some (st7 w os).abs:=by
 rw [PySem.W.Fast.te14082659384304107361,PySem.W.Fast.te14364793385576792824]
 kernel_rfl
theorem bd_is : bd = sts1 ++ (sts2 ++ (sts3 ++ (sts4 ++ (sts5 ++ (sts6 ++ (sts7 ++ [])))))):=by kernel_rfl
noncomputable def MM : Nat:=12 + (1 + (1574 + (196 + (1253 + (1160 + (1278 + (1578 + (1097 + 2))))))))
theorem topIs (w : World) (os : OsState) : topRun treeTable pw w 34 ann MM ⟨he0 w.params,#[],{},322,os⟩ (topStub pw) = some (st7 w os).abs:=by
 refine go_top (pre0 w os) (piece_block (blk w os) ?_)
 have h : topRun treeTable pw w 34 ann (1574 + (196 + (1253 + (1160 + (1278 + (1578 + (1097 + 2))))))) (st0 w os).abs (restOf (sts1 ++ (sts2 ++ (sts3 ++ (sts4 ++ (sts5 ++ (sts6 ++ (sts7 ++ []))))))) env cE ⟨0,0,0,0⟩ B) = some (st7 w os).abs:=
  piece_app (segRun_of (pc1 w os)) (piece_app (segRun_of (pc2 w os)) (piece_app (segRun_of (pc3 w os)) (piece_app (segRun_of (pc4 w os)) (piece_app (segRun_of (pc5 w os)) (piece_app (segRun_of (pc6 w os)) (piece_app (segRun_of (pc7 w os)) (piece_nil (fin w os))))))))
 rw [← bd_is] at h
 exact h
noncomputable def H1 (P : Params) : Heap:=absHeap (tr7 P) 1106 {}
theorem size0 (w : World) : ((he0 w.params).isNs mainGlobals && (#[] : Array GenState).size == 0,(he0 w.params).objs.size,(he0 w.params).nsMap mainGlobals "__annotations__") = (true,34,ann):=by
 rw [PySem.W.Fast.te8920871248978507458]
 kernel_rfl
noncomputable def lawSt : Stmt:=nth pw.main.body 52
noncomputable def vw : Program:={ pw with main:={ pw.main with body:=[lawSt] } }
abbrev rw0 : OpenLaw:=PySem.Challenge.rw_ik0086_01
theorem and_t {a b : Bool} (ha : a = true) (hb : b = true) : (a && b) = true:=by rw [ha,hb];rfl
theorem sd1 : Fast.tw11788848310118352699 pw.main = true:=by kernel_rfl
theorem sd2 : Fast.tw8377067652309620493 pw = true:=by kernel_rfl
theorem sd3 : Fast.tw8326940854005059898 { strict:=!R.allR (Fast.tw5923862056798008813 pw.main.body) (Fast.tw3471404346716756564 Fast.tw17691160309236699985),foot:=none,bare:=R.filterR (Fast.tw13343964577679436407 pw pw.main.body) [{ cps:={ toList:=[118,97,114,115] } },{ cps:={ toList:=[100,105,114] } },{ cps:={ toList:=[108,111,99,97,108,115] } }] } pw.main.body = true:=by kernel_rfl
theorem sd4 : (Fast.tw17119622794617984870 pw pw.main.body fun _ n=>Fast.tw17868728402115742887 n) = true:=by kernel_rfl
theorem sd5 : Fast.tw12908688711261696721 pw = true:=and_t (and_t (and_t (and_t (and_t sd1 (by kernel_rfl)) sd2) (by kernel_rfl)) sd3) sd4
theorem sd6 : Fast.tw17960256430627541270 (Fast.tw2368527892694137696 rw0) = true:=and_t (and_t (and_t (and_t (and_t (and_t (and_t (and_t (and_t (and_t (and_t (and_t (and_t (and_t (and_t sd5 (by kernel_rfl)) (by kernel_rfl)) (by kernel_rfl)) (by kernel_rfl)) (by kernel_rfl)) (by kernel_rfl)) (by kernel_rfl)) (by kernel_rfl)) (by kernel_rfl)) (by kernel_rfl)) (by kernel_rfl)) (by kernel_rfl)) (by kernel_rfl)) (by kernel_rfl)) (by kernel_rfl)
theorem said : rw0.wellSaid = true:=by
 rw [PySem.W.Fast.te9446332074065402090]
 exact and_t (and_t (and_t (and_t (and_t (and_t (and_t (and_t (and_t (and_t (and_t (and_t (and_t (and_t (and_t (and_t (and_t (and_t sd6 (by kernel_rfl)) (by kernel_rfl)) (by kernel_rfl)) (by kernel_rfl)) (by kernel_rfl)) (by kernel_rfl)) (by kernel_rfl)) (by kernel_rfl)) (by kernel_rfl)) (by kernel_rfl)) (by kernel_rfl)) (by kernel_rfl)) (by kernel_rfl)) (by kernel_rfl)) (by kernel_rfl)) (by kernel_rfl)) (by kernel_rfl)) (by kernel_rfl)
noncomputable def loose0 : List Str:=pw.boundNames.filter fun n=>n != Str.ofString "law"
noncomputable def Ya0 (w : World) : Heap:=H1 w.params
noncomputable def Yf0 (s : Shared) : Heap:=s.heap
theorem looks1 (w : World) (os : OsState) : (staticsOk (importedModules pw.main.body) (he0 w.params) (H1 w.params) && namesBound pw (H1 w.params) && gensDone ⟨H1 w.params,#[],{},1904,os⟩ && laidKept (he0 w.params) (H1 w.params)) = true:=by
 kernel_rfl
theorem looks2 (w : World) (os : OsState) : openSeen vw loose0 (importedModules pw.main.body) (fun _=>true) true ⟨H1 w.params,#[],{},1904,os⟩ = openGood vw loose0:=by
 rw [PySem.W.Fast.te4187177175401517315]
 kernel_rfl
theorem open0' : ∀ w : World,(fencedOpening treeTable pw w 20000).map (fun s=>(s.heap,s.gens,s.drawn,s.toks)) = some (he0 w.params,#[],{},322):=open0
theorem left0 : LeftO pw vw loose0 (fun _=>true) Yf0 Ya0 20000:=by
 refine LeftO.of_pieces (H₀:=he0) (H₁:=H1) (gs₀:=#[]) (gs₁:=#[]) (d₀:={}) (d₁:={}) (k₀:=322) (k₁:=1904) (m₀:=34) (ann:=ann) (M:=MM) open0' size0 (fun w os=>topIs w os) (by decide +kernel) ?_
 intro w
 funext os
 rw [looks1,looks2]
 rfl
theorem Mine.head (hc : WalkX vw loose0 (fun _ _=>True) Yf0 Ya0 (rw0.row).toRowW ((defOf vw (Str.ofString "law")).get (by kernel_rfl)).1 ((defOf vw (Str.ofString "law")).get (by kernel_rfl)).2 fun f vs=>PySem.call f vs) : PySem.Challenge.rw_ik0086_01.Holds:=by
 refine holds_law said fun ws=>?_
 refine holds_openX (r:=rw0.row) (q:=vw) (loose:=loose0) (Xt:=fun _=>true) (XP:=fun _ _=>True) (Yf:=Yf0) (Ya:=Ya0) (N:=20000) left0 (fun s e=>trivial) (fun _ _ _ h _=>h) (d:=((defOf vw (Str.ofString "law")).get (by kernel_rfl)).1) (kwd:=((defOf vw (Str.ofString "law")).get (by kernel_rfl)).2) ?h1 ?h2 ?h3 (fun s e=>recFacts_nil rfl) rfl ws ?h4 ⟨rfl,rfl,rfl,rfl,rfl,?h5⟩ ?h6 hc
 case h1=>kernel_rfl
 case h2=>kernel_rfl
 case h3=>kernel_rfl
 case h4=>kernel_rfl
 case h5=>decide +kernel
 case h6=>w_witness2
end
section
open PySem.Sem (wp)
noncomputable def Still {α : Type} (t : Sem α) : Prop:=∀ (M : Model) (Γ : Ctx) (Q : α → Pos → Shared → Prop) (E : Value → Pos → Shared → Prop) (p : Pos) (s : Shared),wp M Γ t Q E p s → wp M Γ t (fun a p' s'=>p' = p ∧ Q a p' s') (fun e p' s'=>p' = p ∧ E e p' s') p s
theorem Still.bind {α β : Type} {m : Sem α} {f : α → Sem β} (h : Still m) (hf : ∀ a,Still (f a)) : Still (m >>= f):=fun M Γ Q E p s z=>by
 rw [Sem.wp_bind'] at z ⊢
 refine Sem.wp_mono M Γ m (fun a p' s' h'=>?_) (fun _ _ _ h'=>h') _ _ (h M Γ _ _ p s z)
 obtain ⟨rfl,h'⟩:=h'
 exact hf a M Γ _ _ _ _ h'
theorem Still.pure {α : Type} (a : α) : Still (Pure.pure a : Sem α):=fun M Γ Q E p s z=>⟨rfl,z⟩
theorem Still.unsup {α : Type} (m : String) : Still (unsupported m : Sem α):=fun M Γ Q E p s z=>z.elim
theorem Still.load (a : Addr) : Still (PySem.load a):=fun M Γ Q E p s ⟨o,ho,z⟩=>⟨o,ho,rfl,z⟩
theorem Still.update (a : Addr) (f : Obj → Obj) : Still (PySem.update a f):=fun M Γ Q E p s ⟨ho,z⟩=>⟨ho,rfl,z⟩
theorem Still.alloc (o : Obj) : Still (PySem.alloc o):=fun M Γ Q E p s z=>⟨rfl,z⟩
theorem Still.stack : Still PySem.stack:=fun M Γ Q E p s z=>⟨rfl,z⟩
theorem Still.ite {α : Type} {c : Prop} [Decidable c] {a b : Sem α} (h1 : Still a) (h2 : Still b) : Still (if c then a else b):=by
 split
 ·exact h1
 ·exact h2
theorem still_fieldsOf (v : Value) : Still (fieldsOf v):=by
 unfold fieldsOf
 repeat (first | with_reducible exact Still.pure _ | with_reducible exact Still.unsup _ | with_reducible exact Still.load _ | with_reducible exact Still.loadPart _ _ | with_reducible exact Still.update _ _ | with_reducible exact Still.alloc _ | with_reducible exact Still.stack | with_reducible exact Still.ask | with_reducible exact Still.rule _ | with_reducible assumption | with_reducible refine Still.bind ?_ fun _=>?_ | with_reducible refine Still.ite ?_ ?_ | split)
theorem still_field (v : Value) (i : Nat) : Still (field v i):=by
 unfold field
 have h1:=still_fieldsOf v
 repeat (first | with_reducible exact Still.pure _ | with_reducible exact Still.unsup _ | with_reducible exact Still.load _ | with_reducible exact Still.loadPart _ _ | with_reducible exact Still.update _ _ | with_reducible exact Still.alloc _ | with_reducible exact Still.stack | with_reducible exact Still.ask | with_reducible exact Still.rule _ | with_reducible assumption | with_reducible refine Still.bind ?_ fun _=>?_ | with_reducible refine Still.ite ?_ ?_ | split)
theorem still_setField (v : Value) (i : Nat) (x : Value) : Still (setField v i x):=by
 unfold setField updateField
 repeat (first | with_reducible exact Still.pure _ | with_reducible exact Still.unsup _ | with_reducible exact Still.load _ | with_reducible exact Still.loadPart _ _ | with_reducible exact Still.update _ _ | with_reducible exact Still.alloc _ | with_reducible exact Still.stack | with_reducible exact Still.ask | with_reducible exact Still.rule _ | with_reducible assumption | with_reducible refine Still.bind ?_ fun _=>?_ | with_reducible refine Still.ite ?_ ?_ | split)
theorem still_setFlight (e : Value) (f : Option Addr) : Still (setFlight e f):=by
 unfold setFlight
 have h1:=still_field e 1
 have h2:=fun tb x=>still_setField tb 3 x
 repeat (first | with_reducible exact Still.pure _ | with_reducible exact Still.unsup _ | with_reducible exact Still.load _ | with_reducible exact Still.loadPart _ _ | with_reducible exact Still.update _ _ | with_reducible exact Still.alloc _ | with_reducible exact Still.stack | with_reducible exact Still.ask | with_reducible exact Still.rule _ | with_reducible assumption | with_reducible exact h2 _ _ | with_reducible refine Still.bind ?_ fun _=>?_ | with_reducible refine Still.ite ?_ ?_ | split)
theorem still_entryPlace (f : Addr) (b : Bool) : Still (entryPlaceOf f b):=by
 unfold entryPlaceOf
 repeat (first | with_reducible exact Still.pure _ | with_reducible exact Still.unsup _ | with_reducible exact Still.load _ | with_reducible exact Still.loadPart _ _ | with_reducible exact Still.update _ _ | with_reducible exact Still.alloc _ | with_reducible exact Still.stack | with_reducible exact Still.ask | with_reducible exact Still.rule _ | with_reducible assumption | with_reducible refine Still.bind ?_ fun _=>?_ | with_reducible refine Still.ite ?_ ?_ | split)
theorem still_envs : Still frameEnvs:=by
 unfold frameEnvs
 repeat (first | with_reducible exact Still.pure _ | with_reducible exact Still.unsup _ | with_reducible exact Still.load _ | with_reducible exact Still.loadPart _ _ | with_reducible exact Still.update _ _ | with_reducible exact Still.alloc _ | with_reducible exact Still.stack | with_reducible exact Still.ask | with_reducible exact Still.rule _ | with_reducible assumption | with_reducible refine Still.bind ?_ fun _=>?_ | with_reducible refine Still.ite ?_ ?_ | split)
theorem still_under : Still underTheClaimsCaller:=by
 unfold underTheClaimsCaller
 repeat (first | with_reducible exact Still.pure _ | with_reducible exact Still.unsup _ | with_reducible exact Still.load _ | with_reducible exact Still.loadPart _ _ | with_reducible exact Still.update _ _ | with_reducible exact Still.alloc _ | with_reducible exact Still.stack | with_reducible exact Still.ask | with_reducible exact Still.rule _ | with_reducible assumption |  with_reducible refine Still.bind ?_ fun _=>?_ | with_reducible refine Still.ite ?_ ?_ | split)
theorem still_behind (env : Env) (l : List Env) : Still (behindIsImport env l):=by
 unfold behindIsImport
 repeat (first | with_reducible exact Still.pure _ | with_reducible exact Still.unsup _ | with_reducible exact Still.load _ | with_reducible exact Still.loadPart _ _ | with_reducible exact Still.update _ _ | with_reducible exact Still.alloc _ | with_reducible exact Still.stack | with_reducible exact Still.ask | with_reducible exact Still.rule _ | with_reducible assumption | with_reducible exact still_field _ _ | with_reducible refine Still.bind ?_ fun _=>?_ | with_reducible refine Still.ite ?_ ?_ | split)
theorem still_kept (env : Env) (b : Bool) (l : List Env) : Still (keptBack env b l):=by
 unfold keptBack
 repeat (first | with_reducible exact Still.pure _ | with_reducible exact Still.unsup _ | with_reducible exact Still.load _ | with_reducible exact Still.loadPart _ _ | with_reducible exact Still.update _ _ | with_reducible exact Still.alloc _ | with_reducible exact Still.stack | with_reducible exact Still.ask | with_reducible exact Still.rule _ | with_reducible assumption | with_reducible exact still_under | with_reducible refine Still.bind ?_ fun _=>?_ | with_reducible refine Still.ite ?_ ?_ | split)
theorem still_ready : ∀ (l : List Env),Still (readyFrames l)
 | []=>Still.pure _
 | env :: outer=>by
   have ih:=still_ready outer
   unfold readyFrames
   repeat (first | with_reducible exact Still.pure _ | with_reducible exact Still.unsup _ | with_reducible exact Still.load _ | with_reducible exact Still.loadPart _ _ | with_reducible exact Still.update _ _ | with_reducible exact Still.alloc _ | with_reducible exact Still.stack | with_reducible exact Still.ask | with_reducible exact Still.rule _ | with_reducible assumption | with_reducible exact still_behind _ _ | with_reducible exact still_kept _ _ _ | with_reducible refine Still.bind ?_ fun _=>?_ | with_reducible refine Still.ite ?_ ?_ | split)
theorem still_frameObject (l : List Env) : Still (frameObject l):=by
 unfold frameObject
 repeat (first | with_reducible exact Still.pure _ | with_reducible exact Still.unsup _ | with_reducible exact Still.load _ | with_reducible exact Still.loadPart _ _ | with_reducible exact Still.update _ _ | with_reducible exact Still.alloc _ | with_reducible exact Still.stack | with_reducible exact Still.ask | with_reducible exact Still.rule _ | with_reducible assumption | with_reducible exact still_ready _ | with_reducible refine Still.bind ?_ fun _=>?_ | with_reducible refine Still.ite ?_ ?_ | split)
theorem still_frameOf (env : Env) : Still (PySem.frameOf env):=by
 unfold PySem.frameOf
 repeat (first | with_reducible exact Still.pure _ | with_reducible exact Still.unsup _ | with_reducible exact Still.load _ | with_reducible exact Still.loadPart _ _ | with_reducible exact Still.update _ _ | with_reducible exact Still.alloc _ | with_reducible exact Still.stack | with_reducible exact Still.ask | with_reducible exact Still.rule _ | with_reducible assumption | with_reducible exact still_frameObject _ | with_reducible exact still_envs | with_reducible refine Still.bind ?_ fun _=>?_ | with_reducible refine Still.ite ?_ ?_ | split)
theorem still_newObj (ty : String) (vs : Array Value) : Still (newObj (.type ty) (.fields vs)):=by
 unfold newObj newObjAsIs
 dsimp only
 repeat (first | contradiction | with_reducible exact Still.pure _ | with_reducible exact Still.unsup _ | with_reducible exact Still.load _ | with_reducible exact Still.loadPart _ _ | with_reducible exact Still.update _ _ | with_reducible exact Still.alloc _ | with_reducible exact Still.stack | with_reducible exact Still.ask | with_reducible exact Still.rule _ | with_reducible assumption |  with_reducible refine Still.bind ?_ fun _=>?_ | with_reducible refine Still.ite ?_ ?_ | split | dsimp only)
theorem still_newEntry (a b c d e : Value) (l : List Value) : Still (EntryCells.newEntry a b c d e l):=by
 unfold EntryCells.newEntry newFields
 repeat (first | with_reducible exact Still.pure _ | with_reducible exact Still.unsup _ | with_reducible exact Still.load _ | with_reducible exact Still.loadPart _ _ | with_reducible exact Still.update _ _ | with_reducible exact Still.alloc _ | with_reducible exact Still.stack | with_reducible exact Still.ask | with_reducible exact Still.rule _ | with_reducible assumption | with_reducible exact still_newObj _ _ | with_reducible refine Still.bind ?_ fun _=>?_ | with_reducible refine Still.ite ?_ ?_ | split)
theorem still_noteFrame (e : Value) (env : Env) : Still (noteFrame e env):=by
 unfold noteFrame
 repeat (first | with_reducible exact Still.pure _ | with_reducible exact Still.unsup _ | with_reducible exact Still.load _ | with_reducible exact Still.loadPart _ _ | with_reducible exact Still.update _ _ | with_reducible exact Still.alloc _ | with_reducible exact Still.stack | with_reducible exact Still.ask | with_reducible exact Still.rule _ | with_reducible assumption | with_reducible exact still_field _ _ | with_reducible exact still_setField _ _ _ | with_reducible exact still_frameOf _ | with_reducible exact still_entryPlace _ _ | with_reducible exact still_newEntry _ _ _ _ _ _ | with_reducible refine Still.bind ?_ fun _=>?_ | with_reducible refine Still.ite ?_ ?_ | split)
theorem still_leaving (env : Env) (e : Value) : Still (leaving env e):=by
 unfold leaving
 repeat (first | with_reducible exact Still.pure _ | with_reducible exact Still.unsup _ | with_reducible exact Still.load _ | with_reducible exact Still.loadPart _ _ | with_reducible exact Still.update _ _ | with_reducible exact Still.alloc _ | with_reducible exact Still.stack | with_reducible exact Still.ask | with_reducible exact Still.rule _ | with_reducible assumption | with_reducible exact still_noteFrame _ _ | with_reducible exact still_setFlight _ _ | with_reducible refine Still.bind ?_ fun _=>?_ | with_reducible refine Still.ite ?_ ?_ | split)
end
section
open PySem.Sem (wp finPost)
noncomputable abbrev md (w : World) : Model:=model pw w
noncomputable def denT : Code → Sem Fin:=PySem.W.Fast.tw11892475500146522536 PySem.W.Fast.tw14364793385576792824
theorem denT_eq : denote table = denT:=by
 rw [table_eq_tree,PySem.W.Fast.te11892475500146522536,PySem.W.Fast.te14364793385576792824];rfl
noncomputable def oldGet (P : Params) (a : Nat) : Option Obj:=match Nat.beq a 353 with
 | true=>none
 | false=>match BT.get (tr7 P) a with
   | some o=>alive o
   | none=>none
structure Kf where
 k : Result → Sem Fin
 hd : Option Value
 c : Code
 p : Pos
inductive Ad where
 | old
 | own (i : Nat)
 | ent
 | room (what : String)
structure Sup where
 n : Nat
 t : Nat
 a : Nat → Nat
 v : Nat → Value
 x : Nat → Array Value
 e : Nat → Array DictEntry
 s : Nat → Array (Option Value)
instance : Inhabited Sup:=⟨⟨0,0,fun _=>0,fun _=>.none,fun _=>#[],fun _=>#[],fun _=>#[]⟩⟩
inductive Fs where
 | envs (l : List Env)
 | codes (l : List Code)
instance : Coe (List Env) Fs:=⟨.envs⟩
structure Orc where
 c : Code
 need : List (Nat × Nat × Obj)
 r : Result
 upd : List (Nat × Nat × Obj)
 out : List (Nat × Obj)
 sz : Option (Nat × Nat)
 fs : Option Fs
 kd : Nat
structure AS where
 T : BT
 A : BT
 k : Nat
 nb : Nat
 mb : Nat
 tb : Nat
 ti : Nat
 o1 : List Nat
 o2 : List Nat
 e1 : List (List (Code × Pos) → Sem Fin)
 e2 : List (List (Code × Pos) → Sem Fin)
 c1 : List Code
 c2 : List Code
 b1 : List Obj
 b2 : List Obj
structure MS where
 c : Code
 p : Pos
 t : Sem Fin
 K : List Kf
noncomputable def aObj (a : Nat) : Obj:=⟨.ref a,none,.plain,#[]⟩
noncomputable def aOf : Option Obj → Nat
 | some o=>match o.cls with
   | .ref a=>a
   | _=>0
 | none=>0
noncomputable def ad (S : AS) (i : Nat) : Nat:=aOf (S.A.get i)
noncomputable def topH : List Kf → Option Value
 | []=>none
 | κ :: K=>match κ.hd with
   | none=>topH K
   | some e=>some e
noncomputable def entTail (K : Unit → Sem Fin) : List (Code × Pos) → Sem Fin:=match R.bindR (PySem.W.Fast.tw15066281185411960212 0) K with
 | .stack k=>k
 | _=>fun _=>.unsupported ""
noncomputable def roomTail (what : String) (K : Unit → Sem Fin) : List (Code × Pos) → Sem Fin:=match R.bindR (PySem.W.Fast.tw10648789137845014744 what) K with
 | .stack k=>k
 | _=>fun _=>.unsupported ""
noncomputable def afterEnt (P : Params) (k : List (Code × Pos) → Sem Fin) : Sem Fin:=match k [] with
 | .load a _ k1=>match oldGet P a with
   | some o=>k1 o
   | none=>.unsupported "no statics"
 | _=>.unsupported "no entry"
noncomputable def okHd : Option Value → Bool
 | none=>true
 | some e=>match e with
   | .ref _=>true
   | _=>false
noncomputable def freed (o : Obj) : Bool:=match o with
 | ⟨_,_,.freed,_⟩=>true
 | _=>false
noncomputable def needs : AS → List (Nat × Nat × Obj) → Option AS
 | S,[]=>some S
 | S,x :: l=>match S.T.get x.1 with
   | some o=>needs { S with o1:=ad S x.1 :: S.o1,o2:=x.2.1 :: S.o2,b1:=o :: S.b1,b2:=x.2.2 :: S.b2 } l
   | none=>none
noncomputable def upds : AS → List (Nat × Nat × Obj) → Option AS
 | S,[]=>some S
 | S,x :: l=>match S.T.get x.1 with
   | some _=>match freed x.2.2 with
     | false=>upds { S with T:=S.T.set x.1 fun _=>x.2.2,o1:=ad S x.1 :: S.o1,o2:=x.2.1 :: S.o2 } l
     | true=>none
   | none=>none
noncomputable def put (S : AS) (a : Nat) (o : Obj) : Option AS:=match freed o with
 | true=>none
 | false=>match (S.T.ins S.k o).get S.k with
   | some _=>match (S.A.ins S.k (aObj a)).get S.k with
     | some _=>some { S with T:=S.T.ins S.k o,A:=S.A.ins S.k (aObj a),k:=S.k + 1 }
     | none=>none
   | none=>none
noncomputable def outs : AS → List (Nat × Obj) → Option AS
 | S,[]=>some S
 | S,x :: l=>match put S x.1 x.2 with
   | some S=>outs S l
   | none=>none
noncomputable def sized (S : AS) : Option (Nat × Nat) → AS
 | none=>S
 | some x=>{ S with nb:=x.1,mb:=0,tb:=x.2,ti:=0 }
noncomputable def encE : List Env → Sem Fin
 | []=>.raise .none
 | env :: l=>.call (.func [] env) none false [] fun _=>encE l
theorem encE_inj : ∀ {a b : List Env},encE a = encE b → a = b
 | [],[],_=>rfl
 | [],_ :: _,h=>by cases h
 | _ :: _,[],h=>by cases h
 | x :: a,y :: b,h=>by
   unfold encE at h
   injection h with h1 h2 h3 h4 h5
   injection h1 with _ h1
   rw [h1,encE_inj (congrFun h5 (.error .none))]
noncomputable def encC : List Code → Sem Fin
 | []=>.raise .none
 | c :: l=>.call c none false [] fun _=>encC l
theorem encC_inj : ∀ {a b : List Code},encC a = encC b → a = b
 | [],[],_=>rfl
 | [],_ :: _,h=>by cases h
 | _ :: _,[],h=>by cases h
 | x :: a,y :: b,h=>by
   unfold encC at h
   injection h with h1 h2 h3 h4 h5
   rw [h1,encC_inj (congrFun h5 (.error .none))]
noncomputable def envK (c : Code) (K : List Kf) : List Env:=c.envs ++ K.flatMap fun κ=>κ.c.envs
noncomputable def codeK (c : Code) (K : List Kf) : List Code:=c :: K.map (·.c)
noncomputable def Fs.holds (f : Fs) (B : List (Code × Pos)) : Prop:=match f with
 | .envs l=>envsOf B = l
 | .codes l=>B.map (·.1) = l
noncomputable def Fs.holdsAt (f : Fs) (c : Code) (B : List (Code × Pos)) : Prop:=match f with
 | .envs l=>c.envs ++ envsOf B = l
 | .codes l=>c :: B.map (·.1) = l
theorem Fs.holds_cons {f : Fs} {c : Code} {p : Pos} {B : List (Code × Pos)} (h : f.holdsAt c B) : f.holds ((c,p) :: B):=by
 cases f with
 | envs l=>show envsOf _ = l;rw [envsOf_cons];exact h
 | codes l=>exact h
noncomputable def framed (S : AS) (FB : Option Fs) (c : Code) (K : List Kf) : Option Fs → Option AS
 | none=>some S
 | some l=>match l with
   | .envs l=>match FB with
     | some fb=>match fb with
       | .envs fb=>some { S with e1:=(fun _=>encE (envK c K ++ fb)) :: S.e1,e2:=(fun _=>encE l) :: S.e2 }
       | .codes fb=>some { S with e1:=(fun _=>encE (envK c K ++ fb.flatMap (·.envs))) :: S.e1,e2:=(fun _=>encE l) :: S.e2 }
     | none=>none
   | .codes l=>match FB with
     | some fb=>match fb with
       | .codes fb=>some { S with e1:=(fun _=>encC (codeK c K ++ fb)) :: S.e1,e2:=(fun _=>encC l) :: S.e2 }
       | .envs _=>none
     | none=>none
theorem envsOf_codes : ∀ (B : List (Code × Pos)),envsOf B = (B.map (·.1)).flatMap (·.envs)
 | []=>rfl
 | x :: B=>by obtain ⟨c,p⟩:=x;rw [envsOf_cons,envsOf_codes B];rfl
noncomputable def orcE (S : AS) (o : Orc) : Option AS:=match needs S o.need with
 | some S=>match upds S o.upd with
   | some S=>outs (sized S o.sz) o.out
   | none=>none
 | none=>none
noncomputable def orcA (FB : Option Fs) (S : AS) (x : MS) (o : Orc) (c : Code) (k : Result → Sem Fin) : Option (AS × MS):=match topH x.K with
 | none=>match Nat.blt (x.K.length) 14 with
   | true=>match o.kd with
     | 0=>match framed S FB x.c x.K o.fs with
       | some S=>match orcE S o with
         | some S=>some ({ S with c1:=c :: S.c1,c2:=o.c :: S.c2 },⟨x.c,x.p,k o.r,x.K⟩)
         | none=>none
       | none=>none
     | _ + 1=>none
   | false=>none
 | some _=>none
noncomputable def hM : Nat → Env → Value → Sem Unit
 | 2,env,e=>R.bindR (PySem.W.Fast.tw17872113653443481271 e env) fun _=>PySem.W.Fast.tw1623429502029203251 e
 | _,env,e=>PySem.W.Fast.tw9442747609961115081 env e
noncomputable def hF : Nat → Flow → Sem Fin
 | 2,fl=>.pure (.done fl)
 | _,fl=>match fl with
   | .ret v=>ret v
   | _=>ret .none
noncomputable def hT (k : Nat) (env : Env) (e : Value) : Sem Fin:=R.bindR (R.bindR (hM k env e) fun _=>(.raise e : Sem Flow)) (hF k)
theorem wp_hT {M : Model} {Γ : Ctx} {k : Nat} {env : Env} {e : Value} {Q : Fin → Pos → Shared → Prop} {E : Value → Pos → Shared → Prop} {p : Pos} {s : Shared} (h : wp M Γ (hM k env e) (fun _ p' s'=>E e p' s') E p s) : wp M Γ (hT k env e) Q E p s:=by
 unfold hT
 rw [← R.bindR_eq,Sem.wp_bind,Sem.wp_bind]
 exact h
noncomputable def envOf : Code → Option Env
 | .func _ env=>some env
 | _=>none
noncomputable def tryOf : Code → Option (List ExceptHandler × List Stmt)
 | .func body _=>match body with
   | []=>none
   | st :: rest=>match st with
     | .Try _ hs _ _ _=>some (hs,rest)
     | _=>none
 | _=>none
noncomputable def tryW (env : Env) (rest : List Stmt) (m : Sem Flow) : Sem Fin:=
 R.bindR (R.onRaiseR (R.bindR m fun fl=>match fl with
  | .next=>PySem.W.Fast.tw12563942051412417395 rest env
  | f=>.pure f) (PySem.W.Fast.tw9442747609961115081 env)) fun fl=>match fl with
  | .ret v=>PySem.W.Fast.tw6905046200447255374 v
  | _=>PySem.W.Fast.tw6905046200447255374 .none
noncomputable def bT (k : Nat) (c : Code) (env : Env) (e : Value) : Sem Fin:=match k with
 | 4=>match tryOf c with
   | some x=>tryW env x.2 (R.bindR (PySem.W.Fast.tw17872113653443481271 e env) fun _=>R.bindR (PySem.W.Fast.tw5670386056902412789 e none) fun _=>PySem.W.Fast.tw14206642085496868694 e env x.1)
   | none=>.unsupported ""
 | k=>hT k env e
noncomputable def nT (k : Nat) (c : Code) (env : Env) (e : Value) : Sem Fin:=match k with
 | 4=>match tryOf c with
   | some x=>tryW env x.2 (PySem.W.Fast.tw14206642085496868694 e env x.1)
   | none=>.unsupported ""
 | _=>.raise e
theorem wp_bT {M : Model} {Γ : Ctx} {k : Nat} {c : Code} {env : Env} {e : Value} {Q : Fin → Pos → Shared → Prop} {E : Value → Pos → Shared → Prop} {p p' : Pos} {s s' : Shared}
 (h : ∀ Q' E',Q' () p' s' → wp M Γ (hM k env e) Q' E' p s) (h2 : k = 4 → p' = p) (hE : ∀ e p1 p2 s,E e p1 s → E e p2 s) (hn : wp M Γ (nT k c env e) Q E p s') : wp M Γ (bT k c env e) Q E p s:=by
 by_cases hk : k = 4
 ·subst hk
  obtain rfl:=h2 rfl
  unfold bT
  unfold nT at hn
  cases hc : tryOf c with
  | none=>rw [hc] at hn;exact hn.elim
  | some x=>
    rw [hc] at hn
    have hn : wp M Γ (tryW env x.2 (PySem.W.Fast.tw14206642085496868694 e env x.1)) Q E p' s':=hn
    show wp M Γ (tryW env x.2 (R.bindR (PySem.W.Fast.tw17872113653443481271 e env) fun _=>R.bindR (PySem.W.Fast.tw5670386056902412789 e none) fun _=>PySem.W.Fast.tw14206642085496868694 e env x.1)) Q E p' s
    unfold tryW at hn ⊢
    rw [← R.bindR_eq,← R.onRaiseR_eq,Sem.wp_bind,Sem.wp_onRaise,Sem.wp_bind] at hn ⊢
    simp only [Sem.wp_bind]
    have z:=h (fun _ p2 s2=>wp M Γ (PySem.W.Fast.tw14206642085496868694 e env x.1) (fun a p' s'=>wp M Γ (match a with
     | .next=>PySem.W.Fast.tw12563942051412417395 x.2 env
     | f=>Sem.pure f) (fun a p' s'=>wp M Γ (match a with
       | .ret v=>PySem.W.Fast.tw6905046200447255374 v
       | _=>PySem.W.Fast.tw6905046200447255374 .none) Q E p' s') (fun e p' s'=>wp M Γ (PySem.W.Fast.tw9442747609961115081 env e) (fun _ p'' s''=>E e p'' s'') E p' s') p' s') (fun e p' s'=>wp M Γ (PySem.W.Fast.tw9442747609961115081 env e) (fun _ p'' s''=>E e p'' s'') E p' s') p2 s2) (fun e p' s'=>wp M Γ (PySem.W.Fast.tw9442747609961115081 env e) (fun _ p'' s''=>E e p'' s'') E p' s') hn
    have z : wp M Γ (PySem.W.Fast.tw9442747609961115081 env e) _ _ p' s:=z
    rw [← PySem.W.Fast.te9442747609961115081] at z ⊢
    unfold leaving at z ⊢
    rw [Sem.wp_bind'] at z
    rw [← PySem.W.Fast.te17872113653443481271,← PySem.W.Fast.te5670386056902412789]
    exact z
 ·have e1 : bT k c env e = hT k env e:=by
   unfold bT
   split
   ·exact absurd rfl hk
   ·rfl
  have e2 : nT k c env e = .raise e:=by
   unfold nT
   split
   ·exact absurd rfl hk
   ·rfl
  rw [e1]
  rw [e2] at hn
  exact wp_hT (h _ _ (hE _ _ _ _ hn))
noncomputable def noteA (FB : Option Fs) (S : AS) (x : MS) (o : Orc) : Option (AS × MS):=match o.kd with
 | 0=>none
 | k + 1=>match envOf o.c with
   | some env=>match o.r with
     | .error ev=>match framed S FB x.c x.K o.fs with
       | some S=>match orcE S o with
         | some S=>some ({ S with e1:=(fun _=>x.t) :: S.e1,e2:=(fun _=>bT (k + 1) o.c env ev) :: S.e2 },⟨x.c,x.p,nT (k + 1) o.c env ev,x.K⟩)
         | none=>none
       | none=>none
     | .ok _=>none
   | none=>none
noncomputable def stepA (P : Params) (B : List (Code × Pos)) (S : AS) (l : List Ad) (x : MS) : Option (AS × List Ad × MS):=match x.t with
 | .pure fin=>match fin with
   | .done f=>match x.K with
     | []=>none
     | κ :: K=>some (S,l,⟨κ.c,κ.p,κ.k (.ok f),K⟩)
   | .again c=>match c.quiet && !c.isCaller with
     | true=>some (S,l,⟨c,x.p,denT c,x.K⟩)
     | false=>none
 | .raise e=>match x.K with
   | []=>none
   | κ :: K=>some (S,l,⟨κ.c,κ.p,κ.k (.error e),K⟩)
 | .rule _ k=>some (S,l,⟨x.c,x.p,k (),x.K⟩)
 | .at q k=>some (S,l,⟨x.c,q,k (),x.K⟩)
 | .point _ k=>some (S,l,⟨x.c,x.p,k (),x.K⟩)
 | .ask k=>some (S,l,⟨x.c,x.p,k ⟨pw,P⟩,x.K⟩)
 | .load a _ k=>match l with
   | .old :: l=>match oldGet P a with
     | some o=>some (S,l,⟨x.c,x.p,k o,x.K⟩)
     | none=>none
   | .own i :: l=>match S.T.get i with
     | some o=>some ({ S with o1:=a :: S.o1,o2:=ad S i :: S.o2 },l,⟨x.c,x.p,k o,x.K⟩)
     | none=>none
   | _=>none
 | .loadIfAlive a k=>match l with
   | .old :: l=>match oldGet P a with
     | some o=>some (S,l,⟨x.c,x.p,k (some o),x.K⟩)
     | none=>none
   | .own i :: l=>match S.T.get i with
     | some o=>some ({ S with o1:=a :: S.o1,o2:=ad S i :: S.o2 },l,⟨x.c,x.p,k (some o),x.K⟩)
     | none=>none
   | _=>none
 | .update a _ f k=>match l with
   | .own i :: l=>match S.T.get i with
     | some o=>match freed (f o) with
       | false=>some ({ S with T:=S.T.set i f,o1:=a :: S.o1,o2:=ad S i :: S.o2 },l,⟨x.c,x.p,k (),x.K⟩)
       | true=>none
     | none=>none
   | _=>none
 | .alloc o k=>match put S (S.nb + S.mb) o with
   | some S'=>some ({ S' with mb:=S.mb + 1 },l,⟨x.c,x.p,k (S.nb + S.mb),x.K⟩)
   | none=>none
 | .fresh k=>some ({ S with ti:=S.ti + 1 },l,⟨x.c,x.p,k (S.tb + S.ti),x.K⟩)
 | .handled own k=>match own with
   | false=>some (S,l,⟨x.c,x.p,k (topH x.K),x.K⟩)
   | true=>none
 | .stack k=>match l with
   | .ent :: l=>match Nat.blt (x.K.length) 29 with
     | true=>some ({ S with e1:=k :: S.e1,e2:=entTail (fun _=>afterEnt P k) :: S.e2 },l,⟨x.c,x.p,afterEnt P k,x.K⟩)
     | false=>none
   | .room what :: l=>match Nat.blt (x.K.length) 29 with
     | true=>some ({ S with e1:=k :: S.e1,e2:=roomTail what (fun _=>k []) :: S.e2 },l,⟨x.c,x.p,k [],x.K⟩)
     | false=>none
   | _=>some (S,l,⟨x.c,x.p,k ((x.c,x.p) :: (x.K.map (fun κ=>(κ.c,κ.p)) ++ B)),x.K⟩)
 | .call c hd _ _ k=>match okHd hd && c.quiet && !c.isCaller with
   | true=>some (S,l,⟨c,x.p,denT c,⟨k,hd,x.c,x.p⟩ :: x.K⟩)
   | false=>none
 | _=>none
noncomputable def goA (P : Params) (B : List (Code × Pos)) : Nat → AS → List Ad → MS → Option (AS × List Ad × MS)
 | 0,S,l,x=>some (S,l,x)
 | n + 1,S,l,x=>match stepA P B S l x with
   | some r=>goA P B n r.1 r.2.1 r.2.2
   | none=>none
noncomputable def ctxK (Γ : Ctx) : List Kf → Code → Ctx
 | [],c=>Γ.goto c
 | κ :: K,c=>(ctxK Γ K κ.c).enter c κ.hd κ.p
theorem ctxK_code (Γ : Ctx) : ∀ (K : List Kf) (c : Code),(ctxK Γ K c).code = c
 | [],_=>rfl
 | _ :: _,_=>rfl
theorem ctxK_goto (Γ : Ctx) : ∀ (K : List Kf) (c c' : Code),(ctxK Γ K c).goto c' = ctxK Γ K c'
 | [],_,_=>rfl
 | _ :: _,_,_=>rfl
theorem ctxK_below (Γ : Ctx) : ∀ (K : List Kf) (c : Code),(ctxK Γ K c).below = K.map (fun κ=>(κ.c,κ.p)) ++ Γ.below
 | [],_=>rfl
 | κ :: K,c=>by
   show ((ctxK Γ K κ.c).code,κ.p) :: (ctxK Γ K κ.c).below = _
   rw [ctxK_code,ctxK_below Γ K κ.c];rfl
noncomputable def Mn (w : World) (Γ : Ctx) (R : Result → Shared → Prop) : List Kf → Code → Pos → Sem Fin → Shared → Prop
 | [],c,p,t,s=>wp (md w) (ctxK Γ [] c) t (finPost (md w) (ctxK Γ [] c) R) (fun e _ s'=>R (.error e) s') p s
 | κ :: K,c,p,t,s=>wp (md w) (ctxK Γ (κ :: K) c) t (finPost (md w) (ctxK Γ (κ :: K) c) fun r s'=>Mn w Γ R K κ.c κ.p (κ.k r) s')
     (fun e _ s'=>Mn w Γ R K κ.c κ.p (κ.k (.error e)) s') p s
noncomputable def postK (w : World) (Γ : Ctx) (R : Result → Shared → Prop) : List Kf → Result → Shared → Prop
 | []=>R
 | κ :: K=>fun r s'=>Mn w Γ R K κ.c κ.p (κ.k r) s'
theorem Mn_is (w : World) (Γ : Ctx) (R : Result → Shared → Prop) (K : List Kf) (c : Code) (p : Pos) (t : Sem Fin) (s : Shared) :
 Mn w Γ R K c p t s = wp (md w) (ctxK Γ K c) t (finPost (md w) (ctxK Γ K c) (postK w Γ R K)) (fun e _ s'=>postK w Γ R K (.error e) s') p s:=by
 cases K <;> rfl
theorem Mn_again (w : World) (Γ : Ctx) (R : Result → Shared → Prop) (K : List Kf) (c c' : Code) (p : Pos) (s : Shared) (hq : c'.quiet = true)
 (h : Mn w Γ R K c' p (denT c') s) : Mn w Γ R K c p (.pure (.again c')) s:=by
 rw [Mn_is] at h ⊢
 show c'.quiet = true ∧ wpCode (md w) ((ctxK Γ K c).goto c') _ p s
 refine ⟨hq,?_⟩
 rw [ctxK_goto,wpCode_iff_wp,ctxK_code]
 rw [← denT_eq] at h
 exact h
theorem Mn_call (w : World) (Γ : Ctx) (R : Result → Shared → Prop) (K : List Kf) (c c' : Code) (p : Pos) (hd : Option Value) (g : Bool) (l : List Value) (k : Result → Sem Fin) (s : Shared)
 (h : Mn w Γ R (⟨k,hd,c,p⟩ :: K) c' p (denT c') s) : Mn w Γ R K c p (.call c' hd g l k) s:=by
 rw [Mn_is] at h ⊢
 show wpCode (md w) ((ctxK Γ K c).enter c' hd p) (fun r s'=>wp (md w) (ctxK Γ K c) (k r) _ _ p s') p s
 have e : (fun r s'=>wp (md w) (ctxK Γ K c) (k r) (finPost (md w) (ctxK Γ K c) (postK w Γ R K)) (fun e _ s'=>postK w Γ R K (.error e) s') p s') = postK w Γ R (⟨k,hd,c,p⟩ :: K):=by
  funext r s'
  show _ = Mn w Γ R K c p (k r) s'
  rw [Mn_is]
 rw [e,wpCode_iff_wp]
 rw [← denT_eq] at h
 exact h
theorem freed_is (o : Obj) : freed o = o.isFreed:=by
 obtain ⟨c,d,dt,sl⟩:=o
 cases dt <;> rfl
structure Rel (P : Params) (n0 : Nat) (as : List Nat) (S : AS) (s : Shared) : Prop where
 size : s.heap.objs.size = S.nb + S.mb
 toks : s.toks = S.tb + S.ti
 own : ∀ i o,S.T.get i = some o → i < S.k ∧ s.heap.get? (ad S i) = some o
 inj : ∀ i j,i < S.k → j < S.k → ad S i = ad S j → i = j
 low : ∀ i,i < S.k → ad S i < s.heap.objs.size
 sep : ∀ i,i < S.k → oldGet P (ad S i) = none
 mine : ∀ i,i < S.k → ad S i ∈ as ∨ n0 ≤ ad S i
 grown : n0 ≤ s.heap.objs.size
 oldlt : ∀ a o,oldGet P a = some o → a < s.heap.objs.size
 old : ∀ a o,oldGet P a = some o → s.heap.get? a = some o
 first : ∀ i a,as[i]? = some a → i < S.k ∧ ad S i = a
structure Ext (nb : Nat) (as : List Nat) (s s' : Shared) : Prop where
 keep : ∀ b o,b < nb → b ∉ as → s.heap.get? b = some o → s'.heap.get? b = some o
 size : s.heap.objs.size ≤ s'.heap.objs.size
 gens : s'.gens = s.gens
 drawn : s'.drawn = s.drawn
 os : s'.os = s.os
theorem Ext.rfl' {nb : Nat} {as : List Nat} {s : Shared} : Ext nb as s s:=⟨fun _ _ _ _ h=>h,Nat.le_refl _,rfl,rfl,rfl⟩
theorem Ext.trans {nb : Nat} {as : List Nat} {s s' s'' : Shared} (a : Ext nb as s s') (b : Ext nb as s' s'') : Ext nb as s s'':=
 ⟨fun x o h1 h2 h3=>b.keep x o h1 h2 (a.keep x o h1 h2 h3),Nat.le_trans a.size b.size,b.gens.trans a.gens,b.drawn.trans a.drawn,b.os.trans a.os⟩
theorem Ext.push {nb : Nat} {as : List Nat} {s : Shared} (o : Obj) : Ext nb as s { s with heap:=s.heap.push o }:=
 ⟨fun _ _ _ _ h=>Heap.get?_push_of_some _ h,by show _ ≤ (s.heap.push o).objs.size;rw [Heap.size_push];omega,rfl,rfl,rfl⟩
theorem Ext.tok {nb : Nat} {as : List Nat} {s : Shared} {t : Nat} : Ext nb as s { s with toks:=t }:=⟨fun _ _ _ _ h=>h,Nat.le_refl _,rfl,rfl,rfl⟩
variable {P : Params} {n0 : Nat} {as : List Nat}
theorem Rel.like {S S' : AS} {s : Shared} (r : Rel P n0 as S s) (e5 : S'.T = S.T) (e2 : S'.A = S.A) (e3 : S'.k = S.k) (e1 : S'.nb = S.nb) (e6 : S'.mb = S.mb) (e4 : S'.tb = S.tb) (e7 : S'.ti = S.ti) : Rel P n0 as S' s:=by
 have ea : ad S' = ad S:=by funext i;unfold ad;rw [e2]
 refine ⟨by rw [e1,e6];exact r.size,by rw [e4,e7];exact r.toks,?_,?_,?_,?_,?_,r.grown,r.oldlt,r.old,?_⟩ <;> rw [ea] <;> first | rw [e5,e3];exact r.own | rw [e3];first | exact r.inj | exact r.low | exact r.sep | exact r.mine | exact r.first
theorem Rel.fresh {S : AS} {s : Shared} (r : Rel P n0 as S s) : Rel P n0 as { S with ti:=S.ti + 1 } { s with toks:=s.toks + 1 }:=
 ⟨r.size,by show s.toks + 1 = S.tb + (S.ti + 1);rw [r.toks];rfl,r.own,r.inj,r.low,r.sep,r.mine,r.grown,r.oldlt,r.old,r.first⟩
theorem put_rel {S S1 : AS} {s s1 : Shared} {a : Nat} {o : Obj} (h : put S a o = some S1) (r : Rel P n0 as S s) (hn : n0 ≤ a) (hnew : ∀ i,i < S.k → ad S i ≠ a) (hlt : a < s1.heap.objs.size) (hold : oldGet P a = none)
 (ho : s1.heap.get? a = some o) (hkeep : ∀ b o,s.heap.get? b = some o → s1.heap.get? b = some o) (hs : s.heap.objs.size ≤ s1.heap.objs.size) (hn1 : s1.heap.objs.size = S.nb + S.mb + d) (ht : s1.toks = s.toks) :
 Rel P n0 as { S1 with mb:=S.mb + d } s1 ∧ S1.mb = S.mb ∧ S1.k = S.k + 1 ∧ (∀ i,i < S.k → ad S1 i = ad S i) ∧ ad S1 S.k = a:=by
 unfold put at h
 split at h
 ·cases h
 ·split at h
  ·rename_i o1 e1
   split at h
   ·rename_i o2 e2
    cases h
    have gT:=BT.get_ins o S.T S.k (by rw [e1];rfl)
    have gA:=BT.get_ins (aObj a) S.A S.k (by rw [e2];rfl)
    have ea : ∀ i,ad { S with T:=S.T.ins S.k o,A:=S.A.ins S.k (aObj a),k:=S.k + 1,mb:=S.mb + d } i = if i = S.k then a else ad S i:=fun i=>by
     show aOf ((S.A.ins S.k (aObj a)).get i) = _
     rw [gA]
     by_cases q : i = S.k
     ·rw [if_pos q,if_pos q];rfl
     ·rw [if_neg q,if_neg q];rfl
    have lt : ∀ i,i < S.k + 1 → i ≠ S.k → i < S.k:=fun i h1 h2=>by omega
    refine ⟨⟨by rw [hn1,Nat.add_assoc],by rw [ht];exact r.toks,fun i o' e=>?_,fun i j hi hj e=>?_,fun i hi=>?_,fun i hi=>?_,fun i hi=>?_,Nat.le_trans r.grown hs,fun b o' e=>Nat.lt_of_lt_of_le (r.oldlt b o' e) hs,fun b o' e=>hkeep b o' (r.old b o' e),fun i b e=>?_⟩,rfl,rfl,fun i hi=>?_,?_⟩
    ·have e' : (S.T.ins S.k o).get i = some o':=e
     rw [gT] at e'
     rw [ea]
     by_cases q : i = S.k
     ·rw [if_pos q] at e' ⊢
      cases e'
      exact ⟨by show i < S.k + 1;omega,ho⟩
     ·rw [if_neg q] at e' ⊢
      have z:=r.own i o' e'
      exact ⟨by show i < S.k + 1;omega,hkeep _ _ z.2⟩
    ·rw [ea,ea] at e
     by_cases q : i = S.k <;> by_cases q' : j = S.k
     ·rw [q,q']
     ·rw [if_pos q,if_neg q'] at e
      exact absurd e.symm (hnew j (lt j hj q'))
     ·rw [if_neg q,if_pos q'] at e
      exact absurd e (hnew i (lt i hi q))
     ·rw [if_neg q,if_neg q'] at e
      exact r.inj i j (lt i hi q) (lt j hj q') e
    ·rw [ea]
     by_cases q : i = S.k
     ·rw [if_pos q];exact hlt
     ·rw [if_neg q];exact Nat.lt_of_lt_of_le (r.low i (lt i hi q)) hs
    ·rw [ea]
     by_cases q : i = S.k
     ·rw [if_pos q];exact hold
     ·rw [if_neg q];exact r.sep i (lt i hi q)
    ·rw [ea]
     by_cases q : i = S.k
     ·rw [if_pos q];exact .inr hn
     ·rw [if_neg q];exact r.mine i (lt i hi q)
    ·have z:=r.first i b e
     rw [ea,if_neg (by omega)]
     exact ⟨by show i < S.k + 1;omega,z.2⟩
    ·have:=ea i
     rw [if_neg (by omega)] at this
     exact this
    ·have:=ea S.k
     rw [if_pos rfl] at this
     exact this
   ·cases h
  ·cases h
theorem old_none {S : AS} {s : Shared} (r : Rel P n0 as S s) {a : Nat} (h : s.heap.objs.size ≤ a) : oldGet P a = none:=by
 cases q : oldGet P a with
 | none=>rfl
 | some o=>exact absurd (r.oldlt a o q) (by omega)
theorem Rel.alloc {S S1 : AS} {s : Shared} (r : Rel P n0 as S s) {o : Obj} (h : put S (S.nb + S.mb) o = some S1) : Rel P n0 as { S1 with mb:=S.mb + 1 } { s with heap:=s.heap.push o }:=by
 have hf : freed o = false:=by
  unfold put at h
  split at h
  ·cases h
  ·assumption
 have hsz : (s.heap.push o).objs.size = s.heap.objs.size + 1:=Heap.size_push ..
 rw [← r.size] at h
 exact (put_rel (d:=1) (s1:={ s with heap:=s.heap.push o }) h r r.grown (fun i hi=>Nat.ne_of_lt (r.low i hi)) (by show _ < (s.heap.push o).objs.size;omega) (old_none r (Nat.le_refl _))
  (Heap.get?_push_size _ (by rw [← freed_is];exact hf)) (fun _ _ h=>Heap.get?_push_of_some _ h) (by show _ ≤ (s.heap.push o).objs.size;omega) (by show (s.heap.push o).objs.size = _;rw [hsz,r.size]) rfl).1
theorem Rel.update {S : AS} {s : Shared} (r : Rel P n0 as S s) {i : Nat} {o : Obj} {f : Obj → Obj} (e : S.T.get i = some o) (hf : freed (f o) = false) (a b : List Nat) :
 Rel P n0 as { S with T:=S.T.set i f,o1:=a,o2:=b } { s with heap:=s.heap.update (ad S i) f } ∧ Ext n0 as s { s with heap:=s.heap.update (ad S i) f }:=by
 rw [freed_is] at hf
 have hi:=(r.own i o e).1
 have ho:=(r.own i o e).2
 have hs : Heap.SameBut (ad S i) s.heap (s.heap.update (ad S i) f):=Heap.SameBut.update ..
 have hsz : (s.heap.update (ad S i) f).objs.size = s.heap.objs.size:=hs.1
 refine ⟨⟨?_,r.toks,fun j o' e'=>?_,r.inj,fun j hj=>by show ad S j < (s.heap.update (ad S i) f).objs.size;rw [hsz];exact r.low j hj,r.sep,r.mine,by show n0 ≤ (s.heap.update (ad S i) f).objs.size;rw [hsz];exact r.grown,fun a o' e'=>by show a < (s.heap.update (ad S i) f).objs.size;rw [hsz];exact r.oldlt a o' e',fun a o' e'=>?_,r.first⟩,⟨fun b o' h1 h2 h3=>(hs.2 b ?_).trans h3,by show _ ≤ (s.heap.update (ad S i) f).objs.size;rw [hsz];exact Nat.le_refl _,rfl,rfl,rfl⟩⟩
 ·show (s.heap.update (ad S i) f).objs.size = _
  rw [hsz,r.size]
 ·have e2 : (S.T.set i f).get j = some o':=e'
  rw [BT.get_set] at e2
  by_cases hj : j = i
  ·subst hj
   rw [if_pos rfl,e] at e2
   cases e2
   exact ⟨hi,Heap.get?_update_self f ho hf⟩
  ·rw [if_neg hj] at e2
   have y:=r.own j o' e2
   exact ⟨y.1,(hs.2 _ (fun z=>hj (r.inj j i y.1 hi z))).trans y.2⟩
 ·refine (hs.2 a fun z=>?_).trans (r.old a o' e')
  have:=r.sep i hi
  rw [← z,e'] at this
  cases this
 ·intro z
  subst z
  rcases r.mine i hi with q | q
  ·exact h2 q
  ·omega
theorem roomTail_is (what : String) (K : Unit → Sem Fin) : Sem.stack (roomTail what K) = (cRoom what).bind K:=by
 have e : (cRoom what).bind K = R.bindR (PySem.W.Fast.tw10648789137845014744 what) K:=by
  rw [← PySem.W.Fast.te10648789137845014744,R.bindR_eq]
 rw [e]
 kernel_rfl
theorem wp_room {M : Model} {Γ : Ctx} {Q : Unit → Pos → Shared → Prop} {E : Value → Pos → Shared → Prop} {p : Pos} {s : Shared} {what : String} (hd : Γ.units < cLine)
 (h : Q () p s) : wp M Γ (cRoom what) Q E p s:=by
 unfold cRoom
 rw [Sem.wp_bind']
 show wp M Γ (if ((((Γ.code,p) :: Γ.below).map (·.1.cUnits)).sum ≥ cLine) then _ else _) _ _ p s
 have e : (((Γ.code,p) :: Γ.below).map (·.1.cUnits)).sum = Γ.units:=by
  show unitsOf ((Γ.code,p) :: Γ.below) = _
  rw [unitsOf_cons];rfl
 rw [e,if_neg (by omega)]
 exact h
theorem entTail_is (K : Unit → Sem Fin) : Sem.stack (entTail K) = (enterFrame 0).bind K:=by
 have e : (enterFrame 0).bind K = R.bindR (PySem.W.Fast.tw15066281185411960212 0) K:=by
  rw [← PySem.W.Fast.te15066281185411960212,R.bindR_eq]
 rw [e]
 kernel_rfl
theorem noLimit_of {h : Heap} {P : Params} (e : h.get? 2 = some (c2v4 P)) : h.NoLimit:=by
 refine ⟨fun x=>nsFind (match (c2v4 P).data with | .dict es _=>es | _=>#[]) x,⟨_,(match (c2v4 P).data with | .dict es _=>es | _=>#[]),(match (c2v4 P).data with | .dict _ n=>n | _=>0),e,?_,?_,fun _=>rfl⟩,?_⟩
 ·kernel_rfl
 ·intro x hx
  have : ((match (c2v4 P).data with | .dict es _=>es | _=>#[]).toList.all fun e=>match e.key with | .str _ _=>true | _=>false) = true:=by kernel_rfl
  have z:=List.all_eq_true.mp this x (Array.mem_toList_iff.mpr hx)
  cases q : x.key with
  | str n t=>exact ⟨n,t,rfl⟩
  | _=>rw [q] at z;cases z
 ·kernel_rfl
theorem wp_enter {M : Model} {Γ : Ctx} {Q : Unit → Pos → Shared → Prop} {E : Value → Pos → Shared → Prop} {p : Pos} {s : Shared} (hl : s.heap.NoLimit) (hd : frameCount Γ.below + Γ.code.weight < recursionLimit)
 (h : Q () p s) : wp M Γ (enterFrame 0) Q E p s:=by
 let A : Around:={ handled:=Γ.handled,depth:=frameCount Γ.below + Γ.code.weight,units:=Γ.units }
 have hΓ : Γ.In A:=⟨rfl,Nat.le_refl _,(fun l hl=>nomatch hl),(fun g hg=>nomatch hg),Nat.le_refl _⟩
 obtain ⟨mc,hns,hnone⟩:=hl
 have hsum : ((((Γ.code,p) :: Γ.below).map (·.1)).map (·.frames)).sum + ((((Γ.code,p) :: Γ.below).map (·.1)).filter Code.isCreation).length < recursionLimit:=by
  have hge:=frameCount_ge ((Γ.code,p) :: Γ.below)
  rw [frameCount_cons] at hge
  omega
 have h1 : ¬ ((((Γ.code,p) :: Γ.below).map (·.1)).map (·.frames)).sum ≥ recursionLimit:=by omega
 have h2 : ¬ ((((Γ.code,p) :: Γ.below).map (·.1)).map (·.frames)).sum + ((((Γ.code,p) :: Γ.below).map (·.1)).filter Code.isCreation).length ≥ recursionLimit:=by omega
 simp only [enterFrame,currentRecursionLimit,Sem.wp_bind']
 show wp M Γ (nsGet cStatics "sys.recursionlimit") _ _ p s
 rw [Sem.wp_nsGet M Γ _ p s hns,hnone]
 show wp M Γ (if nearTheLimitUnderAClaim (((Γ.code,p) :: Γ.below).map (·.1)) (((((Γ.code,p) :: Γ.below).map (·.1)).map (·.frames)).sum + ((((Γ.code,p) :: Γ.below).map (·.1)).filter Code.isCreation).length) recursionLimit = true then _ else _) _ _ p s
 rw [if_neg (by rw [not_nearTheLimit hΓ hd];exact Bool.false_ne_true)]
 show wp M Γ (if ((((Γ.code,p) :: Γ.below).map (·.1)).map (·.frames)).sum ≥ recursionLimit then _ else _) _ _ p s
 rw [if_neg h1]
 show wp M Γ (if ((((Γ.code,p) :: Γ.below).map (·.1)).map (·.frames)).sum + ((((Γ.code,p) :: Γ.below).map (·.1)).filter Code.isCreation).length ≥ recursionLimit then _ else _) _ _ p s
 rw [if_neg h2]
 exact h
noncomputable def okK (K : List Kf) : Prop:=∀ κ ∈ K,okHd κ.hd = true ∧ κ.c.isCaller = false
theorem okHd_ne {hd : Option Value} (h : okHd hd = true) : hd ≠ some byPass:=by
 intro e
 subst e
 cases h
theorem ctxK_handled {Γ : Ctx} (hΓ : Γ.handled = none) : ∀ {K : List Kf} (c : Code),okK K → (ctxK Γ K c).handled = topH K
 | [],_,_=>hΓ
 | κ :: K,c,ok=>by
   show markOver κ.hd (ctxK Γ K κ.c).handled (ctxK Γ K κ.c).past = topH (κ :: K)
   rw [markOver_of_ne (okHd_ne (ok κ (.head _)).1),ctxK_handled hΓ κ.c fun x hx=>ok x (.tail _ hx)]
   show Option.or κ.hd (topH K) = (match κ.hd with | none=>topH K | some e=>some e)
   cases κ.hd <;> rfl
theorem dl {p : Prop} [Decidable p] {f : p → Nat} {g : ¬p → Nat} {n : Nat} (h1 : ∀ h,f h ≤ n) (h2 : ∀ h,g h ≤ n) : dite p f g ≤ n:=by
 split
 ·exact h1 _
 ·exact h2 _
theorem frames_le (c : Code) : c.frames ≤ 3:=by
 cases c
 case builtin id a=>
  delta Code.frames Code.frames.match_1 Code.frames._sparseCasesOn_1
  dsimp only
  iterate 9 (refine dl (fun h=>by subst h;exact Nat.le_of_ble_eq_true rfl) (fun h=>?_))
  split <;> decide
 all_goals first | exact Nat.le_of_ble_eq_true rfl | (delta Code.frames Code.frames.match_1 Code.frames._sparseCasesOn_1;dsimp only;split <;> decide)
theorem weight_le {c : Code} (h : c.isCaller = false) : c.weight ≤ 5:=by
 have:=frames_le c
 unfold Code.weight
 rw [h]
 have h1 : (if c.isCreation = true then 1 else 0) ≤ 1:=by split <;> decide
 have h2 : (if c.isGuard = true then 1 else 0) ≤ 1:=by split <;> decide
 simp only [Bool.false_eq_true,if_false]
 omega
theorem units_le (c : Code) : c.cUnits ≤ 10:=by
 have:=frames_le c
 unfold Code.cUnits
 split <;> omega
theorem units_K : ∀ (K : List Kf),unitsOf (K.map fun κ=>(κ.c,κ.p)) ≤ 10 * K.length
 | []=>by decide
 | κ :: K=>by
   rw [List.map_cons,unitsOf_cons,List.length_cons]
   have:=units_le κ.c
   have:=units_K K
   omega
theorem frameCount_K : ∀ {K : List Kf},okK K → frameCount (K.map fun κ=>(κ.c,κ.p)) ≤ 5 * K.length
 | [],_=>by decide
 | κ :: K,ok=>by
   rw [List.map_cons,frameCount_cons,List.length_cons]
   have:=weight_le (ok κ (.head _)).2
   have:=frameCount_K fun x hx=>ok x (.tail _ hx)
   omega
section
variable {w : World} {Γ : Ctx} {R : Result → Shared → Prop}
theorem step_sound (hΓ : Γ.handled = none) (hf : frameCount Γ.below ≤ 840) (hu : unitsOf Γ.below ≤ 9000) {S S1 : AS} {l l1 : List Ad} {x x1 : MS} {s : Shared} (h : stepA w.params Γ.below S l x = some (S1,l1,x1))
 (r : Rel w.params n0 as S s) (hc : x.c.isCaller = false) (ok : okK x.K) (eo : S1.o1 = S1.o2) (ee : S1.e1 = S1.e2) :
 ∃ s1,Rel w.params n0 as S1 s1 ∧ Ext n0 as s s1 ∧ x1.c.isCaller = false ∧ okK x1.K ∧ (Mn w Γ R x1.K x1.c x1.p x1.t s1 → Mn w Γ R x.K x.c x.p x.t s):=by
 obtain ⟨c,p,t,K⟩:=x
 refine Classical.byContradiction fun hG=>?_
 cases t with
 | pure fin=>
   cases fin with
   | done f=>
     cases K with
     | nil=>simp only [stepA] at h;cases h
     | cons κ K=>
       simp only [stepA,Option.some.injEq,Prod.mk.injEq] at h
       obtain ⟨rfl,rfl,rfl⟩:=h
       exact hG ⟨s,r,.rfl',(ok κ (.head _)).2,fun y hy=>ok y (.tail _ hy),fun z=>by rw [Mn_is];exact z⟩
   | again c'=>
     simp only [stepA] at h
     split at h
     ·rename_i hq
      obtain ⟨hq,hc'⟩:=Bool.and_eq_true_iff.mp hq
      simp only [Option.some.injEq,Prod.mk.injEq] at h
      obtain ⟨rfl,rfl,rfl⟩:=h
      exact hG ⟨s,r,.rfl',by simpa using hc',ok,fun z=>Mn_again w Γ R K c c' p s hq z⟩
     ·cases h
 | raise e=>
   cases K with
   | nil=>simp only [stepA] at h;cases h
   | cons κ K=>
     simp only [stepA,Option.some.injEq,Prod.mk.injEq] at h
     obtain ⟨rfl,rfl,rfl⟩:=h
     exact hG ⟨s,r,.rfl',(ok κ (.head _)).2,fun y hy=>ok y (.tail _ hy),fun z=>by rw [Mn_is];exact z⟩
 | rule _ k | «at» _ k | point _ k | ask k=>
   simp only [stepA,Option.some.injEq,Prod.mk.injEq] at h
   obtain ⟨rfl,rfl,rfl⟩:=h
   exact hG ⟨s,r,.rfl',hc,ok,fun z=>by rw [Mn_is] at z ⊢;exact z⟩
 | load a q k=>
   simp only [stepA] at h
   split at h
   ·split at h
    ·rename_i o e
     simp only [Option.some.injEq,Prod.mk.injEq] at h
     obtain ⟨rfl,rfl,rfl⟩:=h
     exact hG ⟨s,r,.rfl',hc,ok,fun z=>by rw [Mn_is] at z ⊢;exact ⟨o,r.old a o e,z⟩⟩
    ·cases h
   ·split at h
    ·rename_i i o e
     simp only [Option.some.injEq,Prod.mk.injEq] at h
     obtain ⟨rfl,rfl,rfl⟩:=h
     obtain ⟨rfl,_⟩:=List.cons.inj eo
     exact hG ⟨s,r.like rfl rfl rfl rfl rfl rfl rfl,.rfl',hc,ok,fun z=>by rw [Mn_is] at z ⊢;exact ⟨o,(r.own _ _ e).2,z⟩⟩
    ·cases h
   ·cases h
 | loadIfAlive a k=>
   simp only [stepA] at h
   split at h
   ·split at h
    ·rename_i o e
     simp only [Option.some.injEq,Prod.mk.injEq] at h
     obtain ⟨rfl,rfl,rfl⟩:=h
     refine hG ⟨s,r,.rfl',hc,ok,fun z=>?_⟩
     rw [Mn_is] at z ⊢
     show wp _ _ (k (s.heap.get? a)) _ _ _ _
     rw [r.old a o e]
     exact z
    ·cases h
   ·split at h
    ·rename_i i o e
     simp only [Option.some.injEq,Prod.mk.injEq] at h
     obtain ⟨rfl,rfl,rfl⟩:=h
     obtain ⟨rfl,_⟩:=List.cons.inj eo
     refine hG ⟨s,r.like rfl rfl rfl rfl rfl rfl rfl,.rfl',hc,ok,fun z=>?_⟩
     rw [Mn_is] at z ⊢
     show wp _ _ (k (s.heap.get? (ad S _))) _ _ _ _
     rw [(r.own _ _ e).2]
     exact z
    ·cases h
   ·cases h
 | update a q f k=>
   simp only [stepA] at h
   split at h
   ·split at h
    ·rename_i i o e
     split at h
     ·rename_i hfr
      simp only [Option.some.injEq,Prod.mk.injEq] at h
      obtain ⟨rfl,rfl,rfl⟩:=h
      obtain ⟨rfl,_⟩:=List.cons.inj eo
      obtain ⟨R1,X1⟩:=r.update e hfr (ad S _ :: S.o1) (ad S _ :: S.o2)
      refine hG ⟨_,R1,X1,hc,ok,fun z=>?_⟩
      rw [Mn_is] at z ⊢
      exact ⟨by rw [(r.own _ _ e).2];rfl,z⟩
     ·cases h
    ·cases h
   ·cases h
 | alloc o k=>
   simp only [stepA] at h
   split at h
   ·rename_i S' e
    simp only [Option.some.injEq,Prod.mk.injEq] at h
    obtain ⟨rfl,rfl,rfl⟩:=h
    refine hG ⟨_,r.alloc e,Ext.push o,hc,ok,fun z=>?_⟩
    rw [Mn_is] at z ⊢
    show wp _ _ (k s.heap.objs.size) _ _ _ _
    rw [r.size]
    exact z
   ·cases h
 | fresh k=>
   simp only [stepA,Option.some.injEq,Prod.mk.injEq] at h
   obtain ⟨rfl,rfl,rfl⟩:=h
   refine hG ⟨_,r.fresh,Ext.tok,hc,ok,fun z=>?_⟩
   rw [Mn_is] at z ⊢
   show wp _ _ (k s.toks) _ _ _ _
   rw [r.toks] at z ⊢
   exact z
 | handled own k=>
   simp only [stepA] at h
   split at h
   ·simp only [Option.some.injEq,Prod.mk.injEq] at h
    obtain ⟨rfl,rfl,rfl⟩:=h
    refine hG ⟨s,r,.rfl',hc,ok,fun z=>?_⟩
    rw [Mn_is] at z ⊢
    show wp _ _ (k (ctxK Γ K c).handled) _ _ _ _
    rw [ctxK_handled hΓ c ok]
    exact z
   ·cases h
 | stack k=>
   simp only [stepA] at h
   split at h
   ·rename_i l'
    split at h
    ·rename_i hlen
     simp only [Option.some.injEq,Prod.mk.injEq] at h
     obtain ⟨rfl,rfl,rfl⟩:=h
     obtain ⟨e1,_⟩:=List.cons.inj ee
     refine hG ⟨s,r.like rfl rfl rfl rfl rfl rfl rfl,.rfl',hc,ok,fun z=>?_⟩
     rw [Mn_is] at z ⊢
     dsimp only at z ⊢
     rw [e1,entTail_is,Sem.wp_bind]
     have h2 : s.heap.get? 2 = some (c2v4 w.params):=r.old 2 _ (by kernel_rfl)
     refine wp_enter (noLimit_of h2) ?_ z
     rw [ctxK_below,ctxK_code,frameCount_append]
     have h3 : frameCount (K.map fun κ=>(κ.c,κ.p)) ≤ 5 * K.length:=frameCount_K ok
     have h4 : c.weight ≤ 5:=weight_le hc
     have : K.length < 29:=Nat.le_of_ble_eq_true hlen
     show _ < 1000
     omega
    ·cases h
   ·rename_i what l'
    split at h
    ·rename_i hlen
     simp only [Option.some.injEq,Prod.mk.injEq] at h
     obtain ⟨rfl,rfl,rfl⟩:=h
     obtain ⟨e1,_⟩:=List.cons.inj ee
     refine hG ⟨s,r.like rfl rfl rfl rfl rfl rfl rfl,.rfl',hc,ok,fun z=>?_⟩
     rw [Mn_is] at z ⊢
     dsimp only at z ⊢
     rw [e1,roomTail_is,Sem.wp_bind]
     refine wp_room ?_ z
     show (ctxK Γ K c).code.cUnits + unitsOf (ctxK Γ K c).below < 9900
     rw [ctxK_below,ctxK_code,unitsOf_append]
     have h3 : unitsOf (K.map fun κ=>(κ.c,κ.p)) ≤ 10 * K.length:=units_K K
     have h4 : c.cUnits ≤ 10:=units_le c
     have : K.length < 29:=Nat.le_of_ble_eq_true hlen
     omega
    ·cases h
   ·simp only [Option.some.injEq,Prod.mk.injEq] at h
    obtain ⟨rfl,rfl,rfl⟩:=h
    refine hG ⟨s,r,.rfl',hc,ok,fun z=>?_⟩
    rw [Mn_is] at z ⊢
    show wp _ _ (k (((ctxK Γ K c).code,p) :: (ctxK Γ K c).below)) _ _ _ _
    rw [ctxK_below,ctxK_code]
    exact z
 | call c' hd g lv k=>
   simp only [stepA] at h
   split at h
   ·rename_i hq
    simp only [Bool.and_eq_true,Bool.not_eq_true'] at hq
    simp only [Option.some.injEq,Prod.mk.injEq] at h
    obtain ⟨rfl,rfl,rfl⟩:=h
    refine hG ⟨s,r,.rfl',hq.2,fun y hy=>?_,fun z=>Mn_call w Γ R K c c' p hd g lv k s z⟩
    rcases List.mem_cons.mp hy with rfl | hy
    ·exact ⟨hq.1.1,hc⟩
    ·exact ok y hy
   ·cases h
 | unsupported | finish | register | choose | os | genState | newGen | resume | «yield» | fork | thread | await=>simp only [stepA] at h;cases h
end
noncomputable def Grow {α : Type} (a b a1 b1 : List α) : Prop:=∃ u v,a1 = u ++ a ∧ b1 = v ++ b ∧ u.length = v.length
theorem Grow.same {α : Type} {a b : List α} : Grow a b a b:=⟨[],[],rfl,rfl,rfl⟩
theorem Grow.one {α : Type} {a b : List α} (x y : α) : Grow a b (x :: a) (y :: b):=⟨[x],[y],rfl,rfl,rfl⟩
theorem Grow.trans {α : Type} {a b a1 b1 a2 b2 : List α} (h : Grow a b a1 b1) (k : Grow a1 b1 a2 b2) : Grow a b a2 b2:=by
 obtain ⟨u,v,rfl,rfl,c⟩:=h
 obtain ⟨u2,v2,rfl,rfl,c2⟩:=k
 exact ⟨u2 ++ u,v2 ++ v,by rw [List.append_assoc],by rw [List.append_assoc],by simp [c,c2]⟩
theorem Grow.eq {α : Type} {a b a1 b1 : List α} (h : Grow a b a1 b1) (e : a1 = b1) : a = b:=by
 obtain ⟨u,v,rfl,rfl,c⟩:=h
 exact (List.append_inj e c).2
noncomputable def GrowA (S S1 : AS) : Prop:=Grow S.o1 S.o2 S1.o1 S1.o2 ∧ Grow S.e1 S.e2 S1.e1 S1.e2 ∧ Grow S.c1 S.c2 S1.c1 S1.c2 ∧ Grow S.b1 S.b2 S1.b1 S1.b2
theorem GrowA.same (S : AS) : GrowA S S:=⟨.same,.same,.same,.same⟩
theorem put_obl {S S1 : AS} {a : Nat} {o : Obj} (h : put S a o = some S1) : GrowA S S1:=by
 unfold put at h
 (repeat' split at h) <;> first | (cases h;done) | (cases h;exact ⟨.same,.same,.same,.same⟩)
theorem stepA_obl {B : List (Code × Pos)} {P : Params} {S : AS} {l : List Ad} {x : MS} {y : AS × List Ad × MS} (h : stepA P B S l x = some y) : GrowA S y.1:=by
 obtain ⟨c,p,t,K⟩:=x
 cases t with
 | pure fin=>cases fin <;> cases K <;> simp only [stepA] at h <;> (repeat' split at h) <;> first | (cases h;done) | (cases h;exact GrowA.same _)
 | raise=>cases K <;> simp only [stepA] at h <;> first | (cases h;done) | (cases h;exact GrowA.same _)
 | load | loadIfAlive | update=>
   simp only [stepA] at h
   (repeat' split at h) <;> first | (cases h;done) | (cases h;exact GrowA.same _) | (cases h;exact ⟨.one _ _,.same,.same,.same⟩)
 | stack=>
   simp only [stepA] at h
   (repeat' split at h) <;> first | (cases h;done) | (cases h;exact GrowA.same _) | (cases h;exact ⟨.same,.one _ _,.same,.same⟩)
 | call=>
   simp only [stepA] at h
   split at h
   ·cases h;exact GrowA.same _
   ·cases h
 | alloc=>
   simp only [stepA] at h
   split at h
   ·rename_i e
    cases h
    have z:=put_obl e
    exact ⟨z.1,z.2.1,z.2.2.1,z.2.2.2⟩
   ·cases h
 | _=>simp only [stepA] at h;(repeat' split at h) <;> first | (cases h;done) | (cases h;exact ⟨.same,.same,.same,.same⟩)
theorem goA_obl {B : List (Code × Pos)} {P : Params} : ∀ {n : Nat} {S S1 : AS} {l l1 : List Ad} {x x1 : MS},goA P B n S l x = some (S1,l1,x1) → GrowA S S1
 | 0,S,S1,l,l1,x,x1,h=>by cases h;exact GrowA.same _
 | n + 1,S,S1,l,l1,x,x1,h=>by
   unfold goA at h
   split at h
   ·rename_i r e
    obtain ⟨S2,l2,x2⟩:=r
    have a:=stepA_obl e
    have b:=goA_obl h
    exact ⟨a.1.trans b.1,a.2.1.trans b.2.1,a.2.2.1.trans b.2.2.1,a.2.2.2.trans b.2.2.2⟩
   ·cases h
section
variable {w : World} {Γ : Ctx} {R : Result → Shared → Prop}
theorem goA_sound (hΓ : Γ.handled = none) (hf : frameCount Γ.below ≤ 840) (hu : unitsOf Γ.below ≤ 9000) : ∀ {n : Nat} {S S1 : AS} {l l1 : List Ad} {x x1 : MS} {s : Shared},goA w.params Γ.below n S l x = some (S1,l1,x1) →
 Rel w.params n0 as S s → x.c.isCaller = false → okK x.K → S1.o1 = S1.o2 → S1.e1 = S1.e2 →
 ∃ s1,Rel w.params n0 as S1 s1 ∧ Ext n0 as s s1 ∧ x1.c.isCaller = false ∧ okK x1.K ∧ (Mn w Γ R x1.K x1.c x1.p x1.t s1 → Mn w Γ R x.K x.c x.p x.t s)
 | 0,S,S1,l,l1,x,x1,s,h,r,hc,ok,_,_=>by cases h;exact ⟨s,r,.rfl',hc,ok,id⟩
 | n + 1,S,S1,l,l1,x,x1,s,h,r,hc,ok,eo,ee=>by
   unfold goA at h
   split at h
   ·rename_i q e
    obtain ⟨S2,l2,x2⟩:=q
    have b:=goA_obl h
    obtain ⟨s2,r2,x2',hc2,ok2,z2⟩:=step_sound (R:=R) hΓ hf hu e r hc ok (b.1.eq eo) (b.2.1.eq ee)
    obtain ⟨s1,r1,x1',hc1,ok1,z1⟩:=goA_sound hΓ hf hu h r2 hc2 ok2 eo ee
    exact ⟨s1,r1,x2'.trans x1',hc1,ok1,fun z=>z2 (z1 z)⟩
   ·cases h
end
noncomputable def Inj (S : AS) : Prop:=∀ i j,i < S.k → j < S.k → ad S i = ad S j → i = j
inductive In where
 | run (n : Nat) (l : List Ad)
 | fork (row : String) (nt : Nat) (lt : List Ad) (nf : Nat) (lf : List Ad)
 | fork3 (row row2 : String) (nt : Nat) (lt : List Ad) (n1 : Nat) (l1 : List Ad) (n2 : Nat) (l2 : List Ad)
 | orc
 | note
 | cut (T T' : AS → Sem Fin) (h : ∀ S,Inj S → T S = T' S)
noncomputable def rowP (P : Params) (row : String) (b : Bool) : Params:={ P with followText:=fun r=>if r = row then b else P.followText r }
theorem rowP_self {P : Params} {row : String} {b : Bool} (h : P.followText row = b) : rowP P row b = P:=by
 unfold rowP
 have : (fun r=>if r = row then b else P.followText r) = P.followText:=by
  funext r
  by_cases e : r = row
  ·rw [if_pos e,e,h]
  ·rw [if_neg e]
 rw [this]
noncomputable abbrev Meet:=BT × BT × Nat × Nat × Nat × Nat × Nat × MS
noncomputable def meet (S : AS) (x : MS) : Meet:=(S.T,S.A,S.k,S.nb,S.mb,S.tb,S.ti,x)
structure RS where
 S : AS
 x : MS
 q1 : List Meet
 q2 : List Meet
noncomputable def forkA (P : Params) (B : List (Code × Pos)) (r : RS) (row : String) (nt : Nat) (lt : List Ad) (nf : Nat) (lf : List Ad) : Option RS:=match r.x.t with
 | .ask k=>match goA (rowP P row true) B nt r.S lt ⟨r.x.c,r.x.p,k ⟨pw,rowP P row true⟩,r.x.K⟩ with
   | some a=>match goA (rowP P row false) B nf { r.S with o1:=a.1.o1,o2:=a.1.o2,e1:=a.1.e1,e2:=a.1.e2,c1:=a.1.c1,c2:=a.1.c2,b1:=a.1.b1,b2:=a.1.b2 } lf ⟨r.x.c,r.x.p,k ⟨pw,rowP P row false⟩,r.x.K⟩ with
     | some b=>some ⟨b.1,b.2.2,meet a.1 a.2.2 :: r.q1,meet b.1 b.2.2 :: r.q2⟩
     | none=>none
   | none=>none
 | _=>none
noncomputable def forkB (P : Params) (B : List (Code × Pos)) (r : RS) (row row2 : String) (nt : Nat) (lt : List Ad) (n1 : Nat) (l1 : List Ad) (n2 : Nat) (l2 : List Ad) : Option RS:=match r.x.t with
 | .ask k=>match goA (rowP P row true) B nt r.S lt ⟨r.x.c,r.x.p,k ⟨pw,rowP P row true⟩,r.x.K⟩ with
   | some a=>match goA (rowP (rowP P row false) row2 true) B n1 { r.S with o1:=a.1.o1,o2:=a.1.o2,e1:=a.1.e1,e2:=a.1.e2,c1:=a.1.c1,c2:=a.1.c2,b1:=a.1.b1,b2:=a.1.b2 } l1 ⟨r.x.c,r.x.p,k ⟨pw,rowP (rowP P row false) row2 true⟩,r.x.K⟩ with
     | some b=>match goA (rowP (rowP P row false) row2 false) B n2 { r.S with o1:=b.1.o1,o2:=b.1.o2,e1:=b.1.e1,e2:=b.1.e2,c1:=b.1.c1,c2:=b.1.c2,b1:=b.1.b1,b2:=b.1.b2 } l2 ⟨r.x.c,r.x.p,k ⟨pw,rowP (rowP P row false) row2 false⟩,r.x.K⟩ with
       | some c=>some ⟨c.1,c.2.2,meet a.1 a.2.2 :: meet b.1 b.2.2 :: r.q1,meet b.1 b.2.2 :: meet c.1 c.2.2 :: r.q2⟩
       | none=>none
     | none=>none
   | none=>none
 | _=>none
noncomputable def goR (P : Params) (B : List (Code × Pos)) (FB : Option Fs) : List In → List Orc → RS → Option RS
 | [],os,r=>match os with
   | []=>some r
   | _ :: _=>none
 | i :: is,os,r=>match i with
   | .run n l=>match goA P B n r.S l r.x with
     | some a=>goR P B FB is os ⟨a.1,a.2.2,r.q1,r.q2⟩
     | none=>none
   | .fork row nt lt nf lf=>match forkA P B r row nt lt nf lf with
     | some r=>goR P B FB is os r
     | none=>none
   | .fork3 row row2 nt lt n1 l1 n2 l2=>match forkB P B r row row2 nt lt n1 l1 n2 l2 with
     | some r=>goR P B FB is os r
     | none=>none
   | .orc=>match r.x.t with
     | .call c hd _ _ k=>match hd with
       | none=>match os with
         | o :: os=>match orcA FB r.S r.x o c k with
           | some a=>goR P B FB is os ⟨a.1,a.2,r.q1,r.q2⟩
           | none=>none
         | []=>none
       | some _=>none
     | _=>none
   | .note=>match os with
     | o :: os=>match noteA FB r.S r.x o with
       | some a=>goR P B FB is os ⟨a.1,a.2,r.q1,r.q2⟩
       | none=>none
     | []=>none
   | .cut T T' _=>goR P B FB is os ⟨{ r.S with e1:=(fun _=>r.x.t) :: r.S.e1,e2:=(fun _=>T r.S) :: r.S.e2 },⟨r.x.c,r.x.p,T' r.S,r.x.K⟩,r.q1,r.q2⟩
structure Obl (r : RS) : Prop where
 o : r.S.o1 = r.S.o2
 e : r.S.e1 = r.S.e2
 c : r.S.c1 = r.S.c2
 b : r.S.b1 = r.S.b2
 q : r.q1 = r.q2
theorem Obl.back {r r1 : RS} (h : GrowA r.S r1.S) (hq : Grow r.q1 r.q2 r1.q1 r1.q2) (o : Obl r1) : Obl r:=⟨h.1.eq o.o,h.2.1.eq o.e,h.2.2.1.eq o.c,h.2.2.2.eq o.b,hq.eq o.q⟩
theorem GrowA.trans {a b c : AS} (h : GrowA a b) (k : GrowA b c) : GrowA a c:=⟨h.1.trans k.1,h.2.1.trans k.2.1,h.2.2.1.trans k.2.2.1,h.2.2.2.trans k.2.2.2⟩
theorem fork_obl {P : Params} {B : List (Code × Pos)} {r r1 : RS} {row : String} {nt nf : Nat} {lt lf : List Ad} (h : forkA P B r row nt lt nf lf = some r1) : GrowA r.S r1.S ∧ Grow r.q1 r.q2 r1.q1 r1.q2:=by
 unfold forkA at h
 split at h
 ·split at h
  ·rename_i a ea
   split at h
   ·rename_i b eb
    cases h
    have z1:=goA_obl ea
    have z2:=goA_obl eb
    exact ⟨⟨z1.1.trans z2.1,z1.2.1.trans z2.2.1,z1.2.2.1.trans z2.2.2.1,z1.2.2.2.trans z2.2.2.2⟩,.one _ _⟩
   ·cases h
  ·cases h
 ·cases h
theorem fork3_obl {P : Params} {B : List (Code × Pos)} {r r1 : RS} {row row2 : String} {nt n1 n2 : Nat} {lt l1 l2 : List Ad} (h : forkB P B r row row2 nt lt n1 l1 n2 l2 = some r1) : GrowA r.S r1.S ∧ Grow r.q1 r.q2 r1.q1 r1.q2:=by
 unfold forkB at h
 split at h
 ·split at h
  ·rename_i a ea
   split at h
   ·rename_i b eb
    split at h
    ·rename_i c ec
     cases h
     have z1:=goA_obl ea
     have z2:=goA_obl eb
     have z3:=goA_obl ec
     exact ⟨⟨(z1.1.trans z2.1).trans z3.1,(z1.2.1.trans z2.2.1).trans z3.2.1,(z1.2.2.1.trans z2.2.2.1).trans z3.2.2.1,(z1.2.2.2.trans z2.2.2.2).trans z3.2.2.2⟩,.trans (.one _ _) (.one _ _)⟩
    ·cases h
   ·cases h
  ·cases h
 ·cases h
theorem needs_obl : ∀ {l : List (Nat × Nat × Obj)} {S S1 : AS},needs S l = some S1 → GrowA S S1
 | [],S,S1,h=>by cases h;exact .same _
 | x :: l,S,S1,h=>by
   unfold needs at h
   split at h
   ·have z:=needs_obl h
    exact ⟨(Grow.one _ _).trans z.1,z.2.1,z.2.2.1,(Grow.one _ _).trans z.2.2.2⟩
   ·cases h
theorem upds_obl : ∀ {l : List (Nat × Nat × Obj)} {S S1 : AS},upds S l = some S1 → GrowA S S1
 | [],S,S1,h=>by cases h;exact .same _
 | x :: l,S,S1,h=>by
   unfold upds at h
   split at h
   ·split at h
    ·have z:=upds_obl h
     exact ⟨(Grow.one _ _).trans z.1,z.2.1,z.2.2.1,z.2.2.2⟩
    ·cases h
   ·cases h
theorem outs_obl : ∀ {l : List (Nat × Obj)} {S S1 : AS},outs S l = some S1 → GrowA S S1
 | [],S,S1,h=>by cases h;exact .same _
 | x :: l,S,S1,h=>by
   unfold outs at h
   split at h
   ·rename_i e
    exact (put_obl e).trans (outs_obl h)
   ·cases h
theorem sized_obl (S : AS) (z : Option (Nat × Nat)) : GrowA S (sized S z):=by
 cases z <;> exact ⟨.same,.same,.same,.same⟩
theorem framed_obl {S S1 : AS} {FB : Option Fs} {c : Code} {K : List Kf} {fs : Option Fs} (h : framed S FB c K fs = some S1) : GrowA S S1:=by
 unfold framed at h
 (repeat' split at h) <;> first | (cases h;exact .same _) | (cases h;exact ⟨.same,.one _ _,.same,.same⟩) | cases h
theorem orcE_obl {S S1 : AS} {o : Orc} (h : orcE S o = some S1) : GrowA S S1:=by
 unfold orcE at h
 split at h
 ·rename_i e1
  split at h
  ·rename_i e2
   exact ((needs_obl e1).trans (upds_obl e2)).trans ((sized_obl _ _).trans (outs_obl h))
  ·cases h
 ·cases h
theorem orc_obl {FB : Option Fs} {S : AS} {x : MS} {o : Orc} {c : Code} {k : Result → Sem Fin} {a : AS × MS} (h : orcA FB S x o c k = some a) : GrowA S a.1:=by
 unfold orcA at h
 split at h
 ·split at h
  ·split at h
   ·split at h
    ·rename_i e1
     split at h
     ·rename_i e2
      cases h
      exact ((framed_obl e1).trans (orcE_obl e2)).trans ⟨.same,.same,.one _ _,.same⟩
     ·cases h
    ·cases h
   ·cases h
  ·cases h
 ·cases h
theorem note_obl {FB : Option Fs} {S : AS} {x : MS} {o : Orc} {a : AS × MS} (h : noteA FB S x o = some a) : GrowA S a.1:=by
 unfold noteA at h
 split at h
 ·cases h
 ·split at h
  ·split at h
   ·split at h
    ·rename_i e1
     split at h
     ·rename_i e2
      cases h
      exact ((framed_obl e1).trans (orcE_obl e2)).trans ⟨.same,.one _ _,.same,.same⟩
     ·cases h
    ·cases h
   ·cases h
  ·cases h
theorem goR_obl {P : Params} {B : List (Code × Pos)} {FB : Option Fs} : ∀ {l : List In} {os : List Orc} {r r1 : RS},goR P B FB l os r = some r1 → GrowA r.S r1.S ∧ Grow r.q1 r.q2 r1.q1 r1.q2
 | [],os,r,r1,h=>by
   unfold goR at h
   split at h
   ·cases h;exact ⟨.same _,.same⟩
   ·cases h
 | i :: is,os,r,r1,h=>by
   unfold goR at h
   cases i with
   | run n l=>
     dsimp only at h
     split at h
     ·rename_i a ea
      obtain ⟨z2,z3⟩:=goR_obl h
      exact ⟨(goA_obl ea).trans z2,z3⟩
     ·cases h
   | fork row nt lt nf lf=>
     dsimp only at h
     split at h
     ·rename_i a ea
      obtain ⟨z1,y1⟩:=fork_obl ea
      obtain ⟨z2,z3⟩:=goR_obl h
      exact ⟨z1.trans z2,y1.trans z3⟩
     ·cases h
   | fork3 row row2 nt lt n1 l1 n2 l2=>
     dsimp only at h
     split at h
     ·rename_i a ea
      obtain ⟨z1,y1⟩:=fork3_obl ea
      obtain ⟨z2,z3⟩:=goR_obl h
      exact ⟨z1.trans z2,y1.trans z3⟩
     ·cases h
   | orc=>
     dsimp only at h
     split at h
     ·split at h
      ·split at h
       ·split at h
        ·rename_i a ea
         obtain ⟨z2,z3⟩:=goR_obl h
         exact ⟨(orc_obl ea).trans z2,z3⟩
        ·cases h
       ·cases h
      ·cases h
     ·cases h
   | note=>
     dsimp only at h
     split at h
     ·split at h
      ·rename_i a ea
       obtain ⟨z2,z3⟩:=goR_obl h
       exact ⟨(note_obl ea).trans z2,z3⟩
      ·cases h
     ·cases h
   | cut T T' hT=>
     dsimp only at h
     obtain ⟨z2,z3⟩:=goR_obl h
     exact ⟨(show GrowA r.S { r.S with e1:=(fun _=>r.x.t) :: r.S.e1,e2:=(fun _=>T r.S) :: r.S.e2 } from ⟨.same,.one _ _,.same,.same⟩).trans z2,z3⟩
section
variable {w : World} {Γ : Ctx} {R : Result → Shared → Prop}
theorem fork_sound (hΓ : Γ.handled = none) (hf : frameCount Γ.below ≤ 840) (hu : unitsOf Γ.below ≤ 9000) {r r1 : RS} {s : Shared} {row : String} {nt nf : Nat} {lt lf : List Ad} (h : forkA w.params Γ.below r row nt lt nf lf = some r1)
 (rl : Rel w.params n0 as r.S s) (hc : r.x.c.isCaller = false) (ok : okK r.x.K) (ob : Obl r1) :
 ∃ s1,Rel w.params n0 as r1.S s1 ∧ Ext n0 as s s1 ∧ r1.x.c.isCaller = false ∧ okK r1.x.K ∧ (Mn w Γ R r1.x.K r1.x.c r1.x.p r1.x.t s1 → Mn w Γ R r.x.K r.x.c r.x.p r.x.t s):=by
 obtain ⟨S,⟨c,p,t,K⟩,q1,q2⟩:=r
 unfold forkA at h
 dsimp only at h hc ok rl ⊢
 refine Classical.byContradiction fun hG=>?_
 split at h
 ·rename_i k
  split at h
  ·rename_i a ea
   split at h
   ·rename_i b eb'
    cases h
    obtain ⟨eo,ee,ec,eb,eq⟩:=ob
    dsimp only at eo ee ec eb eq
    obtain ⟨Sa,la,xa⟩:=a
    obtain ⟨Sb,lb,xb⟩:=b
    have g2:=goA_obl eb'
    have mt : meet Sa xa = meet Sb xb:=(List.cons.inj eq).1
    obtain ⟨m1,m2,m3,m4,m5,m6,m7,rfl⟩ : Sa.T = Sb.T ∧ Sa.A = Sb.A ∧ Sa.k = Sb.k ∧ Sa.nb = Sb.nb ∧ Sa.mb = Sb.mb ∧ Sa.tb = Sb.tb ∧ Sa.ti = Sb.ti ∧ xa = xb:=by simpa only [meet,Prod.mk.injEq] using mt
    cases hb : w.params.followText row with
    | true=>
      have eP : rowP w.params row true = w.params:=rowP_self hb
      rw [eP] at ea
      obtain ⟨s1,R1,X1,hc1,ok1,z1⟩:=goA_sound (R:=R) hΓ hf hu ea rl hc ok (g2.1.eq eo) (g2.2.1.eq ee)
      refine hG ⟨s1,R1.like m1.symm m2.symm m3.symm m4.symm m5.symm m6.symm m7.symm,X1,hc1,ok1,fun z=>?_⟩
      have y:=z1 z
      rw [Mn_is] at y ⊢
      exact y
    | false=>
      have eP : rowP w.params row false = w.params:=rowP_self hb
      rw [eP] at eb'
      obtain ⟨s1,R1,X1,hc1,ok1,z1⟩:=goA_sound (R:=R) hΓ hf hu eb' (rl.like rfl rfl rfl rfl rfl rfl rfl) hc ok eo ee
      refine hG ⟨s1,R1,X1,hc1,ok1,fun z=>?_⟩
      have y:=z1 z
      rw [Mn_is] at y ⊢
      exact y
   ·cases h
  ·cases h
 ·cases h
theorem fork3_sound (hΓ : Γ.handled = none) (hf : frameCount Γ.below ≤ 840) (hu : unitsOf Γ.below ≤ 9000) {r r1 : RS} {s : Shared} {row row2 : String} {nt n1 n2 : Nat} {lt l1 l2 : List Ad} (h : forkB w.params Γ.below r row row2 nt lt n1 l1 n2 l2 = some r1)
 (rl : Rel w.params n0 as r.S s) (hc : r.x.c.isCaller = false) (ok : okK r.x.K) (ob : Obl r1) :
 ∃ s1,Rel w.params n0 as r1.S s1 ∧ Ext n0 as s s1 ∧ r1.x.c.isCaller = false ∧ okK r1.x.K ∧ (Mn w Γ R r1.x.K r1.x.c r1.x.p r1.x.t s1 → Mn w Γ R r.x.K r.x.c r.x.p r.x.t s):=by
 obtain ⟨S,⟨c,p,t,K⟩,q1,q2⟩:=r
 unfold forkB at h
 dsimp only at h hc ok rl ⊢
 refine Classical.byContradiction fun hG=>?_
 split at h
 ·rename_i k
  split at h
  ·rename_i a ea
   split at h
   ·rename_i b eb'
    split at h
    ·rename_i d ed'
     cases h
     obtain ⟨eo,ee,ec,eb,eq⟩:=ob
     dsimp only at eo ee ec eb eq
     obtain ⟨Sa,la,xa⟩:=a
     obtain ⟨Sb,lb,xb⟩:=b
     obtain ⟨Sd,ld,xd⟩:=d
     have g3:=goA_obl ed'
     have g2:=goA_obl eb'
     have hb1 : Sb.o1 = Sb.o2:=g3.1.eq eo
     have hb2 : Sb.e1 = Sb.e2:=g3.2.1.eq ee
     have mt : meet Sa xa = meet Sb xb:=(List.cons.inj eq).1
     have mt2 : meet Sb xb = meet Sd xd:=(List.cons.inj (List.cons.inj eq).2).1
     obtain ⟨m1,m2,m3,m4,m5,m6,m7,rfl⟩ : Sa.T = Sb.T ∧ Sa.A = Sb.A ∧ Sa.k = Sb.k ∧ Sa.nb = Sb.nb ∧ Sa.mb = Sb.mb ∧ Sa.tb = Sb.tb ∧ Sa.ti = Sb.ti ∧ xa = xb:=by simpa only [meet,Prod.mk.injEq] using mt
     obtain ⟨k1,k2,k3,k4,k5,k6,k7,rfl⟩ : Sb.T = Sd.T ∧ Sb.A = Sd.A ∧ Sb.k = Sd.k ∧ Sb.nb = Sd.nb ∧ Sb.mb = Sd.mb ∧ Sb.tb = Sd.tb ∧ Sb.ti = Sd.ti ∧ xa = xd:=by simpa only [meet,Prod.mk.injEq] using mt2
     cases hb : w.params.followText row with
     | true=>
       have eP : rowP w.params row true = w.params:=rowP_self hb
       rw [eP] at ea
       obtain ⟨s1,R1,X1,hc1,ok1,z1⟩:=goA_sound (R:=R) hΓ hf hu ea rl hc ok (g2.1.eq hb1) (g2.2.1.eq hb2)
       refine hG ⟨s1,R1.like (k1.symm.trans m1.symm) (k2.symm.trans m2.symm) (k3.symm.trans m3.symm) (k4.symm.trans m4.symm) (k5.symm.trans m5.symm) (k6.symm.trans m6.symm) (k7.symm.trans m7.symm),X1,hc1,ok1,fun z=>?_⟩
       have y:=z1 z
       rw [Mn_is] at y ⊢
       exact y
     | false=>
       have eP : rowP w.params row false = w.params:=rowP_self hb
       rw [eP] at eb' ed'
       cases hb2' : w.params.followText row2 with
       | true=>
         have eP2 : rowP w.params row2 true = w.params:=rowP_self hb2'
         rw [eP2] at eb'
         obtain ⟨s1,R1,X1,hc1,ok1,z1⟩:=goA_sound (R:=R) hΓ hf hu eb' (rl.like rfl rfl rfl rfl rfl rfl rfl) hc ok hb1 hb2
         refine hG ⟨s1,R1.like k1.symm k2.symm k3.symm k4.symm k5.symm k6.symm k7.symm,X1,hc1,ok1,fun z=>?_⟩
         have y:=z1 z
         rw [Mn_is] at y ⊢
         exact y
       | false=>
         have eP2 : rowP w.params row2 false = w.params:=rowP_self hb2'
         rw [eP2] at ed'
         obtain ⟨s1,R1,X1,hc1,ok1,z1⟩:=goA_sound (R:=R) hΓ hf hu ed' (rl.like rfl rfl rfl rfl rfl rfl rfl) hc ok eo ee
         refine hG ⟨s1,R1,X1,hc1,ok1,fun z=>?_⟩
         have y:=z1 z
         rw [Mn_is] at y ⊢
         exact y
    ·cases h
   ·cases h
  ·cases h
 ·cases h
end
structure OrcD where
 c : (Nat → Sup) → Code
 need : (Nat → Sup) → List (Nat × Nat × Obj)
 r : (Nat → Sup) → Sup → Result
 upd : (Nat → Sup) → Sup → List (Nat × Nat × Obj)
 out : (Nat → Sup) → Sup → List (Nat × Obj)
 sz : (Nat → Sup) → Sup → Option (Nat × Nat)
 F : (Nat → Sup) → Sup → Prop
 fs : (Nat → Sup) → Option Fs:=fun _=>none
 kd : Nat:=0
noncomputable def OrcD.at (d : OrcD) (π : Nat → Sup) (u : Sup) : Orc:=⟨d.c π,d.need π,d.r π u,d.upd π u,d.out π u,d.sz π u,d.fs π,d.kd⟩
noncomputable def tr (j : Nat) (σ : Nat → Sup) : Nat → Sup:=fun i=>match Nat.blt i j with
 | true=>σ i
 | false=>default
noncomputable def osAt (σ : Nat → Sup) : Nat → List OrcD → List Orc
 | _,[]=>[]
 | j,d :: ds=>d.at (tr j σ) (σ j) :: osAt σ (j + 1) ds
theorem tr_lt {j i : Nat} {σ : Nat → Sup} (h : i < j) : tr j σ i = σ i:=by
 unfold tr
 rw [show Nat.blt i j = true from Nat.ble_eq_true_of_le h]
theorem tr_ge {j i : Nat} {σ : Nat → Sup} (h : ¬ i < j) : tr j σ i = default:=by
 unfold tr
 cases q : Nat.blt i j with
 | true=>exact absurd (Nat.le_of_ble_eq_true q) h
 | false=>rfl
theorem tr_same {j : Nat} {σ σ' : Nat → Sup} (h : ∀ i,i < j → σ i = σ' i) : tr j σ = tr j σ':=by
 funext i
 by_cases q : i < j
 ·rw [tr_lt q,tr_lt q,h i q]
 ·rw [tr_ge q,tr_ge q]
theorem tr_tr {i j : Nat} {σ : Nat → Sup} (h : i ≤ j) : tr i (tr j σ) = tr i σ:=tr_same fun x hx=>tr_lt (Nat.lt_of_lt_of_le hx h)
structure OrcPost (o : Orc) (s s' : Shared) : Prop where
 gens : s'.gens = s.gens
 drawn : s'.drawn = s.drawn
 os : s'.os = s.os
 size : s.heap.objs.size ≤ s'.heap.objs.size
 keep : ∀ b v,s.heap.get? b = some v → (∀ x ∈ o.upd,b ≠ x.2.1) → s'.heap.get? b = some v
 upd : ∀ x ∈ o.upd,s'.heap.get? x.2.1 = some x.2.2
 out : ∀ x ∈ o.out,s.heap.objs.size ≤ x.1 ∧ s'.heap.get? x.1 = some x.2
 nod : (o.out.map (·.1)).Nodup
 sz : match o.sz with
  | none=>s'.heap.objs.size = s.heap.objs.size ∧ s'.toks = s.toks
  | some z=>s'.heap.objs.size = z.1 ∧ s'.toks = z.2
noncomputable def Old (P : Params) (h : Heap) : Prop:=∀ a o,oldGet P a = some o → h.get? a = some o
structure At (P : Params) (need : List (Nat × Nat × Obj)) (s : Shared) : Prop where
 get : ∀ x ∈ need,s.heap.get? x.2.1 = some x.2.2
 sep : ∀ x ∈ need,oldGet P x.2.1 = none
 inj : ∀ x ∈ need,∀ y ∈ need,x.2.1 = y.2.1 → x.1 = y.1
noncomputable def OrcOK (w : World) (D U : Nat) (ds : List OrcD) (j : Nat) (d : OrcD) : Prop:=∀ (π : Nat → Sup),(∀ i,i < j → ∀ d',ds[i]? = some d' → d'.F (tr i π) (π i)) →
 match d.kd with
 | 0=>∀ (Γ : Ctx) (p : Pos) (s : Shared),(∃ Γ0 : Ctx,Γ = Γ0.enter (d.c π) none p) → Γ.code = d.c π → Γ.handled = none → frameCount Γ.below ≤ D + 75 → unitsOf Γ.below ≤ U + 300 → (∀ l,d.fs π = some l → l.holds Γ.below) → Old w.params s.heap → (∀ a o,oldGet w.params a = some o → a < s.heap.objs.size) →
   At w.params (d.need π) s → wpCode (md w) Γ (fun r s'=>∃ u,r = d.r π u ∧ OrcPost (d.at π u) s s' ∧ d.F π u) p s
 | k + 1=>∃ ev : Value,(∀ u,d.r π u = .error ev) ∧ ∀ (Γ : Ctx) (p : Pos) (s : Shared) (env : Env),envOf (d.c π) = some env → (∀ l,d.fs π = some l → l.holdsAt Γ.code Γ.below) → Old w.params s.heap → (∀ a o,oldGet w.params a = some o → a < s.heap.objs.size) →
   At w.params (d.need π) s → Sem.wp (md w) Γ (hM (k + 1) env ev) (fun _ _ s'=>∃ u,OrcPost (d.at π u) s s' ∧ d.F π u) (fun _ _ _=>False) p s
theorem needs_is : ∀ {l : List (Nat × Nat × Obj)} {S S1 : AS},needs S l = some S1 → (S1.T = S.T ∧ S1.A = S.A ∧ S1.k = S.k ∧ S1.nb = S.nb ∧ S1.mb = S.mb ∧ S1.tb = S.tb ∧ S1.ti = S.ti) ∧ (S1.o1 = S1.o2 → S1.b1 = S1.b2 → ∀ x ∈ l,S.T.get x.1 = some x.2.2 ∧ ad S x.1 = x.2.1)
 | [],S,S1,h=>by cases h;exact ⟨⟨rfl,rfl,rfl,rfl,rfl,rfl,rfl⟩,fun _ _ x hx=>nomatch hx⟩
 | x :: l,S,S1,h=>by
   unfold needs at h
   split at h
   ·rename_i o e
    obtain ⟨h1,h2⟩:=needs_is h
    have g:=needs_obl h
    refine ⟨h1,fun qo qb y hy=>?_⟩
    have e1:=g.1.eq qo
    have e2:=g.2.2.2.eq qb
    rcases List.mem_cons.mp hy with rfl | hy
    ·exact ⟨by rw [e,(List.cons.inj e2).1],(List.cons.inj e1).1⟩
    ·exact h2 qo qb y hy
   ·cases h
theorem upds_is : ∀ {l : List (Nat × Nat × Obj)} {S S1 : AS},upds S l = some S1 → (S1.A = S.A ∧ S1.k = S.k ∧ S1.nb = S.nb ∧ S1.mb = S.mb ∧ S1.tb = S.tb ∧ S1.ti = S.ti) ∧
 (∀ x ∈ l,∃ o,S.T.get x.1 = some o) ∧ (S1.o1 = S1.o2 → ∀ x ∈ l,ad S x.1 = x.2.1) ∧ (∀ i o,S1.T.get i = some o → (∃ x ∈ l,x.1 = i ∧ x.2.2 = o) ∨ (S.T.get i = some o ∧ ∀ x ∈ l,x.1 ≠ i))
 | [],S,S1,h=>by cases h;exact ⟨⟨rfl,rfl,rfl,rfl,rfl,rfl⟩,(fun x hx=>nomatch hx),(fun _ x hx=>nomatch hx),fun i o e=>.inr ⟨e,fun x hx=>nomatch hx⟩⟩
 | x :: l,S,S1,h=>by
   unfold upds at h
   split at h
   ·rename_i o e
    split at h
    ·obtain ⟨h1,h2,h3,h4⟩:=upds_is h
     have g:=upds_obl h
     have gs : ∀ i,(S.T.set x.1 fun _=>x.2.2).get i = if i = x.1 then some x.2.2 else S.T.get i:=fun i=>by
      rw [BT.get_set]
      by_cases q : i = x.1
      ·rw [if_pos q,if_pos q,e];rfl
      ·rw [if_neg q,if_neg q]
     refine ⟨h1,fun y hy=>?_,fun qo y hy=>?_,fun i o' e'=>?_⟩
     ·rcases List.mem_cons.mp hy with rfl | hy
      ·exact ⟨o,e⟩
      ·obtain ⟨o2,e2⟩:=h2 y hy
       have e2' : (S.T.set x.1 fun _=>x.2.2).get y.1 = some o2:=e2
       rw [gs] at e2'
       by_cases q : y.1 = x.1
       ·exact ⟨o,by rw [q];exact e⟩
       ·rw [if_neg q] at e2';exact ⟨o2,e2'⟩
     ·rcases List.mem_cons.mp hy with rfl | hy
      ·exact (List.cons.inj (g.1.eq qo)).1
      ·exact h3 qo y hy
     ·rcases h4 i o' e' with ⟨y,hy,q1,q2⟩ | ⟨q1,q2⟩
      ·exact .inl ⟨y,.tail _ hy,q1,q2⟩
      ·have q1' : (S.T.set x.1 fun _=>x.2.2).get i = some o':=q1
       rw [gs] at q1'
       by_cases q : i = x.1
       ·rw [if_pos q] at q1'
        exact .inl ⟨x,.head _,q.symm,Option.some.inj q1'⟩
       ·rw [if_neg q] at q1'
        refine .inr ⟨q1',fun y hy=>?_⟩
        rcases List.mem_cons.mp hy with rfl | hy
        ·exact fun z=>q z.symm
        ·exact q2 y hy
    ·cases h
   ·cases h
theorem outs_rel {m : Nat} (hm : ∀ a o,oldGet P a = some o → a < m) (hn : n0 ≤ m) : ∀ {l : List (Nat × Obj)} {S S1 : AS} {s : Shared} {seen : List Nat},outs S l = some S1 → Rel P n0 as S s →
 (∀ i,i < S.k → ad S i < m ∨ ad S i ∈ seen) → (∀ x ∈ l,m ≤ x.1 ∧ s.heap.get? x.1 = some x.2) → (seen ++ l.map (·.1)).Nodup → Rel P n0 as S1 s
 | [],S,S1,s,seen,h,r,_,_,_=>by cases h;exact r
 | x :: l,S,S1,s,seen,h,r,hs,ho,hd=>by
   unfold outs at h
   split at h
   ·rename_i S2 e
    obtain ⟨hx,gx⟩:=ho x (.head _)
    have hd' : (x.1 :: (seen ++ l.map (·.1))).Nodup:=by
     have : List.Perm (seen ++ (x :: l).map (·.1)) (x.1 :: (seen ++ l.map (·.1))):=by
      rw [List.map_cons];exact List.perm_middle
     exact this.nodup_iff.mp hd
    have hseen : x.1 ∉ seen:=fun q=>(List.nodup_cons.mp hd').1 (List.mem_append_left _ q)
    obtain ⟨r2,hmb,hk,ha,hk2⟩:=put_rel (d:=0) (s1:=s) e r (Nat.le_trans hn hx) (fun i hi q=>by
     rcases hs i hi with z | z
     ·omega
     ·exact hseen (q ▸ z)) (Heap.lt_size gx) (by
     cases q : oldGet P x.1 with
     | none=>rfl
     | some o=>exact absurd (hm _ _ q) (by omega)) gx (fun _ _ h=>h) (Nat.le_refl _) (by rw [r.size];rfl) rfl
    refine outs_rel hm hn (seen:=x.1 :: seen) h (r2.like rfl rfl rfl rfl (by rw [hmb];rfl) rfl rfl) (fun i hi=>?_) (fun y hy=>ho y (.tail _ hy)) (by rw [List.cons_append];exact hd')
    by_cases q : i < S.k
    ·rw [ha i q]
     rcases hs i q with z | z
     ·exact .inl z
     ·exact .inr (.tail _ z)
    ·have : i = S.k:=by omega
     subst this
     rw [hk2]
     exact .inr (.head _)
   ·cases h
theorem orcE_rel {S S3 : AS} {o : Orc} (h : orcE S o = some S3) {s s' : Shared} (r : Rel P n0 as S s) (eo : S3.o1 = S3.o2) (hp : OrcPost o s s') : Rel P n0 as S3 s' ∧ Ext n0 as s s':=by
 unfold orcE at h
 split at h
 ·rename_i S1 e1
  split at h
  ·rename_i S2 e2
   have e3:=h
   obtain ⟨⟨t1,t2,t3,t4,t5,t6,t7⟩,_⟩:=needs_is e1
   have r1 : Rel P n0 as S1 s:=r.like t1 t2 t3 t4 t5 t6 t7
   obtain ⟨⟨u2,u3,u4,u5,u6,u7⟩,hin,hat,hget⟩:=upds_is e2
   have o3:=outs_obl e3
   have oz : GrowA S2 (sized S2 o.sz):=sized_obl _ _
   have eo2 : S2.o1 = S2.o2:=oz.1.eq (o3.1.eq eo)
   have hat:=hat eo2
   have ea : ad (sized S2 o.sz) = ad S1:=by
    funext i
    unfold ad
    cases o.sz <;> (show aOf (S2.A.get i) = _;rw [u2])
   have eT : (sized S2 o.sz).T = S2.T:=by cases o.sz <;> rfl
   have eK : (sized S2 o.sz).k = S1.k:=by cases o.sz <;> exact u3
   have ne : ∀ i,i < S1.k → (∀ y ∈ o.upd,y.1 ≠ i) → ∀ y ∈ o.upd,ad S1 i ≠ y.2.1:=fun i hi q y hy z=>by
    obtain ⟨o',e'⟩:=hin y hy
    rw [← hat y hy] at z
    exact q y hy (r1.inj i y.1 hi (r1.own _ _ e').1 z).symm
   have hsz:=hp.size
   have R2 : Rel P n0 as (sized S2 o.sz) s':=by
    refine ⟨?_,?_,fun i o' e'=>?_,?_,?_,?_,?_,Nat.le_trans r1.grown hsz,fun b v e=>Nat.lt_of_lt_of_le (r1.oldlt b v e) hsz,fun b v e=>hp.keep b v (r1.old b v e) fun y hy z=>?_,by rw [ea,eK];exact r1.first⟩
    ·have z:=hp.sz
     revert z
     cases o.sz with
     | none=>intro z;show _ = S2.nb + S2.mb;rw [z.1,r1.size,u4,u5]
     | some q=>intro z;exact z.1
    ·have z:=hp.sz
     revert z
     cases o.sz with
     | none=>intro z;show _ = S2.tb + S2.ti;rw [z.2,r1.toks,u6,u7]
     | some q=>intro z;exact z.2
    ·rw [eT] at e'
     rw [ea,eK]
     rcases hget i o' e' with ⟨y,hy,rfl,rfl⟩ | ⟨q1,q2⟩
     ·obtain ⟨o2,e2⟩:=hin y hy
      exact ⟨(r1.own _ _ e2).1,by rw [hat y hy];exact hp.upd y hy⟩
     ·have z:=r1.own i o' q1
      exact ⟨z.1,hp.keep _ _ z.2 (ne i z.1 q2)⟩
    ·rw [ea,eK];exact r1.inj
    ·rw [ea,eK];exact fun i hi=>Nat.lt_of_lt_of_le (r1.low i hi) hsz
    ·rw [ea,eK];exact r1.sep
    ·rw [ea,eK];exact r1.mine
    ·obtain ⟨o',e'⟩:=hin y hy
     have q:=r1.sep y.1 (r1.own _ _ e').1
     rw [hat y hy,← z,e] at q
     cases q
   have R3:=outs_rel (m:=s.heap.objs.size) r1.oldlt r1.grown (seen:=[]) e3 R2 (fun i hi=>by rw [ea];rw [eK] at hi;exact .inl (r1.low i hi)) hp.out (by simpa using hp.nod)
   refine ⟨R3,fun b v h1 h2 h3=>hp.keep b v h3 fun y hy z=>?_,hsz,hp.gens,hp.drawn,hp.os⟩
   obtain ⟨o',e'⟩:=hin y hy
   rw [← hat y hy] at z
   rcases r1.mine y.1 (r1.own _ _ e').1 with q | q
   ·exact h2 (z ▸ q)
   ·exact absurd q (Nat.not_le_of_lt (z ▸ h1))
  ·cases h
 ·cases h
theorem envs_K : ∀ (K : List Kf),envsOf (K.map fun κ=>(κ.c,κ.p)) = K.flatMap fun κ=>κ.c.envs
 | []=>rfl
 | κ :: K=>by rw [List.map_cons,envsOf_cons,envs_K K];rfl
theorem framed_rel {S S1 : AS} {FB : Option Fs} {c : Code} {K : List Kf} {fs : Option Fs} (h : framed S FB c K fs = some S1) {s : Shared} (r : Rel P n0 as S s) : Rel P n0 as S1 s ∧ S1.T = S.T ∧ ad S1 = ad S:=by
 unfold framed at h
 (repeat' split at h) <;> first | (cases h;exact ⟨r.like rfl rfl rfl rfl rfl rfl rfl,rfl,rfl⟩) | cases h
theorem framed_same {S S1 : AS} {FB : Option Fs} {c : Code} {K : List Kf} {fs : Option Fs} (h : framed S FB c K fs = some S1) : S1.T = S.T ∧ ad S1 = ad S:=by
 unfold framed at h
 (repeat' split at h) <;> first | (cases h;exact ⟨rfl,rfl⟩) | cases h
theorem codes_K (K : List Kf) : (K.map fun κ=>(κ.c,κ.p)).map (·.1) = K.map (·.c):=by rw [List.map_map];rfl
theorem framed_is {S S1 : AS} {FB : Option Fs} {c : Code} {K : List Kf} {fs : Option Fs} (h : framed S FB c K fs = some S1) (ee : S1.e1 = S1.e2) : S.e1 = S.e2 ∧ ∀ l,fs = some l → ∃ fb,FB = some fb ∧ ∀ B,fb.holds B → l.holdsAt c ((K.map fun κ=>(κ.c,κ.p)) ++ B):=by
 unfold framed at h
 split at h
 ·cases h;exact ⟨ee,fun l h=>by cases h⟩
 ·split at h
  ·rename_i l
   split at h
   ·split at h
    ·rename_i fb
     cases h
     obtain ⟨e1,e2⟩:=List.cons.inj ee
     refine ⟨e2,fun l' h'=>?_⟩
     cases h'
     refine ⟨_,rfl,fun B hB=>?_⟩
     have z:=encE_inj (congrFun e1 [])
     have hB' : envsOf B = fb:=hB
     show c.envs ++ envsOf _ = l
     rw [envsOf_append,envs_K,hB',← z,← List.append_assoc];rfl
    ·rename_i fb
     cases h
     obtain ⟨e1,e2⟩:=List.cons.inj ee
     refine ⟨e2,fun l' h'=>?_⟩
     cases h'
     refine ⟨_,rfl,fun B hB=>?_⟩
     have z:=encE_inj (congrFun e1 [])
     have hB' : B.map (·.1) = fb:=hB
     show c.envs ++ envsOf _ = l
     rw [envsOf_append,envs_K,envsOf_codes B,hB',← z,← List.append_assoc];rfl
   ·cases h
  ·rename_i l
   split at h
   ·split at h
    ·rename_i fb
     cases h
     obtain ⟨e1,e2⟩:=List.cons.inj ee
     refine ⟨e2,fun l' h'=>?_⟩
     cases h'
     refine ⟨_,rfl,fun B hB=>?_⟩
     have z:=encC_inj (congrFun e1 [])
     have hB' : B.map (·.1) = fb:=hB
     show c :: _ = l
     rw [List.map_append,codes_K,hB',← z];rfl
    ·cases h
   ·cases h
theorem orcE_is {S S3 : AS} {o : Orc} (h : orcE S o = some S3) (eo : S3.o1 = S3.o2) (eb : S3.b1 = S3.b2) : ∀ y ∈ o.need,S.T.get y.1 = some y.2.2 ∧ ad S y.1 = y.2.1:=by
 unfold orcE at h
 split at h
 ·rename_i S1 e1
  split at h
  ·rename_i S2 e2
   have g2 : GrowA S1 S3:=(upds_obl e2).trans ((sized_obl _ _).trans (outs_obl h))
   exact (needs_is e1).2 (g2.1.eq eo) (g2.2.2.2.eq eb)
  ·cases h
 ·cases h
theorem orcA_is {FB : Option Fs} {S : AS} {x : MS} {o : Orc} {c : Code} {k : Result → Sem Fin} {a : AS × MS} (h : orcA FB S x o c k = some a) (ob : a.1.o1 = a.1.o2 ∧ a.1.e1 = a.1.e2 ∧ a.1.c1 = a.1.c2 ∧ a.1.b1 = a.1.b2) :
 topH x.K = none ∧ x.K.length < 14 ∧ o.kd = 0 ∧ c = o.c ∧ (∀ l,o.fs = some l → ∃ fb,FB = some fb ∧ ∀ B,fb.holds B → l.holdsAt x.c ((x.K.map fun κ=>(κ.c,κ.p)) ++ B)) ∧ (∀ y ∈ o.need,S.T.get y.1 = some y.2.2 ∧ ad S y.1 = y.2.1) ∧ a.2 = ⟨x.c,x.p,k o.r,x.K⟩:=by
 unfold orcA at h
 split at h
 ·rename_i ht
  split at h
  ·rename_i hl
   split at h
   ·rename_i hk
    split at h
    ·rename_i S1 e1
     split at h
     ·rename_i S2 e2
      cases h
      obtain ⟨b1,be,b2,b3⟩:=ob
      have g:=orcE_obl e2
      have f:=framed_is e1 (g.2.1.eq be)
      have z:=orcE_is e2 b1 b3
      have fT:=framed_same e1
      rw [fT.1,fT.2] at z
      exact ⟨ht,Nat.le_of_ble_eq_true hl,hk,(List.cons.inj b2).1,f.2,z,rfl⟩
     ·cases h
    ·cases h
   ·cases h
  ·cases h
 ·cases h
theorem orc_rel {FB : Option Fs} {S : AS} {x : MS} {o : Orc} {c : Code} {k : Result → Sem Fin} {a : AS × MS} (h : orcA FB S x o c k = some a) {s s' : Shared} (r : Rel P n0 as S s) (eo : a.1.o1 = a.1.o2) (hp : OrcPost o s s') : Rel P n0 as a.1 s' ∧ Ext n0 as s s':=by
 unfold orcA at h
 split at h
 ·split at h
  ·split at h
   ·split at h
    ·rename_i S1 e1
     split at h
     ·rename_i S2 e2
      cases h
      obtain ⟨R1,X1⟩:=orcE_rel e2 (framed_rel e1 r).1 eo hp
      exact ⟨R1.like rfl rfl rfl rfl rfl rfl rfl,X1⟩
     ·cases h
    ·cases h
   ·cases h
  ·cases h
 ·cases h
theorem noteA_is {FB : Option Fs} {S : AS} {x : MS} {o : Orc} {a : AS × MS} (h : noteA FB S x o = some a) (ob : a.1.o1 = a.1.o2 ∧ a.1.e1 = a.1.e2 ∧ a.1.b1 = a.1.b2) :
 ∃ k env ev,o.kd = k + 1 ∧ envOf o.c = some env ∧ o.r = .error ev ∧ x.t = bT (k + 1) o.c env ev ∧ (∀ l,o.fs = some l → ∃ fb,FB = some fb ∧ ∀ B,fb.holds B → l.holdsAt x.c ((x.K.map fun κ=>(κ.c,κ.p)) ++ B)) ∧ (∀ y ∈ o.need,S.T.get y.1 = some y.2.2 ∧ ad S y.1 = y.2.1) ∧ a.2 = ⟨x.c,x.p,nT (k + 1) o.c env ev,x.K⟩ ∧
   ∀ {P n0 as} {s s' : Shared},Rel P n0 as S s → OrcPost o s s' → Rel P n0 as a.1 s' ∧ Ext n0 as s s':=by
 unfold noteA at h
 split at h
 ·cases h
 ·rename_i k hk
  split at h
  ·rename_i env he
   split at h
   ·rename_i ev hr
    split at h
    ·rename_i S1 e1
     split at h
     ·rename_i S2 e2
      cases h
      obtain ⟨b1,be,b3⟩:=ob
      obtain ⟨t1,be⟩:=List.cons.inj be
      have g:=orcE_obl e2
      have f:=framed_is e1 (g.2.1.eq be)
      have z:=orcE_is e2 b1 b3
      have fT:=framed_same e1
      rw [fT.1,fT.2] at z
      exact ⟨k,env,ev,hk,he,hr,congrFun t1 [],f.2,z,rfl,fun r hp=>by
       obtain ⟨R1,X1⟩:=orcE_rel e2 (framed_rel e1 r).1 b1 hp
       exact ⟨R1.like rfl rfl rfl rfl rfl rfl rfl,X1⟩⟩
     ·cases h
    ·cases h
   ·cases h
  ·cases h
section
variable {w : World} {Γ : Ctx} {R : Result → Shared → Prop}
theorem wp_out {α : Type} {M : Model} {Γ : Ctx} {Q : α → Pos → Shared → Prop} {E : Value → Pos → Shared → Prop} : ∀ (m : Sem α) (p : Pos) (s : Shared),Sem.wp M Γ m Q E p s →
 (∃ a p' s',Q a p' s' ∧ ∀ Q' E',Q' a p' s' → Sem.wp M Γ m Q' E' p s) ∨ (∃ e p' s',E e p' s' ∧ ∀ (Q' : α → Pos → Shared → Prop) E',E' e p' s' → Sem.wp M Γ m Q' E' p s):=by
 intro m
 induction m with
 | pure x=>exact fun p s h=>.inl ⟨x,p,s,h,fun _ _ h=>h⟩
 | raise v=>exact fun p s h=>.inr ⟨v,p,s,h,fun _ _ h=>h⟩
 | unsupported | finish | yield | fork | await | register=>exact fun _ _ h=>h.elim
 | rule _ k ih | «at» _ k ih | alloc _ k ih | loadIfAlive _ k ih | point _ k ih | fresh k ih | ask k ih | os _ _ k ih | handled _ k ih | newGen _ k ih | stack k ih | thread k ih=>
   exact fun p s h=>ih _ _ _ h
 | load a _ k ih | genState a k ih=>
   intro p s ⟨o,ho,h⟩
   rcases ih _ _ _ h with ⟨a',p',s',h1,h2⟩ | ⟨a',p',s',h1,h2⟩
   ·exact .inl ⟨a',p',s',h1,fun Q' E' q=>⟨o,ho,h2 Q' E' q⟩⟩
   ·exact .inr ⟨a',p',s',h1,fun Q' E' q=>⟨o,ho,h2 Q' E' q⟩⟩
 | update a _ f k ih | choose _ _ k ih=>
   intro p s ⟨ho,h⟩
   rcases ih _ _ _ h with ⟨a',p',s',h1,h2⟩ | ⟨a',p',s',h1,h2⟩
   ·exact .inl ⟨a',p',s',h1,fun Q' E' q=>⟨ho,h2 Q' E' q⟩⟩
   ·exact .inr ⟨a',p',s',h1,fun Q' E' q=>⟨ho,h2 Q' E' q⟩⟩
 | call c h0 g l k ih=>
   intro p s ⟨r,s1,hr,h⟩
   rcases ih _ _ _ h with ⟨a',p',s',h1,h2⟩ | ⟨a',p',s',h1,h2⟩
   ·exact .inl ⟨a',p',s',h1,fun Q' E' q=>⟨r,s1,hr,h2 Q' E' q⟩⟩
   ·exact .inr ⟨a',p',s',h1,fun Q' E' q=>⟨r,s1,hr,h2 Q' E' q⟩⟩
 | resume g r l k ih=>
   intro p s ⟨res,s1,hr,h⟩
   rcases ih _ _ _ h with ⟨a',p',s',h1,h2⟩ | ⟨a',p',s',h1,h2⟩
   ·exact .inl ⟨a',p',s',h1,fun Q' E' q=>⟨res,s1,hr,h2 Q' E' q⟩⟩
   ·exact .inr ⟨a',p',s',h1,fun Q' E' q=>⟨res,s1,hr,h2 Q' E' q⟩⟩
theorem hM_still {M : Model} {Γ : Ctx} {k : Nat} {env : Env} {e : Value} {Q : Unit → Pos → Shared → Prop} {E : Value → Pos → Shared → Prop} {p : Pos} {s : Shared} (h : Sem.wp M Γ (hM k env e) Q E p s) :
 Sem.wp M Γ (hM k env e) (fun a p' s'=>(k = 4 → p' = p) ∧ Q a p' s') E p s:=by
 by_cases hk : k = 4
 ·subst hk
  have e1 : hM 4 env e = leaving env e:=PySem.W.Fast.te9442747609961115081 ▸ rfl
  rw [e1] at h ⊢
  exact Sem.wp_mono _ _ _ (fun _ _ _ h'=>⟨fun _=>h'.1,h'.2⟩) (fun _ _ _ h'=>h'.2) _ _ (still_leaving env e M Γ Q E p s h)
 ·exact Sem.wp_mono _ _ _ (fun _ _ _ h'=>⟨fun q=>absurd q hk,h'⟩) (fun _ _ _ h'=>h') _ _ h
noncomputable def GoOK (w : World) (Γ : Ctx) (R : Result → Shared → Prop) (n0 : Nat) (as : List Nat) (ds : List OrcD) (FB : Option Fs) (l : List In) : Prop:=
 ∀ (j : Nat) (σ0 : Nat → Sup) (r : RS) (s : Shared),(∀ i,i < j → ∀ d : OrcD,ds[i]? = some d → d.F (tr i σ0) (σ0 i)) →
   (∀ σ : Nat → Sup,(∀ i,i < j → σ i = σ0 i) → ∃ r1,goR w.params Γ.below FB l (osAt σ j (ds.drop j)) r = some r1 ∧ Obl r1) →
   Rel w.params n0 as r.S s → r.x.c.isCaller = false → okK r.x.K →
   ∃ σ : Nat → Sup,(∀ (i : Nat) (d : OrcD),ds[i]? = some d → d.F (tr i σ) (σ i)) ∧ (∀ i,i < j → σ i = σ0 i) ∧ ∃ r1 s1,goR w.params Γ.below FB l (osAt σ j (ds.drop j)) r = some r1 ∧ Obl r1 ∧ Rel w.params n0 as r1.S s1 ∧ Ext n0 as s s1 ∧
     r1.x.c.isCaller = false ∧ (Mn w Γ R r1.x.K r1.x.c r1.x.p r1.x.t s1 → Mn w Γ R r.x.K r.x.c r.x.p r.x.t s)
theorem goR_nil {D U : Nat} {ds : List OrcD} (hD : D ≤ 840) (hU : U ≤ 9000) (hΓ : Γ.handled = none) (hf : frameCount Γ.below ≤ D) (hu : unitsOf Γ.below ≤ U) (hds : ∀ j d,ds[j]? = some d → OrcOK w D U ds j d) {FB : Option Fs} (hFB : ∀ l,FB = some l → l.holds Γ.below) : GoOK w Γ R n0 as ds FB []:=fun j σ0 r s hF h rl hc ok=>by
 obtain ⟨r1,e,ob⟩:=h σ0 fun _ _=>rfl
 have e':=e
 unfold goR at e
 split at e
 ·rename_i eos
  cases e
  have hl : ds.drop j = []:=by
   cases q : ds.drop j with
   | nil=>rfl
   | cons a b=>rw [q] at eos;cases eos
  refine ⟨σ0,fun i d hi=>hF i ?_ d hi,fun _ _=>rfl,r,s,e',ob,rl,.rfl',hc,id⟩
  have h1 : i < ds.length:=(List.getElem?_eq_some_iff.mp hi).1
  have h2:=List.drop_eq_nil_iff.mp hl
  omega
 ·cases e
theorem goR_run {D U : Nat} {ds : List OrcD} (hD : D ≤ 840) (hU : U ≤ 9000) (hΓ : Γ.handled = none) (hf : frameCount Γ.below ≤ D) (hu : unitsOf Γ.below ≤ U) (hds : ∀ j d,ds[j]? = some d → OrcOK w D U ds j d) {FB : Option Fs} (hFB : ∀ l,FB = some l → l.holds Γ.below) {is : List In} (ih : GoOK w Γ R n0 as ds FB is) : GoOK w Γ R n0 as ds FB (.run n l :: is):=fun j σ0 r s hF h rl hc ok=>by
 have hf' : frameCount Γ.below ≤ 840:=Nat.le_trans hf hD
 have hu' : unitsOf Γ.below ≤ 9000:=Nat.le_trans hu hU
 have key : ∀ os,goR w.params Γ.below FB (.run n l :: is) os r = match goA w.params Γ.below n r.S l r.x with
  | some a=>goR w.params Γ.below FB is os ⟨a.1,a.2.2,r.q1,r.q2⟩
  | none=>none:=fun os=>rfl
 cases ea : goA w.params Γ.below n r.S l r.x with
 | none=>
   obtain ⟨r1,e,_⟩:=h σ0 fun _ _=>rfl
   rw [key,ea] at e
   cases e
 | some a=>
   obtain ⟨Sa,la,xa⟩:=a
   have key' : ∀ os,goR w.params Γ.below FB (.run n l :: is) os r = goR w.params Γ.below FB is os ⟨Sa,xa,r.q1,r.q2⟩:=fun os=>by rw [key,ea]
   obtain ⟨r0,e0,ob0⟩:=h σ0 fun _ _=>rfl
   rw [key'] at e0
   have b:=Obl.back (goR_obl e0).1 (goR_obl e0).2 ob0
   obtain ⟨s2,r2,x2,hc2,ok2,z2⟩:=goA_sound (R:=R) hΓ hf' hu' ea rl hc ok b.o b.e
   obtain ⟨σ,F1,ag,r1,s1,e1,ob1,rl1,x1,hcc,z1⟩:=ih j σ0 ⟨Sa,xa,r.q1,r.q2⟩ s2 hF (fun σ hσ=>by
    obtain ⟨r1,e,ob⟩:=h σ hσ
    rw [key'] at e
    exact ⟨r1,e,ob⟩) r2 hc2 ok2
   exact ⟨σ,F1,ag,r1,s1,by rw [key'];exact e1,ob1,rl1,x2.trans x1,hcc,fun z=>z2 (z1 z)⟩
theorem goR_fork {D U : Nat} {ds : List OrcD} (hD : D ≤ 840) (hU : U ≤ 9000) (hΓ : Γ.handled = none) (hf : frameCount Γ.below ≤ D) (hu : unitsOf Γ.below ≤ U) (hds : ∀ j d,ds[j]? = some d → OrcOK w D U ds j d) {FB : Option Fs} (hFB : ∀ l,FB = some l → l.holds Γ.below) {is : List In} (ih : GoOK w Γ R n0 as ds FB is) : GoOK w Γ R n0 as ds FB (.fork row nt lt nf lf :: is):=fun j σ0 r s hF h rl hc ok=>by
 have hf' : frameCount Γ.below ≤ 840:=Nat.le_trans hf hD
 have hu' : unitsOf Γ.below ≤ 9000:=Nat.le_trans hu hU
 have key : ∀ os,goR w.params Γ.below FB (.fork row nt lt nf lf :: is) os r = match forkA w.params Γ.below r row nt lt nf lf with
  | some r=>goR w.params Γ.below FB is os r
  | none=>none:=fun os=>rfl
 cases ea : forkA w.params Γ.below r row nt lt nf lf with
 | none=>
   obtain ⟨r1,e,_⟩:=h σ0 fun _ _=>rfl
   rw [key,ea] at e
   cases e
 | some a=>
   have key' : ∀ os,goR w.params Γ.below FB (.fork row nt lt nf lf :: is) os r = goR w.params Γ.below FB is os a:=fun os=>by rw [key,ea]
   obtain ⟨r0,e0,ob0⟩:=h σ0 fun _ _=>rfl
   rw [key'] at e0
   have b:=Obl.back (goR_obl e0).1 (goR_obl e0).2 ob0
   obtain ⟨s2,r2,x2,hc2,ok2,z2⟩:=fork_sound (R:=R) hΓ hf' hu' ea rl hc ok b
   obtain ⟨σ,F1,ag,r1,s1,e1,ob1,rl1,x1,hcc,z1⟩:=ih j σ0 a s2 hF (fun σ hσ=>by
    obtain ⟨r1,e,ob⟩:=h σ hσ
    rw [key'] at e
    exact ⟨r1,e,ob⟩) r2 hc2 ok2
   exact ⟨σ,F1,ag,r1,s1,by rw [key'];exact e1,ob1,rl1,x2.trans x1,hcc,fun z=>z2 (z1 z)⟩
theorem goR_fork3 {D U : Nat} {ds : List OrcD} (hD : D ≤ 840) (hU : U ≤ 9000) (hΓ : Γ.handled = none) (hf : frameCount Γ.below ≤ D) (hu : unitsOf Γ.below ≤ U) (hds : ∀ j d,ds[j]? = some d → OrcOK w D U ds j d) {FB : Option Fs} (hFB : ∀ l,FB = some l → l.holds Γ.below) {is : List In} (ih : GoOK w Γ R n0 as ds FB is) : GoOK w Γ R n0 as ds FB (.fork3 row row2 nt lt n1 l1 n2 l2 :: is):=fun j σ0 r s hF h rl hc ok=>by
 have hf' : frameCount Γ.below ≤ 840:=Nat.le_trans hf hD
 have hu' : unitsOf Γ.below ≤ 9000:=Nat.le_trans hu hU
 have key : ∀ os,goR w.params Γ.below FB (.fork3 row row2 nt lt n1 l1 n2 l2 :: is) os r = match forkB w.params Γ.below r row row2 nt lt n1 l1 n2 l2 with
  | some r=>goR w.params Γ.below FB is os r
  | none=>none:=fun os=>rfl
 cases ea : forkB w.params Γ.below r row row2 nt lt n1 l1 n2 l2 with
 | none=>
   obtain ⟨r1,e,_⟩:=h σ0 fun _ _=>rfl
   rw [key,ea] at e
   cases e
 | some a=>
   have key' : ∀ os,goR w.params Γ.below FB (.fork3 row row2 nt lt n1 l1 n2 l2 :: is) os r = goR w.params Γ.below FB is os a:=fun os=>by rw [key,ea]
   obtain ⟨r0,e0,ob0⟩:=h σ0 fun _ _=>rfl
   rw [key'] at e0
   have b:=Obl.back (goR_obl e0).1 (goR_obl e0).2 ob0
   obtain ⟨s2,r2,x2,hc2,ok2,z2⟩:=fork3_sound (R:=R) hΓ hf' hu' ea rl hc ok b
   obtain ⟨σ,F1,ag,r1,s1,e1,ob1,rl1,x1,hcc,z1⟩:=ih j σ0 a s2 hF (fun σ hσ=>by
    obtain ⟨r1,e,ob⟩:=h σ hσ
    rw [key'] at e
    exact ⟨r1,e,ob⟩) r2 hc2 ok2
   exact ⟨σ,F1,ag,r1,s1,by rw [key'];exact e1,ob1,rl1,x2.trans x1,hcc,fun z=>z2 (z1 z)⟩
theorem goR_cut {D U : Nat} {ds : List OrcD} (hD : D ≤ 840) (hU : U ≤ 9000) (hΓ : Γ.handled = none) (hf : frameCount Γ.below ≤ D) (hu : unitsOf Γ.below ≤ U) (hds : ∀ j d,ds[j]? = some d → OrcOK w D U ds j d) {FB : Option Fs} (hFB : ∀ l,FB = some l → l.holds Γ.below) {is : List In} (ih : GoOK w Γ R n0 as ds FB is) {T T' : AS → Sem Fin} {hQ : ∀ S,Inj S → T S = T' S} : GoOK w Γ R n0 as ds FB (.cut T T' hQ :: is):=fun j σ0 r s hF h rl hc ok=>by
 have hf' : frameCount Γ.below ≤ 840:=Nat.le_trans hf hD
 have hu' : unitsOf Γ.below ≤ 9000:=Nat.le_trans hu hU
 have key' : ∀ os,goR w.params Γ.below FB (.cut T T' hQ :: is) os r = goR w.params Γ.below FB is os ⟨{ r.S with e1:=(fun _=>r.x.t) :: r.S.e1,e2:=(fun _=>T r.S) :: r.S.e2 },⟨r.x.c,r.x.p,T' r.S,r.x.K⟩,r.q1,r.q2⟩:=fun os=>rfl
 obtain ⟨r0,e0,ob0⟩:=h σ0 fun _ _=>rfl
 rw [key'] at e0
 have b:=Obl.back (goR_obl e0).1 (goR_obl e0).2 ob0
 have et : r.x.t = T r.S:=congrFun (List.cons.inj b.e).1 []
 obtain ⟨σ,F1,ag,r1,s1,e1,ob1,rl1,x1,hcc,z1⟩:=ih j σ0 ⟨{ r.S with e1:=(fun _=>r.x.t) :: r.S.e1,e2:=(fun _=>T r.S) :: r.S.e2 },⟨r.x.c,r.x.p,T' r.S,r.x.K⟩,r.q1,r.q2⟩ s hF (fun σ hσ=>by
  obtain ⟨r1,e,ob⟩:=h σ hσ
  rw [key'] at e
  exact ⟨r1,e,ob⟩) (rl.like rfl rfl rfl rfl rfl rfl rfl) hc ok
 exact ⟨σ,F1,ag,r1,s1,by rw [key'];exact e1,ob1,rl1,x1,hcc,fun z=>by
  have z:=z1 z
  dsimp only at z
  rw [et,hQ r.S rl.inj];exact z⟩
theorem goR_note {D U : Nat} {ds : List OrcD} (hD : D ≤ 840) (hU : U ≤ 9000) (hΓ : Γ.handled = none) (hf : frameCount Γ.below ≤ D) (hu : unitsOf Γ.below ≤ U) (hds : ∀ j d,ds[j]? = some d → OrcOK w D U ds j d) {FB : Option Fs} (hFB : ∀ l,FB = some l → l.holds Γ.below) {is : List In} (ih : GoOK w Γ R n0 as ds FB is) : GoOK w Γ R n0 as ds FB (.note :: is):=fun j σ0 r s hF h rl hc ok=>by
 have hf' : frameCount Γ.below ≤ 840:=Nat.le_trans hf hD
 have hu' : unitsOf Γ.below ≤ 9000:=Nat.le_trans hu hU
 obtain ⟨S,⟨c,p,t,K⟩,q1,q2⟩:=r
 refine Classical.byContradiction fun hG=>?_
 obtain ⟨r0,e0,ob0⟩:=h σ0 fun _ _=>rfl
 unfold goR at e0
 dsimp only at e0
 split at e0
 ·rename_i o os eos
  cases ed : ds.drop j with
  | nil=>rw [ed] at eos;cases eos
  | cons d ds'=>
    rw [ed] at eos
    obtain ⟨eo,rfl⟩:=List.cons.inj eos
    have hj : ds[j]? = some d:=by
     have : (ds.drop j)[0]? = some d:=by rw [ed];rfl
     rw [List.getElem?_drop] at this;simpa using this
    have hdrop : ds.drop (j + 1) = ds':=by
     have : ds.drop (j + 1) = (ds.drop j).drop 1:=by rw [List.drop_drop]
     rw [this,ed];rfl
    split at e0
    ·rename_i a0 ea0
     have b0:=Obl.back (goR_obl e0).1 (goR_obl e0).2 ob0
     subst eo
     obtain ⟨kd,env,ev,hkd,henv,hrv,htree,hfs,hn,_,_⟩:=noteA_is ea0 ⟨b0.o,b0.e,b0.b⟩
     have key : ∀ σ : Nat → Sup,goR w.params Γ.below FB (.note :: is) (osAt σ j (ds.drop j)) ⟨S,⟨c,p,t,K⟩,q1,q2⟩ = match noteA FB S ⟨c,p,t,K⟩ (d.at (tr j σ) (σ j)) with
      | some a=>goR w.params Γ.below FB is (osAt σ (j + 1) (ds.drop (j + 1))) ⟨a.1,a.2,q1,q2⟩
      | none=>none:=fun σ=>by rw [ed,hdrop];rfl
     dsimp only at rl hc ok htree hfs hn
     have hO:=hds j d hj (tr j σ0) (fun i hi d' hd'=>by rw [tr_tr (Nat.le_of_lt hi),tr_lt hi];exact hF i hi d' hd')
     rw [show d.kd = kd + 1 from hkd] at hO
     obtain ⟨ev',hev,hO⟩:=hO
     have he : ev' = ev:=by
      have q1 : d.r (tr j σ0) (σ0 j) = .error ev:=hrv
      rw [hev] at q1
      exact Except.error.inj q1
     subst he
     have hw:=hO (ctxK Γ K c) p s env henv (fun l hl=>by
      obtain ⟨fb,hfb,q⟩:=hfs l hl
      rw [ctxK_code,ctxK_below];exact q _ (hFB fb hfb)) rl.old rl.oldlt ⟨fun x hx=>by
       have q:=hn x hx
       rw [← q.2]
       exact (rl.own _ _ q.1).2,fun x hx=>by
       have q:=hn x hx
       rw [← q.2]
       exact rl.sep _ (rl.own _ _ q.1).1,fun x hx y hy e=>by
       have q:=hn x hx
       have q':=hn y hy
       rw [← q.2,← q'.2] at e
       exact rl.inj _ _ (rl.own _ _ q.1).1 (rl.own _ _ q'.1).1 e⟩
     rcases wp_out _ _ _ (hM_still hw) with ⟨_,p',s',⟨hpp,u,hp,hFu⟩,hback⟩ | ⟨_,_,_,hff,_⟩
     ·let σ1 : Nat → Sup:=fun i=>if i = j then u else σ0 i
      have ag1 : ∀ i,i < j → σ1 i = σ0 i:=fun i hi=>if_neg (by omega)
      have ej : σ1 j = u:=if_pos rfl
      have et : tr j σ1 = tr j σ0:=tr_same ag1
      obtain ⟨r2,e2,ob2⟩:=h σ1 ag1
      rw [key σ1,et,ej] at e2
      split at e2
      ·rename_i a ea
       have b2:=Obl.back (goR_obl e2).1 (goR_obl e2).2 ob2
       obtain ⟨kd2,env2,ev2,hkd2,henv2,hrv2,htree2,_,_,ex,hrel⟩:=noteA_is ea ⟨b2.o,b2.e,b2.b⟩
       obtain ⟨R1,X1⟩:=hrel rl hp
       have hev2 : ev2 = ev':=by
        have q1 : d.r (tr j σ0) u = .error ev2:=hrv2
        rw [hev] at q1
        exact (Except.error.inj q1).symm
       subst hev2
       obtain ⟨a1,a2⟩:=a
       dsimp only at ex
       have hkk : kd2 = kd:=by
        have q1 : d.kd = kd + 1:=hkd
        have q2 : d.kd = kd2 + 1:=hkd2
        omega
       have hee : env2 = env:=by
        have q1 : envOf (d.c (tr j σ0)) = some env:=henv
        have q2 : envOf (d.c (tr j σ0)) = some env2:=henv2
        rw [q1] at q2
        exact (Option.some.inj q2).symm
       subst hkk
       subst hee
       have ex : a2 = ⟨c,p,nT (kd2 + 1) (d.c (tr j σ0)) env2 ev2,K⟩:=ex
       subst ex
       obtain ⟨σ,F1,ag,r1,s1,e1,ob1,rl1,x1,hcc,z1⟩:=ih (j + 1) σ1 ⟨a1,⟨c,p,nT (kd2 + 1) (d.c (tr j σ0)) env2 ev2,K⟩,q1,q2⟩ s' (fun i hi d' hd'=>by
        by_cases q : i = j
        ·subst q
         rw [hj] at hd'
         cases hd'
         rw [et,ej];exact hFu
        ·have lt : i < j:=by omega
         rw [ag1 i lt,tr_same (j:=i) (σ:=σ1) (σ':=σ0) fun x hx=>ag1 x (by omega)]
         exact hF i lt d' hd') (fun σ hσ=>by
        obtain ⟨r3,e3,ob3⟩:=h σ fun i hi=>(hσ i (by omega)).trans (ag1 i hi)
        rw [key σ,tr_same (j:=j) (σ:=σ) (σ':=σ1) fun i hi=>hσ i (by omega),hσ j (by omega),et,ej,ea] at e3
        exact ⟨r3,e3,ob3⟩) R1 hc ok
       refine hG ⟨σ,F1,fun i hi=>(ag i (by omega)).trans (ag1 i hi),r1,s1,?_,ob1,rl1,X1.trans x1,hcc,fun z=>?_⟩
       ·have y:=key σ
        rw [tr_same (j:=j) (σ:=σ) (σ':=σ1) fun i hi=>ag i (by omega),ag j (by omega),et,ej,ea] at y
        rw [y]
        exact e1
       ·have y:=z1 z
        rw [Mn_is] at y ⊢
        dsimp only
        rw [htree]
        exact wp_bT (fun Q' E' q=>hback Q' E' q) hpp (fun _ _ _ _ h=>h) y
      ·cases e2
     ·exact hff.elim
    ·cases e0
 ·cases e0
theorem goR_orc {D U : Nat} {ds : List OrcD} (hD : D ≤ 840) (hU : U ≤ 9000) (hΓ : Γ.handled = none) (hf : frameCount Γ.below ≤ D) (hu : unitsOf Γ.below ≤ U) (hds : ∀ j d,ds[j]? = some d → OrcOK w D U ds j d) {FB : Option Fs} (hFB : ∀ l,FB = some l → l.holds Γ.below) {is : List In} (ih : GoOK w Γ R n0 as ds FB is) : GoOK w Γ R n0 as ds FB (.orc :: is):=fun j σ0 r s hF h rl hc ok=>by
 have hf' : frameCount Γ.below ≤ 840:=Nat.le_trans hf hD
 have hu' : unitsOf Γ.below ≤ 9000:=Nat.le_trans hu hU
 obtain ⟨S,⟨c,p,t,K⟩,q1,q2⟩:=r
 refine Classical.byContradiction fun hG=>?_
 obtain ⟨r0,e0,ob0⟩:=h σ0 fun _ _=>rfl
 unfold goR at e0
 dsimp only at e0
 split at e0
 ·rename_i c' hd g lv k
  cases hd with
  | some v=>cases e0
  | none=>
    dsimp only at e0
    split at e0
    ·rename_i o os eos
     cases ed : ds.drop j with
     | nil=>rw [ed] at eos;cases eos
     | cons d ds'=>
       rw [ed] at eos
       obtain ⟨eo,rfl⟩:=List.cons.inj eos
       have hj : ds[j]? = some d:=by
        have : (ds.drop j)[0]? = some d:=by rw [ed];rfl
        rw [List.getElem?_drop] at this;simpa using this
       have hdrop : ds.drop (j + 1) = ds':=by
        have : ds.drop (j + 1) = (ds.drop j).drop 1:=by rw [List.drop_drop]
        rw [this,ed];rfl
       split at e0
       ·rename_i a0 ea0
        have b0:=Obl.back (goR_obl e0).1 (goR_obl e0).2 ob0
        subst eo
        obtain ⟨ht,hlen,hkd,ec,hfs,hn,_⟩:=orcA_is ea0 ⟨b0.o,b0.e,b0.c,b0.b⟩
        have key : ∀ σ : Nat → Sup,goR w.params Γ.below FB (.orc :: is) (osAt σ j (ds.drop j)) ⟨S,⟨c,p,.call c' none g lv k,K⟩,q1,q2⟩ = match orcA FB S ⟨c,p,.call c' none g lv k,K⟩ (d.at (tr j σ) (σ j)) c' k with
         | some a=>goR w.params Γ.below FB is (osAt σ (j + 1) (ds.drop (j + 1))) ⟨a.1,a.2,q1,q2⟩
         | none=>none:=fun σ=>by rw [ed,hdrop];rfl
        dsimp only at rl hc ok
        have hlen : K.length < 14:=hlen
        have h3 : frameCount (K.map fun κ=>(κ.c,κ.p)) ≤ 5 * K.length:=frameCount_K ok
        have h4 : c.weight ≤ 5:=weight_le hc
        have h5 : unitsOf (K.map fun κ=>(κ.c,κ.p)) ≤ 10 * K.length:=units_K K
        have h6 : c.cUnits ≤ 10:=units_le c
        have hO:=hds j d hj (tr j σ0) (fun i hi d' hd'=>by rw [tr_tr (Nat.le_of_lt hi),tr_lt hi];exact hF i hi d' hd')
        rw [show d.kd = 0 from hkd] at hO
        obtain ⟨r',s',hr,u,hru,hp,hFu⟩:=hO ((ctxK Γ K c).enter c' none p) p s ⟨ctxK Γ K c,by rw [show c' = d.c (tr j σ0) from ec]⟩ ec (by
         show (ctxK Γ K c).handled = none
         rw [ctxK_handled hΓ c ok];exact ht) (by
         show frameCount (((ctxK Γ K c).code,p) :: (ctxK Γ K c).below) ≤ D + 75
         rw [frameCount_cons,ctxK_below,ctxK_code,frameCount_append];omega) (by
         show unitsOf (((ctxK Γ K c).code,p) :: (ctxK Γ K c).below) ≤ U + 300
         rw [unitsOf_cons,ctxK_below,ctxK_code,unitsOf_append];omega) (fun l hl=>by
         obtain ⟨fb,hfb,q⟩:=hfs l hl
         show l.holds (((ctxK Γ K c).code,p) :: (ctxK Γ K c).below)
         rw [ctxK_code,ctxK_below];exact Fs.holds_cons (q _ (hFB fb hfb))) rl.old rl.oldlt ⟨fun x hx=>by
         have q:=hn x hx
         rw [← q.2]
         exact (rl.own _ _ q.1).2,fun x hx=>by
         have q:=hn x hx
         rw [← q.2]
         exact rl.sep _ (rl.own _ _ q.1).1,fun x hx y hy e=>by
         have q:=hn x hx
         have q':=hn y hy
         rw [← q.2,← q'.2] at e
         exact rl.inj _ _ (rl.own _ _ q.1).1 (rl.own _ _ q'.1).1 e⟩
        let σ1 : Nat → Sup:=fun i=>if i = j then u else σ0 i
        have ag1 : ∀ i,i < j → σ1 i = σ0 i:=fun i hi=>if_neg (by omega)
        have ej : σ1 j = u:=if_pos rfl
        have et : tr j σ1 = tr j σ0:=tr_same ag1
        obtain ⟨r2,e2,ob2⟩:=h σ1 ag1
        rw [key σ1,et,ej] at e2
        split at e2
        ·rename_i a ea
         have b2:=Obl.back (goR_obl e2).1 (goR_obl e2).2 ob2
         obtain ⟨R1,X1⟩:=orc_rel ea rl b2.o hp
         obtain ⟨_,_,_,_,_,_,ex⟩:=orcA_is ea ⟨b2.o,b2.e,b2.c,b2.b⟩
         obtain ⟨a1,a2⟩:=a
         dsimp only at ex
         subst ex
         obtain ⟨σ,F1,ag,r1,s1,e1,ob1,rl1,x1,hcc,z1⟩:=ih (j + 1) σ1 ⟨a1,⟨c,p,k (d.r (tr j σ0) u),K⟩,q1,q2⟩ s' (fun i hi d' hd'=>by
          by_cases q : i = j
          ·subst q
           rw [hj] at hd'
           cases hd'
           rw [et,ej];exact hFu
          ·have lt : i < j:=by omega
           rw [ag1 i lt,tr_same (j:=i) (σ:=σ1) (σ':=σ0) fun x hx=>ag1 x (by omega)]
           exact hF i lt d' hd') (fun σ hσ=>by
          obtain ⟨r3,e3,ob3⟩:=h σ fun i hi=>(hσ i (by omega)).trans (ag1 i hi)
          rw [key σ,tr_same (j:=j) (σ:=σ) (σ':=σ1) fun i hi=>hσ i (by omega),hσ j (by omega),et,ej,ea] at e3
          exact ⟨r3,e3,ob3⟩) R1 hc ok
         refine hG ⟨σ,F1,fun i hi=>(ag i (by omega)).trans (ag1 i hi),r1,s1,?_,ob1,rl1,X1.trans x1,hcc,fun z=>?_⟩
         ·have y:=key σ
          rw [tr_same (j:=j) (σ:=σ) (σ':=σ1) fun i hi=>ag i (by omega),ag j (by omega),et,ej,ea] at y
          rw [y]
          exact e1
         ·have y:=z1 z
          rw [Mn_is] at y ⊢
          refine ⟨r',s',hr,?_⟩
          rw [hru]
          exact y
        ·cases e2
       ·cases e0
    ·cases e0
 ·cases e0
theorem goR_sound {D U : Nat} {ds : List OrcD} (hD : D ≤ 840) (hU : U ≤ 9000) (hΓ : Γ.handled = none) (hf : frameCount Γ.below ≤ D) (hu : unitsOf Γ.below ≤ U) (hds : ∀ j d,ds[j]? = some d → OrcOK w D U ds j d) {FB : Option Fs} (hFB : ∀ l,FB = some l → l.holds Γ.below) :
 ∀ l : List In,GoOK w Γ R n0 as ds FB l:=fun l=>by
 induction l with
 | nil=>exact goR_nil hD hU hΓ hf hu hds hFB
 | cons i is ih=>
   cases i with
   | run _ _=>exact goR_run hD hU hΓ hf hu hds hFB ih
   | fork _ _ _ _ _=>exact goR_fork hD hU hΓ hf hu hds hFB ih
   | fork3 _ _ _ _ _ _ _ _=>exact goR_fork3 hD hU hΓ hf hu hds hFB ih
   | cut _ _ _=>exact goR_cut hD hU hΓ hf hu hds hFB ih
   | note=>exact goR_note hD hU hΓ hf hu hds hFB ih
   | orc=>exact goR_orc hD hU hΓ hf hu hds hFB ih
end
end
section
open PySem.Sem (wp finPost)
noncomputable def adOf : Nat → Ad
 | 0=>.old
 | 1=>.ent
 | 2=>.room "comparison"
 | 3=>.room "call"
 | n + 4=>.own n
noncomputable def adv (l : List Nat) : List Ad:=l.map adOf
inductive St where
 | go (n : Nat) (l : List Nat)
 | cmp (nt : Nat) (lt : List Nat) (nf : Nat) (lf : List Nat)
 | comp (nt : Nat) (lt : List Nat) (nf : Nat) (lf : List Nat)
 | fstr (nt : Nat) (lt : List Nat) (nf : Nat) (lf : List Nat)
 | comp3 (nt : Nat) (lt : List Nat) (n1 : Nat) (l1 : List Nat) (n2 : Nat) (l2 : List Nat)
 | orc
 | note
 | cut (T T' : AS → Sem Fin) (h : ∀ S,Inj S → T S = T' S)
inductive X3 {A : Type} {B : Type} {C : Type} (P : A → B → C → Prop) : Prop
 | mk (a : A) (b : B) (c : C) (h : P a b c)
inductive X4 {A : Type} {B : Type} {C : Type} {D : Type} (P : A → B → C → D → Prop) : Prop
 | mk (a : A) (b : B) (c : C) (d : D) (h : P a b c d)
inductive X5 {A : Type} {B : Type} {C : Type} {D : Type} {E : Type} (P : A → B → C → D → E → Prop) : Prop
 | mk (a : A) (b : B) (c : C) (d : D) (e : E) (h : P a b c d e)
inductive X6 {A : Type} {B : Type} {C : Type} {D : Type} {E : Type} {F : Type} (P : A → B → C → D → E → F → Prop) : Prop
 | mk (a : A) (b : B) (c : C) (d : D) (e : E) (f : F) (h : P a b c d e f)
inductive X7 {A B C D E F G : Type} (P : A → B → C → D → E → F → G → Prop) : Prop
 | mk (a : A) (b : B) (c : C) (d : D) (e : E) (f : F) (g : G) (h : P a b c d e f g)
inductive X8 {A : Type} {B : Type} {C : Type} {D : Type} {E : Type} {F : Type} {G : Type} {H : Type} (P : A → B → C → D → E → F → G → H → Prop) : Prop
 | mk (a : A) (b : B) (c : C) (d : D) (e : E) (f : F) (g : G) (h : H) (h : P a b c d e f g h)
noncomputable def un (k : Nat) : Nat → List Nat:=Nat.rec (fun _=>[]) (fun _ r x=>cond (Nat.ble x 1) [] (cond (Nat.beq (Nat.mod x 16) 15) (Nat.mod (Nat.div x 16) 256 :: r (Nat.div x 4096)) (Nat.mod x 16 :: r (Nat.div x 16)))) k
noncomputable def G (n x : Nat) : St:=.go n (un n x)
noncomputable def cm : St:=.cmp 0 [] 0 []
noncomputable def inOf : St → In
 | .go n l=>.run n (adv l)
 | .cmp nt lt nf lf=>.fork "special-get-raises" nt (adv lt) nf (adv lf)
 | .comp nt lt nf lf=>.fork "comprehension-iter-twice" nt (adv lt) nf (adv lf)
 | .fstr nt lt nf lf=>.fork "fstring-hands-on-the-str" nt (adv lt) nf (adv lf)
 | .comp3 nt lt n1 l1 n2 l2=>.fork3 "comprehension-iter-twice" "special-get-raises" nt (adv lt) n1 (adv l1) n2 (adv l2)
 | .orc=>.orc
 | .note=>.note
 | .cut T T' h=>.cut T T' h
noncomputable def mkS (ks : List (Nat × Obj)) (n t : Nat) : AS:=⟨mkT 12 (ks.map (·.2)),mkT 12 (ks.map fun x=>aObj x.1),ks.length,n,0,t,0,[],[],[],[],[],[],[],[]⟩
noncomputable def runT (P : Params) (B : List (Code × Pos)) (FB : Option Fs) (l : List St) (ks : List (Nat × Obj)) (n t : Nat) (os : List Orc) (c : Code) (p : Pos) (t0 : Sem Fin) : Option RS:=
 goR P B FB (l.map inOf) os ⟨mkS ks n t,⟨c,p,t0,[]⟩,[],[]⟩
noncomputable abbrev runF (P : Params) (B : List (Code × Pos)) (FB : Option Fs) (l : List St) (ks : List (Nat × Obj)) (n t : Nat) (os : List Orc) (c : Code) (p : Pos) : Option RS:=runT P B FB l ks n t os c p (denT c)
noncomputable abbrev runC (P : Params) (B : List (Code × Pos)) (l : List St) (ks : List (Nat × Obj)) (n t : Nat) (os : List Orc) (c : Code) (p : Pos) : Option RS:=runF P B none l ks n t os c p
noncomputable abbrev Ob:=List Nat × List (List (Code × Pos) → Sem Fin) × List Code × List Obj × List Meet
noncomputable def obL (r : RS) : Ob:=(r.S.o1,r.S.e1,r.S.c1,r.S.b1,r.q1)
noncomputable def obR (r : RS) : Ob:=(r.S.o2,r.S.e2,r.S.c2,r.S.b2,r.q2)
noncomputable abbrev Seen:=Sem Fin × List Kf × List (Option (Nat × Obj)) × Nat × Nat
noncomputable def look (S : AS) (i : Nat) : Option (Nat × Obj):=match S.T.get i with
 | some o=>some (ad S i,o)
 | none=>none
noncomputable def seen (vs : List Nat) (r : RS) : Seen:=(r.x.t,r.x.K,vs.map (look r.S),r.S.nb + r.S.mb,r.S.tb + r.S.ti)
noncomputable def Ends (o : Option RS) (vs : List Nat) (e : Seen) : Prop:=o.map (fun r=>(obL r,seen vs r)) = some (o.elim ([],[],[],[],[]) obR,e)
theorem Ends.out {o : Option RS} {vs : List Nat} {e : Seen} (h : Ends o vs e) : ∃ r,o = some r ∧ obL r = obR r ∧ seen vs r = e:=by
 unfold Ends at h
 cases o with
 | none=>cases h
 | some r=>
   simp only [Option.map_some,Option.elim_some,Option.some.injEq,Prod.mk.injEq] at h
   exact ⟨r,rfl,h.1,h.2⟩
noncomputable def lhsR (x : Option RS × List Nat × Seen) : Option (Ob × Seen):=x.1.map (fun r=>(obL r,seen x.2.1 r))
noncomputable def rhsR (x : Option RS × List Nat × Seen) : Option (Ob × Seen):=some (x.1.elim ([],[],[],[],[]) obR,x.2.2)
noncomputable def Runs (l : List (Option RS × List Nat × Seen)) : Prop:=l.map lhsR = l.map rhsR
theorem Runs.get {l : List (Option RS × List Nat × Seen)} (h : Runs l) {o : Option RS} {vs : List Nat} {e : Seen} (hx : (o,vs,e) ∈ l) : Ends o vs e:=by
 unfold Runs at h
 exact List.map_inj_left.mp h _ hx
theorem evens_get : ∀ (l : List Obj) (j : Nat),(evens l)[j]? = l[2 * j]?
 | [],j=>by simp [evens]
 | [a],0=>rfl
 | [a],j + 1=>by
   have : 2 * (j + 1) = (2 * j + 1) + 1:=by omega
   rw [this];simp [evens]
 | a :: b :: m,0=>rfl
 | a :: b :: m,j + 1=>by
   have : 2 * (j + 1) = (2 * j + 1) + 1:=by omega
   rw [this]
   show (evens m)[j]? = _
   rw [evens_get m j]
   simp
theorem odds_get : ∀ (l : List Obj) (j : Nat),(odds l)[j]? = l[2 * j + 1]?
 | [],j=>by simp [odds]
 | [a],j=>by simp [odds]
 | a :: b :: m,0=>rfl
 | a :: b :: m,j + 1=>by
   have : 2 * (j + 1) + 1 = (2 * j + 1 + 1) + 1:=by omega
   rw [this]
   show (odds m)[j]? = _
   rw [odds_get m j]
   simp
theorem mkT_get : ∀ (n : Nat) (l : List Obj) {i : Nat} {o : Obj},(mkT n l).get i = some o → l[i]? = some o
 | 0,_,_,_,h=>by cases h
 | n + 1,[],_,_,h=>by cases h
 | n + 1,a :: m,i,o,h=>by
   have h' : (BT.node a (mkT n (evens m)) (mkT n (odds m))).get i = some o:=h
   rw [BT.get_node] at h'
   by_cases h0 : i = 0
   ·subst h0
    rw [if_pos rfl] at h'
    cases h';rfl
   ·rw [if_neg h0] at h'
    by_cases p : i % 2 = 1
    ·rw [if_pos p] at h'
     have z:=mkT_get n _ h'
     rw [evens_get] at z
     have : i = 2 * (i / 2) + 1:=by omega
     rw [this];simpa using z
    ·rw [if_neg p] at h'
     have z:=mkT_get n _ h'
     rw [odds_get] at z
     have : i = (2 * (i / 2 - 1) + 1) + 1:=by omega
     rw [this];simpa using z
theorem ol7_len (P : Params) : (ol7 P).length = 1106:=by kernel_rfl
theorem oldGet_small {P : Params} {a : Nat} {o : Obj} (h : oldGet P a = some o) : a < 1106 ∧ (tr7 P).get a = some o ∧ alive o = some o ∧ a ≠ 353:=by
 unfold oldGet at h
 split at h
 ·cases h
 ·rename_i q
  split at h
  ·rename_i o' e
   have z:=mkT_get 12 (ol7 P) e
   obtain ⟨lt,_⟩:=List.getElem?_eq_some_iff.mp z
   rw [ol7_len] at lt
   have : o' = o:=by
    unfold alive at h
    split at h
    ·cases h
    ·cases h;rfl
   subst this
   exact ⟨lt,e,h,fun z=>by subst z;rw [show Nat.beq 353 353 = true from rfl] at q;cases q⟩
  ·cases h
theorem oldGet_none {P : Params} {a : Nat} (h : 1106 ≤ a) : oldGet P a = none:=by
 cases q : oldGet P a with
 | none=>rfl
 | some o=>exact absurd (oldGet_small q).1 (by omega)
theorem old_H1 (P : Params) : Old P (absHeap (tr7 P) 1106 {}):=fun a o h=>by
 obtain ⟨lt,e,al,_⟩:=oldGet_small h
 rw [abs_get lt e];exact al
theorem mkT_has : ∀ (n : Nat) (l : List Obj) {i : Nat} {o : Obj},l.length < 2 ^ n → l[i]? = some o → (mkT n l).get i = some o
 | 0,l,i,o,h,e=>by
   have : l = []:=List.eq_nil_of_length_eq_zero (by simpa using h)
   subst this
   cases e
 | n + 1,[],i,o,h,e=>by cases e
 | n + 1,a :: m,i,o,h,e=>by
   show (BT.node a (mkT n (evens m)) (mkT n (odds m))).get i = some o
   rw [BT.get_node]
   have le : ∀ m : List Obj,(evens m).length ≤ (m.length + 1) / 2 ∧ (odds m).length ≤ m.length / 2:=fun m=>by
    have : ∀ (k : Nat) (m : List Obj),m.length ≤ k → (evens m).length ≤ (m.length + 1) / 2 ∧ (odds m).length ≤ m.length / 2:=by
     intro k
     induction k with
     | zero=>intro m h;have : m = []:=List.eq_nil_of_length_eq_zero (by omega);subst this;simp [evens,odds]
     | succ k ih=>
       intro m h
       match m,h with
       | [],_=>simp [evens,odds]
       | [a],_=>simp [evens,odds]
       | a :: b :: m,h=>
         have:=ih m (by simp only [List.length_cons] at h;omega)
         simp only [evens,odds,List.length_cons]
         omega
    exact this m.length m (Nat.le_refl _)
   have hl : m.length + 1 < 2 ^ n * 2:=by simpa [Nat.pow_succ] using h
   by_cases h0 : i = 0
   ·subst h0
    rw [if_pos rfl]
    simpa using e
   ·rw [if_neg h0]
    obtain ⟨j,rfl⟩ : ∃ j,i = j + 1:=⟨i - 1,by omega⟩
    have e' : m[j]? = some o:=by simpa using e
    by_cases p : (j + 1) % 2 = 1
    ·rw [if_pos p]
     refine mkT_has n _ (by have:=(le m).1;omega) ?_
     rw [evens_get]
     have : 2 * ((j + 1) / 2) = j:=by omega
     rw [this];exact e'
    ·rw [if_neg p]
     refine mkT_has n _ (by have:=(le m).2;omega) ?_
     rw [odds_get]
     have : 2 * ((j + 1) / 2 - 1) + 1 = j:=by omega
     rw [this];exact e'
theorem ad_mkS {ks : List (Nat × Obj)} {n t i : Nat} {x : Nat × Obj} (hl : ks.length < 4096) (h : ks[i]? = some x) : ad (mkS ks n t) i = x.1:=by
 show aOf ((mkT 12 (ks.map fun x=>aObj x.1)).get i) = x.1
 rw [mkT_has 12 _ (o:=aObj x.1) (by simpa using hl) (by rw [List.getElem?_map,h];rfl)]
 rfl
theorem rel_mkS {P : Params} {ks : List (Nat × Obj)} {s : Shared} (ho : Old P s.heap) (hl : ks.length < 4096) (hk : ∀ x ∈ ks,s.heap.get? x.1 = some x.2) (hn : (ks.map (·.1)).Nodup) (hs : ∀ x ∈ ks,oldGet P x.1 = none) :
 Rel P s.heap.objs.size (ks.map (·.1)) (mkS ks s.heap.objs.size s.toks) s:=by
 have at_ : ∀ i,i < ks.length → ∃ x,ks[i]? = some x ∧ x ∈ ks:=fun i hi=>⟨ks[i],List.getElem?_eq_getElem hi,List.getElem_mem hi⟩
 refine ⟨rfl,rfl,fun i o e=>?_,fun i j hi hj e=>?_,fun i hi=>?_,fun i hi=>?_,fun i hi=>?_,Nat.le_refl _,fun a o h=>Heap.lt_size (ho a o h),ho,fun i a e=>?_⟩
 ·have z:=mkT_get 12 _ e
  rw [List.getElem?_map] at z
  obtain ⟨x,hx,rfl⟩:=Option.map_eq_some_iff.mp z
  obtain ⟨lt,ex⟩:=List.getElem?_eq_some_iff.mp hx
  exact ⟨lt,by rw [ad_mkS hl hx];exact hk x (ex ▸ List.getElem_mem lt)⟩
 ·obtain ⟨x,hx,_⟩:=at_ i hi
  obtain ⟨y,hy,_⟩:=at_ j hj
  rw [ad_mkS hl hx,ad_mkS hl hy] at e
  have hi' : i < (ks.map (·.1)).length:=by rw [List.length_map];exact hi
  have hj' : j < (ks.map (·.1)).length:=by rw [List.length_map];exact hj
  refine (List.getElem_inj (h₀:=hi') (h₁:=hj') hn).mp ?_
  have e1 : ks[i]'hi = x:=by rw [List.getElem?_eq_getElem hi] at hx;exact Option.some.inj hx
  have e2 : ks[j]'hj = y:=by rw [List.getElem?_eq_getElem hj] at hy;exact Option.some.inj hy
  rw [List.getElem_map,List.getElem_map]
  exact (congrArg Prod.fst e1).trans (e.trans (congrArg Prod.fst e2).symm)
 ·obtain ⟨x,hx,hm⟩:=at_ i hi
  rw [ad_mkS hl hx];exact Heap.lt_size (hk x hm)
 ·obtain ⟨x,hx,hm⟩:=at_ i hi
  rw [ad_mkS hl hx];exact hs x hm
 ·obtain ⟨x,hx,hm⟩:=at_ i hi
  rw [ad_mkS hl hx];exact .inl (List.mem_map_of_mem hm)
 ·rw [List.getElem?_map] at e
  obtain ⟨x,hx,rfl⟩:=Option.map_eq_some_iff.mp e
  exact ⟨(List.getElem?_eq_some_iff.mp hx).1,ad_mkS hl hx⟩
structure Fine (D U : Nat) (Γ : Ctx) : Prop where
 handled : Γ.handled = none
 depth : frameCount Γ.below ≤ D
 units : unitsOf Γ.below ≤ U
noncomputable def seenAt : List Nat → List (Option (Nat × Obj)) → List (Nat × Nat × Obj)
 | v :: vs,some x :: obs=>(v,x.1,x.2) :: seenAt vs obs
 | _ :: vs,none :: obs=>seenAt vs obs
 | _,_=>[]
theorem seenAt_is {S : AS} : ∀ {vs : List Nat} {x : Nat × Nat × Obj},x ∈ seenAt vs (vs.map (look S)) → S.T.get x.1 = some x.2.2 ∧ ad S x.1 = x.2.1
 | [],x,h=>by cases h
 | v :: vs,x,h=>by
   have e : seenAt (v :: vs) ((v :: vs).map (look S)) = match look S v with
    | some y=>(v,y.1,y.2) :: seenAt vs (vs.map (look S))
    | none=>seenAt vs (vs.map (look S)):=by
    rw [List.map_cons]
    cases look S v <;> rfl
   rw [e] at h
   cases q : look S v with
   | none=>rw [q] at h;exact seenAt_is h
   | some y=>
     rw [q] at h
     rcases List.mem_cons.mp h with rfl | h
     ·unfold look at q
      split at q
      ·rename_i o eo
       cases q
       exact ⟨eo,rfl⟩
      ·cases q
     ·exact seenAt_is h
theorem tree_use {w : World} {Γ : Ctx} {D U : Nat} (F : Fine D U Γ) {ds : List OrcD} (hD : D ≤ 840) (hU : U ≤ 9000) (hds : ∀ j d,ds[j]? = some d → OrcOK w D U ds j d)
 {l : List St} {ks : List (Nat × Obj)} {t0 : Sem Fin} {c : Code} {p : Pos} {s : Shared} {vs : List Nat} {t1 : (Nat → Sup) → Sem Fin} {obs : (Nat → Sup) → List (Option (Nat × Obj))} {n1 k1 : (Nat → Sup) → Nat}
 {FB : Option Fs} (hFB : ∀ l,FB = some l → l.holds Γ.below) (h : ∀ σ : Nat → Sup,Ends (runT w.params Γ.below FB l ks s.heap.objs.size s.toks (osAt σ 0 ds) c p t0) vs (t1 σ,[],obs σ,n1 σ,k1 σ))
 (ho : Old w.params s.heap) (hl : ks.length < 4096) (hk : ∀ x ∈ ks,s.heap.get? x.1 = some x.2) (hn : (ks.map (·.1)).Nodup) (hs : ∀ x ∈ ks,oldGet w.params x.1 = none) (hc : c.isCaller = false)
 {R : Result → Shared → Prop} :
 ∃ (σ : Nat → Sup) (s1 : Shared) (p1 : Pos) (c1 : Code),(∀ (i : Nat) (d : OrcD),ds[i]? = some d → d.F (tr i σ) (σ i)) ∧ s1.heap.objs.size = n1 σ ∧ s1.toks = k1 σ ∧ Ext s.heap.objs.size (ks.map (·.1)) s s1 ∧ Old w.params s1.heap ∧
   (At w.params (seenAt vs (obs σ)) s1 ∧ ∀ x ∈ seenAt vs (obs σ),ks.length ≤ x.1 → s.heap.objs.size ≤ x.2.1) ∧
   c1.isCaller = false ∧ (Mn w Γ R [] c1 p1 (t1 σ) s1 → Mn w Γ R [] c p t0 s):=by
 have rl:=rel_mkS ho hl hk hn hs
 obtain ⟨σ,F1,_,r1,s1,e,ob,R1,X1,hcc,z⟩:=goR_sound (R:=R) hD hU F.handled F.depth F.units hds hFB (l.map inOf) 0 default ⟨mkS ks s.heap.objs.size s.toks,⟨c,p,t0,[]⟩,[],[]⟩ s (fun i hi=>absurd hi (Nat.not_lt_zero _)) (fun σ _=>by
  obtain ⟨r1,e,eo,_⟩:=(h σ).out
  simp only [obL,obR,Prod.mk.injEq] at eo
  exact ⟨r1,e,⟨eo.1,eo.2.1,eo.2.2.1,eo.2.2.2.1,eo.2.2.2.2⟩⟩) rl hc (fun _ h=>nomatch h)
 obtain ⟨r2,e2,_,es⟩:=(h σ).out
 have : r2 = r1:=by
  have q : goR w.params Γ.below FB (l.map inOf) (osAt σ 0 ds) _ = some r2:=e2
  rw [List.drop_zero] at e
  rw [e] at q
  exact (Option.some.inj q).symm
 subst this
 simp only [seen,Prod.mk.injEq] at es
 obtain ⟨et,eK,eobs,en,ek⟩:=es
 refine ⟨σ,s1,r2.x.p,r2.x.c,F1,by rw [R1.size,en],by rw [R1.toks,ek],X1,R1.old,⟨⟨fun x hx=>?_,fun x hx=>?_,fun x hx y hy e=>?_⟩,fun x hx hk=>?_⟩,hcc,fun y=>?_⟩
 ·rw [← eobs] at hx
  have q:=seenAt_is hx
  rw [← q.2]
  exact (R1.own _ _ q.1).2
 ·rw [← eobs] at hx
  have q:=seenAt_is hx
  rw [← q.2]
  exact R1.sep _ (R1.own _ _ q.1).1
 ·rw [← eobs] at hx hy
  have q:=seenAt_is hx
  have q':=seenAt_is hy
  rw [← q.2,← q'.2] at e
  exact R1.inj _ _ (R1.own _ _ q.1).1 (R1.own _ _ q'.1).1 e
 ·rw [← eobs] at hx
  have q:=seenAt_is hx
  rw [← q.2]
  rcases R1.mine _ (R1.own _ _ q.1).1 with z | z
  ·obtain ⟨i,hi,e⟩:=List.mem_iff_getElem.mp z
   have e2:=R1.first i (ad r2.S x.1) (by rw [List.getElem?_eq_getElem hi,e])
   have:=R1.inj _ _ e2.1 (R1.own _ _ q.1).1 e2.2
   rw [List.length_map] at hi
   omega
  ·exact z
 ·rw [← et] at y
  exact z (by rw [eK];exact y)
theorem run_use {w : World} {Γ : Ctx} {D U : Nat} (F : Fine D U Γ) {ds : List OrcD} (hD : D ≤ 840) (hU : U ≤ 9000) (hds : ∀ j d,ds[j]? = some d → OrcOK w D U ds j d)
 {l : List St} {ks : List (Nat × Obj)} {c : Code} {p : Pos} {s : Shared} {vs : List Nat} {t1 : (Nat → Sup) → Sem Fin} {obs : (Nat → Sup) → List (Option (Nat × Obj))} {n1 k1 : (Nat → Sup) → Nat}
 {FB : Option Fs} (hFB : ∀ l,FB = some l → l.holds Γ.below) (h : ∀ σ : Nat → Sup,Ends (runF w.params Γ.below FB l ks s.heap.objs.size s.toks (osAt σ 0 ds) c p) vs (t1 σ,[],obs σ,n1 σ,k1 σ))
 (ho : Old w.params s.heap) (hl : ks.length < 4096) (hk : ∀ x ∈ ks,s.heap.get? x.1 = some x.2) (hn : (ks.map (·.1)).Nodup) (hs : ∀ x ∈ ks,oldGet w.params x.1 = none) (hc : c.isCaller = false)
 {R : Result → Shared → Prop} :
 ∃ (σ : Nat → Sup) (s1 : Shared) (p1 : Pos) (c1 : Code),(∀ (i : Nat) (d : OrcD),ds[i]? = some d → d.F (tr i σ) (σ i)) ∧ s1.heap.objs.size = n1 σ ∧ s1.toks = k1 σ ∧ Ext s.heap.objs.size (ks.map (·.1)) s s1 ∧ Old w.params s1.heap ∧
   (At w.params (seenAt vs (obs σ)) s1 ∧ ∀ x ∈ seenAt vs (obs σ),ks.length ≤ x.1 → s.heap.objs.size ≤ x.2.1) ∧
   c1.isCaller = false ∧ (Mn w Γ R [] c1 p1 (t1 σ) s1 → wpCode (md w) (Γ.goto c) R p s):=by
 obtain ⟨σ,s1,p1,c1,h1,h2,h3,h4,h5,h6,h7,h8⟩:=tree_use (R:=R) F hD hU hds hFB h ho hl hk hn hs hc
 refine ⟨σ,s1,p1,c1,h1,h2,h3,h4,h5,h6,h7,fun y=>?_⟩
 have y':=h8 y
 rw [wpCode_iff_wp]
 rw [Mn_is] at y'
 rw [show (md w).den = denote table from rfl,denT_eq]
 exact y'
structure Keep (ex : List Nat) (s s' : Shared) : Prop where
 gens : s'.gens = s.gens
 drawn : s'.drawn = s.drawn
 os : s'.os = s.os
 size : s.heap.objs.size ≤ s'.heap.objs.size
 keep : ∀ b o,s.heap.get? b = some o → b ∉ ex → s'.heap.get? b = some o
theorem Keep.refl (ex : List Nat) (s : Shared) : Keep ex s s:=⟨rfl,rfl,rfl,Nat.le_refl _,fun _ _ h _=>h⟩
theorem Keep.trans {ex : List Nat} {s s' s'' : Shared} (a : Keep ex s s') (b : Keep ex s' s'') : Keep ex s s'':=
 ⟨b.gens.trans a.gens,b.drawn.trans a.drawn,b.os.trans a.os,Nat.le_trans a.size b.size,fun x o h n=>b.keep x o (a.keep x o h n) n⟩
theorem Ext.toKeep {n : Nat} {as : List Nat} {s s' : Shared} (x : Ext n as s s') (hn : n = s.heap.objs.size) : Keep as s s':=⟨x.gens,x.drawn,x.os,x.size,fun b o h m=>x.keep b o (by rw [hn];exact Heap.lt_size h) m h⟩
noncomputable def OrcAt (w : World) (D U : Nat) (π : Nat → Sup) (d : OrcD) : Prop:=
 match d.kd with
 | 0=>∀ (Γ : Ctx) (p : Pos) (s : Shared),(∃ Γ0 : Ctx,Γ = Γ0.enter (d.c π) none p) → Γ.code = d.c π → Fine (D + 75) (U + 300) Γ → (∀ l,d.fs π = some l → l.holds Γ.below) → Old w.params s.heap → 1106 ≤ s.heap.objs.size → At w.params (d.need π) s →
   wpCode (md w) Γ (fun r s'=>∃ u,r = d.r π u ∧ OrcPost (d.at π u) s s' ∧ d.F π u) p s
 | k + 1=>∃ ev : Value,(∀ u,d.r π u = .error ev) ∧ ∀ (Γ : Ctx) (p : Pos) (s : Shared) (env : Env),envOf (d.c π) = some env → (∀ l,d.fs π = some l → l.holdsAt Γ.code Γ.below) → Old w.params s.heap → 1106 ≤ s.heap.objs.size → At w.params (d.need π) s →
   wp (md w) Γ (hM (k + 1) env ev) (fun _ _ s'=>∃ u,OrcPost (d.at π u) s s' ∧ d.F π u) (fun _ _ _=>False) p s
noncomputable def OrcAny (w : World) (D U : Nat) (π : Nat → Sup) (d : OrcD) : Prop:=
 d.kd = 0 ∧ ∀ (Γ : Ctx) (p : Pos) (s : Shared),Γ.code = d.c π → Fine (D + 75) (U + 300) Γ → (∀ l,d.fs π = some l → l.holds Γ.below) → Old w.params s.heap → 1106 ≤ s.heap.objs.size → At w.params (d.need π) s →
  wpCode (md w) Γ (fun r s'=>∃ u,r = d.r π u ∧ OrcPost (d.at π u) s s' ∧ d.F π u) p s
theorem OrcAny.at {w : World} {D U : Nat} {π : Nat → Sup} {d : OrcD} (h : OrcAny w D U π d) : OrcAt w D U π d:=by
 unfold OrcAt
 rw [h.1]
 exact fun Γ p s _=>h.2 Γ p s
theorem orc_of {w : World} {D U : Nat} {ds : List OrcD} {j : Nat} {d : OrcD}
 (h : ∀ π,(∀ i,i < j → ∀ d' : OrcD,ds[i]? = some d' → d'.F (tr i π) (π i)) → OrcAt w D U π d) : OrcOK w D U ds j d:=by
 intro π hF
 have big : ∀ s : Shared,(∀ a o,oldGet w.params a = some o → a < s.heap.objs.size) → 1106 ≤ s.heap.objs.size:=fun s hz=>by
  have : (oldGet w.params 1105).isSome = true:=by kernel_rfl
  obtain ⟨o,e⟩:=Option.isSome_iff_exists.mp this
  exact hz _ _ e
 have z:=h π hF
 unfold OrcAt at z
 cases hk : d.kd with
 | zero=>
   rw [hk] at z
   exact fun Γ p s he hc hh hf hu hfs ho hz hn=>z Γ p s he hc ⟨hh,hf,hu⟩ hfs ho (big s hz) hn
 | succ k=>
   rw [hk] at z
   obtain ⟨ev,h1,h2⟩:=z
   exact ⟨ev,h1,fun Γ p s env he hfs ho hz hn=>h2 Γ p s env he hfs ho (big s hz) hn⟩
theorem OrcAt.of_call {w : World} {D U : Nat} {π : Nat → Sup} {d : OrcD} {f : Value} {args : List Value} (hc : d.c π = .call f ⟨args,[]⟩)
 (h : ∀ s,Old w.params s.heap → 1106 ≤ s.heap.objs.size → At w.params (d.need π) s →
  wpAny (model pw w) { depth:=D + 75,units:=U + 300 } (call f args) (fun v s'=>∃ u,.ok (.ret v) = d.r π u ∧ OrcPost (d.at π u) s s' ∧ d.F π u) (fun e s'=>∃ u,.error e = d.r π u ∧ OrcPost (d.at π u) s s' ∧ d.F π u) s) (hk : d.kd = 0:=by rfl) : OrcAt w D U π d:=by
 unfold OrcAt
 rw [hk]
 intro Γ p s he hcode F _ ho hz hn
 obtain ⟨Γ0,rfl⟩:=he
 have hd : frameCount ((Γ0.code,p) :: Γ0.below) ≤ D + 75:=F.depth
 have hu : unitsOf ((Γ0.code,p) :: Γ0.below) ≤ U + 300:=F.units
 rw [frameCount_cons] at hd
 have z:=h s ho hz hn Γ0 p ⟨F.handled,by rw [Nat.add_comm];exact hd,(fun l hl=>nomatch hl),(fun g hg=>nomatch hg),by
  rw [unitsOf_cons] at hu
  exact hu⟩
 rw [show call f args = runValue (.call f ⟨args,[]⟩) from rfl,Sem.wp_runValue] at z
 rw [hc]
 obtain ⟨r,s',hr,q⟩:=z
 refine ⟨r,s',hr,?_⟩
 match r,q with
 | .ok (.ret v),q=>exact q
 | .error e,q=>exact q
 | .ok .next,q=>exact q.elim
 | .ok .brk,q=>exact q.elim
 | .ok .cont,q=>exact q.elim
theorem OrcAt.of_code {w : World} {D U : Nat} {π : Nat → Sup} {d : OrcD}
 (h : ∀ s,Old w.params s.heap → 1106 ≤ s.heap.objs.size → At w.params (d.need π) s → codeAny (model pw w) { depth:=D + 75,units:=U + 300 } (d.c π) (fun r s'=>∃ u,r = d.r π u ∧ OrcPost (d.at π u) s s' ∧ d.F π u) s) (hk : d.kd = 0:=by rfl) : OrcAt w D U π d:=
 OrcAny.at ⟨hk,fun Γ p s hc F _ ho hz hn=>h s ho hz hn Γ p hc ⟨F.handled,F.depth,(fun l hl=>nomatch hl),(fun g hg=>nomatch hg),F.units⟩⟩
theorem orcs_of {w : World} {D U : Nat} {ds : List OrcD}
 (h : ∀ j (d : OrcD),ds[j]? = some d → ∀ π,(∀ i,i < j → ∀ d' : OrcD,ds[i]? = some d' → d'.F (tr i π) (π i)) → OrcAt w D U π d) : ∀ j d,ds[j]? = some d → OrcOK w D U ds j d:=
 fun j d e=>orc_of fun π hF=>h j d e π hF
theorem le4 {n m : Nat} (h : Nat.ble (n + 1) m = true) : n < m:=Nat.le_of_ble_eq_true h
noncomputable def ndB : List Nat → Bool
 | []=>true
 | a :: l=>l.all (fun b=>!Nat.beq a b) && ndB l
theorem nd : ∀ {l : List Nat},ndB l = true → l.Nodup
 | [],_=>List.nodup_nil
 | a :: l,h=>by
   obtain ⟨h1,h2⟩:=Bool.and_eq_true_iff.mp h
   refine List.nodup_cons.mpr ⟨fun hm=>?_,nd h2⟩
   have:=List.all_eq_true.mp h1 a hm
   rw [Nat.beq_refl] at this
   cases this
theorem fa_cons {α : Type} {P : α → Prop} {a : α} {l : List α} (h : P a) (t : ∀ d,d ∈ l → P d) : ∀ d,d ∈ a :: l → P d:=List.forall_mem_cons.2 ⟨h,t⟩
theorem fa_nil {α : Type} {P : α → Prop} : ∀ d,d ∈ ([] : List α) → P d:=fun _ h=>nomatch h
theorem genJ {L : List OrcD} {j : Nat} {d : OrcD} {π : Nat → Sup} (h : L[j]? = some d) (hF : ∀ i,i < j → ∀ d' : OrcD,L[i]? = some d' → d'.F (tr i π) (π i)) :
 ∃ J M,J = j ∧ M = L ∧ M[j]? = some d ∧ ∀ i,i < J → ∀ d' : OrcD,L[i]? = some d' → d'.F (tr i π) (π i):=⟨j,L,rfl,rfl,h,hF⟩
theorem orcs_all {w : World} {D U : Nat} {ds : List OrcD} (h : ∀ d ∈ ds,∀ π,OrcAt w D U π d) : ∀ j d,ds[j]? = some d → OrcOK w D U ds j d:=
 orcs_of fun j d e π _=>h d (List.mem_of_getElem? e) π
noncomputable def dep (kd : Nat) (f : (Nat → Sup) → OrcD) : OrcD:=⟨fun π=>(f π).c π,fun π=>(f π).need π,fun π=>(f π).r π,fun π=>(f π).upd π,fun π=>(f π).out π,fun π=>(f π).sz π,fun π=>(f π).F π,fun π=>(f π).fs π,kd⟩
noncomputable def endT : Result → Sem Fin
 | .ok f=>.pure (.done f)
 | .error e=>.raise e
theorem At.nodup {P : Params} {need : List (Nat × Nat × Obj)} {s : Shared} (h : At P need s) (hn : (need.map (·.1)).Nodup) : (need.map (·.2.1)).Nodup:=by
 rw [List.nodup_iff_pairwise_ne,List.pairwise_map] at hn ⊢
 exact hn.imp_of_mem fun ha hb hne e=>hne (h.inj _ ha _ hb e)
theorem At.ks {P : Params} {need : List (Nat × Nat × Obj)} {s : Shared} (h : At P need s) : ∀ x ∈ need.map (·.2),s.heap.get? x.1 = some x.2:=fun x hx=>by
 obtain ⟨y,hy,rfl⟩:=List.mem_map.mp hx
 exact h.get y hy
theorem At.seps {P : Params} {need : List (Nat × Nat × Obj)} {s : Shared} (h : At P need s) : ∀ x ∈ need.map (·.2),oldGet P x.1 = none:=fun x hx=>by
 obtain ⟨y,hy,rfl⟩:=List.mem_map.mp hx
 exact h.sep y hy
noncomputable def TailOK (w : World) (Γ : Ctx) (R : Result → Shared → Prop) (t : Sem Fin) (s : Shared) : Prop:=∀ p c,c.isCaller = false → Mn w Γ R [] c p t s
theorem TailOK.end {w : World} {Γ : Ctx} {R : Result → Shared → Prop} {r : Result} {s : Shared} (h : R r s) : TailOK w Γ R (endT r) s:=fun p c _=>by
 cases r <;> exact h
theorem TailOK.again {w : World} {Γ : Ctx} {R : Result → Shared → Prop} {c : Code} {s : Shared} (hq : c.quiet = true) (h : ∀ p,wpCode (md w) (Γ.goto c) R p s) : TailOK w Γ R (.pure (.again c)) s:=fun p c _=>⟨hq,h p⟩
theorem run_go {w : World} {Γ : Ctx} {D U : Nat} (F : Fine D U Γ) {ds : List OrcD} (hD : D ≤ 840) (hU : U ≤ 9000) (hds : ∀ j d,ds[j]? = some d → OrcOK w D U ds j d)
 {l : List St} {need : List (Nat × Nat × Obj)} {c : Code} {p : Pos} {s : Shared} {vs : List Nat} {t1 : (Nat → Sup) → Sem Fin} {obs : (Nat → Sup) → List (Option (Nat × Obj))} {n1 k1 : (Nat → Sup) → Nat}
 (hc0 : Γ.code = c) {FB : Option Fs} (hFB : ∀ l,FB = some l → l.holds Γ.below)
 (h : ∀ σ : Nat → Sup,Ends (runF w.params Γ.below FB l (need.map (·.2)) s.heap.objs.size s.toks (osAt σ 0 ds) c p) vs (t1 σ,[],obs σ,n1 σ,k1 σ))
 (ho : Old w.params s.heap) (hl : need.length < 4096) (hA : At w.params need s) (hn : (need.map (·.1)).Nodup) (hc : c.isCaller = false)
 {R : Result → Shared → Prop}
 (hR : ∀ (σ : Nat → Sup) (s1 : Shared),(∀ (i : Nat) (d : OrcD),ds[i]? = some d → d.F (tr i σ) (σ i)) → s1.heap.objs.size = n1 σ → s1.toks = k1 σ → Keep (need.map (·.2.1)) s s1 → Old w.params s1.heap →
  At w.params (seenAt vs (obs σ)) s1 → (∀ x ∈ seenAt vs (obs σ),need.length ≤ x.1 → s.heap.objs.size ≤ x.2.1) → TailOK w Γ R (t1 σ) s1) : wpCode (md w) Γ R p s:=by
 obtain ⟨σ,s1,p1,c1,hF,e1,e2,X,O,⟨hA1,hfr⟩,hcc,z⟩:=run_use (R:=R) F hD hU hds hFB h ho (by rw [List.length_map];exact hl) hA.ks (by rw [List.map_map];exact hA.nodup hn) hA.seps hc
 rw [List.map_map] at X
 rw [List.length_map] at hfr
 have y:=hR σ s1 hF e1 e2 (X.toKeep rfl) O hA1 hfr
 rw [show Γ = Γ.goto c by rw [← hc0];rfl]
 exact z (y p1 c1 hcc)
theorem tree_go {w : World} {Γ : Ctx} {D U : Nat} (F : Fine D U Γ) {ds : List OrcD} (hD : D ≤ 840) (hU : U ≤ 9000) (hds : ∀ j d,ds[j]? = some d → OrcOK w D U ds j d)
 {l : List St} {need : List (Nat × Nat × Obj)} {t0 : Sem Fin} {c : Code} {p : Pos} {s : Shared} {vs : List Nat} {t1 : (Nat → Sup) → Sem Fin} {obs : (Nat → Sup) → List (Option (Nat × Obj))} {n1 k1 : (Nat → Sup) → Nat}
 {FB : Option Fs} (hFB : ∀ l,FB = some l → l.holds Γ.below)
 (h : ∀ σ : Nat → Sup,Ends (runT w.params Γ.below FB l (need.map (·.2)) s.heap.objs.size s.toks (osAt σ 0 ds) c p t0) vs (t1 σ,[],obs σ,n1 σ,k1 σ))
 (ho : Old w.params s.heap) (hl : need.length < 4096) (hA : At w.params need s) (hn : (need.map (·.1)).Nodup) (hc : c.isCaller = false)
 {R : Result → Shared → Prop}
 (hR : ∀ (σ : Nat → Sup) (s1 : Shared),(∀ (i : Nat) (d : OrcD),ds[i]? = some d → d.F (tr i σ) (σ i)) → s1.heap.objs.size = n1 σ → s1.toks = k1 σ → Keep (need.map (·.2.1)) s s1 → Old w.params s1.heap →
  At w.params (seenAt vs (obs σ)) s1 → (∀ x ∈ seenAt vs (obs σ),need.length ≤ x.1 → s.heap.objs.size ≤ x.2.1) → TailOK w Γ R (t1 σ) s1) : Mn w Γ R [] c p t0 s:=by
 obtain ⟨σ,s1,p1,c1,hF,e1,e2,X,O,⟨hA1,hfr⟩,hcc,z⟩:=tree_use (R:=R) F hD hU hds hFB h ho (by rw [List.length_map];exact hl) hA.ks (by rw [List.map_map];exact hA.nodup hn) hA.seps hc
 rw [List.map_map] at X
 rw [List.length_map] at hfr
 exact z (hR σ s1 hF e1 e2 (X.toKeep rfl) O hA1 hfr p1 c1 hcc)
noncomputable def obsOf (need : List (Nat × Nat × Obj)) (fin : List Obj) (out : List (Nat × Obj)) : List (Option (Nat × Obj)):=((need.zipWith (fun x o=>(x.2.1,o)) fin) ++ out).map some
noncomputable def updOf (need : List (Nat × Nat × Obj)) (fin : List Obj) : List (Nat × Nat × Obj):=need.zipWith (fun x o=>(x.1,x.2.1,o)) fin
theorem seenAt_some : ∀ (vs : List Nat) (xs : List (Nat × Obj)),seenAt vs (xs.map some) = vs.zip xs
 | [],xs=>by cases xs <;> rfl
 | v :: vs,[]=>rfl
 | v :: vs,x :: xs=>by
   show (v,x.1,x.2) :: seenAt vs (xs.map some) = _
   rw [seenAt_some vs xs];rfl
noncomputable def fnD (c : (Nat → Sup) → Code) (need : (Nat → Sup) → List (Nat × Nat × Obj)) (fin : (Nat → Sup) → Sup → List Obj) (r : (Nat → Sup) → Sup → Result) (out : (Nat → Sup) → Sup → List (Nat × Obj)) (F : (Nat → Sup) → Sup → Prop) : OrcD:=
 ⟨c,need,r,fun π u=>updOf (need π) (fin π u),out,fun _ u=>some (u.n,u.t),F,fun _=>none,0⟩
noncomputable def fnF (fs : Option Fs) (c : (Nat → Sup) → Code) (need : (Nat → Sup) → List (Nat × Nat × Obj)) (fin : (Nat → Sup) → Sup → List Obj) (r : (Nat → Sup) → Sup → Result) (out : (Nat → Sup) → Sup → List (Nat × Obj)) (F : (Nat → Sup) → Sup → Prop) : OrcD:=
 ⟨c,need,r,fun π u=>updOf (need π) (fin π u),out,fun _ u=>some (u.n,u.t),F,fun _=>fs,0⟩
theorem updOf_at {need : List (Nat × Nat × Obj)} {fin : List Obj} (h : fin.length = need.length) {i : Nat} (hi : i < need.length) : (updOf need fin)[i]? = some (need[i].1,need[i].2.1,fin[i]'(h ▸ hi)):=by
 unfold updOf
 rw [List.getElem?_zipWith,List.getElem?_eq_getElem hi,List.getElem?_eq_getElem (h ▸ hi)]
theorem obs_seen {need : List (Nat × Nat × Obj)} {fin : List Obj} {out : List (Nat × Obj)} {on : List Nat} (h1 : fin.length = need.length) (h2 : out.length = on.length) :
 (∀ x ∈ updOf need fin,∃ v,v < need.length ∧ (v,x.2) ∈ seenAt (List.range need.length ++ on) (obsOf need fin out)) ∧
 (∀ (i : Nat) x,out[i]? = some x → ∃ v,on[i]? = some v ∧ (v,x) ∈ seenAt (List.range need.length ++ on) (obsOf need fin out)):=by
 have e : seenAt (List.range need.length ++ on) (obsOf need fin out) = (List.range need.length).zip (need.zipWith (fun x o=>(x.2.1,o)) fin) ++ on.zip out:=by
  unfold obsOf
  rw [seenAt_some,List.zip_append (by rw [List.length_range,List.length_zipWith,h1];simp)]
 rw [e]
 constructor
 ·intro x hx
  obtain ⟨i,hi,rfl⟩:=List.mem_iff_getElem.mp hx
  have hi' : i < need.length:=by
   unfold updOf at hi
   rw [List.length_zipWith,h1] at hi
   omega
  refine ⟨i,hi',List.mem_append_left _ (List.mem_iff_getElem?.mpr ⟨i,?_⟩)⟩
  have z:=updOf_at h1 hi'
  rw [List.getElem?_eq_getElem hi] at z
  rw [List.getElem?_zip_eq_some]
  refine ⟨by rw [List.getElem?_range hi'],?_⟩
  rw [Option.some.inj z,List.getElem?_zipWith,List.getElem?_eq_getElem hi',List.getElem?_eq_getElem (h1 ▸ hi')]
 ·intro i x hx
  have hi : i < on.length:=by rw [← h2];exact (List.getElem?_eq_some_iff.mp hx).1
  refine ⟨on[i],List.getElem?_eq_getElem hi,List.mem_append_right _ (List.mem_iff_getElem?.mpr ⟨i,?_⟩)⟩
  rw [List.getElem?_zip_eq_some]
  exact ⟨List.getElem?_eq_getElem hi,hx⟩
theorem fn_post {w : World} {need : List (Nat × Nat × Obj)} {fin : List Obj} {out : List (Nat × Obj)} {on : List Nat} {s s1 : Shared} (h1 : fin.length = need.length) (h2 : out.length = on.length) (hon : ∀ v ∈ on,need.length ≤ v) (hnd : on.Nodup)
 (K : Keep (need.map (·.2.1)) s s1) (hA : At w.params (seenAt (List.range need.length ++ on) (obsOf need fin out)) s1) (hfr : ∀ x ∈ seenAt (List.range need.length ++ on) (obsOf need fin out),need.length ≤ x.1 → s.heap.objs.size ≤ x.2.1) {c : Code} {r : Result} :
 ∀ fs,OrcPost ⟨c,need,r,updOf need fin,out,some (s1.heap.objs.size,s1.toks),fs,0⟩ s s1:=by
 intro fs
 obtain ⟨z1,z2⟩:=obs_seen (on:=on) h1 h2
 refine ⟨K.gens,K.drawn,K.os,K.size,fun b v hb hn=>K.keep b v hb fun hm=>?_,fun x hx=>?_,fun x hx=>?_,?_,⟨rfl,rfl⟩⟩
 ·obtain ⟨y,hy,rfl⟩:=List.mem_map.mp hm
  obtain ⟨i,hi,rfl⟩:=List.mem_iff_getElem.mp hy
  exact hn _ (List.mem_of_getElem? (updOf_at h1 hi)) rfl
 ·obtain ⟨v,_,hv⟩:=z1 x hx
  exact hA.get (v,x.2) hv
 ·obtain ⟨i,hi,rfl⟩:=List.mem_iff_getElem.mp hx
  obtain ⟨v,hv,hm⟩:=z2 i _ (List.getElem?_eq_getElem hi)
  exact ⟨hfr _ hm (hon v (List.mem_of_getElem? hv)),hA.get _ hm⟩
 ·rw [List.nodup_iff_pairwise_ne,List.pairwise_map,List.pairwise_iff_getElem]
  intro i j hi hj hij e
  obtain ⟨v,hv,hm⟩:=z2 i _ (List.getElem?_eq_getElem hi)
  obtain ⟨v',hv',hm'⟩:=z2 j _ (List.getElem?_eq_getElem hj)
  have q:=hA.inj _ hm _ hm' e
  have q' : v = v':=q
  subst q'
  have hi' : i < on.length:=by rw [← h2];exact hi
  have hj' : j < on.length:=by rw [← h2];exact hj
  rw [List.getElem?_eq_getElem hi'] at hv
  rw [List.getElem?_eq_getElem hj'] at hv'
  have : i = j:=(List.getElem_inj (h₀:=hi') (h₁:=hj') hnd).mp ((Option.some.inj hv).trans (Option.some.inj hv').symm)
  omega
theorem fnG_any {w : World} {D U : Nat} {π : Nat → Sup} {c : (Nat → Sup) → Code} {need : (Nat → Sup) → List (Nat × Nat × Obj)} {fin : (Nat → Sup) → Sup → List Obj} {r : (Nat → Sup) → Sup → Result} {out : (Nat → Sup) → Sup → List (Nat × Obj)} {F : (Nat → Sup) → Sup → Prop} {fs : Option Fs}
 (hD : D + 75 ≤ 840) (hU : U + 300 ≤ 9000) (hc : (c π).isCaller = false) (hnum : ((need π).map (·.1)).Nodup) (hlen : (need π).length < 4096)
 (h : ∀ (B : List (Code × Pos)) (n t : Nat) (p : Pos),1106 ≤ n → (∀ l,fs = some l → l.holds B) → X4 fun (ds : List OrcD) (l : List St) (on : List Nat) (V : (Nat → Sup) → Sup)=>(∀ j d,ds[j]? = some d → OrcOK w (D + 75) (U + 300) ds j d) ∧ (∀ v ∈ on,(need π).length ≤ v) ∧ on.Nodup ∧
  (∀ σ,(fin π (V σ)).length = (need π).length ∧ (out π (V σ)).length = on.length ∧ Ends (runF w.params B fs l ((need π).map (·.2)) n t (osAt σ 0 ds) (c π) p) (List.range (need π).length ++ on) (endT (r π (V σ)),[],obsOf (need π) (fin π (V σ)) (out π (V σ)),(V σ).n,(V σ).t)) ∧
  ∀ σ,(∀ (i : Nat) (d : OrcD),ds[i]? = some d → d.F (tr i σ) (σ i)) → F π (V σ)) : OrcAny w D U π (fnF fs c need fin r out F):=by
 refine ⟨rfl,?_⟩
 intro Γ p s hcode Fi hfs ho hz hA
 obtain ⟨ds,l,on,V,hds,hon,hnd,hrun,hF⟩:=h Γ.below s.heap.objs.size s.toks p hz hfs
 refine run_go (n1:=fun σ=>(V σ).n) (k1:=fun σ=>(V σ).t) (t1:=fun σ=>endT (r π (V σ))) (obs:=fun σ=>obsOf (need π) (fin π (V σ)) (out π (V σ))) Fi hD hU hds hcode hfs (fun σ=>(hrun σ).2.2) ho hlen hA hnum hc ?_
 intro σ s1 hf e1 e2 K O hA1 hfr
 refine TailOK.end ⟨V σ,rfl,?_,hF σ hf⟩
 have z:=fn_post (w:=w) (hrun σ).1 (hrun σ).2.1 hon hnd K hA1 hfr (c:=c π) (r:=r π (V σ)) fs
 rw [e1,e2] at z
 exact z
theorem fnF_any {w : World} {D U : Nat} {π : Nat → Sup} {c : (Nat → Sup) → Code} {need : (Nat → Sup) → List (Nat × Nat × Obj)} {fin : (Nat → Sup) → Sup → List Obj} {r : (Nat → Sup) → Sup → Result} {out : (Nat → Sup) → Sup → List (Nat × Obj)} {F : (Nat → Sup) → Sup → Prop} {fs : Option Fs}
 (hD : D + 75 ≤ 840) (hU : U + 300 ≤ 9000) (hc : (c π).isCaller = false) (hnum : ((need π).map (·.1)).Nodup) (hlen : (need π).length < 4096)
 (h : ∀ (B : List (Code × Pos)) (n t : Nat) (p : Pos),1106 ≤ n → X4 fun (ds : List OrcD) (l : List St) (on : List Nat) (V : (Nat → Sup) → Sup)=>(∀ j d,ds[j]? = some d → OrcOK w (D + 75) (U + 300) ds j d) ∧ (∀ v ∈ on,(need π).length ≤ v) ∧ on.Nodup ∧
  (∀ σ,(fin π (V σ)).length = (need π).length ∧ (out π (V σ)).length = on.length ∧ Ends (runF w.params B fs l ((need π).map (·.2)) n t (osAt σ 0 ds) (c π) p) (List.range (need π).length ++ on) (endT (r π (V σ)),[],obsOf (need π) (fin π (V σ)) (out π (V σ)),(V σ).n,(V σ).t)) ∧
  ∀ σ,(∀ (i : Nat) (d : OrcD),ds[i]? = some d → d.F (tr i σ) (σ i)) → F π (V σ)) : OrcAny w D U π (fnF fs c need fin r out F):=
 fnG_any hD hU hc hnum hlen fun B n t p hn _=>h B n t p hn
theorem fn_ok {w : World} {D U : Nat} {π : Nat → Sup} {c : (Nat → Sup) → Code} {need : (Nat → Sup) → List (Nat × Nat × Obj)} {fin : (Nat → Sup) → Sup → List Obj} {r : (Nat → Sup) → Sup → Result} {out : (Nat → Sup) → Sup → List (Nat × Obj)} {F : (Nat → Sup) → Sup → Prop}
 (hD : D + 75 ≤ 840) (hU : U + 300 ≤ 9000) (hc : (c π).isCaller = false) (hnum : ((need π).map (·.1)).Nodup) (hlen : (need π).length < 4096)
 (h : ∀ (B : List (Code × Pos)) (n t : Nat) (p : Pos),1106 ≤ n → X4 fun (ds : List OrcD) (l : List St) (on : List Nat) (V : (Nat → Sup) → Sup)=>(∀ j d,ds[j]? = some d → OrcOK w (D + 75) (U + 300) ds j d) ∧ (∀ v ∈ on,(need π).length ≤ v) ∧ on.Nodup ∧
  (∀ σ,(fin π (V σ)).length = (need π).length ∧ (out π (V σ)).length = on.length ∧ Ends (runC w.params B l ((need π).map (·.2)) n t (osAt σ 0 ds) (c π) p) (List.range (need π).length ++ on) (endT (r π (V σ)),[],obsOf (need π) (fin π (V σ)) (out π (V σ)),(V σ).n,(V σ).t)) ∧
  ∀ σ,(∀ (i : Nat) (d : OrcD),ds[i]? = some d → d.F (tr i σ) (σ i)) → F π (V σ)) : OrcAt w D U π (fnD c need fin r out F):=
 (fnF_any (fs:=none) hD hU hc hnum hlen h).at
theorem turns {w : World} {Γ : Ctx} {R : Result → Shared → Prop} (I : Nat → Shared → Prop) (N : Nat)
 (turn : ∀ k s p,k < N → I k s → (∀ s' p',I (k + 1) s' → wpCode (md w) Γ R p' s') → wpCode (md w) Γ R p s)
 (fin : ∀ s p,I N s → wpCode (md w) Γ R p s) : ∀ s p,I 0 s → wpCode (md w) Γ R p s:=by
 have key : ∀ j k,k + j = N → ∀ s p,I k s → wpCode (md w) Γ R p s:=by
  intro j
  induction j with
  | zero=>intro k e s p h;have : k = N:=by omega
          subst this;exact fin s p h
  | succ j ih=>intro k e s p h;exact turn k s p (by omega) h fun s' p' h'=>ih (k + 1) (by omega) s' p' h'
 exact fun s p h=>key N 0 (by omega) s p h
theorem again_of {w : World} {Γ : Ctx} {c : Code} {R : Result → Shared → Prop} {s : Shared} (hc : Γ.code = c) (h : ∀ p,wpCode (md w) Γ R p s) : ∀ p1,wpCode (md w) (Γ.goto c) R p1 s:=by
 intro p1
 rw [show Γ.goto c = Γ by rw [← hc];rfl]
 exact h p1
theorem updOf_nums {need : List (Nat × Nat × Obj)} {os : List Obj} (h : os.length = need.length) : (updOf need os).map (·.1) = need.map (·.1):=by
 apply List.ext_getElem?
 intro i
 rw [List.getElem?_map,List.getElem?_map]
 by_cases hi : i < need.length
 ·rw [updOf_at h hi,List.getElem?_eq_getElem hi]
  try rfl
 ·rw [List.getElem?_eq_none (by unfold updOf;rw [List.length_zipWith];omega),List.getElem?_eq_none (by omega)]
  try rfl
theorem updOf_adr {need : List (Nat × Nat × Obj)} {os : List Obj} (h : os.length = need.length) : (updOf need os).map (·.2.1) = need.map (·.2.1):=by
 apply List.ext_getElem?
 intro i
 rw [List.getElem?_map,List.getElem?_map]
 by_cases hi : i < need.length
 ·rw [updOf_at h hi,List.getElem?_eq_getElem hi]
  try rfl
 ·rw [List.getElem?_eq_none (by unfold updOf;rw [List.length_zipWith];omega),List.getElem?_eq_none (by omega)]
  try rfl
theorem updOf_len {need : List (Nat × Nat × Obj)} {os : List Obj} (h : os.length = need.length) : (updOf need os).length = need.length:=by
 unfold updOf;rw [List.length_zipWith,h];omega
theorem updOf_same {need : List (Nat × Nat × Obj)} : updOf need (need.map (·.2.2)) = need:=by
 apply List.ext_getElem?
 intro i
 by_cases hi : i < need.length
 ·rw [updOf_at (by rw [List.length_map]) hi,List.getElem?_eq_getElem hi,List.getElem_map]
 ·rw [List.getElem?_eq_none (by unfold updOf;rw [List.length_zipWith];omega),List.getElem?_eq_none (by omega)]
theorem updOf_upd {need : List (Nat × Nat × Obj)} {os os' : List Obj} (h : os.length = need.length) (h' : os'.length = need.length) : updOf (updOf need os) os' = updOf need os':=by
 apply List.ext_getElem?
 intro i
 by_cases hi : i < need.length
 ·have hl:=updOf_len h
  rw [updOf_at (by rw [hl,h']) (by rw [hl];exact hi),updOf_at h' hi]
  have z:=updOf_at h hi
  rw [List.getElem?_eq_getElem (by rw [hl];exact hi)] at z
  rw [Option.some.inj z]
 ·rw [List.getElem?_eq_none (by unfold updOf;simp only [List.length_zipWith];omega),List.getElem?_eq_none (by unfold updOf;rw [List.length_zipWith];omega)]
theorem At.upd {w : World} {need : List (Nat × Nat × Obj)} {fin : List Obj} {s s1 : Shared} (hs : At w.params need s) (hn : (need.map (·.1)).Nodup) (h : fin.length = need.length) (hA : At w.params (seenAt (List.range need.length ++ []) (obsOf need fin [])) s1) : At w.params (updOf need fin) s1:=by
 have z:=(obs_seen (out:=[]) (on:=[]) h rfl).1
 refine ⟨fun x hx=>?_,fun x hx=>?_,fun x hx y hy e=>?_⟩
 ·obtain ⟨v,_,hv⟩:=z x hx;exact hA.get (v,x.2) hv
 ·obtain ⟨v,_,hv⟩:=z x hx;exact hA.sep (v,x.2) hv
 ·obtain ⟨i,hi,ei⟩:=List.mem_iff_getElem.mp hx
  obtain ⟨j,hj,ej⟩:=List.mem_iff_getElem.mp hy
  have hi' : i < need.length:=by rw [updOf_len h] at hi;exact hi
  have hj' : j < need.length:=by rw [updOf_len h] at hj;exact hj
  have q1:=updOf_at h hi'
  have q2:=updOf_at h hj'
  rw [List.getElem?_eq_getElem hi,ei] at q1
  rw [List.getElem?_eq_getElem hj,ej] at q2
  have q1:=Option.some.inj q1
  have q2:=Option.some.inj q2
  rw [q1,q2] at e ⊢
  exact hs.inj _ (List.getElem_mem hi') need[j] (List.getElem_mem hj') e
theorem loopG_any {δ : Type} {fs : Option Fs} {w : World} {D U : Nat} {π : Nat → Sup} {c : Code} {need : List (Nat × Nat × Obj)} (N : Nat) (objs : Nat → δ → List Obj) (G : Nat → δ → Prop) (d0 : δ) {fin : Sup → List Obj} {r : Sup → Result} {out : Sup → List (Nat × Obj)} {F : Sup → Prop}
 (hD : D + 75 ≤ 840) (hU : U + 300 ≤ 9000) (hc : c.isCaller = false) (hq : c.quiet = true) (hnum : (need.map (·.1)).Nodup) (hlen : need.length < 4096) (h0 : need.map (·.2.2) = objs 0 d0) (hG0 : G 0 d0) (hol : ∀ k d,(objs k d).length = need.length)
 (turn : ∀ (B : List (Code × Pos)) (n t : Nat) (p : Pos) (k : Nat) (d : δ),1106 ≤ n → k < N → G k d → (∀ l,fs = some l → l.holds B) → X5 fun (ds : List OrcD) (l : List St) (d' : (Nat → Sup) → δ) (nn kk : (Nat → Sup) → Nat)=>(∀ j d,ds[j]? = some d → OrcOK w (D + 75) (U + 300) ds j d) ∧
  (∀ σ,Ends (runF w.params B fs l ((updOf need (objs k d)).map (·.2)) n t (osAt σ 0 ds) c p) (List.range need.length) (.pure (.again c),[],obsOf need (objs (k + 1) (d' σ)) [],nn σ,kk σ)) ∧
  ∀ σ,(∀ (i : Nat) (d : OrcD),ds[i]? = some d → d.F (tr i σ) (σ i)) → G (k + 1) (d' σ))
 (last : ∀ (B : List (Code × Pos)) (n t : Nat) (p : Pos) (d : δ),1106 ≤ n → G N d → (∀ l,fs = some l → l.holds B) → X4 fun (ds : List OrcD) (l : List St) (on : List Nat) (V : (Nat → Sup) → Sup)=>(∀ j d,ds[j]? = some d → OrcOK w (D + 75) (U + 300) ds j d) ∧ (∀ v ∈ on,need.length ≤ v) ∧ on.Nodup ∧
  (∀ σ,(fin (V σ)).length = need.length ∧ (out (V σ)).length = on.length ∧ Ends (runF w.params B fs l ((updOf need (objs N d)).map (·.2)) n t (osAt σ 0 ds) c p) (List.range need.length ++ on) (endT (r (V σ)),[],obsOf need (fin (V σ)) (out (V σ)),(V σ).n,(V σ).t)) ∧
  ∀ σ,(∀ (i : Nat) (d : OrcD),ds[i]? = some d → d.F (tr i σ) (σ i)) → F (V σ)) :
 OrcAny w D U π (fnF fs (fun _=>c) (fun _=>need) (fun _=>fin) (fun _=>r) (fun _=>out) (fun _=>F)):=by
 refine ⟨rfl,?_⟩
 intro Γ p s hcode Fi hfs ho hz hA
 have hA' : At w.params need s:=hA
 have hob : ∀ (k : Nat) (d : δ) (f : List Obj) (o : List (Nat × Obj)),obsOf (updOf need (objs k d)) f o = obsOf need f o:=fun k d f o=>by
  have : (updOf need (objs k d)).zipWith (fun x o=>(x.2.1,o)) f = need.zipWith (fun x o=>(x.2.1,o)) f:=by
   apply List.ext_getElem?
   intro i
   rw [List.getElem?_zipWith,List.getElem?_zipWith]
   by_cases hi : i < need.length
   ·rw [updOf_at (hol k d) hi,List.getElem?_eq_getElem hi]
    cases f[i]? <;> rfl
   ·have hl:=updOf_len (hol k d)
    rw [List.getElem?_eq_none (by omega : (updOf need (objs k d)).length ≤ i),List.getElem?_eq_none (by omega : need.length ≤ i)]
  unfold obsOf
  rw [this]
 let I : Nat → Shared → Prop:=fun k s'=>Keep (need.map (·.2.1)) s s' ∧ Old w.params s'.heap ∧ ∃ d,At w.params (updOf need (objs k d)) s' ∧ G k d
 refine turns (w:=w) (Γ:=Γ) I N (fun k s1 p1 lt hI cont=>?_) (fun s1 p1 hI=>?_) s p ⟨.refl _ _,ho,d0,by rw [← h0,updOf_same];exact hA',hG0⟩
 ·obtain ⟨K,O,d,hAk,hg⟩:=hI
  obtain ⟨ds,l,d',nn,kk,hds,hrun,hG⟩:=turn Γ.below s1.heap.objs.size s1.toks p1 k d (Nat.le_trans hz K.size) lt hg hfs
  refine run_go (need:=updOf need (objs k d)) (vs:=List.range (updOf need (objs k d)).length ++ []) (n1:=nn) (k1:=kk) (t1:=fun σ=>.pure (.again c)) (obs:=fun σ=>obsOf (updOf need (objs k d)) (objs (k + 1) (d' σ)) []) Fi hD hU hds hcode hfs (fun σ=>by
   rw [List.append_nil,updOf_len (hol k d),hob];exact hrun σ) O (by rw [updOf_len (hol k d)];exact hlen) hAk (by rw [updOf_nums (hol k d)];exact hnum) hc ?_
  intro σ s2 hf e1 e2 K2 O2 hA2 hfr
  rw [updOf_adr (hol k d)] at K2
  refine TailOK.again hq (again_of hcode fun p2=>cont s2 p2 ⟨K.trans K2,O2,d' σ,?_,hG σ hf⟩)
  have z:=At.upd hAk (by rw [updOf_nums (hol k d)];exact hnum) (by rw [updOf_len (hol k d)];exact hol _ _) hA2
  rw [updOf_upd (hol k d) (hol _ _)] at z
  exact z
 ·obtain ⟨K,O,d,hAk,hg⟩:=hI
  obtain ⟨ds,l,on,V,hds,hon,hnd,hrun,hF⟩:=last Γ.below s1.heap.objs.size s1.toks p1 d (Nat.le_trans hz K.size) hg hfs
  refine run_go (need:=updOf need (objs N d)) (vs:=List.range (updOf need (objs N d)).length ++ on) (n1:=fun σ=>(V σ).n) (k1:=fun σ=>(V σ).t) (t1:=fun σ=>endT (r (V σ))) (obs:=fun σ=>obsOf (updOf need (objs N d)) (fin (V σ)) (out (V σ))) Fi hD hU hds hcode hfs (fun σ=>by
   rw [updOf_len (hol N d),hob];exact (hrun σ).2.2) O (by rw [updOf_len (hol N d)];exact hlen) hAk (by rw [updOf_nums (hol N d)];exact hnum) hc ?_
  intro σ s2 hf e1 e2 K2 O2 hA2 hfr
  rw [updOf_adr (hol N d)] at K2
  refine TailOK.end ⟨V σ,rfl,?_,hF σ hf⟩
  rw [updOf_len (hol N d),hob] at hA2 hfr
  have z:=fn_post (w:=w) (hrun σ).1 (hrun σ).2.1 hon hnd (K.trans K2) hA2 (fun x hx hk=>Nat.le_trans K.size (hfr x hx hk)) (c:=c) (r:=r (V σ)) fs
  rw [e1,e2] at z
  exact z
theorem loopF_any {δ : Type} {fs : Option Fs} {w : World} {D U : Nat} {π : Nat → Sup} {c : Code} {need : List (Nat × Nat × Obj)} (N : Nat) (objs : Nat → δ → List Obj) (G : Nat → δ → Prop) (d0 : δ) {fin : Sup → List Obj} {r : Sup → Result} {out : Sup → List (Nat × Obj)} {F : Sup → Prop}
 (hD : D + 75 ≤ 840) (hU : U + 300 ≤ 9000) (hc : c.isCaller = false) (hq : c.quiet = true) (hnum : (need.map (·.1)).Nodup) (hlen : need.length < 4096) (h0 : need.map (·.2.2) = objs 0 d0) (hG0 : G 0 d0) (hol : ∀ k d,(objs k d).length = need.length)
 (turn : ∀ (B : List (Code × Pos)) (n t : Nat) (p : Pos) (k : Nat) (d : δ),1106 ≤ n → k < N → G k d → X5 fun (ds : List OrcD) (l : List St) (d' : (Nat → Sup) → δ) (nn kk : (Nat → Sup) → Nat)=>(∀ j d,ds[j]? = some d → OrcOK w (D + 75) (U + 300) ds j d) ∧
  (∀ σ,Ends (runF w.params B fs l ((updOf need (objs k d)).map (·.2)) n t (osAt σ 0 ds) c p) (List.range need.length) (.pure (.again c),[],obsOf need (objs (k + 1) (d' σ)) [],nn σ,kk σ)) ∧
  ∀ σ,(∀ (i : Nat) (d : OrcD),ds[i]? = some d → d.F (tr i σ) (σ i)) → G (k + 1) (d' σ))
 (last : ∀ (B : List (Code × Pos)) (n t : Nat) (p : Pos) (d : δ),1106 ≤ n → G N d → X4 fun (ds : List OrcD) (l : List St) (on : List Nat) (V : (Nat → Sup) → Sup)=>(∀ j d,ds[j]? = some d → OrcOK w (D + 75) (U + 300) ds j d) ∧ (∀ v ∈ on,need.length ≤ v) ∧ on.Nodup ∧
  (∀ σ,(fin (V σ)).length = need.length ∧ (out (V σ)).length = on.length ∧ Ends (runF w.params B fs l ((updOf need (objs N d)).map (·.2)) n t (osAt σ 0 ds) c p) (List.range need.length ++ on) (endT (r (V σ)),[],obsOf need (fin (V σ)) (out (V σ)),(V σ).n,(V σ).t)) ∧
  ∀ σ,(∀ (i : Nat) (d : OrcD),ds[i]? = some d → d.F (tr i σ) (σ i)) → F (V σ)) :
 OrcAny w D U π (fnF fs (fun _=>c) (fun _=>need) (fun _=>fin) (fun _=>r) (fun _=>out) (fun _=>F)):=
 loopG_any N objs G d0 hD hU hc hq hnum hlen h0 hG0 hol (fun B n t p k d hn hk hg _=>turn B n t p k d hn hk hg) (fun B n t p d hn hg _=>last B n t p d hn hg)
noncomputable abbrev iterO (l : Addr) (k : Nat) : Obj:=⟨.type "list_iterator",none,.fields #[.ref l,.int (k : Int) 0],#[]⟩
noncomputable abbrev iterEnd (k : Nat) : Obj:=⟨.type "list_iterator",none,.fields #[.none,.int (k : Int) 0],#[]⟩
noncomputable abbrev listO (xs : Array Value) (ep : Nat) : Obj:=⟨.type "list",none,.seq xs ep,#[]⟩
noncomputable abbrev emptyTup : Obj:=⟨.type "tuple",none,.seq #[] 0,#[]⟩
noncomputable abbrev stopO (t : Addr) : Obj:=⟨.type "StopIteration",none,.fields #[.ref t,.none,.none,.none,.bool false,.none],#[]⟩
noncomputable def nextD (ni nl : Nat) (it l : Addr) (xs : Array Value) (ep k : Nat) (x : Value) : OrcD:=
 ⟨fun _=>.call (.builtin "list_iterator.__next__") ⟨[.ref it],[]⟩,fun _=>[(ni,it,iterO l k),(nl,l,listO xs ep)],fun _ _=>.ok (.ret x),fun _ _=>[(ni,it,iterO l (k + 1))],fun _ _=>[],fun _ _=>none,fun _ _=>True,fun _=>none,0⟩
noncomputable def endD (ni nl : Nat) (it l : Addr) (xs : Array Value) (ep k : Nat) : OrcD:=
 ⟨fun _=>.call (.builtin "list_iterator.__next__") ⟨[.ref it],[]⟩,fun _=>[(ni,it,iterO l k),(nl,l,listO xs ep)],fun _ u=>.error (.ref (u.a 1)),fun _ _=>[(ni,it,iterEnd k)],fun _ u=>[(u.a 0,emptyTup),(u.a 1,stopO (u.a 0))],fun _ u=>some (u.n,u.t),fun _ u=>u.n = u.a 1 + 1 ∧ u.a 1 = u.a 0 + 1,fun _=>none,0⟩
theorem nextD_ok {w : World} {D U : Nat} {π : Nat → Sup} {ni nl : Nat} {it l : Addr} {xs : Array Value} {ep k : Nat} {x : Value} (hx : xs[k]? = some x) : OrcAt w D U π (nextD ni nl it l xs ep k x):=by
 refine OrcAt.of_code (fun s ho hz hp=>?_)
 have h1 : s.heap.get? it = some (iterO l k):=hp.get (ni,it,iterO l k) (.head _)
 have h2 : s.heap.get? l = some (listO xs ep):=hp.get (nl,l,listO xs ep) (.tail _ (.head _))
 have hit : s.heap.IsListIter it l k:=⟨_,h1,rfl,rfl⟩
 refine codeAny_call_builtin slot_listiter_next.plain entry_listiter_next (slot_listiter_next.check _ _ _ _ _ _ _ _ hit.typeIs (args_listiter_next _) ?_)
 show wpAny _ _ (field (.ref it) 0 >>= _) _ _ s
 refine wpAny_bind (wpAny_field h1 rfl (x:=.ref l) rfl ?_)
 show wpAny _ _ (if (Value.ref l == Value.none) = true then _ else _) _ _ s
 rw [if_neg (show ¬ ((Value.ref l == Value.none) = true) from Bool.false_ne_true)]
 show wpAny _ _ (field (.ref it) 1 >>= _) _ _ s
 refine wpAny_bind (wpAny_field h1 rfl (x:=.int k 0) rfl ?_)
 show wpAny _ _ (seqItems? (.ref l) >>= _) _ _ s
 refine wpAny_bind (wpAny_seqItems h2 rfl ?_)
 simp only [Int.toNat_natCast,hx]
 refine wpAny_bind (wpAny_setField_rec h1 (by simp) fun h' e1 e2=>wpAny_pure ?_)
 refine ⟨default,rfl,⟨rfl,rfl,rfl,by show _ ≤ h'.objs.size;rw [e2.1];exact Nat.le_refl _,fun b v hb hne=>?_,fun y hy=>?_,(fun y hy=>nomatch hy),List.nodup_nil,⟨e2.1,rfl⟩⟩,trivial⟩
 ·exact (e2.2 b (hne _ (.head _))).trans hb
 ·rcases List.mem_singleton.mp hy with rfl
  exact e1
theorem endD_ok {w : World} {D U : Nat} {π : Nat → Sup} {ni nl : Nat} {it l : Addr} {xs : Array Value} {ep k : Nat} (hx : xs[k]? = none) : OrcAt w D U π (endD ni nl it l xs ep k):=by
 refine OrcAt.of_code (fun s ho hz hp=>?_)
 have h1 : s.heap.get? it = some (iterO l k):=hp.get (ni,it,iterO l k) (.head _)
 have h2 : s.heap.get? l = some (listO xs ep):=hp.get (nl,l,listO xs ep) (.tail _ (.head _))
 have hit : s.heap.IsListIter it l k:=⟨_,h1,rfl,rfl⟩
 refine codeAny_call_builtin slot_listiter_next.plain entry_listiter_next (slot_listiter_next.check _ _ _ _ _ _ _ _ hit.typeIs (args_listiter_next _) ?_)
 show wpAny _ _ (field (.ref it) 0 >>= _) _ _ s
 refine wpAny_bind (wpAny_field h1 rfl (x:=.ref l) rfl ?_)
 show wpAny _ _ (if (Value.ref l == Value.none) = true then _ else _) _ _ s
 rw [if_neg (show ¬ ((Value.ref l == Value.none) = true) from Bool.false_ne_true)]
 show wpAny _ _ (field (.ref it) 1 >>= _) _ _ s
 refine wpAny_bind (wpAny_field h1 rfl (x:=.int k 0) rfl ?_)
 show wpAny _ _ (seqItems? (.ref l) >>= _) _ _ s
 refine wpAny_bind (wpAny_seqItems h2 rfl ?_)
 simp only [Int.toNat_natCast,hx]
 refine wpAny_bind (wpAny_rule (wpAny_bind (wpAny_setField_rec h1 (by simp) fun h' e1 e2=>?_)))
 show wpAny _ _ (newExc (.type "StopIteration") [] >>= _) _ _ _
 refine wpAny_bind ?_
 simp only [newExc,newTuple]
 refine wpAny_bind (wpAny_newObj_type ?_ (by size_fits))
 refine wpAny_bind (m:=firstArgMember _ _) (wpAny_of_eq (a:=Value.none) (by first | rfl | (simp only [firstArgMember];rfl)) ?_)
 refine wpAny_newObj_type ?_ (by size_fits)
 simp only [raiseNew]
 refine wpAny_bind (wpAny_handled ?_)
 rw [show (Around.in1 _).handled = none from rfl]
 refine wpAny_bind (wpAny_pure (wpAny_throw ?_))
 have hz1 : h'.objs.size = s.heap.objs.size:=e2.1
 refine ⟨⟨s.heap.objs.size + 2,s.toks,fun i=>s.heap.objs.size + i,fun _=>.none,fun _=>#[],fun _=>#[],fun _=>#[]⟩,?_,⟨rfl,rfl,rfl,?_,fun b v hb hne=>?_,fun y hy=>?_,fun y hy=>?_,?_,⟨?_,rfl⟩⟩,⟨rfl,rfl⟩⟩
 ·show Except.error _ = Except.error _
  refine congrArg (fun a=>Except.error (Value.ref a)) (by show (h'.push _).objs.size = s.heap.objs.size + 1;rw [Heap.size_push,hz1])
 ·show _ ≤ ((h'.push _).push _).objs.size
  rw [Heap.size_push,Heap.size_push,hz1];omega
 ·exact Heap.get?_push_of_some _ (Heap.get?_push_of_some _ ((e2.2 b (hne _ (.head _))).trans hb))
 ·rcases List.mem_singleton.mp hy with rfl
  exact Heap.get?_push_of_some _ (Heap.get?_push_of_some _ e1)
 ·rcases List.mem_cons.mp hy with rfl | hy
  ·refine ⟨by show s.heap.objs.size ≤ s.heap.objs.size + 0;omega,Heap.get?_push_of_some _ ?_⟩
   show (h'.push _).get? (s.heap.objs.size + 0) = _
   rw [Nat.add_zero,← hz1]
   exact Heap.get?_push_size _ rfl
  ·rcases List.mem_singleton.mp hy with rfl
   refine ⟨by show s.heap.objs.size ≤ s.heap.objs.size + 1;omega,?_⟩
   have q : (h'.push emptyTup).objs.size = s.heap.objs.size + 1:=by rw [Heap.size_push,hz1]
   show ((h'.push _).push _).get? (s.heap.objs.size + 1) = _
   rw [← q]
   refine (Heap.get?_push_size _ rfl).trans ?_
   show some (stopO h'.objs.size) = some (stopO (s.heap.objs.size + 0))
   rw [hz1];rfl
 ·show List.Nodup [s.heap.objs.size + 0,s.heap.objs.size + 1]
  simp
 ·show ((h'.push _).push _).objs.size = s.heap.objs.size + 2
  rw [Heap.size_push,Heap.size_push,hz1]
noncomputable def appD (na : Nat) (acc : Addr) (ys : Array Value) (ea : Nat) (v : (Nat → Sup) → Value) : OrcD:=
 ⟨fun π=>.call (.builtin "list.append") ⟨[.ref acc,v π],[]⟩,fun _=>[(na,acc,listO ys ea)],fun _ _=>.ok (.ret .none),fun π u=>[(na,acc,listO (ys.push (v π)) (u.a 0))],fun _ _=>[],fun _ _=>none,fun _ _=>True,fun _=>none,0⟩
theorem appD_ok {w : World} {D U : Nat} {π : Nat → Sup} {na : Nat} {acc : Addr} {ys : Array Value} {ea : Nat} {v : (Nat → Sup) → Value} (hsz : ys.size ≤ sizeLine) : OrcAt w D U π (appD na acc ys ea v):=by
 refine OrcAt.of_code (fun s ho hz hp=>?_)
 have h1 : s.heap.get? acc = some (listO ys ea):=hp.get (na,acc,listO ys ea) (.head _)
 have hl : s.heap.IsList acc ys:=⟨_,h1,rfl,ea,rfl⟩
 refine codeAny_call_builtin slot_list_append.plain entry_list_append (slot_list_append.check _ _ _ _ _ _ _ _ hl.typeIs (args_list_append _ _) ?_)
 obtain ⟨n',hd'⟩:=Obj.data_mapSeq (o:=listO ys ea) rfl (·.push (v π))
 show wpAny _ _ (updateSeq acc (·.push (v π)) >>= fun _=>ret .none) _ _ s
 refine wpAny_bind ?_
 have e2 : Heap.SameBut acc s.heap (s.heap.update acc (Obj.mapSeq (·.push (v π)))):=Heap.SameBut.update ..
 refine wpAny_updateSeq h1 rfl (wpAny_pure ⟨⟨0,0,fun _=>n',fun _=>.none,fun _=>#[],fun _=>#[],fun _=>#[]⟩,rfl,⟨rfl,rfl,rfl,by show _ ≤ (s.heap.update acc _).objs.size;rw [e2.1];exact Nat.le_refl _,fun b x hb hne=>(e2.2 b (hne _ (.head _))).trans hb,fun y hy=>?_,(fun y hy=>nomatch hy),List.nodup_nil,⟨e2.1,rfl⟩⟩,trivial⟩)
 rcases List.mem_singleton.mp hy with rfl
 refine (Heap.get?_update_self _ h1 (Obj.isFreed_of_seq hd')).trans ?_
 have : Obj.mapSeq (·.push (v π)) (listO ys ea) = listO (ys.push (v π)) n':=by
  have h3 : (Obj.mapSeq (·.push (v π)) (listO ys ea)).data = .seq (ys.push (v π)) n':=hd'
  show Obj.mk _ _ _ _ = _
  exact congrArg (fun d=>Obj.mk (.type "list") none d #[]) h3
 rw [this]
end
section
open PySem.Builtin PySem.Builtin.Str
noncomputable abbrev dn (v : Value) : Sem Fin:=.pure (.done (.ret v))
noncomputable abbrev sv (x : String) (t : Nat) : Value:=.str (q x) t
theorem any_of_gives {w : World} {A : Around} {P : Shared → Prop} {T : String} {name : Str} {id : String} {B : Builtin} {self : Value} {rest : List Value} {m : Made} {R : Result → Shared → Prop} {s : Shared}
 (slot : Slot T name id) (hT : s.TypeIs self T) (entry : entryFor table id = some B) (args : argsOk id ⟨self :: rest,[]⟩) (g : GivesAt P (B ⟨self :: rest,[]⟩) m) (hP : P s)
 (h : m.post (fun v s'=>R (.ok (.ret v)) s') s) : codeAny (model pw w) A (.call (.builtin id) ⟨self :: rest,[]⟩) R s:=
 codeAny_call_builtin slot.plain entry (slot.check _ _ _ _ _ _ _ _ hT args (g pw w A R s hP h))
noncomputable def newStrD (c : (Nat → Sup) → Code) (y : Str) : OrcD:=⟨c,fun _=>[],fun _ u=>.ok (.ret (.str y (u.a 0))),fun _ _=>[],fun _ _=>[],fun _ u=>some (u.n,u.t),fun _ _=>True,fun _=>none,0⟩
noncomputable def repD (x y z r : Str) (t u v : (Nat → Sup) → Nat) : OrcD:=newStrD (fun π=>.call (.builtin "str.replace") ⟨[.str x (t π),.str y (u π),.str z (v π)],[]⟩) r
theorem repD_ok {w : World} {D U : Nat} {π : Nat → Sup} {x y z r : Str} {t u v : (Nat → Sup) → Nat} (hc : ((occurrences x y 0 x.length (x.length + 1)).isEmpty || (y.length == 0 && z.length == 0)) = false)
 (hr : glued z (partsBetween x (occurrences x y 0 x.length (x.length + 1)) y.length) = r) (hu : (u π == 0 || v π == 0) = false) (huv : (u π == v π) = false) (hyz : (y == z) = false)
 (hl : tooLong (x.length + (occurrences x y 0 x.length (x.length + 1)).length * z.length) = false) (hfit : r.length ≤ sizeLine) : OrcAt w D U π (repD x y z r t u v):=by
 refine OrcAt.of_code (fun s ho hz hp=>?_)
 refine any_of_gives F.slot_str_replace (typeIs_str _ _ _) F.entry_str_replace (F.args_str_replace_3 _ _ _) (Gives.at (P:=fun _=>True) (gives_str_replace x y z (t π) (u π) (v π) fun _=>⟨hu,huv,hyz,hl⟩)) trivial ?_
 rw [hc]
 simp only [Bool.false_eq_true,if_false]
 rw [hr]
 refine ⟨?_,?_⟩
 ·first | exact hfit | trace_state
 ·exact ⟨⟨s.heap.objs.size,s.toks + 1,fun _=>s.toks,fun _=>.none,fun _=>#[],fun _=>#[],fun _=>#[]⟩,rfl,⟨rfl,rfl,rfl,Nat.le_refl _,fun b v h _=>h,(fun _ h=>nomatch h),(fun _ h=>nomatch h),List.nodup_nil,⟨rfl,rfl⟩⟩,trivial⟩
noncomputable def qt (x : String) : String:=if x = "" then "''" else if x = "it's b" then "'it'\"'\"'s b'" else if x ∈ ["a*","*b","??","[!a]*"] then "'" ++ x ++ "'" else x
noncomputable def quoteC (x : String) (tk : Nat) : Code:=.call (.ref 1073) ⟨[sv x tk],[]⟩
noncomputable def quoteD (x y : String) (tk : (Nat → Sup) → Nat) : OrcD:=newStrD (fun π=>quoteC x (tk π)) (q y)
noncomputable def qa : List St:=[G 48 0x14000000040414400]
noncomputable def qb : List St:=[G 77 0x14000000040414400]
noncomputable def qc : List St:=[G 24 0x1414400]
noncomputable def qd : List St:=[G 59 0x14000000040414400,.orc,G 14 1]
noncomputable def itsR (t tk : Nat) : OrcD:=repD (q "it's b") (q "'") (q "'\"'\"'") (q "it'\"'\"'s b") (fun _=>tk) (fun _=>t + 4) (fun _=>t + 5)
theorem quote_runs (P : Params) (B : List (Code × Pos)) (n t tk : Nat) (σ : Nat → Sup) (p : Pos) : Runs [
 (runC P B qa [] n t [] (quoteC "ab" tk) p,[],(dn (sv "ab" tk),[],[],n + 1,t + 3)),
 (runC P B qa [] n t [] (quoteC "bb" tk) p,[],(dn (sv "bb" tk),[],[],n + 1,t + 3)),
 (runC P B qa [] n t [] (quoteC "a" tk) p,[],(dn (sv "a" tk),[],[],n + 1,t + 3)),
 (runC P B qa [] n t [] (quoteC "b" tk) p,[],(dn (sv "b" tk),[],[],n + 1,t + 3)),
 (runC P B qc [] n t [] (quoteC "" tk) p,[],(dn (sv "''" (t + 3)),[],[],n + 1,t + 4)),
 (runC P B qd [] n t (osAt σ 0 [itsR t tk]) (quoteC "it's b" tk) p,[],(dn (sv "'it'\"'\"'s b'" ((σ 0).t + 2)),[],[],(σ 0).n,(σ 0).t + 3)),
 (runC P B qb [] n t [] (quoteC "a*" tk) p,[],(dn (sv "'a*'" (t + 8)),[],[],n + 3,t + 9)),
 (runC P B qb [] n t [] (quoteC "*b" tk) p,[],(dn (sv "'*b'" (t + 8)),[],[],n + 3,t + 9)),
 (runC P B qb [] n t [] (quoteC "??" tk) p,[],(dn (sv "'??'" (t + 8)),[],[],n + 3,t + 9)),
 (runC P B qb [] n t [] (quoteC "[!a]*" tk) p,[],(dn (sv "'[!a]*'" (t + 8)),[],[],n + 3,t + 9))]:=by unfold Runs;kernel_rfl
theorem newStr_at {w : World} {D U : Nat} {π : Nat → Sup} {c : (Nat → Sup) → Code} {y : Str} (hD : D + 75 ≤ 840) (hU : U + 300 ≤ 9000) (hc : (c π).isCaller = false)
 (run : ∀ (B : List (Code × Pos)) (n t : Nat) (p : Pos),X5 fun (ds : List OrcD) (l : List St) (tt nn kk : (Nat → Sup) → Nat)=>(∀ j d,ds[j]? = some d → OrcOK w (D + 75) (U + 300) ds j d) ∧ ∀ σ,Ends (runC w.params B l [] n t (osAt σ 0 ds) (c π) p) [] (dn (.str y (tt σ)),[],[],nn σ,kk σ)) : OrcAt w D U π (newStrD c y):=
 fn_ok (need:=fun _=>[]) (fin:=fun _ _=>[]) (out:=fun _ _=>[]) (r:=fun _ u=>.ok (.ret (.str y (u.a 0)))) (F:=fun _ _=>True) hD hU hc List.nodup_nil (by decide) fun B n t p _=>by
  obtain ⟨ds,l,tt,nn,kk,hds,h⟩:=run B n t p
  exact ⟨ds,l,[],fun σ=>⟨nn σ,kk σ,fun _=>tt σ,fun _=>.none,fun _=>#[],fun _=>#[],fun _=>#[]⟩,hds,(fun _ h=>nomatch h),List.nodup_nil,fun σ=>⟨rfl,rfl,h σ⟩,fun _ _=>trivial⟩
theorem none_ok {w : World} {D U : Nat} : ∀ j d,([] : List OrcD)[j]? = some d → OrcOK w D U [] j d:=fun j d h=>by simp at h
theorem one_ok {w : World} {D U : Nat} {d : OrcD} (h : ∀ π,OrcAt w D U π d) : ∀ j d',[d][j]? = some d' → OrcOK w D U [d] j d':=orcs_of fun j d' e π _=>by
 cases j with
 | zero=>cases e;exact h π
 | succ j=>simp at e
theorem its_ok {w : World} {D U t tk : Nat} {π : Nat → Sup} : OrcAt w D U π (itsR t tk):=by
 refine repD_ok (by decide +kernel) (by decide +kernel) ?_ ?_ (by decide +kernel) (by decide +kernel) (by decide +kernel)
 ·show (Nat.beq (t + 4) 0 || Nat.beq (t + 5) 0) = false
  rfl
 ·show ((t + 4 : Nat) == t + 5) = false
  simp
theorem quote_at {w : World} {D U : Nat} {π : Nat → Sup} (hD : D + 75 ≤ 840) (hU : U + 300 ≤ 9000) {x : String} {tk : (Nat → Sup) → Nat} (hx : x ∈ ["ab","bb","a","b","","it's b","a*","*b","??","[!a]*"]) : OrcAt w D U π (quoteD x (qt x) tk):=by
 refine newStr_at hD hU rfl fun B n t p=>?_
 have z:=fun σ=>quote_runs w.params B n t (tk π) σ p
 simp only [List.mem_cons,List.not_mem_nil,or_false] at hx
 rcases hx with rfl | rfl | rfl | rfl | rfl | rfl | rfl | rfl | rfl | rfl
 ·exact ⟨[],qa,fun _=>tk π,fun _=>n + 1,fun _=>t + 3,none_ok,fun σ=>(z σ).get (.head _)⟩
 ·exact ⟨[],qa,fun _=>tk π,fun _=>n + 1,fun _=>t + 3,none_ok,fun σ=>(z σ).get (.tail _ (.head _))⟩
 ·exact ⟨[],qa,fun _=>tk π,fun _=>n + 1,fun _=>t + 3,none_ok,fun σ=>(z σ).get (.tail _ (.tail _ (.head _)))⟩
 ·exact ⟨[],qa,fun _=>tk π,fun _=>n + 1,fun _=>t + 3,none_ok,fun σ=>(z σ).get (.tail _ (.tail _ (.tail _ (.head _))))⟩
 ·exact ⟨[],qc,fun _=>t + 3,fun _=>n + 1,fun _=>t + 4,none_ok,fun σ=>(z σ).get (.tail _ (.tail _ (.tail _ (.tail _ (.head _)))))⟩
 ·exact ⟨[itsR t (tk π)],qd,fun σ=>(σ 0).t + 2,fun σ=>(σ 0).n,fun σ=>(σ 0).t + 3,one_ok fun _=>its_ok,fun σ=>(z σ).get (.tail _ (.tail _ (.tail _ (.tail _ (.tail _ (.head _))))))⟩
 ·exact ⟨[],qb,fun _=>t + 8,fun _=>n + 3,fun _=>t + 9,none_ok,fun σ=>(z σ).get (.tail _ (.tail _ (.tail _ (.tail _ (.tail _ (.tail _ (.head _)))))))⟩
 ·exact ⟨[],qb,fun _=>t + 8,fun _=>n + 3,fun _=>t + 9,none_ok,fun σ=>(z σ).get (.tail _ (.tail _ (.tail _ (.tail _ (.tail _ (.tail _ (.tail _ (.head _))))))))⟩
 ·exact ⟨[],qb,fun _=>t + 8,fun _=>n + 3,fun _=>t + 9,none_ok,fun σ=>(z σ).get (.tail _ (.tail _ (.tail _ (.tail _ (.tail _ (.tail _ (.tail _ (.tail _ (.head _)))))))))⟩
 ·exact ⟨[],qb,fun _=>t + 8,fun _=>n + 3,fun _=>t + 9,none_ok,fun σ=>(z σ).get (.tail _ (.tail _ (.tail _ (.tail _ (.tail _ (.tail _ (.tail _ (.tail _ (.tail _ (.head _))))))))))⟩
noncomputable def syncAt (e : PySem.Expr) (d : Nat) : Bool:=match e with
 | .ListComp _ gens _ _=>(gens[d]?).elim false (·.is_async != 0)
 | _=>true
theorem codeAny_startL {prog : Program} {w : World} {A : Around} {R : Result → Shared → Prop} {s : Shared} {elt : PySem.Expr} {gens : List Comprehension} {scope : Scope} {pos : Pos} {d : Nat} {it acc : Value} {env : Env} (he : (gens[d]?).elim false (·.is_async != 0) = false)
 (h0 : codeAny (model prog w) A (.compLoop (.ListComp elt gens scope pos) d it acc env) R s)
 (h : wpAny (model prog w) A (pyIter it) (fun it' s'=>codeAny (model prog w) A (.compLoop (.ListComp elt gens scope pos) d it' acc env) R s') (notedBy (model prog w) A env fun x s'=>R (.error x) s') s) :
 codeAny (model prog w) A (.compStart (.ListComp elt gens scope pos) d it acc env) R s:=by
 refine codeAny_of_tree ?_
 show wpAny _ _ ((compStart (.ListComp elt gens scope pos) d it acc env).onRaise (fun x=>do noteFrame x env;standAt theWindowsPlace)) _ _ s
 refine wpAny_notedAt ?_
 unfold compStart
 rw [show ((clausesOf (.ListComp elt gens scope pos))[d]?).elim false (·.is_async != 0) = false from he]
 show wpAny _ _ (ask >>= _) _ _ s
 refine wpAny_bind (wpAny_askSetting (wpAny_ite ?_))
 split
 ·first
   | exact wpAny_bind (wpAny_pure (wpAny_pure (And.intro rfl h0)))
   | exact wpAny_pure (And.intro rfl h0)
 ·refine wpAny_bind (wpAny_rule ?_)
  dsimp only
  rw [show clausesOf (.ListComp elt gens scope pos) = gens from rfl]
  cases gens[d]? with
  | none=>exact wpAny_bind (wpAny_mono h (fun it' s' h'=>wpAny_pure (And.intro rfl h')) fun _ _ x=>x)
  | some g=>exact wpAny_bind (wpAny_standAt (wpAny_bind (wpAny_mono h (fun it' s' h'=>wpAny_pure (And.intro rfl h')) fun _ _ x=>x)))
theorem codeAny_start {prog : Program} {w : World} {A : Around} {R : Result → Shared → Prop} {s : Shared} {e : PySem.Expr} {d : Nat} {it acc : Value} {env : Env} (he : syncAt e d = false)
 (h0 : codeAny (model prog w) A (.compLoop e d it acc env) R s)
 (h : wpAny (model prog w) A (pyIter it) (fun it' s'=>codeAny (model prog w) A (.compLoop e d it' acc env) R s') (notedBy (model prog w) A env fun x s'=>R (.error x) s') s) :
 codeAny (model prog w) A (.compStart e d it acc env) R s:=by
 unfold syncAt at he
 split at he
 ·exact codeAny_startL he h0 h
 ·cases he
noncomputable def Self (w : World) (need : List (Nat × Nat × Obj)) (it : Addr) : Prop:=∀ (A : Around) (Q : Value → Shared → Prop) (E : Value → Shared → Prop) (s : Shared),At w.params need s → Q (.ref it) s → wpAny (model pw w) A (pyIter (.ref it)) Q E s
theorem start_any {w : World} {D U : Nat} {π : Nat → Sup} {e : PySem.Expr} {dp : Nat} {it acc : Addr} {env : Env} {need : List (Nat × Nat × Obj)} {fin : Sup → List Obj} {r : Sup → Result} {out : Sup → List (Nat × Obj)} {F : Sup → Prop} (he : syncAt e dp = false)
 (hit : Self w need it) (h : OrcAny w D U π (fnD (fun _=>.compLoop e dp (.ref it) (.ref acc) env) (fun _=>need) (fun _=>fin) (fun _=>r) (fun _=>out) (fun _=>F))) :
 OrcAny w D U π (fnD (fun _=>.compStart e dp (.ref it) (.ref acc) env) (fun _=>need) (fun _=>fin) (fun _=>r) (fun _=>out) (fun _=>F)):=by
 refine ⟨rfl,?_⟩
 intro Γ p s hc Fi hfs ho hz hp
 have z : codeAny (model pw w) { depth:=D + 75,units:=U + 300 } (.compLoop e dp (.ref it) (.ref acc) env) (fun r' s'=>∃ u,r' = r u ∧ OrcPost ⟨.compStart e dp (.ref it) (.ref acc) env,need,r u,updOf need (fin u),out u,some (u.n,u.t),none,0⟩ s s' ∧ F u) s:=
  fun Γ p hc hb=>by
   obtain ⟨r',s',hr,u,e1,hp,hF⟩:=h.2 Γ p s hc ⟨hb.1,hb.2.1,hb.2.2.2.2⟩ (fun _ h=>nomatch h) ho hz hp
   exact ⟨r',s',hr,u,e1,⟨hp.gens,hp.drawn,hp.os,hp.size,hp.keep,hp.upd,hp.out,hp.nod,hp.sz⟩,hF⟩
 exact codeAny_start he z (hit _ _ _ _ hp z) Γ p hc ⟨Fi.handled,Fi.depth,(fun l hl=>nomatch hl),(fun g hg=>nomatch hg),Fi.units⟩
theorem self_list {w : World} {need : List (Nat × Nat × Obj)} {it l : Addr} {ni k : Nat} (h : (ni,it,iterO l k) ∈ need) : Self w need it:=fun A Q E s hp hQ=>wpAny_pyIter_listiter (l:=l) (i:=k) ⟨_,hp.get _ h,rfl,rfl⟩ hQ
noncomputable def Ws (l : List String) (ys : Array Value) : Prop:=ys.size = l.length ∧ ∀ (i : Nat) (x : String),l[i]? = some x → ∃ t,ys[i]? = some (sv x t)
theorem Ws.nil : Ws [] #[]:=⟨rfl,fun i x h=>by simp at h⟩
theorem Ws.push {l : List String} {ys : Array Value} (h : Ws l ys) (x : String) (t : Nat) : Ws (l ++ [x]) (ys.push (sv x t)):=by
 refine ⟨by simp [h.1],fun i y hy=>?_⟩
 by_cases lt : i < l.length
 ·rw [List.getElem?_append_left lt] at hy
  obtain ⟨u,e⟩:=h.2 i y hy
  exact ⟨u,by rw [Array.getElem?_push,if_neg (by rw [h.1];omega)];exact e⟩
 ·rw [List.getElem?_append_right (by omega)] at hy
  have : i - l.length = 0:=by
   cases q : i - l.length with
   | zero=>rfl
   | succ m=>rw [q] at hy;simp at hy
  rw [this] at hy
  have e : i = l.length:=by omega
  simp at hy
  subst hy
  exact ⟨t,by rw [Array.getElem?_push,if_pos (by rw [h.1];exact e)]⟩
noncomputable abbrev dictO (es : Array DictEntry) (ep : Nat) : Obj:=⟨.type "dict",none,.dict es ep,#[]⟩
structure CompSt where
 ys : Array Value
 ea : Nat
 q : Option Sup
 ed : Nat
noncomputable def esOf (es0 : Array DictEntry) (es1 : Sup → Array DictEntry) : Option Sup → Array DictEntry
 | none=>es0
 | some u=>es1 u
noncomputable def ksC (it acc L : Addr) (itO : Obj) (ys : Array Value) (ea : Nat) (es : Array DictEntry) (ed : Nat) (extra : List (Nat × Obj)) : List (Nat × Obj):=
 (it,itO) :: (acc,listO ys ea) :: (L,dictO es ed) :: extra
noncomputable def compF (itE : Obj) (es1 : Sup → Array DictEntry) (extra : List (Nat × Nat × Obj)) (u : Sup) : List Obj:=itE :: listO (u.x 0) (u.a 0) :: dictO (es1 u) (u.a 1) :: extra.map (·.2.2)
noncomputable def needC (ni na nL : Nat) (it acc L : Addr) (itO : Obj) (ys : Array Value) (ea : Nat) (es : Array DictEntry) (ed : Nat) (extra : List (Nat × Nat × Obj)) : List (Nat × Nat × Obj):=
 (ni,it,itO) :: (na,acc,listO ys ea) :: (nL,L,dictO es ed) :: extra
noncomputable def compD (c : Code) (ni na nL : Nat) (it acc L : Addr) (itO itE : Obj) (ys0 : Array Value) (ea0 : Nat) (es0 : Array DictEntry) (ed0 : Nat) (extra : List (Nat × Nat × Obj)) (es1 : Sup → Array DictEntry) (G : Array Value → Prop) : OrcD:=
 fnD (fun _=>c) (fun _=>needC ni na nL it acc L itO ys0 ea0 es0 ed0 extra) (fun _=>compF itE es1 extra) (fun _ _=>.ok .next) (fun _ _=>[]) (fun _ u=>G (u.x 0))
noncomputable def TurnR (w : World) (D U : Nat) (c : Code) (it acc L : Addr) (itO itO' : Obj) (es0 : Array DictEntry) (es1 : Sup → Array DictEntry) (extra : List (Nat × Obj)) (B : List (Code × Pos)) (n t : Nat) (p : Pos) (ys : Array Value) (ea : Nat) (q : Option Sup) (ed : Nat) (G' : Array Value → Prop) : Prop:=
 X8 fun (ds : List OrcD) (l : List St) (ys' : (Nat → Sup) → Array Value) (ea' ed' nn kk : (Nat → Sup) → Nat) (q' : (Nat → Sup) → Sup)=>(∀ j d,ds[j]? = some d → OrcOK w (D + 75) (U + 300) ds j d) ∧
  (∀ σ,Ends (runC w.params B l (ksC it acc L itO ys ea (esOf es0 es1 q) ed extra) n t (osAt σ 0 ds) c p) (List.range (3 + extra.length))
   (.pure (.again c),[],some (it,itO') :: some (acc,listO (ys' σ) (ea' σ)) :: some (L,dictO (es1 (q' σ)) (ed' σ)) :: extra.map some,nn σ,kk σ)) ∧
  ∀ σ,(∀ (i : Nat) (d : OrcD),ds[i]? = some d → d.F (tr i σ) (σ i)) → G' (ys' σ)
noncomputable def LastR (w : World) (D U : Nat) (c : Code) (it acc L : Addr) (itO itE : Obj) (es : Array DictEntry) (extra : List (Nat × Obj)) (B : List (Code × Pos)) (n t : Nat) (p : Pos) (ys : Array Value) (ea : Nat) (ed : Nat) : Prop:=
 X4 fun (ds : List OrcD) (l : List St) (nn kk : (Nat → Sup) → Nat)=>(∀ j d,ds[j]? = some d → OrcOK w (D + 75) (U + 300) ds j d) ∧
  ∀ σ,Ends (runC w.params B l (ksC it acc L itO ys ea es ed extra) n t (osAt σ 0 ds) c p) (List.range (3 + extra.length))
    (.pure (.done .next),[],some (it,itE) :: some (acc,listO ys ea) :: some (L,dictO es ed) :: extra.map some,nn σ,kk σ)
theorem zipWith_same {need : List (Nat × Nat × Obj)} : need.zipWith (fun x o=>(x.2.1,o)) (need.map (·.2.2)) = need.map (·.2):=by
 induction need with
 | nil=>rfl
 | cons x l ih=>simp [ih]
theorem comp_any {w : World} {D U : Nat} {π : Nat → Sup} {c : Code} {ni na nL : Nat} {it acc L : Addr} {itO : Nat → Obj} {itE : Obj} {ys0 : Array Value} {ea0 : Nat} {es0 : Array DictEntry} {ed0 : Nat} {extra : List (Nat × Nat × Obj)} {es1 : Sup → Array DictEntry} (N : Nat) (G : Nat → Array Value → Prop)
 (hD : D + 75 ≤ 840) (hU : U + 300 ≤ 9000) (hc : c.isCaller = false) (hq : c.quiet = true) (hN : 0 < N) (hnum : (ni :: na :: nL :: extra.map (·.1)).Nodup) (hlen : extra.length < 4000) (hG0 : G 0 ys0)
 (he1 : ∀ (u : Sup) n t f g h,es1 ⟨n,t,fun i=>match i with | 0=>f | 1=>g | i + 2=>u.a (i + 2),u.v,fun _=>h,u.e,u.s⟩ = es1 u)
 (turn : ∀ B n t p k ys ea q ed,1106 ≤ n → k < N → (q = none ↔ k = 0) → (q = none → ys = ys0 ∧ ea = ea0 ∧ ed = ed0) → G k ys → TurnR w D U c it acc L (itO k) (itO (k + 1)) es0 es1 (extra.map (·.2)) B n t p ys ea q ed (G (k + 1)))
 (last : ∀ B n t p ys ea u ed,1106 ≤ n → G N ys → LastR w D U c it acc L (itO N) itE (es1 u) (extra.map (·.2)) B n t p ys ea ed) :
 OrcAny w D U π (compD c ni na nL it acc L (itO 0) itE ys0 ea0 es0 ed0 extra es1 (G N)):=by
 have hadd : 3 + extra.length = (needC ni na nL it acc L (itO 0) ys0 ea0 es0 ed0 extra).length:=by simp [needC];omega
 have hks : ∀ k (d : CompSt),(updOf (needC ni na nL it acc L (itO 0) ys0 ea0 es0 ed0 extra) (itO k :: listO d.ys d.ea :: dictO (esOf es0 es1 d.q) d.ed :: extra.map (·.2.2))).map (·.2) = ksC it acc L (itO k) d.ys d.ea (esOf es0 es1 d.q) d.ed (extra.map (·.2)):=fun k d=>by
  show (it,itO k) :: (acc,listO d.ys d.ea) :: (L,dictO (esOf es0 es1 d.q) d.ed) :: (updOf extra (extra.map (·.2.2))).map (·.2) = _
  rw [updOf_same];rfl
 have hob : ∀ a b c,obsOf (needC ni na nL it acc L (itO 0) ys0 ea0 es0 ed0 extra) (a :: b :: c :: extra.map (·.2.2)) [] = some (it,a) :: some (acc,b) :: some (L,c) :: (extra.map (·.2)).map some:=fun a b c=>by
  unfold obsOf
  rw [List.append_nil]
  show some (it,a) :: some (acc,b) :: some (L,c) :: (extra.zipWith (fun x o=>(x.2.1,o)) (extra.map (·.2.2))).map some = _
  rw [zipWith_same]
 refine loopF_any (fs:=none) (δ:=CompSt) N (fun k d=>itO k :: listO d.ys d.ea :: dictO (esOf es0 es1 d.q) d.ed :: extra.map (·.2.2)) (fun k d=>(d.q = none ↔ k = 0) ∧ (d.q = none → d.ys = ys0 ∧ d.ea = ea0 ∧ d.ed = ed0) ∧ G k d.ys) ⟨ys0,ea0,none,ed0⟩ hD hU hc hq hnum (by rw [← hadd];omega) rfl ⟨by simp,fun _=>⟨rfl,rfl,rfl⟩,hG0⟩ (fun k d=>by simp [needC]) ?_ ?_
 ·intro B n t p k d hn lt hg
  obtain ⟨ds,l,ys',ea',ed',nn,kk,q',hds,hrun,hG⟩:=turn B n t p k d.ys d.ea d.q d.ed hn lt hg.1 hg.2.1 hg.2.2
  refine ⟨ds,l,fun σ=>⟨ys' σ,ea' σ,some (q' σ),ed' σ⟩,nn,kk,hds,fun σ=>?_,fun σ hf=>⟨by simp,by simp,hG σ hf⟩⟩
  rw [hks,hob,← hadd]
  have z:=hrun σ
  rw [List.length_map] at z
  exact z
 ·intro B n t p d hn hg
  obtain ⟨ys,ea,q,ed⟩:=d
  cases q with
  | none=>have : N = 0:=hg.1.mp rfl
          omega
  | some u=>
    obtain ⟨ds,l,nn,kk,hds,hrun⟩:=last B n t p ys ea u ed hn hg.2.2
    refine ⟨ds,l,[],fun σ=>⟨nn σ,kk σ,fun i=>match i with | 0=>ea | 1=>ed | i + 2=>u.a (i + 2),u.v,fun _=>ys,u.e,u.s⟩,hds,(fun _ h=>nomatch h),List.nodup_nil,fun σ=>⟨by simp [compF,needC],rfl,?_⟩,fun σ _=>hg.2.2⟩
    rw [List.append_nil,← hadd,hks]
    unfold compF
    rw [hob,he1]
    have z:=hrun σ
    rw [List.length_map] at z
    exact z
noncomputable def tR (P : Params) (B : List (Code × Pos)) (l : List St) (it acc L : Addr) (itO itO' : Obj) (ys : Array Value) (ea : Nat) (es : Array DictEntry) (ed : Nat) (extra : List (Nat × Obj)) (n t : Nat) (os : List Orc) (c : Code) (p : Pos)
 (ys' : Array Value) (ea' : Nat) (es' : Array DictEntry) (ed' : Nat) (nn kk : Nat) : Option RS × List Nat × Seen:=
 (runC P B l (ksC it acc L itO ys ea es ed extra) n t os c p,List.range (3 + extra.length),(.pure (.again c),[],some (it,itO') :: some (acc,listO ys' ea') :: some (L,dictO es' ed') :: extra.map some,nn,kk))
noncomputable def lR (P : Params) (B : List (Code × Pos)) (l : List St) (it acc L : Addr) (itO itE : Obj) (ys : Array Value) (ea : Nat) (es : Array DictEntry) (ed : Nat) (extra : List (Nat × Obj)) (n t : Nat) (os : List Orc) (c : Code) (p : Pos) (nn kk : Nat) : Option RS × List Nat × Seen:=
 (runC P B l (ksC it acc L itO ys ea es ed extra) n t os c p,List.range (3 + extra.length),(.pure (.done .next),[],some (it,itE) :: some (acc,listO ys ea) :: some (L,dictO es ed) :: extra.map some,nn,kk))
noncomputable def EndsR (x : Option RS × List Nat × Seen) : Prop:=Ends x.1 x.2.1 x.2.2
theorem Runs.at {l : List (Option RS × List Nat × Seen)} (h : Runs l) {x : Option RS × List Nat × Seen} (hx : x ∈ l) : EndsR x:=h.get hx
noncomputable def es1k (P : Params) (key : String) (u : Sup) : Array DictEntry:=#[E P key (u.a 2) (u.v 0)]
theorem comp1_any {w : World} {D U : Nat} {π : Nat → Sup} {c : Code} {key : String} {ni na nL : Nat} {it acc L : Addr} {itO : Nat → Obj} {itE : Obj} {ea0 : Nat} {ed0 : Nat} {extra : List (Nat × Nat × Obj)} (N : Nat) (G : Nat → Array Value → Prop)
 (hD : D + 75 ≤ 840) (hU : U + 300 ≤ 9000) (hc : c.isCaller = false) (hq : c.quiet = true) (hN : 0 < N) (hnum : (ni :: na :: nL :: extra.map (·.1)).Nodup) (hlen : extra.length < 4000) (hG0 : G 0 #[])
 (turn : ∀ B n t p k ys ea ed tw vw,1106 ≤ n → k < N → G k ys → X8 fun (ds : List OrcD) (l : List St) (ys' : (Nat → Sup) → Array Value) (ea' nn kk : (Nat → Sup) → Nat) (tk : Nat) (val : (Nat → Sup) → Value)=>(∀ j d,ds[j]? = some d → OrcOK w (D + 75) (U + 300) ds j d) ∧
  (k = 0 → ∀ σ,EndsR (tR w.params B l it acc L (itO k) (itO (k + 1)) ys ea #[] ed (extra.map (·.2)) n t (osAt σ 0 ds) c p (ys' σ) (ea' σ) #[E w.params key tk (val σ)] (ed + 1) (nn σ) (kk σ))) ∧
  (∀ σ,EndsR (tR w.params B l it acc L (itO k) (itO (k + 1)) ys ea #[E w.params key tw vw] ed (extra.map (·.2)) n t (osAt σ 0 ds) c p (ys' σ) (ea' σ) #[E w.params key tw (val σ)] ed (nn σ) (kk σ))) ∧
  ∀ σ,(∀ (i : Nat) (d : OrcD),ds[i]? = some d → d.F (tr i σ) (σ i)) → G (k + 1) (ys' σ))
 (last : ∀ B n t p ys ea es ed,1106 ≤ n → G N ys → X4 fun (ds : List OrcD) (l : List St) (nn kk : (Nat → Sup) → Nat)=>(∀ j d,ds[j]? = some d → OrcOK w (D + 75) (U + 300) ds j d) ∧
  ∀ σ,EndsR (lR w.params B l it acc L (itO N) itE ys ea es ed (extra.map (·.2)) n t (osAt σ 0 ds) c p (nn σ) (kk σ))) :
 OrcAny w D U π (compD c ni na nL it acc L (itO 0) itE #[] ea0 #[] ed0 extra (es1k w.params key) (G N)):=by
 refine comp_any N G hD hU hc hq hN hnum hlen hG0 (fun u n t f g h=>rfl) ?_ ?_
 ·intro B n t p k ys ea q ed hn lt hk _ hg
  cases q with
  | none=>
    have k0 : k = 0:=hk.mp rfl
    obtain ⟨ds,l,ys',ea',nn,kk,tk,val,hds,h1,_,hG⟩:=turn B n t p k ys ea ed 0 .none hn lt hg
    exact ⟨ds,l,ys',ea',fun _=>ed + 1,nn,kk,fun σ=>⟨0,0,fun _=>tk,fun _=>val σ,fun _=>#[],fun _=>#[],fun _=>#[]⟩,hds,h1 k0,hG⟩
  | some u=>
    obtain ⟨ds,l,ys',ea',nn,kk,tk,val,hds,_,h2,hG⟩:=turn B n t p k ys ea ed (u.a 2) (u.v 0) hn lt hg
    exact ⟨ds,l,ys',ea',fun _=>ed,nn,kk,fun σ=>⟨0,0,u.a,fun _=>val σ,fun _=>#[],fun _=>#[],fun _=>#[]⟩,hds,h2,hG⟩
 ·intro B n t p ys ea u ed hn hg
  exact last B n t p ys ea _ ed hn hg
theorem take_succ {α : Type} {l : List α} {k : Nat} (h : k < l.length) : l.take (k + 1) = l.take k ++ [l[k]]:=by
 rw [List.take_succ_eq_append_getElem h]
noncomputable def lawB : List Stmt:=fB (dig [52] pw.main.body)
noncomputable def sV : Stmt → PySem.Expr
 | .Assign (value:=v) ..=>v
 | .Return (value:=v) ..=>v.getD default
 | .If (test:=t) ..=>t
 | .For (iter:=i) ..=>i
 | _=>default
noncomputable def eA (n : Nat) : PySem.Expr → PySem.Expr
 | .Call (args:=a) ..=>a.getD n default
 | _=>default
noncomputable def lawEnv (names : List (Str × NameKind)) (cells : List (Str × Addr)) (L fr : Addr) : Env:=⟨⟨.function,names,false,false,[]⟩,L,3,cells,q "law.<locals>.",none,r 1104,some fr,0⟩
noncomputable def tenW : List String:=["ab","bb","a","b","","it's b","a*","*b","??","[!a]*"]
theorem at_three {a b c : OrcD} {Q : OrcD → Prop} (ha : Q a) (hb : Q b) (hc : Q c) : ∀ d ∈ [a,b,c],Q d:=fun d h=>by
 simp only [List.mem_cons,List.not_mem_nil,or_false] at h
 rcases h with rfl | rfl | rfl <;> assumption
theorem at_two {a b : OrcD} {Q : OrcD → Prop} (ha : Q a) (hb : Q b) : ∀ d ∈ [a,b],Q d:=fun d h=>by
 simp only [List.mem_cons,List.not_mem_nil,or_false] at h
 rcases h with rfl | rfl <;> assumption
noncomputable def e2 : PySem.Expr:=eA 0 (eA 0 (sV (nth lawB 2)))
noncomputable def env2 (L fr : Addr) : Env:=lawEnv [(q ".0",.local),(q "word",.local),(q "quote",.globalImplicit)] [] L fr
noncomputable def c2 (it acc L fr : Addr) : Code:=.compLoop e2 0 (.ref it) (.ref acc) (env2 L fr)
noncomputable def l2 : List St:=[G 2 0x14,.orc,G 13 0x106066,.orc,G 1 1,.orc]
noncomputable def l2e : List St:=[G 2 0x14,.orc,G 1 0x19]
noncomputable def ds2 (src it acc : Addr) (xs ys : Array Value) (ex ea k : Nat) (x y : String) (tx : Nat) : List OrcD:=[nextD 0 3 it src xs ex k (sv x tx),quoteD x y fun _=>tx,appD 1 acc ys ea fun π=>sv y ((π 1).a 0)]
theorem runs2 (P : Params) (B : List (Code × Pos)) (n t : Nat) (σ : Nat → Sup) (p : Pos) (src it acc L fr : Addr) (xs ys : Array Value) (ex ea k ed tx tw : Nat) (x y : String) (vw : Value) (es : Array DictEntry) : Runs [
 tR P B l2 it acc L (iterO src k) (iterO src (k + 1)) ys ea #[] ed [(src,listO xs ex)] n t (osAt σ 0 (ds2 src it acc xs ys ex ea k x y tx)) (c2 it acc L fr) p (ys.push (sv y ((σ 1).a 0))) ((σ 2).a 0) #[E P "word" t (sv x tx)] (ed + 1) (σ 1).n (σ 1).t,
 tR P B l2 it acc L (iterO src k) (iterO src (k + 1)) ys ea #[E P "word" tw vw] ed [(src,listO xs ex)] n t (osAt σ 0 (ds2 src it acc xs ys ex ea k x y tx)) (c2 it acc L fr) p (ys.push (sv y ((σ 1).a 0))) ((σ 2).a 0) #[E P "word" tw (sv x tx)] ed (σ 1).n (σ 1).t,
 lR P B l2e it acc L (iterO src k) (iterEnd k) ys ea es ed [(src,listO xs ex)] n t (osAt σ 0 [endD 0 3 it src xs ex k]) (c2 it acc L fr) p (σ 0).n (σ 0).t]:=by unfold Runs;kernel_rfl
theorem comp2_ok {w : World} {D U : Nat} {π : Nat → Sup} (hD : D ≤ 690) (hU : U ≤ 8400) {ns ni na nL : Nat} {src it acc L fr : Addr} {xs : Array Value} {ex ea0 ed0 : Nat} {ls : List String} (hx : 0 < xs.size) (hw : Ws ls xs) (hl : ∀ x ∈ ls,x ∈ tenW) (hsz : xs.size ≤ sizeLine)
 (hn : [ni,na,nL,ns].Nodup) : OrcAt w D U π (compD (.compStart e2 0 (.ref it) (.ref acc) (env2 L fr)) ni na nL it acc L (iterO src 0) (iterEnd xs.size) #[] ea0 #[] ed0 [(ns,src,listO xs ex)] (es1k w.params "word") (fun ys=>Ws ((ls.map qt).take xs.size) ys)):=by
 refine (start_any (by kernel_rfl) (self_list (l:=src) (k:=0) (ni:=ni) (.head _)) (comp1_any xs.size (itO:=iterO src) (fun k ys=>Ws ((ls.map qt).take k) ys) (by omega) (by omega) rfl rfl hx hn (by simp) (by simpa using Ws.nil) ?_ ?_)).at
 ·intro B n t p k ys ea ed tw vw hn lt hg
  have lt' : k < ls.length:=by rw [← hw.1];exact lt
  obtain ⟨tx,hx⟩:=hw.2 k ls[k] (List.getElem?_eq_getElem lt')
  have z:=fun σ=>runs2 w.params B n t σ p src it acc L fr xs ys ex ea k ed tx tw ls[k] (qt ls[k]) vw #[]
  refine ⟨ds2 src it acc xs ys ex ea k ls[k] (qt ls[k]) tx,l2,fun σ=>ys.push (sv (qt ls[k]) ((σ 1).a 0)),fun σ=>(σ 2).a 0,fun σ=>(σ 1).n,fun σ=>(σ 1).t,t,fun _=>sv ls[k] tx,orcs_all ?_,fun _ σ=>(z σ).at (.head _),fun σ=>(z σ).at (.tail _ (.head _)),fun σ _=>?_⟩
  ·exact at_three (fun π=>nextD_ok hx) (fun π=>quote_at (by omega) (by omega) (hl _ (List.getElem_mem lt'))) (fun π=>appD_ok (by
    rw [hg.1]
    have : ((ls.map qt).take k).length ≤ k:=by simp;omega
    omega))
  ·rw [take_succ (by simpa using lt'),List.getElem_map]
   exact hg.push _ _
 ·intro B n t p ys ea es ed hn hg
  exact ⟨_,l2e,fun σ=>(σ 0).n,fun σ=>(σ 0).t,one_ok fun π=>endD_ok (by simp),fun σ=>(runs2 w.params B n t σ p src it acc L fr xs ys ex ea xs.size ed 0 0 "" "" .none es).at (.tail _ (.tail _ (.head _)))⟩
noncomputable def modD (a : Int) (ta : Nat) (tb : (Nat → Sup) → Nat) (m : Int) : OrcD:=⟨fun π=>.call (.builtin "int.__mod__") ⟨[.int a ta,.int 6 (tb π)],[]⟩,fun _=>[],fun _ u=>.ok (.ret (.int m (u.a 0))),fun _ _=>[],fun _ _=>[],fun _ u=>some (u.n,u.t),fun _ _=>True,fun _=>none,0⟩
theorem modD_ok {w : World} {D U : Nat} {π : Nat → Sup} {a m : Int} {ta : Nat} {tb : (Nat → Sup) → Nat} (hm : a % 6 = m) : OrcAt w D U π (modD a ta tb m):=by
 refine OrcAt.of_code (fun s ho hz hp=>?_)
 refine any_of_gives F.slot_int_mod (typeIs_int _ _ _) F.entry_int_mod (F.args_int_mod_2 _ _) (Gives.at (P:=fun _=>True) (AutoIntG6.int___mod___int_int_1 a ta 6 (tb π) (by decide))) trivial ?_
 have hf : a.fmod 6 = m:=by rw [Int.fmod_eq_emod_of_nonneg a (by decide)];exact hm
 rw [hf]
 exact ⟨⟨s.heap.objs.size,s.toks + 1,fun _=>s.toks,fun _=>.none,fun _=>#[],fun _=>#[],fun _=>#[]⟩,rfl,⟨rfl,rfl,rfl,Nat.le_refl _,fun b v h _=>h,(fun _ h=>nomatch h),(fun _ h=>nomatch h),List.nodup_nil,⟨rfl,rfl⟩⟩,trivial⟩
noncomputable def e1 : PySem.Expr:=sV (nth lawB 0)
noncomputable def env1 (L fr : Addr) : Env:=lawEnv [(q ".0",.local),(q "x",.local)] [] L fr
noncomputable def c1 (it acc L fr : Addr) : Code:=.compLoop e1 0 (.ref it) (.ref acc) (env1 L fr)
noncomputable def l1 : List St:=[G 2 0x14,.orc,G 19 0x1666,.orc,G 11 0x188888,.orc]
noncomputable def l1e : List St:=[G 2 0x14,.orc,G 1 0x19]
noncomputable def six : List String:=["a","ab","b","it's b","","bb"]
noncomputable def ds1 (src it acc : Addr) (xs ys : Array Value) (ex ea k : Nat) (a : Int) (ta t : Nat) (m : Nat) (x : String) (tx : Nat) : List OrcD:=[nextD 0 3 it src xs ex k (.int a ta),modD a ta (fun _=>t + 7) (Int.ofNat m),appD 1 acc ys ea fun π=>sv x tx]
theorem runs1 (P : Params) (B : List (Code × Pos)) (n t : Nat) (σ : Nat → Sup) (p : Pos) (src it acc L fr : Addr) (xs ys : Array Value) (ex ea k ed ta tw : Nat) (a : Int) (vw : Value) (es : Array DictEntry) : Runs (
 lR P B l1e it acc L (iterO src k) (iterEnd k) ys ea es ed [(src,listO xs ex)] n t (osAt σ 0 [endD 0 3 it src xs ex k]) (c1 it acc L fr) p (σ 0).n (σ 0).t ::
 [0,1,2,3,4,5].flatMap fun m=>[
 tR P B l1 it acc L (iterO src k) (iterO src (k + 1)) ys ea #[] ed [(src,listO xs ex)] n t (osAt σ 0 (ds1 src it acc xs ys ex ea k a ta t m (six.getD m "") (t + (m + 1)))) (c1 it acc L fr) p (ys.push (sv (six.getD m "") (t + (m + 1)))) ((σ 2).a 0) #[E P "x" t (.int a ta)] (ed + 1) (σ 1).n (σ 1).t,
 tR P B l1 it acc L (iterO src k) (iterO src (k + 1)) ys ea #[E P "x" tw vw] ed [(src,listO xs ex)] n t (osAt σ 0 (ds1 src it acc xs ys ex ea k a ta t m (six.getD m "") (t + (m + 1)))) (c1 it acc L fr) p (ys.push (sv (six.getD m "") (t + (m + 1)))) ((σ 2).a 0) #[E P "x" tw (.int a ta)] ed (σ 1).n (σ 1).t]):=by unfold Runs;kernel_rfl
noncomputable def Is (l : List Int) (ys : Array Value) : Prop:=ys.size = l.length ∧ ∀ (i : Nat) (x : Int),l[i]? = some x → ∃ t,ys[i]? = some (.int x t)
noncomputable def wd (a : Int) : String:=six.getD (a % 6).toNat ""
theorem comp1_ok {w : World} {D U : Nat} {π : Nat → Sup} (hD : D ≤ 690) (hU : U ≤ 8400) {ns ni na nL : Nat} {src it acc L fr : Addr} {xs : Array Value} {ex ea0 ed0 : Nat} {ls : List Int} (hx : 0 < xs.size) (hw : Is ls xs) (hsz : xs.size ≤ sizeLine)
 (hn : [ni,na,nL,ns].Nodup) : OrcAt w D U π (compD (.compStart e1 0 (.ref it) (.ref acc) (env1 L fr)) ni na nL it acc L (iterO src 0) (iterEnd xs.size) #[] ea0 #[] ed0 [(ns,src,listO xs ex)] (es1k w.params "x") (fun ys=>Ws ((ls.map wd).take xs.size) ys)):=by
 refine (start_any (by kernel_rfl) (self_list (l:=src) (k:=0) (ni:=ni) (.head _)) (comp1_any xs.size (itO:=iterO src) (fun k ys=>Ws ((ls.map wd).take k) ys) (by omega) (by omega) rfl rfl hx hn (by simp) (by simpa using Ws.nil) ?_ ?_)).at
 ·intro B n t p k ys ea ed tw vw hn lt hg
  have lt' : k < ls.length:=by rw [← hw.1];exact lt
  obtain ⟨a,ea'⟩ : ∃ a,a = ls[k]:=⟨_,rfl⟩
  obtain ⟨ta,hx⟩:=hw.2 k ls[k] (List.getElem?_eq_getElem lt')
  rw [← ea'] at hx
  obtain ⟨m,hm,h6⟩ : ∃ m : Nat,a % 6 = Int.ofNat m ∧ m < 6:=⟨(a % 6).toNat,by simp only [Int.ofNat_eq_natCast];omega,by omega⟩
  have hmem : m ∈ [0,1,2,3,4,5]:=List.mem_range.mpr h6
  have z:=fun σ=>runs1 w.params B n t σ p src it acc L fr xs ys ex ea k ed ta tw a vw #[]
  refine ⟨ds1 src it acc xs ys ex ea k a ta t m (six.getD m "") (t + (m + 1)),l1,fun σ=>ys.push (sv (six.getD m "") (t + (m + 1))),fun σ=>(σ 2).a 0,fun σ=>(σ 1).n,fun σ=>(σ 1).t,t,fun _=>.int a ta,orcs_all ?_,fun _ σ=>(z σ).at (.tail _ (List.mem_flatMap.mpr ⟨m,hmem,.head _⟩)),fun σ=>(z σ).at (.tail _ (List.mem_flatMap.mpr ⟨m,hmem,.tail _ (.head _)⟩)),fun σ _=>?_⟩
  ·exact at_three (fun π=>nextD_ok hx) (fun π=>modD_ok hm) (fun π=>appD_ok (by
    rw [hg.1]
    have : ((ls.map wd).take k).length ≤ k:=by simp;omega
    omega))
  ·rw [take_succ (by simpa using lt'),List.getElem_map,← ea']
   rw [show wd a = six.getD m "" by unfold wd;rw [hm];rfl]
   exact hg.push _ _
 ·intro B n t p ys ea es ed hn hg
  exact ⟨_,l1e,fun σ=>(σ 0).n,fun σ=>(σ 0).t,one_ok fun π=>endD_ok (by simp),fun σ=>(runs1 w.params B n t σ p src it acc L fr xs ys ex ea xs.size ed 0 0 0 .none es).at (.head _)⟩
theorem any_of_meets {w : World} {A : Around} {T : String} {name : Str} {id : String} {B : Builtin} {self : Value} {rest : List Value} {S : PySem.Spec} {R : Result → Shared → Prop} {s : Shared}
 (slot : Slot T name id) (hT : s.TypeIs self T) (entry : entryFor table id = some B) (args : argsOk id ⟨self :: rest,[]⟩) (g : Meets (B ⟨self :: rest,[]⟩) S)
 (h : S A R s) : codeAny (model pw w) A (.call (.builtin id) ⟨self :: rest,[]⟩) R s:=
 codeAny_call_builtin slot.plain entry (slot.check _ _ _ _ _ _ _ _ hT args (g pw w A R s h))
noncomputable def addD (na nb : Nat) (a b : Addr) (xs ys : Array Value) (ex ey : Nat) : OrcD:=
 ⟨fun _=>.call (.builtin "list.__add__") ⟨[.ref a,.ref b],[]⟩,fun _=>[(na,a,listO xs ex),(nb,b,listO ys ey)],fun _ u=>.ok (.ret (.ref (u.a 0))),fun _ _=>[],fun _ u=>[(u.a 0,listO (xs ++ ys) 0)],fun _ u=>some (u.n,u.t),fun _ u=>u.n = u.a 0 + 1,fun _=>none,0⟩
theorem addD_ok {w : World} {D U : Nat} {π : Nat → Sup} {na nb : Nat} {a b : Addr} {xs ys : Array Value} {ex ey : Nat} (hsz : xs.size + ys.size ≤ sizeLine) : OrcAt w D U π (addD na nb a b xs ys ex ey):=by
 refine OrcAt.of_code (fun s ho hz hp=>?_)
 have h1 : s.heap.get? a = some (listO xs ex):=hp.get _ (.head _)
 have h2 : s.heap.get? b = some (listO ys ey):=hp.get _ (.tail _ (.head _))
 refine any_of_meets PySem.F.slot_list_add ⟨_,h1,rfl⟩ PySem.F.entry_list_add (PySem.F.args_list_add_2 _ _) (PySem.AutoSeq1.list___add___list_list_0 a xs ex b ys ey hsz) ⟨h1,h2,?_⟩
 have q : (s.heap.push (listO (xs ++ ys) 0)).objs.size = s.heap.objs.size + 1:=Heap.size_push ..
 refine ⟨⟨s.heap.objs.size + 1,s.toks,fun _=>s.heap.objs.size,fun _=>.none,fun _=>#[],fun _=>#[],fun _=>#[]⟩,rfl,⟨rfl,rfl,rfl,by show _ ≤ (s.heap.push (listO (xs ++ ys) 0)).objs.size;omega,fun b v h _=>Heap.get?_push_of_some _ h,(fun _ h=>nomatch h),fun x hx=>?_,by simp [OrcD.at,addD],⟨q,rfl⟩⟩,rfl⟩
 rcases List.mem_singleton.mp hx with rfl
 exact ⟨Nat.le_refl _,Heap.get?_push_size _ rfl⟩
noncomputable abbrev sliceO (vl vu vs : Value) : Obj:=⟨.type "slice",none,.fields #[vl,vu,vs],#[]⟩
noncomputable def sliceD (nl nsl : Nat) (l sl : Addr) (xs : Array Value) (ex : Nat) (vl vu vs : (Nat → Sup) → Value) (lo hi st : Option Int) : OrcD:=
 ⟨fun _=>.call (.builtin "list.__getitem__") ⟨[.ref l,.ref sl],[]⟩,fun π=>[(nl,l,listO xs ex),(nsl,sl,sliceO (vl π) (vu π) (vs π))],fun _ u=>.ok (.ret (.ref (u.a 0))),fun _ _=>[],fun _ u=>[(u.a 0,listO (slicePick xs lo hi st) 0)],fun _ u=>some (u.n,u.t),fun _ u=>u.n = u.a 0 + 1,fun _=>none,0⟩
theorem sliceD_ok {w : World} {D U : Nat} {π : Nat → Sup} {nl nsl : Nat} {l sl : Addr} {xs : Array Value} {ex : Nat} {vl vu vs : (Nat → Sup) → Value} {lo hi st : Option Int} (pl : IsPart (vl π) lo) (pu : IsPart (vu π) hi) (ps : IsPart (vs π) st) (h0 : st ≠ some 0) (hsz : xs.size ≤ sizeLine) :
 OrcAt w D U π (sliceD nl nsl l sl xs ex vl vu vs lo hi st):=by
 refine OrcAt.of_code (fun s ho hz hp=>?_)
 have h1 : s.heap.get? l = some (listO xs ex):=hp.get _ (.head _)
 have h2 : s.heap.get? sl = some (sliceO (vl π) (vu π) (vs π)):=hp.get _ (.tail _ (.head _))
 have hTs : s.TypeIs (.ref sl) "slice":=⟨_,h2,rfl⟩
 have hTl : s.TypeIs (.ref l) "list":=⟨_,h1,rfl⟩
 refine codeAny_call_builtin slot_list_getitem.plain entry_list_getitem (slot_list_getitem.check _ _ _ _ _ _ _ _ hTl (args_list_getitem _ _) ?_)
 show wpAny _ _ (Builtin.List.listSubscript? (.ref sl) >>= _) _ _ s
 refine wpAny_bind ?_
 unfold Builtin.List.listSubscript?
 refine wpAny_bind (wpAny_specialOf hTs slice_no_index ?_)
 simp only [Option.isNone_none,if_true]
 refine wpAny_pure ?_
 show wpAny _ _ (typeOf (.ref sl) >>= _) _ _ s
 refine wpAny_bind (wpAny_typeOf hTs ?_)
 rw [if_neg (by decide)]
 rw [listSliceParts_eq]
 have hstep : ¬ ((rawPart st == rawInt 0) = true):=by
  cases st with
  | none=>exact Bool.false_ne_true
  | some c=>
    intro hh
    have : c = 0:=by simpa [rawPart,rawInt] using hh
    exact h0 (by rw [this])
 refine wpAny_bind (wpAny_bind (wpAny_field h2 rfl (x:=vs π) rfl (wpAny_bind (wpAny_listPart ps ?_))))
 rw [if_neg hstep]
 refine wpAny_bind (wpAny_field h2 rfl (x:=vl π) rfl (wpAny_bind (wpAny_listPart pl ?_)))
 refine wpAny_bind (wpAny_field h2 rfl (x:=vu π) rfl (wpAny_bind (wpAny_listPart pu (wpAny_pure ?_))))
 refine wpAny_bind (m:=Builtin.List.listItems (.ref l)) ?_
 unfold Builtin.List.listItems
 refine wpAny_bind (wpAny_seqItems h1 rfl (wpAny_pure ?_))
 refine wpAny_bind (wpAny_of_eq (sliceIndices_raw lo hi st xs.size h0) ?_)
 have q : (s.heap.push (listO (slicePick xs lo hi st) 0)).objs.size = s.heap.objs.size + 1:=Heap.size_push ..
 refine wpAny_bind (wpAny_newObj_type (wpAny_pure ?_) (Nat.le_trans (slicePick_size_le xs lo hi st) hsz))
 refine ⟨⟨s.heap.objs.size + 1,s.toks,fun _=>s.heap.objs.size,fun _=>.none,fun _=>#[],fun _=>#[],fun _=>#[]⟩,rfl,⟨rfl,rfl,rfl,by show _ ≤ (s.heap.push (listO (slicePick xs lo hi st) 0)).objs.size;omega,fun b v h _=>Heap.get?_push_of_some _ h,(fun _ h=>nomatch h),fun x hx=>?_,by simp [OrcD.at,sliceD],⟨q,rfl⟩⟩,rfl⟩
 rcases List.mem_singleton.mp hx with rfl
 exact ⟨Nat.le_refl _,Heap.get?_push_size _ rfl⟩
theorem Ws.pairs : ∀ {l : List String} {ys : Array Value},Ws l ys → ∃ ts : List (Str × Tok),ys = (strValues ts).toArray ∧ ts.map (·.1) = l.map q:=by
 intro l ys h
 have key : ∀ (l : List String) (vs : List Value),vs.length = l.length → (∀ (i : Nat) (x : String),l[i]? = some x → ∃ t,vs[i]? = some (sv x t)) → ∃ ts : List (Str × Tok),vs = strValues ts ∧ ts.map (·.1) = l.map q:=by
  intro l
  induction l with
  | nil=>intro vs h1 h2;exact ⟨[],List.eq_nil_of_length_eq_zero (by simpa using h1),rfl⟩
  | cons x l ih=>
    intro vs h1 h2
    cases vs with
    | nil=>simp at h1
    | cons v vs=>
      obtain ⟨t,e⟩:=h2 0 x rfl
      obtain ⟨ts,e1,e2⟩:=ih vs (by simpa using h1) fun i y hy=>by simpa using h2 (i + 1) y (by simpa using hy)
      simp at e
      refine ⟨(q x,t) :: ts,?_,by simp [e2]⟩
      rw [e,e1];rfl
 obtain ⟨ts,e1,e2⟩:=key l ys.toList (by simpa using h.1) fun i x hx=>by simpa using h.2 i x hx
 exact ⟨ts,by rw [← e1],e2⟩
noncomputable def txt (ls : List String) : Str:=glued (q " ") (ls.map q)
noncomputable def joinD (nl : Nat) (l : Addr) (xs : Array Value) (ex : Nat) (ts : (Nat → Sup) → Nat) (ls : List String) : OrcD:=
 ⟨fun π=>.call (.builtin "str.join") ⟨[sv " " (ts π),.ref l],[]⟩,fun _=>[(nl,l,listO xs ex)],fun _ u=>.ok (.ret (.str (txt ls) (u.a 0))),fun _ _=>[],fun _ _=>[],fun _ u=>some (u.n,u.t),fun _ _=>True,fun _=>none,0⟩
theorem joinD_ok {w : World} {D U : Nat} {π : Nat → Sup} {nl : Nat} {l : Addr} {xs : Array Value} {ex : Nat} {ts : (Nat → Sup) → Nat} {ls : List String} (hw : Ws ls xs) (h2 : 2 ≤ ls.length) (hl : tooLong ((ls.map q).toArray.foldl (· + ·.length + (q " ").length) 0) = false) (hfit : (txt ls).length ≤ sizeLine) :
 OrcAt w D U π (joinD nl l xs ex ts ls):=by
 obtain ⟨ps,rfl,e2⟩:=hw.pairs
 refine OrcAt.of_code (fun s ho hz hp=>?_)
 have h1 : s.heap.get? l = some (listO (strValues ps).toArray ex):=hp.get _ (.head _)
 refine any_of_meets PySem.F.slot_str_join (typeIs_str _ _ _) PySem.F.entry_str_join (PySem.F.args_str_join_2 _ _) (meets_str_join_list (q " ") (ts π) l ps (by rw [e2];exact hl)) ⟨⟨_,h1,rfl,ex,rfl⟩,?_⟩
 have : joinMade (q " ") ps = .str (txt ls):=by
  have hlen : ps.length = ls.length:=by simpa using congrArg List.length e2
  match ps,hlen,e2 with
  | [],hlen,_=>simp at hlen;omega
  | [p],hlen,_=>simp at hlen;omega
  | a :: b :: r,_,e2=>
    show Made.str (glued (q " ") _) = _
    rw [e2];rfl
 rw [this]
 exact ⟨hfit,⟨⟨s.heap.objs.size,s.toks + 1,fun _=>s.toks,fun _=>.none,fun _=>#[],fun _=>#[],fun _=>#[]⟩,rfl,⟨rfl,rfl,rfl,Nat.le_refl _,fun b v h _=>h,(fun _ h=>nomatch h),(fun _ h=>nomatch h),List.nodup_nil,⟨rfl,rfl⟩⟩,trivial⟩⟩
noncomputable def lenD (nl : Nat) (l : Addr) (xs : Array Value) (ex : Nat) : OrcD:=
 ⟨fun _=>.call (.builtin "len") ⟨[.ref l],[]⟩,fun _=>[(nl,l,listO xs ex)],fun _ u=>.ok (.ret (.int (xs.size : Nat) (u.a 0))),fun _ _=>[],fun _ _=>[],fun _ u=>some (u.n,u.t),fun _ _=>True,fun _=>none,0⟩
theorem any_fn {w : World} {A : Around} {id : String} {b : Builtin} {args : List Value} {R : Result → Shared → Prop} {s : Shared} (hk : builtinKind id = none) (hp : plainId id = true) (hb : entryFor table id = some b) (ha : argsOk id ⟨args,[]⟩)
 (hc : wpAny (model pw w) A.in1 (b ⟨args,[]⟩) (fun fin s'=>∃ v,fin = .done (.ret v) ∧ R (.ok (.ret v)) s') (fun e s'=>R (.error e) s') s) : codeAny (model pw w) A (.call (.builtin id) ⟨args,[]⟩) R s:=by
 refine codeAny_call_builtin hp hb ?_
 have hfin:=wpAny_mono hc (Q':=fun fin s'=>match fin with
  | .done f=>R (.ok f) s'
  | .again c'=>c'.quiet = true ∧ codeAny (model pw w) A c' R s') (fun fin s' h'=>by obtain ⟨v,rfl,hv⟩:=h';exact hv) fun _ _ h'=>h'
 simp only [checkBuiltinCall,hk]
 cases hsig : Manifest.signature? id with
 | none=>exact wpAny_pure hfin
 | some sig=>
   simp only [argsOk,hsig] at ha
   have h2 : Bind.checkArgs id sig ⟨args,[]⟩ = pure ():=ha
   show wpAny _ A.in1 (Bind.checkArgs id sig ⟨args,[]⟩) _ _ s
   rw [h2];exact wpAny_pure hfin
theorem lenD_ok {w : World} {D U : Nat} {π : Nat → Sup} {nl : Nat} {l : Addr} {xs : Array Value} {ex : Nat} (hsz : (xs.size : Int) < 2 ^ 63) : OrcAt w D U π (lenD nl l xs ex):=by
 refine OrcAt.of_code (fun s ho hz hp=>?_)
 have h1 : s.heap.get? l = some (listO xs ex):=hp.get _ (.head _)
 have hTl : s.TypeIs (.ref l) "list":=⟨_,h1,rfl⟩
 refine any_fn kind_len plain_len entry_len (args_len1 _) ?_
 unfold Builtin.«len»
 refine wpAny_bind (m:=oneArg "len" _) (wpAny_pure ?_)
 refine wpAny_bind (m:=callSpecial? (.ref l) (Str.ofString "__len__")) (wpAny_callSpecial?_slot (name:=Str.ofString "__len__") hTl slot_list_len
  (wpAny_call_entry slot_list_len hTl entry_list_len ?_ (args_list_len _)))
 show wpAny _ _ (do retInt (← seqSize l)) _ _ s
 unfold seqSize
 refine wpAny_bind (wpAny_bind (wpAny_load h1 ?_))
 refine wpAny_pure (wpAny_bind (wpAny_mkInt (wpAny_pure ⟨_,rfl,?_⟩)))
 refine wpAny_bind (wpAny_holding (wpAny_pure ?_))
 refine wpAny_bind (wpAny_letGo ?_)
 show wpAny _ _ (if ((xs.size : Nat) : Int) < 0 then _ else _) _ _ _
 rw [if_neg (by omega)]
 show wpAny _ _ (if ((xs.size : Nat) : Int) ≥ 2 ^ 63 then _ else _) _ _ _
 rw [if_neg (by omega)]
 exact wpAny_bind (wpAny_mkInt (wpAny_pure ⟨_,rfl,⟨s.heap.objs.size,s.toks + 2,fun _=>s.toks + 1,fun _=>.none,fun _=>#[],fun _=>#[],fun _=>#[]⟩,rfl,⟨rfl,rfl,rfl,Nat.le_refl _,fun b v h _=>h,(fun _ h=>nomatch h),(fun _ h=>nomatch h),List.nodup_nil,⟨rfl,rfl⟩⟩,trivial⟩))
end
section
open PySem.Builtin PySem.Builtin.Str PySem.MeetsSeq PySem.SeqAt PySem.SeqRoads2
noncomputable def cmpD (id : String) (na nb : Nat) (a b : Addr) (xs ys : Array Value) (ex ey : Nat) (res : Bool) : OrcD:=
 ⟨fun _=>.call (.builtin id) ⟨[.ref a,.ref b],[]⟩,fun _=>[(na,a,listO xs ex),(nb,b,listO ys ey)],fun _ _=>.ok (.ret (.bool res)),fun _ _=>[],fun _ _=>[],fun _ _=>none,fun _ _=>True,fun _=>none,0⟩
theorem post_same {d : OrcD} {π : Nat → Sup} {u : Sup} {s : Shared} (h1 : d.upd π u = []) (h2 : d.out π u = []) (h3 : d.sz π u = none) : OrcPost (d.at π u) s s:=by
 refine ⟨rfl,rfl,rfl,Nat.le_refl _,fun b v h _=>h,fun x hx=>?_,fun x hx=>?_,?_,?_⟩
 ·rw [show (d.at π u).upd = [] from h1] at hx;cases hx
 ·rw [show (d.at π u).out = [] from h2] at hx;cases hx
 ·rw [show (d.at π u).out = [] from h2];exact List.nodup_nil
 ·rw [show (d.at π u).sz = none from h3];exact ⟨rfl,rfl⟩
theorem Ws.eqAt {l : List String} {xs ys : Array Value} (h1 : Ws l xs) (h2 : Ws l ys) (A : Around) (s : Shared) : ∀ j (q1 : j < xs.size) (q2 : j < ys.size),EqAt A s xs[j] ys[j] true:=by
 intro j q1 q2
 have lt : j < l.length:=by rw [← h1.1];exact q1
 obtain ⟨t,e1⟩:=h1.2 j l[j] (List.getElem?_eq_getElem lt)
 obtain ⟨u,e2⟩:=h2.2 j l[j] (List.getElem?_eq_getElem lt)
 rw [Array.getElem?_eq_getElem q1] at e1
 rw [Array.getElem?_eq_getElem q2] at e2
 rw [Option.some.inj e1,Option.some.inj e2]
 have z:=SeqRoads2.EqGives.str (q l[j]) (q l[j]) t u
 rw [show ((q l[j]).cps.toList == (q l[j]).cps.toList) = true by simp] at z
 intro prog w E Q h
 exact z prog w A E s Q h
theorem eqD_ok {w : World} {D U : Nat} {π : Nat → Sup} {na nb : Nat} {a b : Addr} {xs ys : Array Value} {ex ey : Nat} {l : List String} (h1 : Ws l xs) (h2 : Ws l ys) : OrcAt w D U π (cmpD "list.__eq__" na nb a b xs ys ex ey true):=by
 refine OrcAt.of_code (fun s ho hz hp=>?_)
 have g1 : s.heap.get? a = some (listO xs ex):=hp.get _ (.head _)
 have g2 : s.heap.get? b = some (listO ys ey):=hp.get _ (.tail _ (.head _))
 refine any_of_meets PySem.F.slot_list_eq ⟨_,g1,rfl⟩ PySem.F.entry_list_eq (PySem.F.args_list_eq_2 _ _) (list_eqAt a b xs ys ex ey none none #[] #[] (by rw [h1.1,h2.1]) (fun _=>true)) ⟨g1,g2,h1.eqAt h2 _ _,?_⟩
 refine ⟨default,?_,post_same rfl rfl rfl,trivial⟩
 simp [cmpD]
theorem neD_ok {w : World} {D U : Nat} {π : Nat → Sup} {na nb : Nat} {a b : Addr} {xs ys : Array Value} {ex ey : Nat} {l : List String} (h1 : Ws l xs) (h2 : Ws l ys) : OrcAt w D U π (cmpD "list.__ne__" na nb a b xs ys ex ey false):=by
 refine OrcAt.of_code (fun s ho hz hp=>?_)
 have g1 : s.heap.get? a = some (listO xs ex):=hp.get _ (.head _)
 have g2 : s.heap.get? b = some (listO ys ey):=hp.get _ (.tail _ (.head _))
 refine any_of_meets PySem.F.slot_list_ne ⟨_,g1,rfl⟩ PySem.F.entry_list_ne (PySem.F.args_list_ne_2 _ _) (list_neAt a b xs ys ex ey none none #[] #[] (by rw [h1.1,h2.1]) (fun _=>true)) ⟨g1,g2,h1.eqAt h2 _ _,?_⟩
 refine ⟨default,?_,post_same rfl rfl rfl,trivial⟩
 simp [cmpD]
noncomputable def same (a b : String) : Bool:=(q a).cps.toList == (q b).cps.toList
noncomputable def isW (x : String) (v : Value) : Bool:=match v with
 | .str y _=>y.cps.toList == (q x).cps.toList
 | _=>false
theorem Ws.list {l : List String} {xs : Array Value} (h : Ws l xs) : ∃ ts : List Nat,xs.toList = (l.zip ts).map (fun p=>sv p.1 p.2) ∧ ts.length = l.length:=by
 have key : ∀ (l : List String) (vs : List Value),vs.length = l.length → (∀ (i : Nat) (x : String),l[i]? = some x → ∃ t,vs[i]? = some (sv x t)) → ∃ ts : List Nat,vs = (l.zip ts).map (fun p=>sv p.1 p.2) ∧ ts.length = l.length:=by
  intro l
  induction l with
  | nil=>intro vs h1 h2;exact ⟨[],List.eq_nil_of_length_eq_zero (by simpa using h1),rfl⟩
  | cons x l ih=>
    intro vs h1 h2
    cases vs with
    | nil=>simp at h1
    | cons v vs=>
      obtain ⟨t,e⟩:=h2 0 x rfl
      obtain ⟨ts,e1,e2⟩:=ih vs (by simpa using h1) fun i y hy=>by simpa using h2 (i + 1) y (by simpa using hy)
      simp at e
      refine ⟨t :: ts,?_,by simp [e2]⟩
      rw [e,e1];rfl
 exact key l xs.toList (by simpa using h.1) fun i x hx=>by simpa using h.2 i x hx
theorem any_words : ∀ (l : List String) (ts : List Nat) (x : String),ts.length = l.length → ((l.zip ts).map (fun p=>sv p.1 p.2)).any (isW x) = l.any (same · x)
 | [],ts,x,_=>by simp
 | a :: l,[],x,h=>by simp at h
 | a :: l,t :: ts,x,h=>by
   have:=any_words l ts x (by simpa using h)
   simp only [List.zip_cons_cons,List.map_cons,List.any_cons,this]
   rfl
theorem Ws.any {l : List String} {xs : Array Value} (h : Ws l xs) (x : String) : xs.any (isW x) = l.any (same · x):=by
 obtain ⟨ts,e1,e2⟩:=h.list
 rw [← Array.any_toList,e1]
 exact any_words l ts x e2
theorem Ws.gives {l : List String} {xs : Array Value} (h : Ws l xs) (x : String) (t : Nat) : ∀ y,y ∈ xs → EqGives y (sv x t) (isW x y):=by
 intro y hy
 obtain ⟨ts,e1,e2⟩:=h.list
 have hm : y ∈ xs.toList:=Array.mem_toList_iff.mpr hy
 rw [e1] at hm
 obtain ⟨p,_,rfl⟩:=List.mem_map.mp hm
 exact EqGives.str _ _ _ _
noncomputable def inD (nl : Nat) (l : Addr) (xs : Array Value) (ex : Nat) (x : String) (tx : (Nat → Sup) → Nat) (res : Bool) : OrcD:=
 ⟨fun π=>.call (.builtin "list.__contains__") ⟨[.ref l,sv x (tx π)],[]⟩,fun _=>[(nl,l,listO xs ex)],fun _ _=>.ok (.ret (.bool res)),fun _ _=>[],fun _ _=>[],fun _ _=>none,fun _ _=>True,fun _=>none,0⟩
theorem inD_ok {w : World} {D U : Nat} {π : Nat → Sup} {nl : Nat} {l : Addr} {xs : Array Value} {ex : Nat} {x : String} {tx : (Nat → Sup) → Nat} {ls : List String} {res : Bool} (hw : Ws ls xs) (hr : ls.any (same · x) = res) : OrcAt w D U π (inD nl l xs ex x tx res):=by
 refine OrcAt.of_code (fun s ho hz hp=>?_)
 have g1 : s.heap.get? l = some (listO xs ex):=hp.get _ (.head _)
 refine any_of_meets PySem.F.slot_list_contains ⟨_,g1,rfl⟩ PySem.F.entry_list_contains (PySem.F.args_list_contains_2 _ _) (list_contains l xs ex (sv x (tx π)) (isW x) (hw.gives x _)) ⟨g1,?_⟩
 refine ⟨default,?_,post_same rfl rfl rfl,trivial⟩
 rw [hw.any x,hr];rfl
theorem count_words : ∀ (l : List String) (ts : List Nat) (x : String),ts.length = l.length → ((l.zip ts).map (fun p=>sv p.1 p.2)).countP (isW x) = l.countP (same · x)
 | [],ts,x,_=>by simp
 | a :: l,[],x,h=>by simp at h
 | a :: l,t :: ts,x,h=>by
   have:=count_words l ts x (by simpa using h)
   simp only [List.zip_cons_cons,List.map_cons,List.countP_cons,this]
   rfl
noncomputable def countD (nl : Nat) (l : Addr) (xs : Array Value) (ex : Nat) (x : String) (tx : (Nat → Sup) → Nat) (res : Nat) : OrcD:=
 ⟨fun π=>.call (.builtin "list.count") ⟨[.ref l,sv x (tx π)],[]⟩,fun _=>[(nl,l,listO xs ex)],fun _ u=>.ok (.ret (.int (res : Nat) (u.a 0))),fun _ _=>[],fun _ _=>[],fun _ u=>some (u.n,u.t),fun _ _=>True,fun _=>none,0⟩
theorem countD_ok {w : World} {D U : Nat} {π : Nat → Sup} {nl : Nat} {l : Addr} {xs : Array Value} {ex : Nat} {x : String} {tx : (Nat → Sup) → Nat} {ls : List String} {res : Nat} (hw : Ws ls xs) (hr : ls.countP (same · x) = res) : OrcAt w D U π (countD nl l xs ex x tx res):=by
 refine OrcAt.of_code (fun s ho hz hp=>?_)
 have g1 : s.heap.get? l = some (listO xs ex):=hp.get _ (.head _)
 refine any_of_meets PySem.F.slot_list_count ⟨_,g1,rfl⟩ PySem.F.entry_list_count (PySem.F.args_list_count_2 _ _) (list_count l xs ex (sv x (tx π)) (isW x) (hw.gives x _)) ⟨g1,?_⟩
 obtain ⟨ts,e1,e2⟩:=hw.list
 refine ⟨⟨s.heap.objs.size,s.toks + 1,fun _=>s.toks,fun _=>.none,fun _=>#[],fun _=>#[],fun _=>#[]⟩,?_,⟨rfl,rfl,rfl,Nat.le_refl _,fun b v h _=>h,(fun _ h=>nomatch h),(fun _ h=>nomatch h),List.nodup_nil,⟨rfl,rfl⟩⟩,trivial⟩
 rw [e1,count_words ls ts x e2,hr];rfl
noncomputable def valD (c : (Nat → Sup) → Code) (v : (Nat → Sup) → Value) : OrcD:=⟨c,fun _=>[],fun π _=>.ok (.ret (v π)),fun _ _=>[],fun _ _=>[],fun _ _=>none,fun _ _=>True,fun _=>none,0⟩
noncomputable def newIntD (c : (Nat → Sup) → Code) (i : Int) : OrcD:=⟨c,fun _=>[],fun _ u=>.ok (.ret (.int i (u.a 0))),fun _ _=>[],fun _ _=>[],fun _ u=>some (u.n,u.t),fun _ _=>True,fun _=>none,0⟩
theorem val_of {w : World} {D U : Nat} {π : Nat → Sup} {c : (Nat → Sup) → Code} {v : (Nat → Sup) → Value} {T : String} {name : Str} {id : String} {B : Builtin} {self : Value} {rest : List Value} {v' : Value} (hc : c π = .call (.builtin id) ⟨self :: rest,[]⟩)
 (slot : Slot T name id) (hT : ∀ s : Shared,s.TypeIs self T) (entry : entryFor table id = some B) (args : argsOk id ⟨self :: rest,[]⟩) (g : Gives (B ⟨self :: rest,[]⟩) (.val v')) (hv : v π = v') : OrcAt w D U π (valD c v):=by
 refine OrcAt.of_code (fun s ho hz hp=>?_)
 show codeAny _ _ (c π) _ s
 rw [hc]
 refine any_of_gives slot (hT s) entry args (Gives.at (P:=fun _=>True) g) trivial ?_
 exact ⟨default,by show Except.ok (Flow.ret v') = .ok (.ret (v π));rw [hv],post_same rfl rfl rfl,trivial⟩
theorem int_of {w : World} {D U : Nat} {π : Nat → Sup} {c : (Nat → Sup) → Code} {i : Int} {T : String} {name : Str} {id : String} {B : Builtin} {self : Value} {rest : List Value} (hc : c π = .call (.builtin id) ⟨self :: rest,[]⟩)
 (slot : Slot T name id) (hT : ∀ s : Shared,s.TypeIs self T) (entry : entryFor table id = some B) (args : argsOk id ⟨self :: rest,[]⟩) (g : Gives (B ⟨self :: rest,[]⟩) (.int i)) : OrcAt w D U π (newIntD c i):=by
 refine OrcAt.of_code (fun s ho hz hp=>?_)
 show codeAny _ _ (c π) _ s
 rw [hc]
 refine any_of_gives slot (hT s) entry args (Gives.at (P:=fun _=>True) g) trivial ?_
 exact ⟨⟨s.heap.objs.size,s.toks + 1,fun _=>s.toks,fun _=>.none,fun _=>#[],fun _=>#[],fun _=>#[]⟩,rfl,⟨rfl,rfl,rfl,Nat.le_refl _,fun b v h _=>h,(fun _ h=>nomatch h),(fun _ h=>nomatch h),List.nodup_nil,⟨rfl,rfl⟩⟩,trivial⟩
noncomputable def ge2 (a b : Int) (ta tb : (Nat → Sup) → Nat) (res : Bool) : OrcD:=valD (fun π=>.call (.builtin "int.__ge__") ⟨[.int a (ta π),.int b (tb π)],[]⟩) fun _=>.bool res
noncomputable def lt2 (a b : Int) (ta tb : (Nat → Sup) → Nat) (res : Bool) : OrcD:=valD (fun π=>.call (.builtin "int.__lt__") ⟨[.int a (ta π),.int b (tb π)],[]⟩) fun _=>.bool res
noncomputable def gt2 (a b : Int) (ta tb : (Nat → Sup) → Nat) (res : Bool) : OrcD:=valD (fun π=>.call (.builtin "int.__gt__") ⟨[.int a (ta π),.int b (tb π)],[]⟩) fun _=>.bool res
noncomputable def eq2 (a b : Int) (ta tb : (Nat → Sup) → Nat) (res : Bool) : OrcD:=valD (fun π=>.call (.builtin "int.__eq__") ⟨[.int a (ta π),.int b (tb π)],[]⟩) fun _=>.bool res
theorem ge2_ok {w : World} {D U : Nat} {π : Nat → Sup} {a b : Int} {ta tb : (Nat → Sup) → Nat} {res : Bool} (h : decide (a ≥ b) = res) : OrcAt w D U π (ge2 a b ta tb res):=
 val_of rfl F.slot_int_ge (fun s=>typeIs_int _ _ _) F.entry_int_ge (F.args_int_ge_2 _ _) (AutoIntG9.int___ge___int_int_0 a (ta π) b (tb π)) (by rw [← h])
theorem lt2_ok {w : World} {D U : Nat} {π : Nat → Sup} {a b : Int} {ta tb : (Nat → Sup) → Nat} {res : Bool} (h : decide (a < b) = res) : OrcAt w D U π (lt2 a b ta tb res):=
 val_of rfl F.slot_int_lt (fun s=>typeIs_int _ _ _) F.entry_int_lt (F.args_int_lt_2 _ _) (AutoIntG1.int___lt___int_int_0 a (ta π) b (tb π)) (by rw [← h])
theorem gt2_ok {w : World} {D U : Nat} {π : Nat → Sup} {a b : Int} {ta tb : (Nat → Sup) → Nat} {res : Bool} (h : decide (a > b) = res) : OrcAt w D U π (gt2 a b ta tb res):=
 val_of rfl F.slot_int_gt (fun s=>typeIs_int _ _ _) F.entry_int_gt (F.args_int_gt_2 _ _) (AutoIntG4.int___gt___int_int_0 a (ta π) b (tb π)) (by rw [← h])
theorem eq2_ok {w : World} {D U : Nat} {π : Nat → Sup} {a b : Int} {ta tb : (Nat → Sup) → Nat} {res : Bool} (h : decide (a = b) = res) : OrcAt w D U π (eq2 a b ta tb res):=
 val_of rfl F.slot_int_eq (fun s=>typeIs_int _ _ _) F.entry_int_eq (F.args_int_eq_2 _ _) (AutoIntG7.int___eq___int_int_0 a (ta π) b (tb π)) (by rw [← h];first | rfl | (show Value.bool _ = Value.bool _;congr 1;by_cases q : a = b <;> simp [q]))
noncomputable def lenS (T : Str) (tx : (Nat → Sup) → Nat) (len : Nat) : OrcD:=newIntD (fun π=>.call (.builtin "len") ⟨[.str T (tx π)],[]⟩) (len : Nat)
theorem lenS_ok {w : World} {D U : Nat} {π : Nat → Sup} {T : Str} {tx : (Nat → Sup) → Nat} {len : Nat} (hl : T.length = len) (hsz : (len : Int) < 2 ^ 63) : OrcAt w D U π (lenS T tx len):=by
 subst hl
 refine OrcAt.of_call (f:=.builtin "len") (args:=[.str T (tx π)]) rfl fun s ho hz hp=>?_
 refine P.len_str (by omega) ?_
 exact ⟨⟨s.heap.objs.size,s.toks + 2,fun _=>s.toks + 1,fun _=>.none,fun _=>#[],fun _=>#[],fun _=>#[]⟩,rfl,⟨rfl,rfl,rfl,Nat.le_refl _,fun b v h _=>h,(fun _ h=>nomatch h),(fun _ h=>nomatch h),List.nodup_nil,⟨rfl,rfl⟩⟩,trivial⟩
theorem picked_one {x : Str} {a : Nat} {t u : Nat} (h : a < x.length) : slicePicked x (some ((a : Int),t)) (some ((a : Int) + 1,u)) none = [a]:=by
 unfold slicePicked strSliceIndices sliceRange
 simp only [Option.map_some,Option.map_none,Option.getD_none]
 have e1 : max (0 : Int) (min (if (a : Int) < 0 then (a : Int) + (x.length : Int) else (a : Int)) (x.length : Int)) = a:=by
  rw [if_neg (by omega)];omega
 have e2 : max (0 : Int) (min (if (a : Int) + 1 < 0 then (a : Int) + 1 + (x.length : Int) else (a : Int) + 1) (x.length : Int)) = a + 1:=by
  rw [if_neg (by omega)];omega
 simp only [show ((1 : Int) > 0) from by decide,if_true,e1,e2]
 rw [if_pos (by omega),show ((a : Int) + 1 - a + 1 - 1) / 1 = 1 from by omega]
 simp
noncomputable def cutD (nsl : Nat) (T : Str) (tx : (Nat → Sup) → Nat) (sl : (Nat → Sup) → Addr) (vl vu : (Nat → Sup) → Value) (ch : Nat) : OrcD:=
 ⟨fun π=>.call (.builtin "str.__getitem__") ⟨[.str T (tx π),.ref (sl π)],[]⟩,fun π=>[(nsl,sl π,sliceO (vl π) (vu π) .none)],fun _ u=>.ok (.ret (.str ⟨#[ch]⟩ (u.a 0))),fun _ _=>[],fun _ _=>[],fun _ u=>some (u.n,u.t),fun _ _=>True,fun _=>none,0⟩
theorem cutD_ok {w : World} {D U : Nat} {π : Nat → Sup} {nsl : Nat} {T : Str} {tx : (Nat → Sup) → Nat} {sl : (Nat → Sup) → Addr} {vl vu : (Nat → Sup) → Value} {ch a ta tb : Nat} (h1 : vl π = .int (a : Int) ta) (h2 : vu π = .int ((a : Int) + 1) tb) (h3 : T.cps[a]? = some ch) (h4 : 2 ≤ T.length) : OrcAt w D U π (cutD nsl T tx sl vl vu ch):=by
 refine OrcAt.of_code (fun s ho hz hp=>?_)
 have g1 : s.heap.get? (sl π) = some (sliceO (.int (a : Int) ta) (.int ((a : Int) + 1) tb) .none):=by
  have:=hp.get _ (.head _)
  rw [h1,h2] at this
  exact this
 have lt : a < T.length:=(Array.getElem?_eq_some_iff.mp h3).1
 refine any_of_meets slot_str_getitem (typeIs_str _ _ _) entry_str_getitem (args_str_getitem _ _) (meets_str_getitem_slice T (tx π) (sl π) (some ((a : Int),ta)) (some ((a : Int) + 1,tb)) none rfl) ⟨⟨_,g1,rfl,rfl⟩,?_⟩
 have e : sliceMade T (tx π) (some ((a : Int),ta)) (some ((a : Int) + 1,tb)) none = .str ⟨#[ch]⟩:=by
  unfold sliceMade
  rw [picked_one lt]
  rw [if_neg (by simp only [List.length_cons,List.length_nil,Bool.and_eq_true,beq_iff_eq,not_and];intro _;omega)]
  simp [h3]
 rw [e]
 exact ⟨by show 1 ≤ sizeLine;decide,⟨s.heap.objs.size,s.toks + 1,fun _=>s.toks,fun _=>.none,fun _=>#[],fun _=>#[],fun _=>#[]⟩,rfl,⟨rfl,rfl,rfl,Nat.le_refl _,fun b v h _=>h,(fun _ h=>nomatch h),(fun _ h=>nomatch h),List.nodup_nil,⟨rfl,rfl⟩⟩,trivial⟩
end
section
open PySem.Builtin PySem.Builtin.Str
noncomputable abbrev ioO (di : Addr) : Obj:=⟨.ref 918,some di,.plain,#[]⟩
noncomputable abbrev ioDict (P : Params) (T : Str) (tx p k0 k1 k2 tp : Nat) : Obj:=dictO #[E P "_StringIO__newline" k0 (sv "\n" 1374),E P "_StringIO__buf" k1 (.str T tx),E P "_StringIO__pos" k2 (.int (p : Nat) tp)] 3
noncomputable def readC (io : Addr) (t1 : Nat) : Code:=.call (.ref 864) ⟨[.ref io,.int 1 t1],[]⟩
noncomputable def readD (P : Params) (nd ni : Nat) (di io : Addr) (T : Str) (tx k0 k1 k2 p p' : Nat) (tp t1 : (Nat → Sup) → Nat) (ch : Str) : OrcD:=
 fnD (fun π=>readC io (t1 π)) (fun π=>[(nd,di,ioDict P T tx p k0 k1 k2 (tp π)),(ni,io,ioO di)]) (fun _ u=>[ioDict P T tx p' k0 k1 k2 (u.a 1),ioO di]) (fun _ u=>.ok (.ret (.str ch (u.a 0)))) (fun _ _=>[]) (fun _ _=>True)
noncomputable def rdA : List St:=[G 87 0x1777700007001777700060616666000,cm,G 12 0x17,cm,G 154 0x14055000000050000000560066405500000005000000056405500000005000000058188000450000500000005000000056667,.orc,G 14 0x16666,cm,.orc,G 5 0x16,cm,G 15 0x1666,cm,.orc,G 88 0x1664055000000050000000564440500000005050500000005666666,.orc,G 23 0x1aaaa]
noncomputable def rdB : List St:=[G 87 0x1777700007001777700060616666000,cm,G 12 0x17,cm,G 154 0x14055000000050000000560066405500000005000000056405500000005000000058188000450000500000005000000056667,.orc,G 14 0x16666,cm,.orc,G 5 0x16,cm,G 15 0x1666,cm,.orc,G 71 0x166405500000005000000056444050000000505050000000566,.orc,G 23 0x1aaaa]
noncomputable def rdC : List St:=[G 87 0x1777700007001777700060616666000,cm,G 12 0x17,cm,G 154 0x14055000000050000000560066405500000005000000056405500000005000000058188000450000500000005000000056667,.orc,G 14 0x16666,cm,.orc,G 2 1]
noncomputable def dsA (n : Nat) (T : Str) (tx len p tp ch : Nat) : List OrcD:=[lenS T (fun _=>tx) len,ge2 (p : Nat) (len : Nat) (fun _=>tp) (fun π=>(π 0).a 0) false,lt2 ((p : Nat) + 1) (len : Nat) (fun π=>(π 0).t + 2) (fun π=>(π 0).a 0) true,
 cutD 5 T (fun _=>tx) (fun π=>(π 0).n) (fun _=>.int (p : Nat) tp) (fun π=>.int ((p : Nat) + 1) ((π 0).t + 3)) ch]
noncomputable def dsB (n : Nat) (T : Str) (tx p tp ch : Nat) : List OrcD:=[lenS T (fun _=>tx) (p + 1),ge2 (p : Nat) ((p + 1 : Nat) : Int) (fun _=>tp) (fun π=>(π 0).a 0) false,lt2 ((p : Nat) + 1) ((p + 1 : Nat) : Int) (fun π=>(π 0).t + 2) (fun π=>(π 0).a 0) false,
 cutD 5 T (fun _=>tx) (fun π=>(π 0).n) (fun _=>.int (p : Nat) tp) (fun π=>.int ((p + 1 : Nat) : Int) ((π 0).a 0)) ch]
noncomputable def dsC (T : Str) (tx p tp : Nat) : List OrcD:=[lenS T (fun _=>tx) p,ge2 (p : Nat) (p : Nat) (fun _=>tp) (fun π=>(π 0).a 0) true]
theorem runsRead (P : Params) (B : List (Code × Pos)) (n t : Nat) (σ : Nat → Sup) (pos : Pos) (di io : Addr) (T : Str) (tx k0 k1 k2 p tp t1 len ch : Nat) : Runs [
 (runC P B rdA [(di,ioDict P T tx p k0 k1 k2 tp),(io,ioO di)] n t (osAt σ 0 (dsA n T tx len p tp ch)) (readC io t1) pos,[0,1],(dn (.str ⟨#[ch]⟩ ((σ 3).t + 4)),[],[some (di,ioDict P T tx (p + 1) k0 k1 k2 ((σ 0).t + 3)),some (io,ioO di)],(σ 3).n + 1,(σ 3).t + 5)),
 (runC P B rdB [(di,ioDict P T tx p k0 k1 k2 tp),(io,ioO di)] n t (osAt σ 0 (dsB n T tx p tp ch)) (readC io t1) pos,[0,1],(dn (.str ⟨#[ch]⟩ ((σ 3).t + 4)),[],[some (di,ioDict P T tx (p + 1) k0 k1 k2 ((σ 0).a 0)),some (io,ioO di)],(σ 3).n + 1,(σ 3).t + 5)),
 (runC P B rdC [(di,ioDict P T tx p k0 k1 k2 tp),(io,ioO di)] n t (osAt σ 0 (dsC T tx p tp)) (readC io t1) pos,[0,1],(dn (sv "" ((σ 0).t + 1)),[],[some (di,ioDict P T tx p k0 k1 k2 tp),some (io,ioO di)],(σ 0).n,(σ 0).t + 2))]:=by unfold Runs;kernel_rfl
theorem at_four {a b c e : OrcD} {Q : OrcD → Prop} (ha : Q a) (hb : Q b) (hc : Q c) (he : Q e) : ∀ d ∈ [a,b,c,e],Q d:=fun d h=>by
 simp only [List.mem_cons,List.not_mem_nil,or_false] at h
 rcases h with rfl | rfl | rfl | rfl <;> assumption
theorem read_ok {w : World} {D U : Nat} {π : Nat → Sup} (hD : D ≤ 690) (hU : U ≤ 8400) {nd ni : Nat} {di io : Addr} {T : Str} {tx k0 k1 k2 p ch : Nat} {tp t1 : (Nat → Sup) → Nat} (hn : nd ≠ ni) (h : T.cps[p]? = some ch) (h2 : 2 ≤ T.length) (hsz : (T.length : Int) < 2 ^ 63) :
 OrcAt w D U π (readD w.params nd ni di io T tx k0 k1 k2 p (p + 1) tp t1 ⟨#[ch]⟩):=by
 refine fn_ok (by omega) (by omega) rfl (by simp [hn]) (by simp) fun B n t pos hn=>?_
 have lt : p < T.length:=(Array.getElem?_eq_some_iff.mp h).1
 have z:=fun σ len=>runsRead w.params B n t σ pos di io T tx k0 k1 k2 p (tp π) (t1 π) len ch
 rcases Nat.lt_or_ge (p + 1) T.length with q | q
 ·refine ⟨dsA n T tx T.length p (tp π) ch,rdA,[],fun σ=>⟨(σ 3).n + 1,(σ 3).t + 5,fun i=>match i with | 0=>(σ 3).t + 4 | _=>(σ 0).t + 3,fun _=>.none,fun _=>#[],fun _=>#[],fun _=>#[]⟩,orcs_all ?_,(fun _ h=>nomatch h),List.nodup_nil,fun σ=>⟨rfl,rfl,(z σ T.length).get (.head _)⟩,fun _ _=>trivial⟩
  exact at_four (fun π=>lenS_ok rfl (by omega)) (fun π=>ge2_ok (by simp;omega)) (fun π=>lt2_ok (by simp;omega)) (fun π=>cutD_ok rfl rfl h h2)
 ·have e : T.length = p + 1:=by omega
  refine ⟨dsB n T tx p (tp π) ch,rdB,[],fun σ=>⟨(σ 3).n + 1,(σ 3).t + 5,fun i=>match i with | 0=>(σ 3).t + 4 | _=>(σ 0).a 0,fun _=>.none,fun _=>#[],fun _=>#[],fun _=>#[]⟩,orcs_all ?_,(fun _ h=>nomatch h),List.nodup_nil,fun σ=>⟨rfl,rfl,(z σ 0).get (.tail _ (.head _))⟩,fun _ _=>trivial⟩
  exact at_four (fun π=>lenS_ok e (by omega)) (fun π=>ge2_ok (by simp;omega)) (fun π=>lt2_ok (by simp)) (fun π=>cutD_ok rfl (by simp;rfl) h h2)
theorem readEnd_ok {w : World} {D U : Nat} {π : Nat → Sup} (hD : D ≤ 690) (hU : U ≤ 8400) {nd ni : Nat} {di io : Addr} {T : Str} {tx k0 k1 k2 p : Nat} {tp t1 : (Nat → Sup) → Nat} (hn : nd ≠ ni) (h : T.length = p) (hsz : (T.length : Int) < 2 ^ 63) :
 OrcAt w D U π (readD w.params nd ni di io T tx k0 k1 k2 p p tp t1 (q "")):=by
 refine fn_ok (by omega) (by omega) rfl (by simp [hn]) (by simp) fun B n t pos hn=>?_
 have z:=fun σ=>runsRead w.params B n t σ pos di io T tx k0 k1 k2 p (tp π) (t1 π) 0 0
 refine ⟨dsC T tx p (tp π),rdC,[],fun σ=>⟨(σ 0).n,(σ 0).t + 2,fun i=>match i with | 0=>(σ 0).t + 1 | _=>tp π,fun _=>.none,fun _=>#[],fun _=>#[],fun _=>#[]⟩,orcs_all ?_,(fun _ h=>nomatch h),List.nodup_nil,fun σ=>⟨rfl,rfl,(z σ).get (.tail _ (.tail _ (.head _)))⟩,fun _ _=>trivial⟩
 exact at_two (fun π=>lenS_ok h (by omega)) (fun π=>ge2_ok (by simp))
end
section
open PySem.Sem (wp finPost)
structure FrI where
 i : Nat
 a : Addr
 es : Array DictEntry
 ep : Nat
 sl : Array (Option Value)
noncomputable abbrev frO (es : Array DictEntry) (ep : Nat) (sl : Array (Option Value)) : Obj:=⟨.type "frame",none,.dict es ep,sl⟩
noncomputable def frNeed (fr : List FrI) : List (Nat × Nat × Obj):=fr.map fun f=>(f.i,f.a,frO f.es f.ep f.sl)
noncomputable def frUpd (g : Nat → Array (Option Value)) : Nat → List FrI → List (Nat × Nat × Obj)
 | _,[]=>[]
 | j,f :: l=>(f.i,f.a,frO f.es f.ep (g j)) :: frUpd g (j + 1) l
theorem frUpd_mem {g : Nat → Array (Option Value)} : ∀ {l : List FrI} {j : Nat} {x : Nat × Nat × Obj},x ∈ frUpd g j l → ∃ k f,l[k]? = some f ∧ x = (f.i,f.a,frO f.es f.ep (g (j + k)))
 | [],j,x,h=>by cases h
 | f :: l,j,x,h=>by
   rcases List.mem_cons.mp h with rfl | h
   ·exact ⟨0,f,rfl,rfl⟩
   ·obtain ⟨k,f',e,rfl⟩:=frUpd_mem h
    exact ⟨k + 1,f',by simpa using e,by rw [Nat.add_right_comm];rfl⟩
theorem frUpd_adr {g : Nat → Array (Option Value)} : ∀ {l : List FrI} {j : Nat} {f : FrI},f ∈ l → ∃ x ∈ frUpd g j l,x.2.1 = f.a
 | f' :: l,j,f,h=>by
   rcases List.mem_cons.mp h with rfl | h
   ·exact ⟨_,.head _,rfl⟩
   ·obtain ⟨x,hx,e⟩:=frUpd_adr (g:=g) (j:=j + 1) h
    exact ⟨x,.tail _ hx,e⟩
noncomputable abbrev tbO (L : Addr) (head fl : Value) (v : Nat → Value) : Obj:=⟨.type "traceback",none,.fields #[head,.ref L,.none,fl,.none,v 0,v 1,v 2,v 3,v 4,v 5],#[]⟩
structure FramesOK (l : List Env) (fr : List FrI) : Prop where
 adr : l.map (·.frame) = fr.map fun f=>some f.a
 kind : ∀ env ∈ l,env.scope.kind ≠ .module
theorem funFrames {s : Shared} : ∀ {l : List Env} {fr : List FrI},FramesOK l fr → (∀ f ∈ fr,s.heap.get? f.a = some (frO f.es f.ep f.sl)) → s.heap.FunFrames {} l
 | [],_,_,_=>trivial
 | env :: l,[],h,_=>by have:=h.adr;simp at this
 | env :: l,f :: fr,h,hg=>by
   have ha:=h.adr
   simp only [List.map_cons,List.cons.injEq] at ha
   exact ⟨h.kind _ (.head _),⟨f.a,_,ha.1,rfl,hg f (.head _),fun vs h=>by cases h⟩,funFrames ⟨ha.2,fun e he=>h.kind e (.tail _ he)⟩ fun f hf=>hg f (.tail _ hf)⟩
theorem frames_adr {l : List Env} {fr : List FrI} (h : FramesOK l fr) : l.filterMap (·.frame) = fr.map (·.a):=by
 have : ∀ {l : List Env} {fr : List FrI},l.map (·.frame) = fr.map (fun f=>some f.a) → l.filterMap (·.frame) = fr.map (·.a):=by
  intro l
  induction l with
  | nil=>intro fr h;cases fr with
    | nil=>rfl
    | cons f fr=>simp at h
  | cons env l ih=>intro fr h;cases fr with
    | nil=>simp at h
    | cons f fr=>
      simp only [List.map_cons,List.cons.injEq] at h
      rw [List.filterMap_cons,h.1,ih h.2];rfl
 exact this h.adr
theorem entry_is {M : Model} {A : Around} {E : Value → Shared → Prop} {s : Shared} {env : Env} {outer : List Env} {L e : Addr} {oe : Obj} {vs : Array Value} {head : Value} {hadNext : Bool} {Q : Unit → Shared → Prop} {fr : List FrI}
 (hfr : A.frames = some (env :: outer)) (hF : FramesOK (env :: outer) fr) (hg : ∀ f ∈ fr,s.heap.get? f.a = some (frO f.es f.ep f.sl)) (hf : env.frame = some L)
 (he : s.heap.get? e = some oe) (hd : oe.data = .fields vs) (hsz : 1 < vs.size)
 (h : ∀ h₁ (v : Nat → Value),Heap.SlotsOnly (fr.map (·.a)) s.heap h₁ → h₁.get? e = some oe → Q () { s with heap:=(h₁.push (tbO L head (rawInt L) v)).update e (Obj.mapFields (·.setIfInBounds 1 (.ref h₁.objs.size))) }) :
 wpAny M A (do let a ← frameOf env;let pl ← entryPlaceOf L hadNext;let b ← EntryCells.newEntry head a .none (rawInt L) .none pl;setField (.ref e) 1 b) Q E s:=by
 have hl:=funFrames hF hg
 have hene : e ∉ (env :: outer).filterMap (·.frame):=fun hm=>by
  obtain ⟨_,o,ho,hnf⟩:=hl.mem hm
  rw [he] at ho;injection ho with ho;subst ho;exact hnf vs hd
 refine wpAny_bind (wpAny_frameOf_fun hfr hl hf fun h₁ hs₁=>?_)
 have he₁:=(hs₁.2.1 e hene).trans he
 rw [frames_adr hF] at hs₁
 refine wpAny_bind (wpAny_entryPlaceOf fun pl hpl=>?_)
 unfold EntryCells.newEntry newFields
 refine wpAny_bind (wpAny_newObj_type ?_ (hpl.sizeOk5 _ _ _ _ _))
 obtain ⟨v,hv⟩ : ∃ v : Nat → Value,([head,.ref L,.none,rawInt L,.none] ++ (if pl.isEmpty then List.replicate 6 Value.none else pl)).toArray = #[head,.ref L,.none,rawInt L,.none,v 0,v 1,v 2,v 3,v 4,v 5]:=by
  rcases hpl with rfl | ⟨a,b,c,d,c9,b10,_,rfl⟩
  ·exact ⟨fun _=>.none,rfl⟩
  ·exact ⟨fun i=>match i with | 0=>rawInt a | 1=>rawInt b | 2=>rawInt c | 3=>rawInt d | 4=>c9 | _=>.bool b10,rfl⟩
 rw [hv]
 exact wpAny_setField (Heap.get?_push_of_some _ he₁) hd hsz (h h₁ v hs₁ he₁)
theorem push_other {h : Heap} {o : Obj} {b : Addr} (hb : b ≠ h.objs.size) : (h.push o).get? b = h.get? b:=by
 unfold Heap.get? Heap.push
 simp only
 rw [Array.getElem?_push,if_neg hb]
noncomputable def noteD (kd : Nat) (env : Env) (L e : Addr) (ie : Nat) (oe : Value → Obj) (l : List Env) (fr : List FrI) : OrcD:=
 ⟨fun _=>.func [] env,fun _=>(ie,e,oe .none) :: frNeed fr,fun _ _=>.error (.ref e),fun _ u=>(ie,e,oe (.ref (u.a 0))) :: frUpd u.s 0 fr,fun _ u=>[(u.a 0,tbO L .none (match kd with | 1=>.none | _=>rawInt L) u.v)],fun _ u=>some (u.n,u.t),fun _ u=>u.n = u.a 0 + 1 ∧ 1106 ≤ u.a 0,fun _=>some l,kd⟩
noncomputable def noteD3 (env : Env) (L e : Addr) (ie : Nat) (oe : Value → Obj) (it : Nat) (T LT : Addr) (hT : Value) (vT : Nat → Value) : OrcD:=
 ⟨fun _=>.func [] env,fun _=>[(ie,e,oe (.ref T)),(it,T,tbO LT hT (rawInt L) vT)],fun _ _=>.error (.ref e),fun _ u=>[(it,T,tbO LT hT .none vT)],fun _ _=>[],fun _ u=>none,fun _ _=>True,fun _=>none,3⟩
theorem post_entry {s : Shared} {h₁ : Heap} {fr : List FrI} {e : Addr} {ie : Nat} {oe : Value → Obj} {v : Nat → Value} {L : Addr} {head : Value} {hl : Heap} {fl : Value} {d : OrcD} {π : Nat → Sup}
 (hs : Heap.SlotsOnly (fr.map (·.a)) s.heap h₁) (hg : ∀ f ∈ fr,s.heap.get? f.a = some (frO f.es f.ep f.sl)) (hz : 1106 ≤ s.heap.objs.size)
 (hfe : ∀ f ∈ fr,f.a ≠ e)
 (ho : ∀ b,b ≠ e → b ≠ h₁.objs.size → hl.get? b = h₁.get? b) (hoe : hl.get? e = some (oe (.ref h₁.objs.size))) (hot : hl.get? h₁.objs.size = some (tbO L head fl v)) (hsz : hl.objs.size = h₁.objs.size + 1)
 (hu : ∀ u,d.upd π u = (ie,e,oe (.ref (u.a 0))) :: frUpd u.s 0 fr) (hout : ∀ u,d.out π u = [(u.a 0,tbO L head fl u.v)]) (hszd : ∀ u,d.sz π u = some (u.n,u.t)) (hF : ∀ u,d.F π u = (u.n = u.a 0 + 1 ∧ 1106 ≤ u.a 0)) :
 ∃ u,OrcPost (d.at π u) s { s with heap:=hl } ∧ d.F π u:=by
 let sl : Nat → Array (Option Value):=fun j=>if h : j < fr.length then Classical.choose (hs.2.2 fr[j].a _ (hg fr[j] (List.getElem_mem h))) else #[]
 have hsl : ∀ (j : Nat) (h : j < fr.length),h₁.get? fr[j].a = some (frO fr[j].es fr[j].ep (sl j)):=fun j h=>by
  have:=Classical.choose_spec (hs.2.2 fr[j].a _ (hg fr[j] (List.getElem_mem h)))
  show _ = some (frO fr[j].es fr[j].ep (if h : j < fr.length then _ else _))
  rw [dif_pos h]
  exact this
 refine ⟨⟨h₁.objs.size + 1,s.toks,fun _=>h₁.objs.size,v,fun _=>#[],fun _=>#[],sl⟩,⟨rfl,rfl,rfl,?_,fun b o hb hn=>?_,fun x hx=>?_,fun x hx=>?_,?_,?_⟩,?_⟩
 ·show s.heap.objs.size ≤ hl.objs.size
  rw [hsz,hs.1];omega
 ·have hn' : ∀ x ∈ d.upd π _,b ≠ x.2.1:=hn
  rw [hu] at hn'
  show hl.get? b = some o
  rw [ho b (hn' _ (.head _)) (by rw [hs.1];exact Nat.ne_of_lt (Heap.lt_size hb)),hs.2.1 b fun hm=>?_]
  ·exact hb
  ·obtain ⟨f,hf,rfl⟩:=List.mem_map.mp hm
   obtain ⟨x,hx,e'⟩:=frUpd_adr (g:=sl) (j:=0) hf
   exact hn' x (.tail _ hx) e'.symm
 ·have hx' : x ∈ d.upd π _:=hx
  rw [hu] at hx'
  rcases List.mem_cons.mp hx' with rfl | hx'
  ·exact hoe
  ·obtain ⟨k,f,hk,rfl⟩:=frUpd_mem hx'
   obtain ⟨lt,ek⟩:=List.getElem?_eq_some_iff.mp hk
   subst ek
   show hl.get? fr[k].a = _
   rw [ho _ (hfe _ (List.getElem_mem lt)) (by rw [hs.1];exact Nat.ne_of_lt (Heap.lt_size (hg _ (List.getElem_mem lt))))]
   rw [hsl k lt,Nat.zero_add]
 ·have hx' : x ∈ d.out π _:=hx
  rw [hout] at hx'
  rcases List.mem_singleton.mp hx' with rfl
  exact ⟨by rw [hs.1];exact Nat.le_refl _,hot⟩
 ·show ((d.out π _).map (·.1)).Nodup
  rw [hout];simp
 ·show match d.sz π _ with
   | none=>_
   | some z=>_
  rw [hszd]
  exact ⟨hsz,rfl⟩
 ·rw [hF]
  exact ⟨rfl,by show 1106 ≤ h₁.objs.size;rw [hs.1];exact hz⟩
theorem in_around {Γ : Ctx} {l : List Env} (h : Γ.code.envs ++ envsOf Γ.below = l) : Γ.In { handled:=Γ.handled,depth:=frameCount Γ.below + Γ.code.weight,frames:=some l,units:=Γ.units }:=
 ⟨rfl,Nat.le_refl _,fun l' h'=>by cases h';exact h,(fun g hg=>nomatch hg),Nat.le_refl _⟩
theorem note_ok {w : World} {D U : Nat} {π : Nat → Sup} {kd : Nat} {env : Env} {L e : Addr} {ie : Nat} {oe : Value → Obj} {outer : List Env} {fr : List FrI} {vs : Value → Array Value} (hk : kd = 1 ∨ kd = 2)
 (hf : env.frame = some L) (hF : FramesOK (env :: outer) fr) (hd : ∀ v,(oe v).data = .fields (vs v)) (h1 : ∀ v,(vs v)[1]? = some v) (hup : ∀ v v',Obj.mapFields (·.setIfInBounds 1 v') (oe v) = oe v') : OrcAt w D U π (noteD kd env L e ie oe (env :: outer) fr):=by
 have main : ∀ (Γ : Ctx) (p : Pos) (s : Shared),Γ.code.envs ++ envsOf Γ.below = env :: outer → 1106 ≤ s.heap.objs.size → At w.params ((ie,e,oe .none) :: frNeed fr) s → ∀ k,kd = k + 1 →
  wp (md w) Γ (hM (k + 1) env (.ref e)) (fun _ _ s'=>∃ u,OrcPost ((noteD kd env L e ie oe (env :: outer) fr).at π u) s s' ∧ (noteD kd env L e ie oe (env :: outer) fr).F π u) (fun _ _ _=>False) p s:=by
  intro Γ p s hfs hz hA k hkd
  have he : s.heap.get? e = some (oe .none):=hA.get _ (.head _)
  have hg : ∀ f ∈ fr,s.heap.get? f.a = some (frO f.es f.ep f.sl):=fun f hf=>hA.get (f.i,f.a,frO f.es f.ep f.sl) (.tail _ (List.mem_map_of_mem (f:=fun f=>(f.i,f.a,frO f.es f.ep f.sl)) hf))
  have hfe : ∀ f ∈ fr,f.a ≠ e:=fun f hf q=>by
   have:=hg f hf
   rw [q,he] at this
   have h2:=hd .none
   rw [Option.some.inj this] at h2
   cases h2
  have sz1 : ∀ v,1 < (vs v).size:=fun v=>(Array.getElem?_eq_some_iff.mp (h1 v)).1
  have note : ∀ (Q : Unit → Shared → Prop),(∀ h₁ (v : Nat → Value),Heap.SlotsOnly (fr.map (·.a)) s.heap h₁ → h₁.get? e = some (oe .none) → Q () { s with heap:=(h₁.push (tbO L .none (rawInt L) v)).update e (Obj.mapFields (·.setIfInBounds 1 (.ref h₁.objs.size))) }) →
   wpAny (md w) { handled:=Γ.handled,depth:=frameCount Γ.below + Γ.code.weight,frames:=some (env :: outer),units:=Γ.units } (noteFrame (.ref e) env) Q (fun _ _=>False) s:=fun Q hQ=>by
   unfold noteFrame
   simp only [hf]
   refine wpAny_bind (wpAny_field he (hd _) (h1 _) ?_)
   rw [if_neg (by decide)]
   exact entry_is rfl hF hg hf he (hd _) (sz1 _) hQ
  have basic : ∀ {h₁ : Heap} {v : Nat → Value},Heap.SlotsOnly (fr.map (·.a)) s.heap h₁ → h₁.get? e = some (oe .none) →
   (∀ b,b ≠ e → b ≠ h₁.objs.size → ((h₁.push (tbO L .none (rawInt L) v)).update e (Obj.mapFields (·.setIfInBounds 1 (.ref h₁.objs.size)))).get? b = h₁.get? b) ∧
   ((h₁.push (tbO L .none (rawInt L) v)).update e (Obj.mapFields (·.setIfInBounds 1 (.ref h₁.objs.size)))).get? e = some (oe (.ref h₁.objs.size)) ∧
   ((h₁.push (tbO L .none (rawInt L) v)).update e (Obj.mapFields (·.setIfInBounds 1 (.ref h₁.objs.size)))).get? h₁.objs.size = some (tbO L .none (rawInt L) v) ∧
   ((h₁.push (tbO L .none (rawInt L) v)).update e (Obj.mapFields (·.setIfInBounds 1 (.ref h₁.objs.size)))).objs.size = h₁.objs.size + 1:=fun {h₁ v} hs he₁=>by
   have hne : h₁.objs.size ≠ e:=Nat.ne_of_gt (Heap.lt_size he₁)
   have he₂:=Heap.get?_push_of_some (tbO L .none (rawInt L) v) he₁
   refine ⟨fun b hb hb2=>?_,?_,?_,?_⟩
   ·rw [Heap.get?_update_other _ _ (Ne.symm hb)]
    exact push_other hb2
   ·refine (Heap.get?_update_self _ he₂ ?_).trans (by rw [hup])
    rw [hup];exact Obj.isFreed_of_fields (hd _)
   ·rw [Heap.get?_update_other _ _ (Ne.symm hne)]
    exact Heap.get?_push_size _ rfl
   ·rw [Heap.size_after_update,Heap.size_push]
  rcases hk with rfl | rfl
  ·have : k = 0:=by omega
   subst this
   show wp (md w) Γ (PySem.W.Fast.tw9442747609961115081 env (.ref e)) _ _ p s
   rw [← PySem.W.Fast.te9442747609961115081]
   refine Sem.wp_mono (md w) Γ _ (fun a p' s' h=>h) (fun _ _ _ h=>h) p s (?_ : wp (md w) Γ (leaving env (.ref e)) (fun a _ s'=>_) (fun e _ s'=>False) p s)
   refine (show wpAny (md w) { handled:=Γ.handled,depth:=frameCount Γ.below + Γ.code.weight,frames:=some (env :: outer),units:=Γ.units } (leaving env (.ref e)) (fun _ s'=>∃ u,OrcPost ((noteD 1 env L e ie oe (env :: outer) fr).at π u) s s' ∧ (noteD 1 env L e ie oe (env :: outer) fr).F π u) (fun _ _=>False) s from ?_) Γ p (in_around hfs)
   unfold leaving
   refine wpAny_bind (note _ fun h₁ v hs he₁=>?_)
   obtain ⟨b1,b2,b3,b4⟩:=basic (v:=v) hs he₁
   have hne : h₁.objs.size ≠ e:=Nat.ne_of_gt (Heap.lt_size he₁)
   refine wpAny_setFlight_none b2 (hd _) (h1 _) b3 rfl (by simp) ?_
   refine post_entry (ie:=ie) (oe:=oe) (v:=v) (L:=L) (head:=.none) (fl:=.none) hs hg hz hfe (fun b hb hb2=>?_) ?_ ?_ ?_ (fun u=>rfl) (fun u=>rfl) (fun u=>rfl) (fun u=>rfl)
   ·rw [Heap.get?_update_other _ _ (Ne.symm hb2)];exact b1 b hb hb2
   ·rw [Heap.get?_update_other _ _ hne];exact b2
   ·exact Heap.get?_update_self _ b3 rfl
   ·rw [Heap.size_after_update];exact b4
  ·have : k = 1:=by omega
   subst this
   show wp (md w) Γ (R.bindR (PySem.W.Fast.tw17872113653443481271 (.ref e) env) fun _=>PySem.W.Fast.tw1623429502029203251 (.ref e)) _ _ p s
   rw [← PySem.W.Fast.te17872113653443481271,← PySem.W.Fast.te1623429502029203251,← R.bindR_eq]
   refine (show wpAny (md w) { handled:=Γ.handled,depth:=frameCount Γ.below + Γ.code.weight,frames:=some (env :: outer),units:=Γ.units } ((noteFrame (.ref e) env).bind fun _=>theTreesLotGoes (.ref e)) (fun _ s'=>∃ u,OrcPost ((noteD 2 env L e ie oe (env :: outer) fr).at π u) s s' ∧ (noteD 2 env L e ie oe (env :: outer) fr).F π u) (fun _ _=>False) s from ?_) Γ p (in_around hfs)
   refine wpAny_bind (note _ fun h₁ v hs he₁=>?_)
   obtain ⟨b1,b2,b3,b4⟩:=basic (v:=v) hs he₁
   refine wpAny_theTreesLotGoes ?_
   exact post_entry (ie:=ie) (oe:=oe) (v:=v) (L:=L) (head:=.none) (fl:=rawInt L) hs hg hz hfe b1 b2 b3 b4 (fun u=>rfl) (fun u=>rfl) (fun u=>rfl) (fun u=>rfl)
 unfold OrcAt
 rcases hk with rfl | rfl
 ·refine ⟨.ref e,fun _=>rfl,fun Γ p s env' henv hfs ho hz hA=>?_⟩
  cases henv
  exact main Γ p s (hfs _ rfl) hz hA 0 rfl
 ·refine ⟨.ref e,fun _=>rfl,fun Γ p s env' henv hfs ho hz hA=>?_⟩
  cases henv
  exact main Γ p s (hfs _ rfl) hz hA 1 rfl
noncomputable def noteT (body : List Stmt) (env : Env) (L e : Addr) (ie : Nat) (oe : Value → Obj) (l : List Env) (fr : List FrI) : OrcD:=
 ⟨fun _=>.func body env,fun _=>(ie,e,oe .none) :: frNeed fr,fun _ _=>.error (.ref e),fun _ u=>(ie,e,oe (.ref (u.a 0))) :: frUpd u.s 0 fr,fun _ u=>[(u.a 0,tbO L .none .none u.v)],fun _ u=>some (u.n,u.t),fun _ u=>u.n = u.a 0 + 1 ∧ 1106 ≤ u.a 0,fun _=>some l,4⟩
theorem noteT_ok {w : World} {D U : Nat} {π : Nat → Sup} {body : List Stmt} {env : Env} {L e : Addr} {ie : Nat} {oe : Value → Obj} {outer : List Env} {fr : List FrI} {vs : Value → Array Value}
 (hf : env.frame = some L) (hF : FramesOK (env :: outer) fr) (hd : ∀ v,(oe v).data = .fields (vs v)) (h1 : ∀ v,(vs v)[1]? = some v) (hup : ∀ v v',Obj.mapFields (·.setIfInBounds 1 v') (oe v) = oe v') : OrcAt w D U π (noteT body env L e ie oe (env :: outer) fr):=by
 have z:=note_ok (w:=w) (D:=D) (U:=U) (π:=π) (kd:=1) (e:=e) (ie:=ie) (.inl rfl) hf hF hd h1 hup
 unfold OrcAt at z ⊢
 obtain ⟨ev,e1,e2⟩:=z
 refine ⟨ev,e1,fun Γ p s env' henv hfs ho hz hA=>?_⟩
 refine Sem.wp_mono (md w) Γ _ (fun _ _ _ ⟨u,hp,hF⟩=>?_) (fun _ _ _ h=>h) p s (e2 Γ p s env' henv hfs ho hz hA)
 exact ⟨u,⟨hp.gens,hp.drawn,hp.os,hp.size,hp.keep,hp.upd,hp.out,hp.nod,hp.sz⟩,hF⟩
end
section
open PySem.Builtin PySem.Builtin.Str PySem.MeetsSeq PySem.SeqAt PySem.SeqRoads2
noncomputable abbrev lexO (dl : Addr) : Obj:=⟨.ref 1053,some dl,.plain,#[]⟩
noncomputable abbrev dqO : Obj:=⟨.type "collections.deque",none,.fields #[.none,.int 0 0],#[]⟩
noncomputable abbrev lexDict (P : Params) (k : Nat → Nat) (io dq fs : Addr) (st : Value) (tt : Nat) : Obj:=dictO #[E P "instream" (k 0) (.ref io),E P "infile" (k 1) .none,E P "posix" (k 2) (.bool true),E P "eof" (k 3) .none,E P "commenters" (k 4) (sv "" (k 5)),E P "wordchars" (k 6) (sv "abcdfeghijklmnopqrstuvwxyzABCDEFGHIJKLMNOPQRSTUVWXYZ0123456789_ßàáâãäåæçèéêëìíîïðñòóôõöøùúûüýþÿÀÁÂÃÄÅÆÇÈÉÊËÌÍÎÏÐÑÒÓÔÕÖØÙÚÛÜÝÞ" (k 7)),E P "whitespace" (k 8) (sv " \t\r\n" (k 9)),E P "whitespace_split" (k 10) (.bool true),E P "quotes" (k 11) (sv "'\"" (k 12)),E P "escape" (k 13) (sv "\\" (k 14)),E P "escapedquotes" (k 15) (sv "\"" (k 16)),E P "state" (k 17) st,E P "pushback" (k 18) (.ref dq),E P "lineno" (k 19) (.int 1 (k 20)),E P "debug" (k 21) (.int 0 (k 22)),E P "token" (k 23) (sv "" tt),E P "filestack" (k 24) (.ref fs),E P "source" (k 25) .none,E P "_punctuation_chars" (k 26) (sv "" (k 27))] 19
noncomputable def lexKs (P : Params) (k : Nat → Nat) (dl lex di io dq fs : Addr) (st : Value) (tt : Nat) (T : Str) (tx k0 k1 k2 p tp : Nat) : List (Nat × Obj):=
 [(dl,lexDict P k io dq fs st tt),(lex,lexO dl),(di,ioDict P T tx p k0 k1 k2 tp),(io,ioO di),(dq,dqO),(fs,dqO)]
noncomputable def tupD (nt : Nat) (a : (Nat → Sup) → Addr) (t1 t2 t3 : (Nat → Sup) → Nat) : OrcD:=
 ⟨fun π=>.call (.builtin "tuple.__contains__") ⟨[.ref (a π),sv "a" (t3 π)],[]⟩,fun π=>[(nt,a π,⟨.type "tuple",none,.seq #[sv "a" (t1 π),sv "c" (t2 π)] 0,#[]⟩)],fun _ _=>.ok (.ret (.bool true)),fun _ _=>[],fun _ _=>[],fun _ _=>none,fun _ _=>True,fun _=>none,0⟩
theorem tupD_ok {w : World} {D U : Nat} {π : Nat → Sup} {nt : Nat} {a : (Nat → Sup) → Addr} {t1 t2 t3 : (Nat → Sup) → Nat} : OrcAt w D U π (tupD nt a t1 t2 t3):=by
 refine OrcAt.of_code (fun s ho hz hp=>?_)
 have g1 : s.heap.get? (a π) = some ⟨.type "tuple",none,.seq #[sv "a" (t1 π),sv "c" (t2 π)] 0,#[]⟩:=hp.get _ (.head _)
 refine any_of_meets PySem.F.slot_tuple_contains ⟨_,g1,rfl⟩ PySem.F.entry_tuple_contains (PySem.F.args_tuple_contains_2 _ _) (PySem.MeetsSeq2.tuple_contains (a π) _ 0 (sv "a" (t3 π)) (isW "a") ?_) ⟨g1,?_⟩
 ·intro y hy
  simp only [List.mem_toArray,List.mem_cons,List.not_mem_nil,or_false] at hy
  rcases hy with rfl | rfl
  ·exact EqGives.str _ _ _ _
  ·exact EqGives.str _ _ _ _
 ·refine ⟨default,?_,post_same rfl rfl rfl,trivial⟩
  rw [show (#[sv "a" (t1 π),sv "c" (t2 π)].any (isW "a")) = true from by rw [← Array.any_toList];simp [isW]]
  rfl
noncomputable def nextC (lex : Addr) : Code:=.call (.ref 1050) ⟨[.ref lex],[]⟩
noncomputable def wa0 : List St:=[G 244 0x1067000070000000700000007405500050005c405500050005d1dd00000000000050005ccccc1cc000450000500050005b88888405500050005b1bb000450000500050005a1aa00,.orc,G 13 0x1ccc,cm,G 25 0x1405500050005c,cm,G 46 0x1405500050005c405500050005c,cm,G 312 0x1067000070000000700000007405500050005c405500050005e1ee00000000000050005c44405000505050005c44405000505050005cc405500050005cc405500050005cc405500050005c405500050005cc405500050005ccc,.orc,G 13 0x1ccc,cm,G 25 0x1405500050005c,cm,G 46 0x1405500050005c405500050005c,cm,G 116 0x10ff0ff405500050005c405500050005c405500050005c405500050005c405500050005c,.orc,G 60 0x1405500050005c405500050005ccc,cm,G 145 0x1cc405500050005c44405000505050005ccc405500050005c405500050005c44405000505050005c,cm,G 25 0x1405500050005c,cm,G 60 0x1405500050005bb405500050005bbbc,cm,G 4 1,cm,G 27 0x1405500050005b,cm,G 38 0x1405500050005aaaab,cm,G 4 1,cm,G 7 0x1a]
noncomputable def wd0 (P : Params) (n t : Nat) (di io : Addr) (T : Str) (tx k0 k1 k2 p tp : Nat) : List OrcD:=[readD P 2 3 di io T tx k0 k1 k2 (p + 0) (p + 0 + 1) (fun π=>tp) (fun π=>(t + 15)) ⟨#[97]⟩,readD P 2 3 di io T tx k0 k1 k2 (p + 1) (p + 1 + 1) (fun π=>(π 0).a 1) (fun π=>((π 0).t + 25)) ⟨#[32]⟩,tupD 11 (fun π=>(π 1).n) (fun π=>((π 1).t + 12)) (fun π=>((π 1).t + 13)) (fun π=>((π 0).t + 16))]
noncomputable def wV0 (n t tt : Nat) (σ : Nat → Sup) : Sup:=⟨((σ 1).n + 1),((σ 1).t + 41),fun i=>match i with | 0=>((σ 0).a 0) | 1=>((σ 1).a 1) | _=>((σ 1).t + 27),fun _=>(sv " " ((σ 1).t + 19)),fun _=>#[],fun _=>#[],fun _=>#[]⟩
noncomputable def wa1 : List St:=[G 244 0x1067000070000000700000007405500050005c405500050005d1dd00000000000050005ccccc1cc000450000500050005b88888405500050005b1bb000450000500050005a1aa00,.orc,G 13 0x1ccc,cm,G 25 0x1405500050005c,cm,G 46 0x1405500050005c405500050005c,cm,G 312 0x1067000070000000700000007405500050005c405500050005e1ee00000000000050005c44405000505050005c44405000505050005cc405500050005cc405500050005cc405500050005c405500050005cc405500050005ccc,.orc,G 13 0x1ccc,cm,G 25 0x1405500050005c,cm,G 46 0x1405500050005c405500050005c,cm,G 116 0x10ff0ff405500050005c405500050005c405500050005c405500050005c405500050005c,.orc,G 86 0x1405500050005c405500050005cc405500050005ccc,cm,G 289 0x1067000070000000700000007405500050005c40550005000510f110f10f00000000000050005c44405000505050005c405500050005c405500050005cc405500050005cc405500050005c405500050005cc405500050005c,.orc,G 13 0x1ccc,cm,G 25 0x1405500050005c,cm,G 46 0x1405500050005c405500050005c,cm,G 116 0x111f11f405500050005c405500050005c405500050005c405500050005c405500050005c,.orc,G 60 0x1405500050005c405500050005ccc,cm,G 145 0x1cc405500050005c44405000505050005ccc405500050005c405500050005c44405000505050005c,cm,G 25 0x1405500050005c,cm,G 60 0x1405500050005bb405500050005bbbc,cm,G 4 1,cm,G 27 0x1405500050005b,cm,G 38 0x1405500050005aaaab,cm,G 4 1,cm,G 7 0x1a]
noncomputable def wd1 (P : Params) (n t : Nat) (di io : Addr) (T : Str) (tx k0 k1 k2 p tp : Nat) : List OrcD:=[readD P 2 3 di io T tx k0 k1 k2 (p + 0) (p + 0 + 1) (fun π=>tp) (fun π=>(t + 15)) ⟨#[97]⟩,readD P 2 3 di io T tx k0 k1 k2 (p + 1) (p + 1 + 1) (fun π=>(π 0).a 1) (fun π=>((π 0).t + 25)) ⟨#[98]⟩,tupD 11 (fun π=>(π 1).n) (fun π=>((π 1).t + 12)) (fun π=>((π 1).t + 13)) (fun π=>((π 0).t + 16)),readD P 2 3 di io T tx k0 k1 k2 (p + 2) (p + 2 + 1) (fun π=>(π 1).a 1) (fun π=>((π 1).t + 35)) ⟨#[32]⟩,tupD 13 (fun π=>(π 3).n) (fun π=>((π 3).t + 12)) (fun π=>((π 3).t + 13)) (fun π=>((π 0).t + 16))]
noncomputable def wV1 (n t tt : Nat) (σ : Nat → Sup) : Sup:=⟨((σ 3).n + 1),((σ 3).t + 41),fun i=>match i with | 0=>((σ 1).t + 26) | 1=>((σ 3).a 1) | _=>((σ 3).t + 27),fun _=>(sv " " ((σ 3).t + 19)),fun _=>#[],fun _=>#[],fun _=>#[]⟩
noncomputable def wa2 : List St:=[G 244 0x1067000070000000700000007405500050005c405500050005d1dd00000000000050005ccccc1cc000450000500050005b88888405500050005b1bb000450000500050005a1aa00,.orc,G 13 0x1ccc,cm,G 25 0x1405500050005c,cm,G 46 0x1405500050005c405500050005c,cm,G 394 0x1067000070000000700000007405500050005c4055000500050ff10ff0ff00000000000050005c44405000505050005cc405500050005c405500050005cc405500050005e1ee00000000000050005cc405500050005cc405500050005cc405500050005c405500050005cc405500050005ccc,.orc,G 13 0x1ccc,cm,G 25 0x1405500050005c,cm,G 46 0x1405500050005c405500050005c,cm,G 89 0x1405500050005ccccc405500050005c405500050005c,cm,G 217 0x1067000070000000700000007405500050005c40550005000510f110f10f00000000000050005c44405000505050005c405500050005c405500050005cc405500050005c,.orc,G 13 0x1ccc,cm,G 25 0x1405500050005c,cm,G 46 0x1405500050005c405500050005c,cm,G 89 0x1405500050005ccccc405500050005c405500050005c,cm,G 217 0x1067000070000000700000007405500050005c40550005000511f111f11f00000000000050005c44405000505050005c405500050005c405500050005cc405500050005c,.orc,G 13 0x1ccc,cm,G 25 0x1405500050005c,cm,G 46 0x1405500050005c405500050005c,cm,G 89 0x1405500050005ccccc405500050005c405500050005c,cm,G 168 0x1067000070000000700000007405500050005c40550005000512f112f12f00000000000050005c44405000505050005c405500050005c,.orc,G 13 0x1ccc,cm,G 25 0x1405500050005c,cm,G 46 0x1405500050005c405500050005c,cm,G 116 0x113f13f405500050005c405500050005c405500050005c405500050005c405500050005c,.orc,G 86 0x1405500050005c405500050005cc405500050005ccc,cm,G 194 0x1067000070000000700000007405500050005c40550005000514f114f14f00000000000050005c44405000505050005cc405500050005cc405500050005c,.orc,G 13 0x1ccc,cm,G 25 0x1405500050005c,cm,G 46 0x1405500050005c405500050005c,cm,G 89 0x1405500050005ccccc405500050005c405500050005c,cm,G 217 0x1067000070000000700000007405500050005c40550005000515f115f15f00000000000050005c44405000505050005c405500050005c405500050005cc405500050005c,.orc,G 13 0x1ccc,cm,G 25 0x1405500050005c,cm,G 46 0x1405500050005c405500050005c,cm,G 89 0x1405500050005ccccc405500050005c405500050005c,cm,G 168 0x1067000070000000700000007405500050005c40550005000516f116f16f00000000000050005c44405000505050005c405500050005c,.orc,G 13 0x1ccc,cm,G 25 0x1405500050005c,cm,G 46 0x1405500050005c405500050005c,cm,G 116 0x117f17f405500050005c405500050005c405500050005c405500050005c405500050005c,.orc,G 86 0x1405500050005c405500050005cc405500050005ccc,cm,G 194 0x1067000070000000700000007405500050005c40550005000518f118f18f00000000000050005c44405000505050005cc405500050005cc405500050005c,.orc,G 13 0x1ccc,cm,G 25 0x1405500050005c,cm,G 46 0x1405500050005c405500050005c,cm,G 89 0x1405500050005ccccc405500050005c405500050005c,cm,G 217 0x1067000070000000700000007405500050005c40550005000519f119f19f00000000000050005c44405000505050005c405500050005c405500050005cc405500050005c,.orc,G 13 0x1ccc,cm,G 25 0x1405500050005c,cm,G 46 0x1405500050005c405500050005c,cm,G 89 0x1405500050005ccccc405500050005c405500050005c,cm,G 217 0x1067000070000000700000007405500050005c4055000500051af11af1af00000000000050005c44405000505050005c405500050005c405500050005cc405500050005c,.orc,G 13 0x1ccc,cm,G 25 0x1405500050005c,cm,G 46 0x1405500050005c405500050005c,cm,G 89 0x1405500050005ccccc405500050005c405500050005c,cm,G 217 0x1067000070000000700000007405500050005c4055000500051bf11bf1bf00000000000050005c44405000505050005c405500050005c405500050005cc405500050005c,.orc,G 13 0x1ccc,cm,G 25 0x1405500050005c,cm,G 46 0x1405500050005c405500050005c,cm,G 89 0x1405500050005ccccc405500050005c405500050005c,cm,G 168 0x1067000070000000700000007405500050005c4055000500051cf11cf1cf00000000000050005c44405000505050005c405500050005c,.orc,G 13 0x1ccc,cm,G 25 0x1405500050005c,cm,G 46 0x1405500050005c405500050005c,cm,G 116 0x11df1df405500050005c405500050005c405500050005c405500050005c405500050005c,.orc,G 60 0x1405500050005c405500050005ccc,cm,G 163 0x1405500050005cc405500050005c44405000505050005ccc405500050005c405500050005c44405000505050005c,cm,G 60 0x1405500050005bb405500050005bbbc,cm,G 4 1,cm,G 27 0x1405500050005b,cm,G 38 0x1405500050005aaaab,cm,G 4 1,cm,G 7 0x1a]
noncomputable def wd2 (P : Params) (n t : Nat) (di io : Addr) (T : Str) (tx k0 k1 k2 p tp : Nat) : List OrcD:=[readD P 2 3 di io T tx k0 k1 k2 (p + 0) (p + 0 + 1) (fun π=>tp) (fun π=>(t + 15)) ⟨#[39]⟩,readD P 2 3 di io T tx k0 k1 k2 (p + 1) (p + 1 + 1) (fun π=>(π 0).a 1) (fun π=>((π 0).t + 27)) ⟨#[105]⟩,readD P 2 3 di io T tx k0 k1 k2 (p + 2) (p + 2 + 1) (fun π=>(π 1).a 1) (fun π=>((π 1).t + 24)) ⟨#[116]⟩,readD P 2 3 di io T tx k0 k1 k2 (p + 3) (p + 3 + 1) (fun π=>(π 2).a 1) (fun π=>((π 2).t + 25)) ⟨#[39]⟩,readD P 2 3 di io T tx k0 k1 k2 (p + 4) (p + 4 + 1) (fun π=>(π 3).a 1) (fun π=>((π 3).t + 23)) ⟨#[34]⟩,tupD 15 (fun π=>(π 4).n) (fun π=>((π 4).t + 12)) (fun π=>((π 4).t + 13)) (fun π=>((π 3).t + 14)),readD P 2 3 di io T tx k0 k1 k2 (p + 5) (p + 5 + 1) (fun π=>(π 4).a 1) (fun π=>((π 4).t + 30)) ⟨#[39]⟩,readD P 2 3 di io T tx k0 k1 k2 (p + 6) (p + 6 + 1) (fun π=>(π 6).a 1) (fun π=>((π 6).t + 25)) ⟨#[34]⟩,readD P 2 3 di io T tx k0 k1 k2 (p + 7) (p + 7 + 1) (fun π=>(π 7).a 1) (fun π=>((π 7).t + 23)) ⟨#[39]⟩,tupD 19 (fun π=>(π 8).n) (fun π=>((π 8).t + 12)) (fun π=>((π 8).t + 13)) (fun π=>((π 7).t + 14)),readD P 2 3 di io T tx k0 k1 k2 (p + 8) (p + 8 + 1) (fun π=>(π 8).a 1) (fun π=>((π 8).t + 30)) ⟨#[115]⟩,readD P 2 3 di io T tx k0 k1 k2 (p + 9) (p + 9 + 1) (fun π=>(π 10).a 1) (fun π=>((π 10).t + 25)) ⟨#[32]⟩,readD P 2 3 di io T tx k0 k1 k2 (p + 10) (p + 10 + 1) (fun π=>(π 11).a 1) (fun π=>((π 11).t + 25)) ⟨#[98]⟩,readD P 2 3 di io T tx k0 k1 k2 (p + 11) (p + 11 + 1) (fun π=>(π 12).a 1) (fun π=>((π 12).t + 25)) ⟨#[39]⟩,readD P 2 3 di io T tx k0 k1 k2 (p + 12) (p + 12 + 1) (fun π=>(π 13).a 1) (fun π=>((π 13).t + 23)) ⟨#[32]⟩,tupD 25 (fun π=>(π 14).n) (fun π=>((π 14).t + 12)) (fun π=>((π 14).t + 13)) (fun π=>((π 13).t + 14))]
noncomputable def wV2 (n t tt : Nat) (σ : Nat → Sup) : Sup:=⟨((σ 14).n + 1),((σ 14).t + 40),fun i=>match i with | 0=>((σ 12).t + 16) | 1=>((σ 14).a 1) | _=>((σ 14).t + 27),fun _=>(sv " " ((σ 14).t + 19)),fun _=>#[],fun _=>#[],fun _=>#[]⟩
noncomputable def wa3 : List St:=[G 244 0x1067000070000000700000007405500050005c405500050005d1dd00000000000050005ccccc1cc000450000500050005b88888405500050005b1bb000450000500050005a1aa00,.orc,G 13 0x1ccc,cm,G 25 0x1405500050005c,cm,G 46 0x1405500050005c405500050005c,cm,G 312 0x1067000070000000700000007405500050005c405500050005e1ee00000000000050005c44405000505050005c44405000505050005cc405500050005cc405500050005cc405500050005c405500050005cc405500050005ccc,.orc,G 13 0x1ccc,cm,G 25 0x1405500050005c,cm,G 46 0x1405500050005c405500050005c,cm,G 116 0x10ff0ff405500050005c405500050005c405500050005c405500050005c405500050005c,.orc,G 86 0x1405500050005c405500050005cc405500050005ccc,cm,G 289 0x1067000070000000700000007405500050005c40550005000510f110f10f00000000000050005c44405000505050005c405500050005c405500050005cc405500050005cc405500050005c405500050005cc405500050005c,.orc,G 13 0x1ccc,cm,G 25 0x1405500050005c,cm,G 46 0x1405500050005c405500050005c,cm,G 116 0x111f11f405500050005c405500050005c405500050005c405500050005c405500050005c,.orc,G 60 0x1405500050005c405500050005ccc,cm,G 145 0x1cc405500050005c44405000505050005ccc405500050005c405500050005c44405000505050005c,cm,G 25 0x1405500050005c,cm,G 60 0x1405500050005bb405500050005bbbc,cm,G 4 1,cm,G 27 0x1405500050005b,cm,G 38 0x1405500050005aaaab,cm,G 4 1,cm,G 7 0x1a]
noncomputable def wd3 (P : Params) (n t : Nat) (di io : Addr) (T : Str) (tx k0 k1 k2 p tp : Nat) : List OrcD:=[readD P 2 3 di io T tx k0 k1 k2 (p + 0) (p + 0 + 1) (fun π=>tp) (fun π=>(t + 15)) ⟨#[98]⟩,readD P 2 3 di io T tx k0 k1 k2 (p + 1) (p + 1 + 1) (fun π=>(π 0).a 1) (fun π=>((π 0).t + 25)) ⟨#[98]⟩,tupD 11 (fun π=>(π 1).n) (fun π=>((π 1).t + 12)) (fun π=>((π 1).t + 13)) (fun π=>((π 0).t + 16)),readD P 2 3 di io T tx k0 k1 k2 (p + 2) (p + 2 + 1) (fun π=>(π 1).a 1) (fun π=>((π 1).t + 35)) ⟨#[32]⟩,tupD 13 (fun π=>(π 3).n) (fun π=>((π 3).t + 12)) (fun π=>((π 3).t + 13)) (fun π=>((π 0).t + 16))]
noncomputable def wV3 (n t tt : Nat) (σ : Nat → Sup) : Sup:=⟨((σ 3).n + 1),((σ 3).t + 41),fun i=>match i with | 0=>((σ 1).t + 26) | 1=>((σ 3).a 1) | _=>((σ 3).t + 27),fun _=>(sv " " ((σ 3).t + 19)),fun _=>#[],fun _=>#[],fun _=>#[]⟩
noncomputable def wa4 : List St:=[G 244 0x1067000070000000700000007405500050005c405500050005d1dd00000000000050005ccccc1cc000450000500050005b88888405500050005b1bb000450000500050005a1aa00,.orc,G 13 0x1ccc,cm,G 25 0x1405500050005c,cm,G 46 0x1405500050005c405500050005c,cm,G 312 0x1067000070000000700000007405500050005c405500050005e1ee00000000000050005c44405000505050005c44405000505050005cc405500050005cc405500050005cc405500050005c405500050005cc405500050005ccc,.orc,G 13 0x1ccc,cm,G 25 0x1405500050005c,cm,G 46 0x1405500050005c405500050005c,cm,G 116 0x10ff0ff405500050005c405500050005c405500050005c405500050005c405500050005c,.orc,G 60 0x1405500050005c405500050005ccc,cm,G 145 0x1cc405500050005c44405000505050005ccc405500050005c405500050005c44405000505050005c,cm,G 25 0x1405500050005c,cm,G 60 0x1405500050005bb405500050005bbbc,cm,G 4 1,cm,G 27 0x1405500050005b,cm,G 38 0x1405500050005aaaab,cm,G 4 1,cm,G 7 0x1a]
noncomputable def wd4 (P : Params) (n t : Nat) (di io : Addr) (T : Str) (tx k0 k1 k2 p tp : Nat) : List OrcD:=[readD P 2 3 di io T tx k0 k1 k2 (p + 0) (p + 0 + 1) (fun π=>tp) (fun π=>(t + 15)) ⟨#[98]⟩,readD P 2 3 di io T tx k0 k1 k2 (p + 1) (p + 1 + 1) (fun π=>(π 0).a 1) (fun π=>((π 0).t + 25)) ⟨#[32]⟩,tupD 11 (fun π=>(π 1).n) (fun π=>((π 1).t + 12)) (fun π=>((π 1).t + 13)) (fun π=>((π 0).t + 16))]
noncomputable def wV4 (n t tt : Nat) (σ : Nat → Sup) : Sup:=⟨((σ 1).n + 1),((σ 1).t + 41),fun i=>match i with | 0=>((σ 0).a 0) | 1=>((σ 1).a 1) | _=>((σ 1).t + 27),fun _=>(sv " " ((σ 1).t + 19)),fun _=>#[],fun _=>#[],fun _=>#[]⟩
noncomputable def wa5 : List St:=[G 244 0x1067000070000000700000007405500050005c405500050005d1dd00000000000050005ccccc1cc000450000500050005b88888405500050005b1bb000450000500050005a1aa00,.orc,G 13 0x1ccc,cm,G 25 0x1405500050005c,cm,G 46 0x1405500050005c405500050005c,cm,G 394 0x1067000070000000700000007405500050005c4055000500050ff10ff0ff00000000000050005c44405000505050005cc405500050005c405500050005cc405500050005e1ee00000000000050005cc405500050005cc405500050005cc405500050005c405500050005cc405500050005ccc,.orc,G 13 0x1ccc,cm,G 25 0x1405500050005c,cm,G 46 0x1405500050005c405500050005c,cm,G 89 0x1405500050005ccccc405500050005c405500050005c,cm,G 168 0x1067000070000000700000007405500050005c40550005000510f110f10f00000000000050005c44405000505050005c405500050005c,.orc,G 13 0x1ccc,cm,G 25 0x1405500050005c,cm,G 46 0x1405500050005c405500050005c,cm,G 116 0x111f11f405500050005c405500050005c405500050005c405500050005c405500050005c,.orc,G 60 0x1405500050005c405500050005ccc,cm,G 186 0x1405500050005cc405500050005c44405000505050005ccc405500050005cc405500050005c405500050005c44405000505050005c,cm,G 60 0x1405500050005bb405500050005bbbc,cm,G 4 1,cm,G 27 0x1405500050005b,cm,G 38 0x1405500050005aaaab,cm,G 4 1,cm,G 7 0x1a]
noncomputable def wd5 (P : Params) (n t : Nat) (di io : Addr) (T : Str) (tx k0 k1 k2 p tp : Nat) : List OrcD:=[readD P 2 3 di io T tx k0 k1 k2 (p + 0) (p + 0 + 1) (fun π=>tp) (fun π=>(t + 15)) ⟨#[39]⟩,readD P 2 3 di io T tx k0 k1 k2 (p + 1) (p + 1 + 1) (fun π=>(π 0).a 1) (fun π=>((π 0).t + 27)) ⟨#[39]⟩,readD P 2 3 di io T tx k0 k1 k2 (p + 2) (p + 2 + 1) (fun π=>(π 1).a 1) (fun π=>((π 1).t + 23)) ⟨#[32]⟩,tupD 13 (fun π=>(π 2).n) (fun π=>((π 2).t + 12)) (fun π=>((π 2).t + 13)) (fun π=>((π 1).t + 14))]
noncomputable def wV5 (n t tt : Nat) (σ : Nat → Sup) : Sup:=⟨((σ 2).n + 1),((σ 2).t + 41),fun i=>match i with | 0=>tt | 1=>((σ 2).a 1) | _=>((σ 2).t + 28),fun _=>(sv " " ((σ 2).t + 19)),fun _=>#[],fun _=>#[],fun _=>#[]⟩
noncomputable def wa6 : List St:=[G 244 0x1067000070000000700000007405500050005c405500050005d1dd00000000000050005ccccc1cc000450000500050005b88888405500050005b1bb000450000500050005a1aa00,.orc,G 13 0x1ccc,cm,G 25 0x1405500050005c,cm,G 46 0x1405500050005c405500050005c,cm,G 394 0x1067000070000000700000007405500050005c4055000500050ff10ff0ff00000000000050005c44405000505050005cc405500050005c405500050005cc405500050005e1ee00000000000050005cc405500050005cc405500050005cc405500050005c405500050005cc405500050005ccc,.orc,G 13 0x1ccc,cm,G 25 0x1405500050005c,cm,G 46 0x1405500050005c405500050005c,cm,G 89 0x1405500050005ccccc405500050005c405500050005c,cm,G 217 0x1067000070000000700000007405500050005c40550005000510f110f10f00000000000050005c44405000505050005c405500050005c405500050005cc405500050005c,.orc,G 13 0x1ccc,cm,G 25 0x1405500050005c,cm,G 46 0x1405500050005c405500050005c,cm,G 89 0x1405500050005ccccc405500050005c405500050005c,cm,G 217 0x1067000070000000700000007405500050005c40550005000511f111f11f00000000000050005c44405000505050005c405500050005c405500050005cc405500050005c,.orc,G 13 0x1ccc,cm,G 25 0x1405500050005c,cm,G 46 0x1405500050005c405500050005c,cm,G 89 0x1405500050005ccccc405500050005c405500050005c,cm,G 168 0x1067000070000000700000007405500050005c40550005000512f112f12f00000000000050005c44405000505050005c405500050005c,.orc,G 13 0x1ccc,cm,G 25 0x1405500050005c,cm,G 46 0x1405500050005c405500050005c,cm,G 116 0x113f13f405500050005c405500050005c405500050005c405500050005c405500050005c,.orc,G 60 0x1405500050005c405500050005ccc,cm,G 163 0x1405500050005cc405500050005c44405000505050005ccc405500050005c405500050005c44405000505050005c,cm,G 60 0x1405500050005bb405500050005bbbc,cm,G 4 1,cm,G 27 0x1405500050005b,cm,G 38 0x1405500050005aaaab,cm,G 4 1,cm,G 7 0x1a]
noncomputable def wd6 (P : Params) (n t : Nat) (di io : Addr) (T : Str) (tx k0 k1 k2 p tp : Nat) : List OrcD:=[readD P 2 3 di io T tx k0 k1 k2 (p + 0) (p + 0 + 1) (fun π=>tp) (fun π=>(t + 15)) ⟨#[39]⟩,readD P 2 3 di io T tx k0 k1 k2 (p + 1) (p + 1 + 1) (fun π=>(π 0).a 1) (fun π=>((π 0).t + 27)) ⟨#[97]⟩,readD P 2 3 di io T tx k0 k1 k2 (p + 2) (p + 2 + 1) (fun π=>(π 1).a 1) (fun π=>((π 1).t + 24)) ⟨#[42]⟩,readD P 2 3 di io T tx k0 k1 k2 (p + 3) (p + 3 + 1) (fun π=>(π 2).a 1) (fun π=>((π 2).t + 25)) ⟨#[39]⟩,readD P 2 3 di io T tx k0 k1 k2 (p + 4) (p + 4 + 1) (fun π=>(π 3).a 1) (fun π=>((π 3).t + 23)) ⟨#[32]⟩,tupD 15 (fun π=>(π 4).n) (fun π=>((π 4).t + 12)) (fun π=>((π 4).t + 13)) (fun π=>((π 3).t + 14))]
noncomputable def wV6 (n t tt : Nat) (σ : Nat → Sup) : Sup:=⟨((σ 4).n + 1),((σ 4).t + 40),fun i=>match i with | 0=>((σ 2).t + 16) | 1=>((σ 4).a 1) | _=>((σ 4).t + 27),fun _=>(sv " " ((σ 4).t + 19)),fun _=>#[],fun _=>#[],fun _=>#[]⟩
noncomputable def wa7 : List St:=[G 244 0x1067000070000000700000007405500050005c405500050005d1dd00000000000050005ccccc1cc000450000500050005b88888405500050005b1bb000450000500050005a1aa00,.orc,G 13 0x1ccc,cm,G 25 0x1405500050005c,cm,G 46 0x1405500050005c405500050005c,cm,G 394 0x1067000070000000700000007405500050005c4055000500050ff10ff0ff00000000000050005c44405000505050005cc405500050005c405500050005cc405500050005e1ee00000000000050005cc405500050005cc405500050005cc405500050005c405500050005cc405500050005ccc,.orc,G 13 0x1ccc,cm,G 25 0x1405500050005c,cm,G 46 0x1405500050005c405500050005c,cm,G 89 0x1405500050005ccccc405500050005c405500050005c,cm,G 217 0x1067000070000000700000007405500050005c40550005000510f110f10f00000000000050005c44405000505050005c405500050005c405500050005cc405500050005c,.orc,G 13 0x1ccc,cm,G 25 0x1405500050005c,cm,G 46 0x1405500050005c405500050005c,cm,G 89 0x1405500050005ccccc405500050005c405500050005c,cm,G 217 0x1067000070000000700000007405500050005c40550005000511f111f11f00000000000050005c44405000505050005c405500050005c405500050005cc405500050005c,.orc,G 13 0x1ccc,cm,G 25 0x1405500050005c,cm,G 46 0x1405500050005c405500050005c,cm,G 89 0x1405500050005ccccc405500050005c405500050005c,cm,G 168 0x1067000070000000700000007405500050005c40550005000512f112f12f00000000000050005c44405000505050005c405500050005c,.orc,G 13 0x1ccc,cm,G 25 0x1405500050005c,cm,G 46 0x1405500050005c405500050005c,cm,G 116 0x113f13f405500050005c405500050005c405500050005c405500050005c405500050005c,.orc,G 60 0x1405500050005c405500050005ccc,cm,G 163 0x1405500050005cc405500050005c44405000505050005ccc405500050005c405500050005c44405000505050005c,cm,G 60 0x1405500050005bb405500050005bbbc,cm,G 4 1,cm,G 27 0x1405500050005b,cm,G 38 0x1405500050005aaaab,cm,G 4 1,cm,G 7 0x1a]
noncomputable def wd7 (P : Params) (n t : Nat) (di io : Addr) (T : Str) (tx k0 k1 k2 p tp : Nat) : List OrcD:=[readD P 2 3 di io T tx k0 k1 k2 (p + 0) (p + 0 + 1) (fun π=>tp) (fun π=>(t + 15)) ⟨#[39]⟩,readD P 2 3 di io T tx k0 k1 k2 (p + 1) (p + 1 + 1) (fun π=>(π 0).a 1) (fun π=>((π 0).t + 27)) ⟨#[42]⟩,readD P 2 3 di io T tx k0 k1 k2 (p + 2) (p + 2 + 1) (fun π=>(π 1).a 1) (fun π=>((π 1).t + 24)) ⟨#[98]⟩,readD P 2 3 di io T tx k0 k1 k2 (p + 3) (p + 3 + 1) (fun π=>(π 2).a 1) (fun π=>((π 2).t + 25)) ⟨#[39]⟩,readD P 2 3 di io T tx k0 k1 k2 (p + 4) (p + 4 + 1) (fun π=>(π 3).a 1) (fun π=>((π 3).t + 23)) ⟨#[32]⟩,tupD 15 (fun π=>(π 4).n) (fun π=>((π 4).t + 12)) (fun π=>((π 4).t + 13)) (fun π=>((π 3).t + 14))]
noncomputable def wV7 (n t tt : Nat) (σ : Nat → Sup) : Sup:=⟨((σ 4).n + 1),((σ 4).t + 40),fun i=>match i with | 0=>((σ 2).t + 16) | 1=>((σ 4).a 1) | _=>((σ 4).t + 27),fun _=>(sv " " ((σ 4).t + 19)),fun _=>#[],fun _=>#[],fun _=>#[]⟩
noncomputable def wa8 : List St:=[G 244 0x1067000070000000700000007405500050005c405500050005d1dd00000000000050005ccccc1cc000450000500050005b88888405500050005b1bb000450000500050005a1aa00,.orc,G 13 0x1ccc,cm,G 25 0x1405500050005c,cm,G 46 0x1405500050005c405500050005c,cm,G 394 0x1067000070000000700000007405500050005c4055000500050ff10ff0ff00000000000050005c44405000505050005cc405500050005c405500050005cc405500050005e1ee00000000000050005cc405500050005cc405500050005cc405500050005c405500050005cc405500050005ccc,.orc,G 13 0x1ccc,cm,G 25 0x1405500050005c,cm,G 46 0x1405500050005c405500050005c,cm,G 89 0x1405500050005ccccc405500050005c405500050005c,cm,G 217 0x1067000070000000700000007405500050005c40550005000510f110f10f00000000000050005c44405000505050005c405500050005c405500050005cc405500050005c,.orc,G 13 0x1ccc,cm,G 25 0x1405500050005c,cm,G 46 0x1405500050005c405500050005c,cm,G 89 0x1405500050005ccccc405500050005c405500050005c,cm,G 217 0x1067000070000000700000007405500050005c40550005000511f111f11f00000000000050005c44405000505050005c405500050005c405500050005cc405500050005c,.orc,G 13 0x1ccc,cm,G 25 0x1405500050005c,cm,G 46 0x1405500050005c405500050005c,cm,G 89 0x1405500050005ccccc405500050005c405500050005c,cm,G 168 0x1067000070000000700000007405500050005c40550005000512f112f12f00000000000050005c44405000505050005c405500050005c,.orc,G 13 0x1ccc,cm,G 25 0x1405500050005c,cm,G 46 0x1405500050005c405500050005c,cm,G 116 0x113f13f405500050005c405500050005c405500050005c405500050005c405500050005c,.orc,G 60 0x1405500050005c405500050005ccc,cm,G 163 0x1405500050005cc405500050005c44405000505050005ccc405500050005c405500050005c44405000505050005c,cm,G 60 0x1405500050005bb405500050005bbbc,cm,G 4 1,cm,G 27 0x1405500050005b,cm,G 38 0x1405500050005aaaab,cm,G 4 1,cm,G 7 0x1a]
noncomputable def wd8 (P : Params) (n t : Nat) (di io : Addr) (T : Str) (tx k0 k1 k2 p tp : Nat) : List OrcD:=[readD P 2 3 di io T tx k0 k1 k2 (p + 0) (p + 0 + 1) (fun π=>tp) (fun π=>(t + 15)) ⟨#[39]⟩,readD P 2 3 di io T tx k0 k1 k2 (p + 1) (p + 1 + 1) (fun π=>(π 0).a 1) (fun π=>((π 0).t + 27)) ⟨#[63]⟩,readD P 2 3 di io T tx k0 k1 k2 (p + 2) (p + 2 + 1) (fun π=>(π 1).a 1) (fun π=>((π 1).t + 24)) ⟨#[63]⟩,readD P 2 3 di io T tx k0 k1 k2 (p + 3) (p + 3 + 1) (fun π=>(π 2).a 1) (fun π=>((π 2).t + 25)) ⟨#[39]⟩,readD P 2 3 di io T tx k0 k1 k2 (p + 4) (p + 4 + 1) (fun π=>(π 3).a 1) (fun π=>((π 3).t + 23)) ⟨#[32]⟩,tupD 15 (fun π=>(π 4).n) (fun π=>((π 4).t + 12)) (fun π=>((π 4).t + 13)) (fun π=>((π 3).t + 14))]
noncomputable def wV8 (n t tt : Nat) (σ : Nat → Sup) : Sup:=⟨((σ 4).n + 1),((σ 4).t + 40),fun i=>match i with | 0=>((σ 2).t + 16) | 1=>((σ 4).a 1) | _=>((σ 4).t + 27),fun _=>(sv " " ((σ 4).t + 19)),fun _=>#[],fun _=>#[],fun _=>#[]⟩
noncomputable def wa9 : List St:=[G 244 0x1067000070000000700000007405500050005c405500050005d1dd00000000000050005ccccc1cc000450000500050005b88888405500050005b1bb000450000500050005a1aa00,.orc,G 13 0x1ccc,cm,G 25 0x1405500050005c,cm,G 46 0x1405500050005c405500050005c,cm,G 394 0x1067000070000000700000007405500050005c4055000500050ff10ff0ff00000000000050005c44405000505050005cc405500050005c405500050005cc405500050005e1ee00000000000050005cc405500050005cc405500050005cc405500050005c405500050005cc405500050005ccc,.orc,G 13 0x1ccc,cm,G 25 0x1405500050005c,cm,G 46 0x1405500050005c405500050005c,cm,G 89 0x1405500050005ccccc405500050005c405500050005c,cm,G 217 0x1067000070000000700000007405500050005c40550005000510f110f10f00000000000050005c44405000505050005c405500050005c405500050005cc405500050005c,.orc,G 13 0x1ccc,cm,G 25 0x1405500050005c,cm,G 46 0x1405500050005c405500050005c,cm,G 89 0x1405500050005ccccc405500050005c405500050005c,cm,G 217 0x1067000070000000700000007405500050005c40550005000511f111f11f00000000000050005c44405000505050005c405500050005c405500050005cc405500050005c,.orc,G 13 0x1ccc,cm,G 25 0x1405500050005c,cm,G 46 0x1405500050005c405500050005c,cm,G 89 0x1405500050005ccccc405500050005c405500050005c,cm,G 217 0x1067000070000000700000007405500050005c40550005000512f112f12f00000000000050005c44405000505050005c405500050005c405500050005cc405500050005c,.orc,G 13 0x1ccc,cm,G 25 0x1405500050005c,cm,G 46 0x1405500050005c405500050005c,cm,G 89 0x1405500050005ccccc405500050005c405500050005c,cm,G 217 0x1067000070000000700000007405500050005c40550005000513f113f13f00000000000050005c44405000505050005c405500050005c405500050005cc405500050005c,.orc,G 13 0x1ccc,cm,G 25 0x1405500050005c,cm,G 46 0x1405500050005c405500050005c,cm,G 89 0x1405500050005ccccc405500050005c405500050005c,cm,G 217 0x1067000070000000700000007405500050005c40550005000514f114f14f00000000000050005c44405000505050005c405500050005c405500050005cc405500050005c,.orc,G 13 0x1ccc,cm,G 25 0x1405500050005c,cm,G 46 0x1405500050005c405500050005c,cm,G 89 0x1405500050005ccccc405500050005c405500050005c,cm,G 168 0x1067000070000000700000007405500050005c40550005000515f115f15f00000000000050005c44405000505050005c405500050005c,.orc,G 13 0x1ccc,cm,G 25 0x1405500050005c,cm,G 46 0x1405500050005c405500050005c,cm,G 116 0x116f16f405500050005c405500050005c405500050005c405500050005c405500050005c,.orc,G 142 0x1405500050005cc405500050005c44405000505050005ccc405500050005c44405000505050005cc,cm,G 60 0x1405500050005bb405500050005bbbc,cm,G 4 1,cm,G 27 0x1405500050005b,cm,G 38 0x1405500050005aaaab,cm,G 4 1,cm,G 7 0x1a]
noncomputable def wd9 (P : Params) (n t : Nat) (di io : Addr) (T : Str) (tx k0 k1 k2 p tp : Nat) : List OrcD:=[readD P 2 3 di io T tx k0 k1 k2 (p + 0) (p + 0 + 1) (fun π=>tp) (fun π=>(t + 15)) ⟨#[39]⟩,readD P 2 3 di io T tx k0 k1 k2 (p + 1) (p + 1 + 1) (fun π=>(π 0).a 1) (fun π=>((π 0).t + 27)) ⟨#[91]⟩,readD P 2 3 di io T tx k0 k1 k2 (p + 2) (p + 2 + 1) (fun π=>(π 1).a 1) (fun π=>((π 1).t + 24)) ⟨#[33]⟩,readD P 2 3 di io T tx k0 k1 k2 (p + 3) (p + 3 + 1) (fun π=>(π 2).a 1) (fun π=>((π 2).t + 25)) ⟨#[97]⟩,readD P 2 3 di io T tx k0 k1 k2 (p + 4) (p + 4 + 1) (fun π=>(π 3).a 1) (fun π=>((π 3).t + 25)) ⟨#[93]⟩,readD P 2 3 di io T tx k0 k1 k2 (p + 5) (p + 5 + 1) (fun π=>(π 4).a 1) (fun π=>((π 4).t + 25)) ⟨#[42]⟩,readD P 2 3 di io T tx k0 k1 k2 (p + 6) (p + 6 + 1) (fun π=>(π 5).a 1) (fun π=>((π 5).t + 25)) ⟨#[39]⟩,readD P 2 3 di io T tx k0 k1 k2 (p + 7) (p + 7) (fun π=>(π 6).a 1) (fun π=>((π 6).t + 23)) (q ""),tupD 18 (fun π=>(π 7).n) (fun π=>((π 7).t + 12)) (fun π=>((π 7).t + 13)) (fun π=>((π 6).t + 14))]
noncomputable def wV9 (n t tt : Nat) (σ : Nat → Sup) : Sup:=⟨((σ 7).n + 1),((σ 7).t + 33),fun i=>match i with | 0=>((σ 5).t + 16) | 1=>(σ 7).a 1 | _=>((σ 7).t + 20),fun _=>.none,fun _=>#[],fun _=>#[],fun _=>#[]⟩
theorem runsWords (P : Params) (B : List (Code × Pos)) (n t : Nat) (σ : Nat → Sup) (pos : Pos) (k : Nat → Nat) (dl lex di io dq fs : Addr) (T : Str) (tx k0 k1 k2 p tp ts tt : Nat) : Runs [
 (runC P B wa0 (lexKs P k dl lex di io dq fs (sv " " ts) tt T tx k0 k1 k2 p tp) n t (osAt σ 0 (wd0 P n t di io T tx k0 k1 k2 p tp)) (nextC lex) pos,[0,1,2,3,4,5],(dn (sv "a" ((wV0 n t tt σ).a 0)),[],(lexKs P k dl lex di io dq fs ((wV0 n t tt σ).v 0) ((wV0 n t tt σ).a 2) T tx k0 k1 k2 (p + 2) ((wV0 n t tt σ).a 1)).map some,(wV0 n t tt σ).n,(wV0 n t tt σ).t)),
 (runC P B wa1 (lexKs P k dl lex di io dq fs (sv " " ts) tt T tx k0 k1 k2 p tp) n t (osAt σ 0 (wd1 P n t di io T tx k0 k1 k2 p tp)) (nextC lex) pos,[0,1,2,3,4,5],(dn (sv "ab" ((wV1 n t tt σ).a 0)),[],(lexKs P k dl lex di io dq fs ((wV1 n t tt σ).v 0) ((wV1 n t tt σ).a 2) T tx k0 k1 k2 (p + 3) ((wV1 n t tt σ).a 1)).map some,(wV1 n t tt σ).n,(wV1 n t tt σ).t)),
 (runC P B wa2 (lexKs P k dl lex di io dq fs (sv " " ts) tt T tx k0 k1 k2 p tp) n t (osAt σ 0 (wd2 P n t di io T tx k0 k1 k2 p tp)) (nextC lex) pos,[0,1,2,3,4,5],(dn (sv "it's b" ((wV2 n t tt σ).a 0)),[],(lexKs P k dl lex di io dq fs ((wV2 n t tt σ).v 0) ((wV2 n t tt σ).a 2) T tx k0 k1 k2 (p + 13) ((wV2 n t tt σ).a 1)).map some,(wV2 n t tt σ).n,(wV2 n t tt σ).t)),
 (runC P B wa3 (lexKs P k dl lex di io dq fs (sv " " ts) tt T tx k0 k1 k2 p tp) n t (osAt σ 0 (wd3 P n t di io T tx k0 k1 k2 p tp)) (nextC lex) pos,[0,1,2,3,4,5],(dn (sv "bb" ((wV3 n t tt σ).a 0)),[],(lexKs P k dl lex di io dq fs ((wV3 n t tt σ).v 0) ((wV3 n t tt σ).a 2) T tx k0 k1 k2 (p + 3) ((wV3 n t tt σ).a 1)).map some,(wV3 n t tt σ).n,(wV3 n t tt σ).t)),
 (runC P B wa4 (lexKs P k dl lex di io dq fs (sv " " ts) tt T tx k0 k1 k2 p tp) n t (osAt σ 0 (wd4 P n t di io T tx k0 k1 k2 p tp)) (nextC lex) pos,[0,1,2,3,4,5],(dn (sv "b" ((wV4 n t tt σ).a 0)),[],(lexKs P k dl lex di io dq fs ((wV4 n t tt σ).v 0) ((wV4 n t tt σ).a 2) T tx k0 k1 k2 (p + 2) ((wV4 n t tt σ).a 1)).map some,(wV4 n t tt σ).n,(wV4 n t tt σ).t)),
 (runC P B wa5 (lexKs P k dl lex di io dq fs (sv " " ts) tt T tx k0 k1 k2 p tp) n t (osAt σ 0 (wd5 P n t di io T tx k0 k1 k2 p tp)) (nextC lex) pos,[0,1,2,3,4,5],(dn (sv "" ((wV5 n t tt σ).a 0)),[],(lexKs P k dl lex di io dq fs ((wV5 n t tt σ).v 0) ((wV5 n t tt σ).a 2) T tx k0 k1 k2 (p + 3) ((wV5 n t tt σ).a 1)).map some,(wV5 n t tt σ).n,(wV5 n t tt σ).t)),
 (runC P B wa6 (lexKs P k dl lex di io dq fs (sv " " ts) tt T tx k0 k1 k2 p tp) n t (osAt σ 0 (wd6 P n t di io T tx k0 k1 k2 p tp)) (nextC lex) pos,[0,1,2,3,4,5],(dn (sv "a*" ((wV6 n t tt σ).a 0)),[],(lexKs P k dl lex di io dq fs ((wV6 n t tt σ).v 0) ((wV6 n t tt σ).a 2) T tx k0 k1 k2 (p + 5) ((wV6 n t tt σ).a 1)).map some,(wV6 n t tt σ).n,(wV6 n t tt σ).t)),
 (runC P B wa7 (lexKs P k dl lex di io dq fs (sv " " ts) tt T tx k0 k1 k2 p tp) n t (osAt σ 0 (wd7 P n t di io T tx k0 k1 k2 p tp)) (nextC lex) pos,[0,1,2,3,4,5],(dn (sv "*b" ((wV7 n t tt σ).a 0)),[],(lexKs P k dl lex di io dq fs ((wV7 n t tt σ).v 0) ((wV7 n t tt σ).a 2) T tx k0 k1 k2 (p + 5) ((wV7 n t tt σ).a 1)).map some,(wV7 n t tt σ).n,(wV7 n t tt σ).t)),
 (runC P B wa8 (lexKs P k dl lex di io dq fs (sv " " ts) tt T tx k0 k1 k2 p tp) n t (osAt σ 0 (wd8 P n t di io T tx k0 k1 k2 p tp)) (nextC lex) pos,[0,1,2,3,4,5],(dn (sv "??" ((wV8 n t tt σ).a 0)),[],(lexKs P k dl lex di io dq fs ((wV8 n t tt σ).v 0) ((wV8 n t tt σ).a 2) T tx k0 k1 k2 (p + 5) ((wV8 n t tt σ).a 1)).map some,(wV8 n t tt σ).n,(wV8 n t tt σ).t)),
 (runC P B wa9 (lexKs P k dl lex di io dq fs (sv " " ts) tt T tx k0 k1 k2 p tp) n t (osAt σ 0 (wd9 P n t di io T tx k0 k1 k2 p tp)) (nextC lex) pos,[0,1,2,3,4,5],(dn (sv "[!a]*" ((wV9 n t tt σ).a 0)),[],(lexKs P k dl lex di io dq fs ((wV9 n t tt σ).v 0) ((wV9 n t tt σ).a 2) T tx k0 k1 k2 (p + 7) ((wV9 n t tt σ).a 1)).map some,(wV9 n t tt σ).n,(wV9 n t tt σ).t))]:=by unfold Runs;kernel_rfl
end
section
open PySem.Builtin PySem.Builtin.Str
noncomputable def tokOf : Value → Nat
 | .str _ t=>t
 | _=>0
noncomputable def tokD (P : Params) (k : Nat → Nat) (dl lex di io dq fs : Addr) (T : Str) (tx k0 k1 k2 p p' tp ts tt : Nat) (stv : Sup → Value) (x : String) : OrcD:=
 fnD (fun _=>nextC lex) (fun _=>[(0,dl,lexDict P k io dq fs (sv " " ts) tt),(1,lex,lexO dl),(2,di,ioDict P T tx p k0 k1 k2 tp),(3,io,ioO di),(4,dq,dqO),(5,fs,dqO)])
  (fun _ u=>[lexDict P k io dq fs (stv u) (u.a 2),lexO dl,ioDict P T tx p' k0 k1 k2 (u.a 1),ioO di,dqO,dqO]) (fun _ u=>.ok (.ret (sv x (u.a 0)))) (fun _ _=>[]) (fun _ _=>True)
theorem word0_ok {w : World} {D U : Nat} {π : Nat → Sup} (hD : D ≤ 615) (hU : U ≤ 8100) {k : Nat → Nat} {dl lex di io dq fs : Addr} {T : Str} {tx k0 k1 k2 p tp ts tt : Nat} (h2 : 2 ≤ T.length) (hsz : (T.length : Int) < 2 ^ 63) (hc : ∀ i c,([97,32] : List Nat)[i]? = some c → T.cps[p + i]? = some c) :
 OrcAt w D U π (tokD w.params k dl lex di io dq fs T tx k0 k1 k2 p (p + 2) tp ts tt (fun u=>sv " " (u.a 3)) "a"):=by
 refine fn_ok (by omega) (by omega) rfl (nd rfl) (le4 rfl) fun B n t pos hn=>?_
 refine ⟨wd0 w.params n t di io T tx k0 k1 k2 p tp,wa0,[],fun σ=>⟨(wV0 n t tt σ).n,(wV0 n t tt σ).t,fun i=>match i with | 3=>tokOf ((wV0 n t tt σ).v 0) | i=>(wV0 n t tt σ).a i,fun _=>.none,fun _=>#[],fun _=>#[],fun _=>#[]⟩,orcs_all fun d hd π=>?_,(fun _ h=>nomatch h),List.nodup_nil,fun σ=>⟨rfl,rfl,(runsWords w.params B n t σ pos k dl lex di io dq fs T tx k0 k1 k2 p tp ts tt).get (.head _)⟩,fun _ _=>trivial⟩
 revert d hd
 refine fa_cons ?_ (fa_cons ?_ (fa_cons ?_ (fa_nil)))
 all_goals first | exact tupD_ok | skip
 ·exact read_ok (by omega) (by omega) (by decide) (hc 0 97 rfl) h2 hsz
 ·exact read_ok (by omega) (by omega) (by decide) (hc 1 32 rfl) h2 hsz
theorem word1_ok {w : World} {D U : Nat} {π : Nat → Sup} (hD : D ≤ 615) (hU : U ≤ 8100) {k : Nat → Nat} {dl lex di io dq fs : Addr} {T : Str} {tx k0 k1 k2 p tp ts tt : Nat} (h2 : 2 ≤ T.length) (hsz : (T.length : Int) < 2 ^ 63) (hc : ∀ i c,([97,98,32] : List Nat)[i]? = some c → T.cps[p + i]? = some c) :
 OrcAt w D U π (tokD w.params k dl lex di io dq fs T tx k0 k1 k2 p (p + 3) tp ts tt (fun u=>sv " " (u.a 3)) "ab"):=by
 refine fn_ok (by omega) (by omega) rfl (nd rfl) (le4 rfl) fun B n t pos hn=>?_
 refine ⟨wd1 w.params n t di io T tx k0 k1 k2 p tp,wa1,[],fun σ=>⟨(wV1 n t tt σ).n,(wV1 n t tt σ).t,fun i=>match i with | 3=>tokOf ((wV1 n t tt σ).v 0) | i=>(wV1 n t tt σ).a i,fun _=>.none,fun _=>#[],fun _=>#[],fun _=>#[]⟩,orcs_all fun d hd π=>?_,(fun _ h=>nomatch h),List.nodup_nil,fun σ=>⟨rfl,rfl,(runsWords w.params B n t σ pos k dl lex di io dq fs T tx k0 k1 k2 p tp ts tt).get (.tail _ (.head _))⟩,fun _ _=>trivial⟩
 revert d hd
 refine fa_cons ?_ (fa_cons ?_ (fa_cons ?_ (fa_cons ?_ (fa_cons ?_ (fa_nil)))))
 all_goals first | exact tupD_ok | skip
 ·exact read_ok (by omega) (by omega) (by decide) (hc 0 97 rfl) h2 hsz
 ·exact read_ok (by omega) (by omega) (by decide) (hc 1 98 rfl) h2 hsz
 ·exact read_ok (by omega) (by omega) (by decide) (hc 2 32 rfl) h2 hsz
theorem word2_ok {w : World} {D U : Nat} {π : Nat → Sup} (hD : D ≤ 615) (hU : U ≤ 8100) {k : Nat → Nat} {dl lex di io dq fs : Addr} {T : Str} {tx k0 k1 k2 p tp ts tt : Nat} (h2 : 2 ≤ T.length) (hsz : (T.length : Int) < 2 ^ 63) (hc : ∀ i c,([39,105,116,39,34,39,34,39,115,32,98,39,32] : List Nat)[i]? = some c → T.cps[p + i]? = some c) :
 OrcAt w D U π (tokD w.params k dl lex di io dq fs T tx k0 k1 k2 p (p + 13) tp ts tt (fun u=>sv " " (u.a 3)) "it's b"):=by
 refine fn_ok (by omega) (by omega) rfl (nd rfl) (le4 rfl) fun B n t pos hn=>?_
 refine ⟨wd2 w.params n t di io T tx k0 k1 k2 p tp,wa2,[],fun σ=>⟨(wV2 n t tt σ).n,(wV2 n t tt σ).t,fun i=>match i with | 3=>tokOf ((wV2 n t tt σ).v 0) | i=>(wV2 n t tt σ).a i,fun _=>.none,fun _=>#[],fun _=>#[],fun _=>#[]⟩,orcs_all fun d hd π=>?_,(fun _ h=>nomatch h),List.nodup_nil,fun σ=>⟨rfl,rfl,(runsWords w.params B n t σ pos k dl lex di io dq fs T tx k0 k1 k2 p tp ts tt).get (.tail _ (.tail _ (.head _)))⟩,fun _ _=>trivial⟩
 revert d hd
 refine fa_cons ?_ (fa_cons ?_ (fa_cons ?_ (fa_cons ?_ (fa_cons ?_ (fa_cons ?_ (fa_cons ?_ (fa_cons ?_ (fa_cons ?_ (fa_cons ?_ (fa_cons ?_ (fa_cons ?_ (fa_cons ?_ (fa_cons ?_ (fa_cons ?_ (fa_cons ?_ (fa_nil))))))))))))))))
 all_goals first | exact tupD_ok | skip
 ·exact read_ok (by omega) (by omega) (by decide) (hc 0 39 rfl) h2 hsz
 ·exact read_ok (by omega) (by omega) (by decide) (hc 1 105 rfl) h2 hsz
 ·exact read_ok (by omega) (by omega) (by decide) (hc 2 116 rfl) h2 hsz
 ·exact read_ok (by omega) (by omega) (by decide) (hc 3 39 rfl) h2 hsz
 ·exact read_ok (by omega) (by omega) (by decide) (hc 4 34 rfl) h2 hsz
 ·exact read_ok (by omega) (by omega) (by decide) (hc 5 39 rfl) h2 hsz
 ·exact read_ok (by omega) (by omega) (by decide) (hc 6 34 rfl) h2 hsz
 ·exact read_ok (by omega) (by omega) (by decide) (hc 7 39 rfl) h2 hsz
 ·exact read_ok (by omega) (by omega) (by decide) (hc 8 115 rfl) h2 hsz
 ·exact read_ok (by omega) (by omega) (by decide) (hc 9 32 rfl) h2 hsz
 ·exact read_ok (by omega) (by omega) (by decide) (hc 10 98 rfl) h2 hsz
 ·exact read_ok (by omega) (by omega) (by decide) (hc 11 39 rfl) h2 hsz
 ·exact read_ok (by omega) (by omega) (by decide) (hc 12 32 rfl) h2 hsz
theorem word3_ok {w : World} {D U : Nat} {π : Nat → Sup} (hD : D ≤ 615) (hU : U ≤ 8100) {k : Nat → Nat} {dl lex di io dq fs : Addr} {T : Str} {tx k0 k1 k2 p tp ts tt : Nat} (h2 : 2 ≤ T.length) (hsz : (T.length : Int) < 2 ^ 63) (hc : ∀ i c,([98,98,32] : List Nat)[i]? = some c → T.cps[p + i]? = some c) :
 OrcAt w D U π (tokD w.params k dl lex di io dq fs T tx k0 k1 k2 p (p + 3) tp ts tt (fun u=>sv " " (u.a 3)) "bb"):=by
 refine fn_ok (by omega) (by omega) rfl (nd rfl) (le4 rfl) fun B n t pos hn=>?_
 refine ⟨wd3 w.params n t di io T tx k0 k1 k2 p tp,wa3,[],fun σ=>⟨(wV3 n t tt σ).n,(wV3 n t tt σ).t,fun i=>match i with | 3=>tokOf ((wV3 n t tt σ).v 0) | i=>(wV3 n t tt σ).a i,fun _=>.none,fun _=>#[],fun _=>#[],fun _=>#[]⟩,orcs_all fun d hd π=>?_,(fun _ h=>nomatch h),List.nodup_nil,fun σ=>⟨rfl,rfl,(runsWords w.params B n t σ pos k dl lex di io dq fs T tx k0 k1 k2 p tp ts tt).get (.tail _ (.tail _ (.tail _ (.head _))))⟩,fun _ _=>trivial⟩
 revert d hd
 refine fa_cons ?_ (fa_cons ?_ (fa_cons ?_ (fa_cons ?_ (fa_cons ?_ (fa_nil)))))
 all_goals first | exact tupD_ok | skip
 ·exact read_ok (by omega) (by omega) (by decide) (hc 0 98 rfl) h2 hsz
 ·exact read_ok (by omega) (by omega) (by decide) (hc 1 98 rfl) h2 hsz
 ·exact read_ok (by omega) (by omega) (by decide) (hc 2 32 rfl) h2 hsz
theorem word4_ok {w : World} {D U : Nat} {π : Nat → Sup} (hD : D ≤ 615) (hU : U ≤ 8100) {k : Nat → Nat} {dl lex di io dq fs : Addr} {T : Str} {tx k0 k1 k2 p tp ts tt : Nat} (h2 : 2 ≤ T.length) (hsz : (T.length : Int) < 2 ^ 63) (hc : ∀ i c,([98,32] : List Nat)[i]? = some c → T.cps[p + i]? = some c) :
 OrcAt w D U π (tokD w.params k dl lex di io dq fs T tx k0 k1 k2 p (p + 2) tp ts tt (fun u=>sv " " (u.a 3)) "b"):=by
 refine fn_ok (by omega) (by omega) rfl (nd rfl) (le4 rfl) fun B n t pos hn=>?_
 refine ⟨wd4 w.params n t di io T tx k0 k1 k2 p tp,wa4,[],fun σ=>⟨(wV4 n t tt σ).n,(wV4 n t tt σ).t,fun i=>match i with | 3=>tokOf ((wV4 n t tt σ).v 0) | i=>(wV4 n t tt σ).a i,fun _=>.none,fun _=>#[],fun _=>#[],fun _=>#[]⟩,orcs_all fun d hd π=>?_,(fun _ h=>nomatch h),List.nodup_nil,fun σ=>⟨rfl,rfl,(runsWords w.params B n t σ pos k dl lex di io dq fs T tx k0 k1 k2 p tp ts tt).get (.tail _ (.tail _ (.tail _ (.tail _ (.head _)))))⟩,fun _ _=>trivial⟩
 revert d hd
 refine fa_cons ?_ (fa_cons ?_ (fa_cons ?_ (fa_nil)))
 all_goals first | exact tupD_ok | skip
 ·exact read_ok (by omega) (by omega) (by decide) (hc 0 98 rfl) h2 hsz
 ·exact read_ok (by omega) (by omega) (by decide) (hc 1 32 rfl) h2 hsz
theorem word5_ok {w : World} {D U : Nat} {π : Nat → Sup} (hD : D ≤ 615) (hU : U ≤ 8100) {k : Nat → Nat} {dl lex di io dq fs : Addr} {T : Str} {tx k0 k1 k2 p tp ts tt : Nat} (h2 : 2 ≤ T.length) (hsz : (T.length : Int) < 2 ^ 63) (hc : ∀ i c,([39,39,32] : List Nat)[i]? = some c → T.cps[p + i]? = some c) :
 OrcAt w D U π (tokD w.params k dl lex di io dq fs T tx k0 k1 k2 p (p + 3) tp ts tt (fun u=>sv " " (u.a 3)) ""):=by
 refine fn_ok (by omega) (by omega) rfl (nd rfl) (le4 rfl) fun B n t pos hn=>?_
 refine ⟨wd5 w.params n t di io T tx k0 k1 k2 p tp,wa5,[],fun σ=>⟨(wV5 n t tt σ).n,(wV5 n t tt σ).t,fun i=>match i with | 3=>tokOf ((wV5 n t tt σ).v 0) | i=>(wV5 n t tt σ).a i,fun _=>.none,fun _=>#[],fun _=>#[],fun _=>#[]⟩,orcs_all fun d hd π=>?_,(fun _ h=>nomatch h),List.nodup_nil,fun σ=>⟨rfl,rfl,(runsWords w.params B n t σ pos k dl lex di io dq fs T tx k0 k1 k2 p tp ts tt).get (.tail _ (.tail _ (.tail _ (.tail _ (.tail _ (.head _))))))⟩,fun _ _=>trivial⟩
 revert d hd
 refine fa_cons ?_ (fa_cons ?_ (fa_cons ?_ (fa_cons ?_ (fa_nil))))
 all_goals first | exact tupD_ok | skip
 ·exact read_ok (by omega) (by omega) (by decide) (hc 0 39 rfl) h2 hsz
 ·exact read_ok (by omega) (by omega) (by decide) (hc 1 39 rfl) h2 hsz
 ·exact read_ok (by omega) (by omega) (by decide) (hc 2 32 rfl) h2 hsz
theorem word6_ok {w : World} {D U : Nat} {π : Nat → Sup} (hD : D ≤ 615) (hU : U ≤ 8100) {k : Nat → Nat} {dl lex di io dq fs : Addr} {T : Str} {tx k0 k1 k2 p tp ts tt : Nat} (h2 : 2 ≤ T.length) (hsz : (T.length : Int) < 2 ^ 63) (hc : ∀ i c,([39,97,42,39,32] : List Nat)[i]? = some c → T.cps[p + i]? = some c) :
 OrcAt w D U π (tokD w.params k dl lex di io dq fs T tx k0 k1 k2 p (p + 5) tp ts tt (fun u=>sv " " (u.a 3)) "a*"):=by
 refine fn_ok (by omega) (by omega) rfl (nd rfl) (le4 rfl) fun B n t pos hn=>?_
 refine ⟨wd6 w.params n t di io T tx k0 k1 k2 p tp,wa6,[],fun σ=>⟨(wV6 n t tt σ).n,(wV6 n t tt σ).t,fun i=>match i with | 3=>tokOf ((wV6 n t tt σ).v 0) | i=>(wV6 n t tt σ).a i,fun _=>.none,fun _=>#[],fun _=>#[],fun _=>#[]⟩,orcs_all fun d hd π=>?_,(fun _ h=>nomatch h),List.nodup_nil,fun σ=>⟨rfl,rfl,(runsWords w.params B n t σ pos k dl lex di io dq fs T tx k0 k1 k2 p tp ts tt).get (.tail _ (.tail _ (.tail _ (.tail _ (.tail _ (.tail _ (.head _)))))))⟩,fun _ _=>trivial⟩
 revert d hd
 refine fa_cons ?_ (fa_cons ?_ (fa_cons ?_ (fa_cons ?_ (fa_cons ?_ (fa_cons ?_ (fa_nil))))))
 all_goals first | exact tupD_ok | skip
 ·exact read_ok (by omega) (by omega) (by decide) (hc 0 39 rfl) h2 hsz
 ·exact read_ok (by omega) (by omega) (by decide) (hc 1 97 rfl) h2 hsz
 ·exact read_ok (by omega) (by omega) (by decide) (hc 2 42 rfl) h2 hsz
 ·exact read_ok (by omega) (by omega) (by decide) (hc 3 39 rfl) h2 hsz
 ·exact read_ok (by omega) (by omega) (by decide) (hc 4 32 rfl) h2 hsz
theorem word7_ok {w : World} {D U : Nat} {π : Nat → Sup} (hD : D ≤ 615) (hU : U ≤ 8100) {k : Nat → Nat} {dl lex di io dq fs : Addr} {T : Str} {tx k0 k1 k2 p tp ts tt : Nat} (h2 : 2 ≤ T.length) (hsz : (T.length : Int) < 2 ^ 63) (hc : ∀ i c,([39,42,98,39,32] : List Nat)[i]? = some c → T.cps[p + i]? = some c) :
 OrcAt w D U π (tokD w.params k dl lex di io dq fs T tx k0 k1 k2 p (p + 5) tp ts tt (fun u=>sv " " (u.a 3)) "*b"):=by
 refine fn_ok (by omega) (by omega) rfl (nd rfl) (le4 rfl) fun B n t pos hn=>?_
 refine ⟨wd7 w.params n t di io T tx k0 k1 k2 p tp,wa7,[],fun σ=>⟨(wV7 n t tt σ).n,(wV7 n t tt σ).t,fun i=>match i with | 3=>tokOf ((wV7 n t tt σ).v 0) | i=>(wV7 n t tt σ).a i,fun _=>.none,fun _=>#[],fun _=>#[],fun _=>#[]⟩,orcs_all fun d hd π=>?_,(fun _ h=>nomatch h),List.nodup_nil,fun σ=>⟨rfl,rfl,(runsWords w.params B n t σ pos k dl lex di io dq fs T tx k0 k1 k2 p tp ts tt).get (.tail _ (.tail _ (.tail _ (.tail _ (.tail _ (.tail _ (.tail _ (.head _))))))))⟩,fun _ _=>trivial⟩
 revert d hd
 refine fa_cons ?_ (fa_cons ?_ (fa_cons ?_ (fa_cons ?_ (fa_cons ?_ (fa_cons ?_ (fa_nil))))))
 all_goals first | exact tupD_ok | skip
 ·exact read_ok (by omega) (by omega) (by decide) (hc 0 39 rfl) h2 hsz
 ·exact read_ok (by omega) (by omega) (by decide) (hc 1 42 rfl) h2 hsz
 ·exact read_ok (by omega) (by omega) (by decide) (hc 2 98 rfl) h2 hsz
 ·exact read_ok (by omega) (by omega) (by decide) (hc 3 39 rfl) h2 hsz
 ·exact read_ok (by omega) (by omega) (by decide) (hc 4 32 rfl) h2 hsz
theorem word8_ok {w : World} {D U : Nat} {π : Nat → Sup} (hD : D ≤ 615) (hU : U ≤ 8100) {k : Nat → Nat} {dl lex di io dq fs : Addr} {T : Str} {tx k0 k1 k2 p tp ts tt : Nat} (h2 : 2 ≤ T.length) (hsz : (T.length : Int) < 2 ^ 63) (hc : ∀ i c,([39,63,63,39,32] : List Nat)[i]? = some c → T.cps[p + i]? = some c) :
 OrcAt w D U π (tokD w.params k dl lex di io dq fs T tx k0 k1 k2 p (p + 5) tp ts tt (fun u=>sv " " (u.a 3)) "??"):=by
 refine fn_ok (by omega) (by omega) rfl (nd rfl) (le4 rfl) fun B n t pos hn=>?_
 refine ⟨wd8 w.params n t di io T tx k0 k1 k2 p tp,wa8,[],fun σ=>⟨(wV8 n t tt σ).n,(wV8 n t tt σ).t,fun i=>match i with | 3=>tokOf ((wV8 n t tt σ).v 0) | i=>(wV8 n t tt σ).a i,fun _=>.none,fun _=>#[],fun _=>#[],fun _=>#[]⟩,orcs_all fun d hd π=>?_,(fun _ h=>nomatch h),List.nodup_nil,fun σ=>⟨rfl,rfl,(runsWords w.params B n t σ pos k dl lex di io dq fs T tx k0 k1 k2 p tp ts tt).get (.tail _ (.tail _ (.tail _ (.tail _ (.tail _ (.tail _ (.tail _ (.tail _ (.head _)))))))))⟩,fun _ _=>trivial⟩
 revert d hd
 refine fa_cons ?_ (fa_cons ?_ (fa_cons ?_ (fa_cons ?_ (fa_cons ?_ (fa_cons ?_ (fa_nil))))))
 all_goals first | exact tupD_ok | skip
 ·exact read_ok (by omega) (by omega) (by decide) (hc 0 39 rfl) h2 hsz
 ·exact read_ok (by omega) (by omega) (by decide) (hc 1 63 rfl) h2 hsz
 ·exact read_ok (by omega) (by omega) (by decide) (hc 2 63 rfl) h2 hsz
 ·exact read_ok (by omega) (by omega) (by decide) (hc 3 39 rfl) h2 hsz
 ·exact read_ok (by omega) (by omega) (by decide) (hc 4 32 rfl) h2 hsz
theorem word9_ok {w : World} {D U : Nat} {π : Nat → Sup} (hD : D ≤ 615) (hU : U ≤ 8100) {k : Nat → Nat} {dl lex di io dq fs : Addr} {T : Str} {tx k0 k1 k2 p tp ts tt : Nat} (h2 : 2 ≤ T.length) (hsz : (T.length : Int) < 2 ^ 63) (hc : ∀ i c,([39,91,33,97,93,42,39] : List Nat)[i]? = some c → T.cps[p + i]? = some c) (hend : T.length = p + 7) :
 OrcAt w D U π (tokD w.params k dl lex di io dq fs T tx k0 k1 k2 p (p + 7) tp ts tt (fun _=>.none) "[!a]*"):=by
 refine fn_ok (by omega) (by omega) rfl (nd rfl) (le4 rfl) fun B n t pos hn=>?_
 refine ⟨wd9 w.params n t di io T tx k0 k1 k2 p tp,wa9,[],fun σ=>⟨(wV9 n t tt σ).n,(wV9 n t tt σ).t,fun i=>match i with | 3=>tokOf ((wV9 n t tt σ).v 0) | i=>(wV9 n t tt σ).a i,fun _=>.none,fun _=>#[],fun _=>#[],fun _=>#[]⟩,orcs_all fun d hd π=>?_,(fun _ h=>nomatch h),List.nodup_nil,fun σ=>⟨rfl,rfl,(runsWords w.params B n t σ pos k dl lex di io dq fs T tx k0 k1 k2 p tp ts tt).get (.tail _ (.tail _ (.tail _ (.tail _ (.tail _ (.tail _ (.tail _ (.tail _ (.tail _ (.head _))))))))))⟩,fun _ _=>trivial⟩
 revert d hd
 refine fa_cons ?_ (fa_cons ?_ (fa_cons ?_ (fa_cons ?_ (fa_cons ?_ (fa_cons ?_ (fa_cons ?_ (fa_cons ?_ (fa_cons ?_ (fa_nil)))))))))
 all_goals first | exact tupD_ok | skip
 ·exact read_ok (by omega) (by omega) (by decide) (hc 0 39 rfl) h2 hsz
 ·exact read_ok (by omega) (by omega) (by decide) (hc 1 91 rfl) h2 hsz
 ·exact read_ok (by omega) (by omega) (by decide) (hc 2 33 rfl) h2 hsz
 ·exact read_ok (by omega) (by omega) (by decide) (hc 3 97 rfl) h2 hsz
 ·exact read_ok (by omega) (by omega) (by decide) (hc 4 93 rfl) h2 hsz
 ·exact read_ok (by omega) (by omega) (by decide) (hc 5 42 rfl) h2 hsz
 ·exact read_ok (by omega) (by omega) (by decide) (hc 6 39 rfl) h2 hsz
 ·exact readEnd_ok (by omega) (by omega) (by decide) hend hsz
noncomputable def extC (acc lex : Addr) : Code:=.builtin "list.extend.loop" ⟨[.ref acc,.ref lex,.none],[]⟩
noncomputable def envN (n : Addr) : Env:=⟨⟨.function,[(q "self",.local),(q "token",.local),(q "StopIteration",.globalImplicit)],false,false,[]⟩,n,3,[],q "shlex.__next__.<locals>.",some 1050,r 1049,some n,0⟩
noncomputable abbrev stopE (a : Addr) (head : Value) : Obj:=⟨.type "StopIteration",none,.fields #[.ref a,head,.none,.none,.bool false,.none],#[]⟩
noncomputable def endL1 : List St:=[G 250 0x10670000700000007000000074055000500050ff40550005000510f110f10f000000000000500050ff0ff0ff0ff0ff10ff0ff000450000500050005e88888405500050005e1ee000450000500050005d1dd0000005,.orc,G 13 0x10ff0ff0ff,cm,G 25 0x14055000500050ff,cm,G 137 0x10ff0ff4055000500050ff444050005050500050ff0ff0ff4055000500050ff444050005050500050ff4055000500050ff,cm,G 33 0x14055000500050ff0ff0ff,cm,G 60 0x1405500050005ee405500050005eee0ff,cm,G 90 0x1405500050005dddd405500050005e99999405500050005e,cm]
noncomputable def frN (P : Params) (n t lex : Nat) (t1 : Nat) (LS LL : Addr) (esS esL : Array DictEntry) (epS epL : Nat) (slS slL : Array (Option Value)) : List FrI:=
 [⟨9,n,#[E P "self" t (.ref lex),E P "token" t1 .none],2,#[]⟩,⟨7,LS,esS,epS,slS⟩,⟨8,LL,esL,epL,slL⟩]
noncomputable def dsEnd (P : Params) (n t lex : Nat) (di io : Addr) (T : Str) (tx k0 k1 k2 p tp : Nat) (LS LL : Addr) (esS esL : Array DictEntry) (epS epL : Nat) (slS slL : Array (Option Value)) (envS envL : Env) : List OrcD:=
 [readD P 2 3 di io T tx k0 k1 k2 p p (fun _=>tp) (fun _=>t + 15) (q ""),dep 1 fun π=>noteD 1 (envN n) n ((π 0).n + 1) 14 (stopE ((π 0).n + 2)) [envN n,envS,envL] (frN P n t lex ((π 0).t + 25) LS LL esS esL epS epL slS slL)]
noncomputable def endKs (P : Params) (k : Nat → Nat) (dl lex di io dq fs : Addr) (tt : Nat) (T : Str) (tx k0 k1 k2 p tp : Nat) (acc : Addr) (ys : Array Value) (ea : Nat) (LS LL : Addr) (esS esL : Array DictEntry) (epS epL : Nat) (slS slL : Array (Option Value)) : List (Nat × Obj):=
 lexKs P k dl lex di io dq fs .none tt T tx k0 k1 k2 p tp ++ [(acc,listO ys ea),(LS,frO esS epS slS),(LL,frO esL epL slL)]
noncomputable def endL : List St:=endL1 ++ [G 44 0x112f12f12f12f12f12f12f12f12f12f12f12f12f12f12f12f00,.note,G 2 0x112f]
noncomputable def turnL : List St:=[G 5 0x100005,.orc,G 3 0x1aaa]
theorem runsEnd (P : Params) (B : List (Code × Pos)) (n t : Nat) (σ : Nat → Sup) (pos : Pos) (k : Nat → Nat) (dl lex di io dq fs : Addr) (T : Str) (tx k0 k1 k2 p tp tt : Nat) (acc : Addr) (ys : Array Value) (ea : Nat) (LS LL : Addr) (esS esL : Array DictEntry) (epS epL : Nat) (slS slL : Array (Option Value)) (envS envL : Env) : Runs [
 (runF P B (some [envS,envL]) endL (endKs P k dl lex di io dq fs tt T tx k0 k1 k2 p tp acc ys ea LS LL esS esL epS epL slS slL) n t (osAt σ 0 (dsEnd P n t lex di io T tx k0 k1 k2 p tp LS LL esS esL epS epL slS slL envS envL)) (extC acc lex) pos,[0,1,2,3,4,5,6,7,8],
  (dn .none,[],(endKs P k dl lex di io dq fs ((σ 0).t + 10) T tx k0 k1 k2 p ((σ 0).a 1) acc ys ea LS LL esS esL epS epL ((σ 1).s 1) ((σ 1).s 2)).map some,(σ 1).n,(σ 1).t))]:=by unfold Runs;kernel_rfl
noncomputable def arrOf (k : Nat) (v : Nat → Value) : Array Value:=((List.range k).map v).toArray
theorem arrOf_of (ys : Array Value) : ys = arrOf ys.size fun i=>ys[i]?.getD .none:=by
 unfold arrOf
 apply Array.ext_getElem?
 intro i
 by_cases h : i < ys.size
 ·simp [h]
 ·simp [h]
noncomputable def upTo19 : List Nat:=[0,1,2,3,4,5,6,7,8,9,10,11,12,13,14,15,16,17,18]
theorem runsTurn (P : Params) (B : List (Code × Pos)) (n t : Nat) (σ : Nat → Sup) (pos : Pos) (k : Nat → Nat) (dl lex di io dq fs : Addr) (T : Str) (tx k0 k1 k2 p tp ts tt : Nat) (acc : Addr) (v : Nat → Value) (ea : Nat) (LS LL : Addr) (esS esL : Array DictEntry) (epS epL : Nat) (slS slL : Array (Option Value)) (envS envL : Env) (p' : Nat) (x : String) : Runs (upTo19.flatMap fun m=>[
 (runF P B (some [envS,envL]) turnL (lexKs P k dl lex di io dq fs (sv " " ts) tt T tx k0 k1 k2 p tp ++ [(acc,listO (arrOf m v) ea),(LS,frO esS epS slS),(LL,frO esL epL slL)]) n t (osAt σ 0 [tokD P k dl lex di io dq fs T tx k0 k1 k2 p p' tp ts tt (fun u=>sv " " (u.a 3)) x]) (extC acc lex) pos,[0,1,2,3,4,5,6,7,8],
  (.pure (.again (extC acc lex)),[],(lexKs P k dl lex di io dq fs (sv " " ((σ 0).a 3)) ((σ 0).a 2) T tx k0 k1 k2 p' ((σ 0).a 1) ++ [(acc,Obj.mapSeq (·.push (sv x ((σ 0).a 0))) (listO (arrOf m v) ea)),(LS,frO esS epS slS),(LL,frO esL epL slL)]).map some,(σ 0).n,(σ 0).t)),
 (runF P B (some [envS,envL]) turnL (lexKs P k dl lex di io dq fs (sv " " ts) tt T tx k0 k1 k2 p tp ++ [(acc,listO (arrOf m v) ea),(LS,frO esS epS slS),(LL,frO esL epL slL)]) n t (osAt σ 0 [tokD P k dl lex di io dq fs T tx k0 k1 k2 p p' tp ts tt (fun u=>.none) x]) (extC acc lex) pos,[0,1,2,3,4,5,6,7,8],
  (.pure (.again (extC acc lex)),[],(lexKs P k dl lex di io dq fs .none ((σ 0).a 2) T tx k0 k1 k2 p' ((σ 0).a 1) ++ [(acc,Obj.mapSeq (·.push (sv x ((σ 0).a 0))) (listO (arrOf m v) ea)),(LS,frO esS epS slS),(LL,frO esL epL slL)]).map some,(σ 0).n,(σ 0).t))]):=by unfold Runs;kernel_rfl
noncomputable def cpsOf (x : String) : List Nat:=(q x).cps.toList
noncomputable def chs : List String → List Nat
 | []=>[]
 | x :: l=>cpsOf x ++ match l with
   | []=>[]
   | _ :: _=>32 :: chs l
theorem foldl_chs : ∀ (l : List String) (acc : Array Nat),(l.map q).foldl (fun acc p=>acc ++ (q " ").cps ++ p.cps) acc = acc ++ (l.flatMap fun x=>32 :: cpsOf x).toArray
 | [],acc=>by simp
 | x :: l,acc=>by
   rw [List.map_cons,List.foldl_cons,foldl_chs l,List.flatMap_cons]
   apply Array.toList_inj.mp
   have : (q " ").cps.toList = [32]:=by decide +kernel
   simp [this,cpsOf]
theorem chs_cons : ∀ (l : List String) (x : String),chs (x :: l) = cpsOf x ++ l.flatMap fun x=>32 :: cpsOf x
 | [],x=>by simp [chs]
 | y :: l,x=>by
   rw [List.flatMap_cons]
   show cpsOf x ++ (32 :: chs (y :: l)) = _
   rw [chs_cons l y];simp
theorem txt_chs (x : String) (l : List String) : (txt (x :: l)).cps.toList = chs (x :: l):=by
 rw [chs_cons]
 unfold txt glued
 simp only [List.map_cons,List.drop_succ_cons,List.drop_zero,List.headD_cons]
 rw [foldl_chs]
 simp [cpsOf]
theorem chs_two (x y : String) (l : List String) : chs (x :: y :: l) = cpsOf x ++ 32 :: chs (y :: l):=rfl
theorem drop_at {T : Str} {p : Nat} {a b : List Nat} (h : T.cps.toList.drop p = a ++ b) : ∀ i c,a[i]? = some c → T.cps[p + i]? = some c:=fun i c hc=>by
 rw [← Array.getElem?_toList,← List.getElem?_drop,h]
 obtain ⟨lt,_⟩:=List.getElem?_eq_some_iff.mp hc
 rw [List.getElem?_append_left lt];exact hc
theorem drop_next {T : Str} {p : Nat} {a b : List Nat} (h : T.cps.toList.drop p = a ++ b) : T.cps.toList.drop (p + a.length) = b:=by
 rw [← List.drop_drop,h,List.drop_left]
noncomputable def nine : List String:=["a","ab","it's b","bb","b","","a*","*b","??"]
theorem tok_mid {w : World} {D U : Nat} (hD : D ≤ 615) (hU : U ≤ 8100) {k : Nat → Nat} {dl lex di io dq fs : Addr} {T : Str} {tx k0 k1 k2 p tp ts tt : Nat} (hsz : (T.length : Int) < 2 ^ 63) {x y : String} {l : List String} (hx : x ∈ nine)
 (h : T.cps.toList.drop p = chs (qt x :: y :: l)) : ∃ p',T.cps.toList.drop p' = chs (y :: l) ∧ ∀ π,OrcAt w D U π (tokD w.params k dl lex di io dq fs T tx k0 k1 k2 p p' tp ts tt (fun u=>sv " " (u.a 3)) x):=by
 rw [chs_two] at h
 have h' : T.cps.toList.drop p = (cpsOf (qt x) ++ [32]) ++ chs (y :: l):=by rw [h];simp
 have h2 : 2 ≤ T.length:=by
  have:=congrArg List.length h'
  rw [List.length_drop,List.length_append,List.length_append] at this
  have hl : 1 ≤ (cpsOf (qt x)).length:=by
   have : ∀ x ∈ nine,1 ≤ (cpsOf (qt x)).length:=by decide +kernel
   exact this x hx
  have e : T.cps.toList.length = T.length:=Array.length_toList ..
  rw [e] at this
  simp only [List.length_cons,List.length_nil] at this
  omega
 have hn:=drop_next h'
 have hc:=drop_at h'
 simp only [nine,List.mem_cons,List.not_mem_nil,or_false] at hx
 rcases hx with rfl | rfl | rfl | rfl | rfl | rfl | rfl | rfl | rfl
 ·rw [show cpsOf (qt "a") ++ [32] = [97,32] from by decide +kernel] at hc hn
  exact ⟨_,hn,fun π=>word0_ok hD hU h2 hsz hc⟩
 ·rw [show cpsOf (qt "ab") ++ [32] = [97,98,32] from by decide +kernel] at hc hn
  exact ⟨_,hn,fun π=>word1_ok hD hU h2 hsz hc⟩
 ·rw [show cpsOf (qt "it's b") ++ [32] = [39,105,116,39,34,39,34,39,115,32,98,39,32] from by decide +kernel] at hc hn
  exact ⟨_,hn,fun π=>word2_ok hD hU h2 hsz hc⟩
 ·rw [show cpsOf (qt "bb") ++ [32] = [98,98,32] from by decide +kernel] at hc hn
  exact ⟨_,hn,fun π=>word3_ok hD hU h2 hsz hc⟩
 ·rw [show cpsOf (qt "b") ++ [32] = [98,32] from by decide +kernel] at hc hn
  exact ⟨_,hn,fun π=>word4_ok hD hU h2 hsz hc⟩
 ·rw [show cpsOf (qt "") ++ [32] = [39,39,32] from by decide +kernel] at hc hn
  exact ⟨_,hn,fun π=>word5_ok hD hU h2 hsz hc⟩
 ·rw [show cpsOf (qt "a*") ++ [32] = [39,97,42,39,32] from by decide +kernel] at hc hn
  exact ⟨_,hn,fun π=>word6_ok hD hU h2 hsz hc⟩
 ·rw [show cpsOf (qt "*b") ++ [32] = [39,42,98,39,32] from by decide +kernel] at hc hn
  exact ⟨_,hn,fun π=>word7_ok hD hU h2 hsz hc⟩
 ·rw [show cpsOf (qt "??") ++ [32] = [39,63,63,39,32] from by decide +kernel] at hc hn
  exact ⟨_,hn,fun π=>word8_ok hD hU h2 hsz hc⟩
theorem tok_last {w : World} {D U : Nat} (hD : D ≤ 615) (hU : U ≤ 8100) {k : Nat → Nat} {dl lex di io dq fs : Addr} {T : Str} {tx k0 k1 k2 p tp ts tt : Nat} (hsz : (T.length : Int) < 2 ^ 63)
 (h : T.cps.toList.drop p = chs [qt "[!a]*"]) : T.length = p + 7 ∧ ∀ π,OrcAt w D U π (tokD w.params k dl lex di io dq fs T tx k0 k1 k2 p (p + 7) tp ts tt (fun u=>.none) "[!a]*"):=by
 have h' : T.cps.toList.drop p = [39,91,33,97,93,42,39] ++ []:=by
  rw [h];decide +kernel
 have hl:=congrArg List.length h'
 rw [List.length_drop] at hl
 have e : T.cps.toList.length = T.length:=Array.length_toList ..
 rw [e] at hl
 simp only [List.append_nil,List.length_cons,List.length_nil] at hl
 have hend : T.length = p + 7:=by omega
 exact ⟨hend,fun π=>word9_ok hD hU (by omega) hsz (drop_at h') hend⟩
structure ExtSt where
 st : Value
 tt : Nat
 tp : Nat
 p : Nat
 o : Obj
noncomputable def extNeed (P : Params) (m : Nat → Nat) (k : Nat → Nat) (dl lex di io dq fs : Addr) (st : Value) (tt : Nat) (T : Str) (tx k0 k1 k2 p tp : Nat) (acc : Addr) (o : Obj) (LS LL : Addr) (esS esL : Array DictEntry) (epS epL : Nat) (slS slL : Array (Option Value)) : List (Nat × Nat × Obj):=
 [(m 0,dl,lexDict P k io dq fs st tt),(m 1,lex,lexO dl),(m 2,di,ioDict P T tx p k0 k1 k2 tp),(m 3,io,ioO di),(m 4,dq,dqO),(m 5,fs,dqO),(m 6,acc,o),(m 7,LS,frO esS epS slS),(m 8,LL,frO esL epL slL)]
noncomputable def extFin (P : Params) (k : Nat → Nat) (dl di io dq fs : Addr) (T : Str) (tx k0 k1 k2 : Nat) (esS esL : Array DictEntry) (epS epL : Nat) (u : Sup) : List Obj:=
 [lexDict P k io dq fs .none (u.a 0),lexO dl,ioDict P T tx T.length k0 k1 k2 (u.a 1),ioO di,dqO,dqO,listO (u.x 0) (u.a 2),frO esS epS (u.s 0),frO esL epL (u.s 1)]
noncomputable def extD (P : Params) (c : Code) (m : Nat → Nat) (k : Nat → Nat) (dl lex di io dq fs : Addr) (st : Value) (tt : Nat) (T : Str) (tx k0 k1 k2 p tp : Nat) (acc : Addr) (o : Obj) (LS LL : Addr) (esS esL : Array DictEntry) (epS epL : Nat) (slS slL : Array (Option Value)) (envS envL : Env) (ls : List String) : OrcD:=
 fnF (some [envS,envL]) (fun _=>c) (fun _=>extNeed P m k dl lex di io dq fs st tt T tx k0 k1 k2 p tp acc o LS LL esS esL epS epL slS slL) (fun _=>extFin P k dl di io dq fs T tx k0 k1 k2 esS esL epS epL) (fun _ _=>.ok (.ret .none)) (fun _ _=>[]) (fun _ u=>Ws ls (u.x 0))
theorem mapSeq_push (ys : Array Value) (ea : Nat) (v : Value) : Obj.mapSeq (·.push v) (listO ys ea) = listO (ys.push v) (if (ys.push v).size == ys.size then ea else ea + 1):=rfl
theorem ext_any {w : World} {D U : Nat} {π : Nat → Sup} (hD : D ≤ 540) (hU : U ≤ 7800) {m : Nat → Nat} {k : Nat → Nat} {dl lex di io dq fs : Addr} {tt tx k0 k1 k2 tp ts : Nat} {acc : Addr} {ea : Nat} {LS LL : Addr} {esS esL : Array DictEntry} {epS epL : Nat} {slS slL : Array (Option Value)} {envS envL : Env}
 {init : List String} (hm : ([m 0,m 1,m 2,m 3,m 4,m 5,m 6,m 7,m 8] : List Nat).Nodup) (hinit : ∀ x ∈ init,x ∈ nine) (hlen : init.length ≤ 18) (hsz : ((txt ((init ++ ["[!a]*"]).map qt)).length : Int) < 2 ^ 63)
 (hS : envS.frame = some LS) (hL : envL.frame = some LL) (hkS : envS.scope.kind ≠ .module) (hkL : envL.scope.kind ≠ .module) :
 OrcAny w D U π (extD w.params (extC acc lex) m k dl lex di io dq fs (sv " " ts) tt (txt ((init ++ ["[!a]*"]).map qt)) tx k0 k1 k2 0 tp acc (listO #[] ea) LS LL esS esL epS epL slS slL envS envL (init ++ ["[!a]*"])):=by
 obtain ⟨ls,els⟩ : ∃ ls,ls = init ++ ["[!a]*"]:=⟨_,rfl⟩
 rw [← els] at hsz ⊢
 obtain ⟨T,eT⟩ : ∃ T,T = txt (ls.map qt):=⟨_,rfl⟩
 rw [← eT] at hsz ⊢
 have hN : ls.length = init.length + 1:=by rw [els];simp
 have h0 : T.cps.toList.drop 0 = chs (ls.map qt):=by
  rw [eT,List.drop_zero]
  cases hq : ls.map qt with
  | nil=>have:=congrArg List.length hq;simp at this;rw [this] at hN;simp at hN
  | cons x l=>exact txt_chs x l
 unfold extD
 refine loopF_any (δ:=ExtSt) ls.length (fun _ d=>[lexDict w.params k io dq fs d.st d.tt,lexO dl,ioDict w.params T tx d.p k0 k1 k2 d.tp,ioO di,dqO,dqO,d.o,frO esS epS slS,frO esL epL slL])
  (fun i d=>(∃ v ea,d.o = listO (arrOf i v) ea ∧ Ws (ls.take i) (arrOf i v)) ∧ (i < ls.length → T.cps.toList.drop d.p = chs ((ls.map qt).drop i)) ∧ (i < ls.length → ∃ ts,d.st = sv " " ts) ∧ (i = ls.length → d.st = .none ∧ T.length = d.p))
  ⟨sv " " ts,tt,tp,0,listO #[] ea⟩ (by omega) (by omega) rfl (by kernel_rfl) hm (le4 rfl) rfl ⟨⟨fun _=>.none,ea,rfl,by rw [List.take_zero];exact Ws.nil⟩,fun _=>by simpa using h0,fun _=>⟨ts,rfl⟩,fun h=>by omega⟩ (fun i d=>rfl) ?_ ?_
 ·intro B n t pos i d hn lt hG
  refine Classical.byContradiction fun hX=>?_
  obtain ⟨st,tt,tp,p,o⟩:=d
  obtain ⟨⟨v,ea,ho,hw⟩,hp,hst,_⟩:=hG
  dsimp only at ho hp hst
  obtain ⟨ts,rfl⟩:=hst lt
  subst ho
  have hp:=hp lt
  have hmem : i ∈ upTo19:=by
   have : i < 19:=by omega
   show i ∈ List.range 19
   exact List.mem_range.mpr this
  have hdrop : (ls.map qt).drop i = qt ls[i] :: (ls.map qt).drop (i + 1):=by
   rw [List.drop_eq_getElem_cons (by simpa using lt),List.getElem_map]
  have wpush : ∀ tk,Ws (ls.take (i + 1)) ((arrOf i v).push (sv ls[i] tk)):=fun tk=>by
   rw [take_succ lt];exact hw.push _ _
  have osz : (arrOf i v).size = i:=by unfold arrOf;simp
  have onext : ∀ tk,∃ v' ea',Obj.mapSeq (·.push (sv ls[i] tk)) (listO (arrOf i v) ea) = listO (arrOf (i + 1) v') ea' ∧ Ws (ls.take (i + 1)) (arrOf (i + 1) v'):=fun tk=>by
   have e:=arrOf_of ((arrOf i v).push (sv ls[i] tk))
   rw [Array.size_push,osz] at e
   refine ⟨_,_,(mapSeq_push _ _ _).trans (congrArg (fun a=>listO a (if ((arrOf i v).push (sv ls[i] tk)).size == (arrOf i v).size then ea else ea + 1)) e),?_⟩
   rw [← e]
   exact wpush tk
  by_cases hi : i + 1 < ls.length
  ·have hx : ls[i] ∈ nine:=by
    have e : ls[i] = init[i]'(by omega):=by simp only [els];rw [List.getElem_append_left (by omega)]
    rw [e];exact hinit _ (List.getElem_mem _)
   have hdrop2 : (ls.map qt).drop (i + 1) = qt ls[i + 1] :: (ls.map qt).drop (i + 2):=by
    rw [List.drop_eq_getElem_cons (by simpa using hi),List.getElem_map]
   rw [hdrop,hdrop2] at hp
   obtain ⟨p',hp',hO⟩:=tok_mid (w:=w) (D:=D + 75) (U:=U + 300) (by omega) (by omega) (k:=k) (dl:=dl) (lex:=lex) (di:=di) (io:=io) (dq:=dq) (fs:=fs) (tx:=tx) (k0:=k0) (k1:=k1) (k2:=k2) (tp:=tp) (ts:=ts) (tt:=tt) hsz hx hp
   refine hX ⟨[tokD w.params k dl lex di io dq fs T tx k0 k1 k2 p p' tp ts tt (fun u=>sv " " (u.a 3)) ls[i]],turnL,fun σ=>⟨sv " " ((σ 0).a 3),(σ 0).a 2,(σ 0).a 1,p',Obj.mapSeq (·.push (sv ls[i] ((σ 0).a 0))) (listO (arrOf i v) ea)⟩,fun σ=>(σ 0).n,fun σ=>(σ 0).t,one_ok hO,fun σ=>?_,fun σ _=>⟨onext _,fun _=>by rw [hdrop2];exact hp',fun _=>⟨_,rfl⟩,fun h=>by omega⟩⟩
   exact (runsTurn w.params B n t σ pos k dl lex di io dq fs T tx k0 k1 k2 p tp ts tt acc v ea LS LL esS esL epS epL slS slL envS envL p' ls[i]).get (List.mem_flatMap.mpr ⟨i,hmem,.head _⟩)
  ·have hx : ls[i] = "[!a]*":=by
    have : i = init.length:=by omega
    subst this
    simp only [els]
    rw [List.getElem_append_right (by omega)]
    simp
   have hdrop2 : (ls.map qt).drop (i + 1) = []:=by
    rw [List.drop_eq_nil_iff];simp;omega
   rw [hdrop,hdrop2,hx] at hp
   obtain ⟨hend,hO⟩:=tok_last (w:=w) (D:=D + 75) (U:=U + 300) (by omega) (by omega) (k:=k) (dl:=dl) (lex:=lex) (di:=di) (io:=io) (dq:=dq) (fs:=fs) (tx:=tx) (k0:=k0) (k1:=k1) (k2:=k2) (tp:=tp) (ts:=ts) (tt:=tt) hsz hp
   rw [hx] at onext
   refine hX ⟨[tokD w.params k dl lex di io dq fs T tx k0 k1 k2 p (p + 7) tp ts tt (fun u=>.none) "[!a]*"],turnL,fun σ=>⟨.none,(σ 0).a 2,(σ 0).a 1,p + 7,Obj.mapSeq (·.push (sv "[!a]*" ((σ 0).a 0))) (listO (arrOf i v) ea)⟩,fun σ=>(σ 0).n,fun σ=>(σ 0).t,one_ok hO,fun σ=>?_,fun σ _=>⟨onext _,fun h=>by omega,fun h=>by omega,fun _=>⟨rfl,hend⟩⟩⟩
   exact (runsTurn w.params B n t σ pos k dl lex di io dq fs T tx k0 k1 k2 p tp ts tt acc v ea LS LL esS esL epS epL slS slL envS envL (p + 7) "[!a]*").get (List.mem_flatMap.mpr ⟨i,hmem,.tail _ (.head _)⟩)
 ·intro B n t pos d hn hG
  refine Classical.byContradiction fun hX=>?_
  obtain ⟨st,tt,tp,p,o⟩:=d
  obtain ⟨⟨v,ea,ho,hw⟩,_,_,hst⟩:=hG
  dsimp only at ho hst
  obtain ⟨rfl,hp⟩:=hst rfl
  subst ho
  rw [List.take_length] at hw
  subst hp
  refine hX ⟨dsEnd w.params n t lex di io T tx k0 k1 k2 T.length tp LS LL esS esL epS epL slS slL envS envL,endL,[],fun σ=>⟨(σ 1).n,(σ 1).t,fun i=>match i with | 0=>(σ 0).t + 10 | 1=>(σ 0).a 1 | _=>ea,fun _=>.none,fun _=>arrOf ls.length v,fun _=>#[],fun i=>match i with | 0=>(σ 1).s 1 | _=>(σ 1).s 2⟩,orcs_all (at_two (fun π=>readEnd_ok (by omega) (by omega) (by decide) rfl hsz) fun π=>?_),(fun _ h=>nomatch h),List.nodup_nil,fun σ=>⟨rfl,rfl,?_⟩,fun σ _=>hw⟩
  ·exact (note_ok (w:=w) (D:=D + 75) (U:=U + 300) (π:=π) (kd:=1) (env:=envN n) (L:=n) (e:=(π 0).n + 1) (ie:=14) (oe:=stopE ((π 0).n + 2)) (outer:=[envS,envL]) (fr:=frN w.params n t lex ((π 0).t + 25) LS LL esS esL epS epL slS slL) (vs:=fun v=>#[.ref ((π 0).n + 2),v,.none,.none,.bool false,.none]) (.inl rfl) rfl ⟨by simp [frN,hS,hL,envN],fun e he=>by
    simp only [List.mem_cons,List.not_mem_nil,or_false] at he
    rcases he with rfl | rfl | rfl
    ·intro h;cases h
    ·exact hkS
    ·exact hkL⟩ (fun v=>rfl) (fun v=>rfl) (fun v v'=>rfl) : OrcAt w (D + 75) (U + 300) π (noteD 1 (envN n) n ((π 0).n + 1) 14 (stopE ((π 0).n + 2)) [envN n,envS,envL] (frN w.params n t lex ((π 0).t + 25) LS LL esS esL epS epL slS slL)))
  ·exact (runsEnd w.params B n t σ pos k dl lex di io dq fs T tx k0 k1 k2 T.length tp tt acc (arrOf ls.length v) ea LS LL esS esL epS epL slS slL envS envL).get (.head _)
theorem seqF_any {w : World} {D U : Nat} {π : Nat → Sup} {c : Code} {need : List (Nat × Nat × Obj)} {fin : Sup → List Obj} {r : Sup → Result} {out : Sup → List (Nat × Obj)} {F : Sup → Prop} {fs : Option (List Env)}
 (hD : D + 75 ≤ 840) (hU : U + 300 ≤ 9000) (hc : c.isCaller = false) (hnum : (need.map (·.1)).Nodup) (hlen : need.length < 4096) (hfl : ∀ u,(fin u).length = need.length)
 (h : ∀ (B : List (Code × Pos)) (n t : Nat) (p : Pos),1106 ≤ n → X6 fun (ds : List OrcD) (l : List St) (fin1 : (Nat → Sup) → List Obj) (c2 : Code) (nn kk : (Nat → Sup) → Nat)=>(∀ j d,ds[j]? = some d → OrcOK w (D + 75) (U + 300) ds j d) ∧ c2.quiet = true ∧
  (∀ σ,(fin1 σ).length = need.length ∧ Ends (runF w.params B fs l (need.map (·.2)) n t (osAt σ 0 ds) c p) (List.range need.length) (.pure (.again c2),[],obsOf need (fin1 σ) [],nn σ,kk σ)) ∧
  ∀ σ,(∀ (i : Nat) (d : OrcD),ds[i]? = some d → d.F (tr i σ) (σ i)) → OrcAny w D U π (fnF fs (fun _=>c2) (fun _=>updOf need (fin1 σ)) (fun _=>fin) (fun _=>r) (fun _=>out) (fun _=>F))) :
 OrcAny w D U π (fnF fs (fun _=>c) (fun _=>need) (fun _=>fin) (fun _=>r) (fun _=>out) (fun _=>F)):=by
 refine ⟨rfl,?_⟩
 intro Γ p s hcode Fi hfs ho hz hA
 have hA : At w.params need s:=hA
 obtain ⟨ds,l,fin1,c2,nn,kk,hds,hq,hrun,hnext⟩:=h Γ.below s.heap.objs.size s.toks p hz
 refine run_go (vs:=List.range need.length ++ []) (n1:=nn) (k1:=kk) (t1:=fun σ=>.pure (.again c2)) (obs:=fun σ=>obsOf need (fin1 σ) []) Fi hD hU hds hcode hfs (fun σ=>by rw [List.append_nil];exact (hrun σ).2) ho hlen hA hnum hc ?_
 intro σ s1 hf e1 e2 K O hA1 hfr
 refine TailOK.again hq fun p2=>?_
 have hA2:=At.upd hA hnum (hrun σ).1 hA1
 obtain ⟨r',s2,hr,u,hru,hp,hF⟩:=(hnext σ hf).2 (Γ.goto c2) p2 s1 rfl ⟨Fi.handled,Fi.depth,Fi.units⟩ hfs O (Nat.le_trans hz K.size) hA2
 refine ⟨r',s2,hr,u,hru,?_,hF⟩
 have hup : updOf (updOf need (fin1 σ)) (fin u) = updOf need (fin u):=updOf_upd (hrun σ).1 (hfl u)
 refine ⟨hp.gens.trans K.gens,hp.drawn.trans K.drawn,hp.os.trans K.os,Nat.le_trans K.size hp.size,fun b v hb hn=>?_,fun x hx=>?_,fun x hx=>?_,hp.nod,hp.sz⟩
 ·have hn' : ∀ x ∈ updOf need (fin u),b ≠ x.2.1:=hn
  refine hp.keep b v (K.keep b v hb fun hm=>?_) (fun x hx=>?_)
  ·rw [← updOf_adr (hfl u)] at hm
   obtain ⟨x,hx,rfl⟩:=List.mem_map.mp hm
   exact hn' x hx rfl
  ·have hx' : x ∈ updOf (updOf need (fin1 σ)) (fin u):=hx
   rw [hup] at hx'
   exact hn' x hx'
 ·have hx' : x ∈ updOf need (fin u):=hx
  rw [← hup] at hx'
  exact hp.upd x hx'
 ·have:=hp.out x hx
  exact ⟨Nat.le_trans K.size this.1,this.2⟩
noncomputable def initC (acc lex : Addr) : Code:=.call (.builtin "list.__init__") ⟨[.ref acc,.ref lex],[]⟩
noncomputable def initL1 : List St:=[G 6 0x1aaaaa]
noncomputable def initL2 : List St:=[G 9 0x1000500055,.cmp 1 [0] 1 [0],G 34 0x1aaaaaa000500050005d1dd00]
theorem runsInit (P : Params) (B : List (Code × Pos)) (n t : Nat) (σ : Nat → Sup) (pos : Pos) (k : Nat → Nat) (dl lex di io dq fs : Addr) (T : Str) (tx k0 k1 k2 p tp ts tt : Nat) (acc : Addr) (ea : Nat) (LS LL : Addr) (esS esL : Array DictEntry) (epS epL : Nat) (slS slL : Array (Option Value)) (envS envL : Env) : Runs [
 (runF P B (some [envS,envL]) initL1 (lexKs P k dl lex di io dq fs (sv " " ts) tt T tx k0 k1 k2 p tp ++ [(acc,listO #[] ea),(LS,frO esS epS slS),(LL,frO esL epL slL)]) n t (osAt σ 0 []) (initC acc lex) pos,[0,1,2,3,4,5,6,7,8],
  (PySem.W.Fast.tw8938917530802602619 (.ref acc) (.ref lex) .none,[],(lexKs P k dl lex di io dq fs (sv " " ts) tt T tx k0 k1 k2 p tp ++ [(acc,listO #[] ea),(LS,frO esS epS slS),(LL,frO esL epL slL)]).map some,n,t))]:=by unfold Runs;kernel_rfl
theorem bind_R {α β : Type} (m : Sem α) (f : α → Sem β) : (m >>= f) = R.bindR m f:=by rw [← R.bindR_eq];rfl
noncomputable def extTail (acc lex : Addr) : { t : Sem Fin // acc ≠ lex → Builtin.List.listExtendWith (.ref acc) (.ref lex) .none = t }:=by
 refine ⟨?t,fun hne=>?h⟩
 case h=>
  unfold Builtin.List.listExtendWith
  simp only [show Builtin.List.listSameRef (.ref acc) (.ref lex) = false from by simp [Builtin.List.listSameRef,hne],Bool.false_or,bind_R]
  rw [PySem.W.Fast.te14684505520029207082,PySem.W.Fast.te8711993805878244202,PySem.W.Fast.te15112759502256325868,PySem.W.Fast.te922294955767894045,PySem.W.Fast.te17359229931016689406]
theorem runsInit2 (P : Params) (B : List (Code × Pos)) (n t : Nat) (σ : Nat → Sup) (pos : Pos) (c : Code) (k : Nat → Nat) (dl lex di io dq fs : Addr) (T : Str) (tx k0 k1 k2 p tp ts tt : Nat) (acc : Addr) (ea : Nat) (LS LL : Addr) (esS esL : Array DictEntry) (epS epL : Nat) (slS slL : Array (Option Value)) (envS envL : Env) : Runs [
 (runT P B (some [envS,envL]) initL2 (lexKs P k dl lex di io dq fs (sv " " ts) tt T tx k0 k1 k2 p tp ++ [(acc,listO #[] ea),(LS,frO esS epS slS),(LL,frO esL epL slL)]) n t (osAt σ 0 []) c pos (extTail acc lex).1,[0,1,2,3,4,5,6,7,8],
  (.pure (.again (extC acc lex)),[],(lexKs P k dl lex di io dq fs (sv " " ts) tt T tx k0 k1 k2 p tp ++ [(acc,listO #[] (ea + 2)),(LS,frO esS epS slS),(LL,frO esL epL slL)]).map some,n + 1,t + 1))]:=by unfold Runs;kernel_rfl
theorem init_any {w : World} {D U : Nat} {π : Nat → Sup} (hD : D ≤ 540) (hU : U ≤ 7800) {m : Nat → Nat} {k : Nat → Nat} {dl lex di io dq fs : Addr} {tt tx k0 k1 k2 tp ts : Nat} {acc : Addr} {ea : Nat} {LS LL : Addr} {esS esL : Array DictEntry} {epS epL : Nat} {slS slL : Array (Option Value)} {envS envL : Env}
 {init : List String} (hm : ([m 0,m 1,m 2,m 3,m 4,m 5,m 6,m 7,m 8] : List Nat).Nodup) (hinit : ∀ x ∈ init,x ∈ nine) (hlen : init.length ≤ 18) (hsz : ((txt ((init ++ ["[!a]*"]).map qt)).length : Int) < 2 ^ 63)
 (hS : envS.frame = some LS) (hL : envL.frame = some LL) (hkS : envS.scope.kind ≠ .module) (hkL : envL.scope.kind ≠ .module) :
 OrcAny w D U π (extD w.params (initC acc lex) m k dl lex di io dq fs (sv " " ts) tt (txt ((init ++ ["[!a]*"]).map qt)) tx k0 k1 k2 0 tp acc (listO #[] ea) LS LL esS esL epS epL slS slL envS envL (init ++ ["[!a]*"])):=by
 have next:=ext_any (w:=w) (D:=D) (U:=U) (π:=π) hD hU (m:=m) (k:=k) (dl:=dl) (lex:=lex) (di:=di) (io:=io) (dq:=dq) (fs:=fs) (tt:=tt) (tx:=tx) (k0:=k0) (k1:=k1) (k2:=k2) (tp:=tp) (ts:=ts) (acc:=acc) (ea:=ea + 2) (esS:=esS) (esL:=esL) (epS:=epS) (epL:=epL) (slS:=slS) (slL:=slL) hm hinit hlen hsz hS hL hkS hkL
 unfold extD at next ⊢
 refine ⟨rfl,?_⟩
 intro Γ p s hcode Fi hfs ho hz hA
 have hA : At w.params (extNeed w.params m k dl lex di io dq fs (sv " " ts) tt (txt ((init ++ ["[!a]*"]).map qt)) tx k0 k1 k2 0 tp acc (listO #[] ea) LS LL esS esL epS epL slS slL) s:=hA
 have hm' : ((extNeed w.params m k dl lex di io dq fs (sv " " ts) tt (txt ((init ++ ["[!a]*"]).map qt)) tx k0 k1 k2 0 tp acc (listO #[] ea) LS LL esS esL epS epL slS slL).map (·.1)).Nodup:=hm
 have hne : acc ≠ lex:=fun e=>by
  have z : m 6 = m 1:=hA.inj (m 6,acc,listO #[] ea) (List.mem_of_getElem? (i:=6) rfl) (m 1,lex,lexO dl) (List.mem_of_getElem? (i:=1) rfl) e
  exact List.pairwise_iff_getElem.mp hm 1 6 (by show 1 < 9;decide) (by show 6 < 9;decide) (by decide) z.symm
 refine run_go (n1:=fun _=>s.heap.objs.size) (k1:=fun _=>s.toks) (t1:=fun _=>PySem.W.Fast.tw8938917530802602619 (.ref acc) (.ref lex) .none) (obs:=fun _=>obsOf (extNeed w.params m k dl lex di io dq fs (sv " " ts) tt (txt ((init ++ ["[!a]*"]).map qt)) tx k0 k1 k2 0 tp acc (listO #[] ea) LS LL esS esL epS epL slS slL) ((extNeed w.params m k dl lex di io dq fs (sv " " ts) tt (txt ((init ++ ["[!a]*"]).map qt)) tx k0 k1 k2 0 tp acc (listO #[] ea) LS LL esS esL epS epL slS slL).map (·.2.2)) []) (vs:=List.range (extNeed w.params m k dl lex di io dq fs (sv " " ts) tt (txt ((init ++ ["[!a]*"]).map qt)) tx k0 k1 k2 0 tp acc (listO #[] ea) LS LL esS esL epS epL slS slL).length ++ []) Fi (by omega) (by omega) none_ok hcode hfs (fun σ=>(runsInit w.params Γ.below s.heap.objs.size s.toks σ p k dl lex di io dq fs (txt ((init ++ ["[!a]*"]).map qt)) tx k0 k1 k2 0 tp ts tt acc ea LS LL esS esL epS epL slS slL envS envL).get (.head _)) ho (le4 rfl) hA hm' rfl ?_
 intro σ s1 _ e1 e2 K O hA1 _ p1 c1 hc1
 rw [← PySem.W.Fast.te8938917530802602619,(extTail acc lex).2 hne]
 have hA2 : At w.params (extNeed w.params m k dl lex di io dq fs (sv " " ts) tt (txt ((init ++ ["[!a]*"]).map qt)) tx k0 k1 k2 0 tp acc (listO #[] ea) LS LL esS esL epS epL slS slL) s1:=by
  have z:=At.upd hA hm' (fin:=(extNeed w.params m k dl lex di io dq fs (sv " " ts) tt (txt ((init ++ ["[!a]*"]).map qt)) tx k0 k1 k2 0 tp acc (listO #[] ea) LS LL esS esL epS epL slS slL).map (·.2.2)) (by simp) hA1
  rw [updOf_same] at z
  exact z
 refine tree_go (Γ:=Γ) (n1:=fun _=>s1.heap.objs.size + 1) (k1:=fun _=>s1.toks + 1) (t1:=fun _=>.pure (.again (extC acc lex))) (obs:=fun _=>obsOf (extNeed w.params m k dl lex di io dq fs (sv " " ts) tt (txt ((init ++ ["[!a]*"]).map qt)) tx k0 k1 k2 0 tp acc (listO #[] ea) LS LL esS esL epS epL slS slL) ((extNeed w.params m k dl lex di io dq fs (sv " " ts) tt (txt ((init ++ ["[!a]*"]).map qt)) tx k0 k1 k2 0 tp acc (listO #[] (ea + 2)) LS LL esS esL epS epL slS slL).map (·.2.2)) []) (vs:=List.range (extNeed w.params m k dl lex di io dq fs (sv " " ts) tt (txt ((init ++ ["[!a]*"]).map qt)) tx k0 k1 k2 0 tp acc (listO #[] ea) LS LL esS esL epS epL slS slL).length ++ []) (l:=initL2) Fi (by omega) (by omega) none_ok hfs (fun σ=>?_) O (le4 rfl) hA2 hm' hc1 ?_
 ·exact (runsInit2 w.params Γ.below s1.heap.objs.size s1.toks σ p1 c1 k dl lex di io dq fs (txt ((init ++ ["[!a]*"]).map qt)) tx k0 k1 k2 0 tp ts tt acc ea LS LL esS esL epS epL slS slL envS envL).get (.head _)
 ·intro σ s2 _ f1 f2 K2 O2 hA3 _
  refine TailOK.again (by kernel_rfl) fun p2=>?_
  have hA4 : At w.params (extNeed w.params m k dl lex di io dq fs (sv " " ts) tt (txt ((init ++ ["[!a]*"]).map qt)) tx k0 k1 k2 0 tp acc (listO #[] (ea + 2)) LS LL esS esL epS epL slS slL) s2:=by
   have z:=At.upd hA2 hm' (fin:=(extNeed w.params m k dl lex di io dq fs (sv " " ts) tt (txt ((init ++ ["[!a]*"]).map qt)) tx k0 k1 k2 0 tp acc (listO #[] (ea + 2)) LS LL esS esL epS epL slS slL).map (·.2.2)) (by rfl) hA3
   exact z
  obtain ⟨r',s3,hr,u,hru,hp,hF⟩:=next.2 (Γ.goto (extC acc lex)) p2 s2 rfl ⟨Fi.handled,Fi.depth,Fi.units⟩ hfs O2 (Nat.le_trans hz (Nat.le_trans K.size K2.size)) hA4
  refine ⟨r',s3,hr,u,hru,?_,hF⟩
  have KK:=K.trans K2
  refine ⟨hp.gens.trans KK.gens,hp.drawn.trans KK.drawn,hp.os.trans KK.os,Nat.le_trans KK.size hp.size,fun b v hb hn=>hp.keep b v (KK.keep b v hb fun hm=>?_) hn,hp.upd,fun x hx=>?_,hp.nod,hp.sz⟩
  ·have hn' : ∀ x ∈ updOf (extNeed w.params m k dl lex di io dq fs (sv " " ts) tt (txt ((init ++ ["[!a]*"]).map qt)) tx k0 k1 k2 0 tp acc (listO #[] ea) LS LL esS esL epS epL slS slL) (extFin w.params k dl di io dq fs (txt ((init ++ ["[!a]*"]).map qt)) tx k0 k1 k2 esS esL epS epL u),b ≠ x.2.1:=hn
   rw [← updOf_adr (os:=extFin w.params k dl di io dq fs (txt ((init ++ ["[!a]*"]).map qt)) tx k0 k1 k2 esS esL epS epL u) rfl] at hm
   obtain ⟨x,hx,rfl⟩:=List.mem_map.mp hm
   exact hn' x hx rfl
  ·have:=hp.out x hx
   exact ⟨Nat.le_trans KK.size this.1,this.2⟩
noncomputable def splitC (T : Str) (tx : Nat) : Code:=.call (.ref 1065) ⟨[.str T tx],[]⟩
noncomputable def envS (n : Addr) : Env:=⟨⟨.function,[(q "s",.local),(q "comments",.local),(q "posix",.local),(q "lex",.local),(q "ValueError",.globalImplicit),(q "shlex",.globalImplicit),(q "list",.globalImplicit)],false,false,[]⟩,n,3,[],q "split.<locals>.",some 1065,r 1064,some n,0⟩
noncomputable def kS (t : Nat) : Nat → Nat:=fun i=>match i with | 0=>t + 36 | 1=>t + 38 | 2=>t + 40 | 3=>t + 42 | 4=>t + 45 | 5=>t + 96 | 6=>t + 48 | 7=>t + 52 | 8=>t + 57 | 9=>t + 55 | 10=>t + 59 | 11=>t + 62 | 12=>t + 60 | 13=>t + 65 | 14=>t + 63 | 15=>t + 68 | 16=>t + 66 | 17=>t + 71 | 18=>t + 73 | 19=>t + 76 | 20=>t + 74 | 21=>t + 79 | 22=>t + 77 | 23=>t + 82 | 24=>t + 84 | 25=>t + 86 | 26=>t + 90 | _=>t + 87
noncomputable def mS : Nat → Nat:=fun i=>match i with | 0=>2 | 1=>3 | 2=>8 | 3=>9 | 4=>12 | 5=>13 | 6=>14 | 7=>1 | _=>0
noncomputable def splitL : List St:=[G 304 0x1ee00e00e1eeeeee0000000d0d0000000000000000000000000000000000000b000b000b1bbbbbb00000000000000000000000008000800188888888880000000707000000000000000000000000000055051555555000,cm,G 7 0x1e,cm,G 225 0x10ff0ff0ff0ffc0dd0000000d0000000d0ff10ff0ff0ff0ff000ecd0000d0000000d0000000deeccc0d0000000d0d0d0000000deccc0d0000000d0d0d0000000deccc0d0000000d0d0d0000000dee00e00e,cm,G 7 0x10ff,cm,G 816 0x112f12f5006660700070707000755666070007070700075558666070007070700078888866607000707070007866607000707070007811f11f11f11f11f11f066607000707070007866607000707070007866607000707070007866607000707070007810f10f10f10f10f10f066607000707070007866607000707070007866607000707070007866607000707070007866607000707070007866607000707070007866607000707070007607700070007860770007000786660700070707000786660700070707000786660700070707000788666070007070700078866607000707070007886660700070707000788888ccc0d0000000d0d0d0000000de0ff,.orc,G 2 1]
noncomputable def dsS (P : Params) (n t : Nat) (T : Str) (tx : Nat) (LL : Addr) (esL : Array DictEntry) (epL : Nat) (slL : Array (Option Value)) (envL : Env) (ls : List String) : List OrcD:=
 [extD P (initC (n + 13) (n + 2)) mS (kS t) (n + 1) (n + 2) (n + 7) (n + 8) (n + 11) (n + 12) (sv " " (t + 69)) (t + 80) T tx (t + 19) (t + 22) (t + 25) 0 (t + 23) (n + 13) (listO #[] 0) n LL #[E P "s" t (.str T tx),E P "comments" (t + 1) (.bool false),E P "posix" (t + 2) (.bool true),E P "lex" (t + 93) (.ref (n + 2))] esL 4 epL #[] slL (envS n) envL ls]
theorem runsSplit (P : Params) (B : List (Code × Pos)) (n t : Nat) (σ : Nat → Sup) (pos : Pos) (T : Str) (tx : Nat) (LL : Addr) (esL : Array DictEntry) (epL : Nat) (slL : Array (Option Value)) (envL : Env) (ls : List String) : Runs [
 (runF P B (some [envL]) splitL [(LL,frO esL epL slL)] n t (osAt σ 0 (dsS P n t T tx LL esL epL slL envL ls)) (splitC T tx) pos,[0,14],
  (dn (.ref (n + 13)),[],[some (LL,frO esL epL ((σ 0).s 1)),some (n + 13,listO ((σ 0).x 0) ((σ 0).a 2))],(σ 0).n,(σ 0).t))]:=by unfold Runs;kernel_rfl
noncomputable def splitD (m : Nat) (T : Str) (tx : (Nat → Sup) → Nat) (LL : Addr) (esL : (Nat → Sup) → Array DictEntry) (epL : (Nat → Sup) → Nat) (slL : Array (Option Value)) (envL : Env) (ls : List String) : OrcD:=
 fnF (some [envL]) (fun π=>splitC T (tx π)) (fun π=>[(m,LL,frO (esL π) (epL π) slL)]) (fun π u=>[frO (esL π) (epL π) (u.s 0)]) (fun _ u=>.ok (.ret (.ref (u.a 0)))) (fun _ u=>[(u.a 0,listO (u.x 0) (u.a 1))]) (fun _ u=>Ws ls (u.x 0) ∧ 1106 ≤ u.a 0)
theorem split_ok {w : World} {D U : Nat} {π : Nat → Sup} (hD : D + 75 ≤ 540) (hU : U + 300 ≤ 7800) {m : Nat} {tx : (Nat → Sup) → Nat} {LL : Addr} {esL : (Nat → Sup) → Array DictEntry} {epL : (Nat → Sup) → Nat} {slL : Array (Option Value)} {envL : Env}
 {init : List String} (hinit : ∀ x ∈ init,x ∈ nine) (hlen : init.length ≤ 18) (hsz : ((txt ((init ++ ["[!a]*"]).map qt)).length : Int) < 2 ^ 63)
 (hL : envL.frame = some LL) (hkL : envL.scope.kind ≠ .module) :
 OrcAny w D U π (splitD m (txt ((init ++ ["[!a]*"]).map qt)) tx LL esL epL slL envL (init ++ ["[!a]*"])):=by
 refine fnF_any (by omega) (by omega) rfl (nd rfl) (le4 rfl) fun B n t pos hn=>?_
 refine ⟨dsS w.params n t (txt ((init ++ ["[!a]*"]).map qt)) (tx π) LL (esL π) (epL π) slL envL (init ++ ["[!a]*"]),splitL,[14],fun σ=>⟨(σ 0).n,(σ 0).t,fun i=>match i with | 0=>n + 13 | _=>(σ 0).a 2,fun _=>.none,fun _=>(σ 0).x 0,fun _=>#[],fun _=>(σ 0).s 1⟩,one_ok fun π=>(init_any hD hU (by decide) hinit hlen hsz rfl hL (by intro h;cases h) hkL).at,by simp,by simp,fun σ=>⟨rfl,rfl,?_⟩,fun σ hF=>?_⟩
 ·exact (runsSplit w.params B n t σ pos (txt ((init ++ ["[!a]*"]).map qt)) (tx π) LL (esL π) (epL π) slL envL (init ++ ["[!a]*"])).get (.head _)
 ·exact ⟨hF 0 _ rfl,by show 1106 ≤ n + 13;omega⟩
noncomputable def forB : Stmt → List Stmt
 | .For (body:=b) ..=>b
 | _=>[]
noncomputable def tupE (n : Nat) : PySem.Expr → PySem.Expr
 | .Tuple (elts:=l) ..=>l.getD n default
 | _=>default
theorem Ws.snoc_if {l : List String} {ys : Array Value} {k : Nat} {b : String → Bool} (lt : k < l.length) (h : Ws ((l.take k).filter b) ys) : (b l[k] = true → ∀ t,Ws ((l.take (k + 1)).filter b) (ys.push (sv l[k] t))) ∧ (b l[k] = false → Ws ((l.take (k + 1)).filter b) ys):=by
 rw [take_succ lt,List.filter_append]
 constructor
 ·intro hb t
  rw [List.filter_cons_of_pos hb,List.filter_nil]
  exact h.push _ _
 ·intro hb
  rw [List.filter_cons_of_neg (by rw [hb];exact Bool.false_ne_true),List.filter_nil,List.append_nil]
  exact h
theorem filt_any {w : World} {D U : Nat} {π : Nat → Sup} {c : Code} {ni na nL ns : Nat} {it acc L src : Addr} {xs : Array Value} {ex ea0 ed0 : Nat} {extra : List (Nat × Nat × Obj)} {ls : List String} (b : String → Bool) (test : Bool → Nat → String → Nat → OrcD) {l1 l0 le : List St} {nn kk : Nat → Nat → (Nat → Sup) → Nat}
 (hD : D ≤ 615) (hU : U ≤ 8100) (hc : c.isCaller = false) (hq : c.quiet = true) (hx : 0 < xs.size) (hw : Ws ls xs) (hsz : xs.size ≤ sizeLine) (hnum : (ni :: na :: nL :: ns :: extra.map (·.1)).Nodup) (hlen : extra.length < 3000)
 (htest : ∀ π t x tx,x ∈ ls → OrcAt w (D + 75) (U + 300) π (test (b x) t x tx))
 (yes : ∀ B n t p k ys ea es ed tw vw x tx σ,EndsR (tR w.params B l1 it acc L (iterO src k) (iterO src (k + 1)) ys ea #[] ed ((src,listO xs ex) :: extra.map (·.2)) n t (osAt σ 0 [nextD 0 3 it src xs ex k (sv x tx),test true t x tx,appD 1 acc ys ea fun π=>sv x tx]) c p (ys.push (sv x tx)) ((σ 2).a 0) #[E w.params "word" t (sv x tx)] (ed + 1) (nn n t σ) (kk n t σ)) ∧
  EndsR (tR w.params B l1 it acc L (iterO src k) (iterO src (k + 1)) ys ea #[E w.params "word" tw vw] ed ((src,listO xs ex) :: extra.map (·.2)) n t (osAt σ 0 [nextD 0 3 it src xs ex k (sv x tx),test true t x tx,appD 1 acc ys ea fun π=>sv x tx]) c p (ys.push (sv x tx)) ((σ 2).a 0) #[E w.params "word" tw (sv x tx)] ed (nn n t σ) (kk n t σ)) ∧
  EndsR (tR w.params B l0 it acc L (iterO src k) (iterO src (k + 1)) ys ea #[] ed ((src,listO xs ex) :: extra.map (·.2)) n t (osAt σ 0 [nextD 0 3 it src xs ex k (sv x tx),test false t x tx]) c p ys ea #[E w.params "word" t (sv x tx)] (ed + 1) (nn n t σ) (kk n t σ)) ∧
  EndsR (tR w.params B l0 it acc L (iterO src k) (iterO src (k + 1)) ys ea #[E w.params "word" tw vw] ed ((src,listO xs ex) :: extra.map (·.2)) n t (osAt σ 0 [nextD 0 3 it src xs ex k (sv x tx),test false t x tx]) c p ys ea #[E w.params "word" tw (sv x tx)] ed (nn n t σ) (kk n t σ)) ∧
  EndsR (lR w.params B le it acc L (iterO src k) (iterEnd k) ys ea es ed ((src,listO xs ex) :: extra.map (·.2)) n t (osAt σ 0 [endD 0 3 it src xs ex k]) c p (σ 0).n (σ 0).t)) :
 OrcAny w D U π (compD c ni na nL it acc L (iterO src 0) (iterEnd xs.size) #[] ea0 #[] ed0 ((ns,src,listO xs ex) :: extra) (es1k w.params "word") (fun ys=>Ws ((ls.take xs.size).filter b) ys)):=by
 refine comp1_any xs.size (itO:=iterO src) (fun k ys=>Ws ((ls.take k).filter b) ys) (by omega) (by omega) hc hq hx hnum (by simp;omega) (by simpa using Ws.nil) ?_ ?_
 ·intro B n t p k ys ea ed tw vw hn lt hg
  have lt' : k < ls.length:=by rw [← hw.1];exact lt
  obtain ⟨tx,hx⟩:=hw.2 k ls[k] (List.getElem?_eq_getElem lt')
  have z:=fun σ=>yes B n t p k ys ea #[] ed tw vw ls[k] tx σ
  have ht:=fun π=>htest π t ls[k] tx (List.getElem_mem lt')
  have hys : ys.size ≤ sizeLine:=by
   rw [hg.1]
   have h1:=List.length_filter_le b (ls.take k)
   have h2 : (ls.take k).length ≤ k:=by simp;omega
   omega
  have hs:=hg.snoc_if lt'
  cases hb : b ls[k] with
  | true=>
    rw [hb] at ht
    exact ⟨_,l1,fun σ=>ys.push (sv ls[k] tx),fun σ=>(σ 2).a 0,fun σ=>nn n t σ,fun σ=>kk n t σ,t,fun _=>sv ls[k] tx,orcs_all (at_three (fun π=>nextD_ok hx) ht (fun π=>appD_ok hys)),fun _ σ=>(z σ).1,fun σ=>(z σ).2.1,fun σ _=>hs.1 hb tx⟩
  | false=>
    rw [hb] at ht
    exact ⟨_,l0,fun σ=>ys,fun σ=>ea,fun σ=>nn n t σ,fun σ=>kk n t σ,t,fun _=>sv ls[k] tx,orcs_all (at_two (fun π=>nextD_ok hx) ht),fun _ σ=>(z σ).2.2.1,fun σ=>(z σ).2.2.2.1,fun σ _=>hs.2 hb⟩
 ·intro B n t p ys ea es ed hn hg
  exact ⟨_,le,fun σ=>(σ 0).n,fun σ=>(σ 0).t,one_ok fun π=>endD_ok (by simp),fun σ=>(yes B n t p xs.size ys ea es ed 0 .none "" 0 σ).2.2.2.2⟩
noncomputable abbrev cellO (v : Value) : Obj:=⟨.type "cell",none,.cell (some v),#[]⟩
noncomputable def e6 : PySem.Expr:=tupE 1 (sV (nth (forB (nth lawB 7)) 0))
noncomputable def env6 (L fr cn : Addr) : Env:=lawEnv [(q ".0",.local),(q "word",.local),(q "names",.cell)] [(q "names",cn)] L fr
noncomputable def c6 (it acc L fr cn : Addr) : Code:=.compLoop e6 0 (.ref it) (.ref acc) (env6 L fr cn)
noncomputable def l6y : List St:=[G 2 0x14,.orc,G 14 0x1998666,.orc,G 2 0x16,.orc]
noncomputable def l6n : List St:=[G 2 0x14,.orc,G 14 0x1998666,.orc]
noncomputable def l6e : List St:=[G 2 0x14,.orc,G 1 0x1b]
theorem runs6 (P : Params) (B : List (Code × Pos)) (n t : Nat) (σ : Nat → Sup) (p : Pos) (src it acc L fr cn nl : Addr) (xs ys ns : Array Value) (ex ea en k ed tx tw : Nat) (x : String) (vw : Value) (es : Array DictEntry) : Runs [
 tR P B l6y it acc L (iterO src k) (iterO src (k + 1)) ys ea #[] ed [(src,listO xs ex),(cn,cellO (.ref nl)),(nl,listO ns en)] n t (osAt σ 0 [nextD 0 3 it src xs ex k (sv x tx),inD 5 nl ns en x (fun _=>tx) true,appD 1 acc ys ea fun π=>sv x tx]) (c6 it acc L fr cn) p (ys.push (sv x tx)) ((σ 2).a 0) #[E P "word" t (sv x tx)] (ed + 1) n (t + 1),
 tR P B l6y it acc L (iterO src k) (iterO src (k + 1)) ys ea #[E P "word" tw vw] ed [(src,listO xs ex),(cn,cellO (.ref nl)),(nl,listO ns en)] n t (osAt σ 0 [nextD 0 3 it src xs ex k (sv x tx),inD 5 nl ns en x (fun _=>tx) true,appD 1 acc ys ea fun π=>sv x tx]) (c6 it acc L fr cn) p (ys.push (sv x tx)) ((σ 2).a 0) #[E P "word" tw (sv x tx)] ed n (t + 1),
 tR P B l6n it acc L (iterO src k) (iterO src (k + 1)) ys ea #[] ed [(src,listO xs ex),(cn,cellO (.ref nl)),(nl,listO ns en)] n t (osAt σ 0 [nextD 0 3 it src xs ex k (sv x tx),inD 5 nl ns en x (fun _=>tx) false]) (c6 it acc L fr cn) p ys ea #[E P "word" t (sv x tx)] (ed + 1) n (t + 1),
 tR P B l6n it acc L (iterO src k) (iterO src (k + 1)) ys ea #[E P "word" tw vw] ed [(src,listO xs ex),(cn,cellO (.ref nl)),(nl,listO ns en)] n t (osAt σ 0 [nextD 0 3 it src xs ex k (sv x tx),inD 5 nl ns en x (fun _=>tx) false]) (c6 it acc L fr cn) p ys ea #[E P "word" tw (sv x tx)] ed n (t + 1),
 lR P B l6e it acc L (iterO src k) (iterEnd k) ys ea es ed [(src,listO xs ex),(cn,cellO (.ref nl)),(nl,listO ns en)] n t (osAt σ 0 [endD 0 3 it src xs ex k]) (c6 it acc L fr cn) p (σ 0).n (σ 0).t]:=by unfold Runs;kernel_rfl
theorem comp6_ok {w : World} {D U : Nat} {π : Nat → Sup} (hD : D ≤ 615) (hU : U ≤ 8100) {ns ni na nL nc nn : Nat} {src it acc L fr cn nl : Addr} {xs ys : Array Value} {ex ea0 ed0 en : Nat} {ls names : List String} (hx : 0 < xs.size) (hw : Ws ls xs) (hnw : Ws names ys) (hsz : xs.size ≤ sizeLine)
 (hn : [ni,na,nL,ns,nc,nn].Nodup) : OrcAt w D U π (compD (.compStart e6 0 (.ref it) (.ref acc) (env6 L fr cn)) ni na nL it acc L (iterO src 0) (iterEnd xs.size) #[] ea0 #[] ed0 [(ns,src,listO xs ex),(nc,cn,cellO (.ref nl)),(nn,nl,listO ys en)] (es1k w.params "word") (fun zs=>Ws ((ls.take xs.size).filter fun x=>names.any (same · x)) zs)):=by
 refine (start_any (by kernel_rfl) (self_list (l:=src) (k:=0) (ni:=ni) (.head _)) (filt_any (c:=c6 it acc L fr cn) (extra:=[(nc,cn,cellO (.ref nl)),(nn,nl,listO ys en)]) (fun x=>names.any (same · x)) (fun b t x tx=>inD 5 nl ys en x (fun _=>tx) b) (l1:=l6y) (l0:=l6n) (le:=l6e) (nn:=fun n t σ=>n) (kk:=fun n t σ=>t + 1) hD hU rfl rfl hx hw hsz hn (by simp) (fun π t x tx _=>inD_ok hnw rfl) ?_)).at
 intro B n t p k zs ea es ed tw vw x tx σ
 have z:=runs6 w.params B n t σ p src it acc L fr cn nl xs zs ys ex ea en k ed tx tw x vw es
 exact ⟨z.at (.head _),z.at (.tail _ (.head _)),z.at (.tail _ (.tail _ (.head _))),z.at (.tail _ (.tail _ (.tail _ (.head _)))),z.at (.tail _ (.tail _ (.tail _ (.tail _ (.head _)))))⟩
noncomputable def pcs (i p0 : Nat) : Array Value:=match i with
 | 0=>#[sv "a" p0,.none]
 | 1=>#[.none,sv "b" p0]
 | 2=>#[sv "." p0,sv "." p0]
 | _=>#[sv "[^a]" p0,.none]
noncomputable def fitsC (a : Addr) (x : String) (tx : Nat) : Code:=.call (.ref 1078) ⟨[.ref a,sv x tx],[]⟩
noncomputable def e5 : PySem.Expr:=tupE 0 (sV (nth (forB (nth lawB 7)) 0))
noncomputable def env5 (L fr cp : Addr) : Env:=lawEnv [(q ".0",.local),(q "word",.local),(q "_law_fits",.globalImplicit),(q "pieces",.cell)] [(q "pieces",cp)] L fr
noncomputable def c5 (it acc L fr cp : Addr) : Code:=.compLoop e5 0 (.ref it) (.ref acc) (env5 L fr cp)
noncomputable def l5y : List St:=[G 2 0x14,.orc,G 15 0x1068066,.orc,G 4 0x16,.orc]
noncomputable def l5n : List St:=[G 2 0x14,.orc,G 15 0x1068066,.orc,G 2 1]
structure KinA where
 i : Value
 a : Value
 ev : Env
 tg : PySem.Expr
 it : Value
 bd : List Stmt
 oe : List Stmt
 f : List Stmt
 ev2 : Env
noncomputable def cs5 (κ : KinA) : List Code:=[.compLoop e5 0 κ.i κ.a κ.ev,.forLoop κ.tg κ.it κ.bd κ.oe κ.ev2,.func κ.f κ.ev2,.builtin "claim.caller" {}]
noncomputable def B5 (κ : KinA) (p1 p2 p3 p4 : Pos) : List (Code × Pos):=[(.compLoop e5 0 κ.i κ.a κ.ev,p1),(.forLoop κ.tg κ.it κ.bd κ.oe κ.ev2,p2),(.func κ.f κ.ev2,p3),(.builtin "claim.caller" {},p4)]
theorem codes3 {a b c : Code} : ∀ {B : List (Code × Pos)},(Fs.codes [a,b,c]).holds B → ∃ p q r,B = [(a,p),(b,q),(c,r)]
 | [(_,p),(_,q),(_,r)],h=>by cases h;exact ⟨p,q,r,rfl⟩
 | [],h=>by cases h
 | [_],h=>by cases h
 | [_,_],h=>by cases h
 | _ :: _ :: _ :: _ :: _,h=>by cases h
theorem codes4 {a b c d : Code} : ∀ {B : List (Code × Pos)},(Fs.codes [a,b,c,d]).holds B → ∃ p q r t,B = [(a,p),(b,q),(c,r),(d,t)]
 | [(_,p),(_,q),(_,r),(_,t)],h=>by cases h;exact ⟨p,q,r,t,rfl⟩
 | [],h=>by cases h
 | [_],h=>by cases h
 | [_,_],h=>by cases h
 | [_,_,_],h=>by cases h
 | _ :: _ :: _ :: _ :: _ :: _,h=>by cases h
noncomputable def fitsG (cs : List Code) (m : Nat) (a : Addr) (i p0 ep : Nat) (x : String) (tx : (Nat → Sup) → Nat) (b : Bool) : OrcD:=
 fnF (some (.codes cs)) (fun π=>fitsC a x (tx π)) (fun _=>[(m,a,listO (pcs i p0) ep)]) (fun _ _=>[listO (pcs i p0) ep]) (fun _ _=>.ok (.ret (.bool b))) (fun _ _=>[]) (fun _ _=>True)
theorem ws_two (x y : String) (t u : Nat) : Ws [x,y] #[sv x t,sv y u]:=by
 refine ⟨rfl,fun i z h=>?_⟩
 match i,h with
 | 0,h=>cases h;exact ⟨t,rfl⟩
 | 1,h=>cases h;exact ⟨u,rfl⟩
 | i + 2,h=>simp at h
noncomputable def fitsB (i : Nat) (x : String) : Bool:=match i with
 | 0=>["a","ab"].contains x
 | 1=>["ab","b","it's b","bb"].contains x
 | 2=>["ab","bb"].contains x
 | _=>["b","it's b","bb"].contains x
noncomputable def ga : St:=G 22 0x148461776600
noncomputable def gb : St:=G 28 0x174444468484
noncomputable def gc : St:=G 18 0x1444446
noncomputable def gd : St:=G 29 0x1997444446
noncomputable def ge : St:=G 71 0x1b10fbe10ff0ffee000cccc74aaaaa444460555
noncomputable def gf : St:=G 71 0x1999999700004444468484
noncomputable def gg : St:=G 12 0x1a9999
noncomputable def gh : St:=.comp3 2 [] 12 [10,10,10,10] 12 [10,10,10,10]
noncomputable def gi : St:=G 81 0x1e13fe11f112f12f11f11f0000ff0ff0ff0ffc74ddddd444460ccaaaaaaaaa
noncomputable def gj : St:=G 28 0x112feeeee11f13fe13fe
noncomputable def gk : St:=G 18 0x1eeeee11f
noncomputable def gl : St:=G 29 0x114f14f12feeeee11f
noncomputable def gm : St:=G 28 0x10ffbbbbbe10fb10fb
noncomputable def gn : St:=G 18 0x11af1bf16f1bf16f1bf16f1bf16f
noncomputable def go : St:=G 11 0x1555
noncomputable def gp : St:=G 97 0x116f1bf16f19f11af1af19f19f00017f17f17f17fc7415f15f15f15f15f444460ccaaaaaaaaa10f10f10f
noncomputable def gq : St:=G 28 0x11af16f16f16f16f16f19f1bf16f1bf16f
noncomputable def gr : St:=G 18 0x1bbbbbe
noncomputable def gs : St:=G 29 0x111f11f0ffbbbbbe
noncomputable def gt : St:=G 71 0x113f18f13f16f117f17f16f16f00014f14f14f14f0ffb12f12f12f12f12fbbbbe0ddd
noncomputable def gu : St:=G 18 0x117f18f13f18f13f18f13f18f13f
noncomputable def gv : St:=G 74 0x1a0ffad1eedd000bbbb7499999444460555
noncomputable def gw : St:=G 71 0x110f10f10f10f10f10fe0000aaaaad0ffa0ffa
noncomputable def gx : St:=G 12 0x111f10f10f10f10f
noncomputable def gy : St:=.comp3 2 [] 12 [17,17,17,17] 12 [17,17,17,17]
noncomputable def gz : St:=G 81 0x115f1af15f18f119f19f18f18f00016f16f16f16f13fea14f14f14f14f14faaaad013f13f11f11f11f11f11f11f11f11f11f
noncomputable def gaa : St:=G 18 0x119f1af15f1af15f1af15f1af15f
noncomputable def gab : St:=G 71 0x111f11f11f11f11f11f0ff0000bbbbbe10fb10fb
noncomputable def gac : St:=G 12 0x112f11f11f11f11f
noncomputable def gad : St:=.comp3 2 [] 12 [18,18,18,18] 12 [18,18,18,18]
noncomputable def gae : St:=G 81 0x116f1bf16f19f11af1af19f19f00017f17f17f17f14f0ffb15f15f15f15f15fbbbbe014f14f12f12f12f12f12f12f12f12f12f
noncomputable def gaf : St:=G 18 0x116f16f16f16f16f19f
noncomputable def gag : St:=G 29 0x11cf1cf1af16f16f16f16f16f19f
noncomputable def gah : St:=G 71 0x116f1bf16f19f11af1af19f19f00017f17f17f17f12fe15f15f15f15f15feeee11f010f10f10f
noncomputable def gai : St:=G 28 0x121f1df1df1df1df1df20f22f1df22f1df
noncomputable def gaj : St:=G 14 0x1555
noncomputable def gak : St:=G 89 0x11cf21f1cf1ff120f20f1ff1ff0001df1df1df1df13fea1bf1bf1bf1bf1bfaaaad013f13f11f11f11f11f11f11f11f11f11f
noncomputable def gal : St:=G 18 0x120f21f1cf21f1cf21f1cf21f1cf
structure FitR where
 i : Nat
 x : String
 b : Bool
 n : Nat
 t : Nat
 f : List (Nat × Nat × String × String × Bool)
 l : List St
noncomputable def fitTab : List FitR:=[
 ⟨0,"a",true,26,23,[(4,5,"a","a",true)],[ga,cm,gb,cm,gc,cm,gd,.orc,ge,cm,gab,cm,gac,gad,gae,cm,gn,cm,G 43 0x113f1ef13f14f14f14f1df12f12f12f12f12f13f13f13f13f14f,cm,G 11 0x11ef13f1ef13f]⟩,
 ⟨0,"ab",true,33,28,[(4,5,"a","a",true)],[ga,cm,gb,cm,gc,cm,gd,.orc,ge,cm,gab,cm,gac,gad,gae,cm,gn,cm,G 89 0x11df22f1df20f121f21f20f20f0001ef1ef1ef1ef14f0ffb1cf1cf1cf1cf1cfbbbbe014f14f12f12f12f12f12f12f12f12f12f,cm,G 18 0x121f22f1df22f1df22f1df22f1df,cm,G 43 0x113f25f13f14f14f14f24f12f12f12f12f12f13f13f13f13f14f,cm,G 11 0x125f13f25f13f]⟩,
 ⟨0,"b",false,5,9,[(4,5,"b","a",false)],[ga,cm,gb,cm,gc,cm,gd,.orc,go]⟩,
 ⟨0,"it's b",false,5,9,[(4,5,"i","a",false)],[ga,cm,gb,cm,gc,cm,gd,.orc,go]⟩,
 ⟨0,"",false,4,2,[],[ga,cm,gb,cm,G 4 1]⟩,
 ⟨0,"bb",false,5,9,[(4,5,"b","a",false)],[ga,cm,gb,cm,gc,cm,gd,.orc,go]⟩,
 ⟨1,"a",false,26,25,[(15,15,"a","b",false)],[ga,cm,gf,cm,gg,gh,gi,cm,gj,cm,gk,cm,gl,.orc,gp,cm,gq,cm,G 35 0x1b1efbccc1dfaaaaa,cm,G 13 0x11efb1efb1efb1efb]⟩,
 ⟨1,"ab",true,41,42,[(15,15,"a","b",false),(23,28,"b","b",true)],[ga,cm,gf,cm,gg,gh,gi,cm,gj,cm,gk,cm,gl,.orc,gp,cm,gq,cm,gaf,cm,gag,.orc,G 71 0x11ef23f1ef21f122f22f21f21f0001ff1ff1ff1ff1af16f1df1df1df1df1df16f16f16f16f19f018f18f18f,cm,G 18 0x122f23f1ef23f1ef23f1ef23f1ef,cm,G 100 0x125f2af25f28f129f29f28f28f00026f26f26f26fc7424f24f24f24f24f444460ccaaaaaaaaabbbbc,cm,G 28 0x129f25f25f25f25f25f28f2af25f2af25f,cm,G 35 0x1b2dfbccc2cfaaaaa,cm,G 9 0x12dfb2dfb]⟩,
 ⟨1,"b",true,33,29,[(15,15,"b","b",true)],[ga,cm,gf,cm,gg,gh,gi,cm,gj,cm,gk,cm,gl,.orc,gah,cm,gn,cm,G 100 0x11df22f1df20f121f21f20f20f0001ef1ef1ef1efc741cf1cf1cf1cf1cf444460ccaaaaaaaaabbbbc,cm,gai,cm,G 35 0x1b25fbccc24faaaaa,cm,G 9 0x125fb25fb]⟩,
 ⟨1,"it's b",true,73,94,[(15,15,"i","b",false),(23,28,"t","b",false),(31,41,"'","b",false),(39,54,"s","b",false),(47,67," ","b",false),(55,80,"b","b",true)],[ga,cm,gf,cm,gg,gh,gi,cm,gj,cm,gk,cm,gl,.orc,gp,cm,gq,cm,gaf,cm,gag,.orc,G 97 0x11ef23f1ef21f122f22f21f21f0001ff1ff1ff1ffc741df1df1df1df1df444460ccaaaaaaaaa18f18f18f,cm,G 28 0x122f1ef1ef1ef1ef1ef21f23f1ef23f1ef,cm,G 18 0x11ef1ef1ef1ef1ef21f,cm,G 29 0x124f24f22f1ef1ef1ef1ef1ef21f,.orc,G 97 0x126f2bf26f29f12af2af29f29f00027f27f27f27fc7425f25f25f25f25f444460ccaaaaaaaaa20f20f20f,cm,G 28 0x12af26f26f26f26f26f29f2bf26f2bf26f,cm,G 18 0x126f26f26f26f26f29f,cm,G 29 0x12cf2cf2af26f26f26f26f26f29f,.orc,G 97 0x12ef33f2ef31f132f32f31f31f0002ff2ff2ff2ffc742df2df2df2df2df444460ccaaaaaaaaa28f28f28f,cm,G 28 0x132f2ef2ef2ef2ef2ef31f33f2ef33f2ef,cm,G 18 0x12ef2ef2ef2ef2ef31f,cm,G 29 0x134f34f32f2ef2ef2ef2ef2ef31f,.orc,G 97 0x136f3bf36f39f13af3af39f39f00037f37f37f37fc7435f35f35f35f35f444460ccaaaaaaaaa30f30f30f,cm,G 28 0x13af36f36f36f36f36f39f3bf36f3bf36f,cm,G 18 0x136f36f36f36f36f39f,cm,G 29 0x13cf3cf3af36f36f36f36f36f39f,.orc,G 71 0x13ef43f3ef41f142f42f41f41f0003ff3ff3ff3ff3af36f3df3df3df3df3df36f36f36f36f39f038f38f38f,cm,G 18 0x142f43f3ef43f3ef43f3ef43f3ef,cm,G 100 0x145f4af45f48f149f49f48f48f00046f46f46f46fc7444f44f44f44f44f444460ccaaaaaaaaabbbbc,cm,G 28 0x149f45f45f45f45f45f48f4af45f4af45f,cm,G 35 0x1b4dfbccc4cfaaaaa,cm,G 9 0x14dfb4dfb]⟩,
 ⟨1,"",false,18,12,[],[ga,cm,gf,cm,gg,gh,gi,cm,gj,cm,G 35 0x1b16fbccc15faaaaa,cm,G 13 0x116fb16fb16fb16fb]⟩,
 ⟨1,"bb",true,48,46,[(15,15,"b","b",true),(30,32,"b","b",true)],[ga,cm,gf,cm,gg,gh,gi,cm,gj,cm,gk,cm,gl,.orc,gah,cm,gn,cm,G 91 0x11df22f1df20f121f21f20f20f0001ef1ef1ef1efc741cf1cf1cf1cf1cf444460ccaaaaaaaaa,cm,gai,cm,G 18 0x11df1df1df1df1df20f,cm,G 29 0x123f23f21f1df1df1df1df1df20f,.orc,G 71 0x125f2af25f28f129f29f28f28f00026f26f26f26f21f1df24f24f24f24f24f1df1df1df1df20f01ff1ff1ff,cm,G 18 0x129f2af25f2af25f2af25f2af25f,cm,G 100 0x12cf31f2cf2ff130f30f2ff2ff0002df2df2df2dfc742bf2bf2bf2bf2bf444460ccaaaaaaaaabbbbc,cm,G 28 0x130f2cf2cf2cf2cf2cf2ff31f2cf31f2cf,cm,G 35 0x1b34fbccc33faaaaa,cm,G 9 0x134fb34fb]⟩,
 ⟨2,"a",false,12,14,[(4,5,"a",".",true)],[ga,cm,gb,cm,gc,cm,gd,.orc,ge,cm,gm,cm,G 6 1]⟩,
 ⟨2,"ab",true,20,25,[(4,5,"a",".",true),(12,17,"b",".",true)],[ga,cm,gb,cm,gc,cm,gd,.orc,ge,cm,gm,cm,gr,cm,gs,.orc,gt,cm,gu,cm,G 7 1]⟩,
 ⟨2,"b",false,12,14,[(4,5,"b",".",true)],[ga,cm,gb,cm,gc,cm,gd,.orc,ge,cm,gm,cm,G 6 1]⟩,
 ⟨2,"it's b",false,20,25,[(4,5,"i",".",true),(12,17,"t",".",true)],[ga,cm,gb,cm,gc,cm,gd,.orc,ge,cm,gm,cm,gr,cm,gs,.orc,gt,cm,gu,cm,G 7 1]⟩,
 ⟨2,"",false,4,2,[],[ga,cm,gb,cm,G 4 1]⟩,
 ⟨2,"bb",true,20,25,[(4,5,"b",".",true),(12,17,"b",".",true)],[ga,cm,gb,cm,gc,cm,gd,.orc,ge,cm,gm,cm,gr,cm,gs,.orc,gt,cm,gu,cm,G 7 1]⟩,
 ⟨3,"a",false,4,8,[],[ga,cm,gb,cm,gc,cm,G 13 0x17,cm,gaj]⟩,
 ⟨3,"ab",false,4,8,[],[ga,cm,gb,cm,gc,cm,G 13 0x17,cm,gaj]⟩,
 ⟨3,"b",true,25,22,[],[ga,cm,gb,cm,gc,cm,G 13 0x17,cm,gv,cm,gw,cm,gx,gy,gz,cm,gaa,cm,G 43 0x112f1df12f13f13f13f1cf11f11f11f11f11f12f12f12f12f13f,cm,G 11 0x11df12f1df12f]⟩,
 ⟨3,"it's b",true,60,47,[],[ga,cm,gb,cm,gc,cm,G 13 0x17,cm,gv,cm,gw,cm,gx,gy,gz,cm,gaa,cm,gak,cm,gal,cm,G 89 0x123f28f23f26f127f27f26f26f00024f24f24f24f13fea22f22f22f22f22faaaad013f13f11f11f11f11f11f11f11f11f11f,cm,G 18 0x127f28f23f28f23f28f23f28f23f,cm,G 89 0x12af2ff2af2df12ef2ef2df2df0002bf2bf2bf2bf13fea29f29f29f29f29faaaad013f13f11f11f11f11f11f11f11f11f11f,cm,G 18 0x12ef2ff2af2ff2af2ff2af2ff2af,cm,G 89 0x131f36f31f34f135f35f34f34f00032f32f32f32f13fea30f30f30f30f30faaaad013f13f11f11f11f11f11f11f11f11f11f,cm,G 18 0x135f36f31f36f31f36f31f36f31f,cm,G 89 0x138f3df38f3bf13cf3cf3bf3bf00039f39f39f39f13fea37f37f37f37f37faaaad013f13f11f11f11f11f11f11f11f11f11f,cm,G 18 0x13cf3df38f3df38f3df38f3df38f,cm,G 43 0x112f40f12f13f13f13f3ff11f11f11f11f11f12f12f12f12f13f,cm,G 11 0x140f12f40f12f]⟩,
 ⟨3,"",false,4,2,[],[ga,cm,gb,cm,G 4 1]⟩,
 ⟨3,"bb",true,32,27,[],[ga,cm,gb,cm,gc,cm,G 13 0x17,cm,gv,cm,gw,cm,gx,gy,gz,cm,gaa,cm,gak,cm,gal,cm,G 43 0x112f24f12f13f13f13f23f11f11f11f11f11f12f12f12f12f13f,cm,G 11 0x124f12f24f12f]⟩]
noncomputable def fdR (l : List (Nat × Nat × String × String × Bool)) (n t p0 : Nat) : List OrcD:=l.map fun z=>inD (z.1 + 1) (n + z.1) #[sv "." (t + z.2.1),sv z.2.2.1 (t + (z.2.1 + 2))] 0 z.2.2.2.1 (fun _=>p0) z.2.2.2.2
theorem fit_keys : ∀ i ∈ [0,1,2,3],∀ x ∈ six,(i,x,fitsB i x) ∈ fitTab.map fun y=>(y.i,y.x,y.b):=by decide +kernel
theorem fit_in : ∀ z ∈ fitTab.flatMap (·.f),[".",z.2.2.1].any (same · z.2.2.2.1) = z.2.2.2.2:=by decide +kernel
theorem fit_ok {w : World} {D U : Nat} {π : Nat → Sup} {y : FitR} (hy : y ∈ fitTab) {n t p0 : Nat} : ∀ d ∈ fdR y.f n t p0,OrcAt w D U π d:=fun d hd=>by
 obtain ⟨z,hz,rfl⟩:=List.mem_map.mp hd
 exact inD_ok (ls:=[".",z.2.2.1]) (ws_two _ _ _ _) (fit_in z (List.mem_flatMap.mpr ⟨y,hy,hz⟩))
noncomputable def fitRow (P : Params) (B : List (Code × Pos)) (cs : List Code) (n t : Nat) (σ : Nat → Sup) (pos : Pos) (a : Addr) (ep tx p0 : Nat) (y : FitR) : Option RS × List Nat × Seen:=
 (runF P B (some (.codes cs)) y.l [(a,listO (pcs y.i p0) ep)] n t (osAt σ 0 (fdR y.f n t p0)) (fitsC a y.x tx) pos,[0],(dn (.bool y.b),[],[some (a,listO (pcs y.i p0) ep)],n + y.n,t + y.t))
theorem fitsX {w : World} {D U : Nat} {π : Nat → Sup} (hD : D ≤ 690) (hU : U ≤ 8400) {m : Nat} {a : Addr} {i p0 ep : Nat} {x : String} {tx : (Nat → Sup) → Nat} {cs : List Code} (hi : i < 4) (hx : x ∈ six)
 (h : ∀ B n t σ pos,(Fs.codes cs).holds B → Runs (fitTab.map (fitRow w.params B cs n t σ pos a ep (tx π) p0))) : OrcAt w D U π (fitsG cs m a i p0 ep x tx (fitsB i x)):=by
 obtain ⟨y,hy,e⟩:=List.mem_map.mp (fit_keys i (by simp;omega) x hx)
 simp only [Prod.mk.injEq] at e
 obtain ⟨rfl,rfl,eb⟩:=e
 rw [← eb]
 refine (fnG_any (by omega) (by omega) rfl (nd rfl) (le4 rfl) fun B n t pos hn hB=>?_).at
 exact ⟨fdR y.f n t p0,y.l,[],fun _=>⟨n + y.n,t + y.t,fun _=>0,fun _=>.none,fun _=>#[],fun _=>#[],fun _=>#[]⟩,orcs_all fun d hd π=>fit_ok hy d hd,(fun _ h=>nomatch h),List.nodup_nil,fun σ=>⟨rfl,rfl,(h B n t σ pos (hB _ rfl)).get (List.mem_map.mpr ⟨y,hy,rfl⟩)⟩,fun _ _=>trivial⟩
theorem runsFits (P : Params) (κ : KinA) (p1 p2 p3 p4 : Pos) (n t : Nat) (σ : Nat → Sup) (pos : Pos) (a : Addr) (ep tx p0 : Nat) : Runs (fitTab.map (fitRow P (B5 κ p1 p2 p3 p4) (cs5 κ) n t σ pos a ep tx p0)):=by unfold Runs;kernel_rfl
theorem fits_ok {w : World} {D U : Nat} {π : Nat → Sup} (hD : D ≤ 690) (hU : U ≤ 8400) {m : Nat} {a : Addr} {i p0 ep : Nat} {x : String} {tx : (Nat → Sup) → Nat} {κ : KinA} (hi : i < 4) (hx : x ∈ six) : OrcAt w D U π (fitsG (cs5 κ) m a i p0 ep x tx (fitsB i x)):=
 fitsX hD hU hi hx fun B n t σ pos h=>by
  obtain ⟨p1,p2,p3,p4,rfl⟩:=codes4 h
  exact runsFits _ κ p1 p2 p3 p4 n t σ pos a ep _ p0
end
section
open PySem.Builtin PySem.Builtin.Str
open PySem.Sem (wp finPost)
theorem compStart_tree {w : World} {A : Around} {s : Shared} {e : PySem.Expr} {d : Nat} {it acc : Value} {env : Env} (he : syncAt e d = false)
 (h : ∀ Q E,Q it s → wpAny (model pw w) A (pyIter it) Q E s) :
 wpAny (model pw w) A ((model pw w).den (.compStart e d it acc env)) (fun fin s'=>fin = .again (.compLoop e d it acc env) ∧ s' = s) (fun _ _=>False) s:=by
 unfold syncAt at he
 split at he
 ·rename_i elt gens scope pos
  show wpAny _ _ ((compStart (.ListComp elt gens scope pos) d it acc env).onRaise (fun x=>do noteFrame x env;standAt theWindowsPlace)) _ _ s
  refine wpAny_notedAt ?_
  unfold compStart
  rw [show ((clausesOf (.ListComp elt gens scope pos))[d]?).elim false (·.is_async != 0) = false from he]
  show wpAny _ _ (ask >>= _) _ _ s
  refine wpAny_bind (wpAny_askSetting (wpAny_ite ?_))
  split
  ·first
    | exact wpAny_bind (wpAny_pure (wpAny_pure ⟨rfl,rfl⟩))
    | exact wpAny_pure ⟨rfl,rfl⟩
  ·refine wpAny_bind (wpAny_rule ?_)
   dsimp only
   rw [show clausesOf (.ListComp elt gens scope pos) = gens from rfl]
   have h' : ∀ E,wpAny (model pw w) A (pyIter it) (fun it' s'=>it' = it ∧ s' = s) E s:=fun E=>h _ E ⟨rfl,rfl⟩
   cases gens[d]? with
   | none=>exact wpAny_bind (wpAny_mono (h' _) (fun it' s' h'=>wpAny_pure (by obtain ⟨rfl,rfl⟩:=h';exact ⟨rfl,rfl⟩)) fun _ _ x=>x)
   | some g=>exact wpAny_bind (wpAny_standAt (wpAny_bind (wpAny_mono (h' _) (fun it' s' h'=>wpAny_pure (by obtain ⟨rfl,rfl⟩:=h';exact ⟨rfl,rfl⟩)) fun _ _ x=>x)))
 ·cases he
theorem startG_any {fs : Option Fs} {w : World} {D U : Nat} {π : Nat → Sup} {e : PySem.Expr} {dp : Nat} {it acc : Addr} {env : Env} {need : List (Nat × Nat × Obj)} {fin : Sup → List Obj} {r : Sup → Result} {out : Sup → List (Nat × Obj)} {F : Sup → Prop} (he : syncAt e dp = false)
 (hit : Self w need it) (h : OrcAny w D U π (fnF fs (fun _=>.compLoop e dp (.ref it) (.ref acc) env) (fun _=>need) (fun _=>fin) (fun _=>r) (fun _=>out) (fun _=>F))) :
 OrcAny w D U π (fnF fs (fun _=>.compStart e dp (.ref it) (.ref acc) env) (fun _=>need) (fun _=>fin) (fun _=>r) (fun _=>out) (fun _=>F)):=by
 refine ⟨rfl,?_⟩
 intro Γ p s hc Fi hfs ho hz hp
 have hp' : At w.params need s:=hp
 have z:=compStart_tree (A:={ handled:=Γ.handled,depth:=frameCount Γ.below + Γ.code.weight,units:=Γ.units }) (w:=w) (acc:=.ref acc) (env:=env) he (fun Q E q=>hit _ Q E s hp' q)
 rw [wpCode_iff_wp]
 have hc' : Γ.code = .compStart e dp (.ref it) (.ref acc) env:=hc
 rw [hc']
 refine Sem.wp_mono (md w) Γ _ (fun fin p' s' h'=>?_) (fun _ _ _ h'=>h'.elim) p s (z Γ p ⟨rfl,Nat.le_refl _,(fun l hl=>nomatch hl),(fun g hg=>nomatch hg),Nat.le_refl _⟩)
 obtain ⟨rfl,rfl⟩:=h'
 refine ⟨rfl,?_⟩
 obtain ⟨r',s2,hr,u,hru,hp2,hF⟩:=h.2 (Γ.goto (.compLoop e dp (.ref it) (.ref acc) env)) p' s' rfl ⟨Fi.handled,Fi.depth,Fi.units⟩ hfs ho hz hp
 exact ⟨r',s2,hr,u,hru,⟨hp2.gens,hp2.drawn,hp2.os,hp2.size,hp2.keep,hp2.upd,hp2.out,hp2.nod,hp2.sz⟩,hF⟩
noncomputable def compG (fs : Option Fs) (c : Code) (ni na nL : Nat) (it acc L : Addr) (itO itE : Obj) (ys0 : Array Value) (ea0 : Nat) (es0 : Array DictEntry) (ed0 : Nat) (extra : List (Nat × Nat × Obj)) (es1 : Sup → Array DictEntry) (G : Array Value → Prop) : OrcD:=
 fnF fs (fun _=>c) (fun _=>needC ni na nL it acc L itO ys0 ea0 es0 ed0 extra) (fun _=>compF itE es1 extra) (fun _ _=>.ok .next) (fun _ _=>[]) (fun _ u=>G (u.x 0))
noncomputable def TurnG (fs : Option Fs) (w : World) (D U : Nat) (c : Code) (it acc L : Addr) (itO itO' : Obj) (es0 : Array DictEntry) (es1 : Sup → Array DictEntry) (extra : List (Nat × Obj)) (B : List (Code × Pos)) (n t : Nat) (p : Pos) (ys : Array Value) (ea : Nat) (q : Option Sup) (ed : Nat) (G' : Array Value → Prop) : Prop:=
 X8 fun (ds : List OrcD) (l : List St) (ys' : (Nat → Sup) → Array Value) (ea' ed' nn kk : (Nat → Sup) → Nat) (q' : (Nat → Sup) → Sup)=>(∀ j d,ds[j]? = some d → OrcOK w (D + 75) (U + 300) ds j d) ∧
  (∀ σ,Ends (runF w.params B fs l (ksC it acc L itO ys ea (esOf es0 es1 q) ed extra) n t (osAt σ 0 ds) c p) (List.range (3 + extra.length))
   (.pure (.again c),[],some (it,itO') :: some (acc,listO (ys' σ) (ea' σ)) :: some (L,dictO (es1 (q' σ)) (ed' σ)) :: extra.map some,nn σ,kk σ)) ∧
  ∀ σ,(∀ (i : Nat) (d : OrcD),ds[i]? = some d → d.F (tr i σ) (σ i)) → G' (ys' σ)
noncomputable def LastG (fs : Option Fs) (w : World) (D U : Nat) (c : Code) (it acc L : Addr) (itO itE : Obj) (es : Array DictEntry) (extra : List (Nat × Obj)) (B : List (Code × Pos)) (n t : Nat) (p : Pos) (ys : Array Value) (ea : Nat) (ed : Nat) : Prop:=
 X4 fun (ds : List OrcD) (l : List St) (nn kk : (Nat → Sup) → Nat)=>(∀ j d,ds[j]? = some d → OrcOK w (D + 75) (U + 300) ds j d) ∧
  ∀ σ,Ends (runF w.params B fs l (ksC it acc L itO ys ea es ed extra) n t (osAt σ 0 ds) c p) (List.range (3 + extra.length))
    (.pure (.done .next),[],some (it,itE) :: some (acc,listO ys ea) :: some (L,dictO es ed) :: extra.map some,nn σ,kk σ)
theorem compG_any {fs : Option Fs} {w : World} {D U : Nat} {π : Nat → Sup} {c : Code} {ni na nL : Nat} {it acc L : Addr} {itO : Nat → Obj} {itE : Obj} {ys0 : Array Value} {ea0 : Nat} {es0 : Array DictEntry} {ed0 : Nat} {extra : List (Nat × Nat × Obj)} {es1 : Sup → Array DictEntry} (N : Nat) (G : Nat → Array Value → Prop)
 (hD : D + 75 ≤ 840) (hU : U + 300 ≤ 9000) (hc : c.isCaller = false) (hq : c.quiet = true) (hN : 0 < N) (hnum : (ni :: na :: nL :: extra.map (·.1)).Nodup) (hlen : extra.length < 4000) (hG0 : G 0 ys0)
 (he1 : ∀ (u : Sup) n t f g h,es1 ⟨n,t,fun i=>match i with | 0=>f | 1=>g | i + 2=>u.a (i + 2),u.v,fun _=>h,u.e,u.s⟩ = es1 u)
 (turn : ∀ B n t p k ys ea q ed,1106 ≤ n → (∀ l,fs = some l → l.holds B) → k < N → (q = none ↔ k = 0) → (q = none → ys = ys0 ∧ ea = ea0 ∧ ed = ed0) → G k ys → TurnG fs w D U c it acc L (itO k) (itO (k + 1)) es0 es1 (extra.map (·.2)) B n t p ys ea q ed (G (k + 1)))
 (last : ∀ B n t p ys ea u ed,1106 ≤ n → (∀ l,fs = some l → l.holds B) → G N ys → LastG fs w D U c it acc L (itO N) itE (es1 u) (extra.map (·.2)) B n t p ys ea ed) :
 OrcAny w D U π (compG fs c ni na nL it acc L (itO 0) itE ys0 ea0 es0 ed0 extra es1 (G N)):=by
 have hadd : 3 + extra.length = (needC ni na nL it acc L (itO 0) ys0 ea0 es0 ed0 extra).length:=by simp [needC];omega
 have hks : ∀ k (d : CompSt),(updOf (needC ni na nL it acc L (itO 0) ys0 ea0 es0 ed0 extra) (itO k :: listO d.ys d.ea :: dictO (esOf es0 es1 d.q) d.ed :: extra.map (·.2.2))).map (·.2) = ksC it acc L (itO k) d.ys d.ea (esOf es0 es1 d.q) d.ed (extra.map (·.2)):=fun k d=>by
  show (it,itO k) :: (acc,listO d.ys d.ea) :: (L,dictO (esOf es0 es1 d.q) d.ed) :: (updOf extra (extra.map (·.2.2))).map (·.2) = _
  rw [updOf_same];rfl
 have hob : ∀ a b c,obsOf (needC ni na nL it acc L (itO 0) ys0 ea0 es0 ed0 extra) (a :: b :: c :: extra.map (·.2.2)) [] = some (it,a) :: some (acc,b) :: some (L,c) :: (extra.map (·.2)).map some:=fun a b c=>by
  unfold obsOf
  rw [List.append_nil]
  show some (it,a) :: some (acc,b) :: some (L,c) :: (extra.zipWith (fun x o=>(x.2.1,o)) (extra.map (·.2.2))).map some = _
  rw [zipWith_same]
 refine loopG_any (fs:=fs) (δ:=CompSt) N (fun k d=>itO k :: listO d.ys d.ea :: dictO (esOf es0 es1 d.q) d.ed :: extra.map (·.2.2)) (fun k d=>(d.q = none ↔ k = 0) ∧ (d.q = none → d.ys = ys0 ∧ d.ea = ea0 ∧ d.ed = ed0) ∧ G k d.ys) ⟨ys0,ea0,none,ed0⟩ hD hU hc hq hnum (by rw [← hadd];omega) rfl ⟨by simp,fun _=>⟨rfl,rfl,rfl⟩,hG0⟩ (fun k d=>by simp [needC]) ?_ ?_
 ·intro B n t p k d hn lt hg hB
  obtain ⟨ds,l,ys',ea',ed',nn,kk,q',hds,hrun,hG⟩:=turn B n t p k d.ys d.ea d.q d.ed hn hB lt hg.1 hg.2.1 hg.2.2
  refine ⟨ds,l,fun σ=>⟨ys' σ,ea' σ,some (q' σ),ed' σ⟩,nn,kk,hds,fun σ=>?_,fun σ hf=>⟨by simp,by simp,hG σ hf⟩⟩
  rw [hks,hob,← hadd]
  have z:=hrun σ
  rw [List.length_map] at z
  exact z
 ·intro B n t p d hn hg hB
  obtain ⟨ys,ea,q,ed⟩:=d
  cases q with
  | none=>have : N = 0:=hg.1.mp rfl
          omega
  | some u=>
    obtain ⟨ds,l,nn,kk,hds,hrun⟩:=last B n t p ys ea u ed hn hB hg.2.2
    refine ⟨ds,l,[],fun σ=>⟨nn σ,kk σ,fun i=>match i with | 0=>ea | 1=>ed | i + 2=>u.a (i + 2),u.v,fun _=>ys,u.e,u.s⟩,hds,(fun _ h=>nomatch h),List.nodup_nil,fun σ=>⟨by simp [compF,needC],rfl,?_⟩,fun σ _=>hg.2.2⟩
    rw [List.append_nil,← hadd,hks]
    unfold compF
    rw [hob,he1]
    have z:=hrun σ
    rw [List.length_map] at z
    exact z
noncomputable def tG (fs : Option Fs) (P : Params) (B : List (Code × Pos)) (l : List St) (it acc L : Addr) (itO itO' : Obj) (ys : Array Value) (ea : Nat) (es : Array DictEntry) (ed : Nat) (extra : List (Nat × Obj)) (n t : Nat) (os : List Orc) (c : Code) (p : Pos)
 (ys' : Array Value) (ea' : Nat) (es' : Array DictEntry) (ed' : Nat) (nn kk : Nat) : Option RS × List Nat × Seen:=
 (runF P B fs l (ksC it acc L itO ys ea es ed extra) n t os c p,List.range (3 + extra.length),(.pure (.again c),[],some (it,itO') :: some (acc,listO ys' ea') :: some (L,dictO es' ed') :: extra.map some,nn,kk))
noncomputable def lG (fs : Option Fs) (P : Params) (B : List (Code × Pos)) (l : List St) (it acc L : Addr) (itO itE : Obj) (ys : Array Value) (ea : Nat) (es : Array DictEntry) (ed : Nat) (extra : List (Nat × Obj)) (n t : Nat) (os : List Orc) (c : Code) (p : Pos) (nn kk : Nat) : Option RS × List Nat × Seen:=
 (runF P B fs l (ksC it acc L itO ys ea es ed extra) n t os c p,List.range (3 + extra.length),(.pure (.done .next),[],some (it,itE) :: some (acc,listO ys ea) :: some (L,dictO es ed) :: extra.map some,nn,kk))
theorem comp1G_any {fs : Option Fs} {w : World} {D U : Nat} {π : Nat → Sup} {c : Code} {key : String} {ni na nL : Nat} {it acc L : Addr} {itO : Nat → Obj} {itE : Obj} {ea0 : Nat} {ed0 : Nat} {extra : List (Nat × Nat × Obj)} (N : Nat) (G : Nat → Array Value → Prop)
 (hD : D + 75 ≤ 840) (hU : U + 300 ≤ 9000) (hc : c.isCaller = false) (hq : c.quiet = true) (hN : 0 < N) (hnum : (ni :: na :: nL :: extra.map (·.1)).Nodup) (hlen : extra.length < 4000) (hG0 : G 0 #[])
 (turn : ∀ B n t p k ys ea ed tw vw,1106 ≤ n → (∀ l,fs = some l → l.holds B) → k < N → G k ys → X8 fun (ds : List OrcD) (l : List St) (ys' : (Nat → Sup) → Array Value) (ea' nn kk : (Nat → Sup) → Nat) (tk : Nat) (val : (Nat → Sup) → Value)=>(∀ j d,ds[j]? = some d → OrcOK w (D + 75) (U + 300) ds j d) ∧
  (k = 0 → ∀ σ,EndsR (tG fs w.params B l it acc L (itO k) (itO (k + 1)) ys ea #[] ed (extra.map (·.2)) n t (osAt σ 0 ds) c p (ys' σ) (ea' σ) #[E w.params key tk (val σ)] (ed + 1) (nn σ) (kk σ))) ∧
  (∀ σ,EndsR (tG fs w.params B l it acc L (itO k) (itO (k + 1)) ys ea #[E w.params key tw vw] ed (extra.map (·.2)) n t (osAt σ 0 ds) c p (ys' σ) (ea' σ) #[E w.params key tw (val σ)] ed (nn σ) (kk σ))) ∧
  ∀ σ,(∀ (i : Nat) (d : OrcD),ds[i]? = some d → d.F (tr i σ) (σ i)) → G (k + 1) (ys' σ))
 (last : ∀ B n t p ys ea es ed,1106 ≤ n → (∀ l,fs = some l → l.holds B) → G N ys → X4 fun (ds : List OrcD) (l : List St) (nn kk : (Nat → Sup) → Nat)=>(∀ j d,ds[j]? = some d → OrcOK w (D + 75) (U + 300) ds j d) ∧
  ∀ σ,EndsR (lG fs w.params B l it acc L (itO N) itE ys ea es ed (extra.map (·.2)) n t (osAt σ 0 ds) c p (nn σ) (kk σ))) :
 OrcAny w D U π (compG fs c ni na nL it acc L (itO 0) itE #[] ea0 #[] ed0 extra (es1k w.params key) (G N)):=by
 refine compG_any N G hD hU hc hq hN hnum hlen hG0 (fun u n t f g h=>rfl) ?_ ?_
 ·intro B n t p k ys ea q ed hn hB lt hk _ hg
  cases q with
  | none=>
    have k0 : k = 0:=hk.mp rfl
    obtain ⟨ds,l,ys',ea',nn,kk,tk,val,hds,h1,_,hG⟩:=turn B n t p k ys ea ed 0 .none hn hB lt hg
    exact ⟨ds,l,ys',ea',fun _=>ed + 1,nn,kk,fun σ=>⟨0,0,fun _=>tk,fun _=>val σ,fun _=>#[],fun _=>#[],fun _=>#[]⟩,hds,h1 k0,hG⟩
  | some u=>
    obtain ⟨ds,l,ys',ea',nn,kk,tk,val,hds,_,h2,hG⟩:=turn B n t p k ys ea ed (u.a 2) (u.v 0) hn hB lt hg
    exact ⟨ds,l,ys',ea',fun _=>ed,nn,kk,fun σ=>⟨0,0,u.a,fun _=>val σ,fun _=>#[],fun _=>#[],fun _=>#[]⟩,hds,h2,hG⟩
 ·intro B n t p ys ea u ed hn hB hg
  exact last B n t p ys ea _ ed hn hB hg
theorem filtG_any {fs : Option Fs} {w : World} {D U : Nat} {π : Nat → Sup} {c : Code} {ni na nL ns : Nat} {it acc L src : Addr} {xs : Array Value} {ex ea0 ed0 : Nat} {extra : List (Nat × Nat × Obj)} {ls : List String} (b : String → Bool) (test : Bool → Nat → String → Nat → OrcD) {l1 l0 le : List St} {nn kk : Nat → Nat → (Nat → Sup) → Nat}
 (hD : D ≤ 615) (hU : U ≤ 8100) (hc : c.isCaller = false) (hq : c.quiet = true) (hx : 0 < xs.size) (hw : Ws ls xs) (hsz : xs.size ≤ sizeLine) (hnum : (ni :: na :: nL :: ns :: extra.map (·.1)).Nodup) (hlen : extra.length < 3000)
 (htest : ∀ π t x tx,x ∈ ls → OrcAt w (D + 75) (U + 300) π (test (b x) t x tx))
 (yes : ∀ B n t p k ys ea es ed tw vw x tx σ,(∀ l,fs = some l → l.holds B) → EndsR (tG fs w.params B l1 it acc L (iterO src k) (iterO src (k + 1)) ys ea #[] ed ((src,listO xs ex) :: extra.map (·.2)) n t (osAt σ 0 [nextD 0 3 it src xs ex k (sv x tx),test true t x tx,appD 1 acc ys ea fun π=>sv x tx]) c p (ys.push (sv x tx)) ((σ 2).a 0) #[E w.params "word" t (sv x tx)] (ed + 1) (nn n t σ) (kk n t σ)) ∧
  EndsR (tG fs w.params B l1 it acc L (iterO src k) (iterO src (k + 1)) ys ea #[E w.params "word" tw vw] ed ((src,listO xs ex) :: extra.map (·.2)) n t (osAt σ 0 [nextD 0 3 it src xs ex k (sv x tx),test true t x tx,appD 1 acc ys ea fun π=>sv x tx]) c p (ys.push (sv x tx)) ((σ 2).a 0) #[E w.params "word" tw (sv x tx)] ed (nn n t σ) (kk n t σ)) ∧
  EndsR (tG fs w.params B l0 it acc L (iterO src k) (iterO src (k + 1)) ys ea #[] ed ((src,listO xs ex) :: extra.map (·.2)) n t (osAt σ 0 [nextD 0 3 it src xs ex k (sv x tx),test false t x tx]) c p ys ea #[E w.params "word" t (sv x tx)] (ed + 1) (nn n t σ) (kk n t σ)) ∧
  EndsR (tG fs w.params B l0 it acc L (iterO src k) (iterO src (k + 1)) ys ea #[E w.params "word" tw vw] ed ((src,listO xs ex) :: extra.map (·.2)) n t (osAt σ 0 [nextD 0 3 it src xs ex k (sv x tx),test false t x tx]) c p ys ea #[E w.params "word" tw (sv x tx)] ed (nn n t σ) (kk n t σ)) ∧
  EndsR (lG fs w.params B le it acc L (iterO src k) (iterEnd k) ys ea es ed ((src,listO xs ex) :: extra.map (·.2)) n t (osAt σ 0 [endD 0 3 it src xs ex k]) c p (σ 0).n (σ 0).t)) :
 OrcAny w D U π (compG fs c ni na nL it acc L (iterO src 0) (iterEnd xs.size) #[] ea0 #[] ed0 ((ns,src,listO xs ex) :: extra) (es1k w.params "word") (fun ys=>Ws ((ls.take xs.size).filter b) ys)):=by
 refine comp1G_any xs.size (itO:=iterO src) (fun k ys=>Ws ((ls.take k).filter b) ys) (by omega) (by omega) hc hq hx hnum (by simp;omega) (by simpa using Ws.nil) ?_ ?_
 ·intro B n t p k ys ea ed tw vw hn hB lt hg
  have lt' : k < ls.length:=by rw [← hw.1];exact lt
  obtain ⟨tx,hx⟩:=hw.2 k ls[k] (List.getElem?_eq_getElem lt')
  have z:=fun σ=>yes B n t p k ys ea #[] ed tw vw ls[k] tx σ hB
  have ht:=fun π=>htest π t ls[k] tx (List.getElem_mem lt')
  have hys : ys.size ≤ sizeLine:=by
   rw [hg.1]
   have h1:=List.length_filter_le b (ls.take k)
   have h2 : (ls.take k).length ≤ k:=by simp;omega
   omega
  have hs:=hg.snoc_if lt'
  cases hb : b ls[k] with
  | true=>
    rw [hb] at ht
    exact ⟨_,l1,fun σ=>ys.push (sv ls[k] tx),fun σ=>(σ 2).a 0,fun σ=>nn n t σ,fun σ=>kk n t σ,t,fun _=>sv ls[k] tx,orcs_all (at_three (fun π=>nextD_ok hx) ht (fun π=>appD_ok hys)),fun _ σ=>(z σ).1,fun σ=>(z σ).2.1,fun σ _=>hs.1 hb tx⟩
  | false=>
    rw [hb] at ht
    exact ⟨_,l0,fun σ=>ys,fun σ=>ea,fun σ=>nn n t σ,fun σ=>kk n t σ,t,fun _=>sv ls[k] tx,orcs_all (at_two (fun π=>nextD_ok hx) ht),fun _ σ=>(z σ).2.2.1,fun σ=>(z σ).2.2.2.1,fun σ _=>hs.2 hb⟩
 ·intro B n t p ys ea es ed hn hB hg
  exact ⟨_,le,fun σ=>(σ 0).n,fun σ=>(σ 0).t,one_ok fun π=>endD_ok (by simp),fun σ=>(yes B n t p xs.size ys ea es ed 0 .none "" 0 σ hB).2.2.2.2⟩
end
section
open PySem.Builtin PySem.Builtin.Str
noncomputable def csR (tg : PySem.Expr) (it : Value) (bd oe : List Stmt) (ev : Env) (f : List Stmt) : List Code:=[.forLoop tg it bd oe ev,.func f ev,.builtin "claim.caller" {}]
theorem runs5G (P : Params) (tg : PySem.Expr) (iF : Value) (bd oe f : List Stmt) (evL : Env) (B : List (Code × Pos)) (n t : Nat) (σ : Nat → Sup) (p : Pos) (src it acc L fr cp pa : Addr) (xs ys : Array Value) (i p0 ex ea ep k ed tx tw : Nat) (x : String) (vw : Value) (es : Array DictEntry) : Runs [
 tG (some (.codes (csR tg iF bd oe evL f))) P B l5y it acc L (iterO src k) (iterO src (k + 1)) ys ea #[] ed [(src,listO xs ex),(cp,cellO (.ref pa)),(pa,listO (pcs i p0) ep)] n t (osAt σ 0 [nextD 0 3 it src xs ex k (sv x tx),fitsG (cs5 ⟨.ref it,.ref acc,env5 L fr cp,tg,iF,bd,oe,f,evL⟩) 5 pa i p0 ep x (fun _=>tx) true,appD 1 acc ys ea fun π=>sv x tx]) (c5 it acc L fr cp) p (ys.push (sv x tx)) ((σ 2).a 0) #[E P "word" t (sv x tx)] (ed + 1) (σ 1).n (σ 1).t,
 tG (some (.codes (csR tg iF bd oe evL f))) P B l5y it acc L (iterO src k) (iterO src (k + 1)) ys ea #[E P "word" tw vw] ed [(src,listO xs ex),(cp,cellO (.ref pa)),(pa,listO (pcs i p0) ep)] n t (osAt σ 0 [nextD 0 3 it src xs ex k (sv x tx),fitsG (cs5 ⟨.ref it,.ref acc,env5 L fr cp,tg,iF,bd,oe,f,evL⟩) 5 pa i p0 ep x (fun _=>tx) true,appD 1 acc ys ea fun π=>sv x tx]) (c5 it acc L fr cp) p (ys.push (sv x tx)) ((σ 2).a 0) #[E P "word" tw (sv x tx)] ed (σ 1).n (σ 1).t,
 tG (some (.codes (csR tg iF bd oe evL f))) P B l5n it acc L (iterO src k) (iterO src (k + 1)) ys ea #[] ed [(src,listO xs ex),(cp,cellO (.ref pa)),(pa,listO (pcs i p0) ep)] n t (osAt σ 0 [nextD 0 3 it src xs ex k (sv x tx),fitsG (cs5 ⟨.ref it,.ref acc,env5 L fr cp,tg,iF,bd,oe,f,evL⟩) 5 pa i p0 ep x (fun _=>tx) false]) (c5 it acc L fr cp) p ys ea #[E P "word" t (sv x tx)] (ed + 1) (σ 1).n (σ 1).t,
 tG (some (.codes (csR tg iF bd oe evL f))) P B l5n it acc L (iterO src k) (iterO src (k + 1)) ys ea #[E P "word" tw vw] ed [(src,listO xs ex),(cp,cellO (.ref pa)),(pa,listO (pcs i p0) ep)] n t (osAt σ 0 [nextD 0 3 it src xs ex k (sv x tx),fitsG (cs5 ⟨.ref it,.ref acc,env5 L fr cp,tg,iF,bd,oe,f,evL⟩) 5 pa i p0 ep x (fun _=>tx) false]) (c5 it acc L fr cp) p ys ea #[E P "word" tw (sv x tx)] ed (σ 1).n (σ 1).t,
 lG (some (.codes (csR tg iF bd oe evL f))) P B l6e it acc L (iterO src k) (iterEnd k) ys ea es ed [(src,listO xs ex),(cp,cellO (.ref pa)),(pa,listO (pcs i p0) ep)] n t (osAt σ 0 [endD 0 3 it src xs ex k]) (c5 it acc L fr cp) p (σ 0).n (σ 0).t]:=by unfold Runs;kernel_rfl
theorem comp5G_ok {w : World} {D U : Nat} {π : Nat → Sup} (hD : D ≤ 615) (hU : U ≤ 8100) {tg : PySem.Expr} {iF : Value} {bd oe f : List Stmt} {evL : Env} {ns ni na nL nc np : Nat} {src it acc L fr cp pa : Addr} {xs : Array Value} {i p0 ex ea0 ed0 ep : Nat} {ls : List String} (hi : i < 4) (h6 : ∀ x ∈ ls,x ∈ six) (hx : 0 < xs.size) (hw : Ws ls xs) (hsz : xs.size ≤ sizeLine)
 (hn : [ni,na,nL,ns,nc,np].Nodup) :
 OrcAt w D U π (compG (some (.codes (csR tg iF bd oe evL f))) (.compStart e5 0 (.ref it) (.ref acc) (env5 L fr cp)) ni na nL it acc L (iterO src 0) (iterEnd xs.size) #[] ea0 #[] ed0 [(ns,src,listO xs ex),(nc,cp,cellO (.ref pa)),(np,pa,listO (pcs i p0) ep)] (es1k w.params "word") (fun zs=>Ws ((ls.take xs.size).filter (fitsB i)) zs)):=by
 refine (startG_any (by kernel_rfl) (self_list (l:=src) (k:=0) (ni:=ni) (.head _)) (filtG_any (c:=c5 it acc L fr cp) (extra:=[(nc,cp,cellO (.ref pa)),(np,pa,listO (pcs i p0) ep)]) (fitsB i) (fun b t x tx=>fitsG (cs5 ⟨.ref it,.ref acc,env5 L fr cp,tg,iF,bd,oe,f,evL⟩) 5 pa i p0 ep x (fun _=>tx) b) (l1:=l5y) (l0:=l5n) (le:=l6e) (nn:=fun n t σ=>(σ 1).n) (kk:=fun n t σ=>(σ 1).t) hD hU rfl rfl hx hw hsz hn (by simp) (fun π t x tx h=>fits_ok (by omega) (by omega) hi (h6 x h)) ?_)).at
 intro B n t p k zs ea es ed tw vw x tx σ _
 have z:=runs5G w.params tg iF bd oe f evL B n t σ p src it acc L fr cp pa xs zs i p0 ex ea ep k ed tx tw x vw es
 exact ⟨z.at (.head _),z.at (.tail _ (.head _)),z.at (.tail _ (.tail _ (.head _))),z.at (.tail _ (.tail _ (.tail _ (.head _)))),z.at (.tail _ (.tail _ (.tail _ (.tail _ (.head _)))))⟩
noncomputable def eTo : PySem.Expr:=sV (nth lawB 4)
noncomputable def envT (L fr : Addr) : Env:=lawEnv [(q ".0",.local),(q "pattern",.local),(q "_translate",.globalImplicit)] [] L fr
noncomputable def cT (it acc L fr : Addr) : Code:=.compLoop eTo 0 (.ref it) (.ref acc) (envT L fr)
noncomputable def pats (t0 t1 t2 t3 : Nat) : Array Value:=#[sv "a*" t0,sv "*b" t1,sv "??" t2,sv "[!a]*" t3]
noncomputable def co0 : Obj:=⟨.none,none,.fields #[],#[]⟩
noncomputable def co1 (a : Addr) : Obj:=⟨.none,none,.fields #[.int 315 0,.int 46 0,.ref a],#[]⟩
noncomputable def lT1 : List St:=[G 104 0x1ccc90099aaaaaa999199999900060664474444,cm,G 60 0x19999990ffddcddddddcddddddcdddddc,cm,G 41 0x199999999,cm,G 8 0x19,cm,G 8 0x19,cm,G 56 0x1000010f0010f00110f10f000909,cm,G 37 0x199aaaaaabb12f00,cm,G 41 0x199999999,cm,G 64 0x199aaaaaabb999aaaaa9aaaaa9,cm,G 10 0x199,cm,G 120 0x116f16f16f13f0013f13f14f14f14f14f14f14f13f13f13f113f13f13f13f13f13f0006066447444455559,cm,G 60 0x113f13f13f13f13f13f19f17f17f16f17f17f17f17f17f17f16f17f17f17f17f17f17f16f17f17f17f17f17f16f,cm,G 41 0x113f13f13f13f13f13f13f13f,cm,G 44 0x113f13f14f14f14f14f14f14f15f15f13f13f14f14f14f14f14f13f,cm,G 41 0x113f13f13f13f13f13f13f13f,cm,G 8 0x113f,cm,G 8 0x113f,cm,G 56 0x100001af001af0011af1af00013f013f,cm,G 37 0x113f13f14f14f14f14f14f14f15f15f1cf00,cm,G 10 0x113f13f,cm,G 120 0x120f20f20f1df001df1df1ef1ef1ef1ef1ef1ef1df1df1df11df1df1df1df1df1df00060664474444555513f,cm,G 60 0x11df1df1df1df1df1df23f21f21f20f21f21f21f21f21f21f20f21f21f21f21f21f21f20f21f21f21f21f21f20f,cm,G 41 0x11df1df1df1df1df1df1df1df,cm,G 8 0x11df,cm,G 27 0x11df1df1ef1ef1ef1ef1ef1ef1ff1ff1df1df,cm,G 41 0x11df1df1df1df1df1df1df1df,cm,G 8 0x11df,cm,G 27 0x11df1df1ef1ef1ef1ef1ef1ef1ff1ff1df1df,cm,G 10 0x11df1df,cm,G 120 0x127f27f27f24f0024f24f25f25f25f25f25f25f24f24f24f124f24f24f24f24f24f0006066447444455551df,cm,G 60 0x124f24f24f24f24f24f2af28f28f27f28f28f28f28f28f28f27f28f28f28f28f28f28f27f28f28f28f28f28f27f,cm,G 41 0x124f24f24f24f24f24f24f24f,cm,G 8 0x124f,cm,G 8 0x124f,cm,G 19 0x124f24f24f24f24f,cm,G 14 0x124f24f,cm,G 25 0x124f24f24f24f24f,cm,G 14 0x124f24f,cm,G 10 0x124f24f,cm,G 14 0x124f24f,cm,G 25 0x124f24f24f24f24f,cm,G 14 0x124f24f,cm,G 10 0x124f24f,cm,G 155 0x124f24f24f24f24f24f24f33f33f33f33f33f33f000032f024f000888800000024f24f24f24f24f24f2bf2bf2bf2bf24f24f24f,cm,G 14 0x124f,cm,G 39 0x124f24f24f24f34f34f34f34f24f,G 23 0x124f24f25f25f25f25f25f25f26f26f,cm,G 41 0x124f24f24f24f24f24f24f24f,cm,G 64 0x124f24f25f25f25f25f25f25f26f26f24f24f24f25f25f25f25f25f24f25f25f25f25f25f24f,cm,G 10 0x124f24f,cm,G 32 0x136f4474444555524f]
noncomputable def lT0 : List St:=[G 104 0x1ccc90099aaaaaa999199999900060664474444,cm,G 60 0x19999990ffddcddddddcddddddcdddddc,cm,G 41 0x199999999,cm,G 8 0x19,cm,G 8 0x19,cm,G 56 0x1000010f0010f00110f10f000909,cm,G 37 0x199aaaaaabb12f00,cm,G 41 0x199999999,cm,G 64 0x199aaaaaabb999aaaaa9aaaaa9,cm,G 10 0x199,cm,G 120 0x116f16f16f13f0013f13f14f14f14f14f14f14f13f13f13f113f13f13f13f13f13f0006066447444455559,cm,G 60 0x113f13f13f13f13f13f19f17f17f16f17f17f17f17f17f17f16f17f17f17f17f17f17f16f17f17f17f17f17f16f,cm,G 41 0x113f13f13f13f13f13f13f13f,cm,G 44 0x113f13f14f14f14f14f14f14f15f15f13f13f14f14f14f14f14f13f,cm,G 41 0x113f13f13f13f13f13f13f13f,cm,G 8 0x113f,cm,G 8 0x113f,cm,G 56 0x100001af001af0011af1af00013f013f,cm,G 37 0x113f13f14f14f14f14f14f14f15f15f1cf00,cm,G 10 0x113f13f,cm,G 120 0x120f20f20f1df001df1df1ef1ef1ef1ef1ef1ef1df1df1df11df1df1df1df1df1df00060664474444555513f,cm,G 60 0x11df1df1df1df1df1df23f21f21f20f21f21f21f21f21f21f20f21f21f21f21f21f21f20f21f21f21f21f21f20f,cm,G 41 0x11df1df1df1df1df1df1df1df,cm,G 8 0x11df,cm,G 27 0x11df1df1ef1ef1ef1ef1ef1ef1ff1ff1df1df,cm,G 41 0x11df1df1df1df1df1df1df1df,cm,G 8 0x11df,cm,G 27 0x11df1df1ef1ef1ef1ef1ef1ef1ff1ff1df1df,cm,G 10 0x11df1df,cm,G 120 0x127f27f27f24f0024f24f25f25f25f25f25f25f24f24f24f124f24f24f24f24f24f0006066447444455551df,cm,G 60 0x124f24f24f24f24f24f2af28f28f27f28f28f28f28f28f28f27f28f28f28f28f28f28f27f28f28f28f28f28f27f,cm,G 41 0x124f24f24f24f24f24f24f24f,cm,G 8 0x124f,cm,G 8 0x124f,cm,G 19 0x124f24f24f24f24f,cm,G 14 0x124f24f,cm,G 25 0x124f24f24f24f24f,cm,G 14 0x124f24f,cm,G 10 0x124f24f,cm,G 14 0x124f24f,cm,G 25 0x124f24f24f24f24f,cm,G 14 0x124f24f,cm,G 10 0x124f24f,cm,G 155 0x124f24f24f24f24f24f24f33f33f33f33f33f33f000032f024f000888800000024f24f24f24f24f24f2bf2bf2bf2bf24f24f24f,cm,G 14 0x124f,cm,G 39 0x124f24f24f24f34f34f34f34f24f,G 22 0x124f24f25f25f25f25f25f25f26f26f,cm,G 41 0x124f24f24f24f24f24f24f24f,cm,G 64 0x124f24f25f25f25f25f25f25f26f26f24f24f24f25f25f25f25f25f24f25f25f25f25f25f24f,cm,G 10 0x124f24f,cm,G 32 0x136f4474444555524f]
theorem runT_ok (P : Params) (B : List (Code × Pos)) (n t : Nat) (σ : Nat → Sup) (p : Pos) (src it acc L fr : Addr) (ex t0 t1 t2 t3 : Nat) : Runs [
 (runC (rowP P "fstring-hands-on-the-str" true) B lT1 [(it,iterO src 0),(acc,listO #[] 0),(L,dictO #[] 0),(src,listO (pats t0 t1 t2 t3) ex),(353,co0)] n t (osAt σ 0 []) (cT it acc L fr) p,[0,1,2,3,4,6,16,26,33],
  (.pure (.done .next),[],[some (it,iterEnd 4),some (acc,listO #[.ref (n + 1),.ref (n + 11),.ref (n + 21),.ref (n + 28)] 4),some (L,dictO #[E P "pattern" t (sv "[!a]*" t3)] 1),some (src,listO (pats t0 t1 t2 t3) ex),some (353,co1 (n + 40)),
   some (n + 1,listO (pcs 0 (t + 24)) 2),some (n + 11,listO (pcs 1 (t + 67)) 2),some (n + 21,listO (pcs 2 (t + 69)) 2),some (n + 28,listO (pcs 3 (t + 163)) 2)],n + 46,t + 174)),
 (runC (rowP P "fstring-hands-on-the-str" false) B lT0 [(it,iterO src 0),(acc,listO #[] 0),(L,dictO #[] 0),(src,listO (pats t0 t1 t2 t3) ex),(353,co0)] n t (osAt σ 0 []) (cT it acc L fr) p,[0,1,2,3,4,6,16,26,33],
  (.pure (.done .next),[],[some (it,iterEnd 4),some (acc,listO #[.ref (n + 1),.ref (n + 11),.ref (n + 21),.ref (n + 28)] 4),some (L,dictO #[E P "pattern" t (sv "[!a]*" t3)] 1),some (src,listO (pats t0 t1 t2 t3) ex),some (353,co1 (n + 40)),
   some (n + 1,listO (pcs 0 (t + 24)) 2),some (n + 11,listO (pcs 1 (t + 67)) 2),some (n + 21,listO (pcs 2 (t + 69)) 2),some (n + 28,listO (pcs 3 (t + 162)) 2)],n + 46,t + 173))]:=by unfold Runs;kernel_rfl
noncomputable def toldNeed (ni na nL ns nc : Nat) (src it acc L : Addr) (ex t0 t1 t2 t3 : Nat) : List (Nat × Nat × Obj):=[(ni,it,iterO src 0),(na,acc,listO #[] 0),(nL,L,dictO #[] 0),(ns,src,listO (pats t0 t1 t2 t3) ex),(nc,353,co0)]
noncomputable def toldFin (P : Params) (src : Addr) (ex t0 t1 t2 t3 : Nat) (u : Sup) : List Obj:=[iterEnd 4,listO #[.ref (u.a 0),.ref (u.a 1),.ref (u.a 2),.ref (u.a 3)] 4,dictO #[E P "pattern" (u.a 8) (sv "[!a]*" t3)] 1,listO (pats t0 t1 t2 t3) ex,co1 (u.a 9)]
noncomputable def toldOut (u : Sup) : List (Nat × Obj):=[(u.a 0,listO (pcs 0 (u.a 4)) 2),(u.a 1,listO (pcs 1 (u.a 5)) 2),(u.a 2,listO (pcs 2 (u.a 6)) 2),(u.a 3,listO (pcs 3 (u.a 7)) 2)]
noncomputable def toldD (P : Params) (ni na nL ns nc : Nat) (src it acc L fr : Addr) (ex t0 t1 t2 t3 : Nat) : OrcD:=
 fnF none (fun _=>.compStart eTo 0 (.ref it) (.ref acc) (envT L fr)) (fun _=>toldNeed ni na nL ns nc src it acc L ex t0 t1 t2 t3) (fun _=>toldFin P src ex t0 t1 t2 t3) (fun _ _=>.ok .next) (fun _=>toldOut) (fun _ _=>True)
theorem told_ok {w : World} {D U : Nat} {π : Nat → Sup} (hD : D ≤ 765) (hU : U ≤ 8700) {ni na nL ns nc : Nat} {src it acc L fr : Addr} {ex t0 t1 t2 t3 : Nat} (hn : [ni,na,nL,ns,nc].Nodup) : OrcAt w D U π (toldD w.params ni na nL ns nc src it acc L fr ex t0 t1 t2 t3):=by
 refine (startG_any (fs:=none) (need:=toldNeed ni na nL ns nc src it acc L ex t0 t1 t2 t3) (fin:=toldFin w.params src ex t0 t1 t2 t3) (r:=fun _=>.ok .next) (out:=toldOut) (F:=fun _=>True) (by kernel_rfl) (self_list (l:=src) (k:=0) (ni:=ni) (.head _)) ?_).at
 refine fnF_any (c:=fun _=>cT it acc L fr) (need:=fun _=>toldNeed ni na nL ns nc src it acc L ex t0 t1 t2 t3) (fin:=fun _=>toldFin w.params src ex t0 t1 t2 t3) (r:=fun _ _=>.ok .next) (out:=fun _=>toldOut) (F:=fun _ _=>True) (by omega) (by omega) rfl hn (by simp [toldNeed]) fun B n t p hN=>?_
 cases hb : w.params.followText "fstring-hands-on-the-str" with
 | true=>
   refine ⟨[],lT1,[6,16,26,33],fun _=>⟨n + 46,t + 174,fun i=>match i with | 0=>n + 1 | 1=>n + 11 | 2=>n + 21 | 3=>n + 28 | 4=>t + 24 | 5=>t + 67 | 6=>t + 69 | 7=>t + 163 | 8=>t | _=>n + 40,fun _=>.none,fun _=>#[],fun _=>#[],fun _=>#[]⟩,none_ok,by simp [toldNeed],by simp,fun σ=>⟨rfl,rfl,?_⟩,fun _ _=>trivial⟩
   have z:=(runT_ok w.params B n t σ p src it acc L fr ex t0 t1 t2 t3).get (.head _)
   rw [rowP_self hb] at z
   exact z
 | false=>
   refine ⟨[],lT0,[6,16,26,33],fun _=>⟨n + 46,t + 173,fun i=>match i with | 0=>n + 1 | 1=>n + 11 | 2=>n + 21 | 3=>n + 28 | 4=>t + 24 | 5=>t + 67 | 6=>t + 69 | 7=>t + 162 | 8=>t | _=>n + 40,fun _=>.none,fun _=>#[],fun _=>#[],fun _=>#[]⟩,none_ok,by simp [toldNeed],by simp,fun σ=>⟨rfl,rfl,?_⟩,fun _ _=>trivial⟩
   have z:=(runT_ok w.params B n t σ p src it acc L fr ex t0 t1 t2 t3).get (.tail _ (.head _))
   rw [rowP_self hb] at z
   exact z
noncomputable def rNames : List String:=["","a","ab","b","bb","it's b"]
noncomputable def rising (ls : List String) : List String:=rNames.flatMap fun nm=>ls.filter fun x=>x == nm
noncomputable def rk (x : String) : Nat:=rNames.idxOf x
noncomputable def rkS (x : Str) : Nat:=(rNames.map q).idxOf x
theorem sorted_unique : ∀ {l l' : List Nat},l.Perm l' → l.Pairwise (· ≤ ·) → l'.Pairwise (· ≤ ·) → l = l'
 | [],l',p,_,_=>(List.nil_perm.mp p).symm
 | a :: l,[],p,_,_=>by simpa using p.length_eq
 | a :: l,b :: l',p,h,h'=>by
   obtain ⟨h1,h2⟩:=List.pairwise_cons.mp h
   obtain ⟨h1',h2'⟩:=List.pairwise_cons.mp h'
   have e : a = b:=by
    rcases List.mem_cons.mp (p.mem_iff.mp (List.mem_cons_self ..) : a ∈ b :: l') with q | q
    ·exact q
    ·rcases List.mem_cons.mp (p.mem_iff.mpr (List.mem_cons_self ..) : b ∈ a :: l) with q' | q'
     ·exact q'.symm
     ·exact Nat.le_antisymm (h1 _ q') (h1' _ q)
   subst e
   rw [sorted_unique (List.Perm.cons_inv p) h2 h2']
theorem six_r : ∀ x,x ∈ six ↔ x ∈ rNames:=fun x=>List.Perm.mem_iff (by decide)
theorem rk_six : ∀ x ∈ six,∀ y ∈ six,rkS (q x) = rk x ∧ (rk x = rk y → x = y) ∧ (PySem.Spec.ltCps (q y).cps.toList (q x).cps.toList = false → rk x ≤ rk y):=by decide +kernel
theorem count_flat {α : Type} [BEq α] [LawfulBEq α] (l : List α) (a : α) : ∀ ks : List α,ks.Nodup → (a ∈ ks → (ks.flatMap fun k=>l.filter (· == k)).count a = l.count a) ∧ (a ∉ ks → (ks.flatMap fun k=>l.filter (· == k)).count a = 0)
 | [],_=>⟨fun h=>(nomatch h),fun _=>rfl⟩
 | k :: ks,hn=>by
   obtain ⟨h1,h2⟩:=List.nodup_cons.mp hn
   have ih:=count_flat l a ks h2
   rw [List.flatMap_cons,List.count_append]
   by_cases e : a = k
   ·subst e
    rw [ih.2 h1,Nat.add_zero,List.count_filter (by simp)]
    exact ⟨fun _=>rfl,fun h=>absurd (.head _) h⟩
   ·have z : (l.filter (· == k)).count a = 0:=List.count_eq_zero.mpr fun hm=>e (by simpa using (List.mem_filter.mp hm).2)
    rw [z,Nat.zero_add]
    exact ⟨fun h=>ih.1 ((List.mem_cons.mp h).resolve_left e),fun h=>ih.2 fun h'=>h (.tail _ h')⟩
theorem rising_perm {ls : List String} (h : ∀ x ∈ ls,x ∈ six) : (rising ls).Perm ls:=by
 rw [List.perm_iff_count]
 intro a
 unfold rising
 by_cases ha : a ∈ rNames
 ·exact (count_flat ls a _ (by decide)).1 ha
 ·exact ((count_flat ls a _ (by decide)).2 ha).trans (List.count_eq_zero.mpr fun hm=>ha ((by decide : ∀ x ∈ six,x ∈ rNames) a (h a hm))).symm
theorem rising_sorted (ls : List String) : ((rising ls).map rk).Pairwise (· ≤ ·):=by
 have key : ∀ nm : String,∀ y ∈ (ls.filter fun x=>x == nm).map rk,y = rk nm:=fun nm y hy=>by
  obtain ⟨x,hx,rfl⟩:=List.mem_map.mp hy
  have : x = nm:=by simpa using (List.mem_filter.mp hx).2
  rw [this]
 have self : ∀ nm : String,((ls.filter fun x=>x == nm).map rk).Pairwise (· ≤ ·):=fun nm=>by
  rw [List.pairwise_iff_getElem]
  intro i j hi hj _
  rw [key nm _ (List.getElem_mem hi),key nm _ (List.getElem_mem hj)]
  exact Nat.le_refl _
 have r0 : rk "" = 0:=by decide +kernel
 have r1 : rk "a" = 1:=by decide +kernel
 have r2 : rk "ab" = 2:=by decide +kernel
 have r3 : rk "b" = 3:=by decide +kernel
 have r4 : rk "bb" = 4:=by decide +kernel
 have r5 : rk "it's b" = 5:=by decide +kernel
 unfold rising rNames
 simp only [List.flatMap_cons,List.flatMap_nil,List.append_nil,List.map_append]
 refine List.pairwise_append.mpr ⟨self _,List.pairwise_append.mpr ⟨self _,List.pairwise_append.mpr ⟨self _,List.pairwise_append.mpr ⟨self _,List.pairwise_append.mpr ⟨self _,self _,?_⟩,?_⟩,?_⟩,?_⟩,?_⟩ <;>
  intro a ha b hb <;> (try simp only [List.mem_append] at hb) <;> rw [key _ a ha] <;>
  first
   | (rcases hb with hb | hb | hb | hb | hb <;> rw [key _ b hb] <;> simp only [r0,r1,r2,r3,r4,r5] <;> omega)
   | (rcases hb with hb | hb | hb | hb <;> rw [key _ b hb] <;> simp only [r0,r1,r2,r3,r4,r5] <;> omega)
   | (rcases hb with hb | hb | hb <;> rw [key _ b hb] <;> simp only [r0,r1,r2,r3,r4,r5] <;> omega)
   | (rcases hb with hb | hb <;> rw [key _ b hb] <;> simp only [r0,r1,r2,r3,r4,r5] <;> omega)
   | (rw [key _ b hb];simp only [r0,r1,r2,r3,r4,r5];omega)
theorem words_of {ls : List String} (h : ∀ x ∈ ls,x ∈ six) : ∀ {ss : List Str},(∀ s ∈ ss,s ∈ ls.map q) → ∃ l2 : List String,ss = l2.map q ∧ ∀ x ∈ l2,x ∈ six
 | [],_=>⟨[],rfl,fun _ h=>nomatch h⟩
 | s :: ss,hs=>by
   obtain ⟨l2,rfl,h2⟩:=words_of h (ss:=ss) fun x hx=>hs x (.tail _ hx)
   obtain ⟨x,hx,rfl⟩:=List.mem_map.mp (hs s (.head _))
   exact ⟨x :: l2,rfl,fun y hy=>by
    rcases List.mem_cons.mp hy with rfl | hy
    ·exact h _ hx
    ·exact h2 _ hy⟩
theorem sorted_ranks : ∀ {l : List String},(∀ x ∈ l,x ∈ six) → sortedS (l.map q) = true → (l.map rk).Pairwise (· ≤ ·)
 | [],_,_=>.nil
 | [x],_,_=>by simp
 | x :: y :: l,h,hs=>by
   have hs' : (!PySem.Spec.ltCps (q y).cps.toList (q x).cps.toList && risingS (q y) (l.map q)) = true:=hs
   rw [Bool.and_eq_true,Bool.not_eq_true'] at hs'
   have ih:=sorted_ranks (l:=y :: l) (fun z hz=>h z (.tail _ hz)) hs'.2
   have hxy:=(rk_six x (h _ (.head _)) y (h _ (.tail _ (.head _)))).2.2 hs'.1
   refine List.pairwise_cons.mpr ⟨fun z hz=>?_,ih⟩
   rcases List.mem_cons.mp hz with rfl | hz
   ·exact hxy
   ·exact Nat.le_trans hxy ((List.pairwise_cons.mp ih).1 z hz)
theorem map_rk_inj : ∀ {l l' : List String},(∀ x ∈ l,x ∈ six) → (∀ x ∈ l',x ∈ six) → l.map rk = l'.map rk → l = l'
 | [],[],_,_,_=>rfl
 | [],_ :: _,_,_,h=>by cases h
 | _ :: _,[],_,_,h=>by cases h
 | x :: l,y :: l',h,h',e=>by
   obtain ⟨e1,e2⟩:=List.cons.inj e
   rw [(rk_six x (h _ (.head _)) y (h' _ (.head _))).2.1 e1,map_rk_inj (fun z hz=>h z (.tail _ hz)) (fun z hz=>h' z (.tail _ hz)) e2]
theorem rising_is {ls : List String} (h : ∀ x ∈ ls,x ∈ six) {ss : List Str} (hp : ss.Perm (ls.map q)) (hs : sortedS ss = true) : ss = (rising ls).map q:=by
 obtain ⟨l2,rfl,h2⟩:=words_of h (ss:=ss) fun s hs=>hp.mem_iff.mp hs
 have hr:=rising_perm h
 have h6 : ∀ x ∈ rising ls,x ∈ six:=fun x hx=>h x (hr.mem_iff.mp hx)
 have m : ∀ {l : List String},(∀ x ∈ l,x ∈ six) → (l.map q).map rkS = l.map rk:=fun {l} hl=>by
  rw [List.map_map]
  exact List.map_congr_left fun x hx=>(rk_six x (hl x hx) x (hl x hx)).1
 have p2 : (l2.map rk).Perm ((rising ls).map rk):=by
  have:=hp.map rkS
  rw [m h2,m h] at this
  exact this.trans (hr.map rk).symm
 rw [map_rk_inj h2 h6 (sorted_unique p2 (sorted_ranks h2 hs) (rising_sorted ls))]
noncomputable def sortD (nl : Nat) (l : Addr) (xs : Array Value) (ex : Nat) (ls : List String) : OrcD:=
 ⟨fun _=>.call (.builtin "sorted") ⟨[.ref l],[]⟩,fun _=>[(nl,l,listO xs ex)],fun _ u=>.ok (.ret (.ref (u.a 0))),fun _ _=>[],fun _ u=>[(u.a 0,listO (u.x 0) (u.a 1))],fun _ u=>some (u.n,u.t),fun _ u=>Ws (rising ls) (u.x 0),fun _=>none,0⟩
theorem Ws.strs {ls : List String} {xs : Array Value} (h : Ws ls xs) : StrsAre xs.toList (ls.map q):=by
 obtain ⟨ts,e1,e2⟩:=h.list
 rw [e1]
 clear e1 h
 induction ls generalizing ts with
 | nil=>exact .nil
 | cons x l ih=>
   cases ts with
   | nil=>simp at e2
   | cons t ts=>exact .cons (q x) t (ih ts (by simpa using e2))
theorem Ws.of_strs {ls : List String} {xs : Array Value} (h : StrsAre xs.toList (ls.map q)) : Ws ls xs:=by
 refine ⟨by simpa using h.len_eq,fun i x hx=>?_⟩
 obtain ⟨t,e⟩:=h.at (j:=i) (y:=q x) (by rw [List.getElem?_map,hx];rfl)
 exact ⟨t,by rw [← Array.getElem?_toList];exact e⟩
theorem sortD_ok {w : World} {D U : Nat} {π : Nat → Sup} {nl : Nat} {l : Addr} {xs : Array Value} {ex : Nat} {ls : List String} (hw : Ws ls xs) (h6 : ∀ x ∈ ls,x ∈ six) (h64 : ls.length < 64) : OrcAt w D U π (sortD nl l xs ex ls):=by
 refine OrcAt.of_call rfl (fun s ho hz hp=>?_)
 have h1 : s.heap.get? l = some (listO xs ex):=hp.get _ (.head _)
 refine sorted_strs (vs:=xs.toList) ⟨_,h1,rfl,ex,by simp⟩ hw.strs (by simpa [hw.1] using h64) fun out ss' a1 a2 a3=>?_
 obtain ⟨e,he⟩:=sortedAll_at s.heap xs.toList out
 have hss:=rising_is h6 a2 a3
 subst hss
 refine ⟨⟨(sortedAll s.heap xs.toList out).objs.size,s.toks,fun i=>match i with | 0=>s.heap.objs.size + 1 | _=>e,fun _=>.none,fun _=>out,fun _=>#[],fun _=>#[]⟩,rfl,⟨rfl,rfl,rfl,?_,fun b v h _=>sortedAll_old h,(fun _ h=>nomatch h),fun x hx=>?_,by simp [OrcD.at,sortD],⟨rfl,rfl⟩⟩,Ws.of_strs a1⟩
 ·exact Nat.le_of_lt (Nat.lt_of_succ_lt (Heap.lt_size he))
 ·have hx' : x ∈ [(s.heap.objs.size + 1,listO out e)]:=hx
  rcases List.mem_singleton.mp hx' with rfl
  exact ⟨Nat.le_succ _,he⟩
noncomputable def mod2 (a b : Int) (ta tb : (Nat → Sup) → Nat) : OrcD:=newIntD (fun π=>.call (.builtin "int.__mod__") ⟨[.int a (ta π),.int b (tb π)],[]⟩) (a.fmod b)
noncomputable def div2 (a b : Int) (ta tb : (Nat → Sup) → Nat) : OrcD:=newIntD (fun π=>.call (.builtin "int.__floordiv__") ⟨[.int a (ta π),.int b (tb π)],[]⟩) (a.fdiv b)
noncomputable def sub2 (a b : Int) (ta tb : (Nat → Sup) → Nat) : OrcD:=newIntD (fun π=>.call (.builtin "int.__sub__") ⟨[.int a (ta π),.int b (tb π)],[]⟩) (a - b)
noncomputable def add2 (a b : Int) (ta tb : (Nat → Sup) → Nat) : OrcD:=newIntD (fun π=>.call (.builtin "int.__add__") ⟨[.int a (ta π),.int b (tb π)],[]⟩) (a + b)
theorem mod2_ok {w : World} {D U : Nat} {π : Nat → Sup} {a b : Int} {ta tb : (Nat → Sup) → Nat} (h : b ≠ 0) : OrcAt w D U π (mod2 a b ta tb):=
 int_of rfl F.slot_int_mod (fun s=>typeIs_int _ _ _) F.entry_int_mod (F.args_int_mod_2 _ _) (AutoIntG6.int___mod___int_int_1 a (ta π) b (tb π) (by simpa using h))
theorem div2_ok {w : World} {D U : Nat} {π : Nat → Sup} {a b : Int} {ta tb : (Nat → Sup) → Nat} (h : b ≠ 0) (h2 : Builtin.divisionGoesByPylong a b = false) : OrcAt w D U π (div2 a b ta tb):=
 int_of rfl F.slot_int_floordiv (fun s=>typeIs_int _ _ _) F.entry_int_floordiv (F.args_int_floordiv_2 _ _) (AutoIntG4.int___floordiv___int_int_1 a (ta π) b (tb π) (by simpa using h) (by rw [h2];simp))
theorem sub2_ok {w : World} {D U : Nat} {π : Nat → Sup} {a b : Int} {ta tb : (Nat → Sup) → Nat} : OrcAt w D U π (sub2 a b ta tb):=
 int_of rfl F.slot_int_sub (fun s=>typeIs_int _ _ _) F.entry_int_sub (F.args_int_sub_2 _ _) (AutoIntG9.int___sub___int_int_0 a (ta π) b (tb π))
theorem add2_ok {w : World} {D U : Nat} {π : Nat → Sup} {a b : Int} {ta tb : (Nat → Sup) → Nat} : OrcAt w D U π (add2 a b ta tb):=
 int_of rfl F.slot_int_add (fun s=>typeIs_int _ _ _) F.entry_int_add (F.args_int_add_2 _ _) (AutoIntG4.int___add___int_int_0 a (ta π) b (tb π))
theorem code_item {w : World} {A : Around} {l : Addr} {xs : Array Value} {ex : Nat} {k : Int} {t : Nat} {x : Value} {R : Result → Shared → Prop} {s : Shared} (h1 : s.heap.get? l = some (listO xs ex)) (h0 : 0 ≤ k) (hfit : k < 2 ^ 63) (hx : xs[k.toNat]? = some x) (h : R (.ok (.ret x)) s) :
 codeAny (model pw w) A (.call (.builtin "list.__getitem__") ⟨[.ref l,.int k t],[]⟩) R s:=by
 have hTl : s.TypeIs (.ref l) "list":=⟨_,h1,rfl⟩
 refine codeAny_call_builtin slot_list_getitem.plain entry_list_getitem (slot_list_getitem.check _ _ _ _ _ _ _ _ hTl (args_list_getitem _ _) ?_)
 show wpAny _ _ (Builtin.List.listSubscript? (.int k t) >>= _) _ _ s
 refine wpAny_bind (wpAny_listSubscript_int (fitsIndex_of h0 hfit) ?_)
 clear hfit
 obtain ⟨j,rfl⟩:=Int.eq_ofNat_of_zero_le h0
 have hx' : xs[j]? = some x:=hx
 show wpAny _ _ ((seqItemAt l j >>= fun r=>pure (r.map (j,·))) >>= _) _ _ s
 refine wpAny_bind (wpAny_bind (wpAny_seqItemAt h1 rfl (wpAny_pure ?_)))
 rw [hx']
 exact wpAny_pure h
theorem dep_at {w : World} {D U : Nat} {π : Nat → Sup} {f : (Nat → Sup) → OrcD} (h : OrcAt w D U π (f π)) (hk : (f π).kd = 0:=by rfl) : OrcAt w D U π (dep 0 f):=by
 unfold OrcAt at h ⊢
 rw [hk] at h
 rw [show (dep 0 f).kd = 0 from rfl]
 intro Γ p s he hc F hfs ho hz hA
 obtain ⟨r',s',hr,u,e,hp,hF⟩:=h Γ p s he hc F hfs ho hz hA
 exact ⟨r',s',hr,u,e,⟨hp.gens,hp.drawn,hp.os,hp.size,hp.keep,hp.upd,hp.out,hp.nod,hp.sz⟩,hF⟩
noncomputable def lenM (nl : Nat) (l : Addr) (xs : Array Value) (ex m : Nat) : OrcD:=
 ⟨fun _=>.call (.builtin "len") ⟨[.ref l],[]⟩,fun _=>[(nl,l,listO xs ex)],fun _ u=>.ok (.ret (.int (m : Nat) (u.a 0))),fun _ _=>[],fun _ _=>[],fun _ u=>some (u.n,u.t),fun _ _=>True,fun _=>none,0⟩
theorem lenM_ok {w : World} {D U : Nat} {π : Nat → Sup} {nl : Nat} {l : Addr} {xs : Array Value} {ex m : Nat} (hm : xs.size = m) (hsz : (m : Int) < 2 ^ 63) : OrcAt w D U π (lenM nl l xs ex m):=by
 subst hm
 exact lenD_ok hsz
noncomputable def modR (a b r : Int) (ta tb : (Nat → Sup) → Nat) : OrcD:=newIntD (fun π=>.call (.builtin "int.__mod__") ⟨[.int a (ta π),.int b (tb π)],[]⟩) r
noncomputable def divR (a b r : Int) (ta tb : (Nat → Sup) → Nat) : OrcD:=newIntD (fun π=>.call (.builtin "int.__floordiv__") ⟨[.int a (ta π),.int b (tb π)],[]⟩) r
noncomputable def subR (a b r : Int) (ta tb : (Nat → Sup) → Nat) : OrcD:=newIntD (fun π=>.call (.builtin "int.__sub__") ⟨[.int a (ta π),.int b (tb π)],[]⟩) r
theorem modR_ok {w : World} {D U : Nat} {π : Nat → Sup} {a b r : Int} {ta tb : (Nat → Sup) → Nat} (hb : b ≠ 0) (h : a.fmod b = r) : OrcAt w D U π (modR a b r ta tb):=by subst h;exact mod2_ok hb
theorem half_ok {w : World} {D U : Nat} {π : Nat → Sup} {m : Nat} {ta tb : (Nat → Sup) → Nat} : OrcAt w D U π (divR (m : Nat) 2 (m / 2 : Nat) ta tb):=by
 have e : ((m / 2 : Nat) : Int) = (m : Int).fdiv 2:=by
  rw [Int.fdiv_eq_ediv_of_nonneg _ (by decide)];simp
 rw [e]
 exact div2_ok (by decide) (by
  unfold Builtin.divisionGoesByPylong
  simp only [Bool.and_eq_false_iff]
  exact .inl (by decide +kernel))
theorem subR_ok {w : World} {D U : Nat} {π : Nat → Sup} {a b r : Int} {ta tb : (Nat → Sup) → Nat} (h : a - b = r) : OrcAt w D U π (subR a b r ta tb):=by subst h;exact sub2_ok
noncomputable def itemW (nl : Nat) (l : Addr) (xs : Array Value) (ex : Nat) (i : Nat) (ti : (Nat → Sup) → Nat) (x : String) : OrcD:=
 ⟨fun π=>.call (.builtin "list.__getitem__") ⟨[.ref l,.int (i : Nat) (ti π)],[]⟩,fun _=>[(nl,l,listO xs ex)],fun _ u=>.ok (.ret (sv x (u.a 0))),fun _ _=>[],fun _ _=>[],fun _ _=>none,fun _ _=>True,fun _=>none,0⟩
theorem itemW_ok {w : World} {D U : Nat} {π : Nat → Sup} {nl : Nat} {l : Addr} {xs : Array Value} {ex i : Nat} {ti : (Nat → Sup) → Nat} {x : String} (hx : ∃ t,xs[i]? = some (sv x t)) (hi : (i : Int) < 2 ^ 63) : OrcAt w D U π (itemW nl l xs ex i ti x):=by
 obtain ⟨t,hx⟩:=hx
 refine OrcAt.of_code (fun s ho hz hp=>?_)
 exact code_item (hp.get _ (.head _)) (Int.natCast_nonneg i) hi (by simpa using hx) ⟨⟨0,0,fun _=>t,fun _=>.none,fun _=>#[],fun _=>#[],fun _=>#[]⟩,rfl,post_same rfl rfl rfl,trivial⟩
noncomputable def dsLo1 (l : Addr) (xs : Array Value) (ex : Nat) (ls : List String) (m : Nat) (x : String) : List OrcD:=
 [sortD 0 l xs ex ls,dep 0 fun π=>lenM 2 ((π 0).a 0) ((π 0).x 0) ((π 0).a 1) m,eq2 (m : Nat) 0 (fun π=>(π 1).a 0) (fun π=>(π 1).t + 1) false,
  modR (m : Nat) 2 1 (fun π=>(π 1).a 0) (fun π=>(π 1).t + 2),eq2 1 1 (fun π=>(π 3).a 0) (fun π=>(π 3).t) true,divR (m : Nat) 2 (m / 2 : Nat) (fun π=>(π 1).a 0) (fun π=>(π 3).t + 1),
  dep 0 fun π=>itemW 2 ((π 0).a 0) ((π 0).x 0) ((π 0).a 1) (m / 2) (fun π=>(π 5).a 0) x]
noncomputable def dsLo0 (l : Addr) (xs : Array Value) (ex : Nat) (ls : List String) (m : Nat) (x : String) : List OrcD:=
 [sortD 0 l xs ex ls,dep 0 fun π=>lenM 2 ((π 0).a 0) ((π 0).x 0) ((π 0).a 1) m,eq2 (m : Nat) 0 (fun π=>(π 1).a 0) (fun π=>(π 1).t + 1) false,
  modR (m : Nat) 2 0 (fun π=>(π 1).a 0) (fun π=>(π 1).t + 2),eq2 0 1 (fun π=>(π 3).a 0) (fun π=>(π 3).t) false,divR (m : Nat) 2 (m / 2 : Nat) (fun π=>(π 1).a 0) (fun π=>(π 3).t + 1),
  subR (m / 2 : Nat) 1 (m / 2 - 1 : Nat) (fun π=>(π 5).a 0) (fun π=>(π 5).t),dep 0 fun π=>itemW 2 ((π 0).a 0) ((π 0).x 0) ((π 0).a 1) (m / 2 - 1) (fun π=>(π 6).a 0) x]
noncomputable def dsHi (l : Addr) (xs : Array Value) (ex : Nat) (ls : List String) (m : Nat) (x : String) : List OrcD:=
 [sortD 0 l xs ex ls,dep 0 fun π=>lenM 2 ((π 0).a 0) ((π 0).x 0) ((π 0).a 1) m,eq2 (m : Nat) 0 (fun π=>(π 1).a 0) (fun π=>(π 1).t + 1) false,
  divR (m : Nat) 2 (m / 2 : Nat) (fun π=>(π 1).a 0) (fun π=>(π 1).t + 2),dep 0 fun π=>itemW 2 ((π 0).a 0) ((π 0).x 0) ((π 0).a 1) (m / 2) (fun π=>(π 3).a 0) x]
noncomputable def lLo1 : List St:=[G 17 0x150015500,.orc,G 15 0x150055,.orc,G 13 0x1555,cm,.orc,G 5 0x15,.orc,G 2 1,cm,.orc,G 7 0x155,.orc,G 4 0x1666,.orc]
noncomputable def lLo0 : List St:=[G 17 0x150015500,.orc,G 15 0x150055,.orc,G 13 0x1555,cm,.orc,G 5 0x15,.orc,G 2 1,cm,.orc,G 7 0x155,.orc,G 2 1,.orc,G 4 0x1666,.orc]
noncomputable def lHi : List St:=[G 17 0x150015500,.orc,G 15 0x150055,.orc,G 13 0x1555,cm,.orc,G 7 0x155,.orc,G 4 0x1666,.orc]
theorem runsMed (P : Params) (B : List (Code × Pos)) (n t : Nat) (σ : Nat → Sup) (p : Pos) (l : Addr) (xs : Array Value) (ex m : Nat) (ls : List String) (x : String) : Runs [
 (runC P B lLo1 [(l,listO xs ex)] n t (osAt σ 0 (dsLo1 l xs ex ls m x)) (.call (.ref 71) ⟨[.ref l],[]⟩) p,[0],(dn (sv x ((σ 6).a 0)),[],[some (l,listO xs ex)],(σ 5).n,(σ 5).t)),
 (runC P B lLo0 [(l,listO xs ex)] n t (osAt σ 0 (dsLo0 l xs ex ls m x)) (.call (.ref 71) ⟨[.ref l],[]⟩) p,[0],(dn (sv x ((σ 7).a 0)),[],[some (l,listO xs ex)],(σ 6).n,(σ 6).t)),
 (runC P B lHi [(l,listO xs ex)] n t (osAt σ 0 (dsHi l xs ex ls m x)) (.call (.ref 78) ⟨[.ref l],[]⟩) p,[0],(dn (sv x ((σ 4).a 0)),[],[some (l,listO xs ex)],(σ 3).n,(σ 3).t))]:=by unfold Runs;kernel_rfl
noncomputable def medD (f : Addr) (nl : Nat) (l : Addr) (xs : Array Value) (ex : Nat) (x : String) : OrcD:=
 fnD (fun _=>.call (.ref f) ⟨[.ref l],[]⟩) (fun _=>[(nl,l,listO xs ex)]) (fun _ _=>[listO xs ex]) (fun _ u=>.ok (.ret (sv x (u.a 0)))) (fun _ _=>[]) (fun _ _=>True)
theorem ws_item {ls : List String} {xs : Array Value} (h : Ws ls xs) {i : Nat} (hi : i < ls.length) : ∃ t,xs[i]? = some (sv (ls.getD i "") t):=by
 have e : ls[i]? = some (ls.getD i ""):=by rw [List.getD_eq_getElem?_getD,List.getElem?_eq_getElem hi];rfl
 exact h.2 i _ e
theorem medLo_ok {w : World} {D U : Nat} {π : Nat → Sup} (hD : D ≤ 690) (hU : U ≤ 8400) {nl : Nat} {l : Addr} {xs : Array Value} {ex : Nat} {ls : List String} (hw : Ws ls xs) (h6 : ∀ x ∈ ls,x ∈ six) (h0 : 0 < ls.length) (h64 : ls.length < 64) :
 OrcAt w D U π (medD 71 nl l xs ex ((rising ls).getD ((ls.length - 1) / 2) "")):=by
 have hlen : (rising ls).length = ls.length:=(rising_perm h6).length_eq
 refine fn_ok (by omega) (by omega) rfl (nd rfl) (le4 rfl) fun B n t pos hn=>?_
 have z:=fun σ x=>runsMed w.params B n t σ pos l xs ex ls.length ls x
 rcases Nat.mod_two_eq_zero_or_one ls.length with hm | hm
 ·have ei : (ls.length - 1) / 2 = ls.length / 2 - 1:=by omega
  rw [ei]
  refine ⟨dsLo0 l xs ex ls ls.length _,lLo0,[],fun σ=>⟨(σ 6).n,(σ 6).t,fun _=>(σ 7).a 0,fun _=>.none,fun _=>#[],fun _=>#[],fun _=>#[]⟩,orcs_of ?_,(fun _ h=>nomatch h),List.nodup_nil,fun σ=>⟨rfl,rfl,(z σ _).get (.tail _ (.head _))⟩,fun _ _=>trivial⟩
  intro j d hd' π hF'
  obtain ⟨J,M,hJ,hM,hd,hF⟩:=genJ hd' hF'
  clear hd' hF'
  have hws : 0 < J → Ws (rising ls) ((π 0).x 0):=fun hj=>hF 0 hj (sortD 0 l xs ex ls) rfl
  match j,hd with
  | 0,hd=>subst hM;cases hd;exact sortD_ok hw h6 h64
  | 1,hd=>subst hM;cases hd;exact dep_at (lenM_ok (by rw [(hws (by omega)).1,hlen]) (by omega))
  | 2,hd=>subst hM;cases hd;exact eq2_ok (decide_eq_false (by omega))
  | 3,hd=>subst hM;cases hd;exact modR_ok (by decide) (by rw [Int.fmod_eq_emod_of_nonneg _ (by decide)];omega)
  | 4,hd=>subst hM;cases hd;exact eq2_ok (by decide)
  | 5,hd=>subst hM;cases hd;exact half_ok
  | 6,hd=>subst hM;cases hd;exact subR_ok (by omega)
  | 7,hd=>subst hM;cases hd;exact dep_at (itemW_ok (ws_item (hws (by omega)) (by omega)) (by omega))
  | j + 8,hd=>subst hM;exact nomatch (show none = some d from hd)
 ·have ei : (ls.length - 1) / 2 = ls.length / 2:=by omega
  rw [ei]
  refine ⟨dsLo1 l xs ex ls ls.length _,lLo1,[],fun σ=>⟨(σ 5).n,(σ 5).t,fun _=>(σ 6).a 0,fun _=>.none,fun _=>#[],fun _=>#[],fun _=>#[]⟩,orcs_of ?_,(fun _ h=>nomatch h),List.nodup_nil,fun σ=>⟨rfl,rfl,(z σ _).get (.head _)⟩,fun _ _=>trivial⟩
  intro j d hd' π hF'
  obtain ⟨J,M,hJ,hM,hd,hF⟩:=genJ hd' hF'
  clear hd' hF'
  have hws : 0 < J → Ws (rising ls) ((π 0).x 0):=fun hj=>hF 0 hj (sortD 0 l xs ex ls) rfl
  match j,hd with
  | 0,hd=>subst hM;cases hd;exact sortD_ok hw h6 h64
  | 1,hd=>subst hM;cases hd;exact dep_at (lenM_ok (by rw [(hws (by omega)).1,hlen]) (by omega))
  | 2,hd=>subst hM;cases hd;exact eq2_ok (decide_eq_false (by omega))
  | 3,hd=>subst hM;cases hd;exact modR_ok (by decide) (by rw [Int.fmod_eq_emod_of_nonneg _ (by decide)];omega)
  | 4,hd=>subst hM;cases hd;exact eq2_ok (by decide)
  | 5,hd=>subst hM;cases hd;exact half_ok
  | 6,hd=>subst hM;cases hd;exact dep_at (itemW_ok (ws_item (hws (by omega)) (by omega)) (by omega))
  | j + 7,hd=>subst hM;exact nomatch (show none = some d from hd)
theorem medHi_ok {w : World} {D U : Nat} {π : Nat → Sup} (hD : D ≤ 690) (hU : U ≤ 8400) {nl : Nat} {l : Addr} {xs : Array Value} {ex : Nat} {ls : List String} (hw : Ws ls xs) (h6 : ∀ x ∈ ls,x ∈ six) (h0 : 0 < ls.length) (h64 : ls.length < 64) :
 OrcAt w D U π (medD 78 nl l xs ex ((rising ls).getD (ls.length / 2) "")):=by
 have hlen : (rising ls).length = ls.length:=(rising_perm h6).length_eq
 refine fn_ok (by omega) (by omega) rfl (nd rfl) (le4 rfl) fun B n t pos hn=>?_
 have z:=fun σ x=>runsMed w.params B n t σ pos l xs ex ls.length ls x
 refine ⟨dsHi l xs ex ls ls.length _,lHi,[],fun σ=>⟨(σ 3).n,(σ 3).t,fun _=>(σ 4).a 0,fun _=>.none,fun _=>#[],fun _=>#[],fun _=>#[]⟩,orcs_of ?_,(fun _ h=>nomatch h),List.nodup_nil,fun σ=>⟨rfl,rfl,(z σ _).get (.tail _ (.tail _ (.head _)))⟩,fun _ _=>trivial⟩
 intro j d hd' π hF'
 obtain ⟨J,M,hJ,hM,hd,hF⟩:=genJ hd' hF'
 clear hd' hF'
 have hws : 0 < J → Ws (rising ls) ((π 0).x 0):=fun hj=>hF 0 hj (sortD 0 l xs ex ls) rfl
 match j,hd with
 | 0,hd=>subst hM;cases hd;exact sortD_ok hw h6 h64
 | 1,hd=>subst hM;cases hd;exact dep_at (lenM_ok (by rw [(hws (by omega)).1,hlen]) (by omega))
 | 2,hd=>subst hM;cases hd;exact eq2_ok (decide_eq_false (by omega))
 | 3,hd=>subst hM;cases hd;exact half_ok
 | 4,hd=>subst hM;cases hd;exact dep_at (itemW_ok (ws_item (hws (by omega)) (by omega)) (by omega))
 | j + 5,hd=>subst hM;exact nomatch (show none = some d from hd)
noncomputable def rightB : List Stmt:=fB (dig [51] pw.main.body)
noncomputable def eR : PySem.Expr:=sV (nth rightB 0)
noncomputable def rEnv (names : List (Str × NameKind)) (cells : List (Str × Addr)) (L fr : Addr) : Env:=⟨⟨.function,names,false,false,[]⟩,L,3,cells,q "_law_right.<locals>.",none,r 1099,some fr,0⟩
noncomputable def envR (L fr cd : Addr) : Env:=rEnv [(q ".0",.local),(q "name",.local),(q "word",.local),(q "due",.cell)] [(q "due",cd)] L fr
noncomputable def cR1 (it acc L fr cd : Addr) : Code:=.compLoop eR 1 (.ref it) (.ref acc) (envR L fr cd)
noncomputable def strEqD (x y : String) (tx ty : (Nat → Sup) → Nat) (res : Bool) : OrcD:=valD (fun π=>.call (.builtin "str.__eq__") ⟨[sv x (tx π),sv y (ty π)],[]⟩) fun _=>.bool res
noncomputable def lRn : List St:=[G 2 0x14,.orc,G 12 0x16666,cm,.orc]
noncomputable def lRy : List St:=[G 2 0x14,.orc,G 12 0x16666,cm,.orc,G 2 0x16,.orc]
noncomputable def lRe : List St:=[G 2 0x14,.orc,G 1 0x19]
theorem runsR1 (P : Params) (B : List (Code × Pos)) (n t : Nat) (σ : Nat → Sup) (p : Pos) (src it acc L fr cd : Addr) (xs ys : Array Value) (ex ea k ed tx tw kn tn : Nat) (x nm : String) (vw : Value) (es : Array DictEntry) : Runs [
 tR P B lRy it acc L (iterO src k) (iterO src (k + 1)) ys ea #[E P "name" kn (sv nm tn)] ed [(src,listO xs ex)] n t (osAt σ 0 [nextD 0 3 it src xs ex k (sv x tx),strEqD x nm (fun _=>tx) (fun _=>tn) true,appD 1 acc ys ea fun π=>sv nm tn]) (cR1 it acc L fr cd) p (ys.push (sv nm tn)) ((σ 2).a 0) #[E P "name" kn (sv nm tn),E P "word" t (sv x tx)] (ed + 1) n (t + 1),
 tR P B lRy it acc L (iterO src k) (iterO src (k + 1)) ys ea #[E P "name" kn (sv nm tn),E P "word" tw vw] ed [(src,listO xs ex)] n t (osAt σ 0 [nextD 0 3 it src xs ex k (sv x tx),strEqD x nm (fun _=>tx) (fun _=>tn) true,appD 1 acc ys ea fun π=>sv nm tn]) (cR1 it acc L fr cd) p (ys.push (sv nm tn)) ((σ 2).a 0) #[E P "name" kn (sv nm tn),E P "word" tw (sv x tx)] ed n (t + 1),
 tR P B lRn it acc L (iterO src k) (iterO src (k + 1)) ys ea #[E P "name" kn (sv nm tn)] ed [(src,listO xs ex)] n t (osAt σ 0 [nextD 0 3 it src xs ex k (sv x tx),strEqD x nm (fun _=>tx) (fun _=>tn) false]) (cR1 it acc L fr cd) p ys ea #[E P "name" kn (sv nm tn),E P "word" t (sv x tx)] (ed + 1) n (t + 1),
 tR P B lRn it acc L (iterO src k) (iterO src (k + 1)) ys ea #[E P "name" kn (sv nm tn),E P "word" tw vw] ed [(src,listO xs ex)] n t (osAt σ 0 [nextD 0 3 it src xs ex k (sv x tx),strEqD x nm (fun _=>tx) (fun _=>tn) false]) (cR1 it acc L fr cd) p ys ea #[E P "name" kn (sv nm tn),E P "word" tw (sv x tx)] ed n (t + 1),
 lR P B lRe it acc L (iterO src k) (iterEnd k) ys ea es ed [(src,listO xs ex)] n t (osAt σ 0 [endD 0 3 it src xs ex k]) (cR1 it acc L fr cd) p (σ 0).n (σ 0).t]:=by unfold Runs;kernel_rfl
theorem strEqD_ok {w : World} {D U : Nat} {π : Nat → Sup} {x y : String} {tx ty : (Nat → Sup) → Nat} {res : Bool} (h : same x y = res) : OrcAt w D U π (strEqD x y tx ty res):=
 val_of rfl PySem.F.slot_str_eq (fun s=>typeIs_str _ _ _) PySem.F.entry_str_eq (PySem.F.args_str_eq_2 _ _) (gives_str_eq (q x) (q y) (tx π) (ty π)) (by rw [← h];rfl)
noncomputable def esR (P : Params) (kn tn : Nat) (nm : String) : Option (Nat × Value) → Array DictEntry
 | none=>#[E P "name" kn (sv nm tn)]
 | some z=>#[E P "name" kn (sv nm tn),E P "word" z.1 z.2]
theorem Ws.more_if {pre l : List String} {ys : Array Value} {k : Nat} {b : String → Bool} (lt : k < l.length) (h : Ws (pre ++ (l.take k).filter b) ys) : (b l[k] = true → ∀ t,Ws (pre ++ (l.take (k + 1)).filter b) (ys.push (sv l[k] t))) ∧ (b l[k] = false → Ws (pre ++ (l.take (k + 1)).filter b) ys):=by
 rw [take_succ lt,List.filter_append]
 constructor
 ·intro hb t
  rw [List.filter_cons_of_pos hb,List.filter_nil,← List.append_assoc]
  exact h.push _ _
 ·intro hb
  rw [List.filter_cons_of_neg (by rw [hb];exact Bool.false_ne_true),List.filter_nil,List.append_nil]
  exact h
noncomputable def riseD (P : Params) (ni na nL ns : Nat) (src it acc L fr cd : Addr) (xs ys0 : Array Value) (ex ea0 ed0 kn tn : Nat) (nm : String) (o : Option (Nat × Value)) (pre ls : List String) : OrcD:=
 compD (.compStart eR 1 (.ref it) (.ref acc) (envR L fr cd)) ni na nL it acc L (iterO src 0) (iterEnd xs.size) ys0 ea0 (esR P kn tn nm o) ed0 [(ns,src,listO xs ex)] (fun u=>esR P kn tn nm (some (u.a 2,u.v 0))) (fun ys=>Ws (pre ++ (ls.take xs.size).filter (same · nm)) ys)
theorem same_eq {a b : String} (ha : a ∈ six) (hb : b ∈ six) : same a b = (a == b):=by
 have : ∀ a ∈ six,∀ b ∈ six,same a b = (a == b):=by decide +kernel
 exact this a ha b hb
theorem rise1_ok {w : World} {D U : Nat} {π : Nat → Sup} (hD : D ≤ 615) (hU : U ≤ 8100) {ni na nL ns : Nat} {src it acc L fr cd : Addr} {xs ys0 : Array Value} {ex ea0 ed0 kn tn : Nat} {nm : String} {o : Option (Nat × Value)} {pre ls : List String} (h6 : ∀ x ∈ ls,x ∈ six) (hnm : nm ∈ six) (hx : 0 < xs.size) (hw : Ws ls xs) (hp : Ws pre ys0)
 (hsz : pre.length + xs.size ≤ sizeLine) (hn : [ni,na,nL,ns].Nodup) : OrcAt w D U π (riseD w.params ni na nL ns src it acc L fr cd xs ys0 ex ea0 ed0 kn tn nm o pre ls):=by
 refine (start_any (by kernel_rfl) (self_list (l:=src) (k:=0) (ni:=ni) (.head _)) (comp_any (c:=cR1 it acc L fr cd) (extra:=[(ns,src,listO xs ex)]) (itO:=iterO src) (es0:=esR w.params kn tn nm o) xs.size (fun k ys=>Ws (pre ++ (ls.take k).filter (same · nm)) ys) (by omega) (by omega) rfl rfl hx hn (by simp) (by simpa using hp) (fun _ _ _ _ _ _=>rfl) ?_ ?_)).at
 ·intro B n t p k ys ea q' ed hn1 lt hk h0 hg
  have lt' : k < ls.length:=by rw [← hw.1];exact lt
  obtain ⟨tx,hxk⟩:=hw.2 k ls[k] (List.getElem?_eq_getElem lt')
  have hys : ys.size ≤ sizeLine:=by
   rw [hg.1,List.length_append]
   have h1:=List.length_filter_le (same · nm) (ls.take k)
   have h2 : (ls.take k).length ≤ k:=by simp;omega
   omega
  have hs:=hg.more_if lt'
  have z:=fun σ tw vw es=>runsR1 w.params B n t σ p src it acc L fr cd xs ys ex ea k ed tx tw kn tn ls[k] nm vw es
  have enm : same ls[k] nm = true → sv nm tn = sv ls[k] tn:=fun h=>by
   rw [same_eq (h6 _ (List.getElem_mem lt')) hnm] at h
   rw [eq_of_beq h]
  have key : ∀ s : Option (Nat × Value),X8 fun (ds : List OrcD) (l : List St) (ys' : (Nat → Sup) → Array Value) (ea' ed' nn kk : (Nat → Sup) → Nat) (u : (Nat → Sup) → Sup)=>(∀ j d,ds[j]? = some d → OrcOK w (D + 75) (U + 300) ds j d) ∧
   (∀ σ,EndsR (tR w.params B l it acc L (iterO src k) (iterO src (k + 1)) ys ea (esR w.params kn tn nm s) ed [(src,listO xs ex)] n t (osAt σ 0 ds) (cR1 it acc L fr cd) p (ys' σ) (ea' σ) (esR w.params kn tn nm (some ((u σ).a 2,(u σ).v 0))) (ed' σ) (nn σ) (kk σ))) ∧
   ∀ σ,(∀ (i : Nat) (d : OrcD),ds[i]? = some d → d.F (tr i σ) (σ i)) → Ws (pre ++ (ls.take (k + 1)).filter (same · nm)) (ys' σ):=by
   intro s
   cases hb : same ls[k] nm with
   | true=>
     have hq:=(hs.1 hb) tn
     rw [← enm hb] at hq
     cases s with
     | none=>exact ⟨_,lRy,fun σ=>ys.push (sv nm tn),fun σ=>(σ 2).a 0,fun _=>ed + 1,fun _=>n,fun _=>t + 1,fun _=>⟨0,0,fun _=>t,fun _=>sv ls[k] tx,fun _=>#[],fun _=>#[],fun _=>#[]⟩,orcs_all (at_three (fun π=>nextD_ok hxk) (fun π=>strEqD_ok hb) (fun π=>appD_ok hys)),fun σ=>(z σ 0 .none #[]).at (.head _),fun σ _=>hq⟩
     | some s=>exact ⟨_,lRy,fun σ=>ys.push (sv nm tn),fun σ=>(σ 2).a 0,fun _=>ed,fun _=>n,fun _=>t + 1,fun _=>⟨0,0,fun _=>s.1,fun _=>sv ls[k] tx,fun _=>#[],fun _=>#[],fun _=>#[]⟩,orcs_all (at_three (fun π=>nextD_ok hxk) (fun π=>strEqD_ok hb) (fun π=>appD_ok hys)),fun σ=>(z σ s.1 s.2 #[]).at (.tail _ (.head _)),fun σ _=>hq⟩
   | false=>
     cases s with
     | none=>exact ⟨_,lRn,fun σ=>ys,fun σ=>ea,fun _=>ed + 1,fun _=>n,fun _=>t + 1,fun _=>⟨0,0,fun _=>t,fun _=>sv ls[k] tx,fun _=>#[],fun _=>#[],fun _=>#[]⟩,orcs_all (at_two (fun π=>nextD_ok hxk) (fun π=>strEqD_ok hb)),fun σ=>(z σ 0 .none #[]).at (.tail _ (.tail _ (.head _))),fun σ _=>hs.2 hb⟩
     | some s=>exact ⟨_,lRn,fun σ=>ys,fun σ=>ea,fun _=>ed,fun _=>n,fun _=>t + 1,fun _=>⟨0,0,fun _=>s.1,fun _=>sv ls[k] tx,fun _=>#[],fun _=>#[],fun _=>#[]⟩,orcs_all (at_two (fun π=>nextD_ok hxk) (fun π=>strEqD_ok hb)),fun σ=>(z σ s.1 s.2 #[]).at (.tail _ (.tail _ (.tail _ (.head _)))),fun σ _=>hs.2 hb⟩
  cases q' with
  | none=>
    exact key o
  | some v=>
    exact key (some (v.a 2,v.v 0))
 ·intro B n t p ys ea u ed hn1 hg
  exact ⟨_,lRe,fun σ=>(σ 0).n,fun σ=>(σ 0).t,one_ok fun π=>endD_ok (by simp),fun σ=>(runsR1 w.params B n t σ p src it acc L fr cd xs ys ex ea xs.size ed 0 0 kn tn "" nm .none (esR w.params kn tn nm (some (u.a 2,u.v 0)))).at (.tail _ (.tail _ (.tail _ (.tail _ (.head _)))))⟩
noncomputable def preR (ls : List String) (N : Nat) : Nat → List String
 | 0=>[]
 | j + 1=>preR ls N j ++ (ls.take N).filter (same · (rNames.getD j ""))
theorem preR_is {ls : List String} {N : Nat} (h6 : ∀ x ∈ ls,x ∈ six) : preR ls N 6 = rising (ls.take N):=by
 have f : ∀ nm ∈ six,(ls.take N).filter (same · nm) = (ls.take N).filter fun x=>x == nm:=fun nm hnm=>by
  apply List.filter_congr
  intro x hx
  exact same_eq (h6 x (List.mem_of_mem_take hx)) hnm
 show ((((([] ++ (ls.take N).filter (same · "")) ++ (ls.take N).filter (same · "a")) ++ (ls.take N).filter (same · "ab")) ++ (ls.take N).filter (same · "b")) ++ (ls.take N).filter (same · "bb")) ++ (ls.take N).filter (same · "it's b") = _
 rw [f "" (by decide),f "a" (by decide),f "ab" (by decide),f "b" (by decide),f "bb" (by decide),f "it's b" (by decide)]
 unfold rising rNames
 simp only [List.flatMap_cons,List.flatMap_nil,List.nil_append,List.append_nil,List.append_assoc]
noncomputable def namesA (k : Nat → Nat) : Array Value:=#[sv "" (k 0),sv "a" (k 1),sv "ab" (k 2),sv "b" (k 3),sv "bb" (k 4),sv "it's b" (k 5)]
noncomputable def rD (P : Params) (due acc L fr cd : Addr) (xs : Array Value) (ex t : Nat) (k : Nat → Nat) (ls : List String) (j : Nat) (nm : String) : OrcD:=
 dep 0 fun π=>riseD P (7 + j) 1 2 4 due (π j).n acc L fr cd xs ((π j).x 0) ex ((π j).a 0) ((π j).a 1) t (k (j + 1)) nm (some ((π j).a 2,(π j).v 0)) (preR ls xs.size (j + 1)) ls
noncomputable def dsR (P : Params) (due acc L fr cd : Addr) (xs : Array Value) (ex ea ed n t : Nat) (k : Nat → Nat) (ls : List String) : List OrcD:=
 [riseD P 6 1 2 4 due n acc L fr cd xs #[] ex ea (ed + 1) t (k 0) "" none (preR ls xs.size 0) ls,rD P due acc L fr cd xs ex t k ls 0 "a",rD P due acc L fr cd xs ex t k ls 1 "ab",rD P due acc L fr cd xs ex t k ls 2 "b",rD P due acc L fr cd xs ex t k ls 3 "bb",rD P due acc L fr cd xs ex t k ls 4 "it's b"]
noncomputable def cR (it acc L fr cd : Addr) : Code:=.compLoop eR 0 (.ref it) (.ref acc) (envR L fr cd)
noncomputable def lR0 : List St:=[G 23 0x1887664494444,cm,G 6 0x1a8,.orc,G 24 0x1887664494444,cm,G 6 0x1b8,.orc,G 24 0x1887664494444,cm,G 6 0x1c8,.orc,G 24 0x1887664494444,cm,G 6 0x1d8,.orc,G 24 0x1887664494444,cm,G 6 0x1e8,.orc,G 24 0x1887664494444,cm,G 6 0x10ff8,.orc,G 17 0x111f4494444]
theorem runsR0 (P : Params) (B : List (Code × Pos)) (n t : Nat) (σ : Nat → Sup) (p : Pos) (s0 it acc L fr cd due : Addr) (xs : Array Value) (ex ea ed e0 : Nat) (k : Nat → Nat) (ls : List String) : Runs [
 (runC P B lR0 [(it,iterO s0 0),(acc,listO #[] ea),(L,dictO #[] ed),(cd,cellO (.ref due)),(due,listO xs ex),(s0,listO (namesA k) e0)] n t (osAt σ 0 (dsR P due acc L fr cd xs ex ea ed n t k ls)) (cR it acc L fr cd) p,[0,1,2,3,4,5],
  (.pure (.done .next),[],[some (it,iterEnd 6),some (acc,listO ((σ 5).x 0) ((σ 5).a 0)),some (L,dictO (esR P t (k 5) "it's b" (some ((σ 5).a 2,(σ 5).v 0))) ((σ 5).a 1)),some (cd,cellO (.ref due)),some (due,listO xs ex),some (s0,listO (namesA k) e0)],(σ 5).n + 2,(σ 5).t))]:=by unfold Runs;kernel_rfl
noncomputable def risingD (P : Params) (ni na nL nc nd n0 : Nat) (s0 it acc L fr cd due : Addr) (xs : Array Value) (ex ea ed e0 : Nat) (k : Nat → Nat) (ls : List String) : OrcD:=
 compD (.compStart eR 0 (.ref it) (.ref acc) (envR L fr cd)) ni na nL it acc L (iterO s0 0) (iterEnd 6) #[] ea #[] ed [(nc,cd,cellO (.ref due)),(nd,due,listO xs ex),(n0,s0,listO (namesA k) e0)] (fun u=>esR P (u.a 2) (k 5) "it's b" (some (u.a 3,u.v 0))) (fun ys=>Ws (rising (ls.take xs.size)) ys)
theorem rising_ok {w : World} {D U : Nat} {π : Nat → Sup} (hD : D ≤ 540) (hU : U ≤ 7800) {ni na nL nc nd n0 : Nat} {s0 it acc L fr cd due : Addr} {xs : Array Value} {ex ea ed e0 : Nat} {k : Nat → Nat} {ls : List String} (h6 : ∀ x ∈ ls,x ∈ six) (hx : 0 < xs.size) (hw : Ws ls xs) (hsz : ls.length ≤ 60)
 (hn : [ni,na,nL,nc,nd,n0].Nodup) : OrcAt w D U π (risingD w.params ni na nL nc nd n0 s0 it acc L fr cd due xs ex ea ed e0 k ls):=by
 refine (start_any (by kernel_rfl) (self_list (l:=s0) (k:=0) (ni:=ni) (.head _)) ?_).at
 refine fnF_any (fs:=none) (c:=fun _=>cR it acc L fr cd) (need:=fun _=>needC ni na nL it acc L (iterO s0 0) #[] ea #[] ed [(nc,cd,cellO (.ref due)),(nd,due,listO xs ex),(n0,s0,listO (namesA k) e0)])
  (fin:=fun _=>compF (iterEnd 6) (fun u=>esR w.params (u.a 2) (k 5) "it's b" (some (u.a 3,u.v 0))) [(nc,cd,cellO (.ref due)),(nd,due,listO xs ex),(n0,s0,listO (namesA k) e0)]) (r:=fun _ _=>.ok .next) (out:=fun _ _=>[]) (F:=fun _ u=>Ws (rising (ls.take xs.size)) (u.x 0)) (by omega) (by omega) rfl hn (by simp [needC]) fun B n t p hN=>?_
 have hpl : ∀ j,(preR ls xs.size j).length ≤ j * 60:=by
  intro j
  induction j with
  | zero=>simp [preR]
  | succ j ih=>
    have h1:=List.length_filter_le (same · (rNames.getD j "")) (ls.take xs.size)
    have h2 : (ls.take xs.size).length ≤ 60:=by simp;omega
    have : (preR ls xs.size (j + 1)).length = (preR ls xs.size j).length + ((ls.take xs.size).filter (same · (rNames.getD j ""))).length:=by simp [preR]
    omega
 have hxs : xs.size ≤ 60:=by rw [hw.1];exact hsz
 have big : 1000 ≤ sizeLine:=by decide +kernel
 refine ⟨dsR w.params due acc L fr cd xs ex ea ed n t k ls,lR0,[],fun σ=>⟨(σ 5).n + 2,(σ 5).t,fun i=>match i with | 0=>(σ 5).a 0 | 1=>(σ 5).a 1 | 2=>t | _=>(σ 5).a 2,fun _=>(σ 5).v 0,fun _=>(σ 5).x 0,fun _=>#[],fun _=>#[]⟩,orcs_of ?_,(fun _ h=>nomatch h),List.nodup_nil,fun σ=>⟨rfl,rfl,(runsR0 w.params B n t σ p s0 it acc L fr cd due xs ex ea ed e0 k ls).get (.head _)⟩,fun σ hF=>?_⟩
 ·intro j d hd' π hF'
  obtain ⟨J,M,hJ,hM,hd,hF⟩:=genJ hd' hF'
  clear hd' hF'
  match j,hd with
  | 0,hd=>subst hM;cases hd;exact rise1_ok (by omega) (by omega) h6 (by decide) hx hw Ws.nil (by simp [preR];omega) (by decide)
  | 1,hd=>subst hM;cases hd;exact dep_at (rise1_ok (by omega) (by omega) h6 (by decide) hx hw (hF 0 (by omega) _ rfl) (by have:=hpl 1;simp only [Nat.zero_add];omega) (by decide))
  | 2,hd=>subst hM;cases hd;exact dep_at (rise1_ok (by omega) (by omega) h6 (by decide) hx hw (hF 1 (by omega) _ rfl) (by have:=hpl (1 + 1);omega) (by decide))
  | 3,hd=>subst hM;cases hd;exact dep_at (rise1_ok (by omega) (by omega) h6 (by decide) hx hw (hF 2 (by omega) _ rfl) (by have:=hpl (2 + 1);omega) (by decide))
  | 4,hd=>subst hM;cases hd;exact dep_at (rise1_ok (by omega) (by omega) h6 (by decide) hx hw (hF 3 (by omega) _ rfl) (by have:=hpl (3 + 1);omega) (by decide))
  | 5,hd=>subst hM;cases hd;exact dep_at (rise1_ok (by omega) (by omega) h6 (by decide) hx hw (hF 4 (by omega) _ rfl) (by have:=hpl (4 + 1);omega) (by decide))
  | j + 6,hd=>subst hM;exact nomatch (show none = some d from hd)
 ·have z : Ws (preR ls xs.size 6) ((σ 5).x 0):=hF 5 _ rfl
  rw [preR_is h6] at z
  exact z
noncomputable def Ns (l : List Nat) (ys : Array Value) : Prop:=ys.size = l.length ∧ ∀ (i m : Nat),l[i]? = some m → ∃ t,ys[i]? = some (.int (m : Nat) t)
theorem Ns.nil : Ns [] #[]:=⟨rfl,fun i x h=>by simp at h⟩
theorem Ns.push {l : List Nat} {ys : Array Value} (h : Ns l ys) (m : Nat) (t : Nat) : Ns (l ++ [m]) (ys.push (.int (m : Nat) t)):=by
 refine ⟨by simp [h.1],fun i y hy=>?_⟩
 by_cases lt : i < l.length
 ·rw [List.getElem?_append_left lt] at hy
  obtain ⟨u,e⟩:=h.2 i y hy
  exact ⟨u,by rw [Array.getElem?_push,if_neg (by rw [h.1];omega)];exact e⟩
 ·rw [List.getElem?_append_right (by omega)] at hy
  have : i - l.length = 0:=by
   cases q : i - l.length with
   | zero=>rfl
   | succ m=>rw [q] at hy;simp at hy
  rw [this] at hy
  have e : i = l.length:=by omega
  simp at hy
  subst hy
  exact ⟨t,by rw [Array.getElem?_push,if_pos (by rw [h.1];exact e)]⟩
noncomputable def commonB : List Stmt:=fB (dig [49] pw.main.body)
noncomputable def eC1 : PySem.Expr:=sV (nth commonB 0)
noncomputable def cEnv (names : List (Str × NameKind)) (cells : List (Str × Addr)) (L fr : Addr) : Env:=⟨⟨.function,names,false,false,[]⟩,L,3,cells,q "_law_common.<locals>.",none,r 1089,some fr,0⟩
noncomputable def envC1 (L fr cw : Addr) : Env:=cEnv [(q ".0",.local),(q "word",.local),(q "words",.cell)] [(q "words",cw)] L fr
noncomputable def cC1 (it acc L fr cw : Addr) : Code:=.compLoop eC1 0 (.ref it) (.ref acc) (envC1 L fr cw)
noncomputable def lC1 : List St:=[G 2 0x14,.orc,G 18 0x167777866,.orc,G 1 1,.orc]
noncomputable def lC1e : List St:=[G 2 0x14,.orc,G 1 0x1a]
theorem runsC1 (P : Params) (B : List (Code × Pos)) (n t : Nat) (σ : Nat → Sup) (p : Pos) (src it acc L fr cw : Addr) (xs ys : Array Value) (ex ea k ed tx tw m : Nat) (x : String) (vw : Value) (es : Array DictEntry) : Runs [
 tR P B lC1 it acc L (iterO src k) (iterO src (k + 1)) ys ea #[] ed [(src,listO xs ex),(cw,cellO (.ref src))] n t (osAt σ 0 [nextD 0 3 it src xs ex k (sv x tx),countD 3 src xs ex x (fun _=>tx) m,appD 1 acc ys ea fun π=>.int (m : Nat) ((π 1).a 0)]) (cC1 it acc L fr cw) p (ys.push (.int (m : Nat) ((σ 1).a 0))) ((σ 2).a 0) #[E P "word" t (sv x tx)] (ed + 1) (σ 1).n (σ 1).t,
 tR P B lC1 it acc L (iterO src k) (iterO src (k + 1)) ys ea #[E P "word" tw vw] ed [(src,listO xs ex),(cw,cellO (.ref src))] n t (osAt σ 0 [nextD 0 3 it src xs ex k (sv x tx),countD 3 src xs ex x (fun _=>tx) m,appD 1 acc ys ea fun π=>.int (m : Nat) ((π 1).a 0)]) (cC1 it acc L fr cw) p (ys.push (.int (m : Nat) ((σ 1).a 0))) ((σ 2).a 0) #[E P "word" tw (sv x tx)] ed (σ 1).n (σ 1).t,
 lR P B lC1e it acc L (iterO src k) (iterEnd k) ys ea es ed [(src,listO xs ex),(cw,cellO (.ref src))] n t (osAt σ 0 [endD 0 3 it src xs ex k]) (cC1 it acc L fr cw) p (σ 0).n (σ 0).t]:=by unfold Runs;kernel_rfl
noncomputable def cnt (ls : List String) (x : String) : Nat:=ls.countP (same · x)
theorem compC1_ok {w : World} {D U : Nat} {π : Nat → Sup} (hD : D ≤ 615) (hU : U ≤ 8100) {ns ni na nL nc : Nat} {src it acc L fr cw : Addr} {xs : Array Value} {ex ea0 ed0 : Nat} {ls : List String} (hx : 0 < xs.size) (hw : Ws ls xs) (hsz : xs.size ≤ sizeLine)
 (hn : [ni,na,nL,ns,nc].Nodup) :
 OrcAt w D U π (compD (.compStart eC1 0 (.ref it) (.ref acc) (envC1 L fr cw)) ni na nL it acc L (iterO src 0) (iterEnd xs.size) #[] ea0 #[] ed0 [(ns,src,listO xs ex),(nc,cw,cellO (.ref src))] (es1k w.params "word") (fun zs=>Ns ((ls.take xs.size).map (cnt ls)) zs)):=by
 refine (start_any (by kernel_rfl) (self_list (l:=src) (k:=0) (ni:=ni) (.head _)) (comp1_any (c:=cC1 it acc L fr cw) (extra:=[(ns,src,listO xs ex),(nc,cw,cellO (.ref src))]) (itO:=iterO src) xs.size (fun k ys=>Ns ((ls.take k).map (cnt ls)) ys) (by omega) (by omega) rfl rfl hx hn (by simp) (by simpa using Ns.nil) ?_ ?_)).at
 ·intro B n t p k ys ea ed tw vw hn lt hg
  have lt' : k < ls.length:=by rw [← hw.1];exact lt
  obtain ⟨tx,hxk⟩:=hw.2 k ls[k] (List.getElem?_eq_getElem lt')
  have z:=fun σ=>runsC1 w.params B n t σ p src it acc L fr cw xs ys ex ea k ed tx tw (cnt ls ls[k]) ls[k] vw #[]
  have hys : ys.size ≤ sizeLine:=by
   rw [hg.1]
   have h2 : (ls.take k).length ≤ k:=by simp;omega
   simp only [List.length_map]
   omega
  refine ⟨_,lC1,fun σ=>ys.push (.int (cnt ls ls[k] : Nat) ((σ 1).a 0)),fun σ=>(σ 2).a 0,fun σ=>(σ 1).n,fun σ=>(σ 1).t,t,fun _=>sv ls[k] tx,orcs_all (at_three (fun π=>nextD_ok hxk) (fun π=>countD_ok hw rfl) (fun π=>appD_ok hys)),fun _ σ=>(z σ).at (.head _),fun σ=>(z σ).at (.tail _ (.head _)),fun σ _=>?_⟩
  rw [take_succ lt',List.map_append]
  exact hg.push _ _
 ·intro B n t p ys ea es ed hn hg
  exact ⟨_,lC1e,fun σ=>(σ 0).n,fun σ=>(σ 0).t,one_ok fun π=>endD_ok (by simp),fun σ=>(runsC1 w.params B n t σ p src it acc L fr cw xs ys ex ea xs.size ed 0 0 0 "" .none es).at (.tail _ (.tail _ (.head _)))⟩
noncomputable abbrev rngO (k j : Nat) : Obj:=⟨.type "range_iterator",none,.fields #[.int (k : Nat) 0,.int (j : Nat) 0,.int 1 0],#[]⟩
noncomputable def rnextD (ni : Nat) (it : Addr) (k j : Nat) : OrcD:=
 ⟨fun _=>.call (.builtin "range_iterator.__next__") ⟨[.ref it],[]⟩,fun _=>[(ni,it,rngO k (j + 1))],fun _ u=>.ok (.ret (.int (k : Nat) (u.a 0))),fun _ _=>[(ni,it,rngO (k + 1) j)],fun _ _=>[],fun _ u=>some (u.n,u.t),fun _ _=>True,fun _=>none,0⟩
theorem rnextD_ok {w : World} {D U : Nat} {π : Nat → Sup} {ni : Nat} {it : Addr} {k j : Nat} : OrcAt w D U π (rnextD ni it k j):=by
 refine OrcAt.of_code (fun s ho hz hp=>?_)
 have h1 : s.heap.get? it = some (rngO k (j + 1)):=hp.get _ (.head _)
 refine any_of_meets PySem.F.slot_range_iterator_next ⟨_,h1,rfl⟩ PySem.F.entry_range_iterator_next (PySem.F.args_range_iterator_next_1 _) (AutoRange.range_iterator___next___range_iterator_1 it (k : Nat) ((j + 1 : Nat) : Int) 1 (by omega)) ⟨h1,?_⟩
 have e1 : ((k : Nat) : Int) + 1 = ((k + 1 : Nat) : Int):=by omega
 have e2 : ((j + 1 : Nat) : Int) - 1 = ((j : Nat) : Int):=by omega
 rw [e1,e2]
 have u1:=Heap.get?_update_self (fun o=>Obj.mapFields (fun x=>x.setIfInBounds 0 (rawInt ((k + 1 : Nat) : Int))) o) h1 rfl
 have u2:=Heap.get?_update_self (fun o=>Obj.mapFields (fun x=>x.setIfInBounds 1 (rawInt ((j : Nat) : Int))) o) u1 rfl
 refine ⟨⟨s.heap.objs.size,s.toks + 1,fun _=>s.toks,fun _=>.none,fun _=>#[],fun _=>#[],fun _=>#[]⟩,rfl,⟨rfl,rfl,rfl,?_,fun b v hb hne=>?_,fun y hy=>?_,(fun _ h=>nomatch h),List.nodup_nil,⟨?_,rfl⟩⟩,trivial⟩
 ·show _ ≤ ((s.heap.update it _).update it _).objs.size
  rw [Heap.size_update,Heap.size_update];exact Nat.le_refl _
 ·have hb' : b ≠ it:=hne _ (.head _)
  show ((s.heap.update it _).update it _).get? b = _
  rw [Heap.get?_update_ne _ _ _ _ hb',Heap.get?_update_ne _ _ _ _ hb']
  exact hb
 ·rcases List.mem_singleton.mp hy with rfl
  exact u2
 ·show ((s.heap.update it _).update it _).objs.size = _
  rw [Heap.size_update,Heap.size_update]
end
section
open PySem.Builtin PySem.Builtin.Str
open PySem.Sem (wp)
theorem runs_size {M : Model} {Γ : Ctx} {p : Pos} {t : Sem Fin} {fs : List Frame} {s s' : Shared} {e : End} (h : _root_.PySem.Runs M Γ p t fs s e s') : s.heap.objs.size ≤ s'.heap.objs.size:=by
 induction h <;> (try simp only [Shared.setGen,Heap.size_update,Heap.size_push] at *) <;> omega
theorem wakes_size {M : Model} {Γ : Ctx} {p : Pos} {g : Nat} {r : Resume} {s s' : Shared} {res : GenResult} (h : Wakes M Γ p g r s res s') : s.heap.objs.size ≤ s'.heap.objs.size:=by
 unfold Wakes at h
 split at h
 ·exact h.elim
 ·split at h
  ·obtain ⟨e₁,s₁,hr,_,_,rfl⟩:=h;exact (runs_size hr : (s.setGen g .running).heap.objs.size ≤ s₁.heap.objs.size)
  ·rw [h.2];exact Nat.le_refl _
  ·rw [h.2];exact Nat.le_refl _
 ·obtain ⟨e₁,s₁,hr,_,_,rfl⟩:=h;exact (runs_size hr : (s.setGen g .running).heap.objs.size ≤ s₁.heap.objs.size)
 ·rw [h.2];exact Nat.le_refl _
 ·rw [h.2];exact Nat.le_refl _
theorem wp_size {α : Type} (M : Model) (Γ : Ctx) (n : Nat) (t : Sem α) : ∀ (Q : α → Pos → Shared → Prop) (E : Value → Pos → Shared → Prop) (p : Pos) (s : Shared),n ≤ s.heap.objs.size → wp M Γ t Q E p s →
 wp M Γ t (fun a p' s'=>n ≤ s'.heap.objs.size ∧ Q a p' s') (fun e p' s'=>n ≤ s'.heap.objs.size ∧ E e p' s') p s:=by
 induction t with
 | pure a=>intro Q E p s hn h;exact ⟨hn,h⟩
 | raise e=>intro Q E p s hn h;exact ⟨hn,h⟩
 | unsupported _=>intro Q E p s _ h;exact h
 | finish _=>intro Q E p s _ h;exact h
 | rule _ k ih=>intro Q E p s hn h;exact ih () Q E p s hn h
 | «at» p' k ih=>intro Q E p s hn h;exact ih () Q E p' s hn h
 | load a _ k ih=>intro Q E p s hn h;obtain ⟨o,ho,h⟩:=h;exact ⟨o,ho,ih o Q E p s hn h⟩
 | update a _ f k ih=>intro Q E p s hn h;exact ⟨h.1,ih () Q E p _ (by show n ≤ (s.heap.update a f).objs.size;rw [Heap.size_update];exact hn) h.2⟩
 | loadIfAlive a k ih=>intro Q E p s hn h;exact ih _ Q E p s hn h
 | point _ k ih=>intro Q E p s hn h;exact ih () Q E p s hn h
 | register _ _=>intro Q E p s _ h;exact h
 | alloc o k ih=>intro Q E p s hn h;exact ih _ Q E p _ (by show n ≤ (s.heap.push o).objs.size;rw [Heap.size_push];omega) h
 | fresh k ih=>intro Q E p s hn h;exact ih _ Q E p _ hn h
 | ask k ih=>intro Q E p s hn h;exact ih _ Q E p s hn h
 | choose src m k ih=>intro Q E p s hn h;exact ⟨h.1,ih _ Q E p _ hn h.2⟩
 | os q _ k ih=>intro Q E p s hn h;exact ih _ Q E p _ hn h
 | call c hd _ _ k ih=>intro Q E p s hn h;obtain ⟨r,s',hr,h⟩:=h;exact ⟨r,s',hr,ih r Q E p s' (Nat.le_trans hn (runs_size hr)) h⟩
 | handled own k ih=>intro Q E p s hn h;exact ih _ Q E p s hn h
 | genState g k ih=>intro Q E p s hn h;obtain ⟨st,hs,h⟩:=h;exact ⟨st,hs,ih _ Q E p s hn h⟩
 | newGen c k ih=>intro Q E p s hn h;exact ih _ Q E p _ hn h
 | resume g r _ k ih=>intro Q E p s hn h;obtain ⟨res,s',hw,h⟩:=h;exact ⟨res,s',hw,ih res Q E p s' (Nat.le_trans hn (wakes_size hw)) h⟩
 | yield _ _ _ _=>intro Q E p s _ h;exact h
 | stack k ih=>intro Q E p s hn h;exact ih _ Q E p s hn h
 | fork _ _=>intro Q E p s _ h;exact h
 | thread k ih=>intro Q E p s hn h;exact ih _ Q E p s hn h
 | await _ _ _ _ _=>intro Q E p s _ h;exact h
theorem wpAny_size {α : Type} {M : Model} {A : Around} {s : Shared} {t : Sem α} {Q : α → Shared → Prop} {E : Value → Shared → Prop}
 (h : wpAny M A t (fun a s'=>s.heap.objs.size ≤ s'.heap.objs.size → Q a s') (fun e s'=>s.heap.objs.size ≤ s'.heap.objs.size → E e s') s) : wpAny M A t Q E s:=
 fun Γ p hΓ=>Sem.wp_mono M Γ t (fun a p' s' x=>x.2 x.1) (fun e p' s' x=>x.2 x.1) p s (wp_size M Γ _ t _ _ p s (Nat.le_refl _) (h Γ p hΓ))
theorem Ns.ints {ns : List Nat} {ys : Array Value} (h : Ns ns ys) : IntsAre ys.toList (ns.map fun m=>((m : Nat) : Int)):=by
 obtain ⟨vs,rfl⟩ : ∃ vs : List Value,ys = vs.toArray:=⟨ys.toList,by simp⟩
 obtain ⟨h1,h2⟩:=h
 simp only [List.size_toArray,List.getElem?_toArray] at h1 h2
 show IntsAre vs _
 induction ns generalizing vs with
 | nil=>
   have : vs = []:=List.eq_nil_of_length_eq_zero (by simpa using h1)
   subst this;exact .nil
 | cons m ns ih=>
   cases vs with
   | nil=>simp at h1
   | cons v vs=>
     obtain ⟨t,e⟩:=h2 0 m rfl
     have e' : v = .int (m : Nat) t:=by simpa using e
     subst e'
     exact .cons _ t (ih vs (by simpa using h1) fun i x hx=>h2 (i + 1) x (by simpa using hx))
noncomputable def maxD (nl : Nat) (l : Addr) (ys : Array Value) (ex M : Nat) : OrcD:=
 ⟨fun _=>.call (.builtin "max") ⟨[.ref l],[]⟩,fun _=>[(nl,l,listO ys ex)],fun _ u=>.ok (.ret (.int (M : Nat) (u.a 0))),fun _ _=>[],fun _ _=>[],fun _ u=>some (u.n,u.t),fun _ _=>True,fun _=>none,0⟩
theorem maxD_ok {w : World} {D U : Nat} {π : Nat → Sup} {nl : Nat} {l : Addr} {ys : Array Value} {ex M : Nat} {ns : List Nat} (h : Ns ns ys) (hM : M ∈ ns) (hm : ∀ a ∈ ns,a ≤ M) : OrcAt w D U π (maxD nl l ys ex M):=by
 refine OrcAt.of_call rfl (fun s ho hz hp=>?_)
 have h1 : s.heap.get? l = some (listO ys ex):=hp.get _ (.head _)
 have hi:=h.ints
 obtain ⟨xs,e⟩:=hi.allInts.items
 have hns : (ns.map fun m=>((m : Nat) : Int)) = xs.toList.map (·.1):=by
  rw [← hi.numsOf,← nums_intItems,← e]
 have hsz : 0 < xs.size:=by
  have h3 : 0 < (ns.map fun m=>((m : Nat) : Int)).length:=by
   rw [List.length_map]
   exact List.length_pos_of_mem hM
  rw [hns,List.length_map,Array.length_toList] at h3;exact h3
 have hl : s.heap.IsList l (intItems xs):=by
  rw [← e]
  exact ⟨_,h1,rfl,ex,by simp⟩
 refine wpAny_size (max_intList rfl hl hsz fun v h' tk hv hk=>?_)
 intro hgrow
 obtain ⟨t,rfl⟩:=intItems_at hv
 obtain ⟨g1,g2⟩:=argBest_gt (numAt xs) (xs.size - 1)
 have e3 : numAt xs (argBest (fun i j=>decide (numAt xs i > numAt xs j)) (xs.size - 1)) = (M : Nat):=by
  have a1 : numAt xs (argBest (fun i j=>decide (numAt xs i > numAt xs j)) (xs.size - 1)) ∈ (ns.map fun m=>((m : Nat) : Int)):=by
   rw [hns,numAt_eq];exact getD_mem (by rw [List.length_map,Array.length_toList];omega)
  obtain ⟨m,hm1,hm2⟩:=List.mem_map.mp a1
  have a2 : ((M : Nat) : Int) ∈ xs.toList.map (·.1):=by rw [← hns];exact List.mem_map.mpr ⟨M,hM,rfl⟩
  obtain ⟨j,hj,ej⟩:=mem_getD a2
  rw [List.length_map,Array.length_toList] at hj
  have a3:=g2 j (by omega)
  rw [numAt_eq xs j,ej] at a3
  have a4:=hm m hm1
  omega
 rw [e3]
 exact ⟨⟨h'.objs.size,tk,fun _=>t,fun _=>.none,fun _=>#[],fun _=>#[],fun _=>#[]⟩,rfl,⟨rfl,rfl,rfl,hgrow,fun b v hb _=>hk b v hb,(fun _ h=>nomatch h),(fun _ h=>nomatch h),List.nodup_nil,⟨rfl,rfl⟩⟩,trivial⟩
end
section
open PySem.Builtin PySem.Builtin.Str
noncomputable def itemN (nl : Nat) (l : Addr) (xs : Array Value) (ex : Nat) (i : Nat) (ti : (Nat → Sup) → Nat) (m : Nat) : OrcD:=
 ⟨fun π=>.call (.builtin "list.__getitem__") ⟨[.ref l,.int (i : Nat) (ti π)],[]⟩,fun _=>[(nl,l,listO xs ex)],fun _ u=>.ok (.ret (.int (m : Nat) (u.a 0))),fun _ _=>[],fun _ _=>[],fun _ _=>none,fun _ _=>True,fun _=>none,0⟩
theorem itemN_ok {w : World} {D U : Nat} {π : Nat → Sup} {nl : Nat} {l : Addr} {xs : Array Value} {ex i : Nat} {ti : (Nat → Sup) → Nat} {m : Nat} (hx : ∃ t,xs[i]? = some (.int (m : Nat) t)) (hi : (i : Int) < 2 ^ 63) : OrcAt w D U π (itemN nl l xs ex i ti m):=by
 obtain ⟨t,hx⟩:=hx
 refine OrcAt.of_code (fun s ho hz hp=>?_)
 exact code_item (hp.get _ (.head _)) (Int.natCast_nonneg i) hi (by simpa using hx) ⟨⟨0,0,fun _=>t,fun _=>.none,fun _=>#[],fun _=>#[],fun _=>#[]⟩,rfl,post_same rfl rfl rfl,trivial⟩
noncomputable def eC2 : PySem.Expr:=sV (nth commonB 1)
noncomputable def envC2 (L fr cw cc : Addr) : Env:=cEnv [(q ".0",.local),(q "k",.local),(q "max",.globalImplicit),(q "counts",.cell),(q "words",.cell)] [(q "words",cw),(q "counts",cc)] L fr
noncomputable def cC2 (it acc L fr cw cc : Addr) : Code:=.compLoop eC2 0 (.ref it) (.ref acc) (envC2 L fr cw cc)
noncomputable def lC2y : List St:=[G 2 0x14,.orc,G 15 0x19996a66,.orc,G 6 0x1a00,.orc,G 2 1,cm,.orc,G 8 0x177768,.orc,.orc]
noncomputable def lC2n : List St:=[G 2 0x14,.orc,G 15 0x19996a66,.orc,G 6 0x1a00,.orc,G 2 1,cm,.orc]
noncomputable def lC2e : List St:=[G 14 0x1c44444]
noncomputable def dsC2 (b : Bool) (src it acc cs : Addr) (xs ys zs : Array Value) (ex ey ea k j m M : Nat) (x : String) : List OrcD:=match b with
 | true=>[rnextD 0 it k j,itemN 5 cs ys ey k (fun π=>(π 0).a 0) m,maxD 5 cs ys ey M,eq2 (m : Nat) (M : Nat) (fun π=>(π 1).a 0) (fun π=>(π 2).a 0) true,itemW 3 src xs ex k (fun π=>(π 0).a 0) x,appD 1 acc zs ea fun π=>sv x ((π 4).a 0)]
 | false=>[rnextD 0 it k j,itemN 5 cs ys ey k (fun π=>(π 0).a 0) m,maxD 5 cs ys ey M,eq2 (m : Nat) (M : Nat) (fun π=>(π 1).a 0) (fun π=>(π 2).a 0) false]
theorem runsC2 (P : Params) (B : List (Code × Pos)) (n t : Nat) (σ : Nat → Sup) (p : Pos) (src it acc L fr cw cs cc : Addr) (xs ys zs : Array Value) (ex ey ea k j ed tw m M : Nat) (x : String) (vw : Value) (es : Array DictEntry) : Runs [
 tR P B lC2y it acc L (rngO k (j + 1)) (rngO (k + 1) j) zs ea #[] ed [(src,listO xs ex),(cw,cellO (.ref src)),(cs,listO ys ey),(cc,cellO (.ref cs))] n t (osAt σ 0 (dsC2 true src it acc cs xs ys zs ex ey ea k j m M x)) (cC2 it acc L fr cw cc) p (zs.push (sv x ((σ 4).a 0))) ((σ 5).a 0) #[E P "k" (σ 0).t (.int (k : Nat) ((σ 0).a 0))] (ed + 1) (σ 2).n (σ 2).t,
 tR P B lC2y it acc L (rngO k (j + 1)) (rngO (k + 1) j) zs ea #[E P "k" tw vw] ed [(src,listO xs ex),(cw,cellO (.ref src)),(cs,listO ys ey),(cc,cellO (.ref cs))] n t (osAt σ 0 (dsC2 true src it acc cs xs ys zs ex ey ea k j m M x)) (cC2 it acc L fr cw cc) p (zs.push (sv x ((σ 4).a 0))) ((σ 5).a 0) #[E P "k" tw (.int (k : Nat) ((σ 0).a 0))] ed (σ 2).n (σ 2).t,
 tR P B lC2n it acc L (rngO k (j + 1)) (rngO (k + 1) j) zs ea #[] ed [(src,listO xs ex),(cw,cellO (.ref src)),(cs,listO ys ey),(cc,cellO (.ref cs))] n t (osAt σ 0 (dsC2 false src it acc cs xs ys zs ex ey ea k j m M x)) (cC2 it acc L fr cw cc) p zs ea #[E P "k" (σ 0).t (.int (k : Nat) ((σ 0).a 0))] (ed + 1) (σ 2).n (σ 2).t,
 tR P B lC2n it acc L (rngO k (j + 1)) (rngO (k + 1) j) zs ea #[E P "k" tw vw] ed [(src,listO xs ex),(cw,cellO (.ref src)),(cs,listO ys ey),(cc,cellO (.ref cs))] n t (osAt σ 0 (dsC2 false src it acc cs xs ys zs ex ey ea k j m M x)) (cC2 it acc L fr cw cc) p zs ea #[E P "k" tw (.int (k : Nat) ((σ 0).a 0))] ed (σ 2).n (σ 2).t,
 lR P B lC2e it acc L (rngO k 0) (rngO k 0) zs ea es ed [(src,listO xs ex),(cw,cellO (.ref src)),(cs,listO ys ey),(cc,cellO (.ref cs))] n t (osAt σ 0 []) (cC2 it acc L fr cw cc) p (n + 2) t]:=by unfold Runs;kernel_rfl
theorem self_range {w : World} {need : List (Nat × Nat × Obj)} {it : Addr} {ni k j : Nat} (h : (ni,it,rngO k j) ∈ need) : Self w need it:=fun A Q E s hp hQ=>wpAny_pyIter_rangeiter (x:=(k : Nat)) (left:=(j : Nat)) (step:=1) (hp.get _ h) hQ
noncomputable def most (ls : List String) (M : Nat) : List String:=ls.filter fun x=>cnt ls x == M
theorem compC2_ok {w : World} {D U : Nat} {π : Nat → Sup} (hD : D ≤ 615) (hU : U ≤ 8100) {ns ni na nL n1 n2 n3 : Nat} {src it acc L fr cw cs cc : Addr} {xs ys : Array Value} {ex ey ea0 ed0 M : Nat} {ls : List String} (hx : 0 < ls.length) (hw : Ws ls xs) (hc : Ns (ls.map (cnt ls)) ys) (hM : M ∈ ls.map (cnt ls)) (hm : ∀ a ∈ ls.map (cnt ls),a ≤ M) (hsz : ls.length ≤ 60)
 (hn : [ni,na,nL,ns,n1,n2,n3].Nodup) :
 OrcAt w D U π (compD (.compStart eC2 0 (.ref it) (.ref acc) (envC2 L fr cw cc)) ni na nL it acc L (rngO 0 ls.length) (rngO ls.length 0) #[] ea0 #[] ed0 [(ns,src,listO xs ex),(n1,cw,cellO (.ref src)),(n2,cs,listO ys ey),(n3,cc,cellO (.ref cs))] (es1k w.params "k") (fun zs=>Ws (most ls M) zs)):=by
 have big : 1000 ≤ sizeLine:=by decide +kernel
 have fin : (fun zs=>Ws (most ls M) zs) = fun zs=>Ws ((ls.take ls.length).filter fun x=>cnt ls x == M) zs:=by
  rw [List.take_length];rfl
 rw [fin]
 have main:=comp_any (w:=w) (D:=D) (U:=U) (π:=π) (c:=cC2 it acc L fr cw cc) (ni:=ni) (na:=na) (nL:=nL) (it:=it) (acc:=acc) (L:=L) (itE:=rngO ls.length 0) (ys0:=#[]) (ea0:=ea0) (es0:=#[]) (ed0:=ed0) (es1:=es1k w.params "k") (extra:=[(ns,src,listO xs ex),(n1,cw,cellO (.ref src)),(n2,cs,listO ys ey),(n3,cc,cellO (.ref cs))]) (itO:=fun k=>rngO k (ls.length - k)) ls.length (fun k zs=>Ws ((ls.take k).filter fun x=>cnt ls x == M) zs) (by omega) (by omega) rfl rfl hx hn (by simp) (by simpa using Ws.nil) (fun _ _ _ _ _ _=>rfl) ?_ ?_
 ·exact (start_any (by kernel_rfl) (self_range (k:=0) (j:=ls.length) (ni:=ni) (.head _)) main).at
 ·intro B n t p k zs ea q' ed hn1 lt hk h0 hg
  obtain ⟨j,ej,ej2⟩ : ∃ j,ls.length - k = j + 1 ∧ ls.length - (k + 1) = j:=⟨ls.length - k - 1,by omega,by omega⟩
  have hzs : zs.size ≤ sizeLine:=by
   rw [hg.1]
   have h1:=List.length_filter_le (fun x=>cnt ls x == M) (ls.take k)
   have h2 : (ls.take k).length ≤ k:=by simp;omega
   omega
  have hs:=hg.snoc_if lt
  have hcm : ∃ t,ys[k]? = some (.int (cnt ls ls[k] : Nat) t):=hc.2 k _ (by rw [List.getElem?_map,List.getElem?_eq_getElem lt];rfl)
  have hwx : ∃ t,xs[k]? = some (sv ls[k] t):=hw.2 k _ (List.getElem?_eq_getElem lt)
  have z:=fun σ tw vw=>runsC2 w.params B n t σ p src it acc L fr cw cs cc xs ys zs ex ey ea k j ed tw (cnt ls ls[k]) M ls[k] vw #[]
  have key : ∀ s : Option (Nat × Value),X8 fun (ds : List OrcD) (l : List St) (ys' : (Nat → Sup) → Array Value) (ea' ed' nn kk : (Nat → Sup) → Nat) (u : (Nat → Sup) → Sup)=>(∀ j d,ds[j]? = some d → OrcOK w (D + 75) (U + 300) ds j d) ∧
   (∀ σ,EndsR (tR w.params B l it acc L (rngO k (j + 1)) (rngO (k + 1) j) zs ea (match s with | none=>#[] | some z=>#[E w.params "k" z.1 z.2]) ed [(src,listO xs ex),(cw,cellO (.ref src)),(cs,listO ys ey),(cc,cellO (.ref cs))] n t (osAt σ 0 ds) (cC2 it acc L fr cw cc) p (ys' σ) (ea' σ) (es1k w.params "k" (u σ)) (ed' σ) (nn σ) (kk σ))) ∧
   ∀ σ,(∀ (i : Nat) (d : OrcD),ds[i]? = some d → d.F (tr i σ) (σ i)) → Ws ((ls.take (k + 1)).filter fun x=>cnt ls x == M) (ys' σ):=by
   intro s
   cases hb : (cnt ls ls[k] == M) with
   | true=>
     have he : cnt ls ls[k] = M:=eq_of_beq hb
     have hds : ∀ i d,(dsC2 true src it acc cs xs ys zs ex ey ea k j (cnt ls ls[k]) M ls[k])[i]? = some d → OrcOK w (D + 75) (U + 300) (dsC2 true src it acc cs xs ys zs ex ey ea k j (cnt ls ls[k]) M ls[k]) i d:=orcs_all fun d hd π=>by
      revert d hd
      refine fa_cons ?_ (fa_cons ?_ (fa_cons ?_ (fa_cons ?_ (fa_cons ?_ (fa_cons ?_ (fa_nil))))))
      ·exact rnextD_ok
      ·exact itemN_ok hcm (by omega)
      ·exact maxD_ok hc hM hm
      ·exact eq2_ok (decide_eq_true (by rw [he]))
      ·exact itemW_ok hwx (by omega)
      ·exact appD_ok hzs
     cases s with
     | none=>exact ⟨_,lC2y,fun σ=>zs.push (sv ls[k] ((σ 4).a 0)),fun σ=>(σ 5).a 0,fun _=>ed + 1,fun σ=>(σ 2).n,fun σ=>(σ 2).t,fun σ=>⟨0,0,fun _=>(σ 0).t,fun _=>.int (k : Nat) ((σ 0).a 0),fun _=>#[],fun _=>#[],fun _=>#[]⟩,hds,fun σ=>(z σ 0 .none).at (.head _),fun σ _=>hs.1 hb _⟩
     | some s=>exact ⟨_,lC2y,fun σ=>zs.push (sv ls[k] ((σ 4).a 0)),fun σ=>(σ 5).a 0,fun _=>ed,fun σ=>(σ 2).n,fun σ=>(σ 2).t,fun σ=>⟨0,0,fun _=>s.1,fun _=>.int (k : Nat) ((σ 0).a 0),fun _=>#[],fun _=>#[],fun _=>#[]⟩,hds,fun σ=>(z σ s.1 s.2).at (.tail _ (.head _)),fun σ _=>hs.1 hb _⟩
   | false=>
     have he : cnt ls ls[k] ≠ M:=fun e=>by rw [e] at hb;simp at hb
     have hds : ∀ i d,(dsC2 false src it acc cs xs ys zs ex ey ea k j (cnt ls ls[k]) M ls[k])[i]? = some d → OrcOK w (D + 75) (U + 300) (dsC2 false src it acc cs xs ys zs ex ey ea k j (cnt ls ls[k]) M ls[k]) i d:=orcs_all fun d hd π=>by
      revert d hd
      refine fa_cons ?_ (fa_cons ?_ (fa_cons ?_ (fa_cons ?_ (fa_nil))))
      ·exact rnextD_ok
      ·exact itemN_ok hcm (by omega)
      ·exact maxD_ok hc hM hm
      ·exact eq2_ok (decide_eq_false (by omega))
     cases s with
     | none=>exact ⟨_,lC2n,fun σ=>zs,fun σ=>ea,fun _=>ed + 1,fun σ=>(σ 2).n,fun σ=>(σ 2).t,fun σ=>⟨0,0,fun _=>(σ 0).t,fun _=>.int (k : Nat) ((σ 0).a 0),fun _=>#[],fun _=>#[],fun _=>#[]⟩,hds,fun σ=>(z σ 0 .none).at (.tail _ (.tail _ (.head _))),fun σ _=>hs.2 hb⟩
     | some s=>exact ⟨_,lC2n,fun σ=>zs,fun σ=>ea,fun _=>ed,fun σ=>(σ 2).n,fun σ=>(σ 2).t,fun σ=>⟨0,0,fun _=>s.1,fun _=>.int (k : Nat) ((σ 0).a 0),fun _=>#[],fun _=>#[],fun _=>#[]⟩,hds,fun σ=>(z σ s.1 s.2).at (.tail _ (.tail _ (.tail _ (.head _)))),fun σ _=>hs.2 hb⟩
  show TurnR w D U _ it acc L (rngO k (ls.length - k)) (rngO (k + 1) (ls.length - (k + 1))) _ _ _ B n t p zs ea q' ed _
  rw [ej,ej2]
  cases q' with
  | none=>
    exact key none
  | some v=>
    exact key (some (v.a 2,v.v 0))
 ·intro B n t p zs ea u ed hn1 hg
  show LastR w D U _ it acc L (rngO ls.length (ls.length - ls.length)) _ _ _ B n t p zs ea ed
  rw [Nat.sub_self]
  exact ⟨[],lC2e,fun σ=>n + 2,fun σ=>t,none_ok,fun σ=>(runsC2 w.params B n t σ p src it acc L fr cw cs cc xs ys zs ex ey ea ls.length 0 ed 0 0 0 "" .none (es1k w.params "k" u)).at (.tail _ (.tail _ (.tail _ (.tail _ (.head _)))))⟩
noncomputable def eC3 : PySem.Expr:=sV (nth commonB 2)
noncomputable def envC3 (L fr cm : Addr) : Env:=cEnv [(q ".0",.local),(q "k",.local),(q "most",.cell)] [(q "most",cm)] L fr
noncomputable def cC3 (it acc L fr cm : Addr) : Code:=.compLoop eC3 0 (.ref it) (.ref acc) (envC3 L fr cm)
noncomputable def lC3y : List St:=[G 2 0x14,.orc,G 15 0x17776866,.orc,G 9 0x177768,.orc,G 4 0x1aa,.orc,G 8 0x177768,.orc,.orc]
noncomputable def lC3n : List St:=[G 2 0x14,.orc,G 15 0x17776866,.orc,G 9 0x177768,.orc,G 4 0x1aa,.orc]
noncomputable def lC3e : List St:=[G 14 0x1a44444]
noncomputable def dsC3 (b : Bool) (it acc ms : Addr) (ys zs : Array Value) (ey ea k j : Nat) (x : String) : List OrcD:=match b with
 | true=>[rnextD 0 it k j,itemW 3 ms ys ey k (fun π=>(π 0).a 0) x,dep 0 fun π=>sliceD 3 5 ms (π 0).n ys ey (fun _=>.none) (fun π=>.int (k : Nat) ((π 0).a 0)) (fun _=>.none) none (some (k : Nat)) none,
  dep 0 fun π=>inD 6 ((π 2).a 0) (slicePick ys none (some (k : Nat)) none) 0 x (fun π=>(π 1).a 0) false,itemW 3 ms ys ey k (fun π=>(π 0).a 0) x,appD 1 acc zs ea fun π=>sv x ((π 4).a 0)]
 | false=>[rnextD 0 it k j,itemW 3 ms ys ey k (fun π=>(π 0).a 0) x,dep 0 fun π=>sliceD 3 5 ms (π 0).n ys ey (fun _=>.none) (fun π=>.int (k : Nat) ((π 0).a 0)) (fun _=>.none) none (some (k : Nat)) none,
  dep 0 fun π=>inD 6 ((π 2).a 0) (slicePick ys none (some (k : Nat)) none) 0 x (fun π=>(π 1).a 0) true]
theorem runsC3 (P : Params) (B : List (Code × Pos)) (n t : Nat) (σ : Nat → Sup) (p : Pos) (it acc L fr cm ms : Addr) (ys zs : Array Value) (ey ea k j ed tw : Nat) (x : String) (vw : Value) (es : Array DictEntry) : Runs [
 tR P B lC3y it acc L (rngO k (j + 1)) (rngO (k + 1) j) zs ea #[] ed [(ms,listO ys ey),(cm,cellO (.ref ms))] n t (osAt σ 0 (dsC3 true it acc ms ys zs ey ea k j x)) (cC3 it acc L fr cm) p (zs.push (sv x ((σ 4).a 0))) ((σ 5).a 0) #[E P "k" (σ 0).t (.int (k : Nat) ((σ 0).a 0))] (ed + 1) (σ 2).n (σ 2).t,
 tR P B lC3y it acc L (rngO k (j + 1)) (rngO (k + 1) j) zs ea #[E P "k" tw vw] ed [(ms,listO ys ey),(cm,cellO (.ref ms))] n t (osAt σ 0 (dsC3 true it acc ms ys zs ey ea k j x)) (cC3 it acc L fr cm) p (zs.push (sv x ((σ 4).a 0))) ((σ 5).a 0) #[E P "k" tw (.int (k : Nat) ((σ 0).a 0))] ed (σ 2).n (σ 2).t,
 tR P B lC3n it acc L (rngO k (j + 1)) (rngO (k + 1) j) zs ea #[] ed [(ms,listO ys ey),(cm,cellO (.ref ms))] n t (osAt σ 0 (dsC3 false it acc ms ys zs ey ea k j x)) (cC3 it acc L fr cm) p zs ea #[E P "k" (σ 0).t (.int (k : Nat) ((σ 0).a 0))] (ed + 1) (σ 2).n (σ 2).t,
 tR P B lC3n it acc L (rngO k (j + 1)) (rngO (k + 1) j) zs ea #[E P "k" tw vw] ed [(ms,listO ys ey),(cm,cellO (.ref ms))] n t (osAt σ 0 (dsC3 false it acc ms ys zs ey ea k j x)) (cC3 it acc L fr cm) p zs ea #[E P "k" tw (.int (k : Nat) ((σ 0).a 0))] ed (σ 2).n (σ 2).t,
 lR P B lC3e it acc L (rngO k 0) (rngO k 0) zs ea es ed [(ms,listO ys ey),(cm,cellO (.ref ms))] n t (osAt σ 0 []) (cC3 it acc L fr cm) p (n + 2) t]:=by unfold Runs;kernel_rfl
theorem Ws.upto {l : List String} {ys : Array Value} (h : Ws l ys) (k : Nat) : Ws (l.take k) (slicePick ys none (some (k : Nat)) none):=by
 rw [slicePick_upto']
 refine ⟨by simp [h.1],fun i x hx=>?_⟩
 rw [List.getElem?_take] at hx
 split at hx
 ·rename_i hik
  obtain ⟨t,e⟩:=h.2 i x hx
  refine ⟨t,?_⟩
  rw [List.getElem?_toArray,List.getElem?_take,if_pos hik,Array.getElem?_toList]
  exact e
 ·cases hx
theorem Ws.downfrom {l : List String} {ys : Array Value} (h : Ws l ys) (k : Nat) : Ws (l.drop k) (slicePick ys (some (k : Nat)) none none):=by
 rw [slicePick_from']
 refine ⟨by simp [h.1],fun i x hx=>?_⟩
 rw [List.getElem?_drop] at hx
 obtain ⟨t,e⟩:=h.2 (k + i) x hx
 refine ⟨t,?_⟩
 rw [List.getElem?_toArray,List.getElem?_drop,Array.getElem?_toList]
 exact e
noncomputable def uniqTo (ls : List String) : Nat → List String
 | 0=>[]
 | k + 1=>match (ls.take k).any (same · (ls.getD k "")) with
   | true=>uniqTo ls k
   | false=>uniqTo ls k ++ [ls.getD k ""]
theorem uniqTo_len (ls : List String) : ∀ k,(uniqTo ls k).length ≤ k
 | 0=>Nat.le_refl _
 | k + 1=>by
   have ih:=uniqTo_len ls k
   unfold uniqTo
   split
   ·omega
   ·simp;omega
theorem compC3_ok {w : World} {D U : Nat} {π : Nat → Sup} (hD : D ≤ 615) (hU : U ≤ 8100) {ns ni na nL n1 : Nat} {it acc L fr cm ms : Addr} {ys : Array Value} {ey ea0 ed0 : Nat} {ls : List String} (hx : 0 < ls.length) (hw : Ws ls ys) (hsz : ls.length ≤ 60) (hn : [ni,na,nL,ns,n1].Nodup) :
 OrcAt w D U π (compD (.compStart eC3 0 (.ref it) (.ref acc) (envC3 L fr cm)) ni na nL it acc L (rngO 0 ls.length) (rngO ls.length 0) #[] ea0 #[] ed0 [(ns,ms,listO ys ey),(n1,cm,cellO (.ref ms))] (es1k w.params "k") (fun zs=>Ws (uniqTo ls ls.length) zs)):=by
 have big : 1000 ≤ sizeLine:=by decide +kernel
 have main:=comp_any (w:=w) (D:=D) (U:=U) (π:=π) (c:=cC3 it acc L fr cm) (ni:=ni) (na:=na) (nL:=nL) (it:=it) (acc:=acc) (L:=L) (itE:=rngO ls.length 0) (ys0:=#[]) (ea0:=ea0) (es0:=#[]) (ed0:=ed0) (es1:=es1k w.params "k") (extra:=[(ns,ms,listO ys ey),(n1,cm,cellO (.ref ms))]) (itO:=fun k=>rngO k (ls.length - k)) ls.length (fun k zs=>Ws (uniqTo ls k) zs) (by omega) (by omega) rfl rfl hx hn (by simp) Ws.nil (fun _ _ _ _ _ _=>rfl) ?_ ?_
 ·exact (start_any (by kernel_rfl) (self_range (k:=0) (j:=ls.length) (ni:=ni) (.head _)) main).at
 ·intro B n t p k zs ea q' ed hn1 lt hk h0 hg
  obtain ⟨j,ej,ej2⟩ : ∃ j,ls.length - k = j + 1 ∧ ls.length - (k + 1) = j:=⟨ls.length - k - 1,by omega,by omega⟩
  have hzs : zs.size ≤ sizeLine:=by
   rw [hg.1]
   have:=uniqTo_len ls k
   omega
  have hys : ys.size ≤ sizeLine:=by rw [hw.1];omega
  have hwx : ∃ t,ys[k]? = some (sv (ls.getD k "") t):=ws_item hw lt
  have z:=fun σ tw vw=>runsC3 w.params B n t σ p it acc L fr cm ms ys zs ey ea k j ed tw (ls.getD k "") vw #[]
  have key : ∀ s : Option (Nat × Value),X8 fun (ds : List OrcD) (l : List St) (ys' : (Nat → Sup) → Array Value) (ea' ed' nn kk : (Nat → Sup) → Nat) (u : (Nat → Sup) → Sup)=>(∀ j d,ds[j]? = some d → OrcOK w (D + 75) (U + 300) ds j d) ∧
   (∀ σ,EndsR (tR w.params B l it acc L (rngO k (j + 1)) (rngO (k + 1) j) zs ea (match s with | none=>#[] | some z=>#[E w.params "k" z.1 z.2]) ed [(ms,listO ys ey),(cm,cellO (.ref ms))] n t (osAt σ 0 ds) (cC3 it acc L fr cm) p (ys' σ) (ea' σ) (es1k w.params "k" (u σ)) (ed' σ) (nn σ) (kk σ))) ∧
   ∀ σ,(∀ (i : Nat) (d : OrcD),ds[i]? = some d → d.F (tr i σ) (σ i)) → Ws (uniqTo ls (k + 1)) (ys' σ):=by
   intro s
   cases hb : (ls.take k).any (same · (ls.getD k "")) with
   | false=>
     have hu : uniqTo ls (k + 1) = uniqTo ls k ++ [ls.getD k ""]:=by show (match (ls.take k).any (same · (ls.getD k "")) with | true=>_ | false=>_) = _;rw [hb]
     rw [hu]
     have hds : ∀ i d,(dsC3 true it acc ms ys zs ey ea k j (ls.getD k ""))[i]? = some d → OrcOK w (D + 75) (U + 300) (dsC3 true it acc ms ys zs ey ea k j (ls.getD k "")) i d:=orcs_all fun d hd π=>by
      revert d hd
      refine fa_cons ?_ (fa_cons ?_ (fa_cons ?_ (fa_cons ?_ (fa_cons ?_ (fa_cons ?_ (fa_nil))))))
      ·exact rnextD_ok
      ·exact itemW_ok hwx (by omega)
      ·exact dep_at (sliceD_ok .none (.int _ _) .none (by simp) hys)
      ·exact dep_at (inD_ok (hw.upto k) hb)
      ·exact itemW_ok hwx (by omega)
      ·exact appD_ok hzs
     cases s with
     | none=>exact ⟨_,lC3y,fun σ=>zs.push (sv (ls.getD k "") ((σ 4).a 0)),fun σ=>(σ 5).a 0,fun _=>ed + 1,fun σ=>(σ 2).n,fun σ=>(σ 2).t,fun σ=>⟨0,0,fun _=>(σ 0).t,fun _=>.int (k : Nat) ((σ 0).a 0),fun _=>#[],fun _=>#[],fun _=>#[]⟩,hds,fun σ=>(z σ 0 .none).at (.head _),fun σ _=>hg.push _ _⟩
     | some s=>exact ⟨_,lC3y,fun σ=>zs.push (sv (ls.getD k "") ((σ 4).a 0)),fun σ=>(σ 5).a 0,fun _=>ed,fun σ=>(σ 2).n,fun σ=>(σ 2).t,fun σ=>⟨0,0,fun _=>s.1,fun _=>.int (k : Nat) ((σ 0).a 0),fun _=>#[],fun _=>#[],fun _=>#[]⟩,hds,fun σ=>(z σ s.1 s.2).at (.tail _ (.head _)),fun σ _=>hg.push _ _⟩
   | true=>
     have hu : uniqTo ls (k + 1) = uniqTo ls k:=by show (match (ls.take k).any (same · (ls.getD k "")) with | true=>_ | false=>_) = _;rw [hb]
     rw [hu]
     have hds : ∀ i d,(dsC3 false it acc ms ys zs ey ea k j (ls.getD k ""))[i]? = some d → OrcOK w (D + 75) (U + 300) (dsC3 false it acc ms ys zs ey ea k j (ls.getD k "")) i d:=orcs_all fun d hd π=>by
      revert d hd
      refine fa_cons ?_ (fa_cons ?_ (fa_cons ?_ (fa_cons ?_ (fa_nil))))
      ·exact rnextD_ok
      ·exact itemW_ok hwx (by omega)
      ·exact dep_at (sliceD_ok .none (.int _ _) .none (by simp) hys)
      ·exact dep_at (inD_ok (hw.upto k) hb)
     cases s with
     | none=>exact ⟨_,lC3n,fun σ=>zs,fun σ=>ea,fun _=>ed + 1,fun σ=>(σ 2).n,fun σ=>(σ 2).t,fun σ=>⟨0,0,fun _=>(σ 0).t,fun _=>.int (k : Nat) ((σ 0).a 0),fun _=>#[],fun _=>#[],fun _=>#[]⟩,hds,fun σ=>(z σ 0 .none).at (.tail _ (.tail _ (.head _))),fun σ _=>hg⟩
     | some s=>exact ⟨_,lC3n,fun σ=>zs,fun σ=>ea,fun _=>ed,fun σ=>(σ 2).n,fun σ=>(σ 2).t,fun σ=>⟨0,0,fun _=>s.1,fun _=>.int (k : Nat) ((σ 0).a 0),fun _=>#[],fun _=>#[],fun _=>#[]⟩,hds,fun σ=>(z σ s.1 s.2).at (.tail _ (.tail _ (.tail _ (.head _)))),fun σ _=>hg⟩
  show TurnR w D U _ it acc L (rngO k (ls.length - k)) (rngO (k + 1) (ls.length - (k + 1))) _ _ _ B n t p zs ea q' ed _
  rw [ej,ej2]
  cases q' with
  | none=>
    exact key none
  | some v=>
    exact key (some (v.a 2,v.v 0))
 ·intro B n t p zs ea u ed hn1 hg
  show LastR w D U _ it acc L (rngO ls.length (ls.length - ls.length)) _ _ _ B n t p zs ea ed
  rw [Nat.sub_self]
  exact ⟨[],lC3e,fun σ=>n + 2,fun σ=>t,none_ok,fun σ=>(runsC3 w.params B n t σ p it acc L fr cm ms ys zs ey ea ls.length 0 ed 0 "" .none (es1k w.params "k" u)).at (.tail _ (.tail _ (.tail _ (.tail _ (.head _)))))⟩
noncomputable def rangeD (m : Nat) (tm : (Nat → Sup) → Nat) : OrcD:=
 ⟨fun π=>.call (.type "range") ⟨[.int (m : Nat) (tm π)],[]⟩,fun _=>[],fun _ u=>.ok (.ret (.ref (u.a 0))),fun _ _=>[],fun π u=>[(u.a 0,⟨.type "range",none,.fields #[.int 0 (u.a 1),.int (m : Nat) (tm π),.int 1 (u.a 2)],#[]⟩)],fun _ u=>some (u.n,u.t),fun _ _=>True,fun _=>none,0⟩
theorem rangeD_ok {w : World} {D U : Nat} {π : Nat → Sup} {m : Nat} {tm : (Nat → Sup) → Nat} : OrcAt w D U π (rangeD m tm):=by
 refine OrcAt.of_call rfl (fun s ho hz hp=>call_range_1 ?_)
 refine ⟨⟨s.heap.objs.size + 1,s.toks + 1 + 1,fun i=>match i with | 0=>s.heap.objs.size | 1=>s.toks | _=>s.toks + 1,fun _=>.none,fun _=>#[],fun _=>#[],fun _=>#[]⟩,rfl,⟨rfl,rfl,rfl,by show _ ≤ (s.heap.push _).objs.size;rw [Heap.size_push];omega,fun b v h _=>Heap.get?_push_of_some _ h,(fun _ h=>nomatch h),fun x hx=>?_,by simp [OrcD.at,rangeD],⟨by show (s.heap.push _).objs.size = _;rw [Heap.size_push],rfl⟩⟩,trivial⟩
 rcases List.mem_singleton.mp (show x ∈ [_] from hx) with rfl
 exact ⟨Nat.le_refl _,Heap.get?_push_size _ rfl⟩
theorem not_not_true {b : Bool} (h : b = true) : ¬ ((!b) = true):=by subst h;simp
noncomputable def riterD (nr : Nat) (r : Addr) (m t0 tm t1 : Nat) : OrcD:=
 ⟨fun π=>.call (.builtin "range.__iter__") ⟨[.ref r],[]⟩,fun _=>[(nr,r,⟨.type "range",none,.fields #[.int 0 t0,.int (m : Nat) tm,.int 1 t1],#[]⟩)],fun _ u=>.ok (.ret (.ref (u.a 0))),fun _ _=>[],fun π u=>[(u.a 0,rngO 0 m)],fun _ u=>some (u.n,u.t),fun _ _=>True,fun _=>none,0⟩
theorem riterD_ok {w : World} {D U : Nat} {π : Nat → Sup} {nr : Nat} {r : Addr} {m t0 tm t1 : Nat} (hm : m < 2 ^ 62) : OrcAt w D U π (riterD nr r m t0 tm t1):=by
 refine OrcAt.of_code (fun s ho hz hp=>?_)
 have h1 : s.heap.get? r = some ⟨.type "range",none,.fields #[.int 0 t0,.int (m : Nat) tm,.int 1 t1],#[]⟩:=hp.get _ (.head _)
 have hs : Builtin.Range.small 0 (m : Nat) 1 = true:=small_one (by omega) (by omega) (by omega) (by omega)
 have hz2 : Builtin.Range.rangeSize 0 (m : Nat) 1 = (m : Nat):=by
  rw [rangeSize_one]
  split <;> omega
 have hs2:=hs
 unfold Builtin.Range.small at hs2
 refine any_of_meets PySem.F.slot_range_iter ⟨_,h1,rfl⟩ PySem.F.entry_range_iter (PySem.F.args_range_iter_1 _) (AutoRange.range___iter___range_1 r 0 (m : Nat) 1 t0 tm t1 (not_not_true hs2)) ⟨h1,?_⟩
 rw [if_pos hs2,hz2]
 refine ⟨⟨s.heap.objs.size + 1,s.toks,fun _=>s.heap.objs.size,fun _=>.none,fun _=>#[],fun _=>#[],fun _=>#[]⟩,rfl,⟨rfl,rfl,rfl,by show _ ≤ (s.heap.push _).objs.size;rw [Heap.size_push];omega,fun b v h _=>Heap.get?_push_of_some _ h,(fun _ h=>nomatch h),fun x hx=>?_,by simp [OrcD.at,riterD],⟨by show (s.heap.push _).objs.size = _;rw [Heap.size_push],rfl⟩⟩,trivial⟩
 rcases List.mem_singleton.mp (show x ∈ [_] from hx) with rfl
 exact ⟨Nat.le_refl _,Heap.get?_push_size _ rfl⟩
noncomputable def maxOf (l : List Nat) : Nat:=l.foldr Nat.max 0
theorem maxOf_ge : ∀ {l : List Nat} {a : Nat},a ∈ l → a ≤ maxOf l
 | b :: l,a,h=>by
   show a ≤ Nat.max b (maxOf l)
   rcases List.mem_cons.mp h with rfl | h
   ·exact Nat.le_max_left _ _
   ·exact Nat.le_trans (maxOf_ge h) (Nat.le_max_right _ _)
theorem maxOf_mem : ∀ {l : List Nat},0 < l.length → maxOf l ∈ l
 | [b],_=>by simp [maxOf]
 | b :: c :: l,_=>by
   have ih:=maxOf_mem (l:=c :: l) (by simp)
   show Nat.max b (maxOf (c :: l)) ∈ _
   rcases Nat.le_total b (maxOf (c :: l)) with h | h
   ·rw [show Nat.max b (maxOf (c :: l)) = maxOf (c :: l) from Nat.max_eq_right h];exact .tail _ ih
   ·rw [show Nat.max b (maxOf (c :: l)) = b from Nat.max_eq_left h];exact .head _
noncomputable def mostOf (ls : List String) : List String:=most ls (maxOf (ls.map (cnt ls)))
theorem mostOf_pos {ls : List String} (h : 0 < ls.length) : 0 < (mostOf ls).length:=by
 obtain ⟨x,hx,e⟩:=List.mem_map.mp (maxOf_mem (l:=ls.map (cnt ls)) (by simpa using h))
 exact List.length_pos_of_mem (List.mem_filter.mpr ⟨hx,by rw [e];simp⟩)
noncomputable def commonOf (ls : List String) : List String:=uniqTo (mostOf ls) (mostOf ls).length
noncomputable def lCm : List St:=[G 17 0x144616600,cm,G 8 0x194,.orc,G 20 0x16000077bbb,.orc,G 2 1,.orc,G 4 0x1cc,cm,.orc,G 3 0x1d,.orc,G 20 0x180000880ff0ff0ff,.orc,G 2 1,.orc,G 4 0x110f10f,cm,.orc,G 3 0x111f,.orc,G 5 0x113f13f13f]
noncomputable def dsCm (P : Params) (n : Nat) (due : Addr) (xs : Array Value) (ex : Nat) (ls : List String) (m k : Nat) : List OrcD:=[
 compD (.compStart eC1 0 (.ref (n + 4)) (.ref (n + 5)) (envC1 (n + 6) n (n + 1))) 5 6 7 (n + 4) (n + 5) (n + 6) (iterO due 0) (iterEnd xs.size) #[] 0 #[] 0 [(0,due,listO xs ex),(2,n + 1,cellO (.ref due))] (es1k P "word") (fun zs=>Ns ((ls.take xs.size).map (cnt ls)) zs),
 lenM 0 due xs ex m,
 rangeD m fun π=>(π 1).a 0,
 dep 0 fun π=>riterD 8 ((π 2).a 0) m ((π 2).a 1) ((π 1).a 0) ((π 2).a 2),
 dep 0 fun π=>compD (.compStart eC2 0 (.ref ((π 3).a 0)) (.ref (π 3).n) (envC2 ((π 3).n + 1) n (n + 1) (n + 2))) 9 10 11 ((π 3).a 0) (π 3).n ((π 3).n + 1) (rngO 0 m) (rngO m 0) #[] 0 #[] 0 [(0,due,listO xs ex),(2,n + 1,cellO (.ref due)),(6,n + 5,listO ((π 0).x 0) ((π 0).a 0)),(3,n + 2,cellO (.ref (n + 5)))] (es1k P "k") (fun zs=>Ws (mostOf ls) zs),
 dep 0 fun π=>lenM 10 (π 3).n ((π 4).x 0) ((π 4).a 0) k,
 rangeD k fun π=>(π 5).a 0,
 dep 0 fun π=>riterD 12 ((π 6).a 0) k ((π 6).a 1) ((π 5).a 0) ((π 6).a 2),
 dep 0 fun π=>compD (.compStart eC3 0 (.ref ((π 7).a 0)) (.ref (π 7).n) (envC3 ((π 7).n + 1) n (n + 3))) 13 14 15 ((π 7).a 0) (π 7).n ((π 7).n + 1) (rngO 0 k) (rngO k 0) #[] 0 #[] 0 [(10,(π 3).n,listO ((π 4).x 0) ((π 4).a 0)),(4,n + 3,cellO (.ref (π 3).n))] (es1k P "k") (fun zs=>Ws (commonOf ls) zs)]
theorem runsCm (P : Params) (B : List (Code × Pos)) (n t : Nat) (σ : Nat → Sup) (p : Pos) (due : Addr) (xs : Array Value) (ex : Nat) (ls : List String) (m k : Nat) : Runs [
 (runC P B lCm [(due,listO xs ex)] n t (osAt σ 0 (dsCm P n due xs ex ls m k)) (.call (.ref 1090) ⟨[.ref due],[]⟩) p,[0,14],(dn (.ref (σ 7).n),[],[some (due,listO xs ex),some ((σ 7).n,listO ((σ 8).x 0) ((σ 8).a 0))],(σ 8).n,(σ 8).t))]:=by unfold Runs;kernel_rfl
noncomputable def commonD (nl : Nat) (l : Addr) (xs : Array Value) (ex : Nat) (ls : List String) : OrcD:=
 fnD (fun _=>.call (.ref 1090) ⟨[.ref l],[]⟩) (fun _=>[(nl,l,listO xs ex)]) (fun _ _=>[listO xs ex]) (fun _ u=>.ok (.ret (.ref (u.a 0)))) (fun _ u=>[(u.a 0,listO (u.x 0) (u.a 1))]) (fun _ u=>Ws (commonOf ls) (u.x 0))
theorem common_ok {w : World} {D U : Nat} {π : Nat → Sup} (hD : D ≤ 540) (hU : U ≤ 7800) {nl : Nat} {l : Addr} {xs : Array Value} {ex : Nat} {ls : List String} (hw : Ws ls xs) (h0 : 0 < ls.length) (hsz : ls.length ≤ 60) :
 OrcAt w D U π (commonD nl l xs ex ls):=by
 have big : 1000 ≤ sizeLine:=by decide +kernel
 have hm0:=mostOf_pos h0
 have hm1 : (mostOf ls).length ≤ ls.length:=List.length_filter_le _ _
 have hx : xs.size = ls.length:=hw.1
 refine fn_ok (by omega) (by omega) rfl (nd rfl) (le4 rfl) fun B n t pos hn=>?_
 refine ⟨dsCm w.params n l xs ex ls ls.length (mostOf ls).length,lCm,[14],fun σ=>⟨(σ 8).n,(σ 8).t,fun i=>match i with | 0=>(σ 7).n | _=>(σ 8).a 0,fun _=>.none,fun _=>(σ 8).x 0,fun _=>#[],fun _=>#[]⟩,orcs_of ?_,(fun v hv=>by rcases List.mem_singleton.mp hv with rfl;simp),by simp,fun σ=>⟨rfl,rfl,(runsCm w.params B n t σ pos l xs ex ls ls.length (mostOf ls).length).get (.head _)⟩,fun σ hF=>hF 8 _ rfl⟩
 intro j d hd' π hF'
 obtain ⟨J,M,hJ,hM,hd,hF⟩:=genJ hd' hF'
 clear hd' hF'
 match j,hd with
 | 0,hd=>subst hM;cases hd;exact compC1_ok (by omega) (by omega) (by omega) hw (by omega) (by decide)
 | 1,hd=>subst hM;cases hd;exact lenM_ok hx (by omega)
 | 2,hd=>subst hM;cases hd;exact rangeD_ok
 | 3,hd=>subst hM;cases hd;exact dep_at (riterD_ok (by omega))
 | 4,hd=>
   subst hM;cases hd
   have hc : Ns (ls.map (cnt ls)) ((π 0).x 0):=by
    have z : Ns ((ls.take xs.size).map (cnt ls)) ((π 0).x 0):=hF 0 (by omega) _ rfl
    rw [hx,List.take_length] at z
    exact z
   exact dep_at (compC2_ok (by omega) (by omega) h0 hw hc (maxOf_mem (by simpa using h0)) (fun a h=>maxOf_ge h) hsz (by decide))
 | 5,hd=>
   subst hM;cases hd
   have hc : Ws (mostOf ls) ((π 4).x 0):=hF 4 (by omega) _ rfl
   exact dep_at (lenM_ok hc.1 (by omega))
 | 6,hd=>subst hM;cases hd;exact rangeD_ok
 | 7,hd=>subst hM;cases hd;exact dep_at (riterD_ok (by omega))
 | 8,hd=>
   subst hM;cases hd
   have hc : Ws (mostOf ls) ((π 4).x 0):=hF 4 (by omega) _ rfl
   exact dep_at (compC3_ok (by omega) (by omega) hm0 hc (by omega) (by decide))
 | j + 9,hd=>subst hM;exact nomatch (show none = some d from hd)
theorem next_item {w : World} {A : Around} {E : Value → Shared → Prop} {s : Shared} {it l : Addr} {k : Nat} {xs : Array Value} {ex : Nat} {x : Value} {Q : Option Value → Shared → Prop} (h1 : s.heap.get? it = some (iterO l k)) (h2 : s.heap.get? l = some (listO xs ex)) (hx : xs[k]? = some x)
 (hQ : ∀ h',h'.get? it = some (iterO l (k + 1)) → Heap.SameBut it s.heap h' → Q (some x) { s with heap:=h' }) : wpAny (model pw w) A (pyNext (.ref it)) Q E s:=by
 have hit : s.heap.IsListIter it l k:=⟨_,h1,rfl,rfl⟩
 unfold pyNext
 refine wpAny_bind (wpAny_attempt (wpAny_callSpecial?_slot (name:=Str.ofString "__next__") hit.typeIs slot_listiter_next
  (wpAny_call_entry slot_listiter_next hit.typeIs entry_listiter_next ?_ (args_listiter_next _))))
 show wpAny _ _ (field (.ref it) 0 >>= _) _ _ s
 refine wpAny_bind (wpAny_field h1 rfl (x:=.ref l) rfl ?_)
 show wpAny _ _ (if (Value.ref l == Value.none) = true then _ else _) _ _ s
 rw [if_neg (show ¬ ((Value.ref l == Value.none) = true) from Bool.false_ne_true)]
 show wpAny _ _ (field (.ref it) 1 >>= _) _ _ s
 refine wpAny_bind (wpAny_field h1 rfl (x:=.int k 0) rfl ?_)
 show wpAny _ _ (seqItems? (.ref l) >>= _) _ _ s
 refine wpAny_bind (wpAny_seqItems h2 rfl ?_)
 simp only [Int.toNat_natCast,hx]
 refine wpAny_bind (wpAny_setField_rec h1 (by simp) fun h' e1 e2=>wpAny_pure ⟨x,rfl,wpAny_pure (hQ h' e1 e2)⟩)
theorem next_end {w : World} {A : Around} {E : Value → Shared → Prop} {s : Shared} {it l : Addr} {k : Nat} {xs : Array Value} {ex : Nat} {Q : Option Value → Shared → Prop} (hh : A.handled = none) (h1 : s.heap.get? it = some (iterO l k)) (h2 : s.heap.get? l = some (listO xs ex)) (hx : xs[k]? = none)
 (hQ : ∀ h',h'.get? it = some (iterEnd k) → h'.objs.size = s.heap.objs.size + 2 → (∀ b v,b ≠ it → s.heap.get? b = some v → h'.get? b = some v) → Q none { s with heap:=h' }) : wpAny (model pw w) A (pyNext (.ref it)) Q E s:=by
 have hit : s.heap.IsListIter it l k:=⟨_,h1,rfl,rfl⟩
 unfold pyNext
 refine wpAny_bind (wpAny_attempt (wpAny_callSpecial?_slot (name:=Str.ofString "__next__") hit.typeIs slot_listiter_next
  (wpAny_call_entry slot_listiter_next hit.typeIs entry_listiter_next ?_ (args_listiter_next _))))
 show wpAny _ _ (field (.ref it) 0 >>= _) _ _ s
 refine wpAny_bind (wpAny_field h1 rfl (x:=.ref l) rfl ?_)
 show wpAny _ _ (if (Value.ref l == Value.none) = true then _ else _) _ _ s
 rw [if_neg (show ¬ ((Value.ref l == Value.none) = true) from Bool.false_ne_true)]
 show wpAny _ _ (field (.ref it) 1 >>= _) _ _ s
 refine wpAny_bind (wpAny_field h1 rfl (x:=.int k 0) rfl ?_)
 show wpAny _ _ (seqItems? (.ref l) >>= _) _ _ s
 refine wpAny_bind (wpAny_seqItems h2 rfl ?_)
 simp only [Int.toNat_natCast,hx]
 refine wpAny_bind (wpAny_rule (wpAny_bind (wpAny_setField_rec h1 (by simp) fun h' e1 e2=>?_)))
 show wpAny _ _ (newExc (.type "StopIteration") [] >>= _) _ _ _
 refine wpAny_bind ?_
 simp only [newExc,newTuple]
 refine wpAny_bind (wpAny_newObj_type ?_ (by size_fits))
 refine wpAny_bind (m:=firstArgMember _ _) (wpAny_of_eq (a:=Value.none) (by first | rfl | (simp only [firstArgMember];rfl)) ?_)
 refine wpAny_newObj_type ?_ (by size_fits)
 simp only [raiseNew]
 refine wpAny_bind (wpAny_handled ?_)
 rw [show A.in1.handled = none from hh]
 refine wpAny_bind (wpAny_pure (wpAny_throw ?_))
 refine wpAny_bind (wpAny_isInstance (T:="StopIteration") (b:=true) ⟨_,Heap.get?_push_size _ rfl,rfl⟩ isSubtype_stop ?_)
 have hz1 : h'.objs.size = s.heap.objs.size:=e2.1
 refine wpAny_pure (hQ _ ?_ ?_ fun b v hb hv=>?_)
 ·exact Heap.get?_push_of_some _ (Heap.get?_push_of_some _ e1)
 ·show ((h'.push _).push _).objs.size = _
  rw [Heap.size_push,Heap.size_push,hz1]
 ·exact Heap.get?_push_of_some _ (Heap.get?_push_of_some _ ((e2.2 b hb).trans hv))
noncomputable def bump (l : List (String × Nat)) (x : String) : List (String × Nat):=match l.findIdx? fun p=>p.1 == x with
 | none=>l ++ [(x,1)]
 | some i=>l.modify i fun p=>(p.1,p.2 + 1)
noncomputable def counter (ls : List String) : List (String × Nat):=ls.foldl bump []
noncomputable abbrev ce (w : World) (x : String) (tk m tn : Nat) : DictEntry:=⟨hashStr w (q x),sv x tk,.int (m : Nat) tn⟩
inductive CsL (w : World) : List (String × Nat) → List DictEntry → Prop
 | nil : CsL w [] []
 | cons {x : String} {m : Nat} {l : List (String × Nat)} {es : List DictEntry} (tk tn : Nat) : CsL w l es → CsL w ((x,m) :: l) (ce w x tk m tn :: es)
noncomputable def Cs (w : World) (l : List (String × Nat)) (es : Array DictEntry) : Prop:=CsL w l es.toList
theorem CsL.len {w : World} {l : List (String × Nat)} {es : List DictEntry} (h : CsL w l es) : es.length = l.length:=by
 induction h with
 | nil=>rfl
 | cons _ _ _ ih=>simp [ih]
theorem CsL.all {w : World} {l : List (String × Nat)} {es : List DictEntry} (h : CsL w l es) : es.all (fun e=>isExactStrKey e.key) = true:=by
 induction h with
 | nil=>rfl
 | cons _ _ _ ih=>rw [List.all_cons,ih];rfl
theorem isStr_six : ∀ a ∈ six,∀ b ∈ six,(Value.str (q a) 0).isStr (q b) = (a == b):=by decide +kernel
theorem CsL.find {w : World} {l : List (String × Nat)} {es : List DictEntry} (h : CsL w l es) {x : String} (hx : x ∈ six) (h6 : ∀ p ∈ l,p.1 ∈ six) : es.findIdx? (fun e=>e.key.isStr (q x)) = l.findIdx? (fun p=>p.1 == x):=by
 induction h with
 | nil=>rfl
 | @cons y m l es tk tn _ ih=>
   rw [List.findIdx?_cons,List.findIdx?_cons,ih fun p hp=>h6 p (.tail _ hp)]
   have e : (ce w y tk m tn).key.isStr (q x) = (y == x):=isStr_six y (h6 _ (.head _)) x hx
   rw [e]
theorem CsL.get {w : World} {l : List (String × Nat)} {es : List DictEntry} (h : CsL w l es) : ∀ {i : Nat} {x : String} {m : Nat},l[i]? = some (x,m) → ∃ tk tn,es[i]? = some (ce w x tk m tn):=by
 induction h with
 | nil=>intro i x m h;simp at h
 | @cons y m' l es tk tn _ ih=>
   intro i x m h
   cases i with
   | zero=>simp at h;obtain ⟨rfl,rfl⟩:=h;exact ⟨tk,tn,rfl⟩
   | succ i=>exact ih (by simpa using h)
theorem CsL.snoc {w : World} {l : List (String × Nat)} {es : List DictEntry} (h : CsL w l es) (x : String) (m tk tn : Nat) : CsL w (l ++ [(x,m)]) (es ++ [ce w x tk m tn]):=by
 induction h with
 | nil=>exact .cons tk tn .nil
 | cons tk' tn' _ ih=>exact .cons tk' tn' ih
theorem CsL.modify {w : World} {l : List (String × Nat)} {es : List DictEntry} (h : CsL w l es) : ∀ {i : Nat} {x : String} {m : Nat},l[i]? = some (x,m) → ∀ t : Nat,CsL w (l.modify i fun p=>(p.1,p.2 + 1)) (es.modify i fun e=>{ e with val:=.int ((m + 1 : Nat) : Int) t }):=by
 induction h with
 | nil=>intro i x m h;simp at h
 | @cons y m' l es tk tn hl ih=>
   intro i x m h t
   cases i with
   | zero=>simp at h;obtain ⟨rfl,rfl⟩:=h;exact .cons tk t hl
   | succ i=>exact .cons tk tn (ih (by simpa using h) t)
theorem bump_six {l : List (String × Nat)} {x : String} (h : ∀ p ∈ l,p.1 ∈ six) (hx : x ∈ six) : ∀ p ∈ bump l x,p.1 ∈ six:=by
 intro p hp
 unfold bump at hp
 split at hp
 ·rcases List.mem_append.mp hp with hp | hp
  ·exact h p hp
  ·rcases List.mem_singleton.mp hp with rfl;exact hx
 ·rename_i i _
  obtain ⟨j,hj,rfl⟩:=List.mem_iff_getElem.mp hp
  rw [List.length_modify] at hj
  rw [List.getElem_modify]
  have hj6:=h _ (List.getElem_mem hj)
  split
  ·exact hj6
  ·exact hj6
theorem counter_snoc (ls : List String) (x : String) : counter (ls ++ [x]) = bump (counter ls) x:=by
 unfold counter;rw [List.foldl_append];rfl
theorem counter_six {ls : List String} (h : ∀ x ∈ ls,x ∈ six) : ∀ p ∈ counter ls,p.1 ∈ six:=by
 have key : ∀ (ls : List String) (l : List (String × Nat)),(∀ x ∈ ls,x ∈ six) → (∀ p ∈ l,p.1 ∈ six) → ∀ p ∈ ls.foldl bump l,p.1 ∈ six:=by
  intro ls
  induction ls with
  | nil=>intro l _ h;exact h
  | cons x ls ih=>intro l h1 h2;exact ih _ (fun y hy=>h1 y (.tail _ hy)) (bump_six h2 (h1 x (.head _)))
 exact key ls [] h fun p hp=>by cases hp
theorem bump_len (l : List (String × Nat)) (x : String) : (bump l x).length ≤ l.length + 1:=by
 unfold bump
 split
 ·simp
 ·simp
theorem counter_len : ∀ (ls : List String),(counter ls).length ≤ ls.length:=by
 have key : ∀ (ls : List String) (l : List (String × Nat)),(ls.foldl bump l).length ≤ l.length + ls.length:=by
  intro ls
  induction ls with
  | nil=>intro l;simp
  | cons x ls ih=>
    intro l
    have h1:=ih (bump l x)
    have h2:=bump_len l x
    simp only [List.foldl_cons,List.length_cons]
    omega
 intro ls
 have:=key ls []
 unfold counter
 simpa using this
noncomputable abbrev cntO (dd : Addr) (es : Array DictEntry) (ep : Nat) : Obj:=⟨.ref 311,some dd,.dict es ep,#[]⟩
theorem plain_count : plainId "_collections._count_elements.direct" = true:=by decide +kernel
theorem entry_count : entryFor table "_collections._count_elements.direct" = some Builtin.«_collections._count_elements.direct»:=entryFor_of_fast (by kernel_rfl)
theorem count_loop {w : World} {A : Around} {R : Result → Shared → Prop} (hh : A.handled = none) {d it l dd : Addr} {xs : Array Value} {ex : Nat} {ls : List String} (hw : Ws ls xs) (h6 : ∀ x ∈ ls,x ∈ six) (hsz : ls.length ≤ 60) (hd : (d == sysModules) = false) (n1 : it ≠ d) (n2 : l ≠ it) (n3 : l ≠ d) :
 ∀ (k i : Nat) (s : Shared) (es : Array DictEntry),ls.length - i = k → i ≤ ls.length → s.heap.get? it = some (iterO l i) → s.heap.get? l = some (listO xs ex) → s.heap.get? d = some (cntO dd es es.size) → Cs w (counter (ls.take i)) es →
   (∀ h' tk es',Cs w (counter ls) es' → h'.get? d = some (cntO dd es' es'.size) → h'.get? it = some (iterEnd ls.length) → h'.objs.size = s.heap.objs.size + 2 → (∀ b v,b ≠ it → b ≠ d → s.heap.get? b = some v → h'.get? b = some v) → R (.ok (.ret .none)) { s with heap:=h',toks:=tk }) →
   codeAny (model pw w) A (.builtin "_collections._count_elements.direct" ⟨[.ref d,.ref it],[]⟩) R s:=by
 have big : 1000 ≤ sizeLine:=by decide +kernel
 intro k
 induction k with
 | zero=>
   intro i s es hk hi g1 g2 g3 hc hR
   have hin : i = ls.length:=by omega
   subst hin
   refine codeAny_builtin entry_count ?_
   rw [Around.under_plainId plain_count _]
   show wpAny _ A.in1 (notTheModulesDict "_collections._count_elements" d >>= _) _ _ s
   unfold notTheModulesDict
   rw [hd]
   refine wpAny_bind (wpAny_pure ?_)
   show wpAny _ A.in1 (pyNext (.ref it) >>= _) _ _ s
   refine wpAny_bind (next_end hh g1 g2 (by rw [← hw.1];simp) fun h' e1 e2 e3=>?_)
   rw [List.take_length] at hc
   exact wpAny_pure (hR h' s.toks es hc (e3 d _ (Ne.symm n1) g3) e1 e2 fun b v hb _ hv=>e3 b v hb hv)
 | succ k ih=>
   intro i s es hk hi g1 g2 g3 hc hR
   have lt : i < ls.length:=by omega
   obtain ⟨tx,hx⟩:=hw.2 i ls[i] (List.getElem?_eq_getElem lt)
   have hx6 : ls[i] ∈ six:=h6 _ (List.getElem_mem lt)
   have hc6 : ∀ p ∈ counter (ls.take i),p.1 ∈ six:=counter_six fun x hx=>h6 x (List.mem_of_mem_take hx)
   have hcl : (counter (ls.take i)).length ≤ 60:=by
    have h1:=counter_len (ls.take i)
    have h2 : (ls.take i).length ≤ i:=by simp;omega
    omega
   have hesz : es.size ≤ 60:=by
    have:=CsL.len hc
    rw [Array.length_toList] at this
    omega
   have hnext : counter (ls.take (i + 1)) = bump (counter (ls.take i)) ls[i]:=by
    rw [take_succ lt,counter_snoc]
   refine codeAny_builtin entry_count ?_
   rw [Around.under_plainId plain_count _]
   show wpAny _ A.in1 (notTheModulesDict "_collections._count_elements" d >>= _) _ _ s
   unfold notTheModulesDict
   rw [hd]
   refine wpAny_bind (wpAny_pure ?_)
   show wpAny _ A.in1 (pyNext (.ref it) >>= _) _ _ s
   refine wpAny_bind (next_item g1 g2 hx fun h1 e1 e2=>?_)
   have g2' : h1.get? l = some (listO xs ex):=(e2.2 l n2).trans g2
   have g3' : h1.get? d = some (cntO dd es es.size):=(e2.2 d (Ne.symm n1)).trans g3
   have hall : (es.all fun e=>isExactStrKey e.key) = true:=by rw [← Array.all_toList];exact CsL.all hc
   have hfind : es.findIdx? (fun e=>e.key.isStr (q ls[i])) = (counter (ls.take i)).findIdx? (fun p=>p.1 == ls[i]):=by
    rw [← CsL.find hc hx6 hc6]
    have e : es = es.toList.toArray:=by simp
    rw [e,List.findIdx?_toArray]
   show wpAny _ A.in1 (holding [sv ls[i] tx] (pyHash (sv ls[i] tx) >>= _) >>= _) _ _ _
   refine wpAny_bind (wpAny_holding (wpAny_bind (wpAny_pyHash_str ?_)))
   refine wpAny_bind (KTD.kt_dictFind_strs (o:=cntO dd es es.size) g3' rfl hall ?_)
   rw [hfind]
   cases hf : (counter (ls.take i)).findIdx? (fun p=>p.1 == ls[i]) with
   | none=>
     have hb : bump (counter (ls.take i)) ls[i] = counter (ls.take i) ++ [(ls[i],1)]:=by unfold bump;rw [hf]
     dsimp only
     refine wpAny_bind (wpAny_mkInt (wpAny_holding ?_))
     unfold dictSetHashed
     refine wpAny_holding (wpAny_bind (KTD.kt_dictFind_strs (o:=cntO dd es es.size) g3' rfl hall ?_))
     rw [hfind,hf]
     refine wpAny_bind (wpAny_rule (wpAny_updateDictKeys (o:=cntO dd es es.size) g3' rfl ?_ (by omega)))
     refine wpAny_pure ⟨plainId_quiet plain_count _,ih (i + 1) _ (es.push (ce w ls[i] tx 1 (s.toks + 1))) (by omega) lt ?_ ?_ ?_ ?_ fun h' tk es' q1 q2 q3 q4 q5=>?_⟩
     ·exact (Heap.get?_update_other _ _ (Ne.symm n1)).trans e1
     ·exact (Heap.get?_update_other _ _ (Ne.symm n3)).trans g2'
     ·rw [Array.size_push];exact Heap.get?_update_self _ g3' rfl
     ·rw [hnext,hb]
      show CsL w _ (es.push _).toList
      rw [Array.toList_push]
      exact CsL.snoc hc _ _ _ _
     ·refine hR h' tk es' q1 q2 q3 (q4.trans ?_) fun b v hb1 hb2 hv=>q5 b v hb1 hb2 ?_
      ·show (h1.update d _).objs.size + 2 = _
       rw [Heap.size_update,e2.1]
      ·exact (Heap.get?_update_other _ _ (Ne.symm hb2)).trans ((e2.2 b hb1).trans hv)
   | some j=>
     obtain ⟨hj,ej,_⟩:=List.findIdx?_eq_some_iff_getElem.mp hf
     obtain ⟨⟨x',m⟩,hp⟩ : ∃ p,(counter (ls.take i))[j] = p:=⟨_,rfl⟩
     have hp? : (counter (ls.take i))[j]? = some (x',m):=by rw [List.getElem?_eq_getElem hj,hp]
     obtain ⟨tk,tn,he⟩:=CsL.get hc hp?
     have he' : es[j]? = some (ce w x' tk m tn):=by rw [← Array.getElem?_toList];exact he
     have hb : bump (counter (ls.take i)) ls[i] = (counter (ls.take i)).modify j fun p=>(p.1,p.2 + 1):=by unfold bump;rw [hf]
     dsimp only
     refine wpAny_bind (wpAny_dictEntries (o:=cntO dd es es.size) g3' rfl ?_)
     rw [he']
     dsimp only
     refine wpAny_bind (wpAny_holding (wpAny_bind (wpAny_mkInt (wpAny_add_int (wpAny_holding ?_)))))
     unfold dictSetHashed
     refine wpAny_holding (wpAny_bind (KTD.kt_dictFind_strs (o:=cntO dd es es.size) g3' rfl hall ?_))
     rw [hfind,hf]
     dsimp only
     refine wpAny_bind (wpAny_rule (wpAny_bind (wpAny_updateDict (o:=cntO dd es es.size) g3' rfl (wpAny_point ?_) (by simp))))
     refine wpAny_pure ⟨plainId_quiet plain_count _,ih (i + 1) _ (es.modify j fun e=>{ e with val:=.int (((m : Nat) : Int) + 1) (s.toks + 2) }) (by omega) lt ?_ ?_ ?_ ?_ fun h' tk es' q1 q2 q3 q4 q5=>?_⟩
     ·exact (Heap.get?_update_other _ _ (Ne.symm n1)).trans e1
     ·exact (Heap.get?_update_other _ _ (Ne.symm n3)).trans g2'
     ·rw [Array.size_modify];exact Heap.get?_update_self _ g3' rfl
     ·rw [hnext,hb]
      show CsL w _ (es.modify _ _).toList
      rw [Array.toList_modify]
      exact CsL.modify hc hp? _
     ·refine hR h' tk es' q1 q2 q3 (q4.trans ?_) fun b v hb1 hb2 hv=>q5 b v hb1 hb2 ?_
      ·show (h1.update d _).objs.size + 2 = _
       rw [Heap.size_update,e2.1]
      ·exact (Heap.get?_update_other _ _ (Ne.symm hb2)).trans ((e2.2 b hb1).trans hv)
noncomputable def esN (w : World) (k : Nat) (c : Nat → String × Nat) (a : Nat → Nat) : Array DictEntry:=((List.range k).map fun i=>ce w (c i).1 (a (2 * i)) (c i).2 (a (2 * i + 1))).toArray
theorem CsL.isN {w : World} {l : List (String × Nat)} {es : List DictEntry} (h : CsL w l es) : ∃ a : Nat → Nat,es = (List.range l.length).map fun i=>ce w (l.getD i ("",0)).1 (a (2 * i)) (l.getD i ("",0)).2 (a (2 * i + 1)):=by
 induction h with
 | nil=>exact ⟨fun _=>0,rfl⟩
 | @cons x m l es tk tn _ ih=>
   obtain ⟨a,e⟩:=ih
   refine ⟨fun j=>match j with | 0=>tk | 1=>tn | j + 2=>a j,?_⟩
   rw [List.length_cons,List.range_succ_eq_map,List.map_cons,List.map_map,e]
   rfl
theorem Cs.isN {w : World} {l : List (String × Nat)} {es : Array DictEntry} (h : Cs w l es) : ∃ a : Nat → Nat,es = esN w l.length (fun i=>l.getD i ("",0)) a:=by
 obtain ⟨a,e⟩:=CsL.isN h
 refine ⟨a,?_⟩
 unfold esN
 rw [← e]
noncomputable def cntFin (w : World) (l dd : Addr) (xs : Array Value) (ex k : Nat) (c : Nat → String × Nat) (N : Nat) (u : Sup) : List Obj:=[cntO dd (esN w k c u.a) k,iterEnd N,listO xs ex]
noncomputable def dirD (w : World) (nd ni nl : Nat) (d it l dd : Addr) (xs : Array Value) (ex k : Nat) (c : Nat → String × Nat) (N : Nat) : OrcD:=
 fnD (fun _=>.builtin "_collections._count_elements.direct" ⟨[.ref d,.ref it],[]⟩) (fun _=>[(nd,d,cntO dd #[] 0),(ni,it,iterO l 0),(nl,l,listO xs ex)]) (fun _=>cntFin w l dd xs ex k c N) (fun _ _=>.ok (.ret .none)) (fun _ _=>[]) (fun _ _=>True)
theorem dirD_ok {w : World} {D U : Nat} {π : Nat → Sup} {nd ni nl : Nat} {d it l dd : Addr} {xs : Array Value} {ex k : Nat} {ls : List String} (hw : Ws ls xs) (h6 : ∀ x ∈ ls,x ∈ six) (hsz : ls.length ≤ 60) (hk : (counter ls).length = k) (hn : [nd,ni,nl].Nodup) :
 OrcAny w D U π (dirD w nd ni nl d it l dd xs ex k (fun i=>(counter ls).getD i ("",0)) ls.length):=by
 refine ⟨rfl,fun Γ p s hc F _ ho hz hA=>?_⟩
 have hA : At w.params [(nd,d,cntO dd #[] 0),(ni,it,iterO l 0),(nl,l,listO xs ex)] s:=hA
 have g1:=hA.get _ (.tail _ (.head _))
 have g2:=hA.get _ (.tail _ (.tail _ (.head _)))
 have g3:=hA.get _ (.head _)
 simp only [List.nodup_cons,List.mem_cons,List.not_mem_nil,or_false,not_or] at hn
 have n1 : it ≠ d:=fun e=>hn.1.1 (hA.inj _ (.head _) _ (.tail _ (.head _)) e.symm)
 have n2 : l ≠ it:=fun e=>hn.2.1 (hA.inj _ (.tail _ (.head _)) _ (.tail _ (.tail _ (.head _))) e.symm)
 have n3 : l ≠ d:=fun e=>hn.1.2 (hA.inj _ (.head _) _ (.tail _ (.tail _ (.head _))) e.symm)
 have hd : (d == sysModules) = false:=by
  have z:=hA.sep _ (.head _)
  have : (oldGet w.params sysModules).isSome = true:=by kernel_rfl
  cases e : (d == sysModules) with
  | false=>rfl
  | true=>
    have : d = sysModules:=eq_of_beq e
    subst this
    have z' : oldGet w.params sysModules = none:=z
    rw [z'] at this
    cases this
 refine count_loop (w:=w) (A:={ depth:=D + 75,units:=U + 300 }) rfl hw h6 hsz hd n1 n2 n3 _ 0 s #[] rfl (Nat.zero_le _) g1 g2 g3 (by rw [List.take_zero];exact .nil) (fun h' tk es' hcs q1 q2 q3 q4=>?_) Γ p hc ⟨F.handled,F.depth,(fun l hl=>nomatch hl),(fun g hg=>nomatch hg),F.units⟩
 obtain ⟨a,ea⟩:=hcs.isN
 have hes : es'.size = k:=by
  rw [← hk,← CsL.len hcs];simp
 rw [hk] at ea
 rw [hes,ea] at q1
 have hupd : ∀ u : Sup,((dirD w nd ni nl d it l dd xs ex k (fun i=>(counter ls).getD i ("",0)) ls.length).at π u).upd = [(nd,d,cntO dd (esN w k (fun i=>(counter ls).getD i ("",0)) u.a) k),(ni,it,iterEnd ls.length),(nl,l,listO xs ex)]:=fun u=>rfl
 refine ⟨⟨h'.objs.size,tk,a,fun _=>.none,fun _=>#[],fun _=>#[],fun _=>#[]⟩,rfl,⟨rfl,rfl,rfl,by show _ ≤ h'.objs.size;omega,fun b v hb hne=>?_,fun y hy=>?_,(fun y hy=>nomatch hy),List.nodup_nil,⟨rfl,rfl⟩⟩,trivial⟩
 ·rw [hupd] at hne
  exact q4 b v (hne _ (.tail _ (.head _))) (hne _ (.head _)) hb
 ·rw [hupd] at hy
  rcases List.mem_cons.mp hy with rfl | hy
  ·exact q1
  ·rcases List.mem_cons.mp hy with rfl | hy
   ·exact q2
   ·rcases List.mem_singleton.mp hy with rfl
    exact q4 _ _ n2 n3 g2
noncomputable def lCnt : List St:=[G 3 0x155,cm,G 16 0x1000400040455]
theorem runsCnt (P : Params) (B : List (Code × Pos)) (n t : Nat) (σ : Nat → Sup) (p : Pos) (d it l dd : Addr) (xs : Array Value) (ex : Nat) : Runs [
 (runC P B lCnt [(d,cntO dd #[] 0),(it,iterO l 0),(l,listO xs ex)] n t (osAt σ 0 []) (.call (.builtin "_collections._count_elements") ⟨[.ref d,.ref it],[]⟩) p,[0,1,2],
  (.pure (.again (.builtin "_collections._count_elements.direct" ⟨[.ref d,.ref it],[]⟩)),[],[some (d,cntO dd #[] 0),some (it,iterO l 0),some (l,listO xs ex)],n,t))]:=by unfold Runs;kernel_rfl
noncomputable def cntD (w : World) (nd ni nl : Nat) (d it l dd : Addr) (xs : Array Value) (ex k : Nat) (c : Nat → String × Nat) (N : Nat) : OrcD:=
 fnD (fun _=>.call (.builtin "_collections._count_elements") ⟨[.ref d,.ref it],[]⟩) (fun _=>[(nd,d,cntO dd #[] 0),(ni,it,iterO l 0),(nl,l,listO xs ex)]) (fun _=>cntFin w l dd xs ex k c N) (fun _ _=>.ok (.ret .none)) (fun _ _=>[]) (fun _ _=>True)
theorem cntD_ok {w : World} {D U : Nat} {π : Nat → Sup} (hD : D ≤ 765) (hU : U ≤ 8700) {nd ni nl : Nat} {d it l dd : Addr} {xs : Array Value} {ex k : Nat} {ls : List String} (hw : Ws ls xs) (h6 : ∀ x ∈ ls,x ∈ six) (hsz : ls.length ≤ 60) (hk : (counter ls).length = k) (hn : [nd,ni,nl].Nodup) :
 OrcAt w D U π (cntD w nd ni nl d it l dd xs ex k (fun i=>(counter ls).getD i ("",0)) ls.length):=by
 refine (seqF_any (fs:=none) (need:=[(nd,d,cntO dd #[] 0),(ni,it,iterO l 0),(nl,l,listO xs ex)]) (by omega) (by omega) rfl hn (by simp) (fun u=>rfl) fun B n t p hN=>?_).at
 exact ⟨[],lCnt,fun _=>[cntO dd #[] 0,iterO l 0,listO xs ex],.builtin "_collections._count_elements.direct" ⟨[.ref d,.ref it],[]⟩,fun _=>n,fun _=>t,none_ok,plainId_quiet plain_count _,fun σ=>⟨rfl,(runsCnt w.params B n t σ p d it l dd xs ex).get (.head _)⟩,fun σ _=>dirD_ok hw h6 hsz hk hn⟩
noncomputable def xE : Stmt → PySem.Expr
 | .Expr e _=>e
 | _=>default
noncomputable def xP : Stmt → Pos
 | .Expr _ p=>p
 | _=>default
noncomputable def cF : PySem.Expr → PySem.Expr
 | .Call f _ _ _=>f
 | .Attribute o _ _=>o
 | _=>default
noncomputable def cP : PySem.Expr → Pos
 | .Call _ _ _ p=>p
 | .Attribute _ _ p=>p
 | .Name _ p=>p
 | _=>default
noncomputable def initB : List Stmt:=fB (dig [11,0] pw.main.body)
noncomputable def iS1 : Stmt:=nth initB 0
noncomputable def iS2 : Stmt:=nth initB 1
noncomputable def iP0 : Pos:=cP (cF (cF (cF (xE iS1))))
noncomputable def iP1 : Pos:=cP (cF (cF (xE iS1)))
noncomputable def iP2 : Pos:=cP (cF (xE iS1))
noncomputable def iP3 : Pos:=cP (xE iS1)
noncomputable def iP4 : Pos:=xP iS1
noncomputable def iE1 : PySem.Expr:=.Call (.Attribute (.Call (.Name (q "super") iP0) [] [] iP1) (q "__init__") iP2) [] [] iP3
theorem initB_is : initB = [.Expr iE1 iP4,iS2]:=by kernel_rfl
noncomputable def supT (env : Env) : Sem Value:=do
 rule "super.\x61ttribute-form"
 standAt iP1
 let g ← loadName env (q "super")
 let cls ← loadName env (q "__class__")
 let self ← loadName env (q "self")
 let aType ← isType cls
 if g == .type "super" && aType then call g [cls,self] else holding [cls,self] (call g [])
theorem iE1_is (env : Env) : ∃ (o : PySem.Expr) (pl : Sem Bool),o = .Call (.Name (q "super") iP0) [] [] iP1 ∧ PySem.eval iE1 env = (do
 let ov ← attributeBase o (q "__init__") env (PySem.eval o env)
 standAt iP2.atName
 let (f,first) ← holding [ov] (getMethod ov (q "__init__") pl)
 callWith iP3 f first (backTo iP3 (starEach [] env)) []):=⟨_,_,rfl,rfl⟩
noncomputable def envC (L : Addr) : Env:=⟨⟨.function,[(q "self",.local),(q "iterable",.local),(q "kwds",.local),(q "__class__",.free),(q "super",.globalImplicit)],false,false,[]⟩,L,3,[(q "__class__",96)],q "Counter.__init__.<locals>.",(some 109),r 108,(some L),0⟩
noncomputable def parOf : Data → Option Str
 | .func fd=>(fd.params.posonlyargs ++ fd.params.args).head?.map (·.arg)
 | _=>none
theorem parOf_is {d : Data} {a : Str} (h : parOf d = some a) : ∃ fd ar,d = .func fd ∧ (fd.params.posonlyargs ++ fd.params.args).head? = some ar ∧ ar.arg = a:=by
 unfold parOf at h
 split at h
 ·rename_i fd
  obtain ⟨ar,e1,e2⟩:=Option.map_eq_some_iff.mp h
  exact ⟨fd,ar,rfl,e1,e2⟩
 ·cases h
noncomputable def strOf : Value → Option Str
 | .str f _=>some f
 | _=>none
noncomputable def fileOf : Data → Option Str
 | .fields vs=>(vs[2]?).bind strOf
 | _=>none
theorem fileOf_is {d : Data} {f : Str} (h : fileOf d = some f) : ∃ vs t,d = .fields vs ∧ vs[2]? = some (.str f t):=by
 unfold fileOf at h
 split at h
 ·rename_i vs
  obtain ⟨v,e1,e2⟩:=Option.bind_eq_some_iff.mp h
  unfold strOf at e2
  split at e2
  ·cases e2;exact ⟨vs,_,rfl,e1⟩
  ·cases e2
 ·cases h
theorem old109 (P : Params) : (oldGet P 109).bind (fun o=>parOf o.data) = some (q "self"):=by kernel_rfl
theorem old108 (P : Params) : (oldGet P 108).bind (fun o=>fileOf o.data) = some pw.main.file:=by kernel_rfl
theorem noSuper : (pw.main.scope.names.lookup (Str.ofString "super")).isSome = false:=by kernel_rfl
theorem around_wp {M : Model} {Γ : Ctx} {α : Type} {body : List Stmt} {env : Env} {K : List Env → Sem α} {s : Shared} {p : Pos} {Q : α → Pos → Shared → Prop} {E : Value → Pos → Shared → Prop} (hΓ : Γ.code = .func body env) (h : PySem.Sem.wp M Γ (K []) Q E p s) :
 PySem.Sem.wp M Γ (comprehensionsAround >>= K) Q E p s:=by
 unfold comprehensionsAround callersCodes
 rw [PySem.Sem.wp_bind',PySem.Sem.wp_bind',PySem.Sem.wp_bind']
 show PySem.Sem.wp M Γ (if ((((Γ.code,p) :: Γ.below).map (·.1)).findSome? (·.env?)).map (·.frame) != (((pastTheWaiting ((Γ.code,p) :: Γ.below)).map (·.1)).findSome? (·.env?)).map (·.frame) then _ else _) _ _ p s
 rw [hΓ]
 have e : pastTheWaiting ((.func body env,p) :: Γ.below) = (.func body env,p) :: pastTheWaiting.go false (some (.func body env)) Γ.below:=rfl
 rw [e]
 split
 ·rename_i hc
  exact absurd (show (some env.frame != some env.frame) = true from hc) (by simp)
 ·exact h
theorem super_wp {w : World} {Γ : Ctx} {L : Addr} {s : Shared} {p : Pos} {whole : Sem Value} {Q : Value → Pos → Shared → Prop} {E : Value → Pos → Shared → Prop} (hΓ : Γ.code = .func initB (envC L)) (ho : Old w.params s.heap)
 (h : PySem.Sem.wp (md w) Γ (supT (envC L)) Q E p s) : PySem.Sem.wp (md w) Γ (attributeBase (.Call (.Name (q "super") iP0) [] [] iP1) (q "__init__") (envC L) whole) Q E p s:=by
 have hks : (envC L).kindOf "super" = some .globalImplicit:=by kernel_rfl
 have hkc : (envC L).kindOf "__class__" = some .free:=by kernel_rfl
 have hat : (q "__init__" == ("__class__" : Str)) = false:=by decide +kernel
 have hat2 : (q "super" != ("super" : Str)) = false:=by decide +kernel
 have hfu : (envC L).func = some 109:=rfl
 have hco : (envC L).code = .ref 108:=rfl
 unfold attributeBase
 simp only [bne_self_eq_false,hat,hat2,hks,hkc,hfu,hco,Bool.or_self,Bool.false_eq_true,if_false,Option.isSome_some,if_true,pure_bind]
 obtain ⟨o,e1,e2⟩:=Option.bind_eq_some_iff.mp (old109 w.params)
 obtain ⟨o2,e3,e4⟩:=Option.bind_eq_some_iff.mp (old108 w.params)
 obtain ⟨fd,ar,hfd,hhd,har⟩:=parOf_is e2
 obtain ⟨vs,tf,hvs,hfile⟩:=fileOf_is e4
 unfold funcData
 rw [PySem.Sem.wp_bind',PySem.Sem.wp_bind']
 refine ⟨o,ho _ _ e1,?_⟩
 show PySem.Sem.wp (md w) Γ (match o.data with | .func f=>pure f | _=>unsupported "internal:not-a-function") _ E p s
 rw [hfd]
 dsimp only
 rw [PySem.Sem.wp_pure',hhd]
 dsimp only
 rw [har,PySem.Sem.wp_bind',PySem.Sem.wp_cmd_ask]
 unfold field fieldsOf
 rw [PySem.Sem.wp_bind',PySem.Sem.wp_bind',PySem.Sem.wp_bind',PySem.Sem.wp_cmd_load]
 refine ⟨o2,ho _ _ e3,?_⟩
 rw [hvs]
 dsimp only
 rw [PySem.Sem.wp_pure',hfile]
 dsimp only
 rw [PySem.Sem.wp_pure']
 dsimp only
 rw [if_pos (show ((md w).prog.main.file == pw.main.file) = true from by show (pw.main.file == pw.main.file) = true;simp)]
 dsimp only
 rw [show (List.lookup (Str.ofString "super") (md w).prog.main.scope.names).isSome = false from noSuper,if_neg (by simp)]
 unfold supT at h
 simp only [PySem.Sem.wp_bind'] at h ⊢
 refine PySem.Sem.wp_mono _ _ _ (fun _ _ _ h=>?_) (fun _ _ _ h=>h) _ _ h
 refine PySem.Sem.wp_mono _ _ _ (fun _ _ _ h=>?_) (fun _ _ _ h=>h) _ _ h
 refine PySem.Sem.wp_mono _ _ _ (fun g _ _ h=>?_) (fun _ _ _ h=>h) _ _ h
 refine PySem.Sem.wp_mono _ _ _ (fun cls p2 s2 h=>?_) (fun _ _ _ h=>h) _ _ h
 have z:=around_wp (M:=md w) (Γ:=Γ) (K:=fun l=>loadName ((envC L).holderOf l (q "self")) (q "self")) (Q:=fun a p' s'=>PySem.Sem.wp (md w) Γ (isType cls) (fun aType p'' s''=>PySem.Sem.wp (md w) Γ (if (g == .type "super" && aType) = true then call g [cls,a] else holding [cls,a] (call g [])) Q E p'' s'') E p' s') (E:=E) (p:=p2) (s:=s2) hΓ h
 rw [PySem.Sem.wp_bind'] at z
 exact z
noncomputable def initH (env : Env) (X : Sem Value) : Sem Fin:=do
 point
 match ← ((do
  match ← ((do
   standAt iP4
   let v ← ((do
    let ov ← X
    standAt iP2.atName
    let (f,first) ← holding [ov] (getMethod ov (q "__init__") (do return (← importBound (.Call (.Name (q "super") iP0) [] [] iP1) env).getD true))
    callWith iP3 f first (backTo iP3 (starEach [] env)) []) : Sem Value)
   dropValue iE1 iP4 v) : Sem Flow) with
  | .next=>execs [iS2] env
  | f=>pure f) : Sem Flow).onRaise (leaving env) with
 | .ret v=>ret v
 | _=>ret .none
theorem initH_is (L : Addr) : denote table (.func initB (envC L)) = initH (envC L) (attributeBase (.Call (.Name (q "super") iP0) [] [] iP1) (q "__init__") (envC L) (PySem.eval (.Call (.Name (q "super") iP0) [] [] iP1) (envC L))):=by
 rw [initB_is]
 show (do point;match ← (execs [.Expr iE1 iP4,iS2] (envC L)).onRaise (leaving (envC L)) with | .ret v=>ret v | _=>ret .none) = _
 rw [execs_cons,exec_Expr _ iE1 iP4 (by kernel_rfl) (by kernel_rfl)]
 rfl
theorem initH_wp {M : Model} {Γ : Ctx} {env : Env} {X Y : Sem Value} {s : Shared} (h : ∀ (Q : Value → Pos → Shared → Prop) (E : Value → Pos → Shared → Prop) (p : Pos),PySem.Sem.wp M Γ X Q E p s → PySem.Sem.wp M Γ Y Q E p s)
 {Q : Fin → Pos → Shared → Prop} {E : Value → Pos → Shared → Prop} {p : Pos} (hx : PySem.Sem.wp M Γ (initH env X) Q E p s) : PySem.Sem.wp M Γ (initH env Y) Q E p s:=by
 unfold initH at hx ⊢
 simp only [PySem.Sem.wp_bind',PySem.Sem.wp_onRaise,PySem.Sem.wp_cmd_standAt,PySem.Sem.wp_cmd_point] at hx ⊢
 exact h _ _ _ hx
noncomputable def initT (env : Env) : { t : Sem Fin // initH env (supT env) = t }:=by
 refine ⟨?t,?h⟩
 case h=>
  unfold initH supT
  simp only [bind_R,PySem.W.R.onRaiseR_eq]
  rw [PySem.W.Fast.te8468629109055619292,PySem.W.Fast.te10380811246957099773,PySem.W.Fast.te11478286150595567475,PySem.W.Fast.te17359229931016689406,PySem.W.Fast.te6042679816869820781,PySem.W.Fast.te8289420714989923916,PySem.W.Fast.te12372662630863984472,PySem.W.Fast.te12563942051412417395,PySem.W.Fast.te9442747609961115081,PySem.W.Fast.te4897270859577272712,PySem.W.Fast.te13897175071876407860,PySem.W.Fast.te10963107736168562426,PySem.W.Fast.te6905046200447255374]
end
section
open PySem.Builtin PySem.Builtin.Str
open PySem.Sem (wp finPost)
noncomputable def num : Nat → List (Nat × Obj) → List (Nat × Nat × Obj)
 | _,[]=>[]
 | k,x :: l=>(k,x.1,x.2) :: num (k + 1) l
theorem seenAt_num : ∀ (l : List (Nat × Obj)) (k : Nat),seenAt (List.range' k l.length) (l.map some) = num k l
 | [],_=>rfl
 | x :: l,k=>by
   show (k,x.1,x.2) :: seenAt (List.range' (k + 1) l.length) (l.map some) = _
   rw [seenAt_num l (k + 1)];rfl
theorem num_obj : ∀ (l : List (Nat × Obj)) (k : Nat),(num k l).map (·.2) = l
 | [],_=>rfl
 | x :: l,k=>by show (x.1,x.2) :: (num (k + 1) l).map (·.2) = _;rw [num_obj l (k + 1)]
theorem num_nums : ∀ (l : List (Nat × Obj)) (k : Nat),(num k l).map (·.1) = List.range' k l.length
 | [],_=>rfl
 | x :: l,k=>by show k :: (num (k + 1) l).map (·.1) = _;rw [num_nums l (k + 1)];rfl
theorem num_len (l : List (Nat × Obj)) (k : Nat) : (num k l).length = l.length:=by
 have:=congrArg List.length (num_obj l k)
 simpa using this
theorem two_any {fs : Option Fs} {w : World} {D U : Nat} {π : Nat → Sup} {c : Code} {need : List (Nat × Nat × Obj)} {fin : Sup → List Obj} {r : Sup → Result} {F : Sup → Prop}
 (hD : D + 75 ≤ 840) (hU : U + 300 ≤ 9000) (hc : c.isCaller = false) (hnum : (need.map (·.1)).Nodup) (hlen : need.length < 4000)
 (h : ∀ (B : List (Code × Pos)) (n t : Nat) (p : Pos),1106 ≤ n → (∀ l,fs = some l → l.holds B) → X7 fun (l1 : List St) (need2 : List (Nat × Obj)) (extra : List Nat) (c2 : Code) (t2 : Sem Fin) (n1 k1 : Nat)=>
  Ends (runF w.params B fs l1 (need.map (·.2)) n t [] c p) (List.range need2.length) (.pure (.again c2),[],need2.map some,n1,k1) ∧ c2.quiet = true ∧ c2.isCaller = false ∧ need2.length < 4096 ∧ need2.map (·.1) = need.map (·.2.1) ++ extra ∧ (∀ a ∈ extra,n ≤ a) ∧
  (∀ (Γ : Ctx) (p : Pos) (s : Shared) (Q : Fin → Pos → Shared → Prop) (E : Value → Pos → Shared → Prop),Γ.code = c2 → Old w.params s.heap → At w.params (num 0 need2) s → wp (md w) Γ t2 Q E p s → wp (md w) Γ (denote table c2) Q E p s) ∧
  ∀ p2,X3 fun (ds : List OrcD) (l : List St) (V : (Nat → Sup) → Sup)=>(∀ j d,ds[j]? = some d → OrcOK w (D + 75) (U + 300) ds j d) ∧
    (∀ σ,(fin (V σ)).length = need.length ∧ Ends (runT w.params B fs l need2 n1 k1 (osAt σ 0 ds) c2 p2 t2) (List.range need.length) (endT (r (V σ)),[],obsOf need (fin (V σ)) [],(V σ).n,(V σ).t)) ∧
    ∀ σ,(∀ (i : Nat) (d : OrcD),ds[i]? = some d → d.F (tr i σ) (σ i)) → F (V σ)) :
 OrcAny w D U π (fnF fs (fun _=>c) (fun _=>need) (fun _=>fin) (fun _=>r) (fun _ _=>[]) (fun _=>F)):=by
 refine ⟨rfl,?_⟩
 intro Γ p s hcode Fi hfs ho hz hA
 have hA : At w.params need s:=hA
 obtain ⟨l1,need2,extra,c2,t2,n1,k1,hr1,hq,hc2,hlen2,hadr,hex,ht2,h2⟩:=h Γ.below s.heap.objs.size s.toks p hz hfs
 refine run_go (n1:=fun _=>n1) (k1:=fun _=>k1) (t1:=fun _=>.pure (.again c2)) (obs:=fun _=>need2.map some) (vs:=List.range need2.length) (ds:=[]) Fi hD hU none_ok hcode hfs (fun σ=>hr1) ho (by omega) hA hnum hc ?_
 intro σ0 s1 _ e1 e2 K O hA1 hfr
 rw [List.range_eq_range',seenAt_num] at hA1
 refine TailOK.again hq fun p2=>?_
 obtain ⟨ds,l,V,hds,hrun,hF⟩:=h2 p2
 have y : Mn w Γ (fun r' s'=>∃ u,r' = r u ∧ OrcPost ((fnF fs (fun _=>c) (fun _=>need) (fun _=>fin) (fun _=>r) (fun _ _=>[]) (fun _=>F)).at π u) s s' ∧ F u) [] c2 p2 t2 s1:=by
  refine tree_go (D:=D + 75) (U:=U + 300) (l:=l) (need:=num 0 need2) (n1:=fun σ=>(V σ).n) (k1:=fun σ=>(V σ).t) (t1:=fun σ=>endT (r (V σ))) (obs:=fun σ=>obsOf need (fin (V σ)) []) (vs:=List.range need.length) Fi hD hU hds hfs (fun σ=>?_) O (by rw [num_len];exact hlen2) hA1 (by rw [num_nums];exact List.nodup_range') hc2 ?_
  ·rw [num_obj,e1,e2];exact (hrun σ).2
  ·intro σ s2 hf f1 f2 K2 O2 hA2 _
   refine TailOK.end ⟨V σ,rfl,?_,hF σ hf⟩
   have hup : At w.params (updOf need (fin (V σ))) s2:=At.upd hA hnum (hrun σ).1 (by rw [List.append_nil];exact hA2)
   have eadr : (num 0 need2).map (·.2.1) = need.map (·.2.1) ++ extra:=by
    rw [← hadr,← num_obj need2 0,List.map_map,num_obj]
    rfl
   refine ⟨K2.gens.trans K.gens,K2.drawn.trans K.drawn,K2.os.trans K.os,Nat.le_trans K.size K2.size,fun b v hb hn=>?_,fun x hx=>hup.get x hx,(fun _ h=>nomatch h),List.nodup_nil,⟨f1,f2⟩⟩
   have hn' : ∀ x ∈ updOf need (fin (V σ)),b ≠ x.2.1:=hn
   have hb1 : b ∉ need.map (·.2.1):=fun hm=>by
    rw [← updOf_adr (hrun σ).1] at hm
    obtain ⟨x,hx,rfl⟩:=List.mem_map.mp hm
    exact hn' x hx rfl
   refine K2.keep b v (K.keep b v hb hb1) fun hm=>?_
   rw [eadr] at hm
   rcases List.mem_append.mp hm with hm | hm
   ·exact hb1 hm
   ·exact absurd (Heap.lt_size hb) (Nat.not_lt.mpr (hex b hm))
 rw [wpCode_iff_wp]
 rw [Mn_is] at y
 refine ht2 (Γ.goto c2) p2 s1 _ _ rfl O hA1 ?_
 exact y
end
section
open PySem.Builtin PySem.Builtin.Str
noncomputable def envI (L : Addr) : Env:=⟨⟨.function,[(q "x",.local),(q "isinstance",.globalImplicit),(q "dict",.globalImplicit),(q "AttributeError",.globalImplicit),(q "_wall",.globalImplicit)],false,false,[]⟩,L,3,[],q "_is_mapping.<locals>.",(some 92),r 91,(some L),0⟩
noncomputable def envU (L : Addr) : Env:=⟨⟨.function,[(q "self",.local),(q "iterable",.local),(q "kwds",.local),(q "self_get",.local),(q "elem",.local),(q "count",.local),(q "__class__",.free),(q "_is_mapping",.globalImplicit),(q "super",.globalImplicit),(q "_count_elements",.globalImplicit)],false,false,[]⟩,L,3,[(q "__class__",96)],q "Counter.update.<locals>.",(some 154),r 153,(some L),0⟩
noncomputable abbrev attrE (n t : Nat) (it : Addr) (head : Value) : Obj:=⟨.type "AttributeError",none,.fields #[.ref (n + 9),head,.none,.none,.bool false,.none,sv "keys" (t + 12),.ref it],#[]⟩
structure FrM where
 L : Addr
 es : Array DictEntry
 ep : Nat
 sl : Array (Option Value)
noncomputable abbrev FrM.o (f : FrM) : Obj:=frO f.es f.ep f.sl
noncomputable abbrev frL (P : Params) (n t : Nat) (cn it : Addr) : Obj:=frO #[E P "self" t (.ref cn),E P "iterable" (t + 1) (.ref it),E P "kwds" (t + 2) (.ref n)] 3 #[]
noncomputable def eL (z : Bool) (eM eR eW : Env) : List Env:=match z with
 | true=>[eM,eR,eW]
 | false=>[eM,eR]
noncomputable def sh (z : Bool) (i : Nat) : Nat:=match z with
 | true=>i
 | false=>i - 1
noncomputable def oL {α : Type} (z : Bool) (x : α) : List α:=match z with
 | true=>[x]
 | false=>[]
noncomputable def shL (z : Bool) (l : List Nat) : List Nat:=l.map fun a=>match Nat.blt 9 a with
 | true=>sh z a
 | false=>a
noncomputable def frC (z : Bool) (P : Params) (n t : Nat) (cn it : Addr) (f g h : FrM) : List FrI:=
 [⟨sh z 15,n + 8,#[E P "x" (t + 8) (.ref it)],1,#[]⟩,⟨sh z 14,n + 7,#[E P "self" (t + 5) (.ref cn),E P "iterable" (t + 6) (.ref it),E P "kwds" (t + 7) (.ref (n + 6))],3,#[]⟩,⟨sh z 8,n + 1,#[E P "self" t (.ref cn),E P "iterable" (t + 1) (.ref it),E P "kwds" (t + 2) (.ref n)],3,#[]⟩,
  ⟨3,f.L,f.es,f.ep,f.sl⟩,⟨4,g.L,g.es,g.ep,g.sl⟩] ++ oL z ⟨5,h.L,h.es,h.ep,h.sl⟩
noncomputable def isB : List Stmt:=fB (dig [10] pw.main.body)
noncomputable def dsIn (z : Bool) (w : World) (n t : Nat) (cn it l dd : Addr) (xs : Array Value) (ex k : Nat) (c : Nat → String × Nat) (N : Nat) (f g h : FrM) (eM eR eW : Env) : List OrcD:=
 [noteT (isB.drop 1) (envI (n + 8)) (n + 8) (n + 10) (sh z 17) (attrE n t it) (envI (n + 8) :: envU (n + 7) :: envC (n + 1) :: eL z eM eR eW) (frC z w.params n t cn it f g h),cntD w 0 1 2 cn it l dd xs ex k c N]
noncomputable def inKs (z : Bool) (cn it l dd : Addr) (xs : Array Value) (ex : Nat) (f g h : FrM) : List (Nat × Obj):=[(cn,cntO dd #[] 0),(it,iterO l 0),(l,listO xs ex),(f.L,f.o),(g.L,g.o)] ++ oL z (h.L,h.o) ++ [(dd,dictO #[] 0)]
noncomputable def inKs2 (z : Bool) (P : Params) (n t : Nat) (cn it l dd : Addr) (xs : Array Value) (ex : Nat) (f g h : FrM) : List (Nat × Obj):=inKs z cn it l dd xs ex f g h ++ [(n,dictO #[] 0),(n + 1,frL P n t cn it)]
noncomputable def lIn1 (z : Bool) : List St:=[.go 18 (shL z [0,0,0,12,12,12,12,12,12,1])]
noncomputable def lIn2 (z : Bool) : List St:=[.go 222 (shL z [0,0,0,12,0,0,13,13,13,0,4,4,0,13,13,13,13,13,13,13,13,13,13,13,13,0,0,4,0,14,14,4,4,0,12,4,0,0,0,0,0,0,4,0,4,0,0,0,0,0,0,4,4,0,10,0,12,12,11,11,16,11,11,11,16,15,0,15,0,0,0,18,18,18,18,18,18,1,18,0,18,0,0,0,19,19,1,0,0,19,0,0,5,5,5,5,5,5,5,19,5,5,5,5,5,5,21,21,21,21,21,21,21,21,21,21]),.note,.go 26 (shL z [0,0,21,21,22,22,0,18,18]),.orc,.go 21 (shL z [18,17,17,17,17,17])]
noncomputable def inFin (z : Bool) (w : World) (l dd : Addr) (xs : Array Value) (ex k : Nat) (c : Nat → String × Nat) (N : Nat) (f g h : FrM) (u : Sup) : List Obj:=
 [cntO dd (esN w k c u.a) k,iterEnd N,listO xs ex,frO f.es f.ep (u.s 0),frO g.es g.ep (u.s 1)] ++ oL z (frO h.es h.ep (u.s 2)) ++ [dictO #[] 0]
theorem runsIn1 (P : Params) (B : List (Code × Pos)) (m t : Nat) (p : Pos) (c0 it l dd : Addr) (xs : Array Value) (ex : Nat) (f g h : FrM) (eM eR eW : Env) : Runs ([true,false].map fun z=>
 (runF P B (some (.envs (eL z eM eR eW))) (lIn1 z) (inKs z (c0 + 1107) it l dd xs ex f g h) (m + 1106) t [] (.call (.ref 109) ⟨[.ref (c0 + 1107),.ref it],[]⟩) p,List.range (sh z 9),
  (.pure (.again (.func initB (envC (m + 1106 + 1)))),[],(inKs2 z P (m + 1106) t (c0 + 1107) it l dd xs ex f g h).map some,m + 1106 + 2,t + 3))):=by unfold Runs;kernel_rfl
theorem runsIn2 (w : World) (B : List (Code × Pos)) (m t : Nat) (σ : Nat → Sup) (p : Pos) (c0 it l dd : Addr) (xs : Array Value) (ex k : Nat) (c : Nat → String × Nat) (N : Nat) (f g h : FrM) (eM eR eW : Env) : Runs ([true,false].map fun z=>
 (runT w.params B (some (.envs (eL z eM eR eW))) (lIn2 z) (inKs2 z w.params (m + 1106) t (c0 + 1107) it l dd xs ex f g h) (m + 1106 + 2) (t + 3) (osAt σ 0 (dsIn z w (m + 1106) t (c0 + 1107) it l dd xs ex k c N f g h eM eR eW)) (.func initB (envC (m + 1106 + 1))) p (initT (envC (m + 1106 + 1))).1,List.range (sh z 7),
  (dn .none,[],([(c0 + 1107,cntO dd (esN w k c (σ 1).a) k),(it,iterEnd N),(l,listO xs ex),(f.L,frO f.es f.ep ((σ 0).s 3)),(g.L,frO g.es g.ep ((σ 0).s 4))] ++ oL z (h.L,frO h.es h.ep ((σ 0).s 5)) ++ [(dd,dictO #[] 0)]).map some,(σ 1).n,(σ 1).t + 2))):=by unfold Runs;kernel_rfl
noncomputable def inNeed (z : Bool) (m : Nat → Nat) (cn it l dd : Addr) (xs : Array Value) (ex : Nat) (f g h : FrM) : List (Nat × Nat × Obj):=[(m 0,cn,cntO dd #[] 0),(m 1,it,iterO l 0),(m 2,l,listO xs ex),(m 3,f.L,f.o),(m 4,g.L,g.o)] ++ oL z (m 5,h.L,h.o) ++ [(m 6,dd,dictO #[] 0)]
noncomputable def initD (z : Bool) (w : World) (m : Nat → Nat) (c0 it l dd : Addr) (xs : Array Value) (ex k : Nat) (c : Nat → String × Nat) (N : Nat) (f g h : FrM) (eM eR eW : Env) : OrcD:=
 fnF (some (.envs (eL z eM eR eW))) (fun _=>.call (.ref 109) ⟨[.ref (c0 + 1107),.ref it],[]⟩) (fun _=>inNeed z m (c0 + 1107) it l dd xs ex f g h) (fun _=>inFin z w l dd xs ex k c N f g h) (fun _ _=>.ok (.ret .none)) (fun _ _=>[]) (fun _ _=>True)
structure FrmOK (e : Env) (f : FrM) : Prop where
 adr : e.frame = some f.L
 kind : e.scope.kind ≠ .module
theorem initD_ok {w : World} {D U : Nat} {π : Nat → Sup} (hD : D ≤ 690) (hU : U ≤ 8400) {z : Bool} {m : Nat → Nat} {c0 it l dd : Addr} {xs : Array Value} {ex k : Nat} {ls : List String} {f g h : FrM} {eM eR eW : Env} (hw : Ws ls xs) (h6 : ∀ x ∈ ls,x ∈ six) (hsz : ls.length ≤ 60) (hk : (counter ls).length = k)
 (hM : FrmOK eM f) (hR : FrmOK eR g) (hW : FrmOK eW h) (hn : ([m 0,m 1,m 2,m 3,m 4,m 5,m 6] : List Nat).Nodup) :
 OrcAt w D U π (initD z w m c0 it l dd xs ex k (fun i=>(counter ls).getD i ("",0)) ls.length f g h eM eR eW):=by
 refine (two_any (w:=w) (D:=D) (U:=U) (π:=π) (fs:=some (.envs (eL z eM eR eW))) (c:=.call (.ref 109) ⟨[.ref (c0 + 1107),.ref it],[]⟩) (need:=inNeed z m (c0 + 1107) it l dd xs ex f g h) (fin:=inFin z w l dd xs ex k (fun i=>(counter ls).getD i ("",0)) ls.length f g h) (r:=fun _=>.ok (.ret .none)) (F:=fun _=>True) (by omega) (by omega) rfl (by cases z <;> simp [inNeed,oL] at hn ⊢ <;> simp [hn]) (by cases z <;> exact le4 rfl) fun B n t p hN _=>?_).at
 obtain ⟨b,rfl⟩ : ∃ b,n = b + 1106:=⟨n - 1106,by omega⟩
 refine ⟨lIn1 z,inKs2 z w.params (b + 1106) t (c0 + 1107) it l dd xs ex f g h,[b + 1106,b + 1106 + 1],.func initB (envC (b + 1106 + 1)),(initT (envC (b + 1106 + 1))).1,b + 1106 + 2,t + 3,(by have y:=(runsIn1 w.params B b t p c0 it l dd xs ex f g h eM eR eW).get (List.mem_map.mpr ⟨z,by cases z <;> simp,rfl⟩);cases z <;> exact y),by kernel_rfl,rfl,by cases z <;> exact le4 rfl,by cases z <;> rfl,?_,?_,fun p2=>?_⟩
 ·intro a ha
  simp only [List.mem_cons,List.not_mem_nil,or_false] at ha
  rcases ha with rfl | rfl
  ·exact Nat.le_refl _
  ·exact Nat.le_succ _
 ·intro Γ p s Q E hΓ ho _ z
  rw [initH_is]
  rw [← (initT (envC (b + 1106 + 1))).2] at z
  exact initH_wp (fun Q E p z=>super_wp hΓ ho z) z
 ·refine ⟨dsIn z w (b + 1106) t (c0 + 1107) it l dd xs ex k (fun i=>(counter ls).getD i ("",0)) ls.length f g h eM eR eW,lIn2 z,fun σ=>⟨(σ 1).n,(σ 1).t + 2,(σ 1).a,fun _=>.none,fun _=>#[],fun _=>#[],fun i=>match i with | 0=>(σ 0).s 3 | 1=>(σ 0).s 4 | _=>(σ 0).s 5⟩,orcs_of ?_,fun σ=>⟨by cases z <;> rfl,by have y:=(runsIn2 w B b t σ p2 c0 it l dd xs ex k (fun i=>(counter ls).getD i ("",0)) ls.length f g h eM eR eW).get (List.mem_map.mpr ⟨z,by cases z <;> simp,rfl⟩);cases z <;> exact y⟩,fun _ _=>trivial⟩
  intro j d hd' π hF'
  obtain ⟨J,M,hJ,hM,hd,hF⟩:=genJ hd' hF'
  clear hd' hF'
  match j,hd with
  | 0,hd=>
    subst hM;cases hd
    exact noteT_ok (L:=b + 1106 + 8) (e:=b + 1106 + 10) (oe:=attrE (b + 1106) t it) (vs:=fun v=>#[.ref (b + 1106 + 9),v,.none,.none,.bool false,.none,sv "keys" (t + 12),.ref it]) rfl (by cases z <;> exact ⟨by simp [frC,eL,oL,envI,envU,envC,hM.adr,hR.adr,hW.adr],fun e he=>by
     simp only [eL,List.mem_cons,List.not_mem_nil,or_false] at he
     rcases he with rfl | rfl | rfl | rfl | rfl | rfl <;> first | exact hM.kind | exact hR.kind | exact hW.kind | (intro h;cases h)⟩) (fun v=>rfl) (fun v=>rfl) (fun v v'=>rfl)
  | 1,hd=>subst hM;cases hd;exact cntD_ok (by omega) (by omega) hw h6 hsz hk (by decide)
  | j + 2,hd=>subst hM;exact nomatch (show none = some d from hd)
noncomputable def lCtr (z : Bool) : List St:=[.go 31 (shL z [0,0,0,0,0,0,0,0,0,0,0,0,0,0,0,0,0,10,0,10,0,0,0,0]),.orc]
noncomputable def ctrKs (z : Bool) (it l : Addr) (xs : Array Value) (ex : Nat) (f g h : FrM) : List (Nat × Obj):=[(it,iterO l 0),(l,listO xs ex),(f.L,f.o),(g.L,g.o)] ++ oL z (h.L,h.o)
noncomputable def ini (b : Nat) : Nat → Nat
 | 0=>6
 | 1=>0
 | 2=>1
 | 3=>2
 | 4=>3
 | 5=>4
 | _=>b
noncomputable def iniZ : Bool → Nat → Nat
 | true=>ini 5
 | false=>fun i=>match i with
   | 0=>5
   | 5=>77
   | 6=>4
   | i=>ini 5 i
noncomputable def dsCtr (z : Bool) (w : World) (b : Nat) (it l : Addr) (xs : Array Value) (ex k : Nat) (c : Nat → String × Nat) (N : Nat) (f g h : FrM) (eM eR eW : Env) : List OrcD:=
 [initD z w (iniZ z) b it l (b + 1106) xs ex k c N f g h eM eR eW]
theorem runsCtr (w : World) (B : List (Code × Pos)) (b t : Nat) (σ : Nat → Sup) (p : Pos) (it l : Addr) (xs : Array Value) (ex k : Nat) (c : Nat → String × Nat) (N : Nat) (f g h : FrM) (eM eR eW : Env) : Runs ([true,false].map fun z=>
 (runF w.params B (some (.envs (eL z eM eR eW))) (lCtr z) (ctrKs z it l xs ex f g h) (b + 1106) t (osAt σ 0 (dsCtr z w b it l xs ex k c N f g h eM eR eW)) (.call (.ref 311) ⟨[.ref it],[]⟩) p,List.range (sh z 5) ++ [sh z 6,sh z 5],
  (dn (.ref (b + 1107)),[],([(it,iterEnd N),(l,listO xs ex),(f.L,frO f.es f.ep ((σ 0).s 0)),(g.L,frO g.es g.ep ((σ 0).s 1))] ++ oL z (h.L,frO h.es h.ep ((σ 0).s 2)) ++ [(b + 1107,cntO (b + 1106) (esN w k c (σ 0).a) k),(b + 1106,dictO #[] 0)]).map some,(σ 0).n,(σ 0).t))):=by unfold Runs;kernel_rfl
noncomputable def ctrNeed (z : Bool) (m : Nat → Nat) (it l : Addr) (xs : Array Value) (ex : Nat) (f g h : FrM) : List (Nat × Nat × Obj):=[(m 0,it,iterO l 0),(m 1,l,listO xs ex),(m 2,f.L,f.o),(m 3,g.L,g.o)] ++ oL z (m 4,h.L,h.o)
noncomputable def ctrFin (z : Bool) (l : Addr) (xs : Array Value) (ex N : Nat) (f g h : FrM) (u : Sup) : List Obj:=[iterEnd N,listO xs ex,frO f.es f.ep (u.s 0),frO g.es g.ep (u.s 1)] ++ oL z (frO h.es h.ep (u.s 2))
noncomputable def ctrD (z : Bool) (w : World) (m : Nat → Nat) (it l : Addr) (xs : Array Value) (ex k : Nat) (c : Nat → String × Nat) (N : Nat) (f g h : FrM) (eM eR eW : Env) : OrcD:=
 fnF (some (.envs (eL z eM eR eW))) (fun _=>.call (.ref 311) ⟨[.ref it],[]⟩) (fun _=>ctrNeed z m it l xs ex f g h) (fun _=>ctrFin z l xs ex N f g h) (fun _ u=>.ok (.ret (.ref (u.a 20 + 1107)))) (fun _ u=>[(u.a 20 + 1107,cntO (u.a 20 + 1106) (esN w k c u.a) k),(u.a 20 + 1106,dictO #[] 0)]) (fun _ _=>True)
theorem esN_congr {w : World} {k : Nat} {c : Nat → String × Nat} {a a' : Nat → Nat} (h : ∀ i,i < 2 * k → a i = a' i) : esN w k c a = esN w k c a':=by
 unfold esN
 congr 1
 apply List.map_congr_left
 intro i hi
 have:=List.mem_range.mp hi
 rw [h (2 * i) (by omega),h (2 * i + 1) (by omega)]
theorem ctrD_ok {w : World} {D U : Nat} {π : Nat → Sup} (hD : D ≤ 615) (hU : U ≤ 8100) {z : Bool} {m : Nat → Nat} {it l : Addr} {xs : Array Value} {ex k : Nat} {ls : List String} {f g h : FrM} {eM eR eW : Env} (hw : Ws ls xs) (h6 : ∀ x ∈ ls,x ∈ six) (hsz : ls.length ≤ 60) (hk : (counter ls).length = k) (hk4 : k ≤ 6)
 (hM : FrmOK eM f) (hR : FrmOK eR g) (hW : FrmOK eW h) (hn : ([m 0,m 1,m 2,m 3,m 4] : List Nat).Nodup) :
 OrcAt w D U π (ctrD z w m it l xs ex k (fun i=>(counter ls).getD i ("",0)) ls.length f g h eM eR eW):=by
 refine OrcAny.at ?_
 unfold ctrD
 refine fnF_any (need:=fun _=>ctrNeed z m it l xs ex f g h) (by omega) (by omega) rfl (by cases z <;> simp [ctrNeed,oL] at hn ⊢ <;> simp [hn]) (by cases z <;> exact le4 rfl) fun B n t p hN=>?_
 obtain ⟨b,rfl⟩ : ∃ b,n = b + 1106:=⟨n - 1106,by omega⟩
 refine ⟨dsCtr z w b it l xs ex k (fun i=>(counter ls).getD i ("",0)) ls.length f g h eM eR eW,lCtr z,[sh z 6,sh z 5],fun σ=>⟨(σ 0).n,(σ 0).t,fun i=>if i = 20 then b else (σ 0).a i,fun _=>.none,fun _=>#[],fun _=>#[],fun i=>(σ 0).s i⟩,orcs_of ?_,(fun v hv=>by
  simp only [List.mem_cons,List.not_mem_nil,or_false] at hv
  rcases hv with rfl | rfl <;> cases z <;> simp [ctrNeed,oL,sh]),by cases z <;> decide,fun σ=>⟨by cases z <;> rfl,rfl,?_⟩,fun _ _=>trivial⟩
 ·intro j d hd' π hF'
  obtain ⟨J,M,hJ,hM,hd,hF⟩:=genJ hd' hF'
  clear hd' hF'
  match j,hd with
  | 0,hd=>subst hM;cases hd;exact initD_ok (by omega) (by omega) hw h6 hsz hk hM hR hW (by cases z <;> decide)
  | j + 1,hd=>subst hM;exact nomatch (show none = some d from hd)
 ·have y:=(runsCtr w B b t σ p it l xs ex k (fun i=>(counter ls).getD i ("",0)) ls.length f g h eM eR eW).get (List.mem_map.mpr ⟨z,by cases z <;> simp,rfl⟩)
  have e : esN w k (fun i=>(counter ls).getD i ("",0)) (fun i=>if i = 20 then b else (σ 0).a i) = esN w k (fun i=>(counter ls).getD i ("",0)) (σ 0).a:=esN_congr fun i hi=>if_neg (by omega)
  show Ends _ _ (_,[],obsOf (ctrNeed z m it l xs ex f g h) (ctrFin z l xs ex ls.length f g h _) [(b + 1107,cntO (b + 1106) (esN w k (fun i=>(counter ls).getD i ("",0)) (fun i=>if i = 20 then b else (σ 0).a i)) k),(b + 1106,dictO #[] 0)],_,_)
  rw [e]
  cases z <;> exact y
noncomputable abbrev viewO (d : Addr) : Obj:=⟨.type "dict_values",none,.fields #[.ref d],#[]⟩
noncomputable def mxI : List Bool → Nat → Nat → Nat
 | [],_,cur=>cur
 | b :: bs,i,cur=>mxI bs (i + 1) (match b with | true=>i | false=>cur)
noncomputable def mxDs (c : Nat → String × Nat) (a : Nat → Nat) : List Bool → Nat → Nat → List OrcD
 | [],_,_=>[]
 | b :: bs,i,cur=>gt2 ((c i).2 : Nat) ((c cur).2 : Nat) (fun _=>a (2 * i + 1)) (fun _=>a (2 * cur + 1)) b :: mxDs c a bs (i + 1) (match b with | true=>i | false=>cur)
noncomputable def lMx : List Bool → List St
 | []=>[]
 | [b]=>match b with
   | false=>[G 25 0x177796665566667]
   | true=>[G 28 0x177796665566667777]
 | b :: b' :: bs=>match b with
   | false=>G 20 0x16666665566667 :: cm :: .orc :: lMx (b' :: bs)
   | true=>G 23 0x16666665566667777 :: cm :: .orc :: lMx (b' :: bs)
noncomputable def lMax (bs : List Bool) : List St:=G 3 0x144 :: cm :: G 47 0x16666665566667777666666556666765544 :: cm :: .orc :: lMx bs
noncomputable def allB : Nat → List (List Bool)
 | 0=>[[]]
 | n + 1=>(allB n).flatMap fun l=>[false :: l,true :: l]
theorem allB_mem : ∀ (n : Nat) (l : List Bool),l.length = n → l ∈ allB n
 | 0,l,h=>by have : l = []:=List.eq_nil_of_length_eq_zero h
             subst this;exact .head _
 | n + 1,[],h=>by simp at h
 | n + 1,b :: l,h=>by
   have:=allB_mem n l (by simpa using h)
   refine List.mem_flatMap.mpr ⟨l,this,?_⟩
   cases b <;> simp
theorem runsMax (w : World) (B : List (Code × Pos)) (n t : Nat) (σ : Nat → Sup) (p : Pos) (v b0 dd : Addr) (c : Nat → String × Nat) (a : Nat → Nat) : Runs ([1,2,3].flatMap fun k=>(allB k).map fun bs=>
 (runC w.params B (lMax bs) [(v,viewO (b0 + 1107)),(b0 + 1107,cntO dd (esN w (k + 1) c a) (k + 1))] n t (osAt σ 0 (mxDs c a bs 1 0)) (.call (.builtin "max") ⟨[.ref v],[]⟩) p,[0,1],
  (dn (.int ((c (mxI bs 1 0)).2 : Nat) (a (2 * mxI bs 1 0 + 1))),[],[some (v,viewO (b0 + 1107)),some (b0 + 1107,cntO dd (esN w (k + 1) c a) (k + 1))],n + 4,t))):=by unfold Runs;kernel_rfl
noncomputable def mxB (m : Nat → Nat) : Nat → Nat → Nat → List Bool
 | 0,_,_=>[]
 | n + 1,i,cur=>decide (m i > m cur) :: mxB m n (i + 1) (match decide (m i > m cur) with | true=>i | false=>cur)
theorem mxB_len (m : Nat → Nat) : ∀ (n i cur : Nat),(mxB m n i cur).length = n
 | 0,_,_=>rfl
 | n + 1,i,cur=>by unfold mxB;simp [mxB_len m n]
theorem mxB_max (m : Nat → Nat) : ∀ (n i cur : Nat),(mxI (mxB m n i cur) i cur = cur ∨ (i ≤ mxI (mxB m n i cur) i cur ∧ mxI (mxB m n i cur) i cur < i + n)) ∧ m cur ≤ m (mxI (mxB m n i cur) i cur) ∧ ∀ j,i ≤ j → j < i + n → m j ≤ m (mxI (mxB m n i cur) i cur)
 | 0,i,cur=>⟨.inl rfl,Nat.le_refl _,fun j h1 h2=>by omega⟩
 | n + 1,i,cur=>by
   unfold mxB
   unfold mxI
   cases hb : decide (m i > m cur) with
   | true=>
     have hb' : m i > m cur:=of_decide_eq_true hb
     obtain ⟨h1,h2,h3⟩:=mxB_max m n (i + 1) i
     dsimp only
     refine ⟨.inr ?_,by omega,fun j q1 q2=>?_⟩
     ·rcases h1 with h1 | h1
      ·rw [h1];omega
      ·omega
     ·rcases Nat.lt_or_ge i j with h | h
      ·exact h3 j h (by omega)
      ·have : j = i:=by omega
       subst this;exact h2
   | false=>
     have hb' : ¬ m i > m cur:=of_decide_eq_false hb
     obtain ⟨h1,h2,h3⟩:=mxB_max m n (i + 1) cur
     dsimp only
     refine ⟨?_,h2,fun j q1 q2=>?_⟩
     ·rcases h1 with h1 | h1
      ·exact .inl h1
      ·exact .inr (by omega)
     ·rcases Nat.lt_or_ge i j with h | h
      ·exact h3 j h (by omega)
      ·have : j = i:=by omega
       subst this;omega
theorem mxDs_ok {w : World} {D U : Nat} {c : Nat → String × Nat} {a : Nat → Nat} : ∀ (n i cur : Nat),∀ d ∈ mxDs c a (mxB (fun i=>(c i).2) n i cur) i cur,∀ π,OrcAt w D U π d
 | 0,_,_,d,h,_=>nomatch h
 | n + 1,i,cur,d,h,π=>by
   unfold mxB mxDs at h
   rcases List.mem_cons.mp h with rfl | h
   ·refine gt2_ok ?_
    congr 1
    simp
   ·exact mxDs_ok n _ _ d h π
noncomputable def maxVD (w : World) (nv nd : Nat) (v b0 dd : Addr) (c : Nat → String × Nat) (a : Nat → Nat) (k M : Nat) : OrcD:=
 fnD (fun _=>.call (.builtin "max") ⟨[.ref v],[]⟩) (fun _=>[(nv,v,viewO (b0 + 1107)),(nd,b0 + 1107,cntO dd (esN w k c a) k)]) (fun _ _=>[viewO (b0 + 1107),cntO dd (esN w k c a) k]) (fun _ u=>.ok (.ret (.int (M : Nat) (u.a 0)))) (fun _ _=>[]) (fun _ _=>True)
theorem maxVD_ok {w : World} {D U : Nat} {π : Nat → Sup} (hD : D ≤ 690) (hU : U ≤ 8400) {nv nd : Nat} {v b0 dd : Addr} {c : Nat → String × Nat} {a : Nat → Nat} {k M : Nat} (hk : k + 1 ∈ [2,3,4]) (hM : ∃ j,j < k + 1 ∧ (c j).2 = M) (hm : ∀ j,j < k + 1 → (c j).2 ≤ M) (hn : nv ≠ nd) : OrcAt w D U π (maxVD w nv nd v b0 dd c a (k + 1) M):=by
 obtain ⟨h1,h2,h3⟩:=mxB_max (fun i=>(c i).2) k 1 0
 have eM : (c (mxI (mxB (fun i=>(c i).2) k 1 0) 1 0)).2 = M:=by
  obtain ⟨j,hj,ej⟩:=hM
  have q1 : (c j).2 ≤ (c (mxI (mxB (fun i=>(c i).2) k 1 0) 1 0)).2:=by
   rcases Nat.eq_zero_or_pos j with rfl | hp
   ·exact h2
   ·exact h3 j hp (by omega)
  have q2:=hm (mxI (mxB (fun i=>(c i).2) k 1 0) 1 0) (by omega)
  omega
 unfold maxVD
 refine fn_ok (by omega) (by omega) rfl (by simpa using hn) (by simp) fun B n t p hN=>?_
 refine ⟨mxDs c a (mxB (fun i=>(c i).2) k 1 0) 1 0,lMax (mxB (fun i=>(c i).2) k 1 0),[],fun σ=>⟨n + 4,t,fun _=>a (2 * mxI (mxB (fun i=>(c i).2) k 1 0) 1 0 + 1),fun _=>.none,fun _=>#[],fun _=>#[],fun _=>#[]⟩,orcs_all (mxDs_ok k 1 0),(fun _ h=>nomatch h),List.nodup_nil,fun σ=>⟨rfl,rfl,?_⟩,fun _ _=>trivial⟩
 have z:=(runsMax w B n t σ p v b0 dd c a).get (List.mem_flatMap.mpr ⟨k,by simp at hk ⊢;exact hk,List.mem_map.mpr ⟨mxB (fun i=>(c i).2) k 1 0,allB_mem k _ (mxB_len _ k 1 0),rfl⟩⟩)
 rw [eM] at z
 exact z
end
section
open PySem.Builtin PySem.Builtin.Str
open PySem.Sem (wp finPost)
theorem next_any {w : World} {D U : Nat} {π : Nat → Sup} {d : OrcD} {T id : String} {it : Addr} {val : Sup → Value} {s : Shared} (h : OrcAny w D U π d) (hc : d.c π = .call (.builtin id) ⟨[.ref it],[]⟩) (hr : ∀ u,d.r π u = .ok (.ret (val u))) (hf : d.fs π = none)
 (ho : Old w.params s.heap) (hz : 1106 ≤ s.heap.objs.size) (hA : At w.params (d.need π) s) (slot : Slot T (Str.ofString "__next__") id) (hT : s.TypeIs (.ref it) T) :
 wpAny (model pw w) { depth:=D + 75,units:=U + 300 } (pyNext (.ref it)) (fun v s'=>∃ u,v = some (val u) ∧ OrcPost (d.at π u) s s' ∧ d.F π u) (fun _ _=>False) s:=by
 unfold pyNext
 refine wpAny_bind (wpAny_attempt (wpAny_callSpecial?_slot (name:=Str.ofString "__next__") hT slot (wpAny_call fun Γ p hcode hb=>?_)))
 obtain ⟨r',s',hrun,u,e1,hp,hF⟩:=h.2 Γ p s (by rw [hcode,hc]) ⟨hb.1,hb.2.1,hb.2.2.2.2⟩ (by rw [hf];intro l h;cases h) ho hz hA
 refine ⟨r',s',hrun,?_⟩
 rw [e1,hr u]
 exact wpAny_pure ⟨u,rfl,hp,hF⟩
noncomputable def ownT (P0 : Pos) (it : Value) (tgt : PySem.Expr) (N : Sem Fin) (K : Value → Sem Fin) (h : Value → Sem Unit) : Sem Fin:=
 (do standAt P0
     match ← pyNext it with
     | none=>N
     | some v=>do
       letOwnedTupleGo tgt it v
       K v).onRaise h
noncomputable def owners : List String:=["enumerate","zip","dict_itemiterator","dict_reverseitemiterator","odict_iterator","itertools.zip_longest","itertools.pairwise"]
theorem own_wp {w : World} {Γ : Ctx} {D U : Nat} {π : Nat → Sup} {d : OrcD} {T id : String} {it : Addr} {ad : Sup → Addr} {s : Shared} {p : Pos} {P0 : Pos} {tgt : PySem.Expr} {N : Sem Fin} {K : Value → Sem Fin} {hh : Value → Sem Unit} {Q : Fin → Pos → Shared → Prop} {E : Value → Pos → Shared → Prop} {vs : Sup → Array Value}
 (Fi : Fine (D + 75) (U + 300) Γ) (hcl : Γ.code.isCaller = false) (h : OrcAny w (D + 75) (U + 300) π d) (hc : d.c π = .call (.builtin id) ⟨[.ref it],[]⟩) (hr : ∀ u,d.r π u = .ok (.ret (.ref (ad u)))) (hf : d.fs π = none)
 (ho : Old w.params s.heap) (hz : 1106 ≤ s.heap.objs.size) (hA : At w.params (d.need π) s) (slot : Slot T (Str.ofString "__next__") id) (hT : s.TypeIs (.ref it) T) (hown : owners.contains T = true) (ht : ∃ es c q,tgt = .Tuple es c q)
 (hit : ∀ u,∃ i,(i,it,(⟨.type T,none,.fields (vs u),#[]⟩ : Obj)) ∈ d.upd π u) (hv : ∀ u,d.F π u → (vs u)[0]? = some (rawInt (ad u)))
 (cont : ∀ u s1 p1,OrcPost (d.at π u) s s1 → d.F π u → wp (md w) Γ ((K (.ref (ad u))).onRaise hh) Q E p1 { s1 with heap:=s1.heap.update it (Obj.mapFields (·.setIfInBounds 0 .none)) }) :
 wp (md w) Γ (ownT P0 (.ref it) tgt N K hh) Q E p s:=by
 have z:=next_any (T:=T) (id:=id) h hc hr hf ho hz hA slot hT
 have hw : Γ.code.weight ≤ 5:=weight_le hcl
 have hu : Γ.code.cUnits ≤ 10:=units_le _
 have hIn : Γ.In { depth:=D + 75 + 75,units:=U + 300 + 300 }:=⟨Fi.handled,by have:=Fi.depth;show frameCount Γ.below + Γ.code.weight ≤ D + 75 + 75;omega,(fun l hl=>nomatch hl),(fun g hg=>nomatch hg),by have:=Fi.units;show Γ.code.cUnits + unitsOf Γ.below ≤ U + 300 + 300;omega⟩
 unfold ownT
 rw [Sem.wp_onRaise,Sem.wp_bind',Sem.wp_cmd_standAt,Sem.wp_bind']
 refine Sem.wp_mono _ _ _ (fun v p1 s1 ⟨u,hvv,hp,hF⟩=>?_) (fun _ _ _ h=>h.elim) _ _ (z Γ P0 hIn)
 subst hvv
 dsimp only
 obtain ⟨i,hi⟩:=hit u
 have hget : s1.heap.get? it = some ⟨.type T,none,.fields (vs u),#[]⟩:=hp.upd _ hi
 obtain ⟨es,c0,q0,rfl⟩:=ht
 have hv0:=hv u hF
 rw [Sem.wp_bind']
 show wp (md w) Γ (load it >>= _) _ _ p1 s1
 rw [Sem.wp_bind',Sem.wp_cmd_load]
 refine ⟨_,hget,?_⟩
 dsimp only
 rw [show ((["enumerate","zip","dict_itemiterator","dict_reverseitemiterator","odict_iterator","itertools.zip_longest","itertools.pairwise"].contains T && (vs u)[0]? == some (rawInt (ad u))) = true) from by rw [hv0,show ["enumerate","zip","dict_itemiterator","dict_reverseitemiterator","odict_iterator","itertools.zip_longest","itertools.pairwise"].contains T = true from hown];simp,if_pos rfl]
 unfold updateField
 rw [Sem.wp_bind',Sem.wp_cmd_rule,Sem.wp_bind',Sem.wp_cmd_load]
 refine ⟨_,hget,?_⟩
 have hsz : 0 < (vs u).size:=(Array.getElem?_eq_some_iff.mp hv0).1
 dsimp only
 rw [if_pos hsz]
 have y:=cont u s1 p1 hp hF
 rw [Sem.wp_onRaise] at y
 exact ⟨(by rw [hget];rfl),y⟩
end
section
open PySem.Builtin PySem.Builtin.Str
noncomputable def mmB : List Stmt:=fB (dig [14] pw.main.body)
noncomputable def eMM : PySem.Expr:=sV (nth mmB 3)
noncomputable def envMM (L cm fr : Addr) : Env:=⟨⟨.function,[(q ".0",.local),(q "value",.local),(q "count",.local),(q "maxcount",.cell)],false,false,[]⟩,L,3,[(q "maxcount",cm)],q "multimode.<locals>.",none,r 326,(some fr),0⟩
noncomputable def cMM (it acc L cm fr : Addr) : Code:=.compLoop eMM 0 (.ref it) (.ref acc) (envMM L cm fr)
noncomputable abbrev itmO (d : Value) (k K : Nat) (x y : Value) : Obj:=⟨.type "dict_itemiterator",none,.fields #[.none,.bool false,d,.int (k : Nat) 0,.int (K : Nat) 0,.int (K : Nat) 0,x,y],#[]⟩
noncomputable def itmS (d : Addr) (K : Nat) (c : Nat → String × Nat) (a : Nat → Nat) : Nat → Obj
 | 0=>itmO (.ref d) 0 K .none .none
 | k + 1=>itmO (.ref d) (k + 1) K (sv (c k).1 (a (2 * k))) (.int ((c k).2 : Nat) (a (2 * k + 1)))
noncomputable def itmE (K : Nat) (c : Nat → String × Nat) (a : Nat → Nat) : Obj:=itmO .none K K (sv (c (K - 1)).1 (a (2 * (K - 1)))) (.int ((c (K - 1)).2 : Nat) (a (2 * (K - 1) + 1)))
noncomputable abbrev esM (P : Params) (t1 t2 : Nat) (x y : Value) : Array DictEntry:=#[E P "value" t1 x,E P "count" t2 y]
noncomputable def lcE : PySem.Expr → PySem.Expr
 | .ListComp elt _ _ _=>elt
 | e=>e
noncomputable def lcG : PySem.Expr → List Comprehension
 | .ListComp _ g _ _=>g
 | _=>[]
noncomputable def g0 (e : PySem.Expr) : Comprehension:=match lcG e with
 | g :: _=>g
 | []=>default
noncomputable def if0 (e : PySem.Expr) : PySem.Expr:=match (g0 e).ifs with
 | c :: _=>c
 | []=>default
noncomputable def tE : PySem.Expr → List PySem.Expr
 | .Tuple es _ _=>es
 | _=>[]
theorem tMM_is : ∃ es c q,(g0 eMM).target = .Tuple es c q:=by
 have : (match (g0 eMM).target with | .Tuple ..=>true | _=>false) = true:=by kernel_rfl
 split at this
 ·rename_i es c q e;exact ⟨es,c,q,e⟩
 ·cases this
noncomputable def mmH (L cm fr : Addr) (x : Value) : Sem Unit:=do
 noteFrame x (envMM L cm fr)
 theTreesLotGoes x
noncomputable def mmK (it acc L cm fr : Addr) (v : Value) : Sem Fin:=do
 assign (g0 eMM).target (envMM L cm fr) v
 let ok ← forIn [if0 eMM] true fun c (s : Bool)=>if s = true then do
     let ok ← PySem.isTrue c (envMM L cm fr) (PySem.eval c (envMM L cm fr))
     pure (ForInStep.yield ok)
  else pure (ForInStep.yield s)
 if ok = true then do
  (do
   let x ← PySem.eval (lcE eMM) (envMM L cm fr)
   let _ ← call (.builtin "list.append") [.ref acc,x]
   pure () : Sem Unit)
  again (cMM it acc L cm fr)
 else again (cMM it acc L cm fr)
theorem mm_frame (it acc L cm fr : Addr) : (cMM it acc L cm fr).isFrame = false:=by kernel_rfl
theorem mm_tree (it acc L cm fr : Addr) : denote table (cMM it acc L cm fr) = ownT (g0 eMM).iter.pos (.ref it) (g0 eMM).target (pure (.done .next)) (mmK it acc L cm fr) (mmH L cm fr):=by
 show (if (cMM it acc L cm fr).isFrame then (compTurn eMM 0 (.ref it) (.ref acc) (envMM L cm fr)).onRaise (leaving (envMM L cm fr)) else (compTurn eMM 0 (.ref it) (.ref acc) (envMM L cm fr)).onRaise (mmH L cm fr)) = _
 rw [mm_frame,if_neg (by simp)]
 unfold ownT
 congr 1
noncomputable def mmT (it acc L cm fr : Addr) (v : Value) : { t : Sem Fin // (mmK it acc L cm fr v).onRaise (mmH L cm fr) = t }:=by
 refine ⟨?t,?h⟩
 case h=>
  unfold mmK mmH
  simp only [bind_R,PySem.W.R.onRaiseR_eq]
  rw [PySem.W.Fast.te17772580674575903948,PySem.W.Fast.te15418851999007992765,PySem.W.Fast.te14044960220447912780,PySem.W.Fast.te11478286150595567475,PySem.W.Fast.te17872113653443481271,PySem.W.Fast.te1623429502029203251,PySem.W.Fast.te12377390311714414960]
noncomputable abbrev itmV (h : Value) (d : Addr) (k K : Nat) (x y : Value) : Array Value:=#[h,.bool false,.ref d,.int (k : Nat) 0,.int (K : Nat) 0,.int (K : Nat) 0,x,y]
noncomputable def itmW (h : Value) (d : Addr) (K : Nat) (c : Nat → String × Nat) (a : Nat → Nat) (k : Nat) : Array Value:=itmV h d (k + 1) K (sv (c k).1 (a (2 * k))) (.int ((c k).2 : Nat) (a (2 * k + 1)))
noncomputable abbrev pairO (x : String) (t m u : Nat) : Obj:=⟨.type "tuple",none,.seq #[sv x t,.int (m : Nat) u] 0,#[]⟩
noncomputable def lNx : List St:=[G 26 0x14444444444444444455444]
theorem runsNx (w : World) (B : List (Code × Pos)) (n t : Nat) (σ : Nat → Sup) (p : Pos) (it b0 dd : Addr) (c : Nat → String × Nat) (a : Nat → Nat) : Runs ([2,3,4].flatMap fun K=>(List.range K).map fun k=>
 (runC w.params B lNx [(it,itmS (b0 + 1107) K c a k),(b0 + 1107,cntO dd (esN w K c a) K)] n t [] (.call (.builtin "dict_itemiterator.__next__") ⟨[.ref it],[]⟩) p,[0,1,2],
  (dn (.ref n),[],[some (it,⟨.type "dict_itemiterator",none,.fields (itmW (rawInt n) (b0 + 1107) K c a k),#[]⟩),some (b0 + 1107,cntO dd (esN w K c a) K),some (n,pairO (c k).1 (a (2 * k)) (c k).2 (a (2 * k + 1)))],n + 1,t))):=by unfold Runs;kernel_rfl
noncomputable def nxD (w : World) (ni nd : Nat) (it b0 dd : Addr) (K k : Nat) (c : Nat → String × Nat) (a : Nat → Nat) : OrcD:=
 fnD (fun _=>.call (.builtin "dict_itemiterator.__next__") ⟨[.ref it],[]⟩) (fun _=>[(ni,it,itmS (b0 + 1107) K c a k),(nd,b0 + 1107,cntO dd (esN w K c a) K)])
  (fun _ u=>[⟨.type "dict_itemiterator",none,.fields (itmW (rawInt (u.a 0)) (b0 + 1107) K c a k),#[]⟩,cntO dd (esN w K c a) K]) (fun _ u=>.ok (.ret (.ref (u.a 0)))) (fun _ u=>[(u.a 0,pairO (c k).1 (a (2 * k)) (c k).2 (a (2 * k + 1)))]) (fun _ _=>True)
theorem nxD_ok {w : World} {D U : Nat} {π : Nat → Sup} (hD : D ≤ 765) (hU : U ≤ 8700) {ni nd : Nat} {it b0 dd : Addr} {K k : Nat} {c : Nat → String × Nat} {a : Nat → Nat} (hK : K ∈ [2,3,4]) (hk : k < K) (hn : ni ≠ nd) : OrcAny w D U π (nxD w ni nd it b0 dd K k c a):=by
 unfold nxD
 refine fnF_any (fs:=none) (need:=fun _=>[(ni,it,itmS (b0 + 1107) K c a k),(nd,b0 + 1107,cntO dd (esN w K c a) K)]) (by omega) (by omega) rfl (by simpa using hn) (by simp) fun B n t p hN=>?_
 exact ⟨[],lNx,[2],fun σ=>⟨n + 1,t,fun _=>n,fun _=>.none,fun _=>#[],fun _=>#[],fun _=>#[]⟩,none_ok,(fun v hv=>by rcases List.mem_singleton.mp hv with rfl;simp),by simp,fun σ=>⟨rfl,rfl,(runsNx w B n t σ p it b0 dd c a).get (List.mem_flatMap.mpr ⟨K,hK,List.mem_map.mpr ⟨k,List.mem_range.mpr hk,rfl⟩⟩)⟩,fun _ _=>trivial⟩
noncomputable def lMM (b : Bool) : List St:=G 4 0x1999 :: cm :: G 60 0x1866666caa9aaaaaa9aaaaaa9aaaaa9 :: cm :: .orc :: (match b with | true=>[G 2 0x16,.orc] | false=>[])
noncomputable def lMMe : List St:=[G 17 0x1a444774444]
noncomputable def dsMM (acc : Addr) (zs : Array Value) (ea : Nat) (x : String) (tx m tm M tM : Nat) (b : Bool) : List OrcD:=eq2 (m : Nat) (M : Nat) (fun _=>tm) (fun _=>tM) b :: (match b with | true=>[appD 1 acc zs ea fun _=>sv x tx] | false=>[])
noncomputable def ksMM (w : World) (it acc L cm b0 dd : Addr) (io : Obj) (K : Nat) (c : Nat → String × Nat) (a : Nat → Nat) (zs : Array Value) (ea : Nat) (es : Array DictEntry) (ed M tM : Nat) : List (Nat × Obj):=
 [(it,io),(acc,listO zs ea),(L,dictO es ed),(b0 + 1107,cntO dd (esN w K c a) K),(cm,cellO (.int (M : Nat) tM))]
noncomputable def accMM (zs : Array Value) (x : String) (tx : Nat) : Bool → Array Value
 | true=>zs.push (sv x tx)
 | false=>zs
noncomputable def epMM (ea ea' : Nat) : Bool → Nat
 | true=>ea'
 | false=>ea
noncomputable def rowMM (w : World) (B : List (Code × Pos)) (n t : Nat) (σ : Nat → Sup) (p : Pos) (it acc L cm fr b0 dd tup : Addr) (K k : Nat) (b : Bool) (c : Nat → String × Nat) (a : Nat → Nat) (zs : Array Value) (ea : Nat) (es : Array DictEntry) (ed M tM : Nat) (es' : Array DictEntry) (ed' : Nat) : Option RS × List Nat × Seen:=
 (runT w.params B none (lMM b) (ksMM w it acc L cm b0 dd (itmS (b0 + 1107) K c a (k + 1)) K c a zs ea es ed M tM ++ [(tup,pairO (c k).1 (a (2 * k)) (c k).2 (a (2 * k + 1)))]) (n + 1106) t (osAt σ 0 (dsMM acc zs ea (c k).1 (a (2 * k)) (c k).2 (a (2 * k + 1)) M tM b)) (cMM it acc L cm fr) p (mmT it acc L cm fr (.ref tup)).1,[0,1,2,3,4],
  (.pure (.again (cMM it acc L cm fr)),[],(ksMM w it acc L cm b0 dd (itmS (b0 + 1107) K c a (k + 1)) K c a (accMM zs (c k).1 (a (2 * k)) b) (epMM ea ((σ 1).a 0) b) es' ed' M tM).map some,n + 1106 + 3,t + 2))
theorem runsMM (w : World) (B : List (Code × Pos)) (n t : Nat) (σ : Nat → Sup) (p : Pos) (it acc L cm fr b0 dd tup : Addr) (c : Nat → String × Nat) (a : Nat → Nat) (zs : Array Value) (ea ed M tM t1 t2 : Nat) (v1 v2 : Value) :
 Runs ([2,3,4].flatMap fun K=>(List.range K).flatMap fun k=>[true,false].flatMap fun b=>[
  rowMM w B n t σ p it acc L cm fr b0 dd tup K k b c a zs ea #[] ed M tM (esM w.params t (t + 1) (sv (c k).1 (a (2 * k))) (.int ((c k).2 : Nat) (a (2 * k + 1)))) (ed + 2),
  rowMM w B n t σ p it acc L cm fr b0 dd tup K k b c a zs ea (esM w.params t1 t2 v1 v2) ed M tM (esM w.params t1 t2 (sv (c k).1 (a (2 * k))) (.int ((c k).2 : Nat) (a (2 * k + 1)))) ed]):=by unfold Runs;kernel_rfl
theorem runsMMe (w : World) (B : List (Code × Pos)) (n t : Nat) (p : Pos) (it acc L cm fr b0 dd : Addr) (c : Nat → String × Nat) (a : Nat → Nat) (zs : Array Value) (ea ed M tM : Nat) (es : Array DictEntry) :
 Runs ([2,3,4].map fun K=>(runC w.params B lMMe (ksMM w it acc L cm b0 dd (itmS (b0 + 1107) K c a K) K c a zs ea es ed M tM) n t [] (cMM it acc L cm fr) p,[0,1,2,3,4],
 (.pure (.done .next),[],(ksMM w it acc L cm b0 dd (itmE K c a) K c a zs ea es ed M tM).map some,n + 2,t))):=by unfold Runs;kernel_rfl
theorem loopS_any {δ : Type} {fs : Option Fs} {w : World} {D U : Nat} {π : Nat → Sup} {c : Code} {need : List (Nat × Nat × Obj)} (N : Nat) (objs : Nat → δ → List Obj) (G : Nat → δ → Prop) (d0 : δ) {fin : Sup → List Obj} {r : Sup → Result} {out : Sup → List (Nat × Obj)} {F : Sup → Prop}
 (hD : D + 75 ≤ 840) (hU : U + 300 ≤ 9000) (hc : c.isCaller = false) (hnum : (need.map (·.1)).Nodup) (hlen : need.length < 4096) (h0 : need.map (·.2.2) = objs 0 d0) (hG0 : G 0 d0) (hol : ∀ k d,(objs k d).length = need.length)
 (turn : ∀ (Γ : Ctx) (s : Shared) (p : Pos) (k : Nat) (d : δ) (R : Result → Shared → Prop),Γ.code = c → Fine (D + 75) (U + 300) Γ → (∀ l,fs = some l → l.holds Γ.below) → Old w.params s.heap → 1106 ≤ s.heap.objs.size → k < N → G k d → At w.params (updOf need (objs k d)) s →
  (∀ s' p' d',Keep (need.map (·.2.1)) s s' → Old w.params s'.heap → At w.params (updOf need (objs (k + 1) d')) s' → G (k + 1) d' → wpCode (md w) Γ R p' s') → wpCode (md w) Γ R p s)
 (last : ∀ (B : List (Code × Pos)) (n t : Nat) (p : Pos) (d : δ),1106 ≤ n → G N d → (∀ l,fs = some l → l.holds B) → X4 fun (ds : List OrcD) (l : List St) (on : List Nat) (V : (Nat → Sup) → Sup)=>(∀ j d,ds[j]? = some d → OrcOK w (D + 75) (U + 300) ds j d) ∧ (∀ v ∈ on,need.length ≤ v) ∧ on.Nodup ∧
  (∀ σ,(fin (V σ)).length = need.length ∧ (out (V σ)).length = on.length ∧ Ends (runF w.params B fs l ((updOf need (objs N d)).map (·.2)) n t (osAt σ 0 ds) c p) (List.range need.length ++ on) (endT (r (V σ)),[],obsOf need (fin (V σ)) (out (V σ)),(V σ).n,(V σ).t)) ∧
  ∀ σ,(∀ (i : Nat) (d : OrcD),ds[i]? = some d → d.F (tr i σ) (σ i)) → F (V σ)) :
 OrcAny w D U π (fnF fs (fun _=>c) (fun _=>need) (fun _=>fin) (fun _=>r) (fun _=>out) (fun _=>F)):=by
 refine ⟨rfl,?_⟩
 intro Γ p s hcode Fi hfs ho hz hA
 have hA' : At w.params need s:=hA
 have hob : ∀ (k : Nat) (d : δ) (f : List Obj) (o : List (Nat × Obj)),obsOf (updOf need (objs k d)) f o = obsOf need f o:=fun k d f o=>by
  have : (updOf need (objs k d)).zipWith (fun x o=>(x.2.1,o)) f = need.zipWith (fun x o=>(x.2.1,o)) f:=by
   apply List.ext_getElem?
   intro i
   rw [List.getElem?_zipWith,List.getElem?_zipWith]
   by_cases hi : i < need.length
   ·rw [updOf_at (hol k d) hi,List.getElem?_eq_getElem hi]
    cases f[i]? <;> rfl
   ·have hl:=updOf_len (hol k d)
    rw [List.getElem?_eq_none (by omega : (updOf need (objs k d)).length ≤ i),List.getElem?_eq_none (by omega : need.length ≤ i)]
  unfold obsOf
  rw [this]
 let I : Nat → Shared → Prop:=fun k s'=>Keep (need.map (·.2.1)) s s' ∧ Old w.params s'.heap ∧ ∃ d,At w.params (updOf need (objs k d)) s' ∧ G k d
 refine turns (w:=w) (Γ:=Γ) I N (fun k s1 p1 lt hI cont=>?_) (fun s1 p1 hI=>?_) s p ⟨.refl _ _,ho,d0,by rw [← h0,updOf_same];exact hA',hG0⟩
 ·obtain ⟨K,O,d,hAk,hg⟩:=hI
  exact turn Γ s1 p1 k d _ hcode Fi hfs O (Nat.le_trans hz K.size) lt hg hAk fun s2 p2 d2 K2 O2 hA2 hG2=>cont s2 p2 ⟨K.trans K2,O2,d2,hA2,hG2⟩
 ·obtain ⟨K,O,d,hAk,hg⟩:=hI
  obtain ⟨ds,l,on,V,hds,hon,hnd,hrun,hF⟩:=last Γ.below s1.heap.objs.size s1.toks p1 d (Nat.le_trans hz K.size) hg hfs
  refine run_go (need:=updOf need (objs N d)) (vs:=List.range (updOf need (objs N d)).length ++ on) (n1:=fun σ=>(V σ).n) (k1:=fun σ=>(V σ).t) (t1:=fun σ=>endT (r (V σ))) (obs:=fun σ=>obsOf (updOf need (objs N d)) (fin (V σ)) (out (V σ))) Fi hD hU hds hcode hfs (fun σ=>by
   rw [updOf_len (hol N d),hob];exact (hrun σ).2.2) O (by rw [updOf_len (hol N d)];exact hlen) hAk (by rw [updOf_nums (hol N d)];exact hnum) hc ?_
  intro σ s2 hf e1 e2 K2 O2 hA2 hfr
  rw [updOf_adr (hol N d)] at K2
  refine TailOK.end ⟨V σ,rfl,?_,hF σ hf⟩
  rw [updOf_len (hol N d),hob] at hA2 hfr
  have z:=fn_post (w:=w) (hrun σ).1 (hrun σ).2.1 hon hnd (K.trans K2) hA2 (fun x hx hk=>Nat.le_trans K.size (hfr x hx hk)) (c:=c) (r:=r (V σ)) fs
  rw [e1,e2] at z
  exact z
end
section
open PySem.Builtin PySem.Builtin.Str
open PySem.Sem (wp finPost)
theorem At.grow {P : Params} {need need' : List (Nat × Nat × Obj)} {e : Nat × Nat × Obj} {s s1 : Shared} (hA : At P need s) (h1 : need'.map (·.1) = need.map (·.1)) (h2 : need'.map (·.2.1) = need.map (·.2.1)) (hz : 1106 ≤ s.heap.objs.size)
 (hg : ∀ x ∈ need',s1.heap.get? x.2.1 = some x.2.2) (he : s1.heap.get? e.2.1 = some e.2.2) (hfr : s.heap.objs.size ≤ e.2.1) : At P (need' ++ [e]) s1:=by
 have back : ∀ x ∈ need',∃ y ∈ need,y.1 = x.1 ∧ y.2.1 = x.2.1:=fun x hx=>by
  obtain ⟨i,hi,ei⟩:=List.mem_iff_getElem.mp hx
  have l1 : need'.length = need.length:=by simpa using congrArg List.length h1
  have hi' : i < need.length:=by omega
  refine ⟨need[i],List.getElem_mem hi',?_,?_⟩
  ·have q:=congrArg (fun l : List Nat=>l[i]?) h1
   simp only [List.getElem?_map,List.getElem?_eq_getElem hi,List.getElem?_eq_getElem hi',Option.map_some,Option.some.injEq] at q
   rw [← q,ei]
  ·have q:=congrArg (fun l : List Nat=>l[i]?) h2
   simp only [List.getElem?_map,List.getElem?_eq_getElem hi,List.getElem?_eq_getElem hi',Option.map_some,Option.some.injEq] at q
   rw [← q,ei]
 have lt : ∀ x ∈ need',x.2.1 < s.heap.objs.size:=fun x hx=>by
  obtain ⟨y,hy,_,e2⟩:=back x hx
  rw [← e2];exact Heap.lt_size (hA.get y hy)
 refine ⟨fun x hx=>?_,fun x hx=>?_,fun x hx y hy q=>?_⟩
 ·rcases List.mem_append.mp hx with hx | hx
  ·exact hg x hx
  ·rcases List.mem_singleton.mp hx with rfl;exact he
 ·rcases List.mem_append.mp hx with hx | hx
  ·obtain ⟨y,hy,_,e2⟩:=back x hx
   rw [← e2];exact hA.sep y hy
  ·rcases List.mem_singleton.mp hx with rfl
   exact oldGet_none (by omega)
 ·rcases List.mem_append.mp hx with hx1 | hx1
  ·rcases List.mem_append.mp hy with hy1 | hy1
   ·have hx:=hx1
    have hy:=hy1
    obtain ⟨x',hx',a1,a2⟩:=back x hx
    obtain ⟨y',hy',b1,b2⟩:=back y hy
    rw [← a1,← b1]
    exact hA.inj x' hx' y' hy' (by rw [a2,b2];exact q)
   ·rcases List.mem_singleton.mp hy1 with rfl
    have:=lt x hx1
    omega
  ·rcases List.mem_singleton.mp hx1 with rfl
   rcases List.mem_append.mp hy with hy1 | hy1
   ·have:=lt y hy1
    omega
   ·rcases List.mem_singleton.mp hy1 with rfl;rfl
noncomputable def modesTo (c : Nat → String × Nat) (M k : Nat) : List String:=((List.range k).filter fun i=>(c i).2 == M).map fun i=>(c i).1
theorem modesTo_succ (c : Nat → String × Nat) (M k : Nat) : modesTo c M (k + 1) = match (c k).2 == M with | true=>modesTo c M k ++ [(c k).1] | false=>modesTo c M k:=by
 unfold modesTo
 rw [List.range_succ,List.filter_append,List.map_append]
 cases h : (c k).2 == M <;> simp [h]
theorem modesTo_len (c : Nat → String × Nat) (M k : Nat) : (modesTo c M k).length ≤ k:=by
 unfold modesTo
 rw [List.length_map]
 exact Nat.le_trans (List.length_filter_le _ _) (by simp)
noncomputable def es1M (P : Params) (u : Sup) : Array DictEntry:=esM P (u.a 2) (u.a 3) (u.v 0) (u.v 1)
noncomputable def exMM (n1 n2 : Nat) (w : World) (cm b0 dd : Addr) (K : Nat) (c : Nat → String × Nat) (a : Nat → Nat) (M tM : Nat) : List (Nat × Nat × Obj):=[(n1,b0 + 1107,cntO dd (esN w K c a) K),(n2,cm,cellO (.int (M : Nat) tM))]
theorem nodup5 {a b c d e : Nat} (h : [a,b,c,d,e].Nodup) : [a,b,c,d,e,a + b + c + d + e + 1].Nodup:=by
 refine (List.nodup_append (l₁:=[a,b,c,d,e]) (l₂:=[a + b + c + d + e + 1])).mpr ⟨h,by simp,fun x hx y hy=>?_⟩
 clear h
 rw [List.mem_singleton.mp hy]
 simp only [List.mem_cons,List.not_mem_nil,or_false] at hx
 omega
theorem compMM_any {w : World} {D U : Nat} {π : Nat → Sup} (hD : D ≤ 615) (hU : U ≤ 8100) {ni na nL n1 n2 : Nat} {it acc L cm fr b0 dd : Addr} {K : Nat} {c : Nat → String × Nat} {a : Nat → Nat} {M tM ea0 ed0 : Nat} (hK : K ∈ [2,3,4]) (hn : [ni,na,nL,n1,n2].Nodup) :
 OrcAny w D U π (compD (cMM it acc L cm fr) ni na nL it acc L (itmS (b0 + 1107) K c a 0) (itmE K c a) #[] ea0 #[] ed0 (exMM n1 n2 w cm b0 dd K c a M tM) (es1M w.params) (fun zs=>Ws (modesTo c M K) zs)):=by
 have big : 1000 ≤ sizeLine:=by decide +kernel
 have K4 : K ≤ 4:=by simp at hK;omega
 have K2 : 0 < K:=by simp at hK;omega
 let need : List (Nat × Nat × Obj):=needC ni na nL it acc L (itmS (b0 + 1107) K c a 0) #[] ea0 #[] ed0 (exMM n1 n2 w cm b0 dd K c a M tM)
 refine loopS_any (fs:=none) (c:=cMM it acc L cm fr) (need:=need) (δ:=CompSt) K (fun k d=>itmS (b0 + 1107) K c a k :: listO d.ys d.ea :: dictO (esOf #[] (es1M w.params) d.q) d.ed :: (exMM n1 n2 w cm b0 dd K c a M tM).map (·.2.2))
  (fun k d=>(d.q = none ↔ k = 0) ∧ Ws (modesTo c M k) d.ys) ⟨#[],ea0,none,ed0⟩ (by omega) (by omega) rfl hn (by simp [need,needC,exMM]) rfl ⟨by simp,Ws.nil⟩ (fun k d=>rfl) ?_ ?_
 ·intro Γ s p k d R hcode Fi hfs ho hz lt hG hA cont
  have hk : k ∈ List.range K:=List.mem_range.mpr lt
  obtain ⟨ys,ea,q,ed⟩:=d
  obtain ⟨hq,hws⟩:=hG
  dsimp only at hq hws
  have hA : At w.params [(ni,it,itmS (b0 + 1107) K c a k),(na,acc,listO ys ea),(nL,L,dictO (esOf #[] (es1M w.params) q) ed),(n1,b0 + 1107,cntO dd (esN w K c a) K),(n2,cm,cellO (.int (M : Nat) tM))] s:=hA
  have hzs : ys.size ≤ sizeLine:=by
   rw [hws.1]
   have:=modesTo_len c M k
   omega
  have ne : ∀ {x y : Nat × Nat × Obj},x ∈ [(ni,it,itmS (b0 + 1107) K c a k),(na,acc,listO ys ea),(nL,L,dictO (esOf #[] (es1M w.params) q) ed),(n1,b0 + 1107,cntO dd (esN w K c a) K),(n2,cm,cellO (.int (M : Nat) tM))] → y ∈ [(ni,it,itmS (b0 + 1107) K c a k),(na,acc,listO ys ea),(nL,L,dictO (esOf #[] (es1M w.params) q) ed),(n1,b0 + 1107,cntO dd (esN w K c a) K),(n2,cm,cellO (.int (M : Nat) tM))] → x.1 ≠ y.1 → x.2.1 ≠ y.2.1:=fun hx hy hne e=>hne (hA.inj _ hx _ hy e)
  have hn0:=hn
  simp only [List.nodup_cons,List.mem_cons,List.not_mem_nil,or_false,not_or] at hn
  rw [wpCode_iff_wp,hcode]
  show wp (md w) Γ (denote table (cMM it acc L cm fr)) _ _ p s
  rw [mm_tree]
  have hsub : ∀ x,x ∈ (nxD w ni n1 it b0 dd K k c a).need π → x ∈ [(ni,it,itmS (b0 + 1107) K c a k),(na,acc,listO ys ea),(nL,L,dictO (esOf #[] (es1M w.params) q) ed),(n1,b0 + 1107,cntO dd (esN w K c a) K),(n2,cm,cellO (.int (M : Nat) tM))]:=fa_cons (.head _) (fa_cons (List.mem_of_getElem? (i:=3) rfl) fa_nil)
  have hA0 : At w.params ((nxD w ni n1 it b0 dd K k c a).need π) s:=⟨fun x hx=>hA.get x (hsub x hx),fun x hx=>hA.sep x (hsub x hx),fun x hx y hy e=>hA.inj x (hsub x hx) y (hsub y hy) e⟩
  have hT : s.TypeIs (.ref it) "dict_itemiterator":=by
   have g:=hA.get _ (.head _)
   cases k with
   | zero=>exact ⟨_,g,rfl⟩
   | succ k=>exact ⟨_,g,rfl⟩
  refine own_wp (D:=D) (U:=U) (π:=π) (d:=nxD w ni n1 it b0 dd K k c a) (T:="dict_itemiterator") (id:="dict_itemiterator.__next__") (ad:=fun u=>u.a 0) (vs:=fun u=>itmW (rawInt (u.a 0)) (b0 + 1107) K c a k) Fi (by rw [hcode];rfl) (nxD_ok (by omega) (by omega) hK lt hn.1.2.2.1) rfl (fun _=>rfl) rfl ho hz hA0 F.slot_dict_itemiterator_next hT (by decide) tMM_is (fun u=>⟨ni,.head _⟩) (fun _ _=>rfl) fun u s1 p1 hp _=>?_
  rw [(mmT it acc L cm fr (.ref (u.a 0))).2]
  have hup : ∀ x ∈ [((ni,it,⟨.type "dict_itemiterator",none,.fields (itmW (rawInt (u.a 0)) (b0 + 1107) K c a k),#[]⟩) : Nat × Nat × Obj),(n1,b0 + 1107,cntO dd (esN w K c a) K)],s1.heap.get? x.2.1 = some x.2.2:=hp.upd
  have hke : ∀ b v,s.heap.get? b = some v → (∀ x ∈ [((ni,it,⟨.type "dict_itemiterator",none,.fields (itmW (rawInt (u.a 0)) (b0 + 1107) K c a k),#[]⟩) : Nat × Nat × Obj),(n1,b0 + 1107,cntO dd (esN w K c a) K)],b ≠ x.2.1) → s1.heap.get? b = some v:=hp.keep
  have hou : ∀ x ∈ [((u.a 0,pairO (c k).1 (a (2 * k)) (c k).2 (a (2 * k + 1))) : Nat × Obj)],s.heap.objs.size ≤ x.1 ∧ s1.heap.get? x.1 = some x.2:=hp.out
  obtain ⟨ho1,ho2⟩:=hou _ (.head _)
  have ho1 : s.heap.objs.size ≤ u.a 0:=ho1
  have hit1 : s1.heap.get? it = some ⟨.type "dict_itemiterator",none,.fields (itmW (rawInt (u.a 0)) (b0 + 1107) K c a k),#[]⟩:=hup _ (.head _)
  have hcn1 : s1.heap.get? (b0 + 1107) = some (cntO dd (esN w K c a) K):=hup _ (.tail _ (.head _))
  have k2 : ∀ b v,s.heap.get? b = some v → b ≠ it → b ≠ b0 + 1107 → s1.heap.get? b = some v:=fun b v hb h1 h2=>hke b v hb fun x hx=>by
   simp only [List.mem_cons,List.not_mem_nil,or_false] at hx
   rcases hx with rfl | rfl
   ·exact h1
   ·exact h2
  have git:=hA.get _ (.head _)
  have gac:=hA.get _ (.tail _ (.head _))
  have gL:=hA.get _ (.tail _ (.tail _ (.head _)))
  have gcn:=hA.get _ (.tail _ (.tail _ (.tail _ (.head _))))
  have gcm:=hA.get _ (.tail _ (.tail _ (.tail _ (.tail _ (.head _)))))
  have d1 : acc ≠ it:=fun e=>hn.1.1 (hA.inj (ni,it,_) (.head _) (na,acc,_) (.tail _ (.head _)) e.symm)
  have d2 : acc ≠ b0 + 1107:=fun e=>hn.2.1.2.1 (hA.inj (na,acc,_) (.tail _ (.head _)) (n1,b0 + 1107,_) (.tail _ (.tail _ (.tail _ (.head _)))) e)
  have d3 : L ≠ it:=fun e=>hn.1.2.1 (hA.inj (ni,it,_) (.head _) (nL,L,_) (.tail _ (.tail _ (.head _))) e.symm)
  have d4 : L ≠ b0 + 1107:=fun e=>hn.2.2.1.1 (hA.inj (nL,L,_) (.tail _ (.tail _ (.head _))) (n1,b0 + 1107,_) (.tail _ (.tail _ (.tail _ (.head _)))) e)
  have d5 : cm ≠ it:=fun e=>hn.1.2.2.2 (hA.inj (ni,it,_) (.head _) (n2,cm,_) (.tail _ (.tail _ (.tail _ (.tail _ (.head _))))) e.symm)
  have d6 : cm ≠ b0 + 1107:=fun e=>hn.2.2.2.1 (hA.inj (n1,b0 + 1107,_) (.tail _ (.tail _ (.tail _ (.head _)))) (n2,cm,_) (.tail _ (.tail _ (.tail _ (.tail _ (.head _))))) e.symm)
  have d7 : b0 + 1107 ≠ it:=fun e=>hn.1.2.2.1 (hA.inj (ni,it,_) (.head _) (n1,b0 + 1107,_) (.tail _ (.tail _ (.tail _ (.head _)))) e.symm)
  have d8 : u.a 0 ≠ it:=fun e=>by
   exact absurd (Heap.lt_size git) (Nat.not_lt.mpr (by show s.heap.objs.size ≤ it;rw [← e];exact ho1))
  have upo : ∀ b,b ≠ it → (s1.heap.update it (Obj.mapFields (·.setIfInBounds 0 .none))).get? b = s1.heap.get? b:=fun b hb=>Heap.get?_update_other _ _ (Ne.symm hb)
  have ups : (s1.heap.update it (Obj.mapFields (·.setIfInBounds 0 .none))).get? it = some (itmS (b0 + 1107) K c a (k + 1)):=Heap.get?_update_self _ hit1 rfl
  have O2 : Old w.params (s1.heap.update it (Obj.mapFields (·.setIfInBounds 0 .none))):=fun b o hb=>by
   have hb1 : b ≠ it:=fun e=>by rw [e] at hb;rw [show oldGet w.params it = none from hA.sep _ (.head _)] at hb;cases hb
   have hb2 : b ≠ b0 + 1107:=fun e=>by rw [e] at hb;rw [show oldGet w.params (b0 + 1107) = none from hA.sep _ (.tail _ (.tail _ (.tail _ (.head _))))] at hb;cases hb
   rw [upo b hb1]
   exact k2 b o (ho b o hb) hb1 hb2
  have hA2 : At w.params ([(ni,it,itmS (b0 + 1107) K c a (k + 1)),(na,acc,listO ys ea),(nL,L,dictO (esOf #[] (es1M w.params) q) ed),(n1,b0 + 1107,cntO dd (esN w K c a) K),(n2,cm,cellO (.int (M : Nat) tM))] ++ [(ni + na + nL + n1 + n2 + 1,u.a 0,pairO (c k).1 (a (2 * k)) (c k).2 (a (2 * k + 1)))]) { s1 with heap:=s1.heap.update it (Obj.mapFields (·.setIfInBounds 0 .none)) }:=by
   refine At.grow hA rfl rfl hz (fun x hx=>?_) ?_ ho1
   ·simp only [List.mem_cons,List.not_mem_nil,or_false] at hx
    rcases hx with rfl | rfl | rfl | rfl | rfl
    ·exact ups
    ·exact (upo _ d1).trans (k2 _ _ gac d1 d2)
    ·exact (upo _ d3).trans (k2 _ _ gL d3 d4)
    ·exact (upo _ d7).trans hcn1
    ·exact (upo _ d5).trans (k2 _ _ gcm d5 d6)
   ·exact (upo _ d8).trans ho2
  obtain ⟨b1,hb1⟩ : ∃ b1,(s1.heap.update it (Obj.mapFields (·.setIfInBounds 0 .none))).objs.size = b1 + 1106:=⟨(s1.heap.update it (Obj.mapFields (·.setIfInBounds 0 .none))).objs.size - 1106,by
   have q1:=hp.size
   rw [Heap.size_update]
   omega⟩
  have Keep2 : Keep (need.map (·.2.1)) s { s1 with heap:=s1.heap.update it (Obj.mapFields (·.setIfInBounds 0 .none)) }:=⟨hp.gens,hp.drawn,hp.os,by show _ ≤ (s1.heap.update it _).objs.size;rw [Heap.size_update];exact hp.size,fun b v hb hm=>by
   have m1 : b ≠ it:=fun e=>hm (by rw [e];simp [need,needC])
   have m2 : b ≠ b0 + 1107:=fun e=>hm (by rw [e];simp [need,needC,exMM])
   exact (upo b m1).trans (k2 b v hb m1 m2)⟩
  obtain ⟨b,hb⟩ : ∃ b,((c k).2 == M) = b:=⟨_,rfl⟩
  have hbm : b ∈ [true,false]:=by cases b <;> simp
  have key : ∃ (u' : Sup) (ed' : Nat),∀ σ : Nat → Sup,EndsR (rowMM w Γ.below b1 s1.toks σ p1 it acc L cm fr b0 dd (u.a 0) K k b c a ys ea (esOf #[] (es1M w.params) q) ed M tM (es1M w.params u') ed'):=by
   cases q with
   | none=>exact ⟨⟨0,0,fun i=>match i with | 2=>s1.toks | _=>s1.toks + 1,fun i=>match i with | 0=>sv (c k).1 (a (2 * k)) | _=>.int ((c k).2 : Nat) (a (2 * k + 1)),fun _=>#[],fun _=>#[],fun _=>#[]⟩,ed + 2,fun σ=>(runsMM w Γ.below b1 s1.toks σ p1 it acc L cm fr b0 dd (u.a 0) c a ys ea ed M tM 0 0 .none .none).at (List.mem_flatMap.mpr ⟨K,hK,List.mem_flatMap.mpr ⟨k,hk,List.mem_flatMap.mpr ⟨b,hbm,.head _⟩⟩⟩)⟩
   | some v=>exact ⟨⟨0,0,v.a,fun i=>match i with | 0=>sv (c k).1 (a (2 * k)) | _=>.int ((c k).2 : Nat) (a (2 * k + 1)),fun _=>#[],fun _=>#[],fun _=>#[]⟩,ed,fun σ=>(runsMM w Γ.below b1 s1.toks σ p1 it acc L cm fr b0 dd (u.a 0) c a ys ea ed M tM (v.a 2) (v.a 3) (v.v 0) (v.v 1)).at (List.mem_flatMap.mpr ⟨K,hK,List.mem_flatMap.mpr ⟨k,hk,List.mem_flatMap.mpr ⟨b,hbm,.tail _ (.head _)⟩⟩⟩)⟩
  obtain ⟨u',ed',key⟩:=key
  have hds : ∀ j d,(dsMM acc ys ea (c k).1 (a (2 * k)) (c k).2 (a (2 * k + 1)) M tM b)[j]? = some d → OrcOK w (D + 75) (U + 300) (dsMM acc ys ea (c k).1 (a (2 * k)) (c k).2 (a (2 * k + 1)) M tM b) j d:=orcs_all fun d hd π=>by
   cases b with
   | true=>
     revert d hd
     refine fa_cons ?_ (fa_cons ?_ (fa_nil))
     ·exact eq2_ok (decide_eq_true (by have:=eq_of_beq hb;omega))
     ·exact appD_ok hzs
   | false=>
     simp only [dsMM,List.mem_cons,List.not_mem_nil,or_false] at hd
     subst hd
     have hne : (c k).2 ≠ M:=fun e=>by rw [e] at hb;simp at hb
     exact eq2_ok (decide_eq_false (by omega))
  have hnum : ([ni,na,nL,n1,n2,ni + na + nL + n1 + n2 + 1] : List Nat).Nodup:=nodup5 hn0
  have hws' : Ws (modesTo c M (k + 1)) (accMM ys (c k).1 (a (2 * k)) b):=by
   rw [modesTo_succ,hb]
   cases b with
   | true=>exact hws.push _ _
   | false=>exact hws
  have y : Mn w Γ R [] (cMM it acc L cm fr) p1 (mmT it acc L cm fr (.ref (u.a 0))).1 { s1 with heap:=s1.heap.update it (Obj.mapFields (·.setIfInBounds 0 .none)) }:=by
   refine tree_go (D:=D + 75) (U:=U + 300) (l:=lMM b) (FB:=none) (ds:=dsMM acc ys ea (c k).1 (a (2 * k)) (c k).2 (a (2 * k + 1)) M tM b) (need:=[(ni,it,itmS (b0 + 1107) K c a (k + 1)),(na,acc,listO ys ea),(nL,L,dictO (esOf #[] (es1M w.params) q) ed),(n1,b0 + 1107,cntO dd (esN w K c a) K),(n2,cm,cellO (.int (M : Nat) tM))] ++ [(ni + na + nL + n1 + n2 + 1,u.a 0,pairO (c k).1 (a (2 * k)) (c k).2 (a (2 * k + 1)))])
    (vs:=[0,1,2,3,4]) (n1:=fun _=>b1 + 1106 + 3) (k1:=fun _=>s1.toks + 2) (t1:=fun _=>.pure (.again (cMM it acc L cm fr))) (obs:=fun σ=>(ksMM w it acc L cm b0 dd (itmS (b0 + 1107) K c a (k + 1)) K c a (accMM ys (c k).1 (a (2 * k)) b) (epMM ea ((σ 1).a 0) b) (es1M w.params u') ed' M tM).map some) Fi (by omega) (by omega) hds (fun _ h=>nomatch h) (fun σ=>?_) O2 (by simp) hA2 hnum rfl ?_
   ·show Ends (runT w.params Γ.below none (lMM b) _ (s1.heap.update it (Obj.mapFields (·.setIfInBounds 0 .none))).objs.size s1.toks _ _ p1 _) _ _
    rw [hb1]
    exact key σ
   ·intro σ s3 hf e1 e2 K3 O3 hA3 hfr
    refine TailOK.again (by kernel_rfl) (again_of hcode fun p2=>cont s3 p2 ⟨accMM ys (c k).1 (a (2 * k)) b,epMM ea ((σ 1).a 0) b,some u',ed'⟩ ?_ O3 ?_ ⟨by simp,hws'⟩)
    ·refine ⟨K3.gens.trans Keep2.gens,K3.drawn.trans Keep2.drawn,K3.os.trans Keep2.os,Nat.le_trans Keep2.size K3.size,fun b' v hb' hm=>K3.keep b' v (Keep2.keep b' v hb' hm) fun hm'=>?_⟩
     simp only [List.map_append,List.mem_append,List.map_cons,List.map_nil,List.mem_cons,List.not_mem_nil,or_false] at hm'
     rcases hm' with hm' | hm'
     ·exact hm (by simp only [need,needC,exMM,List.map_cons,List.map_nil,List.mem_cons,List.not_mem_nil,or_false];exact hm')
     ·exact absurd (Heap.lt_size hb') (Nat.not_lt.mpr (by rw [hm'];exact ho1))
    ·have z:=At.upd (fin:=[itmS (b0 + 1107) K c a (k + 1),listO (accMM ys (c k).1 (a (2 * k)) b) (epMM ea ((σ 1).a 0) b),dictO (es1M w.params u') ed',cntO dd (esN w K c a) K,cellO (.int (M : Nat) tM)]) hA hn0 rfl hA3
     exact z
  rw [Mn_is] at y
  have hgo : ctxK Γ [] (cMM it acc L cm fr) = Γ:=by show Γ.goto (cMM it acc L cm fr) = Γ;rw [← hcode];rfl
  rw [hgo] at y
  exact y
 ·intro B n t p d hn1 hG hB
  obtain ⟨ys,ea,q,ed⟩:=d
  cases q with
  | none=>have : K = 0:=hG.1.mp rfl
          omega
  | some u=>
    refine ⟨[],lMMe,[],fun σ=>⟨n + 2,t,fun i=>match i with | 0=>ea | 1=>ed | i + 2=>u.a (i + 2),u.v,fun _=>ys,u.e,u.s⟩,none_ok,(fun _ h=>nomatch h),List.nodup_nil,fun σ=>⟨rfl,rfl,?_⟩,fun σ _=>hG.2⟩
    exact (runsMMe w B n t p it acc L cm fr b0 dd c a ys ea ed M tM (es1M w.params u)).get (List.mem_map.mpr ⟨K,hK,rfl⟩)
end
section
open PySem.Builtin PySem.Builtin.Str
theorem entry_itemiter_iter : entryFor table "dict_itemiterator.__iter__" = some Builtin.«dict_keyiterator.__iter__»:=
 entryFor_alias (id':="dict_keyiterator.__iter__") (by kernel_rfl) rfl (by decide +kernel) (by kernel_rfl)
theorem self_items {w : World} {need : List (Nat × Nat × Obj)} {it : Addr} {ni : Nat} {vs : Array Value} (h : (ni,it,(⟨.type "dict_itemiterator",none,.fields vs,#[]⟩ : Obj)) ∈ need) : Self w need it:=fun A Q E s hp hQ=>by
 have hT : s.TypeIs (.ref it) "dict_itemiterator":=⟨_,hp.get _ h,rfl⟩
 refine wpAny_pyIter_slot hT F.slot_dict_itemiterator_iter (wpAny_call_entry F.slot_dict_itemiterator_iter hT entry_itemiter_iter ?_ (F.args_dict_itemiterator_iter_1 _))
 show wpAny _ _ (ret (.ref it)) _ _ s
 exact wpAny_pure ⟨_,rfl,"dict_itemiterator",_,hT,F.slot_dict_itemiterator_next.lookup,hQ⟩
noncomputable def compMMD (w : World) (ni na nL n1 n2 : Nat) (it acc L cm fr b0 dd : Addr) (K : Nat) (c : Nat → String × Nat) (a : Nat → Nat) (M tM ea0 ed0 : Nat) : OrcD:=
 compD (.compStart eMM 0 (.ref it) (.ref acc) (envMM L cm fr)) ni na nL it acc L (itmS (b0 + 1107) K c a 0) (itmE K c a) #[] ea0 #[] ed0 (exMM n1 n2 w cm b0 dd K c a M tM) (es1M w.params) (fun zs=>Ws (modesTo c M K) zs)
theorem compMM_ok {w : World} {D U : Nat} {π : Nat → Sup} (hD : D ≤ 615) (hU : U ≤ 8100) {ni na nL n1 n2 : Nat} {it acc L cm fr b0 dd : Addr} {K : Nat} {c : Nat → String × Nat} {a : Nat → Nat} {M tM ea0 ed0 : Nat} (hK : K ∈ [2,3,4]) (hn : [ni,na,nL,n1,n2].Nodup) :
 OrcAt w D U π (compMMD w ni na nL n1 n2 it acc L cm fr b0 dd K c a M tM ea0 ed0):=
 (start_any (by kernel_rfl) (self_items (ni:=ni) (.head _)) (compMM_any hD hU hK hn)).at
noncomputable def envMul (L cm : Addr) : Env:=⟨fS (dig [14] pw.main.body),L,3,[(q "maxcount",cm)],q "multimode.<locals>.",(some 327),r 326,(some L),0⟩
noncomputable def lMul : List St:=[G 24 0x144700017700,cm,G 11 0x10094,.orc,G 69 0x10aa0aba000a000a000a700a0a000a000a000a777,.orc,G 39 0x1dd0aa0aba000a000a000a788,cm,G 11 0x1eaadd,.orc,G 10 0x110f10f10f10f10f10f]
noncomputable def five (a b c d e : Nat) : Nat → Nat
 | 0=>a
 | 1=>b
 | 2=>c
 | 3=>d
 | _=>e
noncomputable def frMul (P : Params) (n t : Nat) (l : Addr) : FrM:=⟨n,#[E P "data" t (.ref l)],1,#[]⟩
noncomputable def dsMul (w : World) (n t : Nat) (l : Addr) (xs : Array Value) (ex K M N : Nat) (c : Nat → String × Nat) (g h : FrM) (eR eW : Env) : List OrcD:=
 [ctrD true w (five 5 0 3 1 2) (n + 2) l xs ex K c N (frMul w.params n t l) g h (envMul n (n + 1)) eR eW,
  dep 0 fun π=>maxVD w 8 6 (π 0).n ((π 0).a 20) ((π 0).a 20 + 1106) c (π 0).a K M,
  dep 0 fun π=>compMMD w 10 11 12 6 4 ((π 1).n + 1) ((π 1).n + 2) ((π 1).n + 3) (n + 1) n ((π 0).a 20) ((π 0).a 20 + 1106) K c (π 0).a M ((π 1).a 0) 0 0]
theorem runsMul (w : World) (B : List (Code × Pos)) (b t : Nat) (σ : Nat → Sup) (p : Pos) (l : Addr) (xs : Array Value) (ex M N : Nat) (c : Nat → String × Nat) (g h : FrM) (eR eW : Env) : Runs ([2,3,4].map fun K=>
 (runF w.params B (some (.envs [eR,eW])) lMul [(l,listO xs ex),(g.L,g.o),(h.L,h.o)] (b + 1106) t (osAt σ 0 (dsMul w (b + 1106) t l xs ex K M N c g h eR eW)) (.call (.ref 327) ⟨[.ref l],[]⟩) p,[0,1,2,11],
  (dn (.ref ((σ 1).n + 2)),[],[some (l,listO xs ex),some (g.L,frO g.es g.ep ((σ 0).s 1)),some (h.L,frO h.es h.ep ((σ 0).s 2)),some ((σ 1).n + 2,listO ((σ 2).x 0) ((σ 2).a 0))],(σ 2).n,(σ 2).t))):=by unfold Runs;kernel_rfl
noncomputable def cOf (ls : List String) : Nat → String × Nat:=fun i=>(counter ls).getD i ("",0)
noncomputable def topOf (ls : List String) : Nat:=maxOf ((counter ls).map (·.2))
noncomputable def modesOf (ls : List String) : List String:=modesTo (cOf ls) (topOf ls) (counter ls).length
theorem cOf_mem {ls : List String} {j : Nat} (h : j < (counter ls).length) : cOf ls j ∈ counter ls:=by
 unfold cOf
 rw [List.getD_eq_getElem?_getD,List.getElem?_eq_getElem h]
 exact List.getElem_mem h
theorem top_le {ls : List String} {j : Nat} (h : j < (counter ls).length) : (cOf ls j).2 ≤ topOf ls:=
 maxOf_ge (List.mem_map.mpr ⟨_,cOf_mem h,rfl⟩)
theorem top_at {ls : List String} (h : 0 < (counter ls).length) : ∃ j,j < (counter ls).length ∧ (cOf ls j).2 = topOf ls:=by
 obtain ⟨x,hx,e⟩:=List.mem_map.mp (maxOf_mem (l:=(counter ls).map (·.2)) (by simpa using h))
 obtain ⟨j,hj,rfl⟩:=List.mem_iff_getElem.mp hx
 refine ⟨j,hj,?_⟩
 unfold cOf
 rw [List.getD_eq_getElem?_getD,List.getElem?_eq_getElem hj]
 exact e
noncomputable def mulNeed (nl n1 n2 : Nat) (l : Addr) (xs : Array Value) (ex : Nat) (g h : FrM) : List (Nat × Nat × Obj):=[(nl,l,listO xs ex),(n1,g.L,g.o),(n2,h.L,h.o)]
noncomputable def mulD (nl n1 n2 : Nat) (l : Addr) (xs : Array Value) (ex : Nat) (g h : FrM) (eR eW : Env) (ls : List String) : OrcD:=
 fnF (some (.envs [eR,eW])) (fun _=>.call (.ref 327) ⟨[.ref l],[]⟩) (fun _=>mulNeed nl n1 n2 l xs ex g h) (fun _ u=>[listO xs ex,frO g.es g.ep (u.s 0),frO h.es h.ep (u.s 1)]) (fun _ u=>.ok (.ret (.ref (u.a 0)))) (fun _ u=>[(u.a 0,listO (u.x 0) (u.a 1))]) (fun _ u=>Ws (modesOf ls) (u.x 0))
theorem mulD_ok {w : World} {D U : Nat} {π : Nat → Sup} (hD : D ≤ 540) (hU : U ≤ 7800) {nl n1 n2 : Nat} {l : Addr} {xs : Array Value} {ex : Nat} {g h : FrM} {eR eW : Env} {ls : List String} (hw : Ws ls xs) (h6 : ∀ x ∈ ls,x ∈ six) (hsz : ls.length ≤ 60) (hK : (counter ls).length ∈ [2,3,4])
 (hR : FrmOK eR g) (hW : FrmOK eW h) (hn : [nl,n1,n2].Nodup) : OrcAt w D U π (mulD nl n1 n2 l xs ex g h eR eW ls):=by
 refine OrcAny.at ?_
 unfold mulD
 refine fnF_any (need:=fun _=>mulNeed nl n1 n2 l xs ex g h) (by omega) (by omega) rfl hn (by simp [mulNeed]) fun B n t p hN=>?_
 obtain ⟨b,rfl⟩ : ∃ b,n = b + 1106:=⟨n - 1106,by omega⟩
 obtain ⟨K1,hK1⟩ : ∃ k,(counter ls).length = k + 1:=⟨(counter ls).length - 1,by simp at hK;omega⟩
 refine ⟨dsMul w (b + 1106) t l xs ex (counter ls).length (topOf ls) ls.length (cOf ls) g h eR eW,lMul,[11],fun σ=>⟨(σ 2).n,(σ 2).t,fun i=>match i with | 0=>(σ 1).n + 2 | _=>(σ 2).a 0,fun _=>.none,fun _=>(σ 2).x 0,fun _=>#[],fun i=>match i with | 0=>(σ 0).s 1 | _=>(σ 0).s 2⟩,orcs_of ?_,(fun v hv=>by rcases List.mem_singleton.mp hv with rfl;simp [mulNeed]),by simp,fun σ=>⟨rfl,rfl,(runsMul w B b t σ p l xs ex (topOf ls) ls.length (cOf ls) g h eR eW).get (List.mem_map.mpr ⟨_,hK,rfl⟩)⟩,fun σ hF=>hF 2 _ rfl⟩
 intro j d hd' π hF'
 obtain ⟨J,M,hJ,hM,hd,hF⟩:=genJ hd' hF'
 clear hd' hF'
 match j,hd with
 | 0,hd=>subst hM;cases hd;exact ctrD_ok (by omega) (by omega) hw h6 hsz rfl (by simp at hK;omega) ⟨rfl,by show (fS (dig [14] pw.main.body)).kind ≠ .module;rw [show (fS (dig [14] pw.main.body)).kind = .function from by kernel_rfl];intro h;cases h⟩ hR hW (by decide)
 | 1,hd=>
   subst hM;cases hd
   refine dep_at ?_
   rw [hK1]
   exact maxVD_ok (by omega) (by omega) (by rw [← hK1];exact hK) (by rw [← hK1];exact top_at (by omega)) (by rw [← hK1];exact fun j hj=>top_le hj) (by decide)
 | 2,hd=>subst hM;cases hd;exact dep_at (compMM_ok (by omega) (by omega) hK (by decide))
 | j + 3,hd=>subst hM;exact nomatch (show none = some d from hd)
noncomputable def collD (nl : Nat) (l : Addr) (xs : Array Value) (ex : Nat) : OrcD:=
 ⟨fun _=>.builtin "proto.collect" ⟨[.ref l],[]⟩,fun _=>[(nl,l,listO xs ex)],fun _ u=>.ok (.ret (.ref (u.a 0))),fun _ _=>[],fun _ u=>[(u.a 0,listO xs (u.a 1))],fun _ u=>some (u.n,u.t),fun _ _=>True,fun _=>none,0⟩
theorem collD_ok {w : World} {D U : Nat} {π : Nat → Sup} {nl : Nat} {l : Addr} {xs : Array Value} {ex : Nat} (hsz : xs.size ≤ sizeLine) : OrcAt w D U π (collD nl l xs ex):=by
 refine OrcAt.of_code (fun s ho hz hp=>?_)
 have h1 : s.heap.get? l = some (listO xs ex):=hp.get _ (.head _)
 have hlt:=Heap.lt_size h1
 refine codeAny_builtin entry_proto_collect' ?_
 show wpAny _ _ (do again (.builtin "list.__iadd__" ⟨[← newList [],.ref l],[]⟩)) _ _ s
 refine wpAny_bind (wpAny_newList (wpAny_pure ⟨Code.quiet_builtin _ (by decide +kernel),codeAny_builtin entry_list_iadd' ?_⟩))
 show wpAny _ _ (Builtin.List.listExtendWith (.ref s.heap.objs.size) (.ref l) (.ref s.heap.objs.size)) _ _ { s with heap:=s.heap.push (listO #[] 0) }
 unfold Builtin.List.listExtendWith
 have ho' : (s.heap.push (listO #[] 0)).get? l = some (listO xs ex):=Heap.get?_push_of_some _ h1
 have hn : (s.heap.push (listO #[] 0)).get? s.heap.objs.size = some (listO #[] 0):=Heap.get?_push_size _ rfl
 refine wpAny_bind (wpAny_typeOf (T:="list") ⟨_,ho',rfl⟩ ?_)
 have ht : (Value.type "list" == Value.type "list") = true:=by rfl
 rw [if_pos (by rw [ht];simp)]
 refine wpAny_bind (listItems_at ho' rfl ?_)
 refine wpAny_bind (listItems_at (xs:=#[]) (n:=0) hn rfl ?_)
 rw [if_neg (by simp)]
 refine wpAny_bind (listUpdate_at (xs:=#[]) (n:=0) hn rfl ?_ (Nat.zero_le _) (by show (#[] ++ xs).size ≤ sizeLine + 1;simp only [Array.size_append,List.size_toArray,List.length_nil];omega))
 obtain ⟨e,he⟩ : ∃ e,((s.heap.push (listO #[] 0)).update s.heap.objs.size (Obj.mapSeq (· ++ xs))).get? s.heap.objs.size = some (listO xs e):=by
  obtain ⟨n',hd'⟩:=Obj.data_mapSeq (o:=listO #[] 0) rfl (· ++ xs)
  refine ⟨n',(Heap.get?_update_self _ hn (Obj.isFreed_of_seq hd')).trans ?_⟩
  have h3 : (Obj.mapSeq (· ++ xs) (listO #[] 0)).data = .seq (#[] ++ xs) n':=hd'
  rw [Array.empty_append] at h3
  have : Obj.mapSeq (· ++ xs) (listO #[] 0) = listO xs n':=by
   show Obj.mk _ _ _ _ = _
   exact congrArg (fun d=>Obj.mk (.type "list") none d #[]) h3
  rw [this]
 refine wpAny_pure ⟨⟨s.heap.objs.size + 1,s.toks,fun i=>match i with | 0=>s.heap.objs.size | _=>e,fun _=>.none,fun _=>#[],fun _=>#[],fun _=>#[]⟩,rfl,⟨rfl,rfl,rfl,?_,fun b v hb _=>?_,(fun _ h=>nomatch h),fun x hx=>?_,by simp [OrcD.at,collD],⟨?_,rfl⟩⟩,trivial⟩
 ·show _ ≤ ((s.heap.push _).update _ _).objs.size
  rw [Heap.size_update,Heap.size_push];omega
 ·show ((s.heap.push _).update _ _).get? b = _
  rw [Heap.get?_update_other _ _ (Nat.ne_of_gt (Heap.lt_size hb))]
  exact Heap.get?_push_of_some _ hb
 ·rcases List.mem_singleton.mp (show x ∈ [_] from hx) with rfl
  exact ⟨Nat.le_refl _,he⟩
 ·show ((s.heap.push _).update _ _).objs.size = _
  rw [Heap.size_update,Heap.size_push]
noncomputable def lvPre2 : List St:=[G 1 1,.orc,G 71 0x1aaaa66666c1cc00aaa55555b1bb008888887]
noncomputable def lv2 : List (List (Nat × Nat × Bool) × List Nat × List St):=[
 ([(0,1,false)],[0,1],[cm,.orc,G 10 0x18888aaa]),
 ([(0,1,true)],[1,0],[cm,.orc,G 11 0x18888aaa])]
noncomputable def lvPre3 : List St:=[G 1 1,.orc,G 99 0x1bbbb77777e1ee00bbb66666d1dd00bbb55555c1cc009999998]
noncomputable def lv3 : List (List (Nat × Nat × Bool) × List Nat × List St):=[
 ([(1,2,false),(0,1,false)],[0,1,2],[cm,.orc,cm,.orc,G 11 0x19999bbb]),
 ([(1,2,true),(0,1,false),(1,0,false)],[2,0,1],[cm,.orc,G 1 1,cm,.orc,cm,.orc,G 11 0x19999bbb]),
 ([(1,2,false),(0,1,true),(2,1,true),(0,1,true),(0,2,false)],[1,0,2],[cm,.orc,cm,.orc,cm,.orc,G 1 1,cm,.orc,cm,.orc,G 11 0x19999bbb]),
 ([(1,2,false),(0,1,true),(2,1,false)],[1,2,0],[cm,.orc,cm,.orc,cm,.orc,G 12 0x19999bbb]),
 ([(1,2,true),(0,1,true)],[2,1,0],[cm,.orc,G 1 1,cm,.orc,G 11 0x19999bbb]),
 ([(1,2,false),(0,1,true),(2,1,true),(0,1,true),(0,2,true)],[1,2,0],[cm,.orc,cm,.orc,cm,.orc,G 1 1,cm,.orc,cm,.orc,G 11 0x19999bbb]),
 ([(1,2,true),(0,1,false),(1,0,true),(0,2,false)],[0,2,1],[cm,.orc,G 1 1,cm,.orc,cm,.orc,cm,.orc,G 11 0x19999bbb]),
 ([(1,2,true),(0,1,false),(1,0,true),(0,2,true),(0,2,true),(0,1,false)],[2,0,1],[cm,.orc,G 1 1,cm,.orc,cm,.orc,cm,.orc,G 1 1,cm,.orc,cm,.orc,G 11 0x19999bbb])]
noncomputable def lvPre4 : List St:=[G 1 1,.orc,G 127 0x1cccc8888810f110f10f00ccc777770ff10ff0ff00ccc66666e1ee00ccc55555d1dd00aaaaaa9]
noncomputable def lv4 : List (List (Nat × Nat × Bool) × List Nat × List St):=[
 ([(2,3,false),(1,2,false),(0,1,false)],[0,1,2,3],[cm,.orc,cm,.orc,cm,.orc,G 12 0x1aaaaccc]),
 ([(2,3,true),(1,2,false),(2,1,false),(0,1,false),(1,0,false)],[3,0,1,2],[cm,.orc,G 1 1,cm,.orc,cm,.orc,cm,.orc,cm,.orc,G 12 0x1aaaaccc]),
 ([(2,3,false),(1,2,true),(3,2,true),(1,2,true),(1,3,false),(0,1,false),(0,2,true)],[2,0,1,3],[cm,.orc,cm,.orc,cm,.orc,G 1 1,cm,.orc,cm,.orc,cm,.orc,cm,.orc,G 12 0x1aaaaccc]),
 ([(2,3,false),(1,2,true),(3,2,false),(0,1,false),(1,0,false)],[2,3,0,1],[cm,.orc,cm,.orc,cm,.orc,G 1 1,cm,.orc,cm,.orc,G 12 0x1aaaaccc]),
 ([(2,3,true),(1,2,true),(0,1,false),(1,0,false)],[3,2,0,1],[cm,.orc,G 1 1,cm,.orc,cm,.orc,cm,.orc,G 12 0x1aaaaccc]),
 ([(2,3,false),(1,2,true),(3,2,true),(1,2,true),(1,3,true),(0,3,true),(0,1,false)],[2,3,0,1],[cm,.orc,cm,.orc,cm,.orc,G 1 1,cm,.orc,cm,.orc,cm,.orc,cm,.orc,G 12 0x1aaaaccc]),
 ([(2,3,false),(1,2,false),(0,1,true),(3,1,true),(0,2,false),(0,1,true)],[1,0,2,3],[cm,.orc,cm,.orc,cm,.orc,cm,.orc,G 1 1,cm,.orc,cm,.orc,G 12 0x1aaaaccc]),
 ([(2,3,true),(1,2,false),(2,1,true),(1,3,false),(0,1,true),(0,3,true),(0,2,false)],[1,3,0,2],[cm,.orc,G 1 1,cm,.orc,cm,.orc,cm,.orc,cm,.orc,G 1 1,cm,.orc,cm,.orc,G 12 0x1aaaaccc]),
 ([(2,3,true),(1,2,false),(2,1,true),(1,3,true),(1,3,true),(1,2,false),(0,1,true),(0,2,false)],[3,1,0,2],[cm,.orc,G 1 1,cm,.orc,cm,.orc,cm,.orc,G 1 1,cm,.orc,cm,.orc,cm,.orc,cm,.orc,G 12 0x1aaaaccc]),
 ([(2,3,false),(1,2,false),(0,1,true),(3,1,true),(0,2,true),(0,3,false)],[1,2,0,3],[cm,.orc,cm,.orc,cm,.orc,cm,.orc,G 1 1,cm,.orc,cm,.orc,G 12 0x1aaaaccc]),
 ([(2,3,false),(1,2,false),(0,1,true),(3,1,false)],[1,2,3,0],[cm,.orc,cm,.orc,cm,.orc,cm,.orc,G 13 0x1aaaaccc]),
 ([(2,3,true),(1,2,false),(2,1,false),(0,1,true)],[3,1,2,0],[cm,.orc,G 1 1,cm,.orc,cm,.orc,cm,.orc,G 12 0x1aaaaccc]),
 ([(2,3,false),(1,2,true),(3,2,true),(1,2,true),(1,3,false),(0,1,true),(0,3,false)],[2,1,0,3],[cm,.orc,cm,.orc,cm,.orc,G 1 1,cm,.orc,cm,.orc,cm,.orc,cm,.orc,G 12 0x1aaaaccc]),
 ([(2,3,false),(1,2,true),(3,2,true),(1,2,true),(1,3,false),(0,1,true),(0,3,true)],[2,1,3,0],[cm,.orc,cm,.orc,cm,.orc,G 1 1,cm,.orc,cm,.orc,cm,.orc,cm,.orc,G 12 0x1aaaaccc]),
 ([(2,3,false),(1,2,true),(3,2,false),(0,1,true)],[2,3,1,0],[cm,.orc,cm,.orc,cm,.orc,G 1 1,cm,.orc,G 12 0x1aaaaccc]),
 ([(2,3,true),(1,2,true),(0,1,true)],[3,2,1,0],[cm,.orc,G 1 1,cm,.orc,cm,.orc,G 12 0x1aaaaccc]),
 ([(2,3,false),(1,2,true),(3,2,true),(1,2,true),(1,3,true),(0,3,true),(0,1,true)],[2,3,1,0],[cm,.orc,cm,.orc,cm,.orc,G 1 1,cm,.orc,cm,.orc,cm,.orc,cm,.orc,G 12 0x1aaaaccc]),
 ([(2,3,false),(1,2,false),(0,1,true),(3,1,true),(0,2,true),(0,3,true)],[1,2,3,0],[cm,.orc,cm,.orc,cm,.orc,cm,.orc,G 1 1,cm,.orc,cm,.orc,G 12 0x1aaaaccc]),
 ([(2,3,true),(1,2,false),(2,1,true),(1,3,false),(0,1,true),(0,3,true),(0,2,true)],[1,3,2,0],[cm,.orc,G 1 1,cm,.orc,cm,.orc,cm,.orc,cm,.orc,G 1 1,cm,.orc,cm,.orc,G 12 0x1aaaaccc]),
 ([(2,3,true),(1,2,false),(2,1,true),(1,3,true),(1,3,true),(1,2,false),(0,1,true),(0,2,true)],[3,1,2,0],[cm,.orc,G 1 1,cm,.orc,cm,.orc,cm,.orc,G 1 1,cm,.orc,cm,.orc,cm,.orc,cm,.orc,G 12 0x1aaaaccc]),
 ([(2,3,true),(1,2,false),(2,1,false),(0,1,false),(1,0,true),(0,3,false)],[0,3,1,2],[cm,.orc,G 1 1,cm,.orc,cm,.orc,cm,.orc,cm,.orc,cm,.orc,G 12 0x1aaaaccc]),
 ([(2,3,true),(1,2,false),(2,1,false),(0,1,false),(1,0,true),(0,3,true),(0,1,false),(0,3,true)],[3,0,1,2],[cm,.orc,G 1 1,cm,.orc,cm,.orc,cm,.orc,cm,.orc,cm,.orc,G 1 1,cm,.orc,cm,.orc,G 12 0x1aaaaccc]),
 ([(2,3,false),(1,2,true),(3,2,true),(1,2,true),(1,3,false),(0,1,false),(0,2,false)],[0,2,1,3],[cm,.orc,cm,.orc,cm,.orc,G 1 1,cm,.orc,cm,.orc,cm,.orc,cm,.orc,G 12 0x1aaaaccc]),
 ([(2,3,false),(1,2,true),(3,2,false),(0,1,false),(1,0,true),(0,2,false)],[0,2,3,1],[cm,.orc,cm,.orc,cm,.orc,G 1 1,cm,.orc,cm,.orc,cm,.orc,G 12 0x1aaaaccc]),
 ([(2,3,true),(1,2,true),(0,1,false),(1,0,true),(0,3,true),(0,2,false),(0,3,true)],[3,0,2,1],[cm,.orc,G 1 1,cm,.orc,cm,.orc,cm,.orc,cm,.orc,G 1 1,cm,.orc,cm,.orc,G 12 0x1aaaaccc]),
 ([(2,3,false),(1,2,true),(3,2,true),(1,2,true),(1,3,true),(0,3,false),(0,2,true)],[2,0,3,1],[cm,.orc,cm,.orc,cm,.orc,G 1 1,cm,.orc,cm,.orc,cm,.orc,cm,.orc,G 12 0x1aaaaccc]),
 ([(2,3,false),(1,2,true),(3,2,false),(0,1,false),(1,0,true),(0,2,true),(0,3,true),(0,1,false)],[2,3,0,1],[cm,.orc,cm,.orc,cm,.orc,G 1 1,cm,.orc,cm,.orc,cm,.orc,G 1 1,cm,.orc,cm,.orc,G 12 0x1aaaaccc]),
 ([(2,3,true),(1,2,true),(0,1,false),(1,0,true),(0,3,true),(0,2,true),(0,1,false)],[3,2,0,1],[cm,.orc,G 1 1,cm,.orc,cm,.orc,cm,.orc,cm,.orc,G 1 1,cm,.orc,cm,.orc,G 12 0x1aaaaccc]),
 ([(2,3,true),(1,2,false),(2,1,true),(1,3,false),(0,1,false)],[0,1,3,2],[cm,.orc,G 1 1,cm,.orc,cm,.orc,cm,.orc,cm,.orc,G 12 0x1aaaaccc]),
 ([(2,3,true),(1,2,false),(2,1,true),(1,3,true),(1,3,true),(1,2,false),(0,1,false),(0,3,true)],[3,0,1,2],[cm,.orc,G 1 1,cm,.orc,cm,.orc,cm,.orc,G 1 1,cm,.orc,cm,.orc,cm,.orc,cm,.orc,G 12 0x1aaaaccc]),
 ([(2,3,true),(1,2,false),(2,1,true),(1,3,false),(0,1,true),(0,3,false),(0,1,true)],[1,0,3,2],[cm,.orc,G 1 1,cm,.orc,cm,.orc,cm,.orc,cm,.orc,G 1 1,cm,.orc,cm,.orc,G 12 0x1aaaaccc]),
 ([(2,3,true),(1,2,true),(0,1,false),(1,0,true),(0,3,false)],[0,3,2,1],[cm,.orc,G 1 1,cm,.orc,cm,.orc,cm,.orc,cm,.orc,G 12 0x1aaaaccc]),
 ([(2,3,false),(1,2,true),(3,2,true),(1,2,true),(1,3,true),(0,3,false),(0,2,false)],[0,2,3,1],[cm,.orc,cm,.orc,cm,.orc,G 1 1,cm,.orc,cm,.orc,cm,.orc,cm,.orc,G 12 0x1aaaaccc]),
 ([(2,3,true),(1,2,false),(2,1,true),(1,3,true),(1,3,true),(1,2,false),(0,1,false),(0,3,false)],[0,3,1,2],[cm,.orc,G 1 1,cm,.orc,cm,.orc,cm,.orc,G 1 1,cm,.orc,cm,.orc,cm,.orc,cm,.orc,G 12 0x1aaaaccc])]
noncomputable def lvOf : Nat → List (List (Nat × Nat × Bool) × List Nat × List St)
 | 2=>lv2
 | 3=>lv3
 | _=>lv4
noncomputable def lvPre : Nat → List St
 | 2=>lvPre2
 | 3=>lvPre3
 | _=>lvPre4
noncomputable def ltDs (c : Nat → String × Nat) (a : Nat → Nat) : List (Nat × Nat × Bool) → List OrcD
 | []=>[]
 | x :: l=>lt2 ((c x.1).2 : Nat) ((c x.2.1).2 : Nat) (fun _=>a (2 * x.1 + 1)) (fun _=>a (2 * x.2.1 + 1)) x.2.2 :: ltDs c a l
noncomputable def rowOf (k : Nat) (v : Nat → Value) : Array Value:=((List.range k).map v).toArray
noncomputable def tupKs (K : Nat) (T : Nat → Addr) (c : Nat → String × Nat) (a : Nat → Nat) : List (Nat × Obj):=(List.range K).map fun i=>(T i,pairO (c i).1 (a (2 * i)) (c i).2 (a (2 * i + 1)))
noncomputable def sortC (l : Addr) : Code:=.call (.builtin "sorted") ⟨[.ref l],[(q "key",.ref 85),(q "reverse",.bool true)]⟩
theorem runsSP (w : World) (B : List (Code × Pos)) (n t : Nat) (σ : Nat → Sup) (p : Pos) (l : Addr) (ep : Nat) (T : Nat → Addr) (c : Nat → String × Nat) (a : Nat → Nat) : Runs ([2,3,4].flatMap fun K=>(lvOf K).map fun x=>
 (runC w.params B (lvPre K ++ x.2.2) ((l,listO (rowOf K fun i=>.ref (T i)) ep) :: tupKs K T c a) n t (osAt σ 0 (collD 0 l (rowOf K fun i=>.ref (T i)) ep :: ltDs c a x.1)) (sortC l) p,List.range (K + 1) ++ [K + 2],
  (dn (.ref (σ 0).n),[],((l,listO (rowOf K fun i=>.ref (T i)) ep) :: tupKs K T c a).map some ++ [some ((σ 0).n,listO (rowOf K fun i=>.ref (T (x.2.1.getD i 0))) 2)],(σ 0).n + (K + 3),(σ 0).t + 2 * K))):=by unfold Runs;kernel_rfl
noncomputable def vecs (n : Nat) : Nat → List (List Nat)
 | 0=>[[]]
 | k + 1=>(List.range n).flatMap fun i=>(vecs n k).map fun l=>i :: l
theorem vecs_mem {n : Nat} : ∀ (k : Nat) (l : List Nat),l.length = k → (∀ x ∈ l,x < n) → l ∈ vecs n k
 | 0,l,h,_=>by
   have : l = []:=List.eq_nil_of_length_eq_zero h
   subst this
   exact .head _
 | k + 1,[],h,_=>by simp at h
 | k + 1,x :: l,h,hx=>List.mem_flatMap.mpr ⟨x,List.mem_range.mpr (hx x (.head _)),List.mem_map.mpr ⟨l,vecs_mem k l (by simpa using h) fun y hy=>hx y (.tail _ hy),rfl⟩⟩
noncomputable def okLf (K : Nat) (r : Nat → Nat) (x : List (Nat × Nat × Bool) × List Nat × List St) : Bool:=
 (x.1.all fun y=>Nat.blt y.1 K && Nat.blt y.2.1 K && (Nat.blt (r y.1) (r y.2.1) == y.2.2)) && Nat.blt (x.2.1.getD 0 0) K && ((List.range K).all fun j=>Nat.ble (r j) (r (x.2.1.getD 0 0))) && ((List.range (x.2.1.getD 0 0)).all fun j=>Nat.blt (r j) (r (x.2.1.getD 0 0)))
theorem ok_all : ([2,3,4].all fun K=>(vecs (K + 1) K).all fun r=>(lvOf K).any (okLf K fun i=>r.getD i 0)) = true:=by decide +kernel
noncomputable def rank (K : Nat) (m : Nat → Nat) (i : Nat) : Nat:=(List.range K).countP fun x=>decide (m x < m i)
theorem countP_le_of {α : Type} (p q : α → Bool) : ∀ (l : List α),(∀ x ∈ l,p x = true → q x = true) → l.countP p ≤ l.countP q
 | [],_=>Nat.le_refl _
 | x :: l,h=>by
   have ih:=countP_le_of p q l fun y hy=>h y (.tail _ hy)
   have hx:=h x (.head _)
   rw [List.countP_cons,List.countP_cons]
   cases hp : p x <;> cases hq : q x <;> simp_all <;> omega
theorem countP_lt_of {α : Type} (p q : α → Bool) : ∀ (l : List α),(∀ x ∈ l,p x = true → q x = true) → (∃ x ∈ l,p x = false ∧ q x = true) → l.countP p < l.countP q
 | [],_,h=>by obtain ⟨x,hx,_⟩:=h;cases hx
 | x :: l,h,h2=>by
   have le:=countP_le_of p q l fun y hy=>h y (.tail _ hy)
   have hx:=h x (.head _)
   rw [List.countP_cons,List.countP_cons]
   obtain ⟨y,hy,h3,h4⟩:=h2
   rcases List.mem_cons.mp hy with rfl | hy
   ·rw [h3,h4];simp;omega
   ·have ih:=countP_lt_of p q l (fun z hz=>h z (.tail _ hz)) ⟨y,hy,h3,h4⟩
    cases hp : p x <;> cases hq : q x <;> simp_all <;> omega
theorem rank_lt {K : Nat} {m : Nat → Nat} {i j : Nat} (hi : i < K) : rank K m i < rank K m j ↔ m i < m j:=by
 constructor
 ·intro h
  refine Nat.lt_of_not_le fun hle=>?_
  have : rank K m j ≤ rank K m i:=countP_le_of _ _ _ fun x _ hx=>by
   have:=of_decide_eq_true hx
   exact decide_eq_true (by omega)
  omega
 ·intro h
  exact countP_lt_of _ _ _ (fun x _ hx=>by
   have:=of_decide_eq_true hx
   exact decide_eq_true (by omega)) ⟨i,List.mem_range.mpr hi,decide_eq_false (by omega),decide_eq_true h⟩
theorem rank_le {K : Nat} {m : Nat → Nat} {i : Nat} : rank K m i < K + 1:=by
 have:=List.countP_le_length (p:=fun x=>decide (m x < m i)) (l:=List.range K)
 simp at this
 unfold rank
 omega
theorem leaf_ex {K : Nat} (hK : K ∈ [2,3,4]) (m : Nat → Nat) : ∃ x ∈ lvOf K,(∀ y ∈ x.1,decide (m y.1 < m y.2.1) = y.2.2) ∧ x.2.1.getD 0 0 < K ∧ (∀ j,j < K → m j ≤ m (x.2.1.getD 0 0)) ∧ ∀ j,j < x.2.1.getD 0 0 → m j < m (x.2.1.getD 0 0):=by
 have z:=List.all_eq_true.mp ok_all K hK
 have z:=List.all_eq_true.mp z ((List.range K).map (rank K m)) (vecs_mem K _ (by simp) fun x hx=>by
  obtain ⟨i,_,rfl⟩:=List.mem_map.mp hx
  exact rank_le)
 obtain ⟨x,hx,hok⟩:=List.any_eq_true.mp z
 have gd : ∀ i,i < K → ((List.range K).map (rank K m)).getD i 0 = rank K m i:=fun i hi=>by
  rw [List.getD_eq_getElem?_getD,List.getElem?_map,List.getElem?_range hi];rfl
 unfold okLf at hok
 simp only [Bool.and_eq_true,List.all_eq_true] at hok
 obtain ⟨⟨⟨h1,h2⟩,h3⟩,h4⟩:=hok
 have h2' : x.2.1.getD 0 0 < K:=Nat.le_of_ble_eq_true h2
 refine ⟨x,hx,fun y hy=>?_,h2',fun j hj=>?_,fun j hj=>?_⟩
 ·obtain ⟨⟨a,b⟩,c⟩:=h1 y hy
  have a' : y.1 < K:=Nat.le_of_ble_eq_true a
  have b' : y.2.1 < K:=Nat.le_of_ble_eq_true b
  rw [gd _ a',gd _ b'] at c
  have c' : Nat.blt (rank K m y.1) (rank K m y.2.1) = y.2.2:=eq_of_beq c
  rw [← c']
  cases hb : Nat.blt (rank K m y.1) (rank K m y.2.1) with
  | true=>exact decide_eq_true ((rank_lt a').mp (Nat.le_of_ble_eq_true hb))
  | false=>
    refine decide_eq_false fun hm=>?_
    have:=Nat.ble_eq_true_of_le ((rank_lt (K:=K) (j:=y.2.1) a').mpr hm)
    have e : Nat.blt (rank K m y.1) (rank K m y.2.1) = true:=this
    rw [hb] at e;cases e
 ·have q:=h3 j (List.mem_range.mpr hj)
  rw [gd _ hj,gd _ h2'] at q
  have q':=Nat.le_of_ble_eq_true q
  refine Nat.le_of_not_lt fun hlt=>?_
  have:=(rank_lt (K:=K) (j:=j) h2').mpr hlt
  omega
 ·have q:=h4 j (List.mem_range.mpr hj)
  have hjK : j < K:=by omega
  rw [gd _ hjK,gd _ h2'] at q
  exact (rank_lt hjK).mp (Nat.le_of_ble_eq_true q)
noncomputable def firstA (K : Nat) (x : Value) (v : Nat → Value) : Array Value:=rowOf K fun i=>match i with
 | 0=>x
 | i + 1=>v (i + 1)
noncomputable def tupNeed (n0 K : Nat) (T : Nat → Addr) (c : Nat → String × Nat) (a : Nat → Nat) : List (Nat × Nat × Obj):=(List.range K).map fun i=>(n0 + i,T i,pairO (c i).1 (a (2 * i)) (c i).2 (a (2 * i + 1)))
noncomputable def sortPD (nl n0 : Nat) (l : Addr) (ep K J : Nat) (T : Nat → Addr) (c : Nat → String × Nat) (a : Nat → Nat) : OrcD:=
 fnD (fun _=>sortC l) (fun _=>(nl,l,listO (rowOf K fun i=>.ref (T i)) ep) :: tupNeed n0 K T c a) (fun _ _=>listO (rowOf K fun i=>.ref (T i)) ep :: (List.range K).map fun i=>pairO (c i).1 (a (2 * i)) (c i).2 (a (2 * i + 1))) (fun _ u=>.ok (.ret (.ref (u.a 0)))) (fun _ u=>[(u.a 0,listO (firstA K (.ref (T J)) u.v) 2)]) (fun _ _=>True)
theorem ltDs_ok {w : World} {D U : Nat} {c : Nat → String × Nat} {a : Nat → Nat} : ∀ (l : List (Nat × Nat × Bool)),(∀ y ∈ l,decide ((c y.1).2 < (c y.2.1).2) = y.2.2) → ∀ d ∈ ltDs c a l,∀ π,OrcAt w D U π d
 | [],_,d,h,_=>nomatch h
 | y :: l,hy,d,h,π=>by
   rcases List.mem_cons.mp (show d ∈ _ :: ltDs c a l from h) with rfl | h
   ·refine lt2_ok ?_
    rw [← hy y (.head _)]
    congr 1
    simp
   ·exact ltDs_ok l (fun z hz=>hy z (.tail _ hz)) d h π
theorem firstA_of (K J : Nat) (T : Nat → Addr) (g : Nat → Nat) (h : g 0 = J) : rowOf K (fun i=>.ref (T (g i))) = firstA K (.ref (T J)) fun i=>.ref (T (g i)):=by
 unfold firstA rowOf
 congr 1
 apply List.map_congr_left
 intro i _
 cases i with
 | zero=>rw [h]
 | succ i=>rfl
noncomputable def FirstMax (K : Nat) (m : Nat → Nat) (J : Nat) : Prop:=J < K ∧ (∀ j,j < K → m j ≤ m J) ∧ ∀ j,j < J → m j < m J
theorem FirstMax.uniq {K : Nat} {m : Nat → Nat} {I J : Nat} (h : FirstMax K m I) (h' : FirstMax K m J) : I = J:=by
 rcases Nat.lt_trichotomy I J with q | q | q
 ·have:=h'.2.2 I q
  have:=h.2.1 J h'.1
  omega
 ·exact q
 ·have:=h.2.2 J q
  have:=h'.2.1 I h.1
  omega
theorem tup_len (n0 K : Nat) (T : Nat → Addr) (c : Nat → String × Nat) (a : Nat → Nat) : (tupNeed n0 K T c a).length = K:=by simp [tupNeed]
theorem tup_ks (n0 K : Nat) (T : Nat → Addr) (c : Nat → String × Nat) (a : Nat → Nat) : (tupNeed n0 K T c a).map (·.2) = tupKs K T c a:=by
 unfold tupNeed tupKs
 rw [List.map_map];rfl
theorem sortPD_ok {w : World} {D U : Nat} {π : Nat → Sup} (hD : D ≤ 690) (hU : U ≤ 8400) {nl n0 : Nat} {l : Addr} {ep K J : Nat} {T : Nat → Addr} {c : Nat → String × Nat} {a : Nat → Nat} (hK : K ∈ [2,3,4]) (hJ : FirstMax K (fun i=>(c i).2) J) (hn : nl < n0) :
 OrcAt w D U π (sortPD nl n0 l ep K J T c a):=by
 have big : 1000 ≤ sizeLine:=by decide +kernel
 have K4 : K ≤ 4:=by simp at hK;omega
 obtain ⟨x,hx,h1,h2,h3,h4⟩:=leaf_ex hK fun i=>(c i).2
 have hJx : x.2.1.getD 0 0 = J:=FirstMax.uniq ⟨h2,h3,h4⟩ hJ
 unfold sortPD
 refine fn_ok (by omega) (by omega) rfl ?_ (by simp [tup_len];omega) fun B n t p hN=>?_
 ·rw [List.map_cons,List.nodup_cons]
  refine ⟨fun hm=>?_,?_⟩
  ·obtain ⟨y,hy,e⟩:=List.mem_map.mp hm
   obtain ⟨i,_,rfl⟩:=List.mem_map.mp hy
   have e : n0 + i = nl:=e
   omega
  ·unfold tupNeed
   rw [List.map_map]
   rw [List.nodup_iff_pairwise_ne,List.pairwise_map]
   exact List.nodup_range.imp fun hne e=>hne (by have e : n0 + _ = n0 + _:=e;omega)
 ·refine ⟨collD 0 l (rowOf K fun i=>.ref (T i)) ep :: ltDs c a x.1,lvPre K ++ x.2.2,[K + 2],fun σ=>⟨(σ 0).n + (K + 3),(σ 0).t + 2 * K,fun _=>(σ 0).n,fun i=>.ref (T (x.2.1.getD i 0)),fun _=>#[],fun _=>#[],fun _=>#[]⟩,orcs_all fun d hd π=>?_,(fun v hv=>by rcases List.mem_singleton.mp hv with rfl;simp [tup_len]),by simp,fun σ=>⟨by simp [tup_len],rfl,?_⟩,fun _ _=>trivial⟩
  ·rcases List.mem_cons.mp hd with rfl | hd
   ·exact collD_ok (by simp [rowOf];omega)
   ·exact ltDs_ok x.1 h1 d hd π
  ·have z:=(runsSP w B n t σ p l ep T c a).get (List.mem_flatMap.mpr ⟨K,hK,List.mem_map.mpr ⟨x,hx,rfl⟩⟩)
   rw [firstA_of K J T (fun i=>x.2.1.getD i 0) hJx] at z
   have e1 : ((nl,l,listO (rowOf K fun i=>Value.ref (T i)) ep) :: tupNeed n0 K T c a).map (·.2) = (l,listO (rowOf K fun i=>Value.ref (T i)) ep) :: tupKs K T c a:=by rw [List.map_cons,tup_ks]
   have e2 : ((nl,l,listO (rowOf K fun i=>Value.ref (T i)) ep) :: tupNeed n0 K T c a).length = K + 1:=by simp [tup_len]
   have e3 : ∀ o,obsOf ((nl,l,listO (rowOf K fun i=>Value.ref (T i)) ep) :: tupNeed n0 K T c a) (listO (rowOf K fun i=>Value.ref (T i)) ep :: (List.range K).map fun i=>pairO (c i).1 (a (2 * i)) (c i).2 (a (2 * i + 1))) [o] = ((l,listO (rowOf K fun i=>Value.ref (T i)) ep) :: tupKs K T c a).map some ++ [some o]:=fun o=>by
    unfold obsOf tupNeed tupKs
    simp [List.zipWith_map_left,List.zipWith_map_right]
   rw [e1,e2,e3]
   exact z
end
section
open PySem.Builtin PySem.Builtin.Str
open PySem.Sem (wp finPost)
theorem cut_any {fs : Option Fs} {w : World} {D U : Nat} {π : Nat → Sup} {c : Code} {need : List (Nat × Nat × Obj)} {fin : Sup → List Obj} {r : Sup → Result} {out : Sup → List (Nat × Obj)} {F : Sup → Prop} (mid : List Obj) (tA tB : Sem Fin)
 (hD : D + 75 ≤ 840) (hU : U + 300 ≤ 9000) (hc : c.isCaller = false) (hnum : (need.map (·.1)).Nodup) (hlen : need.length < 4096) (hm : mid.length = need.length) (heq : ∀ s,At w.params (updOf need mid) s → tA = tB)
 (h : ∀ (B : List (Code × Pos)) (n t : Nat) (p : Pos),1106 ≤ n → (∀ l,fs = some l → l.holds B) → X3 fun (l1 : List St) (n1 k1 : Nat)=>Ends (runF w.params B fs l1 (need.map (·.2)) n t [] c p) (List.range need.length) (tA,[],obsOf need mid [],n1,k1) ∧
  ∀ (p2 : Pos) (c2 : Code),X4 fun (ds : List OrcD) (l : List St) (on : List Nat) (V : (Nat → Sup) → Sup)=>(∀ j d,ds[j]? = some d → OrcOK w (D + 75) (U + 300) ds j d) ∧ (∀ v ∈ on,need.length ≤ v) ∧ on.Nodup ∧
    (∀ σ,(fin (V σ)).length = need.length ∧ (out (V σ)).length = on.length ∧ Ends (runT w.params B fs l ((updOf need mid).map (·.2)) n1 k1 (osAt σ 0 ds) c2 p2 tB) (List.range need.length ++ on) (endT (r (V σ)),[],obsOf need (fin (V σ)) (out (V σ)),(V σ).n,(V σ).t)) ∧
    ∀ σ,(∀ (i : Nat) (d : OrcD),ds[i]? = some d → d.F (tr i σ) (σ i)) → F (V σ)) :
 OrcAny w D U π (fnF fs (fun _=>c) (fun _=>need) (fun _=>fin) (fun _=>r) (fun _=>out) (fun _=>F)):=by
 refine ⟨rfl,?_⟩
 intro Γ p s hcode Fi hfs ho hz hA
 have hA : At w.params need s:=hA
 obtain ⟨l1,n1,k1,hr1,h2⟩:=h Γ.below s.heap.objs.size s.toks p hz hfs
 refine run_go (n1:=fun _=>n1) (k1:=fun _=>k1) (t1:=fun _=>tA) (obs:=fun _=>obsOf need mid []) (vs:=List.range need.length ++ []) (ds:=[]) Fi hD hU none_ok hcode hfs (fun σ=>by rw [List.append_nil];exact hr1) ho hlen hA hnum hc ?_
 intro σ0 s1 _ e1 e2 K O hA1 hfr p1 c1 hc1
 have hA2 : At w.params (updOf need mid) s1:=At.upd hA hnum hm hA1
 rw [heq s1 hA2]
 obtain ⟨ds,l,on,V,hds,hon,hnd,hrun,hF⟩:=h2 p1 c1
 have hob : ∀ (f : List Obj) (o : List (Nat × Obj)),obsOf (updOf need mid) f o = obsOf need f o:=fun f o=>by
  have : (updOf need mid).zipWith (fun x o=>(x.2.1,o)) f = need.zipWith (fun x o=>(x.2.1,o)) f:=by
   apply List.ext_getElem?
   intro i
   rw [List.getElem?_zipWith,List.getElem?_zipWith]
   by_cases hi : i < need.length
   ·rw [updOf_at hm hi,List.getElem?_eq_getElem hi]
    cases f[i]? <;> rfl
   ·have hl:=updOf_len hm
    rw [List.getElem?_eq_none (by omega : (updOf need mid).length ≤ i),List.getElem?_eq_none (by omega : need.length ≤ i)]
  unfold obsOf
  rw [this]
 refine tree_go (Γ:=Γ) (l:=l) (ds:=ds) (D:=D + 75) (U:=U + 300) (need:=updOf need mid) (n1:=fun σ=>(V σ).n) (k1:=fun σ=>(V σ).t) (t1:=fun σ=>endT (r (V σ))) (obs:=fun σ=>obsOf need (fin (V σ)) (out (V σ))) (vs:=List.range need.length ++ on) Fi hD hU hds hfs (fun σ=>by rw [e1,e2];exact (hrun σ).2.2) O (by rw [updOf_len hm];exact hlen) hA2 (by rw [updOf_nums hm];exact hnum) hc1 ?_
 intro σ s2 hf f1 f2 K2 O2 hA3 hfr2
 rw [updOf_adr hm] at K2
 rw [updOf_len hm] at hfr2
 refine TailOK.end ⟨V σ,rfl,?_,hF σ hf⟩
 have z:=fn_post (w:=w) (hrun σ).1 (hrun σ).2.1 hon hnd (K.trans K2) hA3 (fun x hx hk=>Nat.le_trans K.size (hfr2 x hx hk)) (c:=c) (r:=r (V σ)) fs
 rw [f1,f2] at z
 exact z
noncomputable abbrev itemsO (d : Addr) : Obj:=⟨.type "dict_items",none,.fields #[.ref d],#[]⟩
noncomputable def lLi1 : List St:=[G 6 0x144444]
noncomputable def lLi2 : Nat → List St
 | 2=>[G 3 0x1555,cm,G 94 0x1b777667777444777877777776677774447777777777777777766777744444455576655]
 | 3=>[G 3 0x1555,cm,G 117 0x1c777667777444787777777667777444777877777776677774447777777777777777766777744444455576655]
 | _=>[G 3 0x1555,cm,G 140 0x1d777667777444787777777667777444787777777667777444777877777776677774447777777777777777766777744444455576655]
theorem runsLi1 (w : World) (B : List (Code × Pos)) (n t : Nat) (p : Pos) (acc v b0 dd : Addr) (ea K : Nat) (c : Nat → String × Nat) (a : Nat → Nat) : Runs [
 (runC w.params B lLi1 [(acc,listO #[] ea),(v,itemsO (b0 + 1107)),(b0 + 1107,cntO dd (esN w K c a) K)] n t [] (.call (.builtin "list.__init__") ⟨[.ref acc,.ref v],[]⟩) p,[0,1,2],
  (PySem.W.Fast.tw8938917530802602619 (.ref acc) (.ref v) .none,[],[some (acc,listO #[] ea),some (v,itemsO (b0 + 1107)),some (b0 + 1107,cntO dd (esN w K c a) K)],n,t))]:=by unfold Runs;kernel_rfl
theorem runsLi2 (w : World) (B : List (Code × Pos)) (b t : Nat) (p : Pos) (c2 : Code) (acc v b0 dd : Addr) (ea : Nat) (c : Nat → String × Nat) (a : Nat → Nat) : Runs ([2,3,4].map fun K=>
 (runT w.params B none (lLi2 K) [(acc,listO #[] ea),(v,itemsO (b0 + 1107)),(b0 + 1107,cntO dd (esN w K c a) K)] (b + 1106) t [] c2 p (extTail acc v).1,[0,1,2] ++ (List.range K).map (· + 4),
  (dn .none,[],[some (acc,listO (rowOf K fun i=>.ref (b + 1107 + i)) (ea + (2 + K))),some (v,itemsO (b0 + 1107)),some (b0 + 1107,cntO dd (esN w K c a) K)] ++ (List.range K).map (fun i=>some (b + 1107 + i,pairO (c i).1 (a (2 * i)) (c i).2 (a (2 * i + 1)))),b + 1106 + (K + 3),t))):=by unfold Runs;kernel_rfl
noncomputable def liD (w : World) (n0 n1 n2 : Nat) (acc v b0 dd : Addr) (ea K : Nat) (c : Nat → String × Nat) (a : Nat → Nat) : OrcD:=
 fnF none (fun _=>.call (.builtin "list.__init__") ⟨[.ref acc,.ref v],[]⟩) (fun _=>[(n0,acc,listO #[] ea),(n1,v,itemsO (b0 + 1107)),(n2,b0 + 1107,cntO dd (esN w K c a) K)])
  (fun _ u=>[listO (rowOf K fun i=>.ref (u.a 0 + i)) (ea + (2 + K)),itemsO (b0 + 1107),cntO dd (esN w K c a) K]) (fun _ _=>.ok (.ret .none)) (fun _ u=>(List.range K).map fun i=>(u.a 0 + i,pairO (c i).1 (a (2 * i)) (c i).2 (a (2 * i + 1)))) (fun _ _=>True)
theorem liD_ok {w : World} {D U : Nat} {π : Nat → Sup} (hD : D ≤ 690) (hU : U ≤ 8400) {n0 n1 n2 : Nat} {acc v b0 dd : Addr} {ea K : Nat} {c : Nat → String × Nat} {a : Nat → Nat} (hK : K ∈ [2,3,4]) (hn : [n0,n1,n2].Nodup) : OrcAt w D U π (liD w n0 n1 n2 acc v b0 dd ea K c a):=by
 refine OrcAny.at ?_
 unfold liD
 refine cut_any (need:=[(n0,acc,listO #[] ea),(n1,v,itemsO (b0 + 1107)),(n2,b0 + 1107,cntO dd (esN w K c a) K)]) (c:=.call (.builtin "list.__init__") ⟨[.ref acc,.ref v],[]⟩) [listO #[] ea,itemsO (b0 + 1107),cntO dd (esN w K c a) K] (PySem.W.Fast.tw8938917530802602619 (.ref acc) (.ref v) .none) (extTail acc v).1 (by omega) (by omega) rfl hn (by simp) rfl (fun s hA=>?_) fun B n t p hN _=>?_
 ·have hne : acc ≠ v:=fun e=>by
   have z:=hA.inj (n0,acc,listO #[] ea) (List.mem_of_getElem? (i:=0) rfl) (n1,v,itemsO (b0 + 1107)) (List.mem_of_getElem? (i:=1) rfl) e
   simp only [List.nodup_cons,List.mem_cons,List.not_mem_nil,or_false,not_or] at hn
   exact hn.1.1 z
  exact (congrFun (congrFun (congrFun PySem.W.Fast.te8938917530802602619.symm (.ref acc)) (.ref v)) .none).trans ((extTail acc v).2 hne)
 ·obtain ⟨b,rfl⟩ : ∃ b,n = b + 1106:=⟨n - 1106,by omega⟩
  refine ⟨lLi1,b + 1106,t,(runsLi1 w B (b + 1106) t p acc v b0 dd ea K c a).get (.head _),fun p2 c2=>?_⟩
  refine ⟨[],lLi2 K,(List.range K).map (· + 4),fun σ=>⟨b + 1106 + (K + 3),t,fun _=>b + 1107,fun _=>.none,fun _=>#[],fun _=>#[],fun _=>#[]⟩,none_ok,(fun x hx=>?_),?_,fun σ=>⟨rfl,by simp,?_⟩,fun _ _=>trivial⟩
  ·obtain ⟨i,_,rfl⟩:=List.mem_map.mp hx
   simp only [List.length_cons,List.length_nil]
   omega
  ·rw [List.nodup_iff_pairwise_ne,List.pairwise_map]
   exact List.nodup_range.imp fun hne e=>hne (by omega)
  ·have z:=(runsLi2 w B b t p2 c2 acc v b0 dd ea c a).get (List.mem_map.mpr ⟨K,hK,rfl⟩)
   have e3 : obsOf [(n0,acc,listO #[] ea),(n1,v,itemsO (b0 + 1107)),(n2,b0 + 1107,cntO dd (esN w K c a) K)] [listO (rowOf K fun i=>Value.ref (b + 1107 + i)) (ea + (2 + K)),itemsO (b0 + 1107),cntO dd (esN w K c a) K] ((List.range K).map fun i=>(b + 1107 + i,pairO (c i).1 (a (2 * i)) (c i).2 (a (2 * i + 1)))) = [some (acc,listO (rowOf K fun i=>.ref (b + 1107 + i)) (ea + (2 + K))),some (v,itemsO (b0 + 1107)),some (b0 + 1107,cntO dd (esN w K c a) K)] ++ (List.range K).map (fun i=>some (b + 1107 + i,pairO (c i).1 (a (2 * i)) (c i).2 (a (2 * i + 1)))):=by
    unfold obsOf
    rw [List.map_append,List.map_map]
    rfl
   show Ends _ _ (_,[],obsOf _ _ _,_,_)
   rw [e3]
   exact z
end
section
open PySem.Builtin PySem.Builtin.Str
noncomputable def lMdH : Nat → List St
 | 2=>[G 23 0x144700017700,cm,G 11 0x10084,.orc,G 99 0x1dd09909a9000900090009b0000b00b1bbbb0000a90000900090009,.orc,G 15 0x1ddbbb,cm,G 118 0x1b12f10f10fd10f10f10f10f000ff0ff0ff0ff0ffb00bb10f10fd10f10f10f10f00eeeeeb00bb10f10fd10f10f10f10f10fd,cm,G 14 0x10b00,.orc]
 | 3=>[G 23 0x144700017700,cm,G 11 0x10084,.orc,G 99 0x1dd09909a9000900090009b0000b00b1bbbb0000a90000900090009,.orc,G 15 0x1ddbbb,cm,G 162 0x1b13f11f11fd11f11f11f11f0010f10f10f10f10fb00bb11f11fd11f11f11f11f000ff0ff0ff0ff0ffb00bb11f11fd11f11f11f11f00eeeeeb00bb11f11fd11f11f11f11f11fd,cm,G 14 0x10b00,.orc]
 | _=>[G 23 0x144700017700,cm,G 11 0x10084,.orc,G 99 0x1dd09909a9000900090009b0000b00b1bbbb0000a90000900090009,.orc,G 15 0x1ddbbb,cm,G 206 0x1b14f12f12fd12f12f12f12f0011f11f11f11f11fb00bb12f12fd12f12f12f12f0010f10f10f10f10fb00bb12f12fd12f12f12f12f000ff0ff0ff0ff0ffb00bb12f12fd12f12f12f12f00eeeeeb00bb12f12fd12f12f12f12f12fd,cm,G 14 0x10b00,.orc]
noncomputable def lMdT (K J : Nat) : List St:=[.go 57 [11,17 + K,17 + K,17 + K,17 + K,18 + K,18 + K,18 + K,18 + K,18 + K,17 + K,7,7,7,19 + K,19 + K,19 + K,19 + K,19 + K,14 + J,14 + J,14 + J,14 + J,14 + J]]
noncomputable def envMd (L : Addr) : Env:=⟨fS (dig [13] pw.main.body),L,3,[],q "mode.<locals>.",(some 322),r 321,(some L),0⟩
noncomputable def dsMd (w : World) (n t : Nat) (l : Addr) (xs : Array Value) (ex K J N : Nat) (c : Nat → String × Nat) (g h : FrM) (eR eW : Env) : List OrcD:=
 [ctrD true w (five 4 0 3 1 2) (n + 1) l xs ex K c N (frMul w.params n t l) g h (envMd n) eR eW,
  dep 0 fun π=>liD w 9 8 5 ((π 0).n + 2) ((π 0).n + 1) ((π 0).a 20) ((π 0).a 20 + 1106) 0 K c (π 0).a,
  dep 0 fun π=>sortPD 9 10 ((π 0).n + 2) (0 + (2 + K)) K J (fun i=>(π 1).a 0 + i) c (π 0).a]
theorem runsMd (w : World) (B : List (Code × Pos)) (b t : Nat) (σ : Nat → Sup) (p : Pos) (l : Addr) (xs : Array Value) (ex N : Nat) (c : Nat → String × Nat) (g h : FrM) (eR eW : Env) : Runs ([2,3,4].flatMap fun K=>(List.range K).map fun J=>
 (runF w.params B (some (.envs [eR,eW])) (lMdH K ++ lMdT K J) [(l,listO xs ex),(g.L,g.o),(h.L,h.o)] (b + 1106) t (osAt σ 0 (dsMd w (b + 1106) t l xs ex K J N c g h eR eW)) (.call (.ref 322) ⟨[.ref l],[]⟩) p,[0,1,2],
  (dn (sv (c J).1 ((σ 0).a (2 * J))),[],[some (l,listO xs ex),some (g.L,frO g.es g.ep ((σ 0).s 1)),some (h.L,frO h.es h.ep ((σ 0).s 2))],(σ 2).n + 2,(σ 2).t + 3))):=by unfold Runs;kernel_rfl
theorem firstMax_ex (m : Nat → Nat) : ∀ K,0 < K → ∃ J,FirstMax K m J
 | 1,_=>by
   refine ⟨0,by omega,fun j hj=>?_,fun j hj=>by omega⟩
   have e : j = 0:=by omega
   rw [e]
   exact Nat.le_refl _
 | K + 2,_=>by
   obtain ⟨J,h1,h2,h3⟩:=firstMax_ex m (K + 1) (by omega)
   by_cases h : m J < m (K + 1)
   ·refine ⟨K + 1,by omega,fun j hj=>?_,fun j hj=>?_⟩
    ·rcases Nat.lt_or_ge j (K + 1) with q | q
     ·have:=h2 j q;omega
     ·have : j = K + 1:=by omega
      subst this;exact Nat.le_refl _
    ·have:=h2 j hj;omega
   ·refine ⟨J,by omega,fun j hj=>?_,h3⟩
    rcases Nat.lt_or_ge j (K + 1) with q | q
    ·exact h2 j q
    ·have : j = K + 1:=by omega
     subst this;omega
theorem modesTo_nil {c : Nat → String × Nat} {M J : Nat} (h : ∀ j,j < J → (c j).2 < M) : modesTo c M J = []:=by
 unfold modesTo
 rw [List.map_eq_nil_iff,List.filter_eq_nil_iff]
 intro i hi
 have:=h i (List.mem_range.mp hi)
 simp
 omega
theorem modesTo_head {c : Nat → String × Nat} {M J : Nat} (h : ∀ j,j < J → (c j).2 < M) (hJ : (c J).2 = M) : ∀ k,J < k → ∃ l,modesTo c M k = (c J).1 :: l
 | 0,hk=>by omega
 | k + 1,hk=>by
   rcases Nat.lt_or_ge J k with q | q
   ·obtain ⟨l,e⟩:=modesTo_head h hJ k q
    rw [modesTo_succ,e]
    cases (c k).2 == M
    ·exact ⟨l,rfl⟩
    ·exact ⟨l ++ [(c k).1],rfl⟩
   ·have : J = k:=by omega
    subst this
    rw [modesTo_succ,modesTo_nil h,hJ]
    exact ⟨[],by simp⟩
theorem mode_first {ls : List String} {J : Nat} (hJ : FirstMax (counter ls).length (fun i=>(cOf ls i).2) J) : (modesOf ls).getD 0 "" = (cOf ls J).1:=by
 have hM : (cOf ls J).2 = topOf ls:=by
  obtain ⟨j,hj,e⟩:=top_at (ls:=ls) (by have:=hJ.1;omega)
  have q1 : (cOf ls j).2 ≤ (cOf ls J).2:=hJ.2.1 j hj
  have q2:=top_le (ls:=ls) hJ.1
  omega
 obtain ⟨l,e⟩:=modesTo_head (c:=cOf ls) (M:=topOf ls) (J:=J) (fun j hj=>by rw [← hM];exact hJ.2.2 j hj) hM (counter ls).length hJ.1
 unfold modesOf
 rw [e]
 rfl
noncomputable def modeD (nl n1 n2 : Nat) (l : Addr) (xs : Array Value) (ex : Nat) (g h : FrM) (eR eW : Env) (x : String) : OrcD:=
 fnF (some (.envs [eR,eW])) (fun _=>.call (.ref 322) ⟨[.ref l],[]⟩) (fun _=>mulNeed nl n1 n2 l xs ex g h) (fun _ u=>[listO xs ex,frO g.es g.ep (u.s 0),frO h.es h.ep (u.s 1)]) (fun _ u=>.ok (.ret (sv x (u.a 0)))) (fun _ _=>[]) (fun _ _=>True)
theorem modeD_ok {w : World} {D U : Nat} {π : Nat → Sup} (hD : D ≤ 540) (hU : U ≤ 7800) {nl n1 n2 : Nat} {l : Addr} {xs : Array Value} {ex : Nat} {g h : FrM} {eR eW : Env} {ls : List String} (hw : Ws ls xs) (h6 : ∀ x ∈ ls,x ∈ six) (hsz : ls.length ≤ 60) (hK : (counter ls).length ∈ [2,3,4])
 (hR : FrmOK eR g) (hW : FrmOK eW h) (hn : [nl,n1,n2].Nodup) : OrcAt w D U π (modeD nl n1 n2 l xs ex g h eR eW ((modesOf ls).getD 0 "")):=by
 refine OrcAny.at ?_
 obtain ⟨J,hJ⟩:=firstMax_ex (fun i=>(cOf ls i).2) (counter ls).length (by simp at hK;omega)
 rw [mode_first hJ]
 unfold modeD
 refine fnF_any (need:=fun _=>mulNeed nl n1 n2 l xs ex g h) (by omega) (by omega) rfl hn (by simp [mulNeed]) fun B n t p hN=>?_
 obtain ⟨b,rfl⟩ : ∃ b,n = b + 1106:=⟨n - 1106,by omega⟩
 refine ⟨dsMd w (b + 1106) t l xs ex (counter ls).length J ls.length (cOf ls) g h eR eW,lMdH (counter ls).length ++ lMdT (counter ls).length J,[],fun σ=>⟨(σ 2).n + 2,(σ 2).t + 3,fun _=>(σ 0).a (2 * J),fun _=>.none,fun _=>#[],fun _=>#[],fun i=>match i with | 0=>(σ 0).s 1 | _=>(σ 0).s 2⟩,orcs_of ?_,(fun v hv=>nomatch hv),List.nodup_nil,fun σ=>⟨rfl,rfl,(runsMd w B b t σ p l xs ex ls.length (cOf ls) g h eR eW).get (List.mem_flatMap.mpr ⟨_,hK,List.mem_map.mpr ⟨J,List.mem_range.mpr hJ.1,rfl⟩⟩)⟩,fun _ _=>trivial⟩
 intro j d hd π hF
 match j,hd with
 | 0,hd=>cases hd;exact ctrD_ok (by omega) (by omega) hw h6 hsz rfl (by simp at hK;omega) ⟨rfl,by show (fS (dig [13] pw.main.body)).kind ≠ .module;rw [show (fS (dig [13] pw.main.body)).kind = .function from by kernel_rfl];intro h;cases h⟩ hR hW (by decide)
 | 1,hd=>cases hd;exact dep_at (liD_ok (by omega) (by omega) hK (by decide))
 | 2,hd=>cases hd;exact dep_at (sortPD_ok (by omega) (by omega) hK hJ (by decide))
 | j + 3,hd=>exact nomatch (show none = some d from hd)
noncomputable def bV : PySem.Expr → Nat → PySem.Expr
 | .BoolOp _ vs _,i=>vs.getD i default
 | _,_=>default
noncomputable def cmL : PySem.Expr → PySem.Expr
 | .Compare l _ _ _=>l
 | _=>default
noncomputable def cmR : PySem.Expr → PySem.Expr
 | .Compare _ _ rs _=>rs.headD default
 | _=>default
noncomputable def eLP : PySem.Expr:=eA 0 (cmL (bV (sV (nth rightB 3)) 2))
noncomputable def eLD : PySem.Expr:=eA 0 (cmR (bV (sV (nth rightB 3)) 2))
noncomputable def eLs : Bool → PySem.Expr
 | true=>eLP
 | false=>eLD
noncomputable def envLs (L fr : Addr) : Env:=⟨⟨.function,[(q ".0",.local),(q "word",.local),(q "len",.globalImplicit)],false,false,[]⟩,L,3,[],q "_law_right.<locals>.",none,r 1099,(some fr),0⟩
noncomputable def cLs (b : Bool) (it acc L fr : Addr) : Code:=.compLoop (eLs b) 0 (.ref it) (.ref acc) (envLs L fr)
noncomputable def lLs : List St:=[G 2 0x14,.orc,G 13 0x160066,.orc,G 1 1,.orc]
noncomputable def lLse : List St:=[G 2 0x14,.orc,G 1 0x19]
noncomputable def slen (x : String) : Nat:=(q x).length
noncomputable def dsLs (src it acc : Addr) (xs ys : Array Value) (ex ea k m : Nat) (x : String) (tx : Nat) : List OrcD:=[nextD 0 3 it src xs ex k (sv x tx),lenS (q x) (fun _=>tx) m,appD 1 acc ys ea fun π=>.int (m : Nat) ((π 1).a 0)]
theorem runsLs (P : Params) (B : List (Code × Pos)) (n t : Nat) (σ : Nat → Sup) (p : Pos) (src it acc L fr : Addr) (xs ys : Array Value) (ex ea k ed tx tw m : Nat) (x : String) (vw : Value) (es : Array DictEntry) : Runs ([true,false].flatMap fun b=>[
 tR P B lLs it acc L (iterO src k) (iterO src (k + 1)) ys ea #[] ed [(src,listO xs ex)] n t (osAt σ 0 (dsLs src it acc xs ys ex ea k m x tx)) (cLs b it acc L fr) p (ys.push (.int (m : Nat) ((σ 1).a 0))) ((σ 2).a 0) #[E P "word" t (sv x tx)] (ed + 1) (σ 1).n (σ 1).t,
 tR P B lLs it acc L (iterO src k) (iterO src (k + 1)) ys ea #[E P "word" tw vw] ed [(src,listO xs ex)] n t (osAt σ 0 (dsLs src it acc xs ys ex ea k m x tx)) (cLs b it acc L fr) p (ys.push (.int (m : Nat) ((σ 1).a 0))) ((σ 2).a 0) #[E P "word" tw (sv x tx)] ed (σ 1).n (σ 1).t,
 lR P B lLse it acc L (iterO src k) (iterEnd k) ys ea es ed [(src,listO xs ex)] n t (osAt σ 0 [endD 0 3 it src xs ex k]) (cLs b it acc L fr) p (σ 0).n (σ 0).t]):=by unfold Runs;kernel_rfl
theorem slen_six : ∀ x ∈ six,slen x ≤ 6:=by decide +kernel
theorem compLs_ok {w : World} {D U : Nat} {π : Nat → Sup} (hD : D ≤ 615) (hU : U ≤ 8100) {ns ni na nL : Nat} {b : Bool} {src it acc L fr : Addr} {xs : Array Value} {ex ea0 ed0 : Nat} {ls : List String} (hx : 0 < xs.size) (hw : Ws ls xs) (h6 : ∀ x ∈ ls,x ∈ six) (hsz : xs.size ≤ sizeLine)
 (hn : [ni,na,nL,ns].Nodup) :
 OrcAt w D U π (compD (.compStart (eLs b) 0 (.ref it) (.ref acc) (envLs L fr)) ni na nL it acc L (iterO src 0) (iterEnd xs.size) #[] ea0 #[] ed0 [(ns,src,listO xs ex)] (es1k w.params "word") (fun zs=>Ns ((ls.take xs.size).map slen) zs)):=by
 have hb : b ∈ [true,false]:=by cases b <;> simp
 have hs : syncAt (eLs b) 0 = false:=by cases b <;> kernel_rfl
 refine (start_any hs (self_list (l:=src) (k:=0) (ni:=ni) (.head _)) (comp1_any (c:=cLs b it acc L fr) (extra:=[(ns,src,listO xs ex)]) (itO:=iterO src) xs.size (fun k ys=>Ns ((ls.take k).map slen) ys) (by omega) (by omega) rfl (by cases b <;> kernel_rfl) hx hn (by simp) (by simpa using Ns.nil) ?_ ?_)).at
 ·intro B n t p k ys ea ed tw vw hn lt hg
  have lt' : k < ls.length:=by rw [← hw.1];exact lt
  obtain ⟨tx,hxk⟩:=hw.2 k ls[k] (List.getElem?_eq_getElem lt')
  have z:=fun σ=>runsLs w.params B n t σ p src it acc L fr xs ys ex ea k ed tx tw (slen ls[k]) ls[k] vw #[]
  have hys : ys.size ≤ sizeLine:=by
   rw [hg.1]
   have h2 : (ls.take k).length ≤ k:=by simp;omega
   simp only [List.length_map]
   omega
  have h6k:=slen_six _ (h6 _ (List.getElem_mem lt'))
  refine ⟨_,lLs,fun σ=>ys.push (.int (slen ls[k] : Nat) ((σ 1).a 0)),fun σ=>(σ 2).a 0,fun σ=>(σ 1).n,fun σ=>(σ 1).t,t,fun _=>sv ls[k] tx,orcs_all (at_three (fun π=>nextD_ok hxk) (fun π=>lenS_ok rfl (by show ((slen ls[k] : Nat) : Int) < 2 ^ 63;omega)) (fun π=>appD_ok hys)),fun _ σ=>(z σ).at (List.mem_flatMap.mpr ⟨b,hb,.head _⟩),fun σ=>(z σ).at (List.mem_flatMap.mpr ⟨b,hb,.tail _ (.head _)⟩),fun σ _=>?_⟩
  rw [take_succ lt',List.map_append]
  exact hg.push _ _
 ·intro B n t p ys ea es ed hn hg
  exact ⟨_,lLse,fun σ=>(σ 0).n,fun σ=>(σ 0).t,one_ok fun π=>endD_ok (by simp),fun σ=>(runsLs w.params B n t σ p src it acc L fr xs ys ex ea xs.size ed 0 0 0 "" .none es).at (List.mem_flatMap.mpr ⟨b,hb,.tail _ (.tail _ (.head _))⟩)⟩
noncomputable def srt (ns : List Nat) : List Nat:=(List.range 7).flatMap fun k=>ns.filter (· == k)
theorem range7 : List.range 7 = [0,1,2,3,4,5,6]:=by decide
theorem srt_perm {ns : List Nat} (h : ∀ x ∈ ns,x ≤ 6) : (srt ns).Perm ns:=by
 rw [List.perm_iff_count]
 intro a
 unfold srt
 by_cases ha : a ∈ List.range 7
 ·exact (count_flat ns a _ (by decide)).1 ha
 ·exact ((count_flat ns a _ (by decide)).2 ha).trans (List.count_eq_zero.mpr fun hm=>ha (List.mem_range.mpr (Nat.lt_succ_of_le (h a hm)))).symm
theorem srt_sorted (ns : List Nat) : (srt ns).Pairwise (· ≤ ·):=by
 have key : ∀ k,∀ y ∈ ns.filter (fun x=>x == k),y = k:=fun k y hy=>by simpa using (List.mem_filter.mp hy).2
 unfold srt
 rw [List.pairwise_flatMap]
 refine ⟨fun k _=>?_,?_⟩
 ·rw [List.pairwise_iff_getElem]
  intro i j hi hj _
  rw [key k _ (List.getElem_mem hi),key k _ (List.getElem_mem hj)]
  exact Nat.le_refl _
 ·exact List.pairwise_lt_range.imp fun hlt x hx y hy=>by
   rw [key _ x hx,key _ y hy];exact Nat.le_of_lt hlt
noncomputable def sortND (nl : Nat) (l : Addr) (xs : Array Value) (ex : Nat) (ns : List Nat) : OrcD:=
 ⟨fun _=>.call (.builtin "sorted") ⟨[.ref l],[]⟩,fun _=>[(nl,l,listO xs ex)],fun _ u=>.ok (.ret (.ref (u.a 0))),fun _ _=>[],fun _ u=>[(u.a 0,listO (u.x 0) (u.a 1))],fun _ u=>some (u.n,u.t),fun _ u=>Ns (srt ns) (u.x 0),fun _=>none,0⟩
theorem Ns.of_ints {ns : List Nat} {xs : Array Value} (h : IntsAre xs.toList (ns.map fun m=>((m : Nat) : Int))) : Ns ns xs:=by
 obtain ⟨vs,rfl⟩ : ∃ vs : List Value,xs = vs.toArray:=⟨xs.toList,by simp⟩
 simp only [] at h
 unfold Ns
 simp only [List.size_toArray,List.getElem?_toArray]
 induction ns generalizing vs with
 | nil=>cases h;exact ⟨rfl,fun i m h=>by simp at h⟩
 | cons m ns ih=>
   cases h with
   | cons n t h=>
     obtain ⟨h1,h2⟩:=ih _ h
     refine ⟨by simp [h1],fun i x hx=>?_⟩
     cases i with
     | zero=>simp at hx;subst hx;exact ⟨t,rfl⟩
     | succ i=>exact h2 i x (by simpa using hx)
theorem ints_back {ns : List Nat} {l : List Int} (h : l.Perm (ns.map fun m=>((m : Nat) : Int))) : ∃ ms : List Nat,l = ms.map fun m=>((m : Nat) : Int):=by
 refine ⟨l.map Int.toNat,?_⟩
 rw [List.map_map]
 have : ∀ x ∈ l,((Int.toNat x : Nat) : Int) = x:=fun x hx=>by
  obtain ⟨m,_,rfl⟩:=List.mem_map.mp (h.mem_iff.mp hx)
  simp
 have e : l.map ((fun m=>((m : Nat) : Int)) ∘ Int.toNat) = l.map _root_.id:=List.map_congr_left fun x hx=>this x hx
 rw [e,List.map_id]
theorem sortND_ok {w : World} {D U : Nat} {π : Nat → Sup} {nl : Nat} {l : Addr} {xs : Array Value} {ex : Nat} {ns : List Nat} (hw : Ns ns xs) (h6 : ∀ x ∈ ns,x ≤ 6) (h64 : ns.length < 64) : OrcAt w D U π (sortND nl l xs ex ns):=by
 refine OrcAt.of_call rfl (fun s ho hz hp=>?_)
 have h1 : s.heap.get? l = some (listO xs ex):=hp.get _ (.head _)
 refine sorted_ints (vs:=xs.toList) ⟨_,h1,rfl,ex,by simp⟩ hw.ints (by simpa [hw.1] using h64) fun out ns' a1 a2 a3=>?_
 obtain ⟨e,he⟩:=sortedAll_at s.heap xs.toList out
 obtain ⟨ms,rfl⟩:=ints_back a2
 have hp1 : ms.Perm ns:=by
  have:=a2.map Int.toNat
  simpa [List.map_map,Function.comp_def] using this
 have hs1 : ms.Pairwise (· ≤ ·):=by
  rw [List.pairwise_map] at a3
  exact a3.imp fun h=>by omega
 have em : ms = srt ns:=sorted_unique (hp1.trans (srt_perm h6).symm) hs1 (srt_sorted ns)
 subst em
 refine ⟨⟨(sortedAll s.heap xs.toList out).objs.size,s.toks,fun i=>match i with | 0=>s.heap.objs.size + 1 | _=>e,fun _=>.none,fun _=>out,fun _=>#[],fun _=>#[]⟩,rfl,⟨rfl,rfl,rfl,?_,fun b v h _=>sortedAll_old h,(fun _ h=>nomatch h),fun x hx=>?_,by simp [OrcD.at,sortND],⟨rfl,rfl⟩⟩,Ns.of_ints a1⟩
 ·exact Nat.le_of_lt (Nat.lt_of_succ_lt (Heap.lt_size he))
 ·have hx' : x ∈ [(s.heap.objs.size + 1,listO out e)]:=hx
  rcases List.mem_singleton.mp hx' with rfl
  exact ⟨Nat.le_succ _,he⟩
noncomputable def halfF (s : Nat) : UInt64:=Float64.ofFrac false s 2
noncomputable def addR (a b r : Int) (ta tb : (Nat → Sup) → Nat) : OrcD:=newIntD (fun π=>.call (.builtin "int.__add__") ⟨[.int a (ta π),.int b (tb π)],[]⟩) r
theorem addR_ok {w : World} {D U : Nat} {π : Nat → Sup} {a b r : Int} {ta tb : (Nat → Sup) → Nat} (h : a + b = r) : OrcAt w D U π (addR a b r ta tb):=by subst h;exact add2_ok
noncomputable def newFloatD (c : (Nat → Sup) → Code) (b : UInt64) : OrcD:=⟨c,fun _=>[],fun _ u=>.ok (.ret (.float b (u.a 0))),fun _ _=>[],fun _ _=>[],fun _ u=>some (u.n,u.t),fun _ _=>True,fun _=>none,0⟩
noncomputable def tdivD (s : Nat) (ta tb : (Nat → Sup) → Nat) : OrcD:=newFloatD (fun π=>.call (.builtin "int.__truediv__") ⟨[.int (s : Nat) (ta π),.int 2 (tb π)],[]⟩) (halfF s)
theorem notInf : ∀ s,s < 13 → Float64.isInf (Float64.ofFrac false s 2) = false:=by decide +kernel
theorem sameF : ∀ s,s < 13 → (Float64.cmp (halfF s) (halfF s) == some Ordering.eq) = true:=by decide +kernel
theorem tdivD_ok {w : World} {D U : Nat} {π : Nat → Sup} {s : Nat} {ta tb : (Nat → Sup) → Nat} (hs : s < 13) : OrcAt w D U π (tdivD s ta tb):=by
 have e : (decide (((s : Nat) : Int) < 0) != decide ((2 : Int) < 0)) = false:=by
  rw [decide_eq_false (by omega : ¬ ((s : Nat) : Int) < 0)];rfl
 refine OrcAt.of_code (fun st ho hz hp=>?_)
 show codeAny _ _ (.call (.builtin "int.__truediv__") ⟨[.int (s : Nat) (ta π),.int 2 (tb π)],[]⟩) _ st
 have g:=AutoIntG4.int___truediv___int_int_2 ((s : Nat) : Int) (ta π) 2 (tb π) (by decide) (by rw [e];show ¬ Float64.isInf (Float64.ofFrac false s 2) = true;rw [notInf s hs];simp)
 rw [e] at g
 refine any_of_gives F.slot_int_truediv (typeIs_int _ _ _) F.entry_int_truediv (F.args_int_truediv_2 _ _) (Gives.at (P:=fun _=>True) g) trivial ?_
 exact ⟨⟨st.heap.objs.size,st.toks + 1,fun _=>st.toks,fun _=>.none,fun _=>#[],fun _=>#[],fun _=>#[]⟩,rfl,⟨rfl,rfl,rfl,Nat.le_refl _,fun b v h _=>h,(fun _ h=>nomatch h),(fun _ h=>nomatch h),List.nodup_nil,⟨rfl,rfl⟩⟩,trivial⟩
noncomputable def feqD (s : Nat) (ta tb : (Nat → Sup) → Nat) : OrcD:=valD (fun π=>.call (.builtin "float.__eq__") ⟨[.float (halfF s) (ta π),.float (halfF s) (tb π)],[]⟩) fun _=>.bool true
theorem feqD_ok {w : World} {D U : Nat} {π : Nat → Sup} {s : Nat} {ta tb : (Nat → Sup) → Nat} (hs : s < 13) : OrcAt w D U π (feqD s ta tb):=
 val_of rfl F.slot_float_eq (fun s=>typeIs_float _ _ _) F.entry_float_eq (F.args_float_eq_2 _ _) (AutoFloatG5.float___eq___float_float_0 _ _ _ _) (by show Value.bool true = Value.bool (Float64.cmp (halfF s) (halfF s) == some Ordering.eq);rw [sameF s hs])
noncomputable def midV (ns : List Nat) (t : Nat) : Value:=match ns.length % 2 with
 | 1=>.int ((srt ns).getD (ns.length / 2) 0 : Nat) t
 | _=>.float (halfF ((srt ns).getD (ns.length / 2 - 1) 0 + (srt ns).getD (ns.length / 2) 0)) t
noncomputable def dsM1 (l : Addr) (xs : Array Value) (ex : Nat) (ns : List Nat) (m v : Nat) : List OrcD:=
 [sortND 0 l xs ex ns,dep 0 fun π=>lenM 2 ((π 0).a 0) ((π 0).x 0) ((π 0).a 1) m,eq2 (m : Nat) 0 (fun π=>(π 1).a 0) (fun π=>(π 1).t + 1) false,modR (m : Nat) 2 1 (fun π=>(π 1).a 0) (fun π=>(π 1).t + 2),eq2 1 1 (fun π=>(π 3).a 0) (fun π=>(π 3).t) true,
  divR (m : Nat) 2 (m / 2 : Nat) (fun π=>(π 1).a 0) (fun π=>(π 3).t + 1),dep 0 fun π=>itemN 2 ((π 0).a 0) ((π 0).x 0) ((π 0).a 1) (m / 2) (fun π=>(π 5).a 0) v]
noncomputable def dsM0 (l : Addr) (xs : Array Value) (ex : Nat) (ns : List Nat) (m v1 v2 : Nat) : List OrcD:=
 [sortND 0 l xs ex ns,dep 0 fun π=>lenM 2 ((π 0).a 0) ((π 0).x 0) ((π 0).a 1) m,eq2 (m : Nat) 0 (fun π=>(π 1).a 0) (fun π=>(π 1).t + 1) false,modR (m : Nat) 2 0 (fun π=>(π 1).a 0) (fun π=>(π 1).t + 2),eq2 0 1 (fun π=>(π 3).a 0) (fun π=>(π 3).t) false,
  divR (m : Nat) 2 (m / 2 : Nat) (fun π=>(π 1).a 0) (fun π=>(π 3).t + 1),subR (m / 2 : Nat) 1 (m / 2 - 1 : Nat) (fun π=>(π 5).a 0) (fun π=>(π 5).t + 1),dep 0 fun π=>itemN 2 ((π 0).a 0) ((π 0).x 0) ((π 0).a 1) (m / 2 - 1) (fun π=>(π 6).a 0) v1,
  dep 0 fun π=>itemN 2 ((π 0).a 0) ((π 0).x 0) ((π 0).a 1) (m / 2) (fun π=>(π 5).a 0) v2,addR (v1 : Nat) (v2 : Nat) (v1 + v2 : Nat) (fun π=>(π 7).a 0) (fun π=>(π 8).a 0),tdivD (v1 + v2) (fun π=>(π 9).a 0) (fun π=>(π 9).t)]
noncomputable def lM1 : List St:=[G 17 0x150015500,.orc,G 15 0x150055,.orc,G 13 0x1555,cm,.orc,G 5 0x15,.orc,G 2 1,cm,.orc,G 7 0x155,.orc,G 4 0x1666,.orc]
noncomputable def lM0 : List St:=[G 17 0x150015500,.orc,G 15 0x150055,.orc,G 13 0x1555,cm,.orc,G 5 0x15,.orc,G 2 1,cm,.orc,G 5 0x15,.orc,G 14 0x15555,.orc,G 4 0x1666,.orc,G 8 0x166655,.orc,G 1 1,.orc,G 2 1,.orc]
theorem runsMe (P : Params) (B : List (Code × Pos)) (n t : Nat) (σ : Nat → Sup) (p : Pos) (l : Addr) (xs : Array Value) (ex m v v2 : Nat) (ns : List Nat) : Runs [
 (runC P B lM1 [(l,listO xs ex)] n t (osAt σ 0 (dsM1 l xs ex ns m v)) (.call (.ref 64) ⟨[.ref l],[]⟩) p,[0],(dn (.int (v : Nat) ((σ 6).a 0)),[],[some (l,listO xs ex)],(σ 5).n,(σ 5).t)),
 (runC P B lM0 [(l,listO xs ex)] n t (osAt σ 0 (dsM0 l xs ex ns m v v2)) (.call (.ref 64) ⟨[.ref l],[]⟩) p,[0],(dn (.float (halfF (v + v2)) ((σ 10).a 0)),[],[some (l,listO xs ex)],(σ 10).n,(σ 10).t))]:=by unfold Runs;kernel_rfl
theorem ns_item {ns : List Nat} {xs : Array Value} (h : Ns ns xs) {i : Nat} (hi : i < ns.length) : ∃ t,xs[i]? = some (.int (ns.getD i 0 : Nat) t):=by
 have e : ns[i]? = some (ns.getD i 0):=by rw [List.getD_eq_getElem?_getD,List.getElem?_eq_getElem hi];rfl
 exact h.2 i _ e
theorem srt_le {ns : List Nat} (h : ∀ x ∈ ns,x ≤ 6) (i : Nat) : (srt ns).getD i 0 ≤ 6:=by
 rw [List.getD_eq_getElem?_getD]
 cases e : (srt ns)[i]? with
 | none=>exact Nat.zero_le _
 | some x=>exact h x ((srt_perm h).mem_iff.mp (List.mem_of_getElem? e))
noncomputable def medN (f : Addr) (nl : Nat) (l : Addr) (xs : Array Value) (ex : Nat) (ns : List Nat) : OrcD:=
 fnD (fun _=>.call (.ref f) ⟨[.ref l],[]⟩) (fun _=>[(nl,l,listO xs ex)]) (fun _ _=>[listO xs ex]) (fun _ u=>.ok (.ret (midV ns (u.a 0)))) (fun _ _=>[]) (fun _ _=>True)
theorem med_ok {w : World} {D U : Nat} {π : Nat → Sup} (hD : D ≤ 690) (hU : U ≤ 8400) {nl : Nat} {l : Addr} {xs : Array Value} {ex : Nat} {ns : List Nat} (hw : Ns ns xs) (h6 : ∀ x ∈ ns,x ≤ 6) (h0 : 0 < ns.length) (h64 : ns.length < 64) :
 OrcAt w D U π (medN 64 nl l xs ex ns):=by
 have hlen : (srt ns).length = ns.length:=(srt_perm h6).length_eq
 unfold medN
 refine fn_ok (by omega) (by omega) rfl (nd rfl) (le4 rfl) fun B n t pos hn=>?_
 have z:=fun σ v v2=>runsMe w.params B n t σ pos l xs ex ns.length v v2 ns
 rcases Nat.mod_two_eq_zero_or_one ns.length with hm | hm
 ·have ev : ∀ t,midV ns t = .float (halfF ((srt ns).getD (ns.length / 2 - 1) 0 + (srt ns).getD (ns.length / 2) 0)) t:=fun t=>by unfold midV;rw [hm];rfl
  refine ⟨dsM0 l xs ex ns ns.length ((srt ns).getD (ns.length / 2 - 1) 0) ((srt ns).getD (ns.length / 2) 0),lM0,[],fun σ=>⟨(σ 10).n,(σ 10).t,fun _=>(σ 10).a 0,fun _=>.none,fun _=>#[],fun _=>#[],fun _=>#[]⟩,orcs_of ?_,(fun _ h=>nomatch h),List.nodup_nil,fun σ=>⟨rfl,rfl,?_⟩,fun _ _=>trivial⟩
  ·intro j d hd' π hF'
   obtain ⟨J,M,hJ,hM,hd,hF⟩:=genJ hd' hF'
   clear hd' hF'
   have hws : 0 < J → Ns (srt ns) ((π 0).x 0):=fun hj=>hF 0 hj (sortND 0 l xs ex ns) rfl
   match j,hd with
   | 0,hd=>subst hM;cases hd;exact sortND_ok hw h6 h64
   | 1,hd=>subst hM;cases hd;exact dep_at (lenM_ok (by rw [(hws (by omega)).1,hlen]) (by omega))
   | 2,hd=>subst hM;cases hd;exact eq2_ok (decide_eq_false (by omega))
   | 3,hd=>subst hM;cases hd;exact modR_ok (by decide) (by rw [Int.fmod_eq_emod_of_nonneg _ (by decide)];omega)
   | 4,hd=>subst hM;cases hd;exact eq2_ok (by decide)
   | 5,hd=>subst hM;cases hd;exact half_ok
   | 6,hd=>subst hM;cases hd;exact subR_ok (by omega)
   | 7,hd=>subst hM;cases hd;exact dep_at (itemN_ok (ns_item (hws (by omega)) (by omega)) (by omega))
   | 8,hd=>subst hM;cases hd;exact dep_at (itemN_ok (ns_item (hws (by omega)) (by omega)) (by omega))
   | 9,hd=>subst hM;cases hd;exact addR_ok (by omega)
   | 10,hd=>subst hM;cases hd;exact tdivD_ok (by have:=srt_le h6 (ns.length / 2 - 1);have:=srt_le h6 (ns.length / 2);omega)
   | j + 11,hd=>subst hM;exact nomatch (show none = some d from hd)
  ·show Ends _ _ (endT (.ok (.ret (midV ns _))),_)
   rw [ev]
   exact (z σ _ _).get (.tail _ (.head _))
 ·have ev : ∀ t,midV ns t = .int ((srt ns).getD (ns.length / 2) 0 : Nat) t:=fun t=>by unfold midV;rw [hm];rfl
  refine ⟨dsM1 l xs ex ns ns.length ((srt ns).getD (ns.length / 2) 0),lM1,[],fun σ=>⟨(σ 5).n,(σ 5).t,fun _=>(σ 6).a 0,fun _=>.none,fun _=>#[],fun _=>#[],fun _=>#[]⟩,orcs_of ?_,(fun _ h=>nomatch h),List.nodup_nil,fun σ=>⟨rfl,rfl,?_⟩,fun _ _=>trivial⟩
  ·intro j d hd' π hF'
   obtain ⟨J,M,hJ,hM,hd,hF⟩:=genJ hd' hF'
   clear hd' hF'
   have hws : 0 < J → Ns (srt ns) ((π 0).x 0):=fun hj=>hF 0 hj (sortND 0 l xs ex ns) rfl
   match j,hd with
   | 0,hd=>subst hM;cases hd;exact sortND_ok hw h6 h64
   | 1,hd=>subst hM;cases hd;exact dep_at (lenM_ok (by rw [(hws (by omega)).1,hlen]) (by omega))
   | 2,hd=>subst hM;cases hd;exact eq2_ok (decide_eq_false (by omega))
   | 3,hd=>subst hM;cases hd;exact modR_ok (by decide) (by rw [Int.fmod_eq_emod_of_nonneg _ (by decide)];omega)
   | 4,hd=>subst hM;cases hd;exact eq2_ok (by decide)
   | 5,hd=>subst hM;cases hd;exact half_ok
   | 6,hd=>subst hM;cases hd;exact dep_at (itemN_ok (ns_item (hws (by omega)) (by omega)) (by omega))
   | j + 7,hd=>subst hM;exact nomatch (show none = some d from hd)
  ·show Ends _ _ (endT (.ok (.ret (midV ns _))),_)
   rw [ev]
   exact (z σ _ 0).get (.head _)
noncomputable def midB : List Stmt:=fB (dig [50] pw.main.body)
noncomputable def eMi : PySem.Expr:=sV (nth midB 0)
theorem E2 {a b : Nat} {r : Bool} (h : (a == b) = r) : decide (((a : Nat) : Int) = (b : Nat)) = r:=by
 rw [← h]
 by_cases e : a = b
 ·subst e;simp
 ·rw [decide_eq_false (by omega)];simp [e]
noncomputable def mEnv (names : List (Str × NameKind)) (cells : List (Str × Addr)) (L fr : Addr) : Env:=⟨⟨.function,names,false,false,[]⟩,L,3,cells,q "_law_middle.<locals>.",none,r 1094,some fr,0⟩
noncomputable def envMi (L fr cd : Addr) : Env:=mEnv [(q ".0",.local),(q "size",.local),(q "one",.local),(q "sizes",.cell)] [(q "sizes",cd)] L fr
noncomputable def cMi1 (it acc L fr cd : Addr) : Code:=.compLoop eMi 1 (.ref it) (.ref acc) (envMi L fr cd)
noncomputable def lMin : List St:=[G 2 0x14,.orc,G 12 0x16666,cm,.orc]
noncomputable def lMiy : List St:=[G 2 0x14,.orc,G 12 0x16666,cm,.orc,G 2 0x16,.orc]
noncomputable def lMie : List St:=[G 2 0x14,.orc,G 1 0x19]
theorem runsMi1 (P : Params) (B : List (Code × Pos)) (n t : Nat) (σ : Nat → Sup) (p : Pos) (src it acc L fr cd : Addr) (xs ys : Array Value) (ex ea k ed tx tw kn tn : Nat) (x nm : Nat) (vw : Value) (es : Array DictEntry) : Runs [
 tR P B lMiy it acc L (iterO src k) (iterO src (k + 1)) ys ea #[E P "size" kn ((.int (nm : Nat) tn))] ed [(src,listO xs ex)] n t (osAt σ 0 [nextD 0 3 it src xs ex k ((.int (x : Nat) tx)),eq2 (x : Nat) (nm : Nat) (fun _=>tx) (fun _=>tn) true,appD 1 acc ys ea fun π=>(.int (nm : Nat) tn)]) (cMi1 it acc L fr cd) p (ys.push ((.int (nm : Nat) tn))) ((σ 2).a 0) #[E P "size" kn ((.int (nm : Nat) tn)),E P "one" t ((.int (x : Nat) tx))] (ed + 1) n (t + 1),
 tR P B lMiy it acc L (iterO src k) (iterO src (k + 1)) ys ea #[E P "size" kn ((.int (nm : Nat) tn)),E P "one" tw vw] ed [(src,listO xs ex)] n t (osAt σ 0 [nextD 0 3 it src xs ex k ((.int (x : Nat) tx)),eq2 (x : Nat) (nm : Nat) (fun _=>tx) (fun _=>tn) true,appD 1 acc ys ea fun π=>(.int (nm : Nat) tn)]) (cMi1 it acc L fr cd) p (ys.push ((.int (nm : Nat) tn))) ((σ 2).a 0) #[E P "size" kn ((.int (nm : Nat) tn)),E P "one" tw ((.int (x : Nat) tx))] ed n (t + 1),
 tR P B lMin it acc L (iterO src k) (iterO src (k + 1)) ys ea #[E P "size" kn ((.int (nm : Nat) tn))] ed [(src,listO xs ex)] n t (osAt σ 0 [nextD 0 3 it src xs ex k ((.int (x : Nat) tx)),eq2 (x : Nat) (nm : Nat) (fun _=>tx) (fun _=>tn) false]) (cMi1 it acc L fr cd) p ys ea #[E P "size" kn ((.int (nm : Nat) tn)),E P "one" t ((.int (x : Nat) tx))] (ed + 1) n (t + 1),
 tR P B lMin it acc L (iterO src k) (iterO src (k + 1)) ys ea #[E P "size" kn ((.int (nm : Nat) tn)),E P "one" tw vw] ed [(src,listO xs ex)] n t (osAt σ 0 [nextD 0 3 it src xs ex k ((.int (x : Nat) tx)),eq2 (x : Nat) (nm : Nat) (fun _=>tx) (fun _=>tn) false]) (cMi1 it acc L fr cd) p ys ea #[E P "size" kn ((.int (nm : Nat) tn)),E P "one" tw ((.int (x : Nat) tx))] ed n (t + 1),
 lR P B lMie it acc L (iterO src k) (iterEnd k) ys ea es ed [(src,listO xs ex)] n t (osAt σ 0 [endD 0 3 it src xs ex k]) (cMi1 it acc L fr cd) p (σ 0).n (σ 0).t]:=by unfold Runs;kernel_rfl
noncomputable def esMi (P : Params) (kn tn : Nat) (nm : Nat) : Option (Nat × Value) → Array DictEntry
 | none=>#[E P "size" kn ((.int (nm : Nat) tn))]
 | some z=>#[E P "size" kn ((.int (nm : Nat) tn)),E P "one" z.1 z.2]
theorem Ns.more_if {pre l : List Nat} {ys : Array Value} {k : Nat} {b : Nat → Bool} (lt : k < l.length) (h : Ns (pre ++ (l.take k).filter b) ys) : (b l[k] = true → ∀ t,Ns (pre ++ (l.take (k + 1)).filter b) (ys.push ((.int (l[k] : Nat) t)))) ∧ (b l[k] = false → Ns (pre ++ (l.take (k + 1)).filter b) ys):=by
 rw [take_succ lt,List.filter_append]
 constructor
 ·intro hb t
  rw [List.filter_cons_of_pos hb,List.filter_nil,← List.append_assoc]
  exact h.push _ _
 ·intro hb
  rw [List.filter_cons_of_neg (by rw [hb];exact Bool.false_ne_true),List.filter_nil,List.append_nil]
  exact h
noncomputable def miInD (P : Params) (ni na nL ns : Nat) (src it acc L fr cd : Addr) (xs ys0 : Array Value) (ex ea0 ed0 kn tn : Nat) (nm : Nat) (o : Option (Nat × Value)) (pre ls : List Nat) : OrcD:=
 compD (.compStart eMi 1 (.ref it) (.ref acc) (envMi L fr cd)) ni na nL it acc L (iterO src 0) (iterEnd xs.size) ys0 ea0 (esMi P kn tn nm o) ed0 [(ns,src,listO xs ex)] (fun u=>esMi P kn tn nm (some (u.a 2,u.v 0))) (fun ys=>Ns (pre ++ (ls.take xs.size).filter (· == nm)) ys)
theorem miIn_ok {w : World} {D U : Nat} {π : Nat → Sup} (hD : D ≤ 615) (hU : U ≤ 8100) {ni na nL ns : Nat} {src it acc L fr cd : Addr} {xs ys0 : Array Value} {ex ea0 ed0 kn tn : Nat} {nm : Nat} {o : Option (Nat × Value)} {pre ls : List Nat} (hx : 0 < xs.size) (hw : Ns ls xs) (hp : Ns pre ys0)
 (hsz : pre.length + xs.size ≤ sizeLine) (hn : [ni,na,nL,ns].Nodup) : OrcAt w D U π (miInD w.params ni na nL ns src it acc L fr cd xs ys0 ex ea0 ed0 kn tn nm o pre ls):=by
 refine (start_any (by kernel_rfl) (self_list (l:=src) (k:=0) (ni:=ni) (.head _)) (comp_any (c:=cMi1 it acc L fr cd) (extra:=[(ns,src,listO xs ex)]) (itO:=iterO src) (es0:=esMi w.params kn tn nm o) xs.size (fun k ys=>Ns (pre ++ (ls.take k).filter (· == nm)) ys) (by omega) (by omega) rfl rfl hx hn (by simp) (by simpa using hp) (fun _ _ _ _ _ _=>rfl) ?_ ?_)).at
 ·intro B n t p k ys ea q' ed hn1 lt hk h0 hg
  have lt' : k < ls.length:=by rw [← hw.1];exact lt
  obtain ⟨tx,hxk⟩:=hw.2 k ls[k] (List.getElem?_eq_getElem lt')
  have hys : ys.size ≤ sizeLine:=by
   rw [hg.1,List.length_append]
   have h1:=List.length_filter_le (· == nm) (ls.take k)
   have h2 : (ls.take k).length ≤ k:=by simp;omega
   omega
  have hs:=hg.more_if lt'
  have z:=fun σ tw vw es=>runsMi1 w.params B n t σ p src it acc L fr cd xs ys ex ea k ed tx tw kn tn ls[k] nm vw es
  have enm : (ls[k] == nm) = true → Value.int (nm : Nat) tn = .int (ls[k] : Nat) tn:=fun h=>by rw [eq_of_beq h]
  have key : ∀ s : Option (Nat × Value),X8 fun (ds : List OrcD) (l : List St) (ys' : (Nat → Sup) → Array Value) (ea' ed' nn kk : (Nat → Sup) → Nat) (u : (Nat → Sup) → Sup)=>(∀ j d,ds[j]? = some d → OrcOK w (D + 75) (U + 300) ds j d) ∧
   (∀ σ,EndsR (tR w.params B l it acc L (iterO src k) (iterO src (k + 1)) ys ea (esMi w.params kn tn nm s) ed [(src,listO xs ex)] n t (osAt σ 0 ds) (cMi1 it acc L fr cd) p (ys' σ) (ea' σ) (esMi w.params kn tn nm (some ((u σ).a 2,(u σ).v 0))) (ed' σ) (nn σ) (kk σ))) ∧
   ∀ σ,(∀ (i : Nat) (d : OrcD),ds[i]? = some d → d.F (tr i σ) (σ i)) → Ns (pre ++ (ls.take (k + 1)).filter (· == nm)) (ys' σ):=by
   intro s
   cases hb : (ls[k] == nm) with
   | true=>
     have hq:=(hs.1 hb) tn
     rw [← enm hb] at hq
     cases s with
     | none=>exact ⟨_,lMiy,fun σ=>ys.push ((.int (nm : Nat) tn)),fun σ=>(σ 2).a 0,fun _=>ed + 1,fun _=>n,fun _=>t + 1,fun _=>⟨0,0,fun _=>t,fun _=>(.int (ls[k] : Nat) tx),fun _=>#[],fun _=>#[],fun _=>#[]⟩,orcs_all (at_three (fun π=>nextD_ok hxk) (fun π=>eq2_ok (E2 hb)) (fun π=>appD_ok hys)),fun σ=>(z σ 0 .none #[]).at (.head _),fun σ _=>hq⟩
     | some s=>exact ⟨_,lMiy,fun σ=>ys.push ((.int (nm : Nat) tn)),fun σ=>(σ 2).a 0,fun _=>ed,fun _=>n,fun _=>t + 1,fun _=>⟨0,0,fun _=>s.1,fun _=>(.int (ls[k] : Nat) tx),fun _=>#[],fun _=>#[],fun _=>#[]⟩,orcs_all (at_three (fun π=>nextD_ok hxk) (fun π=>eq2_ok (E2 hb)) (fun π=>appD_ok hys)),fun σ=>(z σ s.1 s.2 #[]).at (.tail _ (.head _)),fun σ _=>hq⟩
   | false=>
     cases s with
     | none=>exact ⟨_,lMin,fun σ=>ys,fun σ=>ea,fun _=>ed + 1,fun _=>n,fun _=>t + 1,fun _=>⟨0,0,fun _=>t,fun _=>(.int (ls[k] : Nat) tx),fun _=>#[],fun _=>#[],fun _=>#[]⟩,orcs_all (at_two (fun π=>nextD_ok hxk) (fun π=>eq2_ok (E2 hb))),fun σ=>(z σ 0 .none #[]).at (.tail _ (.tail _ (.head _))),fun σ _=>hs.2 hb⟩
     | some s=>exact ⟨_,lMin,fun σ=>ys,fun σ=>ea,fun _=>ed,fun _=>n,fun _=>t + 1,fun _=>⟨0,0,fun _=>s.1,fun _=>(.int (ls[k] : Nat) tx),fun _=>#[],fun _=>#[],fun _=>#[]⟩,orcs_all (at_two (fun π=>nextD_ok hxk) (fun π=>eq2_ok (E2 hb))),fun σ=>(z σ s.1 s.2 #[]).at (.tail _ (.tail _ (.tail _ (.head _)))),fun σ _=>hs.2 hb⟩
  cases q' with
  | none=>
    exact key o
  | some v=>
    exact key (some (v.a 2,v.v 0))
 ·intro B n t p ys ea u ed hn1 hg
  exact ⟨_,lMie,fun σ=>(σ 0).n,fun σ=>(σ 0).t,one_ok fun π=>endD_ok (by simp),fun σ=>(runsMi1 w.params B n t σ p src it acc L fr cd xs ys ex ea xs.size ed 0 0 kn tn 0 nm .none (esMi w.params kn tn nm (some (u.a 2,u.v 0)))).at (.tail _ (.tail _ (.tail _ (.tail _ (.head _)))))⟩
noncomputable def preN (ns : List Nat) (N : Nat) : Nat → List Nat
 | 0=>[]
 | j + 1=>preN ns N j ++ (ns.take N).filter (· == j)
theorem preN_is (ns : List Nat) (N : Nat) : preN ns N 7 = srt (ns.take N):=by
 unfold srt
 rw [range7]
 simp only [preN,List.flatMap_cons,List.flatMap_nil,List.nil_append,List.append_nil,List.append_assoc]
noncomputable def miD (P : Params) (sz acc L fr cs : Addr) (xs : Array Value) (ex t : Nat) (ns : List Nat) (j : Nat) : OrcD:=
 dep 0 fun π=>miInD P (6 + j) 1 2 4 sz (π j).n acc L fr cs xs ((π j).x 0) ex ((π j).a 0) ((π j).a 1) (t + 1) (π j).t (j + 1) (some ((π j).a 2,(π j).v 0)) (preN ns xs.size (j + 1)) ns
noncomputable def dsMi (P : Params) (sz acc L fr cs : Addr) (xs : Array Value) (ex ea ed n t : Nat) (ns : List Nat) : List OrcD:=
 [miInD P 5 1 2 4 sz n acc L fr cs xs #[] ex ea (ed + 1) (t + 1) t 0 none (preN ns xs.size 0) ns,miD P sz acc L fr cs xs ex t ns 0,miD P sz acc L fr cs xs ex t ns 1,miD P sz acc L fr cs xs ex t ns 2,miD P sz acc L fr cs xs ex t ns 3,miD P sz acc L fr cs xs ex t ns 4,miD P sz acc L fr cs xs ex t ns 5]
noncomputable def cMi (it acc L fr cs : Addr) : Code:=.compLoop eMi 0 (.ref it) (.ref acc) (envMi L fr cs)
noncomputable def lMi0 : List St:=[G 26 0x188766444444444,cm,G 6 0x198,.orc,G 27 0x188766444444444,cm,G 6 0x1a8,.orc,G 27 0x188766444444444,cm,G 6 0x1b8,.orc,G 27 0x188766444444444,cm,G 6 0x1c8,.orc,G 27 0x188766444444444,cm,G 6 0x1d8,.orc,G 27 0x188766444444444,cm,G 6 0x1e8,.orc,G 27 0x188766444444444,cm,G 6 0x10ff8,.orc,G 15 0x111f44444]
theorem runsMi0 (P : Params) (B : List (Code × Pos)) (n t : Nat) (σ : Nat → Sup) (p : Pos) (it acc L fr cs sz : Addr) (xs : Array Value) (ex ea ed : Nat) (ns : List Nat) : Runs [
 (runC P B lMi0 [(it,rngO 0 7),(acc,listO #[] ea),(L,dictO #[] ed),(cs,cellO (.ref sz)),(sz,listO xs ex)] n t (osAt σ 0 (dsMi P sz acc L fr cs xs ex ea ed n t ns)) (cMi it acc L fr cs) p,[0,1,2,3,4],
  (.pure (.done .next),[],[some (it,rngO 7 0),some (acc,listO ((σ 6).x 0) ((σ 6).a 0)),some (L,dictO (esMi P (t + 1) (σ 5).t 6 (some ((σ 6).a 2,(σ 6).v 0))) ((σ 6).a 1)),some (cs,cellO (.ref sz)),some (sz,listO xs ex)],(σ 6).n + 2,(σ 6).t))]:=by unfold Runs;kernel_rfl
noncomputable def midCD (P : Params) (ni na nL nc nd : Nat) (it acc L fr cs sz : Addr) (xs : Array Value) (ex ea ed : Nat) (ns : List Nat) : OrcD:=
 compD (.compStart eMi 0 (.ref it) (.ref acc) (envMi L fr cs)) ni na nL it acc L (rngO 0 7) (rngO 7 0) #[] ea #[] ed [(nc,cs,cellO (.ref sz)),(nd,sz,listO xs ex)] (fun u=>esMi P (u.a 2) (u.a 3) 6 (some (u.a 4,u.v 0))) (fun ys=>Ns (srt (ns.take xs.size)) ys)
theorem midC_ok {w : World} {D U : Nat} {π : Nat → Sup} (hD : D ≤ 540) (hU : U ≤ 7800) {ni na nL nc nd : Nat} {it acc L fr cs sz : Addr} {xs : Array Value} {ex ea ed : Nat} {ns : List Nat} (hx : 0 < xs.size) (hw : Ns ns xs) (hsz : ns.length ≤ 60)
 (hn : [ni,na,nL,nc,nd].Nodup) : OrcAt w D U π (midCD w.params ni na nL nc nd it acc L fr cs sz xs ex ea ed ns):=by
 refine (start_any (by kernel_rfl) (self_range (k:=0) (j:=7) (ni:=ni) (.head _)) ?_).at
 refine fnF_any (fs:=none) (c:=fun _=>cMi it acc L fr cs) (need:=fun _=>needC ni na nL it acc L (rngO 0 7) #[] ea #[] ed [(nc,cs,cellO (.ref sz)),(nd,sz,listO xs ex)])
  (fin:=fun _=>compF (rngO 7 0) (fun u=>esMi w.params (u.a 2) (u.a 3) 6 (some (u.a 4,u.v 0))) [(nc,cs,cellO (.ref sz)),(nd,sz,listO xs ex)]) (r:=fun _ _=>.ok .next) (out:=fun _ _=>[]) (F:=fun _ u=>Ns (srt (ns.take xs.size)) (u.x 0)) (by omega) (by omega) rfl hn (by simp [needC]) fun B n t p hN=>?_
 have hpl : ∀ j,(preN ns xs.size j).length ≤ j * 60:=by
  intro j
  induction j with
  | zero=>simp [preN]
  | succ j ih=>
    have h1:=List.length_filter_le (· == j) (ns.take xs.size)
    have h2 : (ns.take xs.size).length ≤ 60:=by simp;omega
    have : (preN ns xs.size (j + 1)).length = (preN ns xs.size j).length + ((ns.take xs.size).filter (· == j)).length:=by simp [preN]
    omega
 have hxs : xs.size ≤ 60:=by rw [hw.1];exact hsz
 have big : 1000 ≤ sizeLine:=by decide +kernel
 refine ⟨dsMi w.params sz acc L fr cs xs ex ea ed n t ns,lMi0,[],fun σ=>⟨(σ 6).n + 2,(σ 6).t,fun i=>match i with | 0=>(σ 6).a 0 | 1=>(σ 6).a 1 | 2=>t + 1 | 3=>(σ 5).t | _=>(σ 6).a 2,fun _=>(σ 6).v 0,fun _=>(σ 6).x 0,fun _=>#[],fun _=>#[]⟩,orcs_of ?_,(fun _ h=>nomatch h),List.nodup_nil,fun σ=>⟨rfl,rfl,(runsMi0 w.params B n t σ p it acc L fr cs sz xs ex ea ed ns).get (.head _)⟩,fun σ hF=>?_⟩
 ·intro j d hd' π hF'
  obtain ⟨J,M,hJ,hM,hd,hF⟩:=genJ hd' hF'
  clear hd' hF'
  match j,hd with
  | 0,hd=>subst hM;cases hd;exact miIn_ok (by omega) (by omega) hx hw Ns.nil (by simp [preN];omega) (by decide)
  | 1,hd=>subst hM;cases hd;exact dep_at (miIn_ok (by omega) (by omega) hx hw (hF 0 (by omega) _ rfl) (by have:=hpl 1;simp only [Nat.zero_add];omega) (by decide))
  | 2,hd=>subst hM;cases hd;exact dep_at (miIn_ok (by omega) (by omega) hx hw (hF 1 (by omega) _ rfl) (by have:=hpl (1 + 1);omega) (by decide))
  | 3,hd=>subst hM;cases hd;exact dep_at (miIn_ok (by omega) (by omega) hx hw (hF 2 (by omega) _ rfl) (by have:=hpl (2 + 1);omega) (by decide))
  | 4,hd=>subst hM;cases hd;exact dep_at (miIn_ok (by omega) (by omega) hx hw (hF 3 (by omega) _ rfl) (by have:=hpl (3 + 1);omega) (by decide))
  | 5,hd=>subst hM;cases hd;exact dep_at (miIn_ok (by omega) (by omega) hx hw (hF 4 (by omega) _ rfl) (by have:=hpl (4 + 1);omega) (by decide))
  | 6,hd=>subst hM;cases hd;exact dep_at (miIn_ok (by omega) (by omega) hx hw (hF 5 (by omega) _ rfl) (by have:=hpl (5 + 1);omega) (by decide))
  | j + 7,hd=>subst hM;exact nomatch (show none = some d from hd)
 ·have z : Ns (preN ns xs.size 7) ((σ 6).x 0):=hF 6 _ rfl
  rw [preN_is] at z
  exact z
noncomputable def dsW1 (P : Params) (n t : Nat) (l : Addr) (xs : Array Value) (ex : Nat) (ns : List Nat) (m v : Nat) : List OrcD:=
 [midCD P 4 5 6 2 0 (n + 3) (n + 4) (n + 5) n (n + 1) l xs ex 0 0 ns,dep 0 fun π=>lenM 5 (n + 4) ((π 0).x 0) ((π 0).a 0) m,modR (m : Nat) 2 1 (fun π=>(π 1).a 0) (fun π=>(π 1).t + 1),eq2 1 1 (fun π=>(π 2).a 0) (fun π=>(π 2).t) true,
  divR (m : Nat) 2 (m / 2 : Nat) (fun π=>(π 1).a 0) (fun π=>(π 2).t + 1),dep 0 fun π=>itemN 5 (n + 4) ((π 0).x 0) ((π 0).a 0) (m / 2) (fun π=>(π 4).a 0) v]
noncomputable def dsW0 (P : Params) (n t : Nat) (l : Addr) (xs : Array Value) (ex : Nat) (ns : List Nat) (m v1 v2 : Nat) : List OrcD:=
 [midCD P 4 5 6 2 0 (n + 3) (n + 4) (n + 5) n (n + 1) l xs ex 0 0 ns,dep 0 fun π=>lenM 5 (n + 4) ((π 0).x 0) ((π 0).a 0) m,modR (m : Nat) 2 0 (fun π=>(π 1).a 0) (fun π=>(π 1).t + 1),eq2 0 1 (fun π=>(π 2).a 0) (fun π=>(π 2).t) false,
  divR (m : Nat) 2 (m / 2 : Nat) (fun π=>(π 1).a 0) (fun π=>(π 2).t + 1),subR (m / 2 : Nat) 1 (m / 2 - 1 : Nat) (fun π=>(π 4).a 0) (fun π=>(π 4).t),dep 0 fun π=>itemN 5 (n + 4) ((π 0).x 0) ((π 0).a 0) (m / 2 - 1) (fun π=>(π 5).a 0) v1,
  divR (m : Nat) 2 (m / 2 : Nat) (fun π=>(π 1).a 0) (fun π=>(π 5).t),dep 0 fun π=>itemN 5 (n + 4) ((π 0).x 0) ((π 0).a 0) (m / 2) (fun π=>(π 7).a 0) v2,addR (v1 : Nat) (v2 : Nat) (v1 + v2 : Nat) (fun π=>(π 6).a 0) (fun π=>(π 8).a 0),tdivD (v1 + v2) (fun π=>(π 9).a 0) (fun π=>(π 9).t)]
noncomputable def lW1 : List St:=[G 36 0x17777770016600,cm,G 12 0x187777,.orc,G 25 0x1500aaaaaa55,.orc,G 13 0x1555,.orc,G 2 1,cm,.orc,G 6 0x155,.orc,G 4 0x1999,.orc]
noncomputable def lW0 : List St:=[G 36 0x17777770016600,cm,G 12 0x187777,.orc,G 25 0x1500aaaaaa55,.orc,G 13 0x1555,.orc,G 2 1,cm,.orc,G 6 0x155,.orc,G 2 1,.orc,G 4 0x1999,.orc,G 6 0x155,.orc,G 4 0x1999,.orc,G 1 1,.orc,G 2 1,.orc]
theorem runsW (P : Params) (B : List (Code × Pos)) (n t : Nat) (σ : Nat → Sup) (p : Pos) (l : Addr) (xs : Array Value) (ex m v v2 : Nat) (ns : List Nat) : Runs [
 (runC P B lW1 [(l,listO xs ex)] n t (osAt σ 0 (dsW1 P n t l xs ex ns m v)) (.call (.ref 1095) ⟨[.ref l],[]⟩) p,[0],(dn (.int (v : Nat) ((σ 5).a 0)),[],[some (l,listO xs ex)],(σ 4).n,(σ 4).t)),
 (runC P B lW0 [(l,listO xs ex)] n t (osAt σ 0 (dsW0 P n t l xs ex ns m v v2)) (.call (.ref 1095) ⟨[.ref l],[]⟩) p,[0],(dn (.float (halfF (v + v2)) ((σ 10).a 0)),[],[some (l,listO xs ex)],(σ 10).n,(σ 10).t))]:=by unfold Runs;kernel_rfl
theorem mid_ok {w : World} {D U : Nat} {π : Nat → Sup} (hD : D ≤ 465) (hU : U ≤ 7500) {nl : Nat} {l : Addr} {xs : Array Value} {ex : Nat} {ns : List Nat} (hw : Ns ns xs) (h6 : ∀ x ∈ ns,x ≤ 6) (h0 : 0 < ns.length) (h64 : ns.length ≤ 60) :
 OrcAt w D U π (medN 1095 nl l xs ex ns):=by
 have hlen : (srt ns).length = ns.length:=(srt_perm h6).length_eq
 have hx : 0 < xs.size:=by rw [hw.1];exact h0
 have et : ns.take xs.size = ns:=List.take_of_length_le (Nat.le_of_eq hw.1.symm)
 unfold medN
 refine fn_ok (by omega) (by omega) rfl (nd rfl) (le4 rfl) fun B n t pos hn=>?_
 have z:=fun σ v v2=>runsW w.params B n t σ pos l xs ex ns.length v v2 ns
 rcases Nat.mod_two_eq_zero_or_one ns.length with hm | hm
 ·have ev : ∀ t,midV ns t = .float (halfF ((srt ns).getD (ns.length / 2 - 1) 0 + (srt ns).getD (ns.length / 2) 0)) t:=fun t=>by unfold midV;rw [hm];rfl
  refine ⟨dsW0 w.params n t l xs ex ns ns.length ((srt ns).getD (ns.length / 2 - 1) 0) ((srt ns).getD (ns.length / 2) 0),lW0,[],fun σ=>⟨(σ 10).n,(σ 10).t,fun _=>(σ 10).a 0,fun _=>.none,fun _=>#[],fun _=>#[],fun _=>#[]⟩,orcs_of ?_,(fun _ h=>nomatch h),List.nodup_nil,fun σ=>⟨rfl,rfl,?_⟩,fun _ _=>trivial⟩
  ·intro j d hd' π hF'
   obtain ⟨J,M,hJ,hM,hd,hF⟩:=genJ hd' hF'
   clear hd' hF'
   have hws : 0 < J → Ns (srt ns) ((π 0).x 0):=fun hj=>by
    have:=hF 0 hj (midCD w.params 4 5 6 2 0 (n + 3) (n + 4) (n + 5) n (n + 1) l xs ex 0 0 ns) rfl
    rw [← et];exact this
   match j,hd with
   | 0,hd=>subst hM;cases hd;exact midC_ok (by omega) (by omega) hx hw h64 (by decide)
   | 1,hd=>subst hM;cases hd;exact dep_at (lenM_ok (by rw [(hws (by omega)).1,hlen]) (by omega))
   | 2,hd=>subst hM;cases hd;exact modR_ok (by decide) (by rw [Int.fmod_eq_emod_of_nonneg _ (by decide)];omega)
   | 3,hd=>subst hM;cases hd;exact eq2_ok (by decide)
   | 4,hd=>subst hM;cases hd;exact half_ok
   | 5,hd=>subst hM;cases hd;exact subR_ok (by omega)
   | 6,hd=>subst hM;cases hd;exact dep_at (itemN_ok (ns_item (hws (by omega)) (by omega)) (by omega))
   | 7,hd=>subst hM;cases hd;exact half_ok
   | 8,hd=>subst hM;cases hd;exact dep_at (itemN_ok (ns_item (hws (by omega)) (by omega)) (by omega))
   | 9,hd=>subst hM;cases hd;exact addR_ok (by omega)
   | 10,hd=>subst hM;cases hd;exact tdivD_ok (by have:=srt_le h6 (ns.length / 2 - 1);have:=srt_le h6 (ns.length / 2);omega)
   | j + 11,hd=>subst hM;exact nomatch (show none = some d from hd)
  ·show Ends _ _ (endT (.ok (.ret (midV ns _))),_)
   rw [ev]
   exact (z σ _ _).get (.tail _ (.head _))
 ·have ev : ∀ t,midV ns t = .int ((srt ns).getD (ns.length / 2) 0 : Nat) t:=fun t=>by unfold midV;rw [hm];rfl
  refine ⟨dsW1 w.params n t l xs ex ns ns.length ((srt ns).getD (ns.length / 2) 0),lW1,[],fun σ=>⟨(σ 4).n,(σ 4).t,fun _=>(σ 5).a 0,fun _=>.none,fun _=>#[],fun _=>#[],fun _=>#[]⟩,orcs_of ?_,(fun _ h=>nomatch h),List.nodup_nil,fun σ=>⟨rfl,rfl,?_⟩,fun _ _=>trivial⟩
  ·intro j d hd' π hF'
   obtain ⟨J,M,hJ,hM,hd,hF⟩:=genJ hd' hF'
   clear hd' hF'
   have hws : 0 < J → Ns (srt ns) ((π 0).x 0):=fun hj=>by
    have:=hF 0 hj (midCD w.params 4 5 6 2 0 (n + 3) (n + 4) (n + 5) n (n + 1) l xs ex 0 0 ns) rfl
    rw [← et];exact this
   match j,hd with
   | 0,hd=>subst hM;cases hd;exact midC_ok (by omega) (by omega) hx hw h64 (by decide)
   | 1,hd=>subst hM;cases hd;exact dep_at (lenM_ok (by rw [(hws (by omega)).1,hlen]) (by omega))
   | 2,hd=>subst hM;cases hd;exact modR_ok (by decide) (by rw [Int.fmod_eq_emod_of_nonneg _ (by decide)];omega)
   | 3,hd=>subst hM;cases hd;exact eq2_ok (by decide)
   | 4,hd=>subst hM;cases hd;exact half_ok
   | 5,hd=>subst hM;cases hd;exact dep_at (itemN_ok (ns_item (hws (by omega)) (by omega)) (by omega))
   | j + 6,hd=>subst hM;exact nomatch (show none = some d from hd)
  ·show Ends _ _ (endT (.ok (.ret (midV ns _))),_)
   rw [ev]
   exact (z σ _ 0).get (.head _)
noncomputable def addF (acc : List String) (x : String) : List String:=if x ∈ acc then acc else acc ++ [x]
noncomputable def firsts (ls : List String) : List String:=ls.foldl addF []
theorem firsts_snoc (ls : List String) (x : String) : firsts (ls ++ [x]) = addF (firsts ls) x:=by
 unfold firsts;rw [List.foldl_append];rfl
theorem snoc_ind {P : List String → Prop} (h0 : P []) (h1 : ∀ l x,P l → P (l ++ [x])) (ls : List String) : P ls:=by
 have key : ∀ k,P (ls.take k):=by
  intro k
  induction k with
  | zero=>simpa using h0
  | succ k ih=>
    by_cases h : k < ls.length
    ·rw [List.take_succ,List.getElem?_eq_getElem h]
     exact h1 _ _ ih
    ·rw [List.take_of_length_le (by omega)] at ih ⊢
     exact ih
 have:=key ls.length
 rwa [List.take_length] at this
theorem mem_firsts (ls : List String) : ∀ y,y ∈ firsts ls ↔ y ∈ ls:=by
 refine snoc_ind (P:=fun ls=>∀ y,y ∈ firsts ls ↔ y ∈ ls) (fun y=>by simp [firsts]) (fun l x ih y=>?_) ls
 rw [firsts_snoc]
 unfold addF
 split
 ·rename_i h
  rw [ih y,List.mem_append,List.mem_singleton]
  constructor
  ·exact .inl
  ·rintro (h' | rfl)
   ·exact h'
   ·exact (ih _).mp h
 ·rw [List.mem_append,List.mem_append,ih y]
theorem nodup_firsts (ls : List String) : (firsts ls).Nodup:=by
 refine snoc_ind (P:=fun ls=>(firsts ls).Nodup) (by simp [firsts]) (fun l x ih=>?_) ls
 rw [firsts_snoc]
 unfold addF
 split
 ·exact ih
 ·rename_i h
  rw [List.nodup_append]
  refine ⟨ih,by simp,fun a ha b hb e=>?_⟩
  rw [List.mem_singleton] at hb
  subst hb;subst e
  exact h ha
theorem bump_cons (y : String) (m : Nat) (l : List (String × Nat)) (x : String) : bump ((y,m) :: l) x = if y == x then (y,m + 1) :: l else (y,m) :: bump l x:=by
 unfold bump
 rw [List.findIdx?_cons]
 by_cases h : (y == x) = true
 ·rw [if_pos h]
  simp [h]
 ·rw [if_neg h]
  simp only [h,Bool.false_eq_true,if_false]
  cases e : l.findIdx? fun p=>p.1 == x with
  | none=>simp
  | some i=>simp
theorem bump_map (l0 : List String) (c : String → Nat) (x : String) (hnd : l0.Nodup) : bump (l0.map fun y=>(y,c y)) x = if x ∈ l0 then l0.map fun y=>(y,if y == x then c y + 1 else c y) else (l0.map fun y=>(y,c y)) ++ [(x,1)]:=by
 induction l0 with
 | nil=>simp [bump]
 | cons a l ih=>
   rw [List.nodup_cons] at hnd
   rw [List.map_cons,bump_cons,ih hnd.2]
   by_cases h : a = x
   ·subst h
    simp only [beq_self_eq_true,if_true,List.mem_cons,true_or,List.map_cons]
    congr 1
    apply List.map_congr_left
    intro y hy
    have : (y == a) = false:=by
     rw [beq_eq_false_iff_ne];rintro rfl;exact hnd.1 hy
    rw [this];rfl
   ·have h' : (a == x) = false:=beq_eq_false_iff_ne.mpr h
    simp only [h',Bool.false_eq_true,if_false,List.mem_cons,List.map_cons]
    by_cases hx : x ∈ l
    ·rw [if_pos hx,if_pos (.inr hx)]
    ·rw [if_neg hx,if_neg (by rintro (e | e);exact h e.symm;exact hx e)];rfl
theorem counter_is (ls : List String) : counter ls = (firsts ls).map fun y=>(y,ls.count y):=by
 refine snoc_ind (P:=fun ls=>counter ls = (firsts ls).map fun y=>(y,ls.count y)) rfl (fun l x ih=>?_) ls
 rw [counter_snoc,ih,bump_map _ _ _ (nodup_firsts l),firsts_snoc]
 unfold addF
 have hc : ∀ y,(l ++ [x]).count y = if y == x then l.count y + 1 else l.count y:=by
  intro y
  rw [List.count_append]
  by_cases h : y = x
  ·subst h;simp
  ·have e1 : (y == x) = false:=beq_eq_false_iff_ne.mpr h
   rw [e1]
   have e2 : [x].count y = 0:=List.count_eq_zero.mpr (by simpa using h)
   simp [e2]
 split
 ·apply List.map_congr_left
  intro y _
  rw [hc]
 ·rename_i h
  have hx : x ∉ l:=fun hx=>h ((mem_firsts l x).mpr hx)
  rw [List.map_append]
  congr 1
  ·apply List.map_congr_left
   intro y hy
   have : (y == x) = false:=by
    rw [beq_eq_false_iff_ne];rintro rfl;exact h hy
   rw [hc,this];rfl
  ·simp [hc,List.count_eq_zero.mpr hx]
theorem counter_length {ls names : List String} (hn : names.Nodup) (hm : ∀ x,x ∈ ls ↔ x ∈ names) : (counter ls).length = names.length:=by
 rw [counter_is,List.length_map]
 exact ((List.perm_ext_iff_of_nodup (nodup_firsts ls) hn).mpr fun x=>by rw [mem_firsts,hm]).length_eq
theorem modesTo_is (l : List (String × Nat)) (M : Nat) : ∀ k,k ≤ l.length → modesTo (fun i=>l.getD i ("",0)) M k = ((l.take k).filter (·.2 == M)).map (·.1)
 | 0,_=>by simp [modesTo]
 | k + 1,h=>by
   rw [modesTo_succ,modesTo_is l M k (by omega),List.take_succ,List.getElem?_eq_getElem (by omega),List.filter_append,List.map_append]
   have e : l.getD k ("",0) = l[k]:=by rw [List.getD_eq_getElem?_getD,List.getElem?_eq_getElem (by omega)];rfl
   rw [e]
   cases hb : l[k].2 == M <;> simp [hb]
theorem modesOf_is (ls : List String) : modesOf ls = (firsts ls).filter fun x=>ls.count x == topOf ls:=by
 unfold modesOf cOf
 rw [modesTo_is _ _ _ (Nat.le_refl _),List.take_length,counter_is,List.filter_map,List.map_map]
 have e : ((·.1) ∘ fun y : String=>(y,ls.count y)) = _root_.id:=rfl
 rw [e,List.map_id]
 rfl
theorem firsts_filter (p : String → Bool) (ls : List String) : firsts (ls.filter p) = (firsts ls).filter p:=by
 refine snoc_ind (P:=fun ls=>firsts (ls.filter p) = (firsts ls).filter p) rfl (fun l x ih=>?_) ls
 rw [firsts_snoc,List.filter_append]
 unfold addF
 by_cases hp : p x = true
 ·rw [List.filter_cons_of_pos hp,List.filter_nil,firsts_snoc,ih]
  unfold addF
  by_cases hx : x ∈ firsts l
  ·rw [if_pos hx,if_pos (List.mem_filter.mpr ⟨hx,hp⟩)]
  ·rw [if_neg hx,if_neg (fun h=>hx (List.mem_filter.mp h).1),List.filter_append,List.filter_cons_of_pos hp,List.filter_nil]
 ·rw [List.filter_cons_of_neg hp,List.filter_nil,List.append_nil,ih]
  split
  ·rfl
  ·rw [List.filter_append,List.filter_cons_of_neg hp,List.filter_nil,List.append_nil]
theorem same_six {a b : String} (ha : a ∈ six) (hb : b ∈ six) : same a b = (a == b):=same_eq ha hb
theorem uniqTo_is {l : List String} (h6 : ∀ x ∈ l,x ∈ six) : ∀ k,k ≤ l.length → uniqTo l k = firsts (l.take k)
 | 0,_=>by simp [uniqTo,firsts]
 | k + 1,h=>by
   have e : l.getD k "" = l[k]:=by rw [List.getD_eq_getElem?_getD,List.getElem?_eq_getElem (by omega)];rfl
   have hk : l[k] ∈ six:=h6 _ (List.getElem_mem _)
   rw [List.take_succ,List.getElem?_eq_getElem (by omega)]
   show _ = firsts (l.take k ++ [l[k]])
   rw [firsts_snoc,← uniqTo_is h6 k (by omega)]
   unfold addF
   have ea : (l.take k).any (same · (l.getD k "")) = decide (l[k] ∈ uniqTo l k):=by
    rw [uniqTo_is h6 k (by omega),e]
    by_cases hm : l[k] ∈ firsts (l.take k)
    ·rw [decide_eq_true hm,List.any_eq_true]
     exact ⟨l[k],(mem_firsts _ _).mp hm,by rw [same_six hk hk];simp⟩
    ·rw [decide_eq_false hm,List.any_eq_false]
     intro y hy
     rw [same_six (h6 y (List.mem_of_mem_take hy)) hk]
     intro e'
     have : y = l[k]:=by simpa using e'
     exact hm ((mem_firsts _ _).mpr (this ▸ hy))
   show (match (l.take k).any (same · (l.getD k "")) with
    | true=>uniqTo l k
    | false=>uniqTo l k ++ [l.getD k ""]) = _
   rw [ea]
   by_cases hm : l[k] ∈ uniqTo l k
   ·rw [decide_eq_true hm,if_pos hm]
   ·rw [decide_eq_false hm,if_neg hm,e]
theorem cnt_is {ls : List String} (h6 : ∀ x ∈ ls,x ∈ six) {x : String} (hx : x ∈ six) : cnt ls x = ls.count x:=by
 unfold cnt List.count
 apply List.countP_congr
 intro y hy
 rw [same_six (h6 y hy) hx]
theorem top_is {ls : List String} (h6 : ∀ x ∈ ls,x ∈ six) (h0 : 0 < ls.length) : maxOf (ls.map (cnt ls)) = topOf ls:=by
 unfold topOf
 rw [counter_is,List.map_map]
 have hl : 0 < (ls.map (cnt ls)).length:=by simpa using h0
 have hne : 0 < ((firsts ls).map ((·.2) ∘ fun y : String=>(y,ls.count y))).length:=by
  rw [List.length_map]
  have : ls[0] ∈ firsts ls:=(mem_firsts _ _).mpr (List.getElem_mem h0)
  exact List.length_pos_of_mem this
 apply Nat.le_antisymm
 ·obtain ⟨x,hx,e⟩:=List.mem_map.mp (maxOf_mem hl)
  rw [← e,cnt_is h6 (h6 x hx)]
  exact maxOf_ge (List.mem_map.mpr ⟨x,(mem_firsts _ _).mpr hx,rfl⟩)
 ·obtain ⟨x,hx,e⟩:=List.mem_map.mp (maxOf_mem hne)
  have hx':=(mem_firsts _ _).mp hx
  rw [← e]
  exact maxOf_ge (List.mem_map.mpr ⟨x,hx',cnt_is h6 (h6 x hx')⟩)
theorem modes_common {ls : List String} (h6 : ∀ x ∈ ls,x ∈ six) (h0 : 0 < ls.length) : commonOf ls = modesOf ls:=by
 have hm6 : ∀ x ∈ mostOf ls,x ∈ six:=fun x hx=>h6 x (List.mem_filter.mp hx).1
 unfold commonOf
 rw [uniqTo_is hm6 _ (Nat.le_refl _),List.take_length,modesOf_is]
 unfold mostOf most
 rw [firsts_filter,top_is h6 h0]
 apply List.filter_congr
 intro x hx
 rw [cnt_is h6 (h6 x ((mem_firsts _ _).mp hx))]
noncomputable def BR (tg : PySem.Expr) (it : Value) (bd oe : List Stmt) (ev : Env) (f : List Stmt) (p1 p2 p3 : Pos) : List (Code × Pos):=[(.forLoop tg it bd oe ev,p1),(.func f ev,p2),(.builtin "claim.caller" {},p3)]
noncomputable def envRt (n : Addr) : Env:=⟨fS (dig [51] pw.main.body),n,3,[(q "due",n + 1)],q "_law_right.<locals>.",some 1100,r 1099,some n,0⟩
noncomputable def medX (f : Addr) (nl : Nat) (l : Addr) (xs : Array Value) (ex : Nat) (V : Nat → Value) : OrcD:=
 fnD (fun _=>.call (.ref f) ⟨[.ref l],[]⟩) (fun _=>[(nl,l,listO xs ex)]) (fun _ _=>[listO xs ex]) (fun _ u=>.ok (.ret (V (u.a 0)))) (fun _ _=>[]) (fun _ _=>True)
noncomputable def frRt (P : Params) (n t1 t2 : Nat) (pk c : Addr) (t : Nat) (sl : Array (Option Value)) : FrM:=⟨n,#[E P "picked" t (.ref pk),E P "rising" t1 (.ref (n + 4)),E P "common" t2 (.ref c)],3,sl⟩
noncomputable def dsRt (w : World) (n t : Nat) (pk due : Addr) (ys xs : Array Value) (ey ex : Nat) (h : FrM) (ev : Env) (ls : List String) (m : Nat) (x1 x2 x : String) (V : Nat → Value) (fin : ((Nat → Sup) → Nat) → ((Nat → Sup) → Nat) → OrcD) : List OrcD:=
 [risingD w.params 6 7 8 4 1 5 (n + 2) (n + 3) (n + 4) (n + 5) n (n + 1) due xs ex 0 0 0 (fun i=>t + 1 + i) ls,
  medD 71 0 pk ys ey x1,medD 78 0 pk ys ey x2,lenM 1 due xs ex m,
  subR (m : Nat) 1 (m - 1 : Nat) (fun π=>(π 3).a 0) (fun π=>(π 3).t),
  divR (m - 1 : Nat) 2 ((m - 1) / 2 : Nat) (fun π=>(π 4).a 0) (fun π=>(π 4).t),
  dep 0 fun π=>itemW 7 (n + 4) ((π 0).x 0) ((π 0).a 0) ((m - 1) / 2) (fun π=>(π 5).a 0) x1,
  lenM 1 due xs ex m,
  divR (m : Nat) 2 (m / 2 : Nat) (fun π=>(π 7).a 0) (fun π=>(π 7).t),
  dep 0 fun π=>itemW 7 (n + 4) ((π 0).x 0) ((π 0).a 0) (m / 2) (fun π=>(π 8).a 0) x2,
  dep 0 fun π=>cmpD "list.__ne__" 9 10 (π 2).n (π 8).n #[sv x1 ((π 1).a 0),sv x2 ((π 2).a 0)] #[sv x1 ((π 6).a 0),sv x2 ((π 9).a 0)] 0 0 false,
  commonD 1 due xs ex ls,
  dep 0 fun π=>mulD 0 3 2 pk ys ey (frRt w.params n (π 0).t (π 11).t pk ((π 11).a 0) t #[]) h (envRt n) ev ls,
  dep 0 fun π=>cmpD "list.__eq__" 12 11 ((π 12).a 0) ((π 11).a 0) ((π 12).x 0) ((π 11).x 0) ((π 12).a 1) ((π 11).a 1) true,
  dep 0 fun π=>modeD 0 3 2 pk ys ey (frRt w.params n (π 0).t (π 11).t pk ((π 11).a 0) t ((π 12).s 0)) ⟨h.L,h.es,h.ep,(π 12).s 1⟩ (envRt n) ev x,
  dep 0 fun π=>itemW 11 ((π 11).a 0) ((π 11).x 0) ((π 11).a 1) 0 (fun π=>(π 14).t) x,
  strEqD x x (fun π=>(π 14).a 0) (fun π=>(π 15).a 0) true,
  dep 0 fun π=>compD (.compStart (eLs true) 0 (.ref (π 14).n) (.ref ((π 14).n + 1)) (envLs ((π 14).n + 2) n)) 13 14 15 (π 14).n ((π 14).n + 1) ((π 14).n + 2) (iterO pk 0) (iterEnd ys.size) #[] 0 #[] 0 [(0,pk,listO ys ey)] (es1k w.params "word") (fun zs=>Ns ((ls.take ys.size).map slen) zs),
  dep 0 fun π=>medX 64 14 ((π 14).n + 1) ((π 17).x 0) ((π 17).a 0) V,
  dep 0 fun π=>compD (.compStart (eLs false) 0 (.ref (π 18).n) (.ref ((π 18).n + 1)) (envLs ((π 18).n + 2) n)) 16 17 18 (π 18).n ((π 18).n + 1) ((π 18).n + 2) (iterO due 0) (iterEnd xs.size) #[] 0 #[] 0 [(1,due,listO xs ex)] (es1k w.params "word") (fun zs=>Ns ((ls.take xs.size).map slen) zs),
  dep 0 fun π=>medX 1095 17 ((π 18).n + 1) ((π 19).x 0) ((π 19).a 0) V,
  fin (fun π=>(π 18).a 0) (fun π=>(π 20).a 0)]
noncomputable def lRt : List St:=[G 25 0x1991887700,cm,G 9 0x1a9,.orc,G 26 0x1070cccccc77,.orc,G 7 0x1070,.orc,G 11 0x18007,.orc,G 3 1,.orc,G 2 1,.orc,G 4 0x1bbb,.orc,G 8 0x18007,.orc,G 3 1,.orc,G 4 0x1bbb,.orc,G 6 0x1ded,cm,.orc,G 8 0x1080,.orc,G 15 0x107077,.orc,G 8 0x110f0ff10f7,cm,.orc,G 8 0x1070,.orc,G 8 0x10ff0ff0ff7,.orc,G 1 1,cm,.orc,G 8 0x14470,cm,G 8 0x111f4,.orc,G 7 0x1013f13f13f,.orc,G 8 0x15580,cm,G 8 0x114f5,.orc,G 7 0x1016f16f16f,.orc,G 2 1,cm,.orc]
noncomputable def finI (v : Nat) (ta tb : (Nat → Sup) → Nat) : OrcD:=eq2 (v : Nat) (v : Nat) ta tb true
theorem runsRt (w : World) (tg : PySem.Expr) (it : Value) (bd oe : List Stmt) (ev : Env) (f : List Stmt) (p1 p2 p3 : Pos) (b t : Nat) (σ : Nat → Sup) (p : Pos) (pk due : Addr) (ys xs : Array Value) (ey ex : Nat) (h : FrM) (ls : List String) (m : Nat) (x1 x2 x : String) (v : Nat) : Runs [
 (runF w.params (BR tg it bd oe ev f p1 p2 p3) (some (.codes (csR tg it bd oe ev f))) lRt [(pk,listO ys ey),(due,listO xs ex),(h.L,h.o)] (b + 1106) t (osAt σ 0 (dsRt w (b + 1106) t pk due ys xs ey ex h ev ls m x1 x2 x (fun t=>.int (v : Nat) t) (finI v))) (.call (.ref 1100) ⟨[.ref pk,.ref due],[]⟩) p,[0,1,2],
  (dn (.bool true),[],[some (pk,listO ys ey),some (due,listO xs ex),some (h.L,frO h.es h.ep ((σ 14).s 1))],(σ 20).n,(σ 20).t)),
 (runF w.params (BR tg it bd oe ev f p1 p2 p3) (some (.codes (csR tg it bd oe ev f))) lRt [(pk,listO ys ey),(due,listO xs ex),(h.L,h.o)] (b + 1106) t (osAt σ 0 (dsRt w (b + 1106) t pk due ys xs ey ex h ev ls m x1 x2 x (fun t=>.float (halfF v) t) (feqD v))) (.call (.ref 1100) ⟨[.ref pk,.ref due],[]⟩) p,[0,1,2],
  (dn (.bool true),[],[some (pk,listO ys ey),some (due,listO xs ex),some (h.L,frO h.es h.ep ((σ 14).s 1))],(σ 20).n,(σ 20).t))]:=by unfold Runs;kernel_rfl
theorem codes3R {a b c : Code} : ∀ {B : List (Code × Pos)},(Fs.codes [a,b,c]).holds B → ∃ p q r,B = [(a,p),(b,q),(c,r)]:=codes3
noncomputable def rightD (cs : List Code) (nl nd nw : Nat) (pk due : Addr) (ys xs : Array Value) (ey ex : Nat) (h : FrM) : OrcD:=
 fnF (some (.codes cs)) (fun _=>.call (.ref 1100) ⟨[.ref pk,.ref due],[]⟩) (fun _=>[(nl,pk,listO ys ey),(nd,due,listO xs ex),(nw,h.L,h.o)]) (fun _ u=>[listO ys ey,listO xs ex,frO h.es h.ep (u.s 1)]) (fun _ _=>.ok (.ret (.bool true))) (fun _ _=>[]) (fun _ _=>True)
theorem medX_of {w : World} {D U : Nat} {π : Nat → Sup} {f : Addr} {nl : Nat} {l : Addr} {xs : Array Value} {ex : Nat} {ns : List Nat} {V : Nat → Value} (h : OrcAt w D U π (medN f nl l xs ex ns)) (e : midV ns = V) : OrcAt w D U π (medX f nl l xs ex V):=by
 subst e;exact h
theorem dsRt_ok {w : World} {D U : Nat} (hD : D ≤ 465) (hU : U ≤ 7500) {n t : Nat} {pk due : Addr} {ys xs : Array Value} {ey ex : Nat} {h : FrM} {ev : Env} {ls : List String} {V : Nat → Value} {fin : ((Nat → Sup) → Nat) → ((Nat → Sup) → Nat) → OrcD} (h1 : Ws ls ys) (h2 : Ws ls xs) (h6 : ∀ x ∈ ls,x ∈ six) (h0 : 0 < ls.length) (h60 : ls.length ≤ 60) (hK : (counter ls).length ∈ [2,3,4])
 (hW : FrmOK ev h) (hV : midV (ls.map slen) = V) (hf : ∀ π ta tb,OrcAt w D U π (fin ta tb)) : ∀ j d,(dsRt w n t pk due ys xs ey ex h ev ls ls.length ((rising ls).getD ((ls.length - 1) / 2) "") ((rising ls).getD (ls.length / 2) "") ((modesOf ls).getD 0 "") V fin)[j]? = some d → OrcOK w D U (dsRt w n t pk due ys xs ey ex h ev ls ls.length ((rising ls).getD ((ls.length - 1) / 2) "") ((rising ls).getD (ls.length / 2) "") ((modesOf ls).getD 0 "") V fin) j d:=by
 have hlen : (rising ls).length = ls.length:=(rising_perm h6).length_eq
 have e1 : ls.take ys.size = ls:=List.take_of_length_le (Nat.le_of_eq h1.1.symm)
 have e2 : ls.take xs.size = ls:=List.take_of_length_le (Nat.le_of_eq h2.1.symm)
 have hy : 0 < ys.size:=by rw [h1.1];exact h0
 have hx : 0 < xs.size:=by rw [h2.1];exact h0
 have big : 1000 ≤ sizeLine:=by decide +kernel
 have h6n : ∀ x ∈ ls.map slen,x ≤ 6:=fun x hx=>by
  obtain ⟨y,hy,rfl⟩:=List.mem_map.mp hx
  exact slen_six y (h6 y hy)
 have hmn : (ls.map slen).length = ls.length:=List.length_map _
 have hc0 : 0 < (commonOf ls).length:=by
  have hm0:=mostOf_pos h0
  have hm6 : ∀ x ∈ mostOf ls,x ∈ six:=fun x hx=>h6 x (List.mem_filter.mp hx).1
  unfold commonOf
  rw [uniqTo_is hm6 _ (Nat.le_refl _),List.take_length]
  exact List.length_pos_of_mem ((mem_firsts _ _).mpr (List.getElem_mem hm0))
 refine orcs_of fun j d hd' π hF'=>?_
 obtain ⟨J,M,hJ,hM,hd,hF⟩:=genJ hd' hF'
 clear hd' hF'
 match j,hd with
 | 0,hd=>subst hM;cases hd;exact rising_ok (by omega) (by omega) h6 hx h2 h60 (by decide)
 | 1,hd=>subst hM;cases hd;exact medLo_ok (by omega) (by omega) h1 h6 h0 (by omega)
 | 2,hd=>subst hM;cases hd;exact medHi_ok (by omega) (by omega) h1 h6 h0 (by omega)
 | 3,hd=>subst hM;cases hd;exact lenM_ok h2.1 (by omega)
 | 4,hd=>subst hM;cases hd;exact subR_ok (by omega)
 | 5,hd=>subst hM;cases hd;exact half_ok
 | 6,hd=>
   subst hM;cases hd
   have z : Ws (rising (ls.take xs.size)) ((π 0).x 0):=hF 0 (by omega) _ rfl
   rw [e2] at z
   exact dep_at (itemW_ok (ws_item z (by omega)) (by omega))
 | 7,hd=>subst hM;cases hd;exact lenM_ok h2.1 (by omega)
 | 8,hd=>subst hM;cases hd;exact half_ok
 | 9,hd=>
   subst hM;cases hd
   have z : Ws (rising (ls.take xs.size)) ((π 0).x 0):=hF 0 (by omega) _ rfl
   rw [e2] at z
   exact dep_at (itemW_ok (ws_item z (by omega)) (by omega))
 | 10,hd=>subst hM;cases hd;exact dep_at (neD_ok (ws_two _ _ _ _) (ws_two _ _ _ _))
 | 11,hd=>subst hM;cases hd;exact common_ok (by omega) (by omega) h2 h0 h60
 | 12,hd=>subst hM;cases hd;exact dep_at (mulD_ok (by omega) (by omega) h1 h6 h60 hK ⟨rfl,by show (fS (dig [51] pw.main.body)).kind ≠ .module;rw [show (fS (dig [51] pw.main.body)).kind = .function from by kernel_rfl];intro h;cases h⟩ hW (by decide))
 | 13,hd=>
   subst hM;cases hd
   have za : Ws (commonOf ls) ((π 11).x 0):=hF 11 (by omega) _ rfl
   have zb : Ws (modesOf ls) ((π 12).x 0):=hF 12 (by omega) _ rfl
   rw [modes_common h6 h0] at za
   exact dep_at (eqD_ok zb za)
 | 14,hd=>subst hM;cases hd;exact dep_at (modeD_ok (by omega) (by omega) h1 h6 h60 hK ⟨rfl,by show (fS (dig [51] pw.main.body)).kind ≠ .module;rw [show (fS (dig [51] pw.main.body)).kind = .function from by kernel_rfl];intro h;cases h⟩ ⟨hW.adr,hW.kind⟩ (by decide))
 | 15,hd=>
   subst hM;cases hd
   have za : Ws (commonOf ls) ((π 11).x 0):=hF 11 (by omega) _ rfl
   rw [modes_common h6 h0] at za hc0
   exact dep_at (itemW_ok (ws_item za hc0) (by omega))
 | 16,hd=>
   subst hM;cases hd
   exact strEqD_ok (by unfold same;simp)
 | 17,hd=>subst hM;cases hd;exact dep_at (compLs_ok (b:=true) (by omega) (by omega) hy h1 h6 (by rw [h1.1];omega) (by decide))
 | 18,hd=>
   subst hM;cases hd
   have z : Ns ((ls.take ys.size).map slen) ((π 17).x 0):=hF 17 (by omega) _ rfl
   rw [e1] at z
   exact dep_at (medX_of (med_ok (by omega) (by omega) z h6n (by omega) (by omega)) hV)
 | 19,hd=>subst hM;cases hd;exact dep_at (compLs_ok (b:=false) (by omega) (by omega) hx h2 h6 (by rw [h2.1];omega) (by decide))
 | 20,hd=>
   subst hM;cases hd
   have z : Ns ((ls.take xs.size).map slen) ((π 19).x 0):=hF 19 (by omega) _ rfl
   rw [e2] at z
   exact dep_at (medX_of (mid_ok (by omega) (by omega) z h6n (by omega) (by omega)) hV)
 | 21,hd=>subst hM;cases hd;exact hf _ _ _
 | j + 22,hd=>subst hM;exact nomatch (show none = some d from hd)
theorem right_ok {w : World} {D U : Nat} {π : Nat → Sup} (hD : D ≤ 390) (hU : U ≤ 7200) {nl nd nw : Nat} {pk due : Addr} {ys xs : Array Value} {ey ex : Nat} {h : FrM} {tg : PySem.Expr} {it : Value} {bd oe : List Stmt} {ev : Env} {f : List Stmt} {ls : List String} (h1 : Ws ls ys) (h2 : Ws ls xs) (h6 : ∀ x ∈ ls,x ∈ six) (h0 : 0 < ls.length) (h60 : ls.length ≤ 60) (hK : (counter ls).length ∈ [2,3,4])
 (hW : FrmOK ev h) (hn : [nl,nd,nw].Nodup) : OrcAt w D U π (rightD (csR tg it bd oe ev f) nl nd nw pk due ys xs ey ex h):=by
 refine (fnG_any (by omega) (by omega) rfl (by simpa using hn) (by simp) fun B n t pos hN hB=>?_).at
 obtain ⟨p1,p2,p3,rfl⟩:=codes3R (hB _ rfl)
 obtain ⟨b,rfl⟩ : ∃ b,n = b + 1106:=⟨n - 1106,by omega⟩
 have z:=fun σ x1 x2 x v=>runsRt w tg it bd oe ev f p1 p2 p3 b t σ pos pk due ys xs ey ex h ls ls.length x1 x2 x v
 have hmn : (ls.map slen).length = ls.length:=List.length_map _
 have h6n : ∀ x ∈ ls.map slen,x ≤ 6:=fun x hx=>by
  obtain ⟨y,hy,rfl⟩:=List.mem_map.mp hx
  exact slen_six y (h6 y hy)
 rcases Nat.mod_two_eq_zero_or_one (ls.map slen).length with hm | hm
 ·have ev : midV (ls.map slen) = fun t=>.float (halfF ((srt (ls.map slen)).getD ((ls.map slen).length / 2 - 1) 0 + (srt (ls.map slen)).getD ((ls.map slen).length / 2) 0)) t:=funext fun t=>by unfold midV;rw [hm];rfl
  exact ⟨_,lRt,[],fun σ=>⟨(σ 20).n,(σ 20).t,fun _=>0,fun _=>.none,fun _=>#[],fun _=>#[],fun _=>(σ 14).s 1⟩,dsRt_ok (by omega) (by omega) h1 h2 h6 h0 h60 hK hW ev fun π ta tb=>feqD_ok (by have:=srt_le h6n ((ls.map slen).length / 2 - 1);have:=srt_le h6n ((ls.map slen).length / 2);omega),(fun _ h=>nomatch h),List.nodup_nil,fun σ=>⟨rfl,rfl,(z σ _ _ _ _).get (.tail _ (.head _))⟩,fun _ _=>trivial⟩
 ·have ev : midV (ls.map slen) = fun t=>.int ((srt (ls.map slen)).getD ((ls.map slen).length / 2) 0 : Nat) t:=funext fun t=>by unfold midV;rw [hm];rfl
  exact ⟨_,lRt,[],fun σ=>⟨(σ 20).n,(σ 20).t,fun _=>0,fun _=>.none,fun _=>#[],fun _=>#[],fun _=>(σ 14).s 1⟩,dsRt_ok (by omega) (by omega) h1 h2 h6 h0 h60 hK hW ev fun π ta tb=>eq2_ok (by simp),(fun _ h=>nomatch h),List.nodup_nil,fun σ=>⟨rfl,rfl,(z σ _ _ _ _).get (.head _)⟩,fun _ _=>trivial⟩
noncomputable def wT : Stmt → PySem.Expr
 | .While (test:=t) ..=>t
 | _=>default
noncomputable def wB : Stmt → List Stmt
 | .While (body:=b) ..=>b
 | _=>[]
noncomputable def joB : List Stmt:=fB (dig [23] pw.main.body)
noncomputable def w1 : Stmt:=nth joB 3
noncomputable def w2 : Stmt:=nth joB 4
noncomputable def envJo (L : Addr) : Env:=⟨fS (dig [23] pw.main.body),L,3,[],q "_join_translated_parts.<locals>.",some 365,r 364,some L,0⟩
noncomputable def hW (env : Env) (x : Value) : Sem Unit:=do
 noteFrame x env
 theTreesLotGoes x
noncomputable def kW (test : PySem.Expr) (body : List Stmt) (env : Env) (b : Bool) : Sem Fin:=
 if b then do
  match ← execs body env with
  | .next | .cont=>again (.whileLoop test body [] env)
  | .brk=>pure (.done .next)
  | .ret v=>pure (.done (.ret v))
 else do return .done (← execs [] env)
noncomputable def k2 (b : Bool) : Sem Bool:=match BoolOp.And,b with
 | .And,false=>pure false
 | .Or,true=>pure true
 | _,_=>pure true
noncomputable def cmpT (op : CmpOp) (x : Sem Value) (a : Addr) : Sem Bool:=do
 let c ← (do let r ← holding [.ref a,.ref a] x;release [.ref a,.ref a] [r];pure r)
 holding [c] (truthy c)
noncomputable def tA0 (x : Sem Value) (L a : Addr) : Sem Fin:=((cmpT .IsNot x a >>= k2) >>= kW (wT w1) (wB w1) (envJo L)).onRaise (hW (envJo L))
noncomputable def tA (L a : Addr) : { t : Sem Fin // tA0 (compareOp .IsNot (.ref a) (.ref a)) L a = t }:=by
 refine ⟨?t,?h⟩
 case h=>
  unfold tA0 cmpT kW hW k2
  simp only [bind_R,PySem.W.R.onRaiseR_eq]
  rw [PySem.W.Fast.te12886488535604756494,PySem.W.Fast.te17359229931016689406,PySem.W.Fast.te15245631507167962100,PySem.W.Fast.te12563942051412417395,PySem.W.Fast.te17872113653443481271,PySem.W.Fast.te1623429502029203251,PySem.W.Fast.te16427652380498605876,PySem.W.Fast.te12377390311714414960]
noncomputable def tA' (L a : Addr) : { t : Sem Fin // tA0 (pure (.bool false)) L a = t }:=by
 refine ⟨?t,?h⟩
 case h=>
  unfold tA0 cmpT kW hW k2
  simp only [bind_R,PySem.W.R.onRaiseR_eq]
  rw [PySem.W.Fast.te17359229931016689406,PySem.W.Fast.te15245631507167962100,PySem.W.Fast.te12563942051412417395,PySem.W.Fast.te17872113653443481271,PySem.W.Fast.te1623429502029203251,PySem.W.Fast.te16427652380498605876,PySem.W.Fast.te12377390311714414960]
theorem isNot_self (a : Addr) : compareOp .IsNot (.ref a) (.ref a) = pure (.bool false):=by
 unfold compareOp isSame
 simp
theorem is_self (a : Addr) : compareOp .Is (.ref a) (.ref a) = pure (.bool true):=by
 unfold compareOp isSame
 simp
theorem tA_eq (L a : Addr) : (tA L a).1 = (tA' L a).1:=by
 rw [← (tA L a).2,← (tA' L a).2,isNot_self]
noncomputable def cutA (i j : Nat) : St:=.cut (fun S=>(tA (ad S i) (ad S j)).1) (fun S=>(tA' (ad S i) (ad S j)).1) (fun S _=>tA_eq _ _)
noncomputable def asB : Stmt → PySem.Expr
 | .Assert (test:=t) ..=>t
 | _=>default
noncomputable def tB0 (x : Sem Value) (L a : Addr) : Sem Fin:=
 (((cmpT .Is x a >>= fun b=>if b then pure Flow.next else assertFails (asB (nth (wB w2) 0)).pos (evalOpt none (envJo L))) >>= fun f=>match f with
  | .next=>execs ((wB w2).drop 1) (envJo L)
  | f=>pure f) >>= fun f=>match f with
  | .next | .cont=>again (.whileLoop (wT w2) (wB w2) [] (envJo L))
  | .brk=>pure (.done .next)
  | .ret v=>pure (.done (.ret v))).onRaise (hW (envJo L))
noncomputable def tB (L a : Addr) : { t : Sem Fin // tB0 (compareOp .Is (.ref a) (.ref a)) L a = t }:=by
 refine ⟨?t,?h⟩
 case h=>
  unfold tB0 cmpT hW
  simp only [bind_R,PySem.W.R.onRaiseR_eq]
  rw [PySem.W.Fast.te12886488535604756494,PySem.W.Fast.te17359229931016689406,PySem.W.Fast.te15245631507167962100,PySem.W.Fast.te12563942051412417395,PySem.W.Fast.te17872113653443481271,PySem.W.Fast.te1623429502029203251,PySem.W.Fast.te16427652380498605876,PySem.W.Fast.te12377390311714414960,PySem.W.Fast.te12698765461058822308,PySem.W.Fast.te10735972582761353133]
noncomputable def tB' (L a : Addr) : { t : Sem Fin // tB0 (pure (.bool true)) L a = t }:=by
 refine ⟨?t,?h⟩
 case h=>
  unfold tB0 cmpT hW
  simp only [bind_R,PySem.W.R.onRaiseR_eq]
  rw [PySem.W.Fast.te17359229931016689406,PySem.W.Fast.te15245631507167962100,PySem.W.Fast.te12563942051412417395,PySem.W.Fast.te17872113653443481271,PySem.W.Fast.te1623429502029203251,PySem.W.Fast.te16427652380498605876,PySem.W.Fast.te12377390311714414960,PySem.W.Fast.te12698765461058822308,PySem.W.Fast.te10735972582761353133]
theorem tB_eq (L a : Addr) : (tB L a).1 = (tB' L a).1:=by
 rw [← (tB L a).2,← (tB' L a).2,is_self]
noncomputable def cutB (i j : Nat) : St:=.cut (fun S=>(tB (ad S i) (ad S j)).1) (fun S=>(tB' (ad S i) (ad S j)).1) (fun S _=>tB_eq _ _)
noncomputable def lTr0T : List St:=[G 125 0x1aaa700778888887771777777000550556660015500,cm,G 60 0x1777777dbbabbbbbbabbbbbbabbbbba,cm,G 41 0x177777777,cm,G 8 0x17,cm,G 8 0x17,cm,G 56 0x10000e00e001ee000707,cm,G 37 0x1778888889910f00,cm,G 41 0x177777777,cm,G 64 0x17788888899777888887888887,cm,G 10 0x177,cm,G 102 0x114f14f14f88811f0011f11f12f12f12f12f12f12f11f11f11f111f11f11f11f000550557,cm,G 60 0x111f11f11f11f11f11f17f15f15f14f15f15f15f15f15f15f14f15f15f15f15f15f15f14f15f15f15f15f15f14f,cm,G 69 0x111f11f11f11f11f12f12f12f12f12f12f13f13f8888811f11f11f11f8888811f11f,cm,G 19 0x111f8888811f11f,cutA 13 2,G 9 0x111f11f,cm,G 20 0x111f8888811f11f,cutB 13 2,G 22 0x111f11f11f11f11f,cm,G 28 0x111f11f12f12f12f12f12f12f13f13f11f,cm,G 30 0x111f11f11f12f12f11f,G 6 1]
noncomputable def lTr0F : List St:=[G 125 0x1aaa700778888887771777777000550556660015500,cm,G 60 0x1777777dbbabbbbbbabbbbbbabbbbba,cm,G 41 0x177777777,cm,G 8 0x17,cm,G 8 0x17,cm,G 56 0x10000e00e001ee000707,cm,G 37 0x1778888889910f00,cm,G 41 0x177777777,cm,G 64 0x17788888899777888887888887,cm,G 10 0x177,cm,G 102 0x114f14f14f88811f0011f11f12f12f12f12f12f12f11f11f11f111f11f11f11f000550557,cm,G 60 0x111f11f11f11f11f11f17f15f15f14f15f15f15f15f15f15f14f15f15f15f15f15f15f14f15f15f15f15f15f14f,cm,G 69 0x111f11f11f11f11f12f12f12f12f12f12f13f13f8888811f11f11f11f8888811f11f,cm,G 19 0x111f8888811f11f,cutA 13 2,G 9 0x111f11f,cm,G 20 0x111f8888811f11f,cutB 13 2,G 22 0x111f11f11f11f11f,cm,G 28 0x111f11f12f12f12f12f12f12f13f13f11f,cm,G 30 0x111f11f11f12f12f11f,G 5 1]
noncomputable def lTr1T : List St:=[G 125 0x1aaa700778888887771777777000550556660015500,cm,G 60 0x1777777dbbabbbbbbabbbbbbabbbbba,cm,G 41 0x177777777,cm,G 44 0x1778888889977888887,cm,G 41 0x177777777,cm,G 8 0x17,cm,G 8 0x17,cm,G 56 0x10000e00e001ee000707,cm,G 37 0x1778888889910f00,cm,G 10 0x177,cm,G 102 0x114f14f14f88811f0011f11f12f12f12f12f12f12f11f11f11f111f11f11f11f000550557,cm,G 60 0x111f11f11f11f11f11f17f15f15f14f15f15f15f15f15f15f14f15f15f15f15f15f15f14f15f15f15f15f15f14f,cm,G 19 0x111f8888811f11f,cutA 13 2,G 9 0x111f11f,cm,G 20 0x111f8888811f11f,cutB 13 2,G 22 0x111f11f11f11f11f,cm,G 37 0x111f11f11f11f11f8888811f11f,cm,G 71 0x111f11f11f11f11f18f18f18f18f8888811f11f18f18f18f18f11f11f8888811f11f,cm,G 31 0x111f11f11f11f18f18f11f,cm,G 44 0x111f11f12f12f12f12f12f12f13f13f11f11f12f12f12f12f12f12f13f13f11f,cm,G 10 0x111f11f,cm,G 30 0x111f11f11f12f12f11f,G 6 1]
noncomputable def lTr1F : List St:=[G 125 0x1aaa700778888887771777777000550556660015500,cm,G 60 0x1777777dbbabbbbbbabbbbbbabbbbba,cm,G 41 0x177777777,cm,G 44 0x1778888889977888887,cm,G 41 0x177777777,cm,G 8 0x17,cm,G 8 0x17,cm,G 56 0x10000e00e001ee000707,cm,G 37 0x1778888889910f00,cm,G 10 0x177,cm,G 102 0x114f14f14f88811f0011f11f12f12f12f12f12f12f11f11f11f111f11f11f11f000550557,cm,G 60 0x111f11f11f11f11f11f17f15f15f14f15f15f15f15f15f15f14f15f15f15f15f15f15f14f15f15f15f15f15f14f,cm,G 19 0x111f8888811f11f,cutA 13 2,G 9 0x111f11f,cm,G 20 0x111f8888811f11f,cutB 13 2,G 22 0x111f11f11f11f11f,cm,G 37 0x111f11f11f11f11f8888811f11f,cm,G 71 0x111f11f11f11f11f18f18f18f18f8888811f11f18f18f18f18f11f11f8888811f11f,cm,G 31 0x111f11f11f11f18f18f11f,cm,G 44 0x111f11f12f12f12f12f12f12f13f13f11f11f12f12f12f12f12f12f13f13f11f,cm,G 10 0x111f11f,cm,G 30 0x111f11f11f12f12f11f,G 5 1]
noncomputable def lTr2T : List St:=[G 125 0x1aaa700778888887771777777000550556660015500,cm,G 60 0x1777777dbbabbbbbbabbbbbbabbbbba,cm,G 41 0x177777777,cm,G 8 0x17,cm,G 27 0x1778888889977,cm,G 41 0x177777777,cm,G 8 0x17,cm,G 27 0x1778888889977,cm,G 10 0x177,cm,G 102 0x111f11f11f888e00ee0ff0ff0ff0ff0ff0ffeee1eeee000550557,cm,G 60 0x1eeeeee14f12f12f11f12f12f12f12f12f12f11f12f12f12f12f12f12f11f12f12f12f12f12f11f,cm,G 69 0x1eeeee0ff0ff0ff0ff0ff0ff10f10f88888eeee88888ee,cm,G 69 0x1eeeee0ff0ff0ff0ff0ff0ff10f10f88888eeee88888ee,cm,G 11 0x1ee,cm,G 10 0x1ee,cm,G 30 0x1eee0ff0ffe,G 6 1]
noncomputable def lTr2F : List St:=[G 125 0x1aaa700778888887771777777000550556660015500,cm,G 60 0x1777777dbbabbbbbbabbbbbbabbbbba,cm,G 41 0x177777777,cm,G 8 0x17,cm,G 27 0x1778888889977,cm,G 41 0x177777777,cm,G 8 0x17,cm,G 27 0x1778888889977,cm,G 10 0x177,cm,G 102 0x111f11f11f888e00ee0ff0ff0ff0ff0ff0ffeee1eeee000550557,cm,G 60 0x1eeeeee14f12f12f11f12f12f12f12f12f12f11f12f12f12f12f12f12f11f12f12f12f12f12f11f,cm,G 69 0x1eeeee0ff0ff0ff0ff0ff0ff10f10f88888eeee88888ee,cm,G 69 0x1eeeee0ff0ff0ff0ff0ff0ff10f10f88888eeee88888ee,cm,G 11 0x1ee,cm,G 10 0x1ee,cm,G 30 0x1eee0ff0ffe,G 5 1]
noncomputable def lTr3T : List St:=[G 125 0x1aaa700778888887771777777000550556660015500,cm,G 60 0x1777777dbbabbbbbbabbbbbbabbbbba,cm,G 41 0x177777777,cm,G 8 0x17,cm,G 8 0x17,cm,G 19 0x177777,cm,G 14 0x177,cm,G 25 0x177777,cm,G 14 0x177,cm,G 10 0x177,cm,G 14 0x177,cm,G 25 0x177777,cm,G 14 0x177,cm,G 10 0x177,cm,G 140 0x1777777710f10f10f10f10f10f00000ff070004000000777777eeee777,cm,G 14 0x17,cm,G 39 0x1777711f11f11f11f7,G 23 0x17788888899,cm,G 41 0x177777777,cm,G 64 0x17788888899777888887888887,cm,G 10 0x177,cm,G 102 0x115f15f15f88812f0012f12f13f13f13f13f13f13f12f12f12f112f12f12f12f000550557,cm,G 60 0x112f12f12f12f12f12f18f16f16f15f16f16f16f16f16f16f15f16f16f16f16f16f16f15f16f16f16f16f16f15f,cm,G 69 0x112f12f12f12f12f13f13f13f13f13f13f14f14f8888812f12f12f12f8888812f12f,cm,G 19 0x112f8888812f12f,cutA 14 2,G 9 0x112f12f,cm,G 20 0x112f8888812f12f,cutB 14 2,G 22 0x112f12f12f12f12f,cm,G 28 0x112f12f13f13f13f13f13f13f14f14f12f,cm,G 30 0x112f12f12f13f13f12f,G 6 1]
noncomputable def lTr3F : List St:=[G 125 0x1aaa700778888887771777777000550556660015500,cm,G 60 0x1777777dbbabbbbbbabbbbbbabbbbba,cm,G 41 0x177777777,cm,G 8 0x17,cm,G 8 0x17,cm,G 19 0x177777,cm,G 14 0x177,cm,G 25 0x177777,cm,G 14 0x177,cm,G 10 0x177,cm,G 14 0x177,cm,G 25 0x177777,cm,G 14 0x177,cm,G 10 0x177,cm,G 140 0x1777777710f10f10f10f10f10f00000ff070004000000777777eeee777,cm,G 14 0x17,cm,G 39 0x1777711f11f11f11f7,G 22 0x17788888899,cm,G 41 0x177777777,cm,G 64 0x17788888899777888887888887,cm,G 10 0x177,cm,G 102 0x115f15f15f88812f0012f12f13f13f13f13f13f13f12f12f12f112f12f12f12f000550557,cm,G 60 0x112f12f12f12f12f12f18f16f16f15f16f16f16f16f16f16f15f16f16f16f16f16f16f15f16f16f16f16f16f15f,cm,G 69 0x112f12f12f12f12f13f13f13f13f13f13f14f14f8888812f12f12f12f8888812f12f,cm,G 19 0x112f8888812f12f,cutA 14 2,G 9 0x112f12f,cm,G 20 0x112f8888812f12f,cutB 14 2,G 22 0x112f12f12f12f12f,cm,G 28 0x112f12f13f13f13f13f13f13f14f14f12f,cm,G 30 0x112f12f12f13f13f12f,G 5 1]
theorem runsTr (P : Params) (B : List (Code × Pos)) (n t : Nat) (p : Pos) (c : Addr) (tx : Nat) : Runs [
 (runC (rowP P "fstring-hands-on-the-str" true) B lTr0T [(353,co1 c)] n t [] (.call (.ref 339) ⟨[sv "a*" tx],[]⟩) p,[0],(dn (sv "(?s:a.*)\\Z" (t + 60)),[],[some (353,co1 c)],n + 19,t + 61)),
 (runC (rowP P "fstring-hands-on-the-str" false) B lTr0F [(353,co1 c)] n t [] (.call (.ref 339) ⟨[sv "a*" tx],[]⟩) p,[0],(dn (sv "(?s:a.*)\\Z" (t + 59)),[],[some (353,co1 c)],n + 19,t + 60)),
 (runC (rowP P "fstring-hands-on-the-str" true) B lTr1T [(353,co1 c)] n t [] (.call (.ref 339) ⟨[sv "*b" tx],[]⟩) p,[0],(dn (sv "(?s:.*b)\\Z" (t + 61)),[],[some (353,co1 c)],n + 20,t + 62)),
 (runC (rowP P "fstring-hands-on-the-str" false) B lTr1F [(353,co1 c)] n t [] (.call (.ref 339) ⟨[sv "*b" tx],[]⟩) p,[0],(dn (sv "(?s:.*b)\\Z" (t + 60)),[],[some (353,co1 c)],n + 20,t + 61)),
 (runC (rowP P "fstring-hands-on-the-str" true) B lTr2T [(353,co1 c)] n t [] (.call (.ref 339) ⟨[sv "??" tx],[]⟩) p,[0],(dn (sv "(?s:..)\\Z" (t + 51)),[],[some (353,co1 c)],n + 16,t + 52)),
 (runC (rowP P "fstring-hands-on-the-str" false) B lTr2F [(353,co1 c)] n t [] (.call (.ref 339) ⟨[sv "??" tx],[]⟩) p,[0],(dn (sv "(?s:..)\\Z" (t + 50)),[],[some (353,co1 c)],n + 16,t + 51)),
 (runC (rowP P "fstring-hands-on-the-str" true) B lTr3T [(353,co1 c)] n t [] (.call (.ref 339) ⟨[sv "[!a]*" tx],[]⟩) p,[0],(dn (sv "(?s:[^a].*)\\Z" (t + 98)),[],[some (353,co1 c)],n + 20,t + 99)),
 (runC (rowP P "fstring-hands-on-the-str" false) B lTr3F [(353,co1 c)] n t [] (.call (.ref 339) ⟨[sv "[!a]*" tx],[]⟩) p,[0],(dn (sv "(?s:[^a].*)\\Z" (t + 96)),[],[some (353,co1 c)],n + 20,t + 97))]:=by unfold Runs;kernel_rfl
noncomputable def trP : Nat → String
 | 0=>"a*"
 | 1=>"*b"
 | 2=>"??"
 | _=>"[!a]*"
noncomputable def trX : Nat → String
 | 0=>"(?s:a.*)\\Z"
 | 1=>"(?s:.*b)\\Z"
 | 2=>"(?s:..)\\Z"
 | _=>"(?s:[^a].*)\\Z"
noncomputable def transD (nc : Nat) (c : Addr) (k : Nat) (tx : Nat) : OrcD:=
 fnD (fun _=>.call (.ref 339) ⟨[sv (trP k) tx],[]⟩) (fun _=>[(nc,353,co1 c)]) (fun _ _=>[co1 c]) (fun _ u=>.ok (.ret (sv (trX k) (u.a 0)))) (fun _ _=>[]) (fun _ _=>True)
theorem trans_ok {w : World} {D U : Nat} {π : Nat → Sup} (hD : D ≤ 765) (hU : U ≤ 8700) {nc : Nat} {c : Addr} {k tx : Nat} (hk : k < 4) : OrcAt w D U π (transD nc c k tx):=by
 refine fn_ok (by omega) (by omega) rfl (nd rfl) (le4 rfl) fun B n t p hN=>?_
 have z:=runsTr w.params B n t p c tx
 cases hb : w.params.followText "fstring-hands-on-the-str" with
 | true=>
   rw [rowP_self hb] at z
   match k,hk with
   | 0,_=>exact ⟨[],lTr0T,[],fun _=>⟨n + 19,t + 61,fun _=>t + 60,fun _=>.none,fun _=>#[],fun _=>#[],fun _=>#[]⟩,none_ok,(fun _ h=>nomatch h),List.nodup_nil,fun σ=>⟨rfl,rfl,z.get (.head _)⟩,fun _ _=>trivial⟩
   | 1,_=>exact ⟨[],lTr1T,[],fun _=>⟨n + 20,t + 62,fun _=>t + 61,fun _=>.none,fun _=>#[],fun _=>#[],fun _=>#[]⟩,none_ok,(fun _ h=>nomatch h),List.nodup_nil,fun σ=>⟨rfl,rfl,z.get (.tail _ (.tail _ (.head _)))⟩,fun _ _=>trivial⟩
   | 2,_=>exact ⟨[],lTr2T,[],fun _=>⟨n + 16,t + 52,fun _=>t + 51,fun _=>.none,fun _=>#[],fun _=>#[],fun _=>#[]⟩,none_ok,(fun _ h=>nomatch h),List.nodup_nil,fun σ=>⟨rfl,rfl,z.get (.tail _ (.tail _ (.tail _ (.tail _ (.head _)))))⟩,fun _ _=>trivial⟩
   | 3,_=>exact ⟨[],lTr3T,[],fun _=>⟨n + 20,t + 99,fun _=>t + 98,fun _=>.none,fun _=>#[],fun _=>#[],fun _=>#[]⟩,none_ok,(fun _ h=>nomatch h),List.nodup_nil,fun σ=>⟨rfl,rfl,z.get (.tail _ (.tail _ (.tail _ (.tail _ (.tail _ (.tail _ (.head _)))))))⟩,fun _ _=>trivial⟩
 | false=>
   rw [rowP_self hb] at z
   match k,hk with
   | 0,_=>exact ⟨[],lTr0F,[],fun _=>⟨n + 19,t + 60,fun _=>t + 59,fun _=>.none,fun _=>#[],fun _=>#[],fun _=>#[]⟩,none_ok,(fun _ h=>nomatch h),List.nodup_nil,fun σ=>⟨rfl,rfl,z.get (.tail _ (.head _))⟩,fun _ _=>trivial⟩
   | 1,_=>exact ⟨[],lTr1F,[],fun _=>⟨n + 20,t + 61,fun _=>t + 60,fun _=>.none,fun _=>#[],fun _=>#[],fun _=>#[]⟩,none_ok,(fun _ h=>nomatch h),List.nodup_nil,fun σ=>⟨rfl,rfl,z.get (.tail _ (.tail _ (.tail _ (.head _))))⟩,fun _ _=>trivial⟩
   | 2,_=>exact ⟨[],lTr2F,[],fun _=>⟨n + 16,t + 51,fun _=>t + 50,fun _=>.none,fun _=>#[],fun _=>#[],fun _=>#[]⟩,none_ok,(fun _ h=>nomatch h),List.nodup_nil,fun σ=>⟨rfl,rfl,z.get (.tail _ (.tail _ (.tail _ (.tail _ (.tail _ (.head _))))))⟩,fun _ _=>trivial⟩
   | 3,_=>exact ⟨[],lTr3F,[],fun _=>⟨n + 20,t + 97,fun _=>t + 96,fun _=>.none,fun _=>#[],fun _=>#[],fun _=>#[]⟩,none_ok,(fun _ h=>nomatch h),List.nodup_nil,fun σ=>⟨rfl,rfl,z.get (.tail _ (.tail _ (.tail _ (.tail _ (.tail _ (.tail _ (.tail _ (.head _))))))))⟩,fun _ _=>trivial⟩
noncomputable def iT : Stmt → PySem.Expr
 | .If (test:=t) ..=>t
 | _=>default
noncomputable def eTr : PySem.Expr:=cmL (bV (iT (nth lawB 5)) 1)
noncomputable def eTx : PySem.Expr:=cmR (bV (iT (nth lawB 5)) 1)
noncomputable def envTr (L fr : Addr) : Env:=lawEnv [(q ".0",.local),(q "pattern",.local),(q "translate",.globalImplicit)] [] L fr
noncomputable def envTx (L fr : Addr) : Env:=lawEnv [(q ".0",.local),(q "text",.local)] [] L fr
noncomputable def cTr (it acc L fr : Addr) : Code:=.compLoop eTr 0 (.ref it) (.ref acc) (envTr L fr)
noncomputable def cTx (it acc L fr : Addr) : Code:=.compLoop eTx 0 (.ref it) (.ref acc) (envTx L fr)
noncomputable def lTrC : List St:=[G 24 0x1060664474444,.orc,G 33 0x10606644744445555,.orc,G 33 0x10606644744445555,.orc,G 33 0x10606644744445555,.orc,G 25 0x1a44744445555]
noncomputable def lTxC : List St:=[G 184 0x19447444455556664474444555566644744445555666447444455556664474444]
noncomputable def dsTrC (c : Addr) (t0 t1 t2 t3 : Nat) : List OrcD:=[transD 4 c 0 t0,transD 4 c 1 t1,transD 4 c 2 t2,transD 4 c 3 t3]
noncomputable def txts (t0 t1 t2 t3 : Nat) : Array Value:=#[sv "a.*" t0,sv ".*b" t1,sv ".." t2,sv "[^a].*" t3]
noncomputable def trA (t0 t1 t2 t3 : Nat) : Array Value:=#[sv (trX 0) t0,sv (trX 1) t1,sv (trX 2) t2,sv (trX 3) t3]
theorem runsTrC (P : Params) (B : List (Code × Pos)) (n t : Nat) (σ : Nat → Sup) (p : Pos) (src it acc L fr c : Addr) (ex t0 t1 t2 t3 : Nat) : Runs [
 (runC P B lTrC [(it,iterO src 0),(acc,listO #[] 0),(L,dictO #[] 0),(src,listO (pats t0 t1 t2 t3) ex),(353,co1 c)] n t (osAt σ 0 (dsTrC c t0 t1 t2 t3)) (cTr it acc L fr) p,[0,1,2,3,4],
  (.pure (.done .next),[],[some (it,iterEnd 4),some (acc,listO (trA ((σ 0).a 0) ((σ 1).a 0) ((σ 2).a 0) ((σ 3).a 0)) 4),some (L,dictO #[E P "pattern" t (sv "[!a]*" t3)] 1),some (src,listO (pats t0 t1 t2 t3) ex),some (353,co1 c)],(σ 3).n + 2,(σ 3).t)),
 (runC P B lTxC [(it,iterO src 0),(acc,listO #[] 0),(L,dictO #[] 0),(src,listO (txts t0 t1 t2 t3) ex)] n t [] (cTx it acc L fr) p,[0,1,2,3],
  (.pure (.done .next),[],[some (it,iterEnd 4),some (acc,listO (trA (t + 4) (t + 9) (t + 14) (t + 19)) 4),some (L,dictO #[E P "text" t (sv "[^a].*" t3)] 1),some (src,listO (txts t0 t1 t2 t3) ex)],n + 2,t + 20))]:=by unfold Runs;kernel_rfl
noncomputable def trW : List String:=[trX 0,trX 1,trX 2,trX 3]
theorem trA_ws (t0 t1 t2 t3 : Nat) : Ws trW (trA t0 t1 t2 t3):=by
 refine ⟨rfl,fun i z h=>?_⟩
 match i,h with
 | 0,h=>cases h;exact ⟨t0,rfl⟩
 | 1,h=>cases h;exact ⟨t1,rfl⟩
 | 2,h=>cases h;exact ⟨t2,rfl⟩
 | 3,h=>cases h;exact ⟨t3,rfl⟩
noncomputable def trD (P : Params) (ni na nL ns nc : Nat) (src it acc L fr c : Addr) (ex t0 t1 t2 t3 : Nat) : OrcD:=
 compD (.compStart eTr 0 (.ref it) (.ref acc) (envTr L fr)) ni na nL it acc L (iterO src 0) (iterEnd 4) #[] 0 #[] 0 [(ns,src,listO (pats t0 t1 t2 t3) ex),(nc,353,co1 c)] (es1k P "pattern") (fun ys=>Ws trW ys)
theorem trD_ok {w : World} {D U : Nat} {π : Nat → Sup} (hD : D ≤ 690) (hU : U ≤ 8400) {ni na nL ns nc : Nat} {src it acc L fr c : Addr} {ex t0 t1 t2 t3 : Nat} (hn : [ni,na,nL,ns,nc].Nodup) : OrcAt w D U π (trD w.params ni na nL ns nc src it acc L fr c ex t0 t1 t2 t3):=by
 refine (start_any (by kernel_rfl) (self_list (l:=src) (k:=0) (ni:=ni) (.head _)) ?_).at
 refine fnF_any (fs:=none) (c:=fun _=>cTr it acc L fr) (need:=fun _=>needC ni na nL it acc L (iterO src 0) #[] 0 #[] 0 [(ns,src,listO (pats t0 t1 t2 t3) ex),(nc,353,co1 c)])
  (fin:=fun _=>compF (iterEnd 4) (es1k w.params "pattern") [(ns,src,listO (pats t0 t1 t2 t3) ex),(nc,353,co1 c)]) (r:=fun _ _=>.ok .next) (out:=fun _ _=>[]) (F:=fun _ u=>Ws trW (u.x 0)) (by omega) (by omega) rfl hn (by simp [needC]) fun B n t p hN=>?_
 exact ⟨dsTrC c t0 t1 t2 t3,lTrC,[],fun σ=>⟨(σ 3).n + 2,(σ 3).t,fun i=>match i with | 0=>4 | 1=>1 | _=>t,fun _=>sv "[!a]*" t3,fun _=>trA ((σ 0).a 0) ((σ 1).a 0) ((σ 2).a 0) ((σ 3).a 0),fun _=>#[],fun _=>#[]⟩,orcs_all (fun d hd π=>by
  revert d hd
  refine fa_cons ?_ (fa_cons ?_ (fa_cons ?_ (fa_cons ?_ (fa_nil))))
  ·exact trans_ok (by omega) (by omega) (by omega)
  ·exact trans_ok (by omega) (by omega) (by omega)
  ·exact trans_ok (by omega) (by omega) (by omega)
  ·exact trans_ok (by omega) (by omega) (by omega)),(fun _ h=>nomatch h),List.nodup_nil,fun σ=>⟨rfl,rfl,(runsTrC w.params B n t σ p src it acc L fr c ex t0 t1 t2 t3).get (.head _)⟩,fun σ hF=>trA_ws _ _ _ _⟩
noncomputable def txD (P : Params) (ni na nL ns : Nat) (src it acc L fr : Addr) (ex t0 t1 t2 t3 : Nat) : OrcD:=
 compD (.compStart eTx 0 (.ref it) (.ref acc) (envTx L fr)) ni na nL it acc L (iterO src 0) (iterEnd 4) #[] 0 #[] 0 [(ns,src,listO (txts t0 t1 t2 t3) ex)] (es1k P "text") (fun ys=>Ws trW ys)
theorem txD_ok {w : World} {D U : Nat} {π : Nat → Sup} (hD : D ≤ 690) (hU : U ≤ 8400) {ni na nL ns : Nat} {src it acc L fr : Addr} {ex t0 t1 t2 t3 : Nat} (hn : [ni,na,nL,ns].Nodup) : OrcAt w D U π (txD w.params ni na nL ns src it acc L fr ex t0 t1 t2 t3):=by
 refine (start_any (by kernel_rfl) (self_list (l:=src) (k:=0) (ni:=ni) (.head _)) ?_).at
 refine fnF_any (fs:=none) (c:=fun _=>cTx it acc L fr) (need:=fun _=>needC ni na nL it acc L (iterO src 0) #[] 0 #[] 0 [(ns,src,listO (txts t0 t1 t2 t3) ex)])
  (fin:=fun _=>compF (iterEnd 4) (es1k w.params "text") [(ns,src,listO (txts t0 t1 t2 t3) ex)]) (r:=fun _ _=>.ok .next) (out:=fun _ _=>[]) (F:=fun _ u=>Ws trW (u.x 0)) (by omega) (by omega) rfl hn (by simp [needC]) fun B n t p hN=>?_
 exact ⟨[],lTxC,[],fun σ=>⟨n + 2,t + 20,fun i=>match i with | 0=>4 | 1=>1 | _=>t,fun _=>sv "[^a].*" t3,fun _=>trA (t + 4) (t + 9) (t + 14) (t + 19),fun _=>#[],fun _=>#[]⟩,none_ok,(fun _ h=>nomatch h),List.nodup_nil,fun σ=>⟨rfl,rfl,(runsTrC w.params B n t σ p src it acc L fr 0 ex t0 t1 t2 t3).get (.tail _ (.head _))⟩,fun σ hF=>trA_ws _ _ _ _⟩
noncomputable def cmpL : PySem.Expr → PySem.Expr
 | .Compare l _ _ _=>l
 | _=>default
noncomputable def bopV : PySem.Expr → Nat → PySem.Expr
 | .BoolOp _ vs _,i=>vs.getD i default
 | _,_=>default
noncomputable def ifOf : PySem.Expr → PySem.Expr
 | .ListComp _ (g :: _) _ _=>g.ifs.headD default
 | _=>default
noncomputable def retV : Stmt → PySem.Expr
 | .Return (value:=some e) ..=>e
 | _=>default
noncomputable def eZ0 : PySem.Expr:=cmpL (bopV (retV (nth lawB 9)) 0)
noncomputable def eZ1 : PySem.Expr:=cmpL (ifOf eZ0)
structure KinB where
 i : Value
 a : Value
 ev : Env
 i0 : Value
 a0 : Value
 ev0 : Env
 f : List Stmt
 ev2 : Env
noncomputable def cs6 (κ : KinB) : List Code:=[.compLoop eZ1 0 κ.i κ.a κ.ev,.compLoop eZ0 0 κ.i0 κ.a0 κ.ev0,.func κ.f κ.ev2,.builtin "claim.caller" {}]
noncomputable def B6 (κ : KinB) (p1 p2 p3 p4 : Pos) : List (Code × Pos):=[(.compLoop eZ1 0 κ.i κ.a κ.ev,p1),(.compLoop eZ0 0 κ.i0 κ.a0 κ.ev0,p2),(.func κ.f κ.ev2,p3),(.builtin "claim.caller" {},p4)]
theorem runsFitZ (P : Params) (κ : KinB) (p1 p2 p3 p4 : Pos) (n t : Nat) (σ : Nat → Sup) (pos : Pos) (a : Addr) (ep tx p0 : Nat) : Runs (fitTab.map (fitRow P (B6 κ p1 p2 p3 p4) (cs6 κ) n t σ pos a ep tx p0)):=by unfold Runs;kernel_rfl
theorem fitZ_ok {w : World} {D U : Nat} {π : Nat → Sup} (hD : D ≤ 690) (hU : U ≤ 8400) {m : Nat} {a : Addr} {i p0 ep : Nat} {x : String} {tx : (Nat → Sup) → Nat} {κ : KinB} (hi : i < 4) (hx : x ∈ six) : OrcAt w D U π (fitsG (cs6 κ) m a i p0 ep x tx (fitsB i x)):=
 fitsX hD hU hi hx fun B n t σ pos h=>by
  obtain ⟨p1,p2,p3,p4,rfl⟩:=codes4 h
  exact runsFitZ _ κ p1 p2 p3 p4 n t σ pos a ep _ p0
end
section
open PySem.Builtin PySem.Builtin.Str
open PySem.Sem (wp finPost)
noncomputable def noteT2 (body : List Stmt) (env : Env) (L e : Addr) (ie : Nat) (oe : Value → Obj) (l : List Env) (fr : List FrI) (it : Nat) (T LT : Addr) (hT : Value) (vT : Nat → Value) : OrcD:=
 ⟨fun _=>.func body env,fun _=>(ie,e,oe (.ref T)) :: (it,T,tbO LT hT .none vT) :: frNeed fr,fun _ _=>.error (.ref e),fun _ u=>(ie,e,oe (.ref (u.a 0))) :: frUpd u.s 0 fr,fun _ u=>[(u.a 0,tbO L (.ref T) .none u.v)],fun _ u=>some (u.n,u.t),fun _ u=>u.n = u.a 0 + 1 ∧ 1106 ≤ u.a 0,fun _=>some l,4⟩
theorem noteT2_ok {w : World} {D U : Nat} {π : Nat → Sup} {body : List Stmt} {env : Env} {L e : Addr} {ie : Nat} {oe : Value → Obj} {outer : List Env} {fr : List FrI} {vs : Value → Array Value} {it : Nat} {T LT : Addr} {hT : Value} {vT : Nat → Value}
 (hf : env.frame = some L) (hF : FramesOK (env :: outer) fr) (hd : ∀ v,(oe v).data = .fields (vs v)) (h1 : ∀ v,(vs v)[1]? = some v) (hup : ∀ v v',Obj.mapFields (·.setIfInBounds 1 v') (oe v) = oe v') (hiT : ie ≠ it) : OrcAt w D U π (noteT2 body env L e ie oe (env :: outer) fr it T LT hT vT):=by
 unfold OrcAt
 refine ⟨.ref e,fun _=>rfl,fun Γ p s env' henv hfs ho hz hA=>?_⟩
 cases henv
 have hfs:=hfs _ rfl
 have hA : At w.params ((ie,e,oe (.ref T)) :: (it,T,tbO LT hT .none vT) :: frNeed fr) s:=hA
 have he : s.heap.get? e = some (oe (.ref T)):=hA.get _ (.head _)
 have hTT : s.heap.get? T = some (tbO LT hT .none vT):=hA.get _ (.tail _ (.head _))
 have hg : ∀ f ∈ fr,s.heap.get? f.a = some (frO f.es f.ep f.sl):=fun f hf=>hA.get (f.i,f.a,frO f.es f.ep f.sl) (.tail _ (.tail _ (List.mem_map_of_mem (f:=fun f=>(f.i,f.a,frO f.es f.ep f.sl)) hf)))
 have hfe : ∀ f ∈ fr,f.a ≠ e:=fun f hf q=>by
  have:=hg f hf
  rw [q,he] at this
  have h2:=hd (.ref T)
  rw [Option.some.inj this] at h2
  cases h2
 have hTe : T ≠ e:=fun q=>hiT (hA.inj (ie,e,oe (.ref T)) (.head _) (it,T,tbO LT hT .none vT) (.tail _ (.head _)) q.symm)
 have sz1 : ∀ v,1 < (vs v).size:=fun v=>(Array.getElem?_eq_some_iff.mp (h1 v)).1
 have hT3 : Obj.mapFields (·.setIfInBounds 3 .none) (tbO LT hT .none vT) = tbO LT hT .none vT:=rfl
 have keep : ∀ b,(s.heap.update T (Obj.mapFields (·.setIfInBounds 3 .none))).get? b = s.heap.get? b:=fun b=>by
  by_cases h : T = b
  ·subst h
   rw [Heap.get?_update_self _ hTT (by rw [hT3];rfl),hT3,hTT]
  ·exact Heap.get?_update_other _ _ h
 show wp (md w) Γ (PySem.W.Fast.tw9442747609961115081 env (.ref e)) _ _ p s
 rw [← PySem.W.Fast.te9442747609961115081]
 refine (show wpAny (md w) { handled:=Γ.handled,depth:=frameCount Γ.below + Γ.code.weight,frames:=some (env :: outer),units:=Γ.units } (leaving env (.ref e)) (fun _ s'=>∃ u,OrcPost ((noteT2 body env L e ie oe (env :: outer) fr it T LT hT vT).at π u) s s' ∧ (noteT2 body env L e ie oe (env :: outer) fr it T LT hT vT).F π u) (fun _ _=>False) s from ?_) Γ p (in_around hfs)
 unfold leaving noteFrame
 simp only [hf]
 refine wpAny_bind (wpAny_bind (wpAny_field he (hd _) (h1 _) ?_))
 rw [if_pos (by rfl)]
 refine wpAny_bind (wpAny_field hTT rfl rfl ?_)
 rw [if_neg (by show ¬ ((Value.none == rawInt L) = true);intro h;cases h)]
 refine wpAny_bind (wpAny_setField hTT rfl (by simp) ?_)
 refine entry_is (s:={ s with heap:=s.heap.update T (Obj.mapFields (·.setIfInBounds 3 .none)) }) rfl hF (fun f hf=>(keep _).trans (hg f hf)) hf ((keep _).trans he) (hd _) (sz1 _) fun h₁ v hs he₁=>?_
 have hs' : Heap.SlotsOnly (fr.map (·.a)) s.heap h₁:=⟨by rw [hs.1];exact Heap.size_after_update _ _ _,fun b hb=>(hs.2.1 b hb).trans (keep b),fun a o hao=>hs.2.2 a o ((keep a).trans hao)⟩
 have hne : h₁.objs.size ≠ e:=Nat.ne_of_gt (Heap.lt_size he₁)
 have he₂:=Heap.get?_push_of_some (tbO L (.ref T) (rawInt L) v) he₁
 have b1 : ∀ b,b ≠ e → b ≠ h₁.objs.size → ((h₁.push (tbO L (.ref T) (rawInt L) v)).update e (Obj.mapFields (·.setIfInBounds 1 (.ref h₁.objs.size)))).get? b = h₁.get? b:=fun b hb hb2=>by
  rw [Heap.get?_update_other _ _ (Ne.symm hb)]
  exact push_other hb2
 have b2 : ((h₁.push (tbO L (.ref T) (rawInt L) v)).update e (Obj.mapFields (·.setIfInBounds 1 (.ref h₁.objs.size)))).get? e = some (oe (.ref h₁.objs.size)):=by
  refine (Heap.get?_update_self _ he₂ ?_).trans (by rw [hup])
  rw [hup];exact Obj.isFreed_of_fields (hd _)
 have b3 : ((h₁.push (tbO L (.ref T) (rawInt L) v)).update e (Obj.mapFields (·.setIfInBounds 1 (.ref h₁.objs.size)))).get? h₁.objs.size = some (tbO L (.ref T) (rawInt L) v):=by
  rw [Heap.get?_update_other _ _ (Ne.symm hne)]
  exact Heap.get?_push_size _ rfl
 have b4 : ((h₁.push (tbO L (.ref T) (rawInt L) v)).update e (Obj.mapFields (·.setIfInBounds 1 (.ref h₁.objs.size)))).objs.size = h₁.objs.size + 1:=by
  rw [Heap.size_after_update,Heap.size_push]
 refine wpAny_setFlight_none b2 (hd _) (h1 _) b3 rfl (by simp) ?_
 refine post_entry (ie:=ie) (oe:=oe) (v:=v) (L:=L) (head:=.ref T) (fl:=.none) hs' hg hz hfe (fun b hb hb2=>?_) ?_ ?_ ?_ (fun u=>rfl) (fun u=>rfl) (fun u=>rfl) (fun u=>rfl)
 ·rw [Heap.get?_update_other _ _ (Ne.symm hb2)];exact b1 b hb hb2
 ·rw [Heap.get?_update_other _ _ hne];exact b2
 ·exact Heap.get?_update_self _ b3 rfl
 ·rw [Heap.size_after_update];exact b4
theorem noteD3_ok {w : World} {D U : Nat} {π : Nat → Sup} {env : Env} {L e : Addr} {ie : Nat} {oe : Value → Obj} {vs : Value → Array Value} {it : Nat} {T LT : Addr} {hT : Value} {vT : Nat → Value}
 (hf : env.frame = some L) (hd : ∀ v,(oe v).data = .fields (vs v)) (h1 : ∀ v,(vs v)[1]? = some v) : OrcAt w D U π (noteD3 env L e ie oe it T LT hT vT):=by
 unfold OrcAt
 refine ⟨.ref e,fun _=>rfl,fun Γ p s env' henv hfs ho hz hA=>?_⟩
 cases henv
 have hA : At w.params [(ie,e,oe (.ref T)),(it,T,tbO LT hT (rawInt L) vT)] s:=hA
 have he : s.heap.get? e = some (oe (.ref T)):=hA.get _ (.head _)
 have hTT : s.heap.get? T = some (tbO LT hT (rawInt L) vT):=hA.get _ (.tail _ (.head _))
 show wp (md w) Γ (PySem.W.Fast.tw9442747609961115081 env (.ref e)) _ _ p s
 rw [← PySem.W.Fast.te9442747609961115081]
 refine (show wpAny (md w) { handled:=Γ.handled,depth:=frameCount Γ.below + Γ.code.weight,units:=Γ.units } (leaving env (.ref e)) (fun _ s'=>∃ u,OrcPost ((noteD3 env L e ie oe it T LT hT vT).at π u) s s' ∧ (noteD3 env L e ie oe it T LT hT vT).F π u) (fun _ _=>False) s from ?_) Γ p ⟨rfl,Nat.le_refl _,(fun l hl=>nomatch hl),(fun g hg=>nomatch hg),Nat.le_refl _⟩
 unfold leaving noteFrame
 simp only [hf]
 refine wpAny_bind (wpAny_bind (wpAny_field he (hd _) (h1 _) ?_))
 rw [if_pos (by rfl)]
 refine wpAny_bind (wpAny_field hTT rfl rfl ?_)
 rw [if_pos (by simp)]
 refine wpAny_pure ?_
 refine wpAny_setFlight_none he (hd _) (h1 _) hTT rfl (by simp) ?_
 refine ⟨default,⟨rfl,rfl,rfl,?_,fun b o hb hn=>?_,fun x hx=>?_,(fun _ h=>nomatch h),List.nodup_nil,⟨?_,rfl⟩⟩,trivial⟩
 ·show s.heap.objs.size ≤ (s.heap.update _ _).objs.size
  rw [Heap.size_after_update]
  exact Nat.le_refl _
 ·have hn' : b ≠ T:=hn (it,T,tbO LT hT .none vT) (.head _)
  exact (Heap.get?_update_other _ _ (Ne.symm hn')).trans hb
 ·rcases List.mem_singleton.mp hx with rfl
  exact Heap.get?_update_self _ hTT rfl
 ·show (s.heap.update _ _).objs.size = _
  rw [Heap.size_after_update]
end
section
open PySem.Builtin PySem.Builtin.Str
noncomputable def lLi0 : List St:=[G 3 0x1555,cm,G 36 0x1977766777744444455576655]
theorem runsLi0 (w : World) (B : List (Code × Pos)) (b t : Nat) (p : Pos) (c2 : Code) (acc v b0 dd : Addr) (ea : Nat) (c : Nat → String × Nat) (a : Nat → Nat) : Runs [
 (runT w.params B none lLi0 [(acc,listO #[] ea),(v,itemsO (b0 + 1107)),(b0 + 1107,cntO dd (esN w 0 c a) 0)] (b + 1106) t [] c2 p (extTail acc v).1,[0,1,2],
  (dn .none,[],[some (acc,listO #[] (ea + 2)),some (v,itemsO (b0 + 1107)),some (b0 + 1107,cntO dd (esN w 0 c a) 0)],b + 1106 + 3,t))]:=by unfold Runs;kernel_rfl
noncomputable def li0D (w : World) (n0 n1 n2 : Nat) (acc v b0 dd : Addr) (ea : Nat) (c : Nat → String × Nat) (a : Nat → Nat) : OrcD:=
 fnF none (fun _=>.call (.builtin "list.__init__") ⟨[.ref acc,.ref v],[]⟩) (fun _=>[(n0,acc,listO #[] ea),(n1,v,itemsO (b0 + 1107)),(n2,b0 + 1107,cntO dd (esN w 0 c a) 0)])
  (fun _ u=>[listO #[] (ea + 2),itemsO (b0 + 1107),cntO dd (esN w 0 c a) 0]) (fun _ _=>.ok (.ret .none)) (fun _ u=>[]) (fun _ _=>True)
theorem li0D_ok {w : World} {D U : Nat} {π : Nat → Sup} (hD : D ≤ 690) (hU : U ≤ 8400) {n0 n1 n2 : Nat} {acc v b0 dd : Addr} {ea : Nat} {c : Nat → String × Nat} {a : Nat → Nat} (hn : [n0,n1,n2].Nodup) : OrcAt w D U π (li0D w n0 n1 n2 acc v b0 dd ea c a):=by
 refine OrcAny.at ?_
 unfold li0D
 refine cut_any (need:=[(n0,acc,listO #[] ea),(n1,v,itemsO (b0 + 1107)),(n2,b0 + 1107,cntO dd (esN w 0 c a) 0)]) (c:=.call (.builtin "list.__init__") ⟨[.ref acc,.ref v],[]⟩) [listO #[] ea,itemsO (b0 + 1107),cntO dd (esN w 0 c a) 0] (PySem.W.Fast.tw8938917530802602619 (.ref acc) (.ref v) .none) (extTail acc v).1 (by omega) (by omega) rfl hn (by simp) rfl (fun s hA=>?_) fun B n t p hN _=>?_
 ·have hne : acc ≠ v:=fun e=>by
   have z:=hA.inj (n0,acc,listO #[] ea) (List.mem_of_getElem? (i:=0) rfl) (n1,v,itemsO (b0 + 1107)) (List.mem_of_getElem? (i:=1) rfl) e
   simp only [List.nodup_cons,List.mem_cons,List.not_mem_nil,or_false,not_or] at hn
   exact hn.1.1 z
  exact (congrFun (congrFun (congrFun PySem.W.Fast.te8938917530802602619.symm (.ref acc)) (.ref v)) .none).trans ((extTail acc v).2 hne)
 ·obtain ⟨b,rfl⟩ : ∃ b,n = b + 1106:=⟨n - 1106,by omega⟩
  refine ⟨lLi1,b + 1106,t,(runsLi1 w B (b + 1106) t p acc v b0 dd ea 0 c a).get (.head _),fun p2 c2=>?_⟩
  exact ⟨[],lLi0,[],fun σ=>⟨b + 1106 + 3,t,fun _=>b + 1107,fun _=>.none,fun _=>#[],fun _=>#[],fun _=>#[]⟩,none_ok,(fun _ h=>nomatch h),List.nodup_nil,fun σ=>⟨rfl,rfl,(runsLi0 w B b t p2 c2 acc v b0 dd ea c a).get (.head _)⟩,fun _ _=>trivial⟩
theorem runsSo0 (P : Params) (B : List (Code × Pos)) (n t : Nat) (σ : Nat → Sup) (p : Pos) (l : Addr) (ep : Nat) : Runs [
 (runC P B [G 1 1,.orc,G 23 0x1666688886666665] [(l,listO #[] ep)] n t (osAt σ 0 [collD 0 l #[] ep]) (sortC l) p,[0,2],
  (dn (.ref (σ 0).n),[],[some (l,listO #[] ep),some ((σ 0).n,listO #[] 0)],(σ 0).n + 3,(σ 0).t))]:=by unfold Runs;kernel_rfl
noncomputable def sort0D (nl : Nat) (l : Addr) (ep : Nat) : OrcD:=
 fnD (fun _=>sortC l) (fun _=>[(nl,l,listO #[] ep)]) (fun _ _=>[listO #[] ep]) (fun _ u=>.ok (.ret (.ref (u.a 0)))) (fun _ u=>[(u.a 0,listO #[] 0)]) (fun _ _=>True)
theorem sort0D_ok {w : World} {D U : Nat} {π : Nat → Sup} (hD : D ≤ 690) (hU : U ≤ 8400) {nl : Nat} {l : Addr} {ep : Nat} : OrcAt w D U π (sort0D nl l ep):=by
 unfold sort0D
 refine fn_ok (by omega) (by omega) rfl (nd rfl) (le4 rfl) fun B n t p hN=>?_
 exact ⟨[collD 0 l #[] ep],_,[2],fun σ=>⟨(σ 0).n + 3,(σ 0).t,fun _=>(σ 0).n,fun _=>.none,fun _=>#[],fun _=>#[],fun _=>#[]⟩,orcs_all fun d hd π=>(by
  rcases List.mem_singleton.mp hd with rfl
  exact collD_ok (Nat.zero_le _)),(fun v hv=>by rcases List.mem_singleton.mp hv with rfl;simp),by simp,fun σ=>⟨rfl,rfl,(runsSo0 w.params B n t σ p l ep).get (.head _)⟩,fun _ _=>trivial⟩
noncomputable def srt1C (l : Addr) : Code:=.call (.builtin "sorted") ⟨[.ref l],[]⟩
theorem runsSo1 (P : Params) (B : List (Code × Pos)) (n t : Nat) (σ : Nat → Sup) (p : Pos) (l : Addr) (ep : Nat) : Runs [
 (runC P B [G 1 1,.orc,G 17 0x166666666665] [(l,listO #[] ep)] n t (osAt σ 0 [collD 0 l #[] ep]) (srt1C l) p,[0,2],
  (dn (.ref (σ 0).n),[],[some (l,listO #[] ep),some ((σ 0).n,listO #[] 0)],(σ 0).n + 3,(σ 0).t))]:=by unfold Runs;kernel_rfl
noncomputable def sort1D (nl : Nat) (l : Addr) (ep : Nat) : OrcD:=
 fnD (fun _=>srt1C l) (fun _=>[(nl,l,listO #[] ep)]) (fun _ _=>[listO #[] ep]) (fun _ u=>.ok (.ret (.ref (u.a 0)))) (fun _ u=>[(u.a 0,listO #[] 0)]) (fun _ _=>True)
theorem sort1D_ok {w : World} {D U : Nat} {π : Nat → Sup} (hD : D ≤ 690) (hU : U ≤ 8400) {nl : Nat} {l : Addr} {ep : Nat} : OrcAt w D U π (sort1D nl l ep):=by
 unfold sort1D
 refine fn_ok (by omega) (by omega) rfl (nd rfl) (le4 rfl) fun B n t p hN=>?_
 exact ⟨[collD 0 l #[] ep],_,[2],fun σ=>⟨(σ 0).n + 3,(σ 0).t,fun _=>(σ 0).n,fun _=>.none,fun _=>#[],fun _=>#[],fun _=>#[]⟩,orcs_all fun d hd π=>(by
  rcases List.mem_singleton.mp hd with rfl
  exact collD_ok (Nat.zero_le _)),(fun v hv=>by rcases List.mem_singleton.mp hv with rfl;simp),by simp,fun σ=>⟨rfl,rfl,(runsSo1 w.params B n t σ p l ep).get (.head _)⟩,fun _ _=>trivial⟩
noncomputable def envDe (i f : Nat) (nm : String) (L : Addr) : Env:=⟨fS (dig [i] pw.main.body),L,3,[],q nm,some f,r (f - 1),some L,0⟩
noncomputable def envRf (L : Addr) : Env:=envDe 48 1085 "_law_refused.<locals>." L
noncomputable def rfB : List Stmt:=fB (dig [48] pw.main.body)
noncomputable abbrev stE (a : Addr) (head : Value) : Obj:=⟨r 54,none,.fields #[.ref a,head,.none,.none,.bool false,.none],#[]⟩
noncomputable def frRf (P : Params) (n t f : Nat) (sl : Array (Option Value)) : FrI:=⟨1,n,#[E P "deed" t (.ref f)],1,sl⟩
noncomputable def frOf (h : FrM) (i : Nat) (sl : Array (Option Value)) : FrI:=⟨i,h.L,h.es,h.ep,sl⟩
noncomputable def dsRf (P : Params) (n t : Nat) (i f : Nat) (nm : String) (eW : Env) (h : FrM) : List OrcD:=
 [sort1D 2 (n + 1) 0,
  dep 1 fun π=>noteD 1 (envDe i f nm (n + 2)) (n + 2) ((π 0).n + 1) 6 (stE ((π 0).n + 2)) [envDe i f nm (n + 2),envRf n,eW] [⟨3,n + 2,#[E P "data" (t + 1) (.ref ((π 0).a 0)),E P "n" ((π 0).t + 3) (.int 0 ((π 0).t + 2))],2,#[]⟩,frRf P n t f #[],frOf h 0 h.sl],
  dep 4 fun π=>noteT2 rfB (envRf n) n ((π 0).n + 1) 6 (stE ((π 0).n + 2)) [envRf n,eW] [frRf P n t f ((π 1).s 1),frOf h 0 ((π 1).s 2)] 8 ((π 1).a 0) (n + 2) .none (π 1).v]
noncomputable def eRf : PySem.Expr:=cmL (iT (nth lawB 8))
structure KinR where
 i : Value
 a : Value
 ev0 : Env
 f : List Stmt
 ev : Env
noncomputable def csRf (κ : KinR) : List Code:=[.compLoop eRf 0 κ.i κ.a κ.ev0,.func κ.f κ.ev,.builtin "claim.caller" {}]
noncomputable def BRf (κ : KinR) (p1 p2 p3 : Pos) : List (Code × Pos):=[(.compLoop eRf 0 κ.i κ.a κ.ev0,p1),(.func κ.f κ.ev,p2),(.builtin "claim.caller" {},p3)]
noncomputable def lRf : List St:=[G 36 0x1700177000515500,.orc,G 40 0x177788870077,cm,G 71 0x1a0aa0aaaaa0a0a000a0a00000000000000000000000000,.note,G 1 1,.note,G 63 0x15555ba0a000a50055dda0a0000]
theorem runsRf (P : Params) (κ : KinR) (p1 p2 p3 : Pos) (n t : Nat) (σ : Nat → Sup) (p : Pos) (h : FrM) : Runs ([(6,71,"median_low.<locals>."),(5,64,"median.<locals>.")].map fun x=>
 (runF P (BRf κ p1 p2 p3) (some (.codes (csRf κ))) lRf [(h.L,h.o)] n t (osAt σ 0 (dsRf P n t x.1 x.2.1 x.2.2 κ.ev h)) (.call (.ref 1085) ⟨[.ref x.2.1],[]⟩) p,[0],
  (dn (sv "no median for empty data" ((σ 0).t + 5)),[],[some (h.L,frO h.es h.ep ((σ 2).s 1))],(σ 2).n,(σ 2).t + 2))):=by unfold Runs;kernel_rfl
noncomputable def refD (κ : KinR) (f : Nat) (x : String) (nw : Nat) (h : FrM) : OrcD:=
 fnF (some (.codes (csRf κ))) (fun _=>.call (.ref 1085) ⟨[.ref f],[]⟩) (fun _=>[(nw,h.L,h.o)]) (fun _ u=>[frO h.es h.ep (u.s 0)]) (fun _ u=>.ok (.ret (sv x (u.a 0)))) (fun _ _=>[]) (fun _ _=>True)
theorem frames_cons {e : Env} {l : List Env} {f : FrI} {fr : List FrI} (h1 : e.frame = some f.a) (h2 : e.scope.kind ≠ .module) (h : FramesOK l fr) : FramesOK (e :: l) (f :: fr):=
 ⟨by simp only [List.map_cons,h1,h.adr],fun x hx=>by
  rcases List.mem_cons.mp hx with rfl | hx
  ·exact h2
  ·exact h.kind x hx⟩
theorem frames_one {e : Env} {h : FrM} {i : Nat} {sl : Array (Option Value)} (ho : FrmOK e h) : FramesOK [e] [frOf h i sl]:=frames_cons ho.adr ho.kind ⟨rfl,fun _ h=>nomatch h⟩
theorem kind_at {i : Nat} (h : (match (fS (dig [i] pw.main.body)).kind with | .module=>true | _=>false) = false) : (fS (dig [i] pw.main.body)).kind ≠ .module:=by
 intro e;rw [e] at h;cases h
theorem ref_ok {w : World} {D U : Nat} {π : Nat → Sup} (hD : D ≤ 615) (hU : U ≤ 8100) {κ : KinR} {x : Nat × Nat × String} (hx : x ∈ [(6,71,"median_low.<locals>."),(5,64,"median.<locals>.")]) {nw : Nat} {h : FrM} (hW : FrmOK κ.ev h) : OrcAt w D U π (refD κ x.2.1 "no median for empty data" nw h):=by
 have hk : (fS (dig [x.1] pw.main.body)).kind ≠ .module:=by
  simp only [List.mem_cons,List.not_mem_nil,or_false] at hx
  rcases hx with rfl | rfl
  ·exact kind_at (by kernel_rfl)
  ·exact kind_at (by kernel_rfl)
 refine (fnG_any (by omega) (by omega) rfl (nd rfl) (le4 rfl) fun B n t p hN hB=>?_).at
 obtain ⟨p1,p2,p3,rfl⟩:=codes3 (hB _ rfl)
 refine ⟨dsRf w.params n t x.1 x.2.1 x.2.2 κ.ev h,lRf,[],fun σ=>⟨(σ 2).n,(σ 2).t + 2,fun _=>(σ 0).t + 5,fun _=>.none,fun _=>#[],fun _=>#[],fun _=>(σ 2).s 1⟩,orcs_of ?_,(fun v hv=>nomatch hv),List.nodup_nil,fun σ=>⟨rfl,rfl,(runsRf w.params κ p1 p2 p3 n t σ p h).get (List.mem_map.mpr ⟨x,hx,rfl⟩)⟩,fun _ _=>trivial⟩
 intro j d hd' π hF'
 obtain ⟨J,M,hJ,hM,hd,hF⟩:=genJ hd' hF'
 clear hd' hF'
 match j,hd with
 | 0,hd=>subst hM;cases hd;exact sort1D_ok (by omega) (by omega)
 | 1,hd=>
   subst hM;cases hd
   exact (note_ok (kd:=1) (oe:=stE ((π 0).n + 2)) (vs:=fun v=>#[.ref ((π 0).n + 2),v,.none,.none,.bool false,.none]) (.inl rfl) rfl (frames_cons rfl hk (frames_cons rfl (kind_at (by kernel_rfl)) (frames_one hW))) (fun v=>rfl) (fun v=>rfl) (fun v v'=>rfl) : OrcAt w (D + 75) (U + 300) π (noteD 1 (envDe x.1 x.2.1 x.2.2 (n + 2)) (n + 2) ((π 0).n + 1) 6 (stE ((π 0).n + 2)) [envDe x.1 x.2.1 x.2.2 (n + 2),envRf n,κ.ev] [⟨3,n + 2,#[E w.params "data" (t + 1) (.ref ((π 0).a 0)),E w.params "n" ((π 0).t + 3) (.int 0 ((π 0).t + 2))],2,#[]⟩,frRf w.params n t x.2.1 #[],frOf h 0 h.sl]))
 | 2,hd=>
   subst hM;cases hd
   exact (noteT2_ok (oe:=stE ((π 0).n + 2)) (vs:=fun v=>#[.ref ((π 0).n + 2),v,.none,.none,.bool false,.none]) rfl (frames_cons rfl (kind_at (by kernel_rfl)) (frames_one hW)) (fun v=>rfl) (fun v=>rfl) (fun v v'=>rfl) (by decide) : OrcAt w (D + 75) (U + 300) π (noteT2 rfB (envRf n) n ((π 0).n + 1) 6 (stE ((π 0).n + 2)) [envRf n,κ.ev] [frRf w.params n t x.2.1 ((π 1).s 1),frOf h 0 ((π 1).s 2)] 8 ((π 1).a 0) (n + 2) .none (π 1).v))
 | j + 3,hd=>subst hM;exact nomatch (show none = some d from hd)
noncomputable def rN (e h : Addr) : Sem Flow:=match (raiseNew (.ref e) : Sem Flow) with
 | .handled _ k=>k (some (.ref h))
 | _=>.unsupported ""
noncomputable def rN2 (e h : Addr) : Sem Flow:=do
 let _ ← holding [.ref e] (runValue (.builtin "proto.unchain" ⟨[.ref e,.ref h,.ref h,.bool false],[]⟩))
 updateField e 2 (.ref h)
 .raise (.ref e)
theorem rN_is (e h : Addr) (hne : h ≠ e) : rN e h = rN2 e h:=by
 have hb : (Value.ref h != Value.ref e) = true:=by
  simp [bne_iff_ne,hne]
 show (if (Value.ref h != Value.ref e) = true then _ else _) = _
 rw [if_pos hb]
 rfl
noncomputable def tRb0 (x : Sem Flow) (env : Env) : Sem Fin:=((x >>= fun f=>match f with
 | .next=>execs [] env
 | f=>pure f).onRaise (hW env)) >>= fun fl=>pure (.done fl)
noncomputable def tRb (e h : Addr) (env : Env) : { t : Sem Fin // tRb0 (rN e h) env = t }:=by
 refine ⟨?t,?h⟩
 case h=>
  unfold tRb0 rN hW
  simp only [bind_R,PySem.W.R.onRaiseR_eq]
  rw [PySem.W.Fast.te17609497360097468838,PySem.W.Fast.te12563942051412417395,PySem.W.Fast.te17872113653443481271,PySem.W.Fast.te1623429502029203251]
noncomputable def tRb' (e h : Addr) (env : Env) : { t : Sem Fin // tRb0 (rN2 e h) env = t }:=by
 refine ⟨?t,?h⟩
 case h=>
  unfold tRb0 rN2 hW
  simp only [bind_R,PySem.W.R.onRaiseR_eq]
  rw [PySem.W.Fast.te17359229931016689406,PySem.W.Fast.te12194477576918160588,PySem.W.Fast.te12367529300394763782,PySem.W.Fast.te12563942051412417395,PySem.W.Fast.te17872113653443481271,PySem.W.Fast.te1623429502029203251]
theorem tRb_eq (e h : Addr) (env : Env) (hne : h ≠ e) : (tRb e h env).1 = (tRb' e h env).1:=by
 rw [← (tRb e h env).2,← (tRb' e h env).2,rN_is e h hne]
noncomputable def mdB : List Stmt:=fB (dig [13] pw.main.body)
noncomputable abbrev ixE (a : Addr) (head : Value) : Obj:=⟨.type "IndexError",none,.fields #[.ref a,head,.none,.none,.bool false,.none],#[]⟩
noncomputable abbrev stE2 (a x : Addr) (head : Value) : Obj:=⟨r 54,none,.fields #[.ref a,head,.ref x,.none,.bool true,.none],#[]⟩
noncomputable def frMe (P : Params) (n t : Nat) (π : Nat → Sup) (sl : Array (Option Value)) : FrI:=⟨3,n + 2,#[E P "data" (t + 1) (.ref (n + 1)),E P "pairs" (π 2).t (.ref ((π 2).n + 1))],2,sl⟩
noncomputable def dsRm (w : World) (n t : Nat) (eW : Env) (h : FrM) (c : Nat → String × Nat) : List OrcD:=
 [ctrD true w (five 4 2 3 1 0) (n + 3) (n + 1) #[] 0 0 c 0 ⟨n + 2,#[E w.params "data" (t + 1) (.ref (n + 1))],1,#[]⟩ ⟨n,#[E w.params "deed" t (.ref 322)],1,#[]⟩ h (envMd (n + 2)) (envRf n) eW,
  dep 0 fun π=>li0D w 9 8 5 ((π 0).n + 2) ((π 0).n + 1) ((π 0).a 20) ((π 0).a 20 + 1106) 0 c (π 0).a,
  dep 0 fun π=>sort0D 9 ((π 0).n + 2) 2,
  dep 4 fun π=>noteT mdB.tail (envMd (n + 2)) (n + 2) ((π 2).n + 3) 17 (ixE ((π 2).n + 2)) [envMd (n + 2),envRf n,eW] [frMe w.params n t π ((π 0).s 0),frRf w.params n t 322 ((π 0).s 1),frOf h 0 ((π 0).s 2)],
  dep 2 fun π=>noteD 2 (envMd (n + 2)) (n + 2) ((π 3).n + 1) 20 (stE2 ((π 3).n + 2) ((π 2).n + 3)) [envMd (n + 2),envRf n,eW] [frMe w.params n t π ((π 3).s 0),frRf w.params n t 322 ((π 3).s 1),frOf h 0 ((π 3).s 2)],
  dep 3 fun π=>noteD3 (envMd (n + 2)) (n + 2) ((π 3).n + 1) 20 (stE2 ((π 3).n + 2) ((π 2).n + 3)) 22 ((π 4).a 0) (n + 2) .none (π 4).v,
  dep 4 fun π=>noteT2 rfB (envRf n) n ((π 3).n + 1) 20 (stE2 ((π 3).n + 2) ((π 2).n + 3)) [envRf n,eW] [frRf w.params n t 322 ((π 4).s 1),frOf h 0 ((π 4).s 2)] 22 ((π 4).a 0) (n + 2) .none (π 4).v]
noncomputable def lRm0 : List St:=[G 42 0x1667000177000515500,cm,G 11 0x10086,.orc,G 99 0x1dd09909a9000900090009b0000b00b1bbbb0000a90000900090009,.orc,G 15 0x1ddbbb,cm,G 30 0x1b10feedeeeeed,cm,G 14 0x10b00,.orc]
noncomputable def cutM (n : Nat) : St:=.cut (fun S=>(tRb (ad S 20) (ad S 17) (envMd (n + 2))).1) (fun S=>match Nat.blt 20 S.k with
 | true=>(tRb' (ad S 20) (ad S 17) (envMd (n + 2))).1
 | false=>(tRb (ad S 20) (ad S 17) (envMd (n + 2))).1) (fun S hi=>by
   cases h : Nat.blt 20 S.k with
   | false=>rfl
   | true=>
     have lt : 20 < S.k:=Nat.le_of_ble_eq_true h
     exact tRb_eq _ _ _ fun e=>absurd (hi 17 20 (by omega) lt e) (by decide))
noncomputable def lRm (n : Nat) : List St:=lRm0 ++ [G 50 0x113f13f13f13f13f77711f12f12f12f12f12f11f11f11f11fb,.note,G 86 0x118f018f18f18f18f18f18f018f18f18f18f18f018f018f00018f018f0000000000000000000000000016f16f15f15f00,cutM n,G 5 0x118f18f15f,.note,G 5 0x11af1af18f18f,.note,G 1 1,.note,G 63 0x1555519f18f018f00018f500551bf1bf18f018f0000]
theorem runsRm (w : World) (κ : KinR) (p1 p2 p3 : Pos) (n t : Nat) (σ : Nat → Sup) (p : Pos) (h : FrM) (c : Nat → String × Nat) : Runs [
 (runF w.params (BRf κ p1 p2 p3) (some (.codes (csRf κ))) (lRm (n + 1106)) [(h.L,h.o)] (n + 1106) t (osAt σ 0 (dsRm w (n + 1106) t κ.ev h c)) (.call (.ref 1085) ⟨[.ref 322],[]⟩) p,[0],
  (dn (sv "no mode for empty data" (σ 3).t),[],[some (h.L,frO h.es h.ep ((σ 6).s 1))],(σ 6).n,(σ 6).t + 2))]:=by unfold Runs;kernel_rfl
theorem refm_ok {w : World} {D U : Nat} {π : Nat → Sup} (hD : D ≤ 465) (hU : U ≤ 7500) {κ : KinR} {nw : Nat} {h : FrM} (hW : FrmOK κ.ev h) : OrcAt w D U π (refD κ 322 "no mode for empty data" nw h):=by
 refine (fnG_any (by omega) (by omega) rfl (nd rfl) (le4 rfl) fun B n t p hN hB=>?_).at
 obtain ⟨p1,p2,p3,rfl⟩:=codes3 (hB _ rfl)
 obtain ⟨b,rfl⟩ : ∃ b,n = b + 1106:=⟨n - 1106,by omega⟩
 refine ⟨dsRm w (b + 1106) t κ.ev h (cOf []),lRm (b + 1106),[],fun σ=>⟨(σ 6).n,(σ 6).t + 2,fun _=>(σ 3).t,fun _=>.none,fun _=>#[],fun _=>#[],fun _=>(σ 6).s 1⟩,orcs_of ?_,(fun v hv=>nomatch hv),List.nodup_nil,fun σ=>⟨rfl,rfl,(runsRm w κ p1 p2 p3 b t σ p h (cOf [])).get (.head _)⟩,fun _ _=>trivial⟩
 have hme : (envMd (b + 1106 + 2)).scope.kind ≠ .module:=kind_at (by kernel_rfl)
 have hre : (envRf (b + 1106)).scope.kind ≠ .module:=kind_at (by kernel_rfl)
 have F3 : ∀ π s1 s2 s3,FramesOK [envMd (b + 1106 + 2),envRf (b + 1106),κ.ev] [frMe w.params (b + 1106) t π s1,frRf w.params (b + 1106) t 322 s2,frOf h 0 s3]:=fun π s1 s2 s3=>frames_cons rfl hme (frames_cons rfl hre (frames_one hW))
 intro j d hd' π hF'
 obtain ⟨J,M,hJ,hM,hd,hF⟩:=genJ hd' hF'
 clear hd' hF'
 match j,hd with
 | 0,hd=>subst hM;cases hd;exact ctrD_ok (ls:=[]) (by omega) (by omega) Ws.nil (by simp) (by simp) rfl (by decide) ⟨rfl,hme⟩ ⟨rfl,hre⟩ hW (by decide)
 | 1,hd=>subst hM;cases hd;exact dep_at (li0D_ok (by omega) (by omega) (by decide))
 | 2,hd=>subst hM;cases hd;exact dep_at (sort0D_ok (by omega) (by omega))
 | 3,hd=>
   subst hM;cases hd
   exact (noteT_ok (oe:=ixE ((π 2).n + 2)) (vs:=fun v=>#[.ref ((π 2).n + 2),v,.none,.none,.bool false,.none]) rfl (F3 π _ _ _) (fun v=>rfl) (fun v=>rfl) (fun v v'=>rfl) : OrcAt w (D + 75) (U + 300) π (noteT mdB.tail (envMd (b + 1106 + 2)) (b + 1106 + 2) ((π 2).n + 3) 17 (ixE ((π 2).n + 2)) [envMd (b + 1106 + 2),envRf (b + 1106),κ.ev] [frMe w.params (b + 1106) t π ((π 0).s 0),frRf w.params (b + 1106) t 322 ((π 0).s 1),frOf h 0 ((π 0).s 2)]))
 | 4,hd=>
   subst hM;cases hd
   exact (note_ok (kd:=2) (oe:=stE2 ((π 3).n + 2) ((π 2).n + 3)) (vs:=fun v=>#[.ref ((π 3).n + 2),v,.ref ((π 2).n + 3),.none,.bool true,.none]) (.inr rfl) rfl (F3 π _ _ _) (fun v=>rfl) (fun v=>rfl) (fun v v'=>rfl) : OrcAt w (D + 75) (U + 300) π (noteD 2 (envMd (b + 1106 + 2)) (b + 1106 + 2) ((π 3).n + 1) 20 (stE2 ((π 3).n + 2) ((π 2).n + 3)) [envMd (b + 1106 + 2),envRf (b + 1106),κ.ev] [frMe w.params (b + 1106) t π ((π 3).s 0),frRf w.params (b + 1106) t 322 ((π 3).s 1),frOf h 0 ((π 3).s 2)]))
 | 5,hd=>
   subst hM;cases hd
   exact (noteD3_ok (oe:=stE2 ((π 3).n + 2) ((π 2).n + 3)) (vs:=fun v=>#[.ref ((π 3).n + 2),v,.ref ((π 2).n + 3),.none,.bool true,.none]) rfl (fun v=>rfl) (fun v=>rfl) : OrcAt w (D + 75) (U + 300) π (noteD3 (envMd (b + 1106 + 2)) (b + 1106 + 2) ((π 3).n + 1) 20 (stE2 ((π 3).n + 2) ((π 2).n + 3)) 22 ((π 4).a 0) (b + 1106 + 2) .none (π 4).v))
 | 6,hd=>
   subst hM;cases hd
   exact (noteT2_ok (oe:=stE2 ((π 3).n + 2) ((π 2).n + 3)) (vs:=fun v=>#[.ref ((π 3).n + 2),v,.ref ((π 2).n + 3),.none,.bool true,.none]) rfl (frames_cons rfl hre (frames_one hW)) (fun v=>rfl) (fun v=>rfl) (fun v v'=>rfl) (by decide) : OrcAt w (D + 75) (U + 300) π (noteT2 rfB (envRf (b + 1106)) (b + 1106) ((π 3).n + 1) 20 (stE2 ((π 3).n + 2) ((π 2).n + 3)) [envRf (b + 1106),κ.ev] [frRf w.params (b + 1106) t 322 ((π 4).s 1),frOf h 0 ((π 4).s 2)] 22 ((π 4).a 0) (b + 1106 + 2) .none (π 4).v))
 | j + 7,hd=>subst hM;exact nomatch (show none = some d from hd)
noncomputable def envRC (L fr : Addr) : Env:=lawEnv [(q ".0",.local),(q "deed",.local),(q "_law_refused",.globalImplicit)] [] L fr
noncomputable def cRf (it acc L fr : Addr) : Code:=.compLoop eRf 0 (.ref it) (.ref acc) (envRC L fr)
noncomputable def kinR (it acc L fr : Addr) (f : List Stmt) (ev : Env) : KinR:=⟨.ref it,.ref acc,envRC L fr,f,ev⟩
noncomputable def lRC : List St:=[G 24 0x1060664474444,.orc,G 33 0x10606644744445555,.orc,G 33 0x10606644744445555,.orc,G 25 0x1a44744445555]
noncomputable def saysW : List String:=["no median for empty data","no mode for empty data","no median for empty data"]
noncomputable def deeds : Array Value:=#[.ref 71,.ref 322,.ref 64]
noncomputable def dsRC (κ : KinR) (h : FrM) : List OrcD:=[refD κ 71 "no median for empty data" 4 h,dep 0 fun π=>refD κ 322 "no mode for empty data" 4 ⟨h.L,h.es,h.ep,(π 0).s 0⟩,dep 0 fun π=>refD κ 64 "no median for empty data" 4 ⟨h.L,h.es,h.ep,(π 1).s 0⟩]
theorem runsRC (P : Params) (f : List Stmt) (ev : Env) (p1 p2 : Pos) (n t : Nat) (σ : Nat → Sup) (p : Pos) (src it acc L fr : Addr) (ex : Nat) (h : FrM) : Runs [
 (runF P [(.func f ev,p1),(.builtin "claim.caller" {},p2)] (some (.codes [.func f ev,.builtin "claim.caller" {}])) lRC [(it,iterO src 0),(acc,listO #[] 0),(L,dictO #[] 0),(src,listO deeds ex),(h.L,h.o)] n t (osAt σ 0 (dsRC (kinR it acc L fr f ev) h)) (cRf it acc L fr) p,[0,1,2,3,4],
  (.pure (.done .next),[],[some (it,iterEnd 3),some (acc,listO #[sv "no median for empty data" ((σ 0).a 0),sv "no mode for empty data" ((σ 1).a 0),sv "no median for empty data" ((σ 2).a 0)] 3),some (L,dictO #[E P "deed" t (.ref 64)] 1),some (src,listO deeds ex),some (h.L,frO h.es h.ep ((σ 2).s 0))],(σ 2).n + 2,(σ 2).t))]:=by unfold Runs;kernel_rfl
noncomputable def rcNeed (ni na nL ns nw : Nat) (src it acc L : Addr) (ex : Nat) (h : FrM) : List (Nat × Nat × Obj):=[(ni,it,iterO src 0),(na,acc,listO #[] 0),(nL,L,dictO #[] 0),(ns,src,listO deeds ex),(nw,h.L,h.o)]
noncomputable def rcFin (P : Params) (src : Addr) (ex : Nat) (h : FrM) (u : Sup) : List Obj:=[iterEnd 3,listO (u.x 0) 3,dictO #[E P "deed" (u.a 0) (.ref 64)] 1,listO deeds ex,frO h.es h.ep (u.s 0)]
noncomputable def csL (f : List Stmt) (ev : Env) : List Code:=[.func f ev,.builtin "claim.caller" {}]
theorem codes2 {a b : Code} : ∀ {B : List (Code × Pos)},(Fs.codes [a,b]).holds B → ∃ p q,B = [(a,p),(b,q)]
 | [],h=>by simp [Fs.holds] at h
 | [_],h=>by simp [Fs.holds] at h
 | [(x,p),(y,q)],h=>by
   simp only [Fs.holds,List.map_cons,List.map_nil,List.cons.injEq,and_true] at h
   obtain ⟨rfl,rfl⟩:=h
   exact ⟨p,q,rfl⟩
 | _ :: _ :: _ :: _,h=>by simp [Fs.holds] at h
noncomputable def rcD (P : Params) (f : List Stmt) (ev : Env) (ni na nL ns nw : Nat) (src it acc L fr : Addr) (ex : Nat) (h : FrM) : OrcD:=
 fnF (some (.codes (csL f ev))) (fun _=>.compStart eRf 0 (.ref it) (.ref acc) (envRC L fr)) (fun _=>rcNeed ni na nL ns nw src it acc L ex h) (fun _=>rcFin P src ex h) (fun _ _=>.ok .next) (fun _ _=>[]) (fun _ u=>Ws saysW (u.x 0))
theorem rc_ok {w : World} {D U : Nat} {π : Nat → Sup} (hD : D ≤ 390) (hU : U ≤ 7200) {f : List Stmt} {ev : Env} {ni na nL ns nw : Nat} {src it acc L fr : Addr} {ex : Nat} {h : FrM} (hW : FrmOK ev h) (hn : [ni,na,nL,ns,nw].Nodup) : OrcAt w D U π (rcD w.params f ev ni na nL ns nw src it acc L fr ex h):=by
 refine (startG_any (fs:=some (.codes (csL f ev))) (need:=rcNeed ni na nL ns nw src it acc L ex h) (fin:=rcFin w.params src ex h) (r:=fun _=>.ok .next) (out:=fun _=>[]) (F:=fun u=>Ws saysW (u.x 0)) (by kernel_rfl) (self_list (l:=src) (k:=0) (ni:=ni) (.head _)) ?_).at
 refine fnG_any (fs:=some (.codes (csL f ev))) (c:=fun _=>cRf it acc L fr) (need:=fun _=>rcNeed ni na nL ns nw src it acc L ex h) (fin:=fun _=>rcFin w.params src ex h) (r:=fun _ _=>.ok .next) (out:=fun _ _=>[]) (F:=fun _ u=>Ws saysW (u.x 0)) (by omega) (by omega) rfl hn (by simp [rcNeed]) fun B n t p hN hB=>?_
 obtain ⟨p1,p2,rfl⟩:=codes2 (hB _ rfl)
 refine ⟨dsRC (kinR it acc L fr f ev) h,lRC,[],fun σ=>⟨(σ 2).n + 2,(σ 2).t,fun _=>t,fun _=>.none,fun _=>#[sv "no median for empty data" ((σ 0).a 0),sv "no mode for empty data" ((σ 1).a 0),sv "no median for empty data" ((σ 2).a 0)],fun _=>#[],fun _=>(σ 2).s 0⟩,orcs_of ?_,(fun v hv=>nomatch hv),List.nodup_nil,fun σ=>⟨rfl,rfl,(runsRC w.params f ev p1 p2 n t σ p src it acc L fr ex h).get (.head _)⟩,fun σ _=>⟨rfl,fun i z hz=>?_⟩⟩
 ·intro j d hd' π hF'
  obtain ⟨J,M,hJ,hM,hd,hF⟩:=genJ hd' hF'
  clear hd' hF'
  match j,hd with
  | 0,hd=>subst hM;cases hd;exact ref_ok (x:=(6,71,"median_low.<locals>.")) (by omega) (by omega) (.head _) hW
  | 1,hd=>subst hM;cases hd;exact dep_at (refm_ok (by omega) (by omega) ⟨hW.adr,hW.kind⟩)
  | 2,hd=>subst hM;cases hd;exact dep_at (ref_ok (x:=(5,64,"median.<locals>.")) (by omega) (by omega) (.tail _ (.head _)) ⟨hW.adr,hW.kind⟩)
  | j + 3,hd=>subst hM;exact nomatch (show none = some d from hd)
 ·match i,hz with
  | 0,hz=>cases hz;exact ⟨_,rfl⟩
  | 1,hz=>cases hz;exact ⟨_,rfl⟩
  | 2,hz=>cases hz;exact ⟨_,rfl⟩
noncomputable def envZ1 (L fr wc : Addr) : Env:=lawEnv [(q ".0",.local),(q "pieces",.local),(q "_law_fits",.globalImplicit),(q "word",.cell)] [(q "word",wc)] L fr
noncomputable def envZ0 (L fr wc ct : Addr) : Env:=lawEnv [(q ".0",.local),(q "word",.cell),(q "told",.cell)] [(q "word",wc),(q "told",ct)] L fr
noncomputable def tabZ : List (String × Bool × Bool × Bool × Bool):=[("a",true,false,false,false),("ab",true,true,true,false),("b",false,true,false,true),("it's b",false,true,false,true),("",false,false,false,false),("bb",false,true,true,true)]
theorem tabZ_ok {x : String} (hx : x ∈ six) : ∃ y ∈ tabZ,y.1 = x ∧ fitsB 0 x = y.2.1 ∧ fitsB 1 x = y.2.2.1 ∧ fitsB 2 x = y.2.2.2.1 ∧ fitsB 3 x = y.2.2.2.2:=by
 simp only [six,List.mem_cons,List.not_mem_nil,or_false] at hx
 rcases hx with rfl | rfl | rfl | rfl | rfl | rfl
 ·exact ⟨_,.head _,rfl,by decide +kernel⟩
 ·exact ⟨_,.tail _ (.head _),rfl,by decide +kernel⟩
 ·exact ⟨_,.tail _ (.tail _ (.head _)),rfl,by decide +kernel⟩
 ·exact ⟨_,.tail _ (.tail _ (.tail _ (.head _))),rfl,by decide +kernel⟩
 ·exact ⟨_,.tail _ (.tail _ (.tail _ (.tail _ (.head _)))),rfl,by decide +kernel⟩
 ·exact ⟨_,.tail _ (.tail _ (.tail _ (.tail _ (.tail _ (.head _))))),rfl,by decide +kernel⟩
noncomputable def midZ : Bool → St
 | true=>G 29 0x10c60664474444
 | false=>G 37 0x10c606644744445555
noncomputable def endZ : Bool → St
 | true=>G 19 0x1e4474444
 | false=>G 27 0x1e44744445555
noncomputable def oneZ : Bool → Nat → List Value
 | true,_=>[]
 | false,t=>[.int 1 t]
noncomputable def numZ : Bool → Nat
 | true=>0
 | false=>1
noncomputable def onesZ (y : Bool × Bool × Bool × Bool) (a : Nat → Nat) : Array Value:=(oneZ y.1 (a 0) ++ oneZ y.2.1 (a 1) ++ oneZ y.2.2.1 (a 2) ++ oneZ y.2.2.2 (a 3)).toArray
noncomputable def lZ1 (y : Bool × Bool × Bool × Bool) : List St:=[G 26 0x10c60664474444,.orc,midZ y.1,.orc,midZ y.2.1,.orc,midZ y.2.2.1,.orc,endZ y.2.2.2]
noncomputable def tlA (qa : Nat → Addr) : Array Value:=#[.ref (qa 0),.ref (qa 1),.ref (qa 2),.ref (qa 3)]
noncomputable def objsZ (qa tp : Nat → Nat) : List Obj:=[listO (tlA qa) 4,listO (pcs 0 (tp 0)) 2,listO (pcs 1 (tp 1)) 2,listO (pcs 2 (tp 2)) 2,listO (pcs 3 (tp 3)) 2]
noncomputable def adrZ (tl : Addr) (qa : Nat → Addr) : List Addr:=[tl,qa 0,qa 1,qa 2,qa 3]
noncomputable def cs0 (i0 a0 : Value) (ev0 : Env) (f : List Stmt) (ev : Env) : List Code:=[.compLoop eZ0 0 i0 a0 ev0,.func f ev,.builtin "claim.caller" {}]
noncomputable def B0 (i0 a0 : Value) (ev0 : Env) (f : List Stmt) (ev : Env) (p1 p2 p3 : Pos) : List (Code × Pos):=[(.compLoop eZ0 0 i0 a0 ev0,p1),(.func f ev,p2),(.builtin "claim.caller" {},p3)]
noncomputable def dsZ1 (κ : KinB) (qa tp : Nat → Nat) (x : String) (tx : Nat) (y : Bool × Bool × Bool × Bool) : List OrcD:=
 [fitsG (cs6 κ) 4 (qa 0) 0 (tp 0) 2 x (fun _=>tx) y.1,fitsG (cs6 κ) 5 (qa 1) 1 (tp 1) 2 x (fun _=>tx) y.2.1,fitsG (cs6 κ) 6 (qa 2) 2 (tp 2) 2 x (fun _=>tx) y.2.2.1,fitsG (cs6 κ) 7 (qa 3) 3 (tp 3) 2 x (fun _=>tx) y.2.2.2]
theorem runsZ1 (P : Params) (i0 a0 : Value) (ev0 : Env) (f : List Stmt) (ev : Env) (p1 p2 p3 : Pos) (n t : Nat) (σ : Nat → Sup) (p : Pos) (it acc L fr wc tl : Addr) (qa tp : Nat → Nat) (tx : Nat) : Runs (tabZ.map fun y=>
 (runF P (B0 i0 a0 ev0 f ev p1 p2 p3) (some (.codes (cs0 i0 a0 ev0 f ev))) (lZ1 y.2) ([(it,iterO tl 0),(acc,listO #[] 0),(L,dictO #[] 0)] ++ (adrZ tl qa).zip (objsZ qa tp) ++ [(wc,cellO (sv y.1 tx))]) n t (osAt σ 0 (dsZ1 ⟨.ref it,.ref acc,envZ1 L fr wc,i0,a0,ev0,f,ev⟩ qa tp y.1 tx y.2)) (.compLoop eZ1 0 (.ref it) (.ref acc) (envZ1 L fr wc)) p,[0,1,2,3,4,5,6,7,8],
  (.pure (.done .next),[],([(it,iterEnd 4),(acc,listO (onesZ y.2 fun i=>(σ i).t) (onesZ y.2 fun i=>0).size),(L,dictO #[E P "pieces" t (.ref (qa 3))] 1)] ++ (adrZ tl qa).zip (objsZ qa tp) ++ [(wc,cellO (sv y.1 tx))]).map some,(σ 3).n + 2,(σ 3).t + numZ y.2.2.2.2))):=by unfold Runs;kernel_rfl
noncomputable def needZ1 (it acc L wc tl : Addr) (qa tp : Nat → Nat) (x : String) (tx : Nat) : List (Nat × Nat × Obj):=
 [(11,it,iterO tl 0),(12,acc,listO #[] 0),(13,L,dictO #[] 0),(5,tl,listO (tlA qa) 4),(6,qa 0,listO (pcs 0 (tp 0)) 2),(7,qa 1,listO (pcs 1 (tp 1)) 2),(8,qa 2,listO (pcs 2 (tp 2)) 2),(9,qa 3,listO (pcs 3 (tp 3)) 2),(10,wc,cellO (sv x tx))]
noncomputable def finZ1 (P : Params) (wc : Addr) (qa tp : Nat → Nat) (x : String) (tx : Nat) (y : Bool × Bool × Bool × Bool) (u : Sup) : List Obj:=
 [iterEnd 4,listO (onesZ y u.a) (onesZ y fun i=>0).size,dictO #[E P "pieces" (u.a 4) (.ref (qa 3))] 1] ++ objsZ qa tp ++ [cellO (sv x tx)]
noncomputable def inZD (P : Params) (i0 a0 : Value) (ev0 : Env) (f : List Stmt) (ev : Env) (it acc L fr wc tl : Addr) (qa tp : Nat → Nat) (x : String) (tx : Nat) (y : Bool × Bool × Bool × Bool) : OrcD:=
 fnF (some (.codes (cs0 i0 a0 ev0 f ev))) (fun _=>.compStart eZ1 0 (.ref it) (.ref acc) (envZ1 L fr wc)) (fun _=>needZ1 it acc L wc tl qa tp x tx) (fun _=>finZ1 P wc qa tp x tx y) (fun _ _=>.ok .next) (fun _ _=>[]) (fun _ _=>True)
theorem inZ_ok {w : World} {D U : Nat} {π : Nat → Sup} (hD : D ≤ 615) (hU : U ≤ 8100) {i0 a0 : Value} {ev0 : Env} {f : List Stmt} {ev : Env} {it acc L fr wc tl : Addr} {qa tp : Nat → Nat} {x : String} {tx : Nat} {y : Bool × Bool × Bool × Bool} (hy : (x,y) ∈ tabZ) (hx : x ∈ six) (h0 : fitsB 0 x = y.1) (h1 : fitsB 1 x = y.2.1) (h2 : fitsB 2 x = y.2.2.1) (h3 : fitsB 3 x = y.2.2.2) :
 OrcAt w D U π (inZD w.params i0 a0 ev0 f ev it acc L fr wc tl qa tp x tx y):=by
 refine (startG_any (fs:=some (.codes (cs0 i0 a0 ev0 f ev))) (need:=needZ1 it acc L wc tl qa tp x tx) (fin:=finZ1 w.params wc qa tp x tx y) (r:=fun _=>.ok .next) (out:=fun _=>[]) (F:=fun _=>True) (by kernel_rfl) (self_list (l:=tl) (k:=0) (ni:=11) (.head _)) ?_).at
 refine fnG_any (fs:=some (.codes (cs0 i0 a0 ev0 f ev))) (c:=fun _=>.compLoop eZ1 0 (.ref it) (.ref acc) (envZ1 L fr wc)) (need:=fun _=>needZ1 it acc L wc tl qa tp x tx) (fin:=fun _=>finZ1 w.params wc qa tp x tx y) (r:=fun _ _=>.ok .next) (out:=fun _ _=>[]) (F:=fun _ _=>True) (by omega) (by omega) rfl (nd rfl) (le4 rfl) fun B n t p hN hB=>?_
 obtain ⟨p1,p2,p3,rfl⟩:=codes3 (hB _ rfl)
 refine ⟨dsZ1 ⟨.ref it,.ref acc,envZ1 L fr wc,i0,a0,ev0,f,ev⟩ qa tp x tx y,lZ1 y,[],fun σ=>⟨(σ 3).n + 2,(σ 3).t + numZ y.2.2.2,fun i=>match i with | 0=>(σ 0).t | 1=>(σ 1).t | 2=>(σ 2).t | 3=>(σ 3).t | _=>t,fun _=>.none,fun _=>#[],fun _=>#[],fun _=>#[]⟩,orcs_all (fun d hd π=>?_),(fun v hv=>nomatch hv),List.nodup_nil,fun σ=>⟨rfl,rfl,(runsZ1 w.params i0 a0 ev0 f ev p1 p2 p3 n t σ p it acc L fr wc tl qa tp tx).get (List.mem_map.mpr ⟨(x,y),hy,rfl⟩)⟩,fun _ _=>trivial⟩
 revert d hd
 refine fa_cons ?_ (fa_cons ?_ (fa_cons ?_ (fa_cons ?_ (fa_nil))))
 ·rw [← h0];exact fitZ_ok (by omega) (by omega) (by decide) hx
 ·rw [← h1];exact fitZ_ok (by omega) (by omega) (by decide) hx
 ·rw [← h2];exact fitZ_ok (by omega) (by omega) (by decide) hx
 ·rw [← h3];exact fitZ_ok (by omega) (by omega) (by decide) hx
noncomputable def lZ0 : List St:=[G 2 0x14,.orc,G 10 0x1998ee,cm,G 8 0x10ff9,.orc,G 12 0x110f12f10f11f11f11f,cm,G 9 0x112f10f12f10f]
noncomputable def lZe : List St:=[G 2 0x14,.orc,G 1 0x110f]
noncomputable abbrev cellZ (v : Option Value) : Obj:=⟨.type "cell",none,.cell v,#[]⟩
noncomputable def needZ0 (ni na nL ns nc nt n0 n1 n2 n3 nw : Nat) (it acc L src ct tl wc : Addr) (qa tp : Nat → Nat) (xs : Array Value) (ex : Nat) (i : Obj) (v : Option Value) : List (Nat × Nat × Obj):=
 [(ni,it,i),(na,acc,listO #[] 0),(nL,L,dictO #[] 0),(ns,src,listO xs ex),(nc,ct,cellO (.ref tl)),(nt,tl,listO (tlA qa) 4),(n0,qa 0,listO (pcs 0 (tp 0)) 2),(n1,qa 1,listO (pcs 1 (tp 1)) 2),(n2,qa 2,listO (pcs 2 (tp 2)) 2),(n3,qa 3,listO (pcs 3 (tp 3)) 2),(nw,wc,cellZ v)]
noncomputable def finZ0 (tl : Addr) (qa tp : Nat → Nat) (xs : Array Value) (ex : Nat) (i : Obj) (v : Option Value) : List Obj:=[i,listO #[] 0,dictO #[] 0,listO xs ex,cellO (.ref tl)] ++ objsZ qa tp ++ [cellZ v]
noncomputable def adZ0 (it acc L src ct tl wc : Addr) (qa : Nat → Nat) : List Addr:=[it,acc,L,src,ct] ++ adrZ tl qa ++ [wc]
theorem runsZ0 (P : Params) (f : List Stmt) (ev : Env) (p1 p2 : Pos) (n t : Nat) (σ : Nat → Sup) (p : Pos) (it acc L fr src ct tl wc : Addr) (qa tp : Nat → Nat) (xs : Array Value) (ex k tx : Nat) (v : Option Value) : Runs ((tabZ.map fun y=>
 (runF P [(.func f ev,p1),(.builtin "claim.caller" {},p2)] (some (.codes (csL f ev))) lZ0 ((adZ0 it acc L src ct tl wc qa).zip (finZ0 tl qa tp xs ex (iterO src k) v)) n t (osAt σ 0 [nextD 0 3 it src xs ex k (sv y.1 tx),inZD P (.ref it) (.ref acc) (envZ0 L fr wc ct) f ev n (n + 1) (n + 2) fr wc tl qa tp y.1 tx y.2]) (.compLoop eZ0 0 (.ref it) (.ref acc) (envZ0 L fr wc ct)) p,List.range 11,
  (.pure (.again (.compLoop eZ0 0 (.ref it) (.ref acc) (envZ0 L fr wc ct))),[],((adZ0 it acc L src ct tl wc qa).zip (finZ0 tl qa tp xs ex (iterO src (k + 1)) (some (sv y.1 tx)))).map some,(σ 1).n + 1,(σ 1).t))) ++
 [(runF P [(.func f ev,p1),(.builtin "claim.caller" {},p2)] (some (.codes (csL f ev))) lZe ((adZ0 it acc L src ct tl wc qa).zip (finZ0 tl qa tp xs ex (iterO src k) v)) n t (osAt σ 0 [endD 0 3 it src xs ex k]) (.compLoop eZ0 0 (.ref it) (.ref acc) (envZ0 L fr wc ct)) p,List.range 11,
  (.pure (.done .next),[],((adZ0 it acc L src ct tl wc qa).zip (finZ0 tl qa tp xs ex (iterEnd k) v)).map some,(σ 0).n,(σ 0).t))]):=by unfold Runs;kernel_rfl
noncomputable def zD (P : Params) (f : List Stmt) (ev : Env) (ni na nL ns nc nt n0 n1 n2 n3 nw : Nat) (it acc L fr src ct tl wc : Addr) (qa tp : Nat → Nat) (xs : Array Value) (ex : Nat) : OrcD:=
 fnF (some (.codes (csL f ev))) (fun _=>.compStart eZ0 0 (.ref it) (.ref acc) (envZ0 L fr wc ct)) (fun _=>needZ0 ni na nL ns nc nt n0 n1 n2 n3 nw it acc L src ct tl wc qa tp xs ex (iterO src 0) none) (fun _ u=>finZ0 tl qa tp xs ex (iterEnd xs.size) (some (u.v 0))) (fun _ _=>.ok .next) (fun _ _=>[]) (fun _ _=>True)
theorem z_ok {w : World} {D U : Nat} {π : Nat → Sup} (hD : D ≤ 540) (hU : U ≤ 7800) {f : List Stmt} {ev : Env} {ni na nL ns nc nt n0 n1 n2 n3 nw : Nat} {it acc L fr src ct tl wc : Addr} {qa tp : Nat → Nat} {xs : Array Value} {ex : Nat} {ls : List String} (h6 : ∀ x ∈ ls,x ∈ six) (hw : Ws ls xs) (hx : 0 < xs.size) (hn : [ni,na,nL,ns,nc,nt,n0,n1,n2,n3,nw].Nodup) :
 OrcAt w D U π (zD w.params f ev ni na nL ns nc nt n0 n1 n2 n3 nw it acc L fr src ct tl wc qa tp xs ex):=by
 let need : List (Nat × Nat × Obj):=needZ0 ni na nL ns nc nt n0 n1 n2 n3 nw it acc L src ct tl wc qa tp xs ex (iterO src 0) none
 refine (startG_any (fs:=some (.codes (csL f ev))) (need:=need) (fin:=fun u=>finZ0 tl qa tp xs ex (iterEnd xs.size) (some (u.v 0))) (r:=fun _=>.ok .next) (out:=fun _=>[]) (F:=fun _=>True) (by kernel_rfl) (self_list (l:=src) (k:=0) (ni:=ni) (.head _)) ?_).at
 refine loopG_any (fs:=some (.codes (csL f ev))) (δ:=Option Value) (c:=.compLoop eZ0 0 (.ref it) (.ref acc) (envZ0 L fr wc ct)) (need:=need) xs.size (fun k d=>finZ0 tl qa tp xs ex (iterO src k) d) (fun k d=>d = none → k = 0) none (by omega) (by omega) rfl (by kernel_rfl) hn (by simp [need,needZ0]) rfl (fun _=>rfl) (fun k d=>rfl) ?_ ?_
 ·intro B n t p k d hN lt _ hB
  obtain ⟨p1,p2,rfl⟩:=codes2 (hB _ rfl)
  have lt' : k < ls.length:=by rw [← hw.1];exact lt
  obtain ⟨tx,htx⟩:=hw.2 k ls[k] (List.getElem?_eq_getElem lt')
  have hs : ls[k] ∈ six:=h6 _ (List.getElem_mem lt')
  obtain ⟨y,hy,e,h0,h1,h2,h3⟩:=tabZ_ok hs
  obtain ⟨x,y⟩:=y
  dsimp only at e
  subst e
  exact ⟨_,lZ0,fun σ=>some (sv ls[k] tx),fun σ=>(σ 1).n + 1,fun σ=>(σ 1).t,orcs_all (at_two (fun π=>nextD_ok htx) fun π=>inZ_ok (by omega) (by omega) hy hs h0 h1 h2 h3),fun σ=>(runsZ0 w.params f ev p1 p2 n t σ p it acc L fr src ct tl wc qa tp xs ex k tx d).get (List.mem_append_left _ (List.mem_map.mpr ⟨_,hy,rfl⟩)),fun σ _ h=>by cases h⟩
 ·intro B n t p d hN hd hB
  obtain ⟨p1,p2,rfl⟩:=codes2 (hB _ rfl)
  cases d with
  | none=>have:=hd rfl;omega
  | some v=>exact ⟨_,lZe,[],fun σ=>⟨(σ 0).n,(σ 0).t,fun _=>0,fun _=>v,fun _=>#[],fun _=>#[],fun _=>#[]⟩,one_ok fun π=>endD_ok (by simp),(fun v hv=>nomatch hv),List.nodup_nil,fun σ=>⟨rfl,rfl,(runsZ0 w.params f ev p1 p2 n t σ p it acc L fr src ct tl wc qa tp xs ex xs.size 0 (some v)).get (List.mem_append_right _ (.head _))⟩,fun _ _=>trivial⟩
noncomputable def lMz : List St:=[G 24 0x144600016600,cm,G 11 0x10084,.orc,G 38 0x1909000900090009666]
noncomputable def dsMz (w : World) (n t : Nat) (l : Addr) (ex : Nat) (h : FrM) (ev : Env) (c : Nat → String × Nat) : List OrcD:=
 [ctrD false w (five 4 0 2 1 77) (n + 2) l #[] ex 0 c 0 (frMul w.params n t l) h h (envMul n (n + 1)) ev ev]
theorem runsMz (w : World) (B : List (Code × Pos)) (b t : Nat) (σ : Nat → Sup) (p : Pos) (l : Addr) (ex : Nat) (h : FrM) (ev : Env) (c : Nat → String × Nat) : Runs [
 (runF w.params B (some (.envs [ev])) lMz [(l,listO #[] ex),(h.L,h.o)] (b + 1106) t (osAt σ 0 (dsMz w (b + 1106) t l ex h ev c)) (.call (.ref 327) ⟨[.ref l],[]⟩) p,[0,1,7],
  (dn (.ref (σ 0).n),[],[some (l,listO #[] ex),some (h.L,frO h.es h.ep ((σ 0).s 1)),some ((σ 0).n,listO #[] 0)],(σ 0).n + 1,(σ 0).t + 3))]:=by unfold Runs;kernel_rfl
noncomputable def mul0D (nl nw : Nat) (l : Addr) (ex : Nat) (h : FrM) (ev : Env) : OrcD:=
 fnF (some (.envs [ev])) (fun _=>.call (.ref 327) ⟨[.ref l],[]⟩) (fun _=>[(nl,l,listO #[] ex),(nw,h.L,h.o)]) (fun _ u=>[listO #[] ex,frO h.es h.ep (u.s 0)]) (fun _ u=>.ok (.ret (.ref (u.a 0)))) (fun _ u=>[(u.a 0,listO #[] 0)]) (fun _ _=>True)
theorem mul0_ok {w : World} {D U : Nat} {π : Nat → Sup} (hD : D ≤ 540) (hU : U ≤ 7800) {nl nw : Nat} {l : Addr} {ex : Nat} {h : FrM} {ev : Env} (hW : FrmOK ev h) (hn : [nl,nw].Nodup) : OrcAt w D U π (mul0D nl nw l ex h ev):=by
 refine OrcAny.at ?_
 unfold mul0D
 refine fnF_any (need:=fun _=>[(nl,l,listO #[] ex),(nw,h.L,h.o)]) (by omega) (by omega) rfl hn (by simp) fun B n t p hN=>?_
 obtain ⟨b,rfl⟩ : ∃ b,n = b + 1106:=⟨n - 1106,by omega⟩
 exact ⟨dsMz w (b + 1106) t l ex h ev (cOf []),lMz,[7],fun σ=>⟨(σ 0).n + 1,(σ 0).t + 3,fun _=>(σ 0).n,fun _=>.none,fun _=>#[],fun _=>#[],fun _=>(σ 0).s 1⟩,orcs_all (fun d hd π=>(by
  rcases List.mem_singleton.mp hd with rfl
  exact ctrD_ok (ls:=[]) (by omega) (by omega) Ws.nil (by simp) (by simp) rfl (by decide) ⟨rfl,kind_at (by kernel_rfl)⟩ hW hW (by decide))),(fun v hv=>by rcases List.mem_singleton.mp hv with rfl;simp),by simp,fun σ=>⟨rfl,rfl,(runsMz w B b t σ p l ex h ev (cOf [])).get (.head _)⟩,fun _ _=>trivial⟩
noncomputable def envLaw (L ct cp cn : Addr) : Env:=⟨fS (dig [52] pw.main.body),L,3,[(q "names",cn),(q "pieces",cp),(q "told",ct)],q "law.<locals>.",some 1105,r 1104,some L,0⟩
noncomputable def forT : Stmt → PySem.Expr
 | .For (target:=t) ..=>t
 | _=>default
noncomputable def forO : Stmt → List Stmt
 | .For (orelse:=t) ..=>t
 | _=>default
noncomputable def sFor : Stmt:=nth lawB 7
noncomputable def cFor (z : Addr) (ev : Env) : Code:=.forLoop (forT sFor) (.ref z) (forB sFor) (forO sFor) ev
noncomputable def csF (z : Addr) (f : List Stmt) (ev : Env) : List Code:=csR (forT sFor) (.ref z) (forB sFor) (forO sFor) ev f
noncomputable abbrev zipO (v : Value) (zt tu : Addr) : Obj:=⟨.type "zip",none,.fields #[v,.bool false,.bool false,.ref zt,.ref tu],#[]⟩
noncomputable abbrev tupO (xs : Array Value) : Obj:=⟨.type "tuple",none,.seq xs 0,#[]⟩
structure LawM where
 z : Addr
 zt : Addr
 i1 : Addr
 i2 : Addr
 tu : Addr
 tl : Addr
 mks : Addr
 qa : Nat → Addr
 na : Nat → Addr
 wl : Addr
 rl : Addr
 cp : Addr
 cn : Addr
 ct : Addr
 L : Addr
 tp : Nat → Nat
 nx : Nat → Array Value
 wx : Array Value
 ew : Nat
 rx : Array Value
 er : Nat
 ts : Nat
 tw : Nat
 tq : Nat
 tr : Nat
 tm : Nat
 sc : Addr
 pl : Addr
noncomputable def LawM.ev (M : LawM) : Env:=envLaw M.L M.ct M.cp M.cn
noncomputable def adrF (M : LawM) : List Addr:=[M.z,M.zt,M.i1,M.i2,M.tu,M.tl,M.mks,M.qa 0,M.qa 1,M.qa 2,M.qa 3,M.na 0,M.na 1,M.na 2,M.na 3,M.wl,M.rl,M.cp,M.cn,M.L]
noncomputable def nmA (na : Nat → Addr) : Array Value:=#[.ref (na 0),.ref (na 1),.ref (na 2),.ref (na 3)]
noncomputable abbrev cellV (v : Option Value) : Obj:=⟨.type "cell",none,.cell v,#[]⟩
noncomputable def objF (M : LawM) (i1 i2 : Obj) (x1 x2 : Value) (v1 v2 : Option Value) (L : Obj) : List Obj:=
 [zipO .none M.zt M.tu,tupO #[.ref M.i1,.ref M.i2],i1,i2,tupO #[x1,x2],listO #[.ref (M.qa 0),.ref (M.qa 1),.ref (M.qa 2),.ref (M.qa 3)] 4,listO (nmA M.na) 0,listO (pcs 0 (M.tp 0)) 2,listO (pcs 1 (M.tp 1)) 2,listO (pcs 2 (M.tp 2)) 2,listO (pcs 3 (M.tp 3)) 2,listO (M.nx 0) 0,listO (M.nx 1) 0,listO (M.nx 2) 0,listO (M.nx 3) 0,listO M.wx M.ew,listO M.rx M.er,cellV v1,cellV v2,L]
noncomputable def LawM.es (P : Params) (M : LawM) : Array DictEntry:=#[E P "script" M.ts (.ref M.sc),E P "words" M.tw (.ref M.wl),E P "patterns" M.tq (.ref M.pl),E P "read" M.tr (.ref M.rl),E P "marks" M.tm (.ref M.mks)]
noncomputable def esF (P : Params) (M : LawM) (t1 t2 a1 a2 : Nat) : Array DictEntry:=#[E P "script" M.ts (.ref M.sc),E P "words" M.tw (.ref M.wl),E P "patterns" M.tq (.ref M.pl),E P "read" M.tr (.ref M.rl),E P "marks" M.tm (.ref M.mks),E P "due" t1 (.ref a1),E P "picked" t2 (.ref a2)]
noncomputable def revA (xs : Array Value) : Array Value:=slicePick xs none none (some (-1))
noncomputable def upA (xs : Array Value) (m : Nat) : Array Value:=slicePick xs none (some (m : Nat)) none
noncomputable def dsFor (w : World) (M : LawM) (f : List Stmt) (n t : Nat) (m k : Nat) (t1 t2 : (Nat → Sup) → Nat) (sl : Array (Option Value)) (G1 G2 : Array Value → Prop) : List OrcD:=
 [lenM 15 M.wl M.wx M.ew m,
  dep 0 fun π=>sliceD 16 24 M.rl (π 0).n M.rx M.er (fun _=>.none) (fun π=>.int (m : Nat) ((π 0).a 0)) (fun _=>.none) none (some (m : Nat)) none,
  dep 0 fun π=>compG (some (.codes (csF M.z f M.ev))) (.compStart e5 0 (.ref (π 1).n) (.ref ((π 1).n + 1)) (env5 ((π 1).n + 2) M.L M.cp)) 26 27 28 (π 1).n ((π 1).n + 1) ((π 1).n + 2) (iterO ((π 1).a 0) 0) (iterEnd (upA M.rx m).size) #[] 0 #[] 0 [(25,(π 1).a 0,listO (upA M.rx m) 0),(17,M.cp,cellO (.ref (M.qa k))),(7 + k,M.qa k,listO (pcs k (M.tp k)) 2)] (es1k w.params "word") G1,
  dep 0 fun π=>compD (.compStart e6 0 (.ref (π 2).n) (.ref ((π 2).n + 1)) (env6 ((π 2).n + 2) M.L M.cn)) 29 30 31 (π 2).n ((π 2).n + 1) ((π 2).n + 2) (iterO M.wl 0) (iterEnd M.wx.size) #[] 0 #[] 0 [(15,M.wl,listO M.wx M.ew),(18,M.cn,cellO (.ref (M.na k))),(11 + k,M.na k,listO (M.nx k) 0)] (es1k w.params "word") G2,
  dep 0 fun π=>cmpD "list.__ne__" 27 30 ((π 1).n + 1) ((π 2).n + 1) ((π 2).x 0) ((π 3).x 0) ((π 2).a 0) ((π 3).a 0) false,
  dep 0 fun π=>rightD (csF M.z f M.ev) 27 30 19 ((π 1).n + 1) ((π 2).n + 1) ((π 2).x 0) ((π 3).x 0) ((π 2).a 0) ((π 3).a 0) ⟨M.L,esF w.params M (t1 π) (t2 π) ((π 2).n + 1) ((π 1).n + 1),7,sl⟩,
  dep 0 fun π=>sliceD 27 36 ((π 1).n + 1) (π 5).n ((π 2).x 0) ((π 2).a 0) (fun _=>.none) (fun _=>.none) (fun π=>.int (-1) ((π 5).t + 1)) none none (some (-1)),
  dep 0 fun π=>sliceD 30 38 ((π 2).n + 1) (π 6).n ((π 3).x 0) ((π 3).a 0) (fun _=>.none) (fun _=>.none) (fun π=>.int (-1) ((π 6).t + 1)) none none (some (-1)),
  dep 0 fun π=>rightD (csF M.z f M.ev) 37 39 19 ((π 6).a 0) ((π 7).a 0) (revA ((π 2).x 0)) (revA ((π 3).x 0)) 0 0 ⟨M.L,esF w.params M (t1 π) (t2 π) ((π 2).n + 1) ((π 1).n + 1),7,(π 5).s 1⟩]
noncomputable def loA (z a zt tu : Addr) : Sem Unit:=match letOwnedTupleGo (forT sFor) (.ref z) (.ref a) with
 | .load _ _ k=>k (zipO (rawInt a) zt tu)
 | _=>.unsupported ""
noncomputable def loB (z : Addr) : Sem Unit:=do
 rule "for.unpacks-the-owned-tuple"
 updateField z 0 .none
theorem tFor_is : ∃ es c q,forT sFor = .Tuple es c q:=by
 have : (match forT sFor with | .Tuple ..=>true | _=>false) = true:=by kernel_rfl
 split at this
 ·rename_i es c q e;exact ⟨es,c,q,e⟩
 ·cases this
theorem lo_is (z a zt tu : Addr) : loA z a zt tu = loB z:=by
 obtain ⟨es,c,q,e⟩:=tFor_is
 unfold loA
 rw [e]
 show (if (["enumerate","zip","dict_itemiterator","dict_reverseitemiterator","odict_iterator","itertools.zip_longest","itertools.pairwise"].contains "zip" && #[rawInt a,.bool false,.bool false,.ref zt,.ref tu][0]? == some (rawInt a)) = true then _ else _) = _
 rw [show (["enumerate","zip","dict_itemiterator","dict_reverseitemiterator","odict_iterator","itertools.zip_longest","itertools.pairwise"].contains "zip" && #[rawInt a,.bool false,.bool false,.ref zt,.ref tu][0]? == some (rawInt a)) = true by simp]
 rfl
noncomputable def kFor (z : Addr) (ev : Env) (a : Addr) : Sem Fin:=do
 assign (forT sFor) ev (.ref a)
 match ← execs (forB sFor) ev with
 | .next | .cont=>again (.forLoop (forT sFor) (.ref z) (forB sFor) (forO sFor) ev)
 | .brk=>pure (.done .next)
 | .ret v=>pure (.done (.ret v))
noncomputable def tF0 (x : Sem Unit) (z a : Addr) (ev : Env) : Sem Fin:=(x >>= fun _=>kFor z ev a).onRaise (hW ev)
noncomputable def tF (z a zt tu : Addr) (ev : Env) : { t : Sem Fin // tF0 (loA z a zt tu) z a ev = t }:=by
 refine ⟨?t,?h⟩
 case h=>
  unfold tF0 loA kFor hW
  simp only [bind_R,PySem.W.R.onRaiseR_eq]
  rw [PySem.W.Fast.te1578499551869305889,PySem.W.Fast.te17772580674575903948,PySem.W.Fast.te12563942051412417395,PySem.W.Fast.te12377390311714414960,PySem.W.Fast.te17872113653443481271,PySem.W.Fast.te1623429502029203251]
noncomputable def tF' (z a : Addr) (ev : Env) : { t : Sem Fin // tF0 (loB z) z a ev = t }:=by
 refine ⟨?t,?h⟩
 case h=>
  unfold tF0 loB kFor hW
  simp only [bind_R,PySem.W.R.onRaiseR_eq]
  rw [PySem.W.Fast.te12367529300394763782,PySem.W.Fast.te17772580674575903948,PySem.W.Fast.te12563942051412417395,PySem.W.Fast.te12377390311714414960,PySem.W.Fast.te17872113653443481271,PySem.W.Fast.te1623429502029203251]
theorem tF_eq (z a zt tu : Addr) (ev : Env) : (tF z a zt tu ev).1 = (tF' z a ev).1:=by
 rw [← (tF z a zt tu ev).2,← (tF' z a ev).2,lo_is]
noncomputable def cutF (M : LawM) (n : Nat) : St:=.cut (fun _=>(tF M.z n M.zt M.tu M.ev).1) (fun _=>(tF' M.z n M.ev).1) (fun _ _=>tF_eq _ _ _ _ _)
noncomputable def lFor (M : LawM) (n : Nat) : List St:=[G 51 0x144444448888877a777788886696666444454444,cutF M n,G 7 0x118f18f18f44,cm,G 61 0x117f0017f16f16f15f15f1bf19f19f18f19f19f19f19f19f19f18f19f19f19f19f19f19f18f19f19f19f19f19f18f,.orc,G 6 0x114f14f14f,.orc,G 4 0x11df1df,cm,G 8 0x11ef1df,.orc,G 10 0x113f13f17f20f20f20f,cm,G 8 0x121f13f,.orc,G 10 0x124f24f24f23f23f23f,cm,G 63 0x11ff22f1ff17f17f17f17f17f17f27f25f25f24f25f25f25f25f25f25f24f25f25f25f25f25f25f24f25f25f25f25f25f24f,cm,.orc,G 9 0x1017f17f0,.orc,G 17 0x11ff1ff1ff17f0,.orc,G 14 0x122f22f22f17f,.orc,G 3 0x10,.orc,G 2 1]
noncomputable def BL (f : List Stmt) (ev : Env) (p1 p2 : Pos) : List (Code × Pos):=[(.func f ev,p1),(.builtin "claim.caller" {},p2)]
noncomputable def rowF (w : World) (M : LawM) (f : List Stmt) (p1 p2 : Pos) (n t m k : Nat) (σ : Nat → Sup) (p : Pos) (x1 x2 : Value) (v1 v2 : Option Value) (es : Array DictEntry) (ep : Nat) (t1 t2 : (Nat → Sup) → Nat) (sl : Array (Option Value)) (G1 G2 : Array Value → Prop) : Option RS × List Nat × Seen:=
 (runF w.params (BL f M.ev p1 p2) (some (.codes (csL f M.ev))) (lFor M n) ((adrF M).zip (objF M (iterO M.tl k) (iterO M.mks k) x1 x2 v1 v2 (frO es ep sl))) n t (osAt σ 0 (dsFor w M f n t m k t1 t2 sl G1 G2)) (cFor M.z M.ev) p,List.range 20,
  (.pure (.again (cFor M.z M.ev)),[],((adrF M).zip (objF M (iterO M.tl (k + 1)) (iterO M.mks (k + 1)) (.ref (M.qa k)) (.ref (M.na k)) (some (.ref (M.qa k))) (some (.ref (M.na k))) (frO (esF w.params M (t1 σ) (t2 σ) ((σ 2).n + 1) ((σ 1).n + 1)) 7 ((σ 8).s 1)))).map some,(σ 8).n,(σ 8).t))
theorem runsFor (w : World) (M : LawM) (f : List Stmt) (p1 p2 : Pos) (n t m : Nat) (σ : Nat → Sup) (p : Pos) (x1 x2 : Value) (v1 v2 : Option Value) (t1 t2 a1 a2 : Nat) (sl : Array (Option Value)) (G1 G2 : Array Value → Prop) : Runs (
 rowF w M f p1 p2 (n + 1106) t m 0 σ p x1 x2 v1 v2 (M.es w.params) 5 (fun π=>(π 3).t) (fun π=>(π 3).t + 1) sl G1 G2 ::
 [1,2,3].map fun k=>rowF w M f p1 p2 (n + 1106) t m k σ p x1 x2 v1 v2 (esF w.params M t1 t2 a1 a2) 7 (fun _=>t1) (fun _=>t2) sl G1 G2):=by unfold Runs;kernel_rfl
theorem Ws.rev {l : List String} {ys : Array Value} (h : Ws l ys) : Ws l.reverse (revA ys):=by
 unfold revA
 rw [krv_pick]
 refine ⟨by simp [h.1],fun i x hx=>?_⟩
 have hi : i < l.length:=by
  have:=(List.getElem?_eq_some_iff.mp hx).1
  simpa using this
 rw [List.getElem?_reverse hi] at hx
 obtain ⟨t,e⟩:=h.2 _ x hx
 refine ⟨t,?_⟩
 rw [List.getElem?_toArray,List.getElem?_reverse (by simpa [h.1] using hi),Array.getElem?_toList,Array.length_toList,h.1]
 exact e
noncomputable def namesL : Nat → List String
 | 0=>["a","ab"]
 | 1=>["ab","b","it's b","bb"]
 | 2=>["ab","bb"]
 | _=>["b","it's b","bb"]
theorem fits_names : ∀ k,k < 4 → ∀ x ∈ six,fitsB k x = (namesL k).any (same · x)
 | 0,_=>by decide +kernel
 | 1,_=>by decide +kernel
 | 2,_=>by decide +kernel
 | 3,_=>by decide +kernel
noncomputable def dueL (ws : List String) (k : Nat) : List String:=ws.filter (fitsB k)
theorem due_filter {ws : List String} (h6 : ∀ x ∈ ws,x ∈ six) {k : Nat} (hk : k < 4) : (ws.filter fun x=>(namesL k).any (same · x)) = dueL ws k:=
 List.filter_congr fun x hx=>(fits_names k hk x (h6 x hx)).symm
theorem names_six : ∀ k,k < 4 → (namesL k).Nodup ∧ (∀ x ∈ six,fitsB k x = true ↔ x ∈ namesL k) ∧ (∀ x ∈ namesL k,x ∈ six) ∧ (namesL k).length ∈ [2,3,4]
 | 0,_=>by decide +kernel
 | 1,_=>by decide +kernel
 | 2,_=>by decide +kernel
 | 3,_=>by decide +kernel
theorem due_mem {ws : List String} (h6 : ∀ x ∈ ws,x ∈ six) (hall : ∀ x ∈ six,x ∈ ws) {k : Nat} (hk : k < 4) (x : String) : x ∈ dueL ws k ↔ x ∈ namesL k:=by
 obtain ⟨_,h2,h3,_⟩:=names_six k hk
 unfold dueL
 rw [List.mem_filter]
 constructor
 ·exact fun h=>(h2 x (h6 x h.1)).mp h.2
 ·exact fun h=>⟨hall x (h3 x h),(h2 x (h3 x h)).mpr h⟩
theorem due_counter {ws : List String} (h6 : ∀ x ∈ ws,x ∈ six) (hall : ∀ x ∈ six,x ∈ ws) {k : Nat} (hk : k < 4) : (counter (dueL ws k)).length ∈ [2,3,4] ∧ (counter (dueL ws k).reverse).length ∈ [2,3,4]:=by
 obtain ⟨h1,_,_,h4⟩:=names_six k hk
 rw [counter_length h1 (due_mem h6 hall hk),counter_length h1 (fun x=>by rw [List.mem_reverse];exact due_mem h6 hall hk x)]
 exact ⟨h4,h4⟩
theorem due_pos {ws : List String} (h6 : ∀ x ∈ ws,x ∈ six) (hall : ∀ x ∈ six,x ∈ ws) {k : Nat} (hk : k < 4) : 0 < (dueL ws k).length:=by
 obtain ⟨_,_,_,h4⟩:=names_six k hk
 have : 0 < (namesL k).length:=by simp at h4;omega
 exact List.length_pos_of_mem ((due_mem h6 hall hk _).mpr (List.getElem_mem this))
structure LawOK (ws : List String) (M : LawM) : Prop where
 w : Ws ws M.wx
 r : Ws ws (upA M.rx ws.length)
 rs : M.rx.size ≤ sizeLine
 six : ∀ x ∈ ws,x ∈ six
 all : ∀ x ∈ Mine.six,x ∈ ws
 len : ws.length ≤ 60
 n : ∀ k,k < 4 → Ws (namesL k) (M.nx k)
noncomputable def G1F (ws : List String) (k N : Nat) : Array Value → Prop:=fun zs=>Ws ((ws.take N).filter (fitsB k)) zs
noncomputable def G2F (ws : List String) (k N : Nat) : Array Value → Prop:=fun zs=>Ws ((ws.take N).filter fun x=>(namesL k).any (same · x)) zs
theorem ev_ok {M : LawM} {es : Array DictEntry} {ep : Nat} {sl : Array (Option Value)} : FrmOK M.ev ⟨M.L,es,ep,sl⟩:=⟨rfl,kind_at (by kernel_rfl)⟩
theorem dsFor_ok {w : World} {D U : Nat} (hD : D ≤ 390) (hU : U ≤ 7200) {ws : List String} {M : LawM} (H : LawOK ws M) {f : List Stmt} {n t k : Nat} (hk : k < 4) {t1 t2 : (Nat → Sup) → Nat} {sl : Array (Option Value)} :
 ∀ j d,(dsFor w M f n t ws.length k t1 t2 sl (G1F ws k (upA M.rx ws.length).size) (G2F ws k M.wx.size))[j]? = some d → OrcOK w D U (dsFor w M f n t ws.length k t1 t2 sl (G1F ws k (upA M.rx ws.length).size) (G2F ws k M.wx.size)) j d:=by
 have big : 1000 ≤ sizeLine:=by decide +kernel
 have hpos : 0 < ws.length:=List.length_pos_of_mem (H.all "a" (by decide))
 have h60:=H.len
 have hd0:=due_pos H.six H.all hk
 have hdl : (dueL ws k).length ≤ ws.length:=List.length_filter_le _ _
 have hd6 : ∀ x ∈ dueL ws k,x ∈ six:=fun x hx=>H.six x (List.mem_filter.mp hx).1
 obtain ⟨hc1,hc2⟩:=due_counter H.six H.all hk
 have hr : (upA M.rx ws.length).size = ws.length:=H.r.1
 have hw : M.wx.size = ws.length:=H.w.1
 have g1 : ∀ {zs},G1F ws k (upA M.rx ws.length).size zs → Ws (dueL ws k) zs:=fun {zs} h=>by
  unfold G1F at h
  rw [hr,List.take_length] at h
  exact h
 have g2 : ∀ {zs},G2F ws k M.wx.size zs → Ws (dueL ws k) zs:=fun {zs} h=>by
  unfold G2F at h
  rw [hw,List.take_length,due_filter H.six hk] at h
  exact h
 refine orcs_of fun j d hd' π hF'=>?_
 obtain ⟨J,M,hJ,hM,hd,hF⟩:=genJ hd' hF'
 clear hd' hF'
 match j,hd with
 | 0,hd=>subst hM;cases hd;exact lenM_ok hw (by omega)
 | 1,hd=>subst hM;cases hd;exact dep_at (sliceD_ok IsPart.none (IsPart.int _ _) IsPart.none (by simp) H.rs)
 | 2,hd=>subst hM;cases hd;exact dep_at (comp5G_ok (by omega) (by omega) hk H.six (by rw [hr];exact hpos) H.r (by rw [hr];omega) (by
  have : k = 0 ∨ k = 1 ∨ k = 2 ∨ k = 3:=by omega
  rcases this with rfl | rfl | rfl | rfl <;> decide))
 | 3,hd=>subst hM;cases hd;exact dep_at (comp6_ok (by omega) (by omega) (by rw [hw];exact hpos) H.w (H.n k hk) (by rw [hw];omega) (by
  have : k = 0 ∨ k = 1 ∨ k = 2 ∨ k = 3:=by omega
  rcases this with rfl | rfl | rfl | rfl <;> decide))
 | 4,hd=>subst hM;cases hd;exact dep_at (neD_ok (g1 (hF 2 (by omega) _ rfl)) (g2 (hF 3 (by omega) _ rfl)))
 | 5,hd=>subst hM;cases hd;exact dep_at (right_ok (by omega) (by omega) (g1 (hF 2 (by omega) _ rfl)) (g2 (hF 3 (by omega) _ rfl)) hd6 hd0 (by omega) hc1 ev_ok (by decide))
 | 6,hd=>
   subst hM;cases hd
   have z:=(g1 (hF 2 (by omega) _ rfl)).1
   exact dep_at (sliceD_ok IsPart.none IsPart.none (IsPart.int _ _) (by simp) (by rw [z];omega))
 | 7,hd=>
   subst hM;cases hd
   have z:=(g2 (hF 3 (by omega) _ rfl)).1
   exact dep_at (sliceD_ok IsPart.none IsPart.none (IsPart.int _ _) (by simp) (by rw [z];omega))
 | 8,hd=>subst hM;cases hd;exact dep_at (right_ok (by omega) (by omega) (g1 (hF 2 (by omega) _ rfl)).rev (g2 (hF 3 (by omega) _ rfl)).rev (fun x hx=>hd6 x (List.mem_reverse.mp hx)) (by rw [List.length_reverse];exact hd0) (by rw [List.length_reverse];omega) hc2 ev_ok (by decide))
 | j + 9,hd=>subst hM;exact nomatch (show none = some d from hd)
theorem runsForE (w : World) (M : LawM) (f : List Stmt) (p1 p2 : Pos) (n t : Nat) (p : Pos) (x1 x2 : Value) (v1 v2 : Option Value) (t1 t2 a1 a2 : Nat) (sl : Array (Option Value)) : Runs [
 (runF w.params (BL f M.ev p1 p2) (some (.codes (csL f M.ev))) [G 32 0x119f446696666444454444] ((adrF M).zip (objF M (iterO M.tl 4) (iterO M.mks 4) x1 x2 v1 v2 (frO (esF w.params M t1 t2 a1 a2) 7 sl))) n t [] (cFor M.z M.ev) p,List.range 20,
  (.pure (.done .next),[],((adrF M).zip (objF M (iterEnd 4) (iterO M.mks 4) x1 x2 v1 v2 (frO (esF w.params M t1 t2 a1 a2) 7 sl))).map some,n + 2,t))]:=by unfold Runs;kernel_rfl
noncomputable def needF (m : Nat → Nat) (M : LawM) (os : List Obj) : List (Nat × Nat × Obj):=[m 0,m 1,m 2,m 3,m 4,m 5,m 6,m 7,m 8,m 9,m 10,m 11,m 12,m 13,m 14,m 15,m 16,m 17,m 18,m 19].zip ((adrF M).zip os)
noncomputable def finF (P : Params) (M : LawM) (u : Sup) : List Obj:=objF M (iterEnd 4) (iterO M.mks 4) (.ref (M.qa 3)) (.ref (M.na 3)) (some (.ref (M.qa 3))) (some (.ref (M.na 3))) (frO (esF P M (u.a 0) (u.a 1) (u.a 2) (u.a 3)) 7 (u.s 0))
noncomputable def forD (P : Params) (M : LawM) (f : List Stmt) (m : Nat → Nat) (sl : Array (Option Value)) : OrcD:=
 fnF (some (.codes (csL f M.ev))) (fun _=>cFor M.z M.ev) (fun _=>needF m M (objF M (iterO M.tl 0) (iterO M.mks 0) .none .none none none (frO (M.es P) 5 sl))) (fun _=>finF P M) (fun _ _=>.ok .next) (fun _ _=>[]) (fun _ _=>True)
noncomputable def objK (P : Params) (M : LawM) (k : Nat) (d : Option (Nat × Nat × Nat × Nat) × Array (Option Value)) : List Obj:=match d.1 with
 | none=>objF M (iterO M.tl k) (iterO M.mks k) .none .none none none (frO (M.es P) 5 d.2)
 | some q=>objF M (iterO M.tl k) (iterO M.mks k) (.ref (M.qa (k - 1))) (.ref (M.na (k - 1))) (some (.ref (M.qa (k - 1)))) (some (.ref (M.na (k - 1)))) (frO (esF P M q.1 q.2.1 q.2.2.1 q.2.2.2) 7 d.2)
theorem for_ok {w : World} {D U : Nat} {π : Nat → Sup} (hD : D ≤ 315) (hU : U ≤ 6900) {ws : List String} {M : LawM} (H : LawOK ws M) {f : List Stmt} {m : Nat → Nat} {sl : Array (Option Value)} (hn : [m 0,m 1,m 2,m 3,m 4,m 5,m 6,m 7,m 8,m 9,m 10,m 11,m 12,m 13,m 14,m 15,m 16,m 17,m 18,m 19].Nodup) : OrcAt w D U π (forD w.params M f m sl):=by
 refine OrcAny.at ?_
 unfold forD
 let need:=needF m M (objF M (iterO M.tl 0) (iterO M.mks 0) .none .none none none (frO (M.es w.params) 5 sl))
 refine loopG_any (fs:=some (.codes (csL f M.ev))) (c:=cFor M.z M.ev) (need:=need) (fin:=finF w.params M) (r:=fun _=>.ok .next) (out:=fun _=>[]) (F:=fun _=>True) 4 (objK w.params M) (fun k d=>d.1 = none ↔ k = 0) (none,sl) (by omega) (by omega) rfl (by kernel_rfl) hn (by simp [need,needF,adrF,objF]) rfl (by simp) (fun k d=>by obtain ⟨q,sl⟩:=d;cases q <;> rfl) ?_ ?_
 ·intro B n t p k d hN lt hG hB
  obtain ⟨p1,p2,rfl⟩:=codes2 (hB _ rfl)
  obtain ⟨b,rfl⟩ : ∃ b,n = b + 1106:=⟨n - 1106,by omega⟩
  obtain ⟨q,sl1⟩:=d
  cases q with
  | none=>
    have k0 : k = 0:=hG.mp rfl
    subst k0
    refine ⟨_,lFor M (b + 1106),fun σ=>(some ((σ 3).t,(σ 3).t + 1,(σ 2).n + 1,(σ 1).n + 1),(σ 8).s 1),fun σ=>(σ 8).n,fun σ=>(σ 8).t,dsFor_ok (n:=b + 1106) (t:=t) (t1:=fun π=>(π 3).t) (t2:=fun π=>(π 3).t + 1) (sl:=sl1) (f:=f) (by omega) (by omega) H lt,fun σ=>?_,fun σ _=>by simp⟩
    exact (runsFor w M f p1 p2 b t ws.length σ p .none .none none none 0 0 0 0 sl1 _ _).get (.head _)
  | some q=>
    have k0 : k ≠ 0:=fun e=>by have:=hG.mpr e;cases this
    refine ⟨_,lFor M (b + 1106),fun σ=>(some (q.1,q.2.1,(σ 2).n + 1,(σ 1).n + 1),(σ 8).s 1),fun σ=>(σ 8).n,fun σ=>(σ 8).t,dsFor_ok (n:=b + 1106) (t:=t) (t1:=fun π=>q.1) (t2:=fun π=>q.2.1) (sl:=sl1) (f:=f) (by omega) (by omega) H lt,fun σ=>?_,fun σ _=>by simp⟩
    have hk : k ∈ [1,2,3]:=by
     have : k = 1 ∨ k = 2 ∨ k = 3:=by omega
     simp [this]
    exact (runsFor w M f p1 p2 b t ws.length σ p (.ref (M.qa (k - 1))) (.ref (M.na (k - 1))) (some (.ref (M.qa (k - 1)))) (some (.ref (M.na (k - 1)))) q.1 q.2.1 q.2.2.1 q.2.2.2 sl1 _ _).get (.tail _ (List.mem_map.mpr ⟨k,hk,rfl⟩))
 ·intro B n t p d hN hG hB
  obtain ⟨p1,p2,rfl⟩:=codes2 (hB _ rfl)
  obtain ⟨q,sl1⟩:=d
  cases q with
  | none=>have:=hG.mp rfl;omega
  | some q=>
    exact ⟨[],_,[],fun σ=>⟨n + 2,t,fun i=>match i with | 0=>q.1 | 1=>q.2.1 | 2=>q.2.2.1 | _=>q.2.2.2,fun _=>.none,fun _=>#[],fun _=>#[],fun _=>sl1⟩,none_ok,(fun v hv=>nomatch hv),List.nodup_nil,fun σ=>⟨rfl,rfl,(runsForE w M f p1 p2 n t p (.ref (M.qa 3)) (.ref (M.na 3)) (some (.ref (M.qa 3))) (some (.ref (M.na 3))) q.1 q.2.1 q.2.2.1 q.2.2.2 sl1).get (.head _)⟩,fun _ _=>trivial⟩
end
section
open PySem.Builtin PySem.Builtin.Str PySem.MeetsSeq PySem.SeqAt PySem.SeqRoads2
noncomputable def litA (t : Nat) : Nat → Array Value
 | 0=>#[sv "a" t,.none]
 | 1=>#[.none,sv "b" (t + 1)]
 | 2=>#[sv "." (t + 2),sv "." (t + 3)]
 | _=>#[sv "[^a]" (t + 4),.none]
theorem eq_same_str (A : Around) (s : Shared) (x : String) (t u : Nat) : EqAt A s (sv x t) (sv x u) true:=by
 have z:=SeqRoads2.EqGives.str (q x) (q x) t u
 rw [show ((q x).cps.toList == (q x).cps.toList) = true by simp] at z
 exact fun prog w E Q h=>z prog w A E s Q h
theorem lit_eq (A : Around) (s : Shared) (t p0 : Nat) : ∀ i,i < 4 → ∀ j (h1 : j < (pcs i p0).size) (h2 : j < (litA t i).size),EqAt A s (pcs i p0)[j] (litA t i)[j] true
 | 0,_=>fun j h1 h2=>match j,h1,h2 with
   | 0,_,_=>eq_same_str _ _ _ _ _
   | 1,_,_=>EqAt.same _
 | 1,_=>fun j h1 h2=>match j,h1,h2 with
   | 0,_,_=>EqAt.same _
   | 1,_,_=>eq_same_str _ _ _ _ _
 | 2,_=>fun j h1 h2=>match j,h1,h2 with
   | 0,_,_=>eq_same_str _ _ _ _ _
   | 1,_,_=>eq_same_str _ _ _ _ _
 | 3,_=>fun j h1 h2=>match j,h1,h2 with
   | 0,_,_=>eq_same_str _ _ _ _ _
   | 1,_,_=>EqAt.same _
noncomputable def nestNeed (na nb q0 q1 q2 q3 l0 l1 l2 l3 : Nat) (a b : Addr) (qa la tp : Nat → Nat) (t ea : Nat) : List (Nat × Nat × Obj):=
 [(na,a,listO (tlA qa) ea),(nb,b,listO (tlA la) 0),(q0,qa 0,listO (pcs 0 (tp 0)) 2),(q1,qa 1,listO (pcs 1 (tp 1)) 2),(q2,qa 2,listO (pcs 2 (tp 2)) 2),(q3,qa 3,listO (pcs 3 (tp 3)) 2),(l0,la 0,listO (litA t 0) 0),(l1,la 1,listO (litA t 1) 0),(l2,la 2,listO (litA t 2) 0),(l3,la 3,listO (litA t 3) 0)]
noncomputable def nestD (na nb q0 q1 q2 q3 l0 l1 l2 l3 : Nat) (a b : Addr) (qa la tp : Nat → Nat) (t ea : Nat) : OrcD:=
 ⟨fun _=>.call (.builtin "list.__ne__") ⟨[.ref a,.ref b],[]⟩,fun _=>nestNeed na nb q0 q1 q2 q3 l0 l1 l2 l3 a b qa la tp t ea,fun _ _=>.ok (.ret (.bool false)),fun _ _=>[],fun _ _=>[],fun _ _=>none,fun _ _=>True,fun _=>none,0⟩
theorem nest_ok {w : World} {D U : Nat} {π : Nat → Sup} (hU : U ≤ 8000) {na nb q0 q1 q2 q3 l0 l1 l2 l3 : Nat} {a b : Addr} {qa la tp : Nat → Nat} {t ea : Nat} (h0 : q0 ≠ l0) (h1 : q1 ≠ l1) (h2 : q2 ≠ l2) (h3 : q3 ≠ l3) : OrcAt w D U π (nestD na nb q0 q1 q2 q3 l0 l1 l2 l3 a b qa la tp t ea):=by
 refine OrcAt.of_code (fun s ho hz hp=>?_)
 have hp : At w.params (nestNeed na nb q0 q1 q2 q3 l0 l1 l2 l3 a b qa la tp t ea) s:=hp
 have ga:=hp.get _ (.head _)
 have gb:=hp.get _ (.tail _ (.head _))
 have m0 : (q0,qa 0,listO (pcs 0 (tp 0)) 2) ∈ nestNeed na nb q0 q1 q2 q3 l0 l1 l2 l3 a b qa la tp t ea:=List.mem_of_getElem? (i:=2) rfl
 have m1 : (q1,qa 1,listO (pcs 1 (tp 1)) 2) ∈ nestNeed na nb q0 q1 q2 q3 l0 l1 l2 l3 a b qa la tp t ea:=List.mem_of_getElem? (i:=3) rfl
 have m2 : (q2,qa 2,listO (pcs 2 (tp 2)) 2) ∈ nestNeed na nb q0 q1 q2 q3 l0 l1 l2 l3 a b qa la tp t ea:=List.mem_of_getElem? (i:=4) rfl
 have m3 : (q3,qa 3,listO (pcs 3 (tp 3)) 2) ∈ nestNeed na nb q0 q1 q2 q3 l0 l1 l2 l3 a b qa la tp t ea:=List.mem_of_getElem? (i:=5) rfl
 have k0 : (l0,la 0,listO (litA t 0) 0) ∈ nestNeed na nb q0 q1 q2 q3 l0 l1 l2 l3 a b qa la tp t ea:=List.mem_of_getElem? (i:=6) rfl
 have k1 : (l1,la 1,listO (litA t 1) 0) ∈ nestNeed na nb q0 q1 q2 q3 l0 l1 l2 l3 a b qa la tp t ea:=List.mem_of_getElem? (i:=7) rfl
 have k2 : (l2,la 2,listO (litA t 2) 0) ∈ nestNeed na nb q0 q1 q2 q3 l0 l1 l2 l3 a b qa la tp t ea:=List.mem_of_getElem? (i:=8) rfl
 have k3 : (l3,la 3,listO (litA t 3) 0) ∈ nestNeed na nb q0 q1 q2 q3 l0 l1 l2 l3 a b qa la tp t ea:=List.mem_of_getElem? (i:=9) rfl
 have pair : ∀ (A : Around) (i m k : Nat),A.units < cLine → i < 4 → m ≠ k → (m,qa i,listO (pcs i (tp i)) 2) ∈ nestNeed na nb q0 q1 q2 q3 l0 l1 l2 l3 a b qa la tp t ea → (k,la i,listO (litA t i) 0) ∈ nestNeed na nb q0 q1 q2 q3 l0 l1 l2 l3 a b qa la tp t ea → EqAt A s (.ref (qa i)) (.ref (la i)) true:=fun A i m k hu hi hne hm hk=>by
  have z : RcAt A s (.ref (qa i)) (.ref (la i)) ((List.range (pcs i (tp i)).size).all fun _=>true):=RcAt.lists (s:=s) (A:=A) (items:=pcs i (tp i)) (items2:=litA t i) (e:=fun _=>true) ⟨_,hp.get _ hm,rfl,_,rfl⟩ ⟨_,hp.get _ hk,rfl,_,rfl⟩ (by
   have : i = 0 ∨ i = 1 ∨ i = 2 ∨ i = 3:=by omega
   rcases this with rfl | rfl | rfl | rfl <;> rfl) hu (fun j x y=>lit_eq _ _ _ _ i hi j x y)
  rw [show ((List.range (pcs i (tp i)).size).all fun _=>true) = true by simp] at z
  exact EqAt.of_refs (fun e=>hne (hp.inj _ hm _ hk e)) z
 refine any_of_meets PySem.F.slot_list_ne ⟨_,ga,rfl⟩ PySem.F.entry_list_ne (PySem.F.args_list_ne_2 _ _) (list_neAt a b (tlA qa) (tlA la) ea 0 none none #[] #[] rfl (fun _=>true)) ⟨ga,gb,fun j x y=>?_,?_⟩
 ·have hu : ∀ (A : Around),A.units ≤ U + 400 → A.units < cLine:=fun A h=>by
   show A.units < 9900
   omega
  match j,x,y with
  | 0,_,_=>exact pair _ 0 q0 l0 (hu _ (by show U + 300 + _ ≤ _;simp)) (by decide) h0 m0 k0
  | 1,_,_=>exact pair _ 1 q1 l1 (hu _ (by show U + 300 + _ ≤ _;simp)) (by decide) h1 m1 k1
  | 2,_,_=>exact pair _ 2 q2 l2 (hu _ (by show U + 300 + _ ≤ _;simp)) (by decide) h2 m2 k2
  | 3,_,_=>exact pair _ 3 q3 l3 (hu _ (by show U + 300 + _ ≤ _;simp)) (by decide) h3 m3 k3
 ·refine ⟨default,?_,post_same rfl rfl rfl,trivial⟩
  simp [nestD]
end
section
open PySem.Builtin PySem.Builtin.Str
noncomputable def patsL : List String:=["a*","*b","??","[!a]*"]
theorem ws_pats {ys : Array Value} (h : Ws patsL ys) : ∃ t0 t1 t2 t3,ys = pats t0 t1 t2 t3:=by
 obtain ⟨t0,e0⟩:=h.2 0 _ rfl
 obtain ⟨t1,e1⟩:=h.2 1 _ rfl
 obtain ⟨t2,e2⟩:=h.2 2 _ rfl
 obtain ⟨t3,e3⟩:=h.2 3 _ rfl
 refine ⟨t0,t1,t2,t3,Array.ext_getElem? fun i=>?_⟩
 match i with
 | 0=>exact e0
 | 1=>exact e1
 | 2=>exact e2
 | 3=>exact e3
 | i + 4=>
   have : ys.size = 4:=h.1
   rw [Array.getElem?_eq_none (by omega),Array.getElem?_eq_none (by simp [pats])]
theorem pats_ws (t0 t1 t2 t3 : Nat) : Ws patsL (pats t0 t1 t2 t3):=by
 refine ⟨rfl,fun i z h=>?_⟩
 match i,h with
 | 0,h=>cases h;exact ⟨t0,rfl⟩
 | 1,h=>cases h;exact ⟨t1,rfl⟩
 | 2,h=>cases h;exact ⟨t2,rfl⟩
 | 3,h=>cases h;exact ⟨t3,rfl⟩
noncomputable def slicePD (nl nsl : Nat) (l sl : Addr) (xs : Array Value) (ex : Nat) (m tm : Nat) : OrcD:=
 ⟨fun _=>.call (.builtin "list.__getitem__") ⟨[.ref l,.ref sl],[]⟩,fun π=>[(nl,l,listO xs ex),(nsl,sl,sliceO (.int (m : Nat) tm) .none .none)],fun _ u=>.ok (.ret (.ref (u.a 0))),fun _ _=>[],fun _ u=>[(u.a 0,listO (pats (u.a 1) (u.a 2) (u.a 3) (u.a 4)) 0)],fun _ u=>some (u.n,u.t),fun _ _=>True,fun _=>none,0⟩
theorem slicePD_ok {w : World} {D U : Nat} {π : Nat → Sup} {nl nsl : Nat} {l sl : Addr} {xs : Array Value} {ex m tm : Nat} (hw : Ws patsL (slicePick xs (some (m : Nat)) none none)) (hsz : xs.size ≤ sizeLine) : OrcAt w D U π (slicePD nl nsl l sl xs ex m tm):=by
 obtain ⟨t0,t1,t2,t3,e⟩:=ws_pats hw
 have z:=sliceD_ok (w:=w) (D:=D) (U:=U) (π:=π) (nl:=nl) (nsl:=nsl) (l:=l) (sl:=sl) (xs:=xs) (ex:=ex) (vl:=fun _=>.int (m : Nat) tm) (vu:=fun _=>.none) (vs:=fun _=>.none) (lo:=some (m : Nat)) (hi:=none) (st:=none) (.int _ _) .none .none (by simp) hsz
 unfold OrcAt at z ⊢
 intro Γ p s he hc F hfs ho hz hA
 obtain ⟨r',s',hr,u,er,hp,hF⟩:=z Γ p s he hc F hfs ho hz hA
 refine ⟨r',s',hr,⟨u.n,u.t,fun i=>match i with | 0=>u.a 0 | 1=>t0 | 2=>t1 | 3=>t2 | _=>t3,u.v,u.x,u.e,u.s⟩,er,⟨hp.gens,hp.drawn,hp.os,hp.size,hp.keep,hp.upd,fun x hx=>?_,by simp [OrcD.at,slicePD],hp.sz⟩,trivial⟩
 rcases List.mem_singleton.mp (show x ∈ [_] from hx) with rfl
 have y:=hp.out (u.a 0,listO (slicePick xs (some (m : Nat)) none none) 0) (.head _)
 rw [e] at y
 exact y
noncomputable def tail8 (t : Nat) : Array Value:=#[.int 1 t,.int 3 (t + 1),.int 5 (t + 2),.int 2 (t + 3),.int 0 (t + 4),.int 1 (t + 5),.int 4 (t + 6),.int 2 (t + 7)]
noncomputable def marksX (t : Nat) : Nat → Array Value
 | 0=>#[sv "a" t,sv "ab" (t + 1)]
 | 1=>#[sv "ab" (t + 2),sv "b" (t + 3),sv "it's b" (t + 4),sv "bb" (t + 5)]
 | 2=>#[sv "ab" (t + 6),sv "bb" (t + 7)]
 | _=>#[sv "b" (t + 8),sv "it's b" (t + 9),sv "bb" (t + 10)]
noncomputable def patsT (t : Nat) : Array Value:=pats (t + 1) (t + 2) (t + 3) (t + 4)
noncomputable def lawM (n t : Nat) (sc : Addr) (π : Nat → Sup) : LawM where
 z:=(π 16).n + 9
 zt:=(π 16).n + 7
 i1:=(π 16).n + 5
 i2:=(π 16).n + 6
 tu:=(π 16).n + 8
 tl:=(π 10).n + 1
 mks:=(π 16).n + 4
 qa:=fun i=>(π 11).a i
 na:=fun i=>(π 16).n + i
 wl:=(π 1).n + 1
 rl:=(π 6).a 0
 cp:=n + 2
 cn:=n + 3
 ct:=n + 1
 L:=n
 tp:=fun i=>(π 11).a (4 + i)
 nx:=marksX (π 16).t
 wx:=(π 2).x 0
 ew:=(π 2).a 0
 rx:=(π 6).x 0
 er:=(π 6).a 1
 ts:=t
 tw:=(π 2).t
 tq:=(π 2).t + 5
 tr:=(π 6).t
 tm:=(π 16).t + 11
 sc:=sc
 pl:=(π 2).n
noncomputable def mFor : Nat → Nat:=fun i=>[52,50,48,49,51,23,47,25,26,27,28,43,44,45,46,11,18,4,5,2].getD i 0
noncomputable def evL (n : Addr) : Env:=envLaw n (n + 1) (n + 2) (n + 3)
noncomputable def sx7 (sx : Array Value) : Array Value:=slicePick sx none (some 7) none
noncomputable def hLw (P : Params) (n t : Nat) (sc : Addr) (π : Nat → Sup) (sl : Array (Option Value)) : FrM:=⟨n,esF P (lawM n t sc π) ((π 18).a 0) ((π 18).a 1) ((π 18).a 2) ((π 18).a 3),7,sl⟩
noncomputable def says (t : Nat) : Array Value:=#[sv "no median for empty data" t,sv "no mode for empty data" (t + 1),sv "no median for empty data" (t + 2)]
noncomputable def dsLaw (P : Params) (n t : Nat) (sc : Addr) (sx : Array Value) (ex m : Nat) (Gw Gq : Array Value → Prop) (qs rs : List String) : List OrcD:=
 [sliceD 0 6 sc (n + 4) sx ex (fun _=>.none) (fun _=>.int 7 (t + 1)) (fun _=>.none) none (some 7) none,
  dep 0 fun π=>addD 7 8 ((π 0).a 0) (π 0).n (sx7 sx) (tail8 (π 0).t) 0 0,
  dep 0 fun π=>compD (.compStart e1 0 (.ref (π 1).n) (.ref ((π 1).n + 1)) (env1 ((π 1).n + 2) n)) 10 11 12 (π 1).n ((π 1).n + 1) ((π 1).n + 2) (iterO ((π 1).a 0) 0) (iterEnd (sx7 sx ++ tail8 (π 0).t).size) #[] 0 #[] 0 [(9,(π 1).a 0,listO (sx7 sx ++ tail8 (π 0).t) 0)] (es1k P "x") Gw,
  dep 0 fun π=>addD 11 13 ((π 1).n + 1) (π 2).n ((π 2).x 0) (patsT (π 2).t) ((π 2).a 0) 0,
  dep 0 fun π=>compD (.compStart e2 0 (.ref (π 3).n) (.ref ((π 3).n + 1)) (env2 ((π 3).n + 2) n)) 15 16 17 (π 3).n ((π 3).n + 1) ((π 3).n + 2) (iterO ((π 3).a 0) 0) (iterEnd ((π 2).x 0 ++ patsT (π 2).t).size) #[] 0 #[] 0 [(14,(π 3).a 0,listO ((π 2).x 0 ++ patsT (π 2).t) 0)] (es1k P "word") Gq,
  dep 0 fun π=>joinD 16 ((π 3).n + 1) ((π 4).x 0) ((π 4).a 0) (fun _=>(π 2).t + 6) qs,
  dep 0 fun π=>splitD 2 (txt qs) (fun _=>(π 5).a 0) n (fun _=>#[E P "script" t (.ref sc),E P "words" (π 2).t (.ref ((π 1).n + 1)),E P "patterns" ((π 2).t + 5) (.ref (π 2).n)]) (fun _=>3) #[] (evL n) rs,
  dep 0 fun π=>addD 11 13 ((π 1).n + 1) (π 2).n ((π 2).x 0) (patsT (π 2).t) ((π 2).a 0) 0,
  dep 0 fun π=>cmpD "list.__ne__" 18 19 ((π 6).a 0) ((π 7).a 0) ((π 6).x 0) ((π 2).x 0 ++ patsT (π 2).t) ((π 6).a 1) 0 false,
  dep 0 fun π=>lenM 11 ((π 1).n + 1) ((π 2).x 0) ((π 2).a 0) m,
  dep 0 fun π=>slicePD 18 20 ((π 6).a 0) (π 9).n ((π 6).x 0) ((π 6).a 1) m ((π 9).a 0),
  dep 0 fun π=>toldD P 22 23 24 21 1 ((π 10).a 0) (π 10).n ((π 10).n + 1) ((π 10).n + 2) n 0 ((π 10).a 1) ((π 10).a 2) ((π 10).a 3) ((π 10).a 4),
  dep 0 fun π=>nestD 23 33 25 26 27 28 29 30 31 32 ((π 10).n + 1) ((π 11).n + 4) (fun i=>(π 11).a i) (fun i=>(π 11).n + i) (fun i=>(π 11).a (4 + i)) (π 11).t 4,
  dep 0 fun π=>lenM 11 ((π 1).n + 1) ((π 2).x 0) ((π 2).a 0) m,
  dep 0 fun π=>slicePD 18 34 ((π 6).a 0) (π 13).n ((π 6).x 0) ((π 6).a 1) m ((π 13).a 0),
  dep 0 fun π=>trD P 36 37 38 35 1 ((π 14).a 0) (π 14).n ((π 14).n + 1) ((π 14).n + 2) n ((π 11).a 9) 0 ((π 14).a 1) ((π 14).a 2) ((π 14).a 3) ((π 14).a 4),
  dep 0 fun π=>txD P 40 41 42 39 (π 15).n ((π 15).n + 1) ((π 15).n + 2) ((π 15).n + 3) n 0 (π 15).t ((π 15).t + 1) ((π 15).t + 2) ((π 15).t + 3),
  dep 0 fun π=>cmpD "list.__ne__" 37 41 ((π 14).n + 1) ((π 15).n + 2) ((π 15).x 0) ((π 16).x 0) ((π 15).a 0) ((π 16).a 0) false,
  dep 0 fun π=>forD P (lawM n t sc π) lawB mFor ((π 6).s 0),
  dep 0 fun π=>rcD P lawB (evL n) 54 55 56 53 2 (π 18).n ((π 18).n + 1) ((π 18).n + 2) ((π 18).n + 3) n 0 (hLw P n t sc π ((π 18).s 0)),
  dep 0 fun π=>cmpD "list.__ne__" 55 57 ((π 18).n + 2) (π 19).n ((π 19).x 0) (says (π 19).t) 3 0 false,
  dep 0 fun π=>lenM 11 ((π 1).n + 1) ((π 2).x 0) ((π 2).a 0) m,
  dep 0 fun π=>sliceD 18 58 ((π 6).a 0) (π 21).n ((π 6).x 0) ((π 6).a 1) (fun _=>.none) (fun π=>.int (m : Nat) ((π 21).a 0)) (fun _=>.none) none (some (m : Nat)) none,
  dep 0 fun π=>zD P lawB (evL n) 60 61 62 59 3 23 25 26 27 28 63 (π 22).n ((π 22).n + 1) ((π 22).n + 2) n ((π 22).a 0) (n + 1) ((π 10).n + 1) ((π 22).n + 3) (fun i=>(π 11).a i) (fun i=>(π 11).a (4 + i)) (upA ((π 6).x 0) m) 0,
  dep 0 fun π=>mul0D 65 2 ((π 23).n + 1) 0 (hLw P n t sc π ((π 19).s 0)) (evL n)]
noncomputable def lLaw : List St:=[G 22 0x1444616600,.orc,G 16 0x1bcb,.orc,G 4 0x1dd,cm,G 9 0x1ed,.orc,G 42 0x10ff11f0ff6606610f10f10f66,.orc,G 4 0x112f12f,cm,G 8 0x113f12f,.orc,G 6 0x115f15f15f,.orc,G 3 0x10,.orc,G 20 0x10ff11f0ff66666,.orc,G 6 0x116f17f16f,cm,.orc,G 10 0x16006,.orc,G 6 0x116f16f16f,.orc,G 4 0x119f19f,cm,G 8 0x11af19f,.orc,G 33 0x11bf25f1bf7771cf1cf1cf,cm,.orc,G 9 0x16006,.orc,G 6 0x116f16f16f,.orc,G 4 0x127f27f,cm,G 8 0x128f27f,.orc,G 14 0x12bf2bf2af2af2af,cm,G 8 0x12cf2bf,.orc,G 10 0x129f2df29f2ef2ef2ef,cm,.orc,G 45 0x11bf1bf670066,cm,G 8 0x133f33f34f1bf,cm,G 22 0x138f38f38f38f38f38f35f33f,cm,G 5 0x138f38f,.orc,G 12 0x139f39f000,cm,G 8 0x13af39f,.orc,G 15 0x13bf3df3bf3cf3cf3cf,cm,.orc,G 10 0x16006,.orc,G 6 0x116f16f16f,.orc,G 4 0x13ff3ff,cm,G 9 0x140f3ff,.orc,G 8 0x141f44f41f,cm,G 20 0x10044f41f44f41f44f41f44f41f,.orc,G 8 0x146f47f46f,cm,G 13 0x147f46f47f46f47f46f47f46f]
theorem runsLaw (P : Params) (p1 : Pos) (n t : Nat) (σ : Nat → Sup) (p : Pos) (sc : Addr) (sx : Array Value) (ex m : Nat) (Gw Gq : Array Value → Prop) (qs rs : List String) : Runs [
 (runF P [(.builtin "claim.caller" {},p1)] (some (.codes [.builtin "claim.caller" {}])) lLaw [(sc,listO sx ex),(353,co0)] (n + 1106) t (osAt σ 0 (dsLaw P (n + 1106) t sc sx ex m Gw Gq qs rs)) (.call (.ref 1105) ⟨[.ref sc],[]⟩) p,[0,1],
  (dn (.bool true),[],[some (sc,listO sx ex),some (353,co1 ((σ 11).a 9))],(σ 24).n + 1,(σ 24).t))]:=by unfold Runs;kernel_rfl
noncomputable def tailI : List Int:=[1,3,5,2,0,1,4,2]
noncomputable def intsOf (sc : List Int) : List Int:=sc.take 7 ++ tailI
noncomputable def wordsOf (sc : List Int) : List String:=(intsOf sc).map wd
noncomputable def initOf (sc : List Int) : List String:=wordsOf sc ++ ["a*","*b","??"]
noncomputable def readOf (sc : List Int) : List String:=initOf sc ++ ["[!a]*"]
theorem read_is (sc : List Int) : readOf sc = wordsOf sc ++ patsL:=by
 unfold readOf initOf
 rw [List.append_assoc]
 rfl
theorem wd_six (a : Int) : wd a ∈ six:=by
 unfold wd
 have h1:=Int.emod_nonneg a (show (6 : Int) ≠ 0 by decide)
 have h2:=Int.emod_lt_of_pos a (show (0 : Int) < 6 by decide)
 have : (a % 6).toNat < 6:=by omega
 generalize (a % 6).toNat = k at this
 clear h1 h2
 revert this
 revert k
 decide
theorem words_six (sc : List Int) : ∀ x ∈ wordsOf sc,x ∈ six:=fun x hx=>by
 obtain ⟨a,_,rfl⟩:=List.mem_map.mp hx
 exact wd_six a
theorem words_all (sc : List Int) : ∀ x ∈ six,x ∈ wordsOf sc:=fun x hx=>by
 have h : ∀ x ∈ six,x ∈ tailI.map wd:=by decide +kernel
 unfold wordsOf intsOf
 rw [List.map_append,List.mem_append]
 exact .inr (h x hx)
theorem words_len (sc : List Int) : 8 ≤ (wordsOf sc).length ∧ (wordsOf sc).length ≤ 15:=by
 unfold wordsOf intsOf tailI
 simp
 omega
theorem Is.append {a b : List Int} {xs ys : Array Value} (h1 : Is a xs) (h2 : Is b ys) : Is (a ++ b) (xs ++ ys):=by
 refine ⟨by simp [h1.1,h2.1],fun i x hx=>?_⟩
 rcases Nat.lt_or_ge i a.length with h | h
 ·rw [List.getElem?_append_left h] at hx
  obtain ⟨t,e⟩:=h1.2 i x hx
  exact ⟨t,by rw [Array.getElem?_append_left (by rw [h1.1];exact h)];exact e⟩
 ·rw [List.getElem?_append_right h] at hx
  obtain ⟨t,e⟩:=h2.2 _ x hx
  exact ⟨t,by rw [Array.getElem?_append_right (by rw [h1.1];exact h),h1.1];exact e⟩
theorem Ws.append {a b : List String} {xs ys : Array Value} (h1 : Ws a xs) (h2 : Ws b ys) : Ws (a ++ b) (xs ++ ys):=by
 refine ⟨by simp [h1.1,h2.1],fun i x hx=>?_⟩
 rcases Nat.lt_or_ge i a.length with h | h
 ·rw [List.getElem?_append_left h] at hx
  obtain ⟨t,e⟩:=h1.2 i x hx
  exact ⟨t,by rw [Array.getElem?_append_left (by rw [h1.1];exact h)];exact e⟩
 ·rw [List.getElem?_append_right h] at hx
  obtain ⟨t,e⟩:=h2.2 _ x hx
  exact ⟨t,by rw [Array.getElem?_append_right (by rw [h1.1];exact h),h1.1];exact e⟩
theorem Is.take {l : List Int} {xs : Array Value} (h : Is l xs) (k : Nat) : Is (l.take k) (slicePick xs none (some (k : Nat)) none):=by
 rw [slicePick_upto']
 refine ⟨by simp [h.1],fun i x hx=>?_⟩
 rw [List.getElem?_take] at hx
 split at hx
 ·rename_i hik
  obtain ⟨t,e⟩:=h.2 i x hx
  refine ⟨t,?_⟩
  rw [List.getElem?_toArray,List.getElem?_take,if_pos hik,Array.getElem?_toList]
  exact e
 ·cases hx
theorem tail_is (t : Nat) : Is tailI (tail8 t):=by
 refine ⟨rfl,fun i x h=>?_⟩
 match i,h with
 | 0,h=>cases h;exact ⟨_,rfl⟩
 | 1,h=>cases h;exact ⟨_,rfl⟩
 | 2,h=>cases h;exact ⟨_,rfl⟩
 | 3,h=>cases h;exact ⟨_,rfl⟩
 | 4,h=>cases h;exact ⟨_,rfl⟩
 | 5,h=>cases h;exact ⟨_,rfl⟩
 | 6,h=>cases h;exact ⟨_,rfl⟩
 | 7,h=>cases h;exact ⟨_,rfl⟩
theorem ints_is {sc : List Int} {sx : Array Value} (h : Is sc sx) (t : Nat) : Is (intsOf sc) (sx7 sx ++ tail8 t):=(h.take 7).append (tail_is t)
theorem says_ws (t : Nat) : Ws saysW (says t):=by
 refine ⟨rfl,fun i x h=>?_⟩
 match i,h with
 | 0,h=>cases h;exact ⟨_,rfl⟩
 | 1,h=>cases h;exact ⟨_,rfl⟩
 | 2,h=>cases h;exact ⟨_,rfl⟩
theorem marks_ws (t : Nat) : ∀ k,k < 4 → Ws (namesL k) (marksX t k)
 | 0,_=>⟨rfl,fun i x h=>by
   match i,h with
   | 0,h=>cases h;exact ⟨_,rfl⟩
   | 1,h=>cases h;exact ⟨_,rfl⟩⟩
 | 1,_=>⟨rfl,fun i x h=>by
   match i,h with
   | 0,h=>cases h;exact ⟨_,rfl⟩
   | 1,h=>cases h;exact ⟨_,rfl⟩
   | 2,h=>cases h;exact ⟨_,rfl⟩
   | 3,h=>cases h;exact ⟨_,rfl⟩⟩
 | 2,_=>⟨rfl,fun i x h=>by
   match i,h with
   | 0,h=>cases h;exact ⟨_,rfl⟩
   | 1,h=>cases h;exact ⟨_,rfl⟩⟩
 | 3,_=>⟨rfl,fun i x h=>by
   match i,h with
   | 0,h=>cases h;exact ⟨_,rfl⟩
   | 1,h=>cases h;exact ⟨_,rfl⟩
   | 2,h=>cases h;exact ⟨_,rfl⟩⟩
theorem chs_len : ∀ (l : List String),(∀ x ∈ l,(cpsOf x).length ≤ 20) → (chs l).length ≤ 21 * l.length
 | [],_=>Nat.le_refl _
 | [x],h=>by
   have:=h x (.head _)
   show (cpsOf x ++ []).length ≤ 21
   simp
   omega
 | x :: y :: l,h=>by
   have h1:=h x (.head _)
   have h2:=chs_len (y :: l) fun z hz=>h z (.tail _ hz)
   rw [chs_two]
   simp only [List.length_append,List.length_cons] at h2 ⊢
   omega
theorem fold_len : ∀ (l : List String) (a : Nat),(∀ x ∈ l,(q x).length ≤ 20) → (l.map q).foldl (fun n s=>n + s.length + (q " ").length) a ≤ a + 21 * l.length
 | [],a,_=>Nat.le_refl _
 | x :: l,a,h=>by
   have h1:=h x (.head _)
   have h2:=fold_len l (a + (q x).length + (q " ").length) fun z hz=>h z (.tail _ hz)
   have h3 : (q " ").length = 1:=by decide +kernel
   rw [List.map_cons,List.foldl_cons]
   simp only [List.length_cons]
   omega
theorem qt_len : ∀ x ∈ tenW,(q (qt x)).length ≤ 20 ∧ (cpsOf (qt x)).length ≤ 20:=by decide +kernel
theorem init_nine (sc : List Int) : ∀ x ∈ initOf sc,x ∈ nine:=fun x hx=>by
 have h : ∀ x ∈ six,x ∈ nine:=by decide
 rcases List.mem_append.mp hx with h' | h'
 ·exact h x (words_six sc x h')
 ·have : ∀ x ∈ ["a*","*b","??"],x ∈ nine:=by decide
  exact this x h'
theorem read_ten (sc : List Int) : ∀ x ∈ readOf sc,x ∈ tenW:=fun x hx=>by
 have h : ∀ x ∈ nine,x ∈ tenW:=by decide
 rcases List.mem_append.mp hx with h' | h'
 ·exact h x (init_nine sc x h')
 ·have : ∀ x ∈ ["[!a]*"],x ∈ tenW:=by decide
  exact this x h'
theorem read_len (sc : List Int) : (readOf sc).length = (wordsOf sc).length + 4:=by
 rw [read_is];simp [patsL]
theorem txt_len (sc : List Int) : (txt ((readOf sc).map qt)).length ≤ 400:=by
 have h0 : 0 < (readOf sc).length:=by rw [read_len];omega
 have e : (txt ((readOf sc).map qt)).length = (txt ((readOf sc).map qt)).cps.toList.length:=by simp [Str.length]
 rw [e]
 obtain ⟨x,l,hl⟩ : ∃ x l,(readOf sc).map qt = x :: l:=by
  cases h : (readOf sc).map qt with
  | nil=>have:=congrArg List.length h;rw [List.length_map,List.length_nil] at this;omega
  | cons x l=>exact ⟨x,l,rfl⟩
 rw [hl,txt_chs,← hl]
 have:=chs_len ((readOf sc).map qt) fun x hx=>by
  obtain ⟨y,hy,rfl⟩:=List.mem_map.mp hx
  exact (qt_len y (read_ten sc y hy)).2
 have h15:=(words_len sc).2
 rw [List.length_map,read_len] at this
 omega
theorem fold_ok (sc : List Int) : tooLong ((((readOf sc).map qt).map q).toArray.foldl (· + ·.length + (q " ").length) 0) = false:=by
 have:=fold_len ((readOf sc).map qt) 0 fun x hx=>by
  obtain ⟨y,hy,rfl⟩:=List.mem_map.mp hx
  exact (qt_len y (read_ten sc y hy)).1
 have h15:=(words_len sc).2
 rw [List.length_map,read_len] at this
 unfold tooLong
 have big : 1000 ≤ sizeLine:=by decide +kernel
 rw [List.foldl_toArray]
 exact decide_eq_false (by omega)
theorem compD_mono {w : World} {D U : Nat} {π : Nat → Sup} {c : Code} {ni na nL : Nat} {it acc L : Addr} {itO itE : Obj} {ys0 : Array Value} {ea0 : Nat} {es0 : Array DictEntry} {ed0 : Nat} {extra : List (Nat × Nat × Obj)} {es1 : Sup → Array DictEntry} {G G' : Array Value → Prop} (h : OrcAt w D U π (compD c ni na nL it acc L itO itE ys0 ea0 es0 ed0 extra es1 G)) (hG : ∀ ys,G ys → G' ys) : OrcAt w D U π (compD c ni na nL it acc L itO itE ys0 ea0 es0 ed0 extra es1 G'):=by
 unfold OrcAt at h ⊢
 intro Γ p s he hc F hfs ho hz hA
 obtain ⟨r',s',hr,u,e,hp,hF⟩:=h Γ p s he hc F hfs ho hz hA
 exact ⟨r',s',hr,u,e,⟨hp.gens,hp.drawn,hp.os,hp.size,hp.keep,hp.upd,hp.out,hp.nod,hp.sz⟩,hG _ hF⟩
noncomputable def GwL (sc : List Int) : Array Value → Prop:=fun ys=>Ws (wordsOf sc) ys
noncomputable def GqL (sc : List Int) : Array Value → Prop:=fun ys=>Ws ((readOf sc).map qt) ys
theorem ev_frm {n : Addr} {es : Array DictEntry} {ep : Nat} {sl : Array (Option Value)} : FrmOK (evL n) ⟨n,es,ep,sl⟩:=⟨rfl,kind_at (by kernel_rfl)⟩
theorem dsLaw_ok {w : World} {D U : Nat} (hD : D ≤ 315) (hU : U ≤ 6900) {n t : Nat} {sc : Addr} {script : List Int} {sx : Array Value} {ex : Nat} (hs : Is script sx) (h63 : script.length ≤ 63) :
 ∀ j d,(dsLaw w.params n t sc sx ex (wordsOf script).length (GwL script) (GqL script) ((readOf script).map qt) (readOf script))[j]? = some d → OrcOK w D U (dsLaw w.params n t sc sx ex (wordsOf script).length (GwL script) (GqL script) ((readOf script).map qt) (readOf script)) j d:=by
 have big : 1000 ≤ sizeLine:=by decide +kernel
 obtain ⟨m8,m15⟩:=words_len script
 have hx0 : sx.size = script.length:=hs.1
 have hi:=fun t=>ints_is hs t
 have hil : (intsOf script).length = (wordsOf script).length:=by unfold wordsOf;rw [List.length_map]
 have hrl:=read_len script
 have P4 : ∀ t,(patsT t).size = 4:=fun t=>rfl
 have htx:=txt_len script
 refine orcs_of fun j d hd' π hF'=>?_
 obtain ⟨J,M,hJ,hM,hd,hF⟩:=genJ hd' hF'
 clear hd' hF'
 have f2 : 2 < J → Ws (wordsOf script) ((π 2).x 0):=fun h=>hF 2 h _ rfl
 have f4 : 4 < J → Ws ((readOf script).map qt) ((π 4).x 0):=fun h=>hF 4 h _ rfl
 have f6 : 6 < J → Ws (readOf script) ((π 6).x 0):=fun h=>(hF 6 h _ rfl).1
 have w6 : 6 < J → ((π 6).x 0).size = (wordsOf script).length + 4:=fun h=>by rw [(f6 h).1,hrl]
 have w2 : 2 < J → ((π 2).x 0).size = (wordsOf script).length:=fun h=>(f2 h).1
 have hadd : 2 < J → Ws (readOf script) ((π 2).x 0 ++ patsT (π 2).t):=fun h=>by rw [read_is];exact (f2 h).append (pats_ws _ _ _ _)
 have down : 6 < J → Ws patsL (slicePick ((π 6).x 0) (some ((wordsOf script).length : Nat)) none none):=fun h=>by
  have z:=(f6 h).downfrom (wordsOf script).length
  rw [read_is,List.drop_left] at z
  exact z
 have up : 6 < J → Ws (wordsOf script) (upA ((π 6).x 0) (wordsOf script).length):=fun h=>by
  have z:=(f6 h).upto (wordsOf script).length
  rw [read_is,List.take_left] at z
  exact z
 match j,hd with
 | 0,hd=>subst hM;cases hd;exact sliceD_ok .none (.int _ _) .none (by simp) (by omega)
 | 1,hd=>
   subst hM;cases hd
   exact dep_at (addD_ok (by
    have : (sx7 sx).size ≤ sx.size:=slicePick_size_le _ _ _ _
    show _ + 8 ≤ _
    omega))
 | 2,hd=>
   subst hM;cases hd
   have e:=(hi (π 0).t).1
   refine dep_at (compD_mono (comp1_ok (by omega) (by omega) (by omega) (hi (π 0).t) (by omega) (by decide)) fun ys h=>?_)
   rw [e,List.take_of_length_le (Nat.le_of_eq (List.length_map _))] at h
   exact h
 | 3,hd=>subst hM;cases hd;exact dep_at (addD_ok (by rw [w2 (by omega),P4];omega))
 | 4,hd=>
   subst hM;cases hd
   have e:=(hadd (by omega)).1
   refine dep_at (compD_mono (comp2_ok (by omega) (by omega) (by omega) (hadd (by omega)) (read_ten script) (by omega) (by decide)) fun ys h=>?_)
   show Ws ((readOf script).map qt) ys
   rw [e,List.take_of_length_le (Nat.le_of_eq (List.length_map _))] at h
   exact h
 | 5,hd=>subst hM;cases hd;exact dep_at (joinD_ok (f4 (by omega)) (by rw [List.length_map];omega) (fold_ok script) (by omega))
 | 6,hd=>
   subst hM;cases hd
   have hl : (initOf script).length ≤ 18:=by unfold initOf;simp;omega
   exact dep_at (split_ok (by omega) (by omega) (init_nine script) hl (by
    have : (txt ((initOf script ++ ["[!a]*"]).map qt)).length ≤ 400:=htx
    omega) rfl (kind_at (by kernel_rfl))).at
 | 7,hd=>subst hM;cases hd;exact dep_at (addD_ok (by rw [w2 (by omega),P4];omega))
 | 8,hd=>subst hM;cases hd;exact dep_at (neD_ok (f6 (by omega)) (hadd (by omega)))
 | 9,hd=>subst hM;cases hd;exact dep_at (lenM_ok (w2 (by omega)) (by omega))
 | 10,hd=>subst hM;cases hd;exact dep_at (slicePD_ok (down (by omega)) (by rw [w6 (by omega)];omega))
 | 11,hd=>subst hM;cases hd;exact dep_at (told_ok (by omega) (by omega) (by decide))
 | 12,hd=>subst hM;cases hd;exact dep_at (nest_ok (by omega) (by decide) (by decide) (by decide) (by decide))
 | 13,hd=>subst hM;cases hd;exact dep_at (lenM_ok (w2 (by omega)) (by omega))
 | 14,hd=>subst hM;cases hd;exact dep_at (slicePD_ok (down (by omega)) (by rw [w6 (by omega)];omega))
 | 15,hd=>subst hM;cases hd;exact dep_at (trD_ok (by omega) (by omega) (by decide))
 | 16,hd=>subst hM;cases hd;exact dep_at (txD_ok (by omega) (by omega) (by decide))
 | 17,hd=>subst hM;cases hd;exact dep_at (neD_ok (l:=trW) (hF 15 (by omega) _ rfl) (hF 16 (by omega) _ rfl))
 | 18,hd=>
   subst hM;cases hd
   exact dep_at (for_ok (by omega) (by omega) (ws:=wordsOf script) (M:=lawM n t sc π) ⟨f2 (by omega),up (by omega),by show ((π 6).x 0).size ≤ _;rw [w6 (by omega)];omega,words_six script,words_all script,by omega,marks_ws _⟩ (by decide))
 | 19,hd=>subst hM;cases hd;exact dep_at (rc_ok (by omega) (by omega) ev_frm (by decide))
 | 20,hd=>subst hM;cases hd;exact dep_at (neD_ok (l:=saysW) (hF 19 (by omega) _ rfl) (says_ws _))
 | 21,hd=>subst hM;cases hd;exact dep_at (lenM_ok (w2 (by omega)) (by omega))
 | 22,hd=>subst hM;cases hd;exact dep_at (sliceD_ok .none (.int _ _) .none (by simp) (by rw [w6 (by omega)];omega))
 | 23,hd=>subst hM;cases hd;exact dep_at (z_ok (by omega) (by omega) (words_six script) (up (by omega)) (by rw [(up (by omega)).1];omega) (by decide))
 | 24,hd=>subst hM;cases hd;exact dep_at (mul0_ok (by omega) (by omega) ev_frm (by decide))
 | j + 25,hd=>subst hM;exact nomatch (show none = some d from hd)
noncomputable def lawD (sc : Addr) (sx : Array Value) (ex : Nat) : OrcD:=
 fnF (some (.codes [.builtin "claim.caller" {}])) (fun _=>.call (.ref 1105) ⟨[.ref sc],[]⟩) (fun _=>[(0,sc,listO sx ex),(1,353,co0)]) (fun _ u=>[listO sx ex,co1 (u.a 0)]) (fun _ _=>.ok (.ret (.bool true))) (fun _ _=>[]) (fun _ _=>True)
theorem law_ok {w : World} {D U : Nat} {π : Nat → Sup} (hD : D ≤ 240) (hU : U ≤ 6600) {sc : Addr} {script : List Int} {sx : Array Value} {ex : Nat} (hs : Is script sx) (h63 : script.length ≤ 63) : OrcAny w D U π (lawD sc sx ex):=by
 unfold lawD
 refine fnG_any (fs:=some (.codes [.builtin "claim.caller" {}])) (need:=fun _=>[(0,sc,listO sx ex),(1,353,co0)]) (by omega) (by omega) rfl (nd rfl) (le4 rfl) fun B n t p hN hB=>?_
 have hB:=hB _ rfl
 obtain ⟨p1,rfl⟩ : ∃ p1,B = [(.builtin "claim.caller" {},p1)]:=by
  match B,hB with
  | [],h=>simp [Fs.holds] at h
  | [(x,p)],h=>
    simp only [Fs.holds,List.map_cons,List.map_nil,List.cons.injEq,and_true] at h
    subst h
    exact ⟨p,rfl⟩
  | _ :: _ :: _,h=>simp [Fs.holds] at h
 obtain ⟨b,rfl⟩ : ∃ b,n = b + 1106:=⟨n - 1106,by omega⟩
 exact ⟨_,lLaw,[],fun σ=>⟨(σ 24).n + 1,(σ 24).t,fun _=>(σ 11).a 9,fun _=>.none,fun _=>#[],fun _=>#[],fun _=>#[]⟩,dsLaw_ok (n:=b + 1106) (t:=t) (sc:=sc) (ex:=ex) (by omega) (by omega) hs h63,(fun _ h=>nomatch h),List.nodup_nil,fun σ=>⟨rfl,rfl,(runsLaw w.params p1 b t σ p sc sx ex (wordsOf script).length (GwL script) (GqL script) ((readOf script).map qt) (readOf script)).get (.head _)⟩,fun _ _=>trivial⟩
end
section
open PySem.Sem (wp finPost)
noncomputable abbrev Γ0 : Ctx:=⟨.builtin "claim.caller" {},none,none,[],none⟩
noncomputable abbrev cl0 : ClaimW:=rw0.row.toRowW.claim
noncomputable abbrev vs0 : Str:=Str.ofString "law"
theorem okO : (chainsOk vw && opensWell rw0.row.prog && (frees rw0.row.toRowW && rw0.row.toRowW.within.isEmpty)) = true:=by kernel_rfl
theorem head0 (hc : ∀ (w : World) (s₀ s₁ : Shared) (args : List WData) (vals : List Value) (as : List Addr),s₀.heap = H1 w.params → Laid [] w s₀ s₁ args vals as → cl0.pre args = true →
 ∀ p,wp (md w) Γ0 (PySem.call (.ref 1105) vals) (fun v _ s'=>GoodWG cl0 (classAt s₀.heap) (ExcName.means s₀.heap) args s₁ (.ok (.ret v)) s') (fun e _ s'=>GoodWG cl0 (classAt s₀.heap) (ExcName.means s₀.heap) args s₁ (.error e) s') p s₁)
 (hname : ∀ P,(H1 P).nsMap mainGlobals vs0 = some (.ref 1105)) : PySem.Challenge.rw_ik0086_01.Holds:=by
 have hch : chainsOk vw = true:=by
  have:=okO
  simp only [Bool.and_eq_true] at this
  exact this.1.1
 have ho1 : opensWell rw0.row.prog = true:=by
  have:=okO
  simp only [Bool.and_eq_true] at this
  exact this.1.2
 have hfr : frees rw0.row.toRowW = true:=by
  have:=okO
  simp only [Bool.and_eq_true] at this
  exact this.2.1
 obtain ⟨hsame,hu,ha,hap,hm⟩:=frees_parts hfr
 have hi:=ident_freeW hu ha hap
 have hwi : cl0.within = []:=rfl
 have hprom : rw0.row.toRowW.promised:=by w_witness2
 refine holds_law said fun ws=>⟨ws,hprom,⟨⟨⟨rfl,rfl,rfl,rfl,rfl,by decide +kernel⟩,ho1,rfl⟩,hprom.witness,fun w=>?_⟩⟩
 obtain ⟨hb1,hb2⟩:=left0.behind (XP:=fun _ _=>True) (fun _ _=>trivial) hch w
 refine ⟨hb1,fun s' hs'=>?_⟩
 refine Classical.byContradiction fun hG=>?_
 obtain ⟨s₀,hf,hg0,s,hT,hz,hgens,hg,G,y⟩:=hb2 s' hs'
 have hgens : s.gens = #[]:=Array.eq_empty_of_size_eq_zero (beq_iff_eq.mp hgens)
 have y : s.heap = H1 w.params:=y
 refine hG ⟨s₀,hf,hg0,s,hT,fun n hn=>?_,(fun x hx=>nomatch hx),(fun x hx=>nomatch hx),?_⟩
 ·have hn : rw0.row.pinned = true ∧ n = rw0.row.name:=by simpa using hn
  obtain rfl : n = vs0:=hn.2
  exact pinned_of_view (d:=((defOf vw (Str.ofString "law")).get (by kernel_rfl)).1) (kwd:=((defOf vw (Str.ofString "law")).get (by kernel_rfl)).2) hg G (by kernel_rfl) (by kernel_rfl) (by kernel_rfl)
 ·intro args hpre hlay ord hord
  refine Classical.byContradiction fun hG=>?_
  obtain ⟨⟨vs,s₁⟩,hlaid⟩:=Option.isSome_iff_exists.mp (layAllW_isSome (P:=w.params) (ord:=ord) G.has args rw0.row.args s (pre_splitW hpre).1)
  have keeps:=layAllW_keeps _ _ _ hlaid
  have hal:=layAllW_rest _ _ _ hlaid
  obtain ⟨as,hrd,hin,hold⟩:=reads_layAllW hord _ _ _ hlaid hlay s₁.heap (fun _ _ e=>e)
  have L : Laid [] w s s₁ args vs as:=⟨⟨ord,hord,hlaid⟩,hrd,hin,hold,keeps,hal.1.trans hgens,hal.2.2.1⟩
  have z:=hc w s s₁ args vs as y L hpre
  have G₁:=G.keeps (fun _ _ _ h _=>h) keeps
  let R : Result → Shared → Prop:=fun r s'=>cl0.Ends s args vs s₁ r s' ∧ s'.os = s.os
  have h0 : wp (md w) Γ0 (callStub vs0 vs).cur (finPost (md w) Γ0 fun r s'=>R r s' ∧ leftWithCleanup s'.gens = false) (fun e _ s'=>R (.error e) s' ∧ leftWithCleanup s'.gens = false) default s₁:=by
   show wp (md w) Γ0 (nsGet mainNs vs0 >>= fun x=>match x with
    | some f=>do ret (← call f vs)
    | none=>unsupported "claim.caller:no-such-global") _ _ _ _
   rw [Sem.wp_bind']
   have hns : wpAny (md w) callerA (nsGet mainNs vs0) (fun v s'=>v = some (.ref 1105) ∧ s' = s₁) (fun _ _=>False) s₁:=wpAny_nsGet G₁.T.g ⟨by rw [y];exact hname _,rfl⟩
   refine Sem.wp_mono _ _ _ (fun v p' s' h'=>?_) (fun _ _ _ h'=>h'.elim) _ _ (hns Γ0 default caller_in)
   obtain ⟨rfl,rfl⟩:=h'
   dsimp only
   rw [Sem.wp_bind']
   refine Sem.wp_mono _ _ _ (fun v p2 s2 g=>?_) (fun e p2 s2 g=>?_) _ _ (z p')
   ·have q:=g.laid hsame hwi hi L
    exact ⟨⟨q.1,q.2.1⟩,leftWithCleanup_false_of_bare q.2.2⟩
   ·have q:=g.laid hsame hwi hi L
    exact ⟨⟨q.1,q.2.1⟩,leftWithCleanup_false_of_bare q.2.2⟩
  obtain ⟨k,r,t1,t2,hsched,hrun,hfo,hcase,hos⟩:=wp_halts_full (M:=md w) (R:=R) (Shared.asleep_of_life hal.2.2.2 hz) h0
  obtain ⟨eh,_,_,eo,_⟩:=Shared.forget_eq hfo
  have hcase:=hcase.congr eh
  rw [← eo] at hos
  have hlife : t2.heap.life = s.heap.life:=(runN_life _ _ _ hrun).trans hal.2.2.2
  refine hG ⟨vs,s₁,hlaid,k,_,t2,hsched,?_,(fun _ i x hx=>by rw [hgens] at hx;simp at hx),(fun h=>nomatch h),by rw [hlife],Shared.rest_eq hos⟩
  rcases hcase with ⟨v,rfl,d1,d2,d3,d4,d5⟩ | ⟨e,ob,cls,rfl,d1,d2,d3,d4,d5⟩
  ·exact .inl ⟨v,rfl,d1,d2,d3,fun b o q _=>d4 b o q,d5⟩
  ·exact .inr ⟨e,ob,cls,rfl,d1,d2,d3,d4,fun b o q _=>d5 b o q⟩
theorem name_law (P : Params) : (H1 P).nsMap mainGlobals vs0 = some (.ref 1105):=by kernel_rfl
theorem tab353 (P : Params) : (tr7 P).get 353 = some co0:=by kernel_rfl
theorem H1_353 (P : Params) : (H1 P).get? 353 = some co0:=by
 show (absHeap (tr7 P) 1106 {}).get? 353 = some co0
 rw [abs_get (by decide) (tab353 P)]
 rfl
theorem code353 (P : Params) : isCodeTable (H1 P) 353:=by
 have h : ((tr7 P).get 357).map (fun o=>(o.cls,match o.data with | .fields vs=>vs[11]? | _=>none)) = some (.type "code",some (.ref 353)):=by kernel_rfl
 have ha : ((tr7 P).get 357).bind alive = (tr7 P).get 357:=by kernel_rfl
 obtain ⟨o,ho,he⟩:=Option.map_eq_some_iff.mp h
 simp only [Prod.mk.injEq] at he
 rw [ho] at ha
 have g : (H1 P).get? 357 = some o:=by
  show (absHeap (tr7 P) 1106 {}).get? 357 = some o
  rw [abs_get (by decide) ho]
  exact ha
 obtain ⟨h1,h2⟩:=he
 cases hd : o.data with
 | fields vs=>rw [hd] at h2;exact ⟨357,o,vs,g,h1,hd,h2⟩
 | _=>rw [hd] at h2;cases h2
noncomputable def intOf : WData → Int
 | .int i=>i
 | _=>0
theorem lay_ints {cl : Str → Option Addr} {P : Params} {ord : List DictEntry → List DictEntry} : ∀ (xs : List WData) (s : Shared) (r : List Value × Shared),WShape.hasItems [] xs .int = true → layAllW [] cl P ord xs s = some r → r.2.heap = s.heap ∧ Is (xs.map intOf) r.1.toArray
 | [],s,r,_,h=>by
   unfold layAllW at h
   cases h
   exact ⟨rfl,rfl,fun i x h=>by simp at h⟩
 | x :: xs,s,r,hi,h=>by
   unfold WShape.hasItems at hi
   rw [Bool.and_eq_true] at hi
   obtain ⟨h1,h2⟩:=hi
   obtain ⟨i,rfl⟩ : ∃ i,x = .int i:=by
    cases x <;> first | exact ⟨_,rfl⟩ | (simp [WShape.has,WShape.arms] at h1)
   unfold layAllW layW at h
   dsimp only at h
   split at h
   ·rename_i r' e
    cases h
    obtain ⟨e1,e2,e3⟩:=lay_ints xs _ r' h2 e
    refine ⟨e1,by simpa using e2,fun k y hk=>?_⟩
    cases k with
    | zero=>
      simp only [List.map_cons,List.getElem?_cons_zero,Option.some.injEq] at hk
      subst hk
      exact ⟨s.toks,rfl⟩
    | succ k=>
      obtain ⟨t,e⟩:=e3 k y (by simpa using hk)
      exact ⟨t,by simpa using e⟩
   ·cases h
theorem args_is {args : List WData} (h : cl0.pre args = true) : ∃ xs,args = [.list xs] ∧ WShape.hasItems [] xs .int = true ∧ xs.length ≤ 63:=by
 have h : (WShape.hasAll [] args [.list .int] && rw0.pre.holds [] { args:=args }) = true:=h
 rw [Bool.and_eq_true] at h
 obtain ⟨h1,h2⟩:=h
 match args,h1,h2 with
 | [],h1,_=>simp [WShape.hasAll] at h1
 | [x],h1,h2=>
   unfold WShape.hasAll at h1
   rw [Bool.and_eq_true] at h1
   obtain ⟨xs,rfl⟩ : ∃ xs,x = .list xs:=by
    cases x <;> first | exact ⟨_,rfl⟩ | (simp [WShape.has,WShape.arms] at h1)
   refine ⟨xs,rfl,by simpa [WShape.has,WShape.arms] using h1.1,?_⟩
   have h2 : (WTm.and (.not (.lt (.lit (.int 63)) (.len (.arg 0)))) (.lit (.bool true))).holds [] { args:=[.list xs] } = true:=h2
   simp only [WTm.holds,WTm.value,List.getElem?_cons_zero] at h2
   have e : less? (.int 63) (.int (xs.length : Int)) = some (decide ((63 : Int) < (xs.length : Int))):=by
    unfold less?;rfl
   rw [e] at h2
   by_cases hlt : (63 : Int) < (xs.length : Int)
   ·rw [decide_eq_true hlt] at h2;cases h2
   ·omega
 | x :: y :: l,h1,_=>simp [WShape.hasAll] at h1
theorem post0 (xs : List WData) : cl0.post [.list xs] (.bool true) [.list xs] = true:=by
 show (WShape.has [] (.bool true) .bool && (WTm.eq .res (.lit (.bool true))).holds [] { args:=[.list xs],res:=some (.bool true),after:=[.list xs] }) = true
 simp [WShape.has,WShape.arms,WTm.holds,WTm.value,W.same]
theorem walk0 (w : World) (s₀ s₁ : Shared) (args : List WData) (vals : List Value) (as : List Addr) (y : s₀.heap = H1 w.params) (L : Laid [] w s₀ s₁ args vals as) (hpre : cl0.pre args = true) (p : Pos) :
 wp (md w) Γ0 (PySem.call (.ref 1105) vals) (fun v _ s'=>GoodWG cl0 (classAt s₀.heap) (ExcName.means s₀.heap) args s₁ (.ok (.ret v)) s') (fun e _ s'=>GoodWG cl0 (classAt s₀.heap) (ExcName.means s₀.heap) args s₁ (.error e) s') p s₁:=by
 obtain ⟨xs,rfl,hi,h63⟩:=args_is hpre
 obtain ⟨ord,_,hlaid⟩:=L.laid
 unfold layAllW layW at hlaid
 dsimp only at hlaid
 cases hx : layAllW [] (classAt s₀.heap) w.params ord xs s₀ with
 | none=>rw [hx] at hlaid;cases hlaid
 | some r=>
   rw [hx] at hlaid
   unfold layAllW at hlaid
   have hlaid:=Option.some.inj hlaid
   obtain ⟨e1,hIs⟩:=lay_ints xs s₀ r hi hx
   have ev : vals = [.ref r.2.heap.objs.size]:=(congrArg Prod.fst hlaid).symm
   have es : s₁ = { r.2 with heap:=r.2.heap.push { cls:=.type "list",data:=.seq r.1.toArray } }:=(congrArg Prod.snd hlaid).symm
   subst ev
   have hsz : r.2.heap.objs.size = 1106:=by rw [e1,y];rfl
   have hget : s₁.heap.get? r.2.heap.objs.size = some (listO r.1.toArray 0):=by rw [es];exact Heap.get?_push_size _ rfl
   have hold : Old w.params s₁.heap:=fun b o hb=>L.keeps b o (by rw [y];exact old_H1 _ b o hb)
   have h353 : s₁.heap.get? 353 = some co0:=L.keeps 353 co0 (by rw [y];exact H1_353 _)
   have hs1 : 1106 ≤ s₁.heap.objs.size:=by
    rw [es]
    show 1106 ≤ (r.2.heap.push _).objs.size
    rw [Heap.size_push];omega
   have hAt : At w.params [(0,r.2.heap.objs.size,listO r.1.toArray 0),(1,353,co0)] s₁:=⟨fun x hx=>by
    simp only [List.mem_cons,List.not_mem_nil,or_false] at hx
    rcases hx with rfl | rfl
    ·exact hget
    ·exact h353,fun x hx=>by
    simp only [List.mem_cons,List.not_mem_nil,or_false] at hx
    rcases hx with rfl | rfl
    ·exact oldGet_none (by show 1106 ≤ r.2.heap.objs.size;omega)
    ·rfl,fun x hx z hz e=>by
    simp only [List.mem_cons,List.not_mem_nil,or_false] at hx hz
    rcases hx with rfl | rfl <;> rcases hz with rfl | rfl
    ·rfl
    ·exact absurd (show r.2.heap.objs.size = 353 from e) (by omega)
    ·exact absurd (show 353 = r.2.heap.objs.size from e) (by omega)
    ·rfl⟩
   have z:=(law_ok (w:=w) (D:=226) (U:=0) (π:=default) (sc:=r.2.heap.objs.size) (script:=xs.map intOf) (ex:=0) (by omega) (by omega) hIs (by rw [List.length_map];exact h63)).2 (Γ0.enter (.call (.ref 1105) ⟨[.ref r.2.heap.objs.size],[]⟩) none p) p s₁ rfl ⟨rfl,by show frameCount [(Code.builtin "claim.caller" {},p)] ≤ 301;rw [frameCount_cons];decide +kernel,by show unitsOf [(Code.builtin "claim.caller" {},p)] ≤ 300;rw [unitsOf_cons];decide +kernel⟩ (fun l hl=>by cases hl;rfl) hold hs1 hAt
   rw [show PySem.call (.ref 1105) [.ref r.2.heap.objs.size] = runValue (.call (.ref 1105) ⟨[.ref r.2.heap.objs.size],[]⟩) from rfl,Sem.wp_runValue]
   obtain ⟨res,s',hrun,u,er,hp,_⟩:=z
   have er : res = .ok (.ret (.bool true)):=er
   subst er
   refine ⟨_,s',hrun,?_⟩
   have hup : ∀ x ∈ [((0,r.2.heap.objs.size,listO r.1.toArray 0) : Nat × Nat × Obj),(1,353,co1 (u.a 0))],s'.heap.get? x.2.1 = some x.2.2:=hp.upd
   have hkeep : ∀ b v,s₁.heap.get? b = some v → b ≠ r.2.heap.objs.size → b ≠ 353 → s'.heap.get? b = some v:=fun b v hb n1 n2=>hp.keep b v hb fun x hx=>by
    have hx : x ∈ [((0,r.2.heap.objs.size,listO r.1.toArray 0) : Nat × Nat × Obj),(1,353,co1 (u.a 0))]:=hx
    simp only [List.mem_cons,List.not_mem_nil,or_false] at hx
    rcases hx with rfl | rfl
    ·exact n1
    ·exact n2
   have ct : isCodeTable s₁.heap 353:=by
    obtain ⟨c,o,vs,g,h1,h2,h3⟩:=code353 w.params
    exact ⟨c,o,vs,L.keeps c o (by rw [y];exact g),h1,h2,h3⟩
   have hold2 : ∀ b o,s₁.heap.get? b = some o → asItWas s₁.heap s'.heap b o:=fun b o hb=>by
    by_cases hb1 : b = r.2.heap.objs.size
    ·subst hb1
     rw [hget] at hb
     cases hb
     exact .inl (hup _ (.head _))
    ·by_cases hb2 : b = 353
     ·subst hb2
      rw [h353] at hb
      cases hb
      exact .inr (.inl ⟨ct,rfl,#[],_,rfl,by rw [Array.empty_append];exact hup _ (.tail _ (.head _))⟩)
     ·exact .inl (hkeep b o hb hb1 hb2)
   have hthere : ∀ b o,s₁.heap.get? b = some o → ∃ o',s'.heap.get? b = some o':=fun b o hb=>by
    by_cases hb1 : b = r.2.heap.objs.size
    ·subst hb1;exact ⟨_,hup _ (.head _)⟩
    ·by_cases hb2 : b = 353
     ·subst hb2;exact ⟨_,hup _ (.tail _ (.head _))⟩
     ·exact ⟨o,hkeep b o hb hb1 hb2⟩
   exact ⟨.inl ⟨.bool true,.bool true,[],rfl,fun _=>rfl,.bool true,post0 xs,fun _=>⟨List.nodup_nil,fun _ h=>nomatch h⟩⟩,⟨hold2,hthere⟩,hp.os,AllBare.of_eq (hp.gens.trans L.gens)⟩
end
end
end Mine
theorem PySem.Challenge.cw_ik0086_01_holds : PySem.Challenge.rw_ik0086_01.Holds :=
  Mine.head0 Mine.walk0 Mine.name_law
