import PyProof.Rows.All
import Wide.All
import OpenK.AllK
import Wide.FinOn
import PySem.Challenge.RW_in0022_01
set_option maxRecDepth 100000
set_option Elab.async false
set_option linter.unusedVariables false
set_option compiler.extract_closed false
namespace Mine
noncomputable section
open PySem PySem.W PySem.Calls PyProof.Rows
section
noncomputable def sE (P : Params) (k : Str) (t : Tok) (v : Value) : DictEntry := ⟨PyData.keyHash P k, .str k t, v⟩
noncomputable def bE (P : Params) (k : String) (t : Tok) : DictEntry := ⟨PyData.keyHash P k, .str k t, .builtin k⟩
noncomputable def tE (P : Params) (k : String) (t : Tok) : DictEntry := ⟨PyData.keyHash P k, .str k t, .type k⟩
noncomputable def xE (k : Int) (t : Nat) (s : Str) : DictEntry := ⟨k, .int k t, .str s (Nat.succ t)⟩
noncomputable def stAt (i : Nat) : Stmt := PySem.Challenge.pw_in0022_01.main.body.getD i (.Pass default)
noncomputable def inCls (s : Stmt) (j : Nat) : Stmt := match s with | .ClassDef _ _ _ b .. => b.getD j (.Pass default) | _ => .Pass default
noncomputable def fArgs (s : Stmt) : Arguments := match s with | .FunctionDef _ a .. => a | _ => ⟨[], [], none, [], [], none, []⟩
noncomputable def fBody (s : Stmt) : List Stmt := match s with | .FunctionDef _ _ b .. => b | _ => []
noncomputable def fScope (s : Stmt) : Scope := match s with | .FunctionDef _ _ _ _ _ _ sc .. => sc | _ => default
@[reducible] noncomputable def a1 : {x : Arguments // x = fArgs (stAt 1)} := ⟨⟨_, _, _, _, _, _, _⟩, rfl⟩
@[reducible] noncomputable def b1 : {x : List Stmt // x = fBody (stAt 1)} := ⟨_ :: _, rfl⟩
@[reducible] noncomputable def s1 : {x : Scope // x = fScope (stAt 1)} := ⟨⟨_, _, _, _, _⟩, rfl⟩
@[reducible] noncomputable def a3_0 : {x : Arguments // x = fArgs (inCls (stAt 3) 0)} := ⟨⟨_, _, _, _, _, _, _⟩, rfl⟩
@[reducible] noncomputable def b3_0 : {x : List Stmt // x = fBody (inCls (stAt 3) 0)} := ⟨_ :: _, rfl⟩
@[reducible] noncomputable def s3_0 : {x : Scope // x = fScope (inCls (stAt 3) 0)} := ⟨⟨_, _, _, _, _⟩, rfl⟩
@[reducible] noncomputable def a3_1 : {x : Arguments // x = fArgs (inCls (stAt 3) 1)} := ⟨⟨_, _, _, _, _, _, _⟩, rfl⟩
@[reducible] noncomputable def b3_1 : {x : List Stmt // x = fBody (inCls (stAt 3) 1)} := ⟨_ :: _, rfl⟩
@[reducible] noncomputable def s3_1 : {x : Scope // x = fScope (inCls (stAt 3) 1)} := ⟨⟨_, _, _, _, _⟩, rfl⟩
@[reducible] noncomputable def a3_2 : {x : Arguments // x = fArgs (inCls (stAt 3) 2)} := ⟨⟨_, _, _, _, _, _, _⟩, rfl⟩
@[reducible] noncomputable def b3_2 : {x : List Stmt // x = fBody (inCls (stAt 3) 2)} := ⟨_ :: _, rfl⟩
@[reducible] noncomputable def s3_2 : {x : Scope // x = fScope (inCls (stAt 3) 2)} := ⟨⟨_, _, _, _, _⟩, rfl⟩
@[reducible] noncomputable def a3_3 : {x : Arguments // x = fArgs (inCls (stAt 3) 3)} := ⟨⟨_, _, _, _, _, _, _⟩, rfl⟩
@[reducible] noncomputable def b3_3 : {x : List Stmt // x = fBody (inCls (stAt 3) 3)} := ⟨_ :: _, rfl⟩
@[reducible] noncomputable def s3_3 : {x : Scope // x = fScope (inCls (stAt 3) 3)} := ⟨⟨_, _, _, _, _⟩, rfl⟩
@[reducible] noncomputable def a4_1 : {x : Arguments // x = fArgs (inCls (stAt 4) 1)} := ⟨⟨_, _, _, _, _, _, _⟩, rfl⟩
@[reducible] noncomputable def b4_1 : {x : List Stmt // x = fBody (inCls (stAt 4) 1)} := ⟨_ :: _, rfl⟩
@[reducible] noncomputable def s4_1 : {x : Scope // x = fScope (inCls (stAt 4) 1)} := ⟨⟨_, _, _, _, _⟩, rfl⟩
@[reducible] noncomputable def a4_2 : {x : Arguments // x = fArgs (inCls (stAt 4) 2)} := ⟨⟨_, _, _, _, _, _, _⟩, rfl⟩
@[reducible] noncomputable def b4_2 : {x : List Stmt // x = fBody (inCls (stAt 4) 2)} := ⟨_ :: _, rfl⟩
@[reducible] noncomputable def s4_2 : {x : Scope // x = fScope (inCls (stAt 4) 2)} := ⟨⟨_, _, _, _, _⟩, rfl⟩
@[reducible] noncomputable def a5_4 : {x : Arguments // x = fArgs (inCls (stAt 5) 4)} := ⟨⟨_, _, _, _, _, _, _⟩, rfl⟩
@[reducible] noncomputable def b5_4 : {x : List Stmt // x = fBody (inCls (stAt 5) 4)} := ⟨_ :: _, rfl⟩
@[reducible] noncomputable def s5_4 : {x : Scope // x = fScope (inCls (stAt 5) 4)} := ⟨⟨_, _, _, _, _⟩, rfl⟩
@[reducible] noncomputable def a5_5 : {x : Arguments // x = fArgs (inCls (stAt 5) 5)} := ⟨⟨_, _, _, _, _, _, _⟩, rfl⟩
@[reducible] noncomputable def b5_5 : {x : List Stmt // x = fBody (inCls (stAt 5) 5)} := ⟨_ :: _, rfl⟩
@[reducible] noncomputable def s5_5 : {x : Scope // x = fScope (inCls (stAt 5) 5)} := ⟨⟨_, _, _, _, _⟩, rfl⟩
@[reducible] noncomputable def a5_6 : {x : Arguments // x = fArgs (inCls (stAt 5) 6)} := ⟨⟨_, _, _, _, _, _, _⟩, rfl⟩
@[reducible] noncomputable def b5_6 : {x : List Stmt // x = fBody (inCls (stAt 5) 6)} := ⟨_ :: _, rfl⟩
@[reducible] noncomputable def s5_6 : {x : Scope // x = fScope (inCls (stAt 5) 6)} := ⟨⟨_, _, _, _, _⟩, rfl⟩
@[reducible] noncomputable def a5_8 : {x : Arguments // x = fArgs (inCls (stAt 5) 8)} := ⟨⟨_, _, _, _, _, _, _⟩, rfl⟩
@[reducible] noncomputable def b5_8 : {x : List Stmt // x = fBody (inCls (stAt 5) 8)} := ⟨_ :: _, rfl⟩
@[reducible] noncomputable def s5_8 : {x : Scope // x = fScope (inCls (stAt 5) 8)} := ⟨⟨_, _, _, _, _⟩, rfl⟩
@[reducible] noncomputable def a5_9 : {x : Arguments // x = fArgs (inCls (stAt 5) 9)} := ⟨⟨_, _, _, _, _, _, _⟩, rfl⟩
@[reducible] noncomputable def b5_9 : {x : List Stmt // x = fBody (inCls (stAt 5) 9)} := ⟨_ :: _, rfl⟩
@[reducible] noncomputable def s5_9 : {x : Scope // x = fScope (inCls (stAt 5) 9)} := ⟨⟨_, _, _, _, _⟩, rfl⟩
@[reducible] noncomputable def a5_10 : {x : Arguments // x = fArgs (inCls (stAt 5) 10)} := ⟨⟨_, _, _, _, _, _, _⟩, rfl⟩
@[reducible] noncomputable def b5_10 : {x : List Stmt // x = fBody (inCls (stAt 5) 10)} := ⟨_ :: _, rfl⟩
@[reducible] noncomputable def s5_10 : {x : Scope // x = fScope (inCls (stAt 5) 10)} := ⟨⟨_, _, _, _, _⟩, rfl⟩
@[reducible] noncomputable def a6_0 : {x : Arguments // x = fArgs (inCls (stAt 6) 0)} := ⟨⟨_, _, _, _, _, _, _⟩, rfl⟩
@[reducible] noncomputable def b6_0 : {x : List Stmt // x = fBody (inCls (stAt 6) 0)} := ⟨_ :: _, rfl⟩
@[reducible] noncomputable def s6_0 : {x : Scope // x = fScope (inCls (stAt 6) 0)} := ⟨⟨_, _, _, _, _⟩, rfl⟩
@[reducible] noncomputable def a9 : {x : Arguments // x = fArgs (stAt 9)} := ⟨⟨_, _, _, _, _, _, _⟩, rfl⟩
@[reducible] noncomputable def b9 : {x : List Stmt // x = fBody (stAt 9)} := ⟨_ :: _, rfl⟩
@[reducible] noncomputable def s9 : {x : Scope // x = fScope (stAt 9)} := ⟨⟨_, _, _, _, _⟩, rfl⟩
@[reducible] noncomputable def a11 : {x : Arguments // x = fArgs (stAt 11)} := ⟨⟨_, _, _, _, _, _, _⟩, rfl⟩
@[reducible] noncomputable def b11 : {x : List Stmt // x = fBody (stAt 11)} := ⟨_ :: _, rfl⟩
@[reducible] noncomputable def s11 : {x : Scope // x = fScope (stAt 11)} := ⟨⟨_, _, _, _, _⟩, rfl⟩
@[reducible] noncomputable def a13 : {x : Arguments // x = fArgs (stAt 13)} := ⟨⟨_, _, _, _, _, _, _⟩, rfl⟩
@[reducible] noncomputable def b13 : {x : List Stmt // x = fBody (stAt 13)} := ⟨_ :: _, rfl⟩
@[reducible] noncomputable def s13 : {x : Scope // x = fScope (stAt 13)} := ⟨⟨_, _, _, _, _⟩, rfl⟩
@[reducible] noncomputable def a14 : {x : Arguments // x = fArgs (stAt 14)} := ⟨⟨_, _, _, _, _, _, _⟩, rfl⟩
@[reducible] noncomputable def b14 : {x : List Stmt // x = fBody (stAt 14)} := ⟨_ :: _, rfl⟩
@[reducible] noncomputable def s14 : {x : Scope // x = fScope (stAt 14)} := ⟨⟨_, _, _, _, _⟩, rfl⟩
@[reducible] noncomputable def a15 : {x : Arguments // x = fArgs (stAt 15)} := ⟨⟨_, _, _, _, _, _, _⟩, rfl⟩
@[reducible] noncomputable def b15 : {x : List Stmt // x = fBody (stAt 15)} := ⟨_ :: _, rfl⟩
@[reducible] noncomputable def s15 : {x : Scope // x = fScope (stAt 15)} := ⟨⟨_, _, _, _, _⟩, rfl⟩
@[reducible] noncomputable def a16 : {x : Arguments // x = fArgs (stAt 16)} := ⟨⟨_, _, _, _, _, _, _⟩, rfl⟩
@[reducible] noncomputable def b16 : {x : List Stmt // x = fBody (stAt 16)} := ⟨_ :: _, rfl⟩
@[reducible] noncomputable def s16 : {x : Scope // x = fScope (stAt 16)} := ⟨⟨_, _, _, _, _⟩, rfl⟩
@[reducible] noncomputable def a17 : {x : Arguments // x = fArgs (stAt 17)} := ⟨⟨_, _, _, _, _, _, _⟩, rfl⟩
@[reducible] noncomputable def b17 : {x : List Stmt // x = fBody (stAt 17)} := ⟨_ :: _, rfl⟩
@[reducible] noncomputable def s17 : {x : Scope // x = fScope (stAt 17)} := ⟨⟨_, _, _, _, _⟩, rfl⟩
@[reducible] noncomputable def a18 : {x : Arguments // x = fArgs (stAt 18)} := ⟨⟨_, _, _, _, _, _, _⟩, rfl⟩
@[reducible] noncomputable def b18 : {x : List Stmt // x = fBody (stAt 18)} := ⟨_ :: _, rfl⟩
@[reducible] noncomputable def s18 : {x : Scope // x = fScope (stAt 18)} := ⟨⟨_, _, _, _, _⟩, rfl⟩
@[reducible] noncomputable def a19 : {x : Arguments // x = fArgs (stAt 19)} := ⟨⟨_, _, _, _, _, _, _⟩, rfl⟩
@[reducible] noncomputable def b19 : {x : List Stmt // x = fBody (stAt 19)} := ⟨_ :: _, rfl⟩
@[reducible] noncomputable def s19 : {x : Scope // x = fScope (stAt 19)} := ⟨⟨_, _, _, _, _⟩, rfl⟩
@[reducible] noncomputable def a20 : {x : Arguments // x = fArgs (stAt 20)} := ⟨⟨_, _, _, _, _, _, _⟩, rfl⟩
@[reducible] noncomputable def b20 : {x : List Stmt // x = fBody (stAt 20)} := ⟨_ :: _, rfl⟩
@[reducible] noncomputable def s20 : {x : Scope // x = fScope (stAt 20)} := ⟨⟨_, _, _, _, _⟩, rfl⟩
@[reducible] noncomputable def a21 : {x : Arguments // x = fArgs (stAt 21)} := ⟨⟨_, _, _, _, _, _, _⟩, rfl⟩
@[reducible] noncomputable def b21 : {x : List Stmt // x = fBody (stAt 21)} := ⟨_ :: _, rfl⟩
@[reducible] noncomputable def s21 : {x : Scope // x = fScope (stAt 21)} := ⟨⟨_, _, _, _, _⟩, rfl⟩
noncomputable def o_0 (P : Params) : Obj := Obj.mk (.type "dict") none (.dict (sE P "__name__" 1 (.str "builtins" 160) :: sE P "__doc__" 2 (.builtin "builtins.__doc__:str#opaque") :: sE P "__package__" 3 (.builtin "builtins.__package__:str#opaque") :: sE P "__loader__" 4 (.builtin "builtins.__loader__:shared#opaque") :: sE P "__spec__" 5 (.builtin "builtins.__spec__#opaque") :: bE P "__build_class__" 6 :: bE P "__import__" 7 :: bE P "abs" 8 :: bE P "all" 9 :: bE P "any" 10 :: bE P "ascii" 11 :: bE P "bin" 12 :: bE P "breakpoint" 13 :: bE P "callable" 14 :: bE P "chr" 15 :: bE P "compile" 16 :: bE P "delattr" 17 :: bE P "dir" 18 :: bE P "divmod" 19 :: bE P "eval" 20 :: bE P "exec" 21 :: bE P "format" 22 :: bE P "getattr" 23 :: bE P "globals" 24 :: bE P "hasattr" 25 :: bE P "hash" 26 :: bE P "hex" 27 :: bE P "id" 28 :: bE P "input" 29 :: bE P "isinstance" 30 :: bE P "issubclass" 31 :: bE P "iter" 32 :: bE P "aiter" 33 :: bE P "len" 34 :: bE P "locals" 35 :: bE P "max" 36 :: bE P "min" 37 :: bE P "next" 38 :: bE P "anext" 39 :: bE P "oct" 40 :: bE P "ord" 41 :: bE P "pow" 42 :: bE P "print" 43 :: bE P "repr" 44 :: bE P "round" 45 :: bE P "setattr" 46 :: bE P "sorted" 47 :: bE P "sum" 48 :: bE P "vars" 49 :: sE P "None" 50 .none :: sE P "Ellipsis" 51 .ellipsis :: sE P "NotImplemented" 52 .notImplemented :: sE P "False" 53 (.bool false) :: sE P "True" 54 (.bool true) :: tE P "bool" 55 :: tE P "memoryview" 56 :: tE P "bytearray" 57 :: tE P "bytes" 58 :: tE P "classmethod" 59 :: tE P "complex" 60 :: tE P "dict" 61 :: tE P "enumerate" 62 :: tE P "filter" 63 :: tE P "float" 64 :: tE P "frozenset" 65 :: tE P "property" 66 :: tE P "int" 67 :: tE P "list" 68 :: tE P "map" 69 :: tE P "object" 70 :: tE P "range" 71 :: tE P "reversed" 72 :: tE P "set" 73 :: tE P "slice" 74 :: tE P "staticmethod" 75 :: tE P "str" 76 :: tE P "super" 77 :: tE P "tuple" 78 :: tE P "type" 79 :: tE P "zip" 80 :: sE P "__debug__" 81 (.bool true) :: tE P "BaseException" 82 :: tE P "BaseExceptionGroup" 83 :: tE P "Exception" 84 :: tE P "GeneratorExit" 85 :: tE P "KeyboardInterrupt" 86 :: tE P "SystemExit" 87 :: tE P "ArithmeticError" 88 :: tE P "AssertionError" 89 :: tE P "AttributeError" 90 :: tE P "BufferError" 91 :: tE P "EOFError" 92 :: tE P "ImportError" 93 :: tE P "LookupError" 94 :: tE P "MemoryError" 95 :: tE P "NameError" 96 :: tE P "OSError" 97 :: tE P "ReferenceError" 98 :: tE P "RuntimeError" 99 :: tE P "StopAsyncIteration" 100 :: tE P "StopIteration" 101 :: tE P "SyntaxError" 102 :: tE P "SystemError" 103 :: tE P "TypeError" 104 :: tE P "ValueError" 105 :: tE P "Warning" 106 :: tE P "FloatingPointError" 107 :: tE P "OverflowError" 108 :: tE P "ZeroDivisionError" 109 :: tE P "BytesWarning" 110 :: tE P "DeprecationWarning" 111 :: tE P "EncodingWarning" 112 :: tE P "FutureWarning" 113 :: tE P "ImportWarning" 114 :: tE P "PendingDeprecationWarning" 115 :: tE P "ResourceWarning" 116 :: tE P "RuntimeWarning" 117 :: tE P "SyntaxWarning" 118 :: tE P "UnicodeWarning" 119 :: tE P "UserWarning" 120 :: tE P "BlockingIOError" 121 :: tE P "ChildProcessError" 122 :: tE P "ConnectionError" 123 :: tE P "FileExistsError" 124 :: tE P "FileNotFoundError" 125 :: tE P "InterruptedError" 126 :: tE P "IsADirectoryError" 127 :: tE P "NotADirectoryError" 128 :: tE P "PermissionError" 129 :: tE P "ProcessLookupError" 130 :: tE P "TimeoutError" 131 :: tE P "IndentationError" 132 :: tE P "_IncompleteInputError" 133 :: tE P "IndexError" 134 :: tE P "KeyError" 135 :: tE P "ModuleNotFoundError" 136 :: tE P "NotImplementedError" 137 :: tE P "PythonFinalizationError" 138 :: tE P "RecursionError" 139 :: tE P "UnboundLocalError" 140 :: tE P "UnicodeError" 141 :: tE P "BrokenPipeError" 142 :: tE P "ConnectionAbortedError" 143 :: tE P "ConnectionRefusedError" 144 :: tE P "ConnectionResetError" 145 :: tE P "TabError" 146 :: tE P "UnicodeDecodeError" 147 :: tE P "UnicodeEncodeError" 148 :: tE P "UnicodeTranslateError" 149 :: tE P "ExceptionGroup" 150 :: sE P "EnvironmentError" 151 (.type "OSError") :: sE P "IOError" 152 (.type "OSError") :: bE P "open" 153 :: sE P "quit" 154 (.builtin "builtins.quit#opaque") :: sE P "exit" 155 (.builtin "builtins.exit#opaque") :: sE P "copyright" 156 (.builtin "builtins.copyright#opaque") :: sE P "credits" 157 (.builtin "builtins.credits#opaque") :: sE P "license" 158 (.builtin "builtins.license#opaque") :: sE P "help" 159 (.builtin "builtins.help#opaque") :: []).toArray 159) [].toArray
noncomputable def o_1 (P : Params) : Obj := Obj.mk (.type "dict") none (.dict [sE P "builtins" 162 (.ref 4), sE P "__main__" 163 (.ref 5), sE P "_collections" 246 (.ref 13)].toArray 3) [].toArray
noncomputable def o_2 (P : Params) : Obj := Obj.mk .none none (.dict [sE P "\x69mport.loaded._collections" 185 (.bool true), sE P "class._frozen_importlib.BuiltinImporter" 187 (.ref 15), sE P "watched.\x69mport" 208 (.ref 19), sE P "class._frozen_importlib.ModuleSpec" 218 (.ref 23), sE P "sys.modules.booked-epoch" 247 (.int 3 0), sE P "sys.modules.landed._collections" 248 (.bool true), sE P "\x69mport.later-laid._collections" 263 (.bool true), sE P "watched.library" 265 (.ref 28), sE P "watched.library-objects" 0 (.str "\x0d" 0), sE P "watched.library-deep._collections" 266 (.str "\x04\x00\x00\x0c\x04\x00\x00\x0c\x04\x00\x00\x03\x04\x00\x00\x0c\x08\x04dict\x02" 0), sE P "type.__subclasses__.collections.defaultdict.0" 384 (.int 108 0), sE P "type.__subclasses__.collections.defaultdict.n" 385 (.int 1 0)].toArray 12) [].toArray
noncomputable def o_3 (P : Params) : Obj := Obj.mk (.type "dict") none (.dict [sE P "__name__" 165 (.str "law_in0022_01" 2569), sE P "__doc__" 166 .none, sE P "__package__" 167 .none, sE P "__loader__" 168 (.builtin "__main__.__loader__#opaque"), sE P "__spec__" 169 .none, sE P "__annotations__" 170 (.ref 6), sE P "__builtins__" 171 (.ref 4), sE P "__file__" 173 (.str "/claim/cut.py" 172), sE P "__cached__" 174 .none, sE P "defaultdict" 272 (.type "collections.defaultdict"), sE P "_wall" 285 (.ref 39), sE P "_tuplegetter" 344 (.ref 78), sE P "FreezableDefaultDict" 387 (.ref 108), sE P "Pair" 502 (.ref 203), sE P "b1_set" 602 (.ref 214), sE P "in_table_b1" 609 (.ref 224), sE P "b3_exceptions" 2560 (.ref 225), sE P "map_table_b3" 2568 (.ref 270), sE P "_law_row" 2576 (.ref 275), sE P "_law_texts" 2582 (.ref 280), sE P "_law_runs" 2595 (.ref 287), sE P "_law_ask" 2604 (.ref 294), sE P "_law_made" 2616 (.ref 301), sE P "_law_world" 2623 (.ref 308), sE P "_law_asked" 2629 (.ref 313), sE P "_law_frozen" 2636 (.ref 320), sE P "law" 2647 (.ref 327)].toArray 27) [].toArray
noncomputable def o_4 (P : Params) : Obj := Obj.mk (.type "module") (some 0) .plain [].toArray
noncomputable def o_5 (P : Params) : Obj := Obj.mk (.type "module") (some 3) .plain [].toArray
noncomputable def o_6 (P : Params) : Obj := Obj.mk (.type "dict") none (.dict [].toArray 0) [].toArray
noncomputable def o_7 (P : Params) : Obj := Obj.mk (.type "tuple") none (.seq [].toArray 0) [].toArray
noncomputable def o_8 (P : Params) : Obj := Obj.mk .none none (.fields [].toArray) [].toArray
noncomputable def o_9 (P : Params) : Obj := Obj.mk (.type "code") none (.fields [.str "<module>" 176, .str "<module>" 177, .str "/claim/cut.py" 178, .int 1 0, .int 0 0, .int 0 0, .int 0 0, .int 0 0, .ref 7, .bool false, .int 175 0, .ref 8, .none, .none, .none, .none, .int 179 0, .int 1 0, .str "/claim/cut.py" 180].toArray) [].toArray
noncomputable def o_10 (P : Params) : Obj := Obj.mk (.type "frame") none .plain [some (.ref 9), some (.ref 3), some (.ref 3), none, some (.str "__main__" 164), none, some (.ref 0)].toArray
noncomputable def o_11 (P : Params) : Obj := Obj.mk (.type "tuple") none (.seq [.str "defaultdict" 182].toArray 0) [].toArray
noncomputable def o_12 (P : Params) : Obj := Obj.mk (.type "dict") none (.dict [sE P "__name__" 250 (.str "_collections" 249), sE P "__doc__" 251 (.builtin "off-the-table:_collections.__doc__:shared#opaque"), sE P "__package__" 253 (.str "" 252), sE P "__loader__" 254 (.builtin "off-the-table:_collections.__loader__:shared#opaque"), sE P "__spec__" 255 (.builtin "off-the-table:_collections.__spec__:shared#opaque"), sE P "_count_elements" 256 (.builtin "_collections._count_elements"), sE P "deque" 257 (.type "collections.deque"), sE P "defaultdict" 258 (.type "collections.defaultdict"), sE P "_deque_iterator" 259 (.builtin "off-the-table:_collections._deque_iterator:shared#opaque"), sE P "_deque_reverse_iterator" 260 (.builtin "off-the-table:_collections._deque_reverse_iterator:shared#opaque"), sE P "_tuplegetter" 261 (.type "collections._tuplegetter"), sE P "OrderedDict" 262 (.type "collections.OrderedDict")].toArray 12) [].toArray
noncomputable def o_13 (P : Params) : Obj := Obj.mk (.type "module") (some 12) .plain [].toArray
noncomputable def o_14 (P : Params) : Obj := Obj.mk (.type "dict") none (.dict [sE P "__module__" 191 (.str "_frozen_importlib" 188), sE P "__firstlineno__" 192 (.int 971 189), sE P "__doc__" 193 (.builtin "_frozen_importlib.BuiltinImporter.__doc__:str#opaque"), sE P "_ORIGIN" 194 (.str "built-in" 190), sE P "find_spec" 195 (.builtin "_frozen_importlib.BuiltinImporter.find_spec#opaque"), sE P "create_module" 196 (.builtin "_frozen_importlib.BuiltinImporter.create_module#opaque"), sE P "exec_module" 197 (.builtin "_frozen_importlib.BuiltinImporter.exec_module#opaque"), sE P "get_code" 198 (.builtin "_frozen_importlib.BuiltinImporter.get_code#opaque"), sE P "get_source" 199 (.builtin "_frozen_importlib.BuiltinImporter.get_source#opaque"), sE P "is_package" 200 (.builtin "_frozen_importlib.BuiltinImporter.is_package#opaque"), sE P "load_module" 201 (.builtin "_frozen_importlib.BuiltinImporter.load_module#opaque"), sE P "__static_attributes__" 202 (.ref 16), sE P "__dict__" 204 (.ref 17), sE P "__weakref__" 206 (.ref 18)].toArray 14) [].toArray
noncomputable def o_15 (P : Params) : Obj := Obj.mk (.type "type") none (.cls (ClassData.mk "BuiltinImporter" [.type "object"] [.ref 15, .type "object"] 14 "BuiltinImporter" true [] [] false none false)) [].toArray
noncomputable def o_16 (P : Params) : Obj := Obj.mk (.type "tuple") none (.seq [].toArray 0) [].toArray
noncomputable def o_17 (P : Params) : Obj := Obj.mk (.type "getset_descriptor") none (.fields [.str "__dict__" 203, .ref 15, .builtin "function.__dict__", .builtin "function.__dict__#set"].toArray) [].toArray
noncomputable def o_18 (P : Params) : Obj := Obj.mk (.type "getset_descriptor") none (.fields [.str "__weakref__" 205, .ref 15, .builtin "ExceptionGroup.__weakref__", .none].toArray) [].toArray
noncomputable def o_19 (P : Params) : Obj := Obj.mk .none none (.seq [.int 14 0, .str "\x06¿\n__module__\x06¼\x11_frozen_importlib\x06À\x0f__firstlineno__\x04½\x00ϋ\x06Á\x07__doc__\t4_frozen_importlib.BuiltinImporter.__doc__:str#opaque\x06Â\x07_ORIGIN\x06¾\x08built-in\x06Ã\tfind_spec\t2_frozen_importlib.BuiltinImporter.find_spec#opaque\x06Ä\x0dcreate_module\t6_frozen_importlib.BuiltinImporter.create_module#opaque\x06Å\x0bexec_module\t4_frozen_importlib.BuiltinImporter.exec_module#opaque\x06Æ\x08get_code\t1_frozen_importlib.BuiltinImporter.get_code#opaque\x06Ç\nget_source\t3_frozen_importlib.BuiltinImporter.get_source#opaque\x06È\nis_package\t3_frozen_importlib.BuiltinImporter.is_package#opaque\x06É\x0bload_module\t4_frozen_importlib.BuiltinImporter.load_module#opaque\x06Ê\x15__static_attributes__\x04\x00\x00\x10\x06Ì\x08__dict__\x04\x00\x00\x11\x06Î\x0b__weakref__\x04\x00\x00\x12" 0, .bool true, .bool true, .str "" 207, .int 22 0, .str "\x06å\n__module__\x06Û\x11_frozen_importlib\x06æ\x0f__firstlineno__\x04Ü\x00Ȳ\x06ç\x07__doc__\t/_frozen_importlib.ModuleSpec.__doc__:str#opaque\x06è\x08__init__\t,_frozen_importlib.ModuleSpec.__init__#opaque\x06é\x08__repr__\t,_frozen_importlib.ModuleSpec.__repr__#opaque\x06ê\x06__eq__\t*_frozen_importlib.ModuleSpec.__eq__#opaque\x06ë\x06cached\t*_frozen_importlib.ModuleSpec.cached#opaque\x06ì\x06parent\t*_frozen_importlib.ModuleSpec.parent#opaque\x06í\x0chas_location\t0_frozen_importlib.ModuleSpec.has_location#opaque\x06î\x15__static_attributes__\x04\x00\x00\x18\x06ð\x08__dict__\x04\x00\x00\x19\x06ò\x0b__weakref__\x04\x00\x00\x1a\x06ó\x08__hash__\x00" 0, .bool true, .bool true, .str "" 244].toArray 1) [].toArray
noncomputable def o_20 (P : Params) : Obj := Obj.mk (.type "list") none (.seq [].toArray 0) [].toArray
noncomputable def o_21 (P : Params) : Obj := Obj.mk (.type "dict") none (.dict [sE P "name" 210 (.str "_collections" 209), sE P "loader" 211 (.ref 15), sE P "origin" 212 (.str "built-in" 186), sE P "loader_state" 213 .none, sE P "submodule_search_locations" 214 .none, sE P "_uninitialized_submodules" 215 (.ref 20), sE P "_set_fileattr" 216 (.bool false), sE P "_cached" 217 .none, sE P "_initializing" 245 (.bool false)].toArray 9) [].toArray
noncomputable def o_22 (P : Params) : Obj := Obj.mk (.type "dict") none (.dict [sE P "__module__" 229 (.str "_frozen_importlib" 219), sE P "__firstlineno__" 230 (.int 562 220), sE P "__doc__" 231 (.builtin "_frozen_importlib.ModuleSpec.__doc__:str#opaque"), sE P "__init__" 232 (.builtin "_frozen_importlib.ModuleSpec.__init__#opaque"), sE P "__repr__" 233 (.builtin "_frozen_importlib.ModuleSpec.__repr__#opaque"), sE P "__eq__" 234 (.builtin "_frozen_importlib.ModuleSpec.__eq__#opaque"), sE P "cached" 235 (.builtin "_frozen_importlib.ModuleSpec.cached#opaque"), sE P "parent" 236 (.builtin "_frozen_importlib.ModuleSpec.parent#opaque"), sE P "has_location" 237 (.builtin "_frozen_importlib.ModuleSpec.has_location#opaque"), sE P "__static_attributes__" 238 (.ref 24), sE P "__dict__" 240 (.ref 25), sE P "__weakref__" 242 (.ref 26), sE P "__hash__" 243 .none].toArray 13) [].toArray
noncomputable def o_23 (P : Params) : Obj := Obj.mk (.type "type") none (.cls (ClassData.mk "ModuleSpec" [.type "object"] [.ref 23, .type "object"] 22 "ModuleSpec" true [] [] false none false)) [].toArray
noncomputable def o_24 (P : Params) : Obj := Obj.mk (.type "tuple") none (.seq [.str "_cached" 221, .str "_set_fileattr" 222, .str "_uninitialized_submodules" 223, .str "loader" 224, .str "loader_state" 225, .str "name" 226, .str "origin" 227, .str "submodule_search_locations" 228].toArray 0) [].toArray
noncomputable def o_25 (P : Params) : Obj := Obj.mk (.type "getset_descriptor") none (.fields [.str "__dict__" 239, .ref 23, .builtin "function.__dict__", .builtin "function.__dict__#set"].toArray) [].toArray
noncomputable def o_26 (P : Params) : Obj := Obj.mk (.type "getset_descriptor") none (.fields [.str "__weakref__" 241, .ref 23, .builtin "ExceptionGroup.__weakref__", .none].toArray) [].toArray
noncomputable def o_27 (P : Params) : Obj := Obj.mk (.ref 23) (some 21) .plain [].toArray
noncomputable def o_28 (P : Params) : Obj := Obj.mk .none none (.seq [.int 12 0, .str "\x06ú\x08__name__\x06ù\x0c_collections\x06û\x07__doc__\t\x1f_collections.__doc__:str#opaque\x06ý\x0b__package__\x06ü\x00\x06þ\n__loader__\x04\x00\x00\x0f\x06ÿ\x08__spec__\x04\x00\x00\x1b\x06Ā\x0f_count_elements\t\x1c_collections._count_elements\x06ā\x05deque\x08\x11collections.deque\x06Ă\x0bdefaultdict\x08\x17collections.defaultdict\x06ă\x0f_deque_iterator\x08\x1bcollections._deque_iterator\x06Ą\x17_deque_reverse_iterator\x08#collections._deque_reverse_iterator\x06ą\x0c_tuplegetter\x08\x18collections._tuplegetter\x06Ć\x0bOrderedDict\x08\x17collections.OrderedDict" 0, .bool true, .bool false, .str "_collections" 264].toArray 0) [].toArray
noncomputable def o_29 (P : Params) : Obj := Obj.mk (.type "tuple") none (.seq [].toArray 0) [].toArray
noncomputable def o_30 (P : Params) : Obj := Obj.mk .none none (.fields [.int 2 0, .int 0 0, .ref 38, .int 6 0, .int 0 0, .ref 45, .int 24 0, .int 0 0, .ref 89, .int 44 0, .int 0 0, .ref 119, .int 86 0, .int 0 0, .ref 189, .int 93 0, .int 0 0, .ref 223, .int 96 0, .int 0 0, .ref 269, .int 102 0, .int 0 0, .ref 274, .int 113 0, .int 0 0, .ref 279, .int 119 0, .int 0 0, .ref 286, .int 127 0, .int 0 0, .ref 293, .int 132 0, .int 0 0, .ref 300, .int 143 0, .int 0 0, .ref 307, .int 147 0, .int 0 0, .ref 312, .int 159 0, .int 0 0, .ref 319, .int 161 0, .int 0 0, .ref 326].toArray) [].toArray
noncomputable def o_31 (P : Params) : Obj := Obj.mk (.type "code") none (.fields [.str "<module>" 274, .str "<module>" 275, .str "/claim/cut.py" 276, .int 1 0, .int 0 0, .int 0 0, .int 0 0, .int 0 0, .ref 29, .bool false, .int 273 0, .ref 30, .none, .none, .none, .none, .int 277 0, .int 1 0, .str "/claim/cut.py" 278].toArray) [].toArray
noncomputable def o_32 (P : Params) : Obj := Obj.mk (.type "frame") none .plain [some (.ref 31), some (.ref 3), some (.ref 3), none, some (.str "__main__" 164), none, some (.ref 0)].toArray
noncomputable def o_33 (P : Params) : Obj := Obj.mk (.type "tuple") none (.seq [].toArray 0) [].toArray
noncomputable def o_34 (P : Params) : Obj := Obj.mk .none none (.fields [].toArray) [].toArray
noncomputable def o_35 (P : Params) : Obj := Obj.mk (.type "tuple") none (.seq [.str "k" 282].toArray 0) [].toArray
noncomputable def o_36 (P : Params) : Obj := Obj.mk (.type "tuple") none (.seq [].toArray 0) [].toArray
noncomputable def o_37 (P : Params) : Obj := Obj.mk .none none (.func (FuncData.mk "_wall" "_wall" a1.1 (.stmts b1.1) s1.1 0 [] .none .none .none .none none .none .none 0)) [].toArray
noncomputable def o_38 (P : Params) : Obj := Obj.mk (.type "code") none (.fields [.str "_wall" 279, .str "_wall" 280, .str "/claim/cut.py" 281, .int 2 0, .int 1 0, .int 0 0, .int 0 0, .int 3 0, .ref 33, .bool true, .int 273 0, .ref 34, .none, .ref 35, .ref 36, .ref 37, .int 283 0, .int 2 0, .str "/claim/cut.py" 284].toArray) [].toArray
noncomputable def o_39 (P : Params) : Obj := Obj.mk (.type "function") none (.func (FuncData.mk "_wall" "_wall" a1.1 (.stmts b1.1) s1.1 3 [] .none .none .none (.str "__main__" 164) none (.ref 38) .none 0)) [].toArray
noncomputable def o_40 (P : Params) : Obj := Obj.mk (.type "tuple") none (.seq [].toArray 0) [].toArray
noncomputable def o_41 (P : Params) : Obj := Obj.mk (.type "builtin_function_or_method") none (.fields [.builtin "type.__prepare__", .type "type"].toArray) [].toArray
noncomputable def o_42 (P : Params) : Obj := Obj.mk (.type "dict") none (.dict [sE P "__module__" 295 (.str "cpy313.importlib.metadata._collections" 286), sE P "__qualname__" 297 (.str "_tuplegetter" 296), sE P "__firstlineno__" 299 (.int 6 298), sE P "__init__" 308 (.ref 53), sE P "__get__" 317 (.ref 61), sE P "__set__" 326 (.ref 68), sE P "__delete__" 334 (.ref 75), sE P "__static_attributes__" 337 (.ref 76)].toArray 8) [].toArray
noncomputable def o_43 (P : Params) : Obj := Obj.mk (.type "tuple") none (.seq [].toArray 0) [].toArray
noncomputable def o_44 (P : Params) : Obj := Obj.mk .none none (.fields [.int 8 0, .int 4 0, .ref 52, .int 12 0, .int 4 0, .ref 60, .int 19 0, .int 4 0, .ref 67, .int 22 0, .int 4 0, .ref 74].toArray) [].toArray
noncomputable def o_45 (P : Params) : Obj := Obj.mk (.type "code") none (.fields [.str "_tuplegetter" 290, .str "_tuplegetter" 291, .str "/claim/cut.py" 292, .int 6 0, .int 0 0, .int 0 0, .int 0 0, .int 0 0, .ref 43, .bool false, .int 273 0, .ref 44, .none, .none, .none, .none, .int 293 0, .int 6 0, .str "/claim/cut.py" 294].toArray) [].toArray
noncomputable def o_46 (P : Params) : Obj := Obj.mk (.type "frame") none .plain [some (.ref 45), some (.ref 3), some (.ref 42), none, some (.str "cpy313.importlib.metadata._collections" 286), none, some (.ref 0)].toArray
noncomputable def o_47 (P : Params) : Obj := Obj.mk (.type "tuple") none (.seq [].toArray 0) [].toArray
noncomputable def o_48 (P : Params) : Obj := Obj.mk .none none (.fields [].toArray) [].toArray
noncomputable def o_49 (P : Params) : Obj := Obj.mk (.type "tuple") none (.seq [.str "self" 303, .str "index" 304, .str "doc" 305].toArray 0) [].toArray
noncomputable def o_50 (P : Params) : Obj := Obj.mk (.type "tuple") none (.seq [].toArray 0) [].toArray
noncomputable def o_51 (P : Params) : Obj := Obj.mk .none none (.func (FuncData.mk "__init__" "_tuplegetter.__init__" a3_0.1 (.stmts b3_0.1) s3_0.1 0 [] .none .none .none .none none .none .none 0)) [].toArray
noncomputable def o_52 (P : Params) : Obj := Obj.mk (.type "code") none (.fields [.str "__init__" 300, .str "_tuplegetter.__init__" 301, .str "/claim/cut.py" 302, .int 8 0, .int 3 0, .int 0 0, .int 0 0, .int 3 0, .ref 47, .bool true, .int 273 0, .ref 48, .none, .ref 49, .ref 50, .ref 51, .int 306 0, .int 8 0, .str "/claim/cut.py" 307].toArray) [].toArray
noncomputable def o_53 (P : Params) : Obj := Obj.mk (.type "function") none (.func (FuncData.mk "__init__" "_tuplegetter.__init__" a3_0.1 (.stmts b3_0.1) s3_0.1 3 [] .none .none .none (.str "cpy313.importlib.metadata._collections" 286) none (.ref 52) .none 0)) [].toArray
noncomputable def o_54 (P : Params) : Obj := Obj.mk (.type "tuple") none (.seq [.none].toArray 0) [].toArray
noncomputable def o_55 (P : Params) : Obj := Obj.mk (.type "tuple") none (.seq [].toArray 0) [].toArray
noncomputable def o_56 (P : Params) : Obj := Obj.mk .none none (.fields [].toArray) [].toArray
noncomputable def o_57 (P : Params) : Obj := Obj.mk (.type "tuple") none (.seq [.str "self" 312, .str "obj" 313, .str "objtype" 314].toArray 0) [].toArray
noncomputable def o_58 (P : Params) : Obj := Obj.mk (.type "tuple") none (.seq [].toArray 0) [].toArray
noncomputable def o_59 (P : Params) : Obj := Obj.mk .none none (.func (FuncData.mk "__get__" "_tuplegetter.__get__" a3_1.1 (.stmts b3_1.1) s3_1.1 0 [] .none .none .none .none none .none .none 0)) [].toArray
noncomputable def o_60 (P : Params) : Obj := Obj.mk (.type "code") none (.fields [.str "__get__" 309, .str "_tuplegetter.__get__" 310, .str "/claim/cut.py" 311, .int 12 0, .int 3 0, .int 0 0, .int 0 0, .int 3 0, .ref 55, .bool true, .int 273 0, .ref 56, .none, .ref 57, .ref 58, .ref 59, .int 315 0, .int 12 0, .str "/claim/cut.py" 316].toArray) [].toArray
noncomputable def o_61 (P : Params) : Obj := Obj.mk (.type "function") none (.func (FuncData.mk "__get__" "_tuplegetter.__get__" a3_1.1 (.stmts b3_1.1) s3_1.1 3 [] (.ref 54) .none .none (.str "cpy313.importlib.metadata._collections" 286) none (.ref 60) .none 0)) [].toArray
noncomputable def o_62 (P : Params) : Obj := Obj.mk (.type "tuple") none (.seq [].toArray 0) [].toArray
noncomputable def o_63 (P : Params) : Obj := Obj.mk .none none (.fields [].toArray) [].toArray
noncomputable def o_64 (P : Params) : Obj := Obj.mk (.type "tuple") none (.seq [.str "self" 321, .str "obj" 322, .str "value" 323].toArray 0) [].toArray
noncomputable def o_65 (P : Params) : Obj := Obj.mk (.type "tuple") none (.seq [].toArray 0) [].toArray
noncomputable def o_66 (P : Params) : Obj := Obj.mk .none none (.func (FuncData.mk "__set__" "_tuplegetter.__set__" a3_2.1 (.stmts b3_2.1) s3_2.1 0 [] .none .none .none .none none .none .none 0)) [].toArray
noncomputable def o_67 (P : Params) : Obj := Obj.mk (.type "code") none (.fields [.str "__set__" 318, .str "_tuplegetter.__set__" 319, .str "/claim/cut.py" 320, .int 19 0, .int 3 0, .int 0 0, .int 0 0, .int 3 0, .ref 62, .bool true, .int 273 0, .ref 63, .none, .ref 64, .ref 65, .ref 66, .int 324 0, .int 19 0, .str "/claim/cut.py" 325].toArray) [].toArray
noncomputable def o_68 (P : Params) : Obj := Obj.mk (.type "function") none (.func (FuncData.mk "__set__" "_tuplegetter.__set__" a3_2.1 (.stmts b3_2.1) s3_2.1 3 [] .none .none .none (.str "cpy313.importlib.metadata._collections" 286) none (.ref 67) .none 0)) [].toArray
noncomputable def o_69 (P : Params) : Obj := Obj.mk (.type "tuple") none (.seq [].toArray 0) [].toArray
noncomputable def o_70 (P : Params) : Obj := Obj.mk .none none (.fields [].toArray) [].toArray
noncomputable def o_71 (P : Params) : Obj := Obj.mk (.type "tuple") none (.seq [.str "self" 330, .str "obj" 331].toArray 0) [].toArray
noncomputable def o_72 (P : Params) : Obj := Obj.mk (.type "tuple") none (.seq [].toArray 0) [].toArray
noncomputable def o_73 (P : Params) : Obj := Obj.mk .none none (.func (FuncData.mk "__delete__" "_tuplegetter.__delete__" a3_3.1 (.stmts b3_3.1) s3_3.1 0 [] .none .none .none .none none .none .none 0)) [].toArray
noncomputable def o_74 (P : Params) : Obj := Obj.mk (.type "code") none (.fields [.str "__delete__" 327, .str "_tuplegetter.__delete__" 328, .str "/claim/cut.py" 329, .int 22 0, .int 2 0, .int 0 0, .int 0 0, .int 3 0, .ref 69, .bool true, .int 273 0, .ref 70, .none, .ref 71, .ref 72, .ref 73, .int 332 0, .int 22 0, .str "/claim/cut.py" 333].toArray) [].toArray
noncomputable def o_75 (P : Params) : Obj := Obj.mk (.type "function") none (.func (FuncData.mk "__delete__" "_tuplegetter.__delete__" a3_3.1 (.stmts b3_3.1) s3_3.1 3 [] .none .none .none (.str "cpy313.importlib.metadata._collections" 286) none (.ref 74) .none 0)) [].toArray
noncomputable def o_76 (P : Params) : Obj := Obj.mk (.type "tuple") none (.seq [.str "__doc__" 335, .str "index" 336].toArray 0) [].toArray
noncomputable def o_77 (P : Params) : Obj := Obj.mk (.type "dict") none (.dict [sE P "__module__" 295 (.str "cpy313.importlib.metadata._collections" 286), sE P "__firstlineno__" 299 (.int 6 298), sE P "__init__" 308 (.ref 53), sE P "__get__" 317 (.ref 61), sE P "__set__" 326 (.ref 68), sE P "__delete__" 334 (.ref 75), sE P "__static_attributes__" 337 (.ref 76), sE P "__dict__" 339 (.ref 79), sE P "__weakref__" 341 (.ref 80), sE P "__doc__" 342 .none].toArray 4) [].toArray
noncomputable def o_78 (P : Params) : Obj := Obj.mk (.type "type") none (.cls (ClassData.mk "_tuplegetter" [.type "object"] [.ref 78, .type "object"] 77 "_tuplegetter" true [] [] false none false)) [none, none, some (.str "_tuplegetter" 288), some (.str "_tuplegetter" 296), some (.builtin "object.__new__"), some (.bool true)].toArray
noncomputable def o_79 (P : Params) : Obj := Obj.mk (.type "getset_descriptor") none (.fields [.str "__dict__" 338, .ref 78, .builtin "function.__dict__", .builtin "function.__dict__#set"].toArray) [].toArray
noncomputable def o_80 (P : Params) : Obj := Obj.mk (.type "getset_descriptor") none (.fields [.str "__weakref__" 340, .ref 78, .builtin "ExceptionGroup.__weakref__", .none].toArray) [].toArray
noncomputable def o_81 (P : Params) : Obj := Obj.mk (.type "super") none (.fields [.ref 78, .ref 78, .ref 78].toArray) [].toArray
noncomputable def o_82 (P : Params) : Obj := Obj.mk (.type "builtin_function_or_method") none (.fields [.builtin "object.__init_subclass__", .ref 78].toArray) [].toArray
noncomputable def o_83 (P : Params) : Obj := Obj.mk (.type "tuple") none (.seq [.type "collections.defaultdict"].toArray 0) [].toArray
noncomputable def o_84 (P : Params) : Obj := Obj.mk (.type "builtin_function_or_method") none (.fields [.builtin "type.__prepare__", .type "type"].toArray) [].toArray
noncomputable def o_85 (P : Params) : Obj := Obj.mk (.type "dict") none (.dict [sE P "__module__" 352 (.str "cpy313.importlib.metadata._collections" 286), sE P "__qualname__" 354 (.str "FreezableDefaultDict" 353), sE P "__firstlineno__" 356 (.int 24 355), sE P "__doc__" 358 (.str "\nOften it is desirable to prevent the mutation of\na default dict after its initial construction, such\nas to prevent mutation during iteration.\n\n>>> dd = FreezableDefaultDict(list)\n>>> dd[0].append('1')\n>>> dd.freeze()\n>>> dd[1]\n[]\n>>> len(dd)\n1\n" 357), sE P "__missing__" 368 (.ref 98), sE P "freeze" 376 (.ref 105), sE P "__static_attributes__" 378 (.ref 106), sE P "__classcell__" 379 (.ref 86)].toArray 8) [].toArray
noncomputable def o_86 (P : Params) : Obj := Obj.mk (.type "cell") none (.cell (some (.ref 108))) [].toArray
noncomputable def o_87 (P : Params) : Obj := Obj.mk (.type "tuple") none (.seq [].toArray 0) [].toArray
noncomputable def o_88 (P : Params) : Obj := Obj.mk .none none (.fields [.int 39 0, .int 4 0, .ref 97, .int 42 0, .int 4 0, .ref 104].toArray) [].toArray
noncomputable def o_89 (P : Params) : Obj := Obj.mk (.type "code") none (.fields [.str "FreezableDefaultDict" 347, .str "FreezableDefaultDict" 348, .str "/claim/cut.py" 349, .int 24 0, .int 0 0, .int 0 0, .int 0 0, .int 0 0, .ref 87, .bool false, .int 273 0, .ref 88, .none, .none, .none, .none, .int 350 0, .int 24 0, .str "/claim/cut.py" 351].toArray) [].toArray
noncomputable def o_90 (P : Params) : Obj := Obj.mk (.type "frame") none .plain [some (.ref 89), some (.ref 3), some (.ref 85), none, some (.str "cpy313.importlib.metadata._collections" 286), none, some (.ref 0)].toArray
noncomputable def o_91 (P : Params) : Obj := Obj.mk (.type "tuple") none (.seq [.ref 86].toArray 0) [].toArray
noncomputable def o_92 (P : Params) : Obj := Obj.mk (.type "tuple") none (.seq [.str "__class__" 363].toArray 0) [].toArray
noncomputable def o_93 (P : Params) : Obj := Obj.mk .none none (.fields [].toArray) [].toArray
noncomputable def o_94 (P : Params) : Obj := Obj.mk (.type "tuple") none (.seq [.str "self" 364, .str "key" 365].toArray 0) [].toArray
noncomputable def o_95 (P : Params) : Obj := Obj.mk (.type "tuple") none (.seq [].toArray 0) [].toArray
noncomputable def o_96 (P : Params) : Obj := Obj.mk .none none (.func (FuncData.mk "__missing__" "FreezableDefaultDict.__missing__" a4_1.1 (.stmts b4_1.1) s4_1.1 0 [] .none .none .none .none none .none .none 0)) [].toArray
noncomputable def o_97 (P : Params) : Obj := Obj.mk (.type "code") none (.fields [.str "__missing__" 360, .str "FreezableDefaultDict.__missing__" 361, .str "/claim/cut.py" 362, .int 39 0, .int 2 0, .int 0 0, .int 0 0, .int 3 0, .ref 92, .bool true, .int 273 0, .ref 93, .none, .ref 94, .ref 95, .ref 96, .int 366 0, .int 39 0, .str "/claim/cut.py" 367].toArray) [].toArray
noncomputable def o_98 (P : Params) : Obj := Obj.mk (.type "function") none (.func (FuncData.mk "__missing__" "FreezableDefaultDict.__missing__" a4_1.1 (.stmts b4_1.1) s4_1.1 3 [("__class__", 86)] .none .none .none (.str "cpy313.importlib.metadata._collections" 286) none (.ref 97) (.ref 91) 0)) [].toArray
noncomputable def o_99 (P : Params) : Obj := Obj.mk (.type "tuple") none (.seq [].toArray 0) [].toArray
noncomputable def o_100 (P : Params) : Obj := Obj.mk .none none (.fields [].toArray) [].toArray
noncomputable def o_101 (P : Params) : Obj := Obj.mk (.type "tuple") none (.seq [.str "self" 372].toArray 0) [].toArray
noncomputable def o_102 (P : Params) : Obj := Obj.mk (.type "tuple") none (.seq [.str "self" 373].toArray 0) [].toArray
noncomputable def o_103 (P : Params) : Obj := Obj.mk .none none (.func (FuncData.mk "freeze" "FreezableDefaultDict.freeze" a4_2.1 (.stmts b4_2.1) s4_2.1 0 [] .none .none .none .none none .none .none 0)) [].toArray
noncomputable def o_104 (P : Params) : Obj := Obj.mk (.type "code") none (.fields [.str "freeze" 369, .str "FreezableDefaultDict.freeze" 370, .str "/claim/cut.py" 371, .int 42 0, .int 1 0, .int 0 0, .int 0 0, .int 3 0, .ref 99, .bool true, .int 273 0, .ref 100, .none, .ref 101, .ref 102, .ref 103, .int 374 0, .int 42 0, .str "/claim/cut.py" 375].toArray) [].toArray
noncomputable def o_105 (P : Params) : Obj := Obj.mk (.type "function") none (.func (FuncData.mk "freeze" "FreezableDefaultDict.freeze" a4_2.1 (.stmts b4_2.1) s4_2.1 3 [] .none .none .none (.str "cpy313.importlib.metadata._collections" 286) none (.ref 104) .none 0)) [].toArray
noncomputable def o_106 (P : Params) : Obj := Obj.mk (.type "tuple") none (.seq [.str "_frozen" 377].toArray 0) [].toArray
noncomputable def o_107 (P : Params) : Obj := Obj.mk (.type "dict") none (.dict [sE P "__module__" 352 (.str "cpy313.importlib.metadata._collections" 286), sE P "__firstlineno__" 356 (.int 24 355), sE P "__doc__" 358 (.str "\nOften it is desirable to prevent the mutation of\na default dict after its initial construction, such\nas to prevent mutation during iteration.\n\n>>> dd = FreezableDefaultDict(list)\n>>> dd[0].append('1')\n>>> dd.freeze()\n>>> dd[1]\n[]\n>>> len(dd)\n1\n" 357), sE P "__missing__" 368 (.ref 98), sE P "freeze" 376 (.ref 105), sE P "__static_attributes__" 378 (.ref 106), sE P "__dict__" 381 (.ref 109), sE P "__weakref__" 383 (.ref 110)].toArray 4) [].toArray
noncomputable def o_108 (P : Params) : Obj := Obj.mk (.type "type") none (.cls (ClassData.mk "FreezableDefaultDict" [.type "collections.defaultdict"] [.ref 108, .type "collections.defaultdict", .type "dict", .type "object"] 107 "FreezableDefaultDict" true [""] [] false none false)) [some (.ref 83), none, some (.str "FreezableDefaultDict" 345), some (.str "FreezableDefaultDict" 353), some (.builtin "dict.__new__"), some (.bool true)].toArray
noncomputable def o_109 (P : Params) : Obj := Obj.mk (.type "getset_descriptor") none (.fields [.str "__dict__" 380, .ref 108, .builtin "function.__dict__", .builtin "function.__dict__#set"].toArray) [].toArray
noncomputable def o_110 (P : Params) : Obj := Obj.mk (.type "getset_descriptor") none (.fields [.str "__weakref__" 382, .ref 108, .builtin "ExceptionGroup.__weakref__", .none].toArray) [].toArray
noncomputable def o_111 (P : Params) : Obj := Obj.mk (.type "super") none (.fields [.ref 108, .ref 108, .ref 108].toArray) [].toArray
noncomputable def o_112 (P : Params) : Obj := Obj.mk (.type "builtin_function_or_method") none (.fields [.builtin "object.__init_subclass__", .ref 108].toArray) [].toArray
noncomputable def o_113 (P : Params) : Obj := Obj.mk (.type "tuple") none (.seq [.type "tuple"].toArray 0) [].toArray
noncomputable def o_114 (P : Params) : Obj := Obj.mk (.type "builtin_function_or_method") none (.fields [.builtin "type.__prepare__", .type "type"].toArray) [].toArray
noncomputable def o_115 (P : Params) : Obj := Obj.mk (.type "dict") none (.dict [sE P "__module__" 395 (.str "cpy313.importlib.metadata._collections" 286), sE P "__qualname__" 397 (.str "Pair" 396), sE P "__firstlineno__" 399 (.int 44 398), sE P "__doc__" 401 (.str "Pair(name, value)" 400), sE P "__slots__" 403 (.ref 121), sE P "_fields" 406 (.ref 122), sE P "_field_defaults" 407 (.ref 123), sE P "__new__" 417 (.ref 130), sE P "_make" 439 (.ref 139), sE P "_replace" 450 (.ref 148), sE P "__replace__" 451 (.ref 148), sE P "__repr__" 459 (.ref 155), sE P "_asdict" 466 (.ref 162), sE P "__getnewargs__" 474 (.ref 169), sE P "__match_args__" 477 (.ref 170), sE P "name" 487 (.ref 172), sE P "value" 497 (.ref 175), sE P "__static_attributes__" 498 (.ref 177), sE P "__classcell__" 499 (.ref 116)].toArray 19) [].toArray
noncomputable def o_116 (P : Params) : Obj := Obj.mk (.type "cell") none (.cell (some (.ref 180))) [].toArray
noncomputable def o_117 (P : Params) : Obj := Obj.mk (.type "tuple") none (.seq [].toArray 0) [].toArray
noncomputable def o_118 (P : Params) : Obj := Obj.mk .none none (.fields [.int 50 0, .int 4 0, .ref 129, .int 55 0, .int 4 0, .ref 136, .int 62 0, .int 4 0, .ref 147, .int 73 0, .int 4 0, .ref 154, .int 77 0, .int 4 0, .ref 161, .int 80 0, .int 4 0, .ref 168].toArray) [].toArray
noncomputable def o_119 (P : Params) : Obj := Obj.mk (.type "code") none (.fields [.str "Pair" 390, .str "Pair" 391, .str "/claim/cut.py" 392, .int 44 0, .int 0 0, .int 0 0, .int 0 0, .int 0 0, .ref 117, .bool false, .int 273 0, .ref 118, .none, .none, .none, .none, .int 393 0, .int 44 0, .str "/claim/cut.py" 394].toArray) [].toArray
noncomputable def o_120 (P : Params) : Obj := Obj.mk (.type "frame") none .plain [some (.ref 119), some (.ref 3), some (.ref 115), none, some (.str "cpy313.importlib.metadata._collections" 286), none, some (.ref 0)].toArray
noncomputable def o_121 (P : Params) : Obj := Obj.mk (.type "tuple") none (.seq [].toArray 0) [].toArray
noncomputable def o_122 (P : Params) : Obj := Obj.mk (.type "tuple") none (.seq [.str "name" 404, .str "value" 405].toArray 0) [].toArray
noncomputable def o_123 (P : Params) : Obj := Obj.mk (.type "dict") none (.dict [].toArray 0) [].toArray
noncomputable def o_124 (P : Params) : Obj := Obj.mk (.type "tuple") none (.seq [].toArray 0) [].toArray
noncomputable def o_125 (P : Params) : Obj := Obj.mk .none none (.fields [].toArray) [].toArray
noncomputable def o_126 (P : Params) : Obj := Obj.mk (.type "tuple") none (.seq [.str "_cls" 411, .str "name" 412, .str "value" 413].toArray 0) [].toArray
noncomputable def o_127 (P : Params) : Obj := Obj.mk (.type "tuple") none (.seq [].toArray 0) [].toArray
noncomputable def o_128 (P : Params) : Obj := Obj.mk .none none (.func (FuncData.mk "__new__" "Pair.__new__" a5_4.1 (.stmts b5_4.1) s5_4.1 0 [] .none .none .none .none none .none .none 0)) [].toArray
noncomputable def o_129 (P : Params) : Obj := Obj.mk (.type "code") none (.fields [.str "__new__" 408, .str "Pair.__new__" 409, .str "/claim/cut.py" 410, .int 50 0, .int 3 0, .int 0 0, .int 0 0, .int 3 0, .ref 124, .bool true, .int 273 0, .ref 125, .none, .ref 126, .ref 127, .ref 128, .int 414 0, .int 50 0, .str "/claim/cut.py" 415].toArray) [].toArray
noncomputable def o_130 (P : Params) : Obj := Obj.mk (.type "function") none (.func (FuncData.mk "__new__" "Pair.__new__" a5_4.1 (.stmts b5_4.1) s5_4.1 3 [] .none .none (.str "Create new instance of Pair(name, value)" 416) (.str "cpy313.importlib.metadata._collections" 286) none (.ref 129) .none 0)) [].toArray
noncomputable def o_131 (P : Params) : Obj := Obj.mk (.type "tuple") none (.seq [].toArray 0) [].toArray
noncomputable def o_132 (P : Params) : Obj := Obj.mk .none none (.fields [].toArray) [].toArray
noncomputable def o_133 (P : Params) : Obj := Obj.mk (.type "tuple") none (.seq [.str "cls" 421, .str "iterable" 422, .str "result" 423].toArray 0) [].toArray
noncomputable def o_134 (P : Params) : Obj := Obj.mk (.type "tuple") none (.seq [].toArray 0) [].toArray
noncomputable def o_135 (P : Params) : Obj := Obj.mk .none none (.func (FuncData.mk "_make" "Pair._make" a5_5.1 (.stmts b5_5.1) s5_5.1 0 [] .none .none .none .none none .none .none 0)) [].toArray
noncomputable def o_136 (P : Params) : Obj := Obj.mk (.type "code") none (.fields [.str "_make" 418, .str "Pair._make" 419, .str "/claim/cut.py" 420, .int 54 0, .int 2 0, .int 0 0, .int 0 0, .int 3 0, .ref 131, .bool true, .int 273 0, .ref 132, .none, .ref 133, .ref 134, .ref 135, .int 424 0, .int 54 0, .str "/claim/cut.py" 425].toArray) [].toArray
noncomputable def o_137 (P : Params) : Obj := Obj.mk (.type "function") none (.func (FuncData.mk "_make" "Pair._make" a5_5.1 (.stmts b5_5.1) s5_5.1 3 [] .none .none (.str "Make a new Pair object from a sequence or iterable" 426) (.str "cpy313.importlib.metadata._collections" 286) (some 140) (.ref 136) .none 0)) [].toArray
noncomputable def o_138 (P : Params) : Obj := Obj.mk (.type "dict") none (.dict [sE P "__module__" 428 (.str "cpy313.importlib.metadata._collections" 286), sE P "__name__" 431 (.str "_make" 430), sE P "__qualname__" 434 (.str "Pair._make" 433), sE P "__doc__" 436 (.str "Make a new Pair object from a sequence or iterable" 426), sE P "__annotations__" 438 (.ref 140)].toArray 5) [].toArray
noncomputable def o_139 (P : Params) : Obj := Obj.mk (.type "classmethod") (some 138) (.fields [.ref 137, .bool false].toArray) [].toArray
noncomputable def o_140 (P : Params) : Obj := Obj.mk (.type "dict") none (.dict [].toArray 0) [].toArray
noncomputable def o_141 (P : Params) : Obj := Obj.mk (.type "tuple") none (.seq [.ref 116].toArray 0) [].toArray
noncomputable def o_142 (P : Params) : Obj := Obj.mk (.type "tuple") none (.seq [.str "__class__" 443].toArray 0) [].toArray
noncomputable def o_143 (P : Params) : Obj := Obj.mk .none none (.fields [].toArray) [].toArray
noncomputable def o_144 (P : Params) : Obj := Obj.mk (.type "tuple") none (.seq [.str "self" 444, .str "kwds" 445, .str "result" 446].toArray 0) [].toArray
noncomputable def o_145 (P : Params) : Obj := Obj.mk (.type "tuple") none (.seq [].toArray 0) [].toArray
noncomputable def o_146 (P : Params) : Obj := Obj.mk .none none (.func (FuncData.mk "_replace" "Pair._replace" a5_6.1 (.stmts b5_6.1) s5_6.1 0 [] .none .none .none .none none .none .none 0)) [].toArray
noncomputable def o_147 (P : Params) : Obj := Obj.mk (.type "code") none (.fields [.str "_replace" 440, .str "Pair._replace" 441, .str "/claim/cut.py" 442, .int 62 0, .int 1 0, .int 1 0, .int 0 0, .int 11 0, .ref 142, .bool true, .int 273 0, .ref 143, .none, .ref 144, .ref 145, .ref 146, .int 447 0, .int 62 0, .str "/claim/cut.py" 448].toArray) [].toArray
noncomputable def o_148 (P : Params) : Obj := Obj.mk (.type "function") none (.func (FuncData.mk "_replace" "Pair._replace" a5_6.1 (.stmts b5_6.1) s5_6.1 3 [("__class__", 116)] .none .none (.str "Return a new Pair object replacing specified fields with new values" 449) (.str "cpy313.importlib.metadata._collections" 286) none (.ref 147) (.ref 141) 0)) [].toArray
noncomputable def o_149 (P : Params) : Obj := Obj.mk (.type "tuple") none (.seq [].toArray 0) [].toArray
noncomputable def o_150 (P : Params) : Obj := Obj.mk .none none (.fields [].toArray) [].toArray
noncomputable def o_151 (P : Params) : Obj := Obj.mk (.type "tuple") none (.seq [.str "self" 455].toArray 0) [].toArray
noncomputable def o_152 (P : Params) : Obj := Obj.mk (.type "tuple") none (.seq [].toArray 0) [].toArray
noncomputable def o_153 (P : Params) : Obj := Obj.mk .none none (.func (FuncData.mk "__repr__" "Pair.__repr__" a5_8.1 (.stmts b5_8.1) s5_8.1 0 [] .none .none .none .none none .none .none 0)) [].toArray
noncomputable def o_154 (P : Params) : Obj := Obj.mk (.type "code") none (.fields [.str "__repr__" 452, .str "Pair.__repr__" 453, .str "/claim/cut.py" 454, .int 73 0, .int 1 0, .int 0 0, .int 0 0, .int 3 0, .ref 149, .bool true, .int 273 0, .ref 150, .none, .ref 151, .ref 152, .ref 153, .int 456 0, .int 73 0, .str "/claim/cut.py" 457].toArray) [].toArray
noncomputable def o_155 (P : Params) : Obj := Obj.mk (.type "function") none (.func (FuncData.mk "__repr__" "Pair.__repr__" a5_8.1 (.stmts b5_8.1) s5_8.1 3 [] .none .none (.str "Return a nicely formatted representation string" 458) (.str "cpy313.importlib.metadata._collections" 286) none (.ref 154) .none 0)) [].toArray
noncomputable def o_156 (P : Params) : Obj := Obj.mk (.type "tuple") none (.seq [].toArray 0) [].toArray
noncomputable def o_157 (P : Params) : Obj := Obj.mk .none none (.fields [].toArray) [].toArray
noncomputable def o_158 (P : Params) : Obj := Obj.mk (.type "tuple") none (.seq [.str "self" 463].toArray 0) [].toArray
noncomputable def o_159 (P : Params) : Obj := Obj.mk (.type "tuple") none (.seq [].toArray 0) [].toArray
noncomputable def o_160 (P : Params) : Obj := Obj.mk .none none (.func (FuncData.mk "_asdict" "Pair._asdict" a5_9.1 (.stmts b5_9.1) s5_9.1 0 [] .none .none .none .none none .none .none 0)) [].toArray
noncomputable def o_161 (P : Params) : Obj := Obj.mk (.type "code") none (.fields [.str "_asdict" 460, .str "Pair._asdict" 461, .str "/claim/cut.py" 462, .int 77 0, .int 1 0, .int 0 0, .int 0 0, .int 3 0, .ref 156, .bool true, .int 273 0, .ref 157, .none, .ref 158, .ref 159, .ref 160, .int 464 0, .int 77 0, .str "/claim/cut.py" 465].toArray) [].toArray
noncomputable def o_162 (P : Params) : Obj := Obj.mk (.type "function") none (.func (FuncData.mk "_asdict" "Pair._asdict" a5_9.1 (.stmts b5_9.1) s5_9.1 3 [] .none .none .none (.str "cpy313.importlib.metadata._collections" 286) none (.ref 161) .none 0)) [].toArray
noncomputable def o_163 (P : Params) : Obj := Obj.mk (.type "tuple") none (.seq [].toArray 0) [].toArray
noncomputable def o_164 (P : Params) : Obj := Obj.mk .none none (.fields [].toArray) [].toArray
noncomputable def o_165 (P : Params) : Obj := Obj.mk (.type "tuple") none (.seq [.str "self" 470].toArray 0) [].toArray
noncomputable def o_166 (P : Params) : Obj := Obj.mk (.type "tuple") none (.seq [].toArray 0) [].toArray
noncomputable def o_167 (P : Params) : Obj := Obj.mk .none none (.func (FuncData.mk "__getnewargs__" "Pair.__getnewargs__" a5_10.1 (.stmts b5_10.1) s5_10.1 0 [] .none .none .none .none none .none .none 0)) [].toArray
noncomputable def o_168 (P : Params) : Obj := Obj.mk (.type "code") none (.fields [.str "__getnewargs__" 467, .str "Pair.__getnewargs__" 468, .str "/claim/cut.py" 469, .int 80 0, .int 1 0, .int 0 0, .int 0 0, .int 3 0, .ref 163, .bool true, .int 273 0, .ref 164, .none, .ref 165, .ref 166, .ref 167, .int 471 0, .int 80 0, .str "/claim/cut.py" 472].toArray) [].toArray
noncomputable def o_169 (P : Params) : Obj := Obj.mk (.type "function") none (.func (FuncData.mk "__getnewargs__" "Pair.__getnewargs__" a5_10.1 (.stmts b5_10.1) s5_10.1 3 [] .none .none (.str "Return self as a plain tuple.  Used by copy and pickle." 473) (.str "cpy313.importlib.metadata._collections" 286) none (.ref 168) .none 0)) [].toArray
noncomputable def o_170 (P : Params) : Obj := Obj.mk (.type "tuple") none (.seq [.str "name" 475, .str "value" 476].toArray 0) [].toArray
noncomputable def o_171 (P : Params) : Obj := Obj.mk (.type "dict") none (.dict [sE P "index" 484 (.int 0 478), sE P "__doc__" 486 (.str "Alias for field number 0" 479)].toArray 2) [].toArray
noncomputable def o_172 (P : Params) : Obj := Obj.mk (.ref 78) (some 171) .plain [].toArray
noncomputable def o_173 (P : Params) : Obj := Obj.mk (.type "frame") none (.dict [sE P "self" 480 (.ref 172), sE P "index" 481 (.int 0 478), sE P "doc" 482 (.str "Alias for field number 0" 479)].toArray 3) [].toArray
noncomputable def o_174 (P : Params) : Obj := Obj.mk (.type "dict") none (.dict [sE P "index" 494 (.int 1 488), sE P "__doc__" 496 (.str "Alias for field number 1" 489)].toArray 2) [].toArray
noncomputable def o_175 (P : Params) : Obj := Obj.mk (.ref 78) (some 174) .plain [].toArray
noncomputable def o_176 (P : Params) : Obj := Obj.mk (.type "frame") none (.dict [sE P "self" 490 (.ref 175), sE P "index" 491 (.int 1 488), sE P "doc" 492 (.str "Alias for field number 1" 489)].toArray 3) [].toArray
noncomputable def o_177 (P : Params) : Obj := Obj.mk (.type "tuple") none (.seq [].toArray 0) [].toArray
noncomputable def o_178 (P : Params) : Obj := Obj.mk (.type "list") none (.seq [].toArray 0) [].toArray
noncomputable def o_179 (P : Params) : Obj := Obj.mk (.type "dict") none (.dict [sE P "__module__" 395 (.str "cpy313.importlib.metadata._collections" 286), sE P "__firstlineno__" 399 (.int 44 398), sE P "__doc__" 401 (.str "Pair(name, value)" 400), sE P "__slots__" 403 (.ref 121), sE P "_fields" 406 (.ref 122), sE P "_field_defaults" 407 (.ref 123), sE P "__new__" 417 (.ref 181), sE P "_make" 439 (.ref 139), sE P "_replace" 450 (.ref 148), sE P "__replace__" 451 (.ref 148), sE P "__repr__" 459 (.ref 155), sE P "_asdict" 466 (.ref 162), sE P "__getnewargs__" 474 (.ref 169), sE P "__match_args__" 477 (.ref 170), sE P "name" 487 (.ref 172), sE P "value" 497 (.ref 175), sE P "__static_attributes__" 498 (.ref 177)].toArray 2) [].toArray
noncomputable def o_180 (P : Params) : Obj := Obj.mk (.type "type") none (.cls (ClassData.mk "Pair" [.type "tuple"] [.ref 180, .type "tuple", .type "object"] 179 "Pair" false [] [.ref 203] false none false)) [some (.ref 113), none, some (.str "Pair" 388), some (.str "Pair" 396), some .none, some (.bool false)].toArray
noncomputable def o_181 (P : Params) : Obj := Obj.mk (.type "staticmethod") none (.fields [.ref 130].toArray) [].toArray
noncomputable def o_182 (P : Params) : Obj := Obj.mk (.type "super") none (.fields [.ref 180, .ref 180, .ref 180].toArray) [].toArray
noncomputable def o_183 (P : Params) : Obj := Obj.mk (.type "builtin_function_or_method") none (.fields [.builtin "object.__init_subclass__", .ref 180].toArray) [].toArray
noncomputable def o_184 (P : Params) : Obj := Obj.mk (.type "tuple") none (.seq [.ref 180].toArray 0) [].toArray
noncomputable def o_185 (P : Params) : Obj := Obj.mk (.type "builtin_function_or_method") none (.fields [.builtin "type.__prepare__", .type "type"].toArray) [].toArray
noncomputable def o_186 (P : Params) : Obj := Obj.mk (.type "dict") none (.dict [sE P "__module__" 510 (.str "cpy313.importlib.metadata._collections" 286), sE P "__qualname__" 512 (.str "Pair" 511), sE P "__firstlineno__" 514 (.int 86 513), sE P "parse" 534 (.ref 199), sE P "__static_attributes__" 535 (.ref 201)].toArray 5) [].toArray
noncomputable def o_187 (P : Params) : Obj := Obj.mk (.type "tuple") none (.seq [].toArray 0) [].toArray
noncomputable def o_188 (P : Params) : Obj := Obj.mk .none none (.fields [.int 89 0, .int 4 0, .ref 196].toArray) [].toArray
noncomputable def o_189 (P : Params) : Obj := Obj.mk (.type "code") none (.fields [.str "Pair" 505, .str "Pair" 506, .str "/claim/cut.py" 507, .int 86 0, .int 0 0, .int 0 0, .int 0 0, .int 0 0, .ref 187, .bool false, .int 273 0, .ref 188, .none, .none, .none, .none, .int 508 0, .int 86 0, .str "/claim/cut.py" 509].toArray) [].toArray
noncomputable def o_190 (P : Params) : Obj := Obj.mk (.type "frame") none .plain [some (.ref 189), some (.ref 3), some (.ref 186), none, some (.str "cpy313.importlib.metadata._collections" 286), none, some (.ref 0)].toArray
noncomputable def o_191 (P : Params) : Obj := Obj.mk (.type "tuple") none (.seq [].toArray 0) [].toArray
noncomputable def o_192 (P : Params) : Obj := Obj.mk .none none (.fields [].toArray) [].toArray
noncomputable def o_193 (P : Params) : Obj := Obj.mk (.type "tuple") none (.seq [.str "cls" 518, .str "text" 519].toArray 0) [].toArray
noncomputable def o_194 (P : Params) : Obj := Obj.mk (.type "tuple") none (.seq [].toArray 0) [].toArray
noncomputable def o_195 (P : Params) : Obj := Obj.mk .none none (.func (FuncData.mk "parse" "Pair.parse" a6_0.1 (.stmts b6_0.1) s6_0.1 0 [] .none .none .none .none none .none .none 0)) [].toArray
noncomputable def o_196 (P : Params) : Obj := Obj.mk (.type "code") none (.fields [.str "parse" 515, .str "Pair.parse" 516, .str "/claim/cut.py" 517, .int 88 0, .int 2 0, .int 0 0, .int 0 0, .int 3 0, .ref 191, .bool true, .int 273 0, .ref 192, .none, .ref 193, .ref 194, .ref 195, .int 520 0, .int 88 0, .str "/claim/cut.py" 521].toArray) [].toArray
noncomputable def o_197 (P : Params) : Obj := Obj.mk (.type "function") none (.func (FuncData.mk "parse" "Pair.parse" a6_0.1 (.stmts b6_0.1) s6_0.1 3 [] .none .none .none (.str "cpy313.importlib.metadata._collections" 286) (some 200) (.ref 196) .none 0)) [].toArray
noncomputable def o_198 (P : Params) : Obj := Obj.mk (.type "dict") none (.dict [sE P "__module__" 523 (.str "cpy313.importlib.metadata._collections" 286), sE P "__name__" 526 (.str "parse" 525), sE P "__qualname__" 529 (.str "Pair.parse" 528), sE P "__doc__" 531 .none, sE P "__annotations__" 533 (.ref 200)].toArray 5) [].toArray
noncomputable def o_199 (P : Params) : Obj := Obj.mk (.type "classmethod") (some 198) (.fields [.ref 197, .bool false].toArray) [].toArray
noncomputable def o_200 (P : Params) : Obj := Obj.mk (.type "dict") none (.dict [].toArray 0) [].toArray
noncomputable def o_201 (P : Params) : Obj := Obj.mk (.type "tuple") none (.seq [].toArray 0) [].toArray
noncomputable def o_202 (P : Params) : Obj := Obj.mk (.type "dict") none (.dict [sE P "__module__" 510 (.str "cpy313.importlib.metadata._collections" 286), sE P "__firstlineno__" 514 (.int 86 513), sE P "parse" 534 (.ref 199), sE P "__static_attributes__" 535 (.ref 201), sE P "__dict__" 537 (.ref 204), sE P "__doc__" 538 .none].toArray 3) [].toArray
noncomputable def o_203 (P : Params) : Obj := Obj.mk (.type "type") none (.cls (ClassData.mk "Pair" [.ref 180] [.ref 203, .ref 180, .type "tuple", .type "object"] 202 "Pair" true [] [] false none false)) [some (.ref 184), none, some (.str "Pair" 503), some (.str "Pair" 511), some .none, some (.bool false)].toArray
noncomputable def o_204 (P : Params) : Obj := Obj.mk (.type "getset_descriptor") none (.fields [.str "__dict__" 536, .ref 203, .builtin "function.__dict__", .builtin "function.__dict__#set"].toArray) [].toArray
noncomputable def o_205 (P : Params) : Obj := Obj.mk (.type "super") none (.fields [.ref 203, .ref 203, .ref 203].toArray) [].toArray
noncomputable def o_206 (P : Params) : Obj := Obj.mk (.type "builtin_function_or_method") none (.fields [.builtin "object.__init_subclass__", .ref 203].toArray) [].toArray
noncomputable def o_207 (P : Params) : Obj := Obj.mk (.type "list") none (.seq [.int 173 543, .int 847 544, .int 6150 545, .int 6155 546, .int 6156 547, .int 6157 548, .int 8203 549, .int 8204 550, .int 8205 551, .int 8288 552, .int 65279 553].toArray 0) [].toArray
noncomputable def o_208 (P : Params) : Obj := Obj.mk (.type "range") none (.fields [.int 65024 554, .int 65040 555, .int 1 556].toArray) [].toArray
noncomputable def o_209 (P : Params) : Obj := Obj.mk (.type "list") none (.seq [.int 65024 559, .int 65025 560, .int 65026 561, .int 65027 562, .int 65028 563, .int 65029 564, .int 65030 565, .int 65031 566, .int 65032 567, .int 65033 568, .int 65034 569, .int 65035 570, .int 65036 571, .int 65037 572, .int 65038 573, .int 65039 574].toArray 18) [].toArray
noncomputable def o_210 (P : Params) : Obj := Obj.mk (.type "range_iterator") none (.fields [.int 65040 0, .int 0 0, .int 1 0].toArray) [].toArray
noncomputable def o_211 (P : Params) : Obj := Obj.mk (.type "tuple") none (.seq [].toArray 0) [].toArray
noncomputable def o_212 (P : Params) : Obj := Obj.mk (.type "StopIteration") none (.fields [.ref 211, .none, .none, .none, .bool false, .none].toArray) [].toArray
noncomputable def o_213 (P : Params) : Obj := Obj.mk (.type "list") none (.seq [.int 173 543, .int 847 544, .int 6150 545, .int 6155 546, .int 6156 547, .int 6157 548, .int 8203 549, .int 8204 550, .int 8205 551, .int 8288 552, .int 65279 553, .int 65024 559, .int 65025 560, .int 65026 561, .int 65027 562, .int 65028 563, .int 65029 564, .int 65030 565, .int 65031 566, .int 65032 567, .int 65033 568, .int 65034 569, .int 65035 570, .int 65036 571, .int 65037 572, .int 65038 573, .int 65039 574].toArray 0) [].toArray
noncomputable def e_214 : List (Int × Value) := [(65024, .int 65024 559), (65025, .int 65025 560), (65026, .int 65026 561), (65027, .int 65027 562), (65028, .int 65028 563), (65029, .int 65029 564), (6150, .int 6150 545), (65030, .int 65030 565), (65031, .int 65031 566), (65032, .int 65032 567), (65033, .int 65033 568), (6155, .int 6155 546), (6156, .int 6156 547), (6157, .int 6157 548), (8203, .int 8203 549), (8204, .int 8204 550), (8205, .int 8205 551), (65034, .int 65034 569), (65035, .int 65035 570), (65036, .int 65036 571), (65037, .int 65037 572), (65038, .int 65038 573), (65039, .int 65039 574), (173, .int 173 543), (847, .int 847 544), (8288, .int 8288 552), (65279, .int 65279 553)]
noncomputable def o_214 (P : Params) : Obj := Obj.mk (.type "set") none (.set e_214.toArray 29 (SetTable.mk 127 [0, 1, 2, 3, 4, 5, 6, 7, 8, 9, 10, 11, 12, 13, 14, 15, 16, 17, 18, 19, 20, 21, 22, 45, 79, 96, 127].toArray [].toArray 0 (!(P.followText "set-order")) 2 true)) [].toArray
noncomputable def o_215 (P : Params) : Obj := Obj.mk (.type "list_iterator") none (.fields [.none, .int 27 0].toArray) [].toArray
noncomputable def o_216 (P : Params) : Obj := Obj.mk (.type "tuple") none (.seq [].toArray 0) [].toArray
noncomputable def o_217 (P : Params) : Obj := Obj.mk (.type "StopIteration") none (.fields [.ref 216, .none, .none, .none, .bool false, .none].toArray) [].toArray
noncomputable def o_218 (P : Params) : Obj := Obj.mk (.type "tuple") none (.seq [].toArray 0) [].toArray
noncomputable def o_219 (P : Params) : Obj := Obj.mk .none none (.fields [].toArray) [].toArray
noncomputable def o_220 (P : Params) : Obj := Obj.mk (.type "tuple") none (.seq [.str "code" 606].toArray 0) [].toArray
noncomputable def o_221 (P : Params) : Obj := Obj.mk (.type "tuple") none (.seq [].toArray 0) [].toArray
noncomputable def o_222 (P : Params) : Obj := Obj.mk .none none (.func (FuncData.mk "in_table_b1" "in_table_b1" a9.1 (.stmts b9.1) s9.1 0 [] .none .none .none .none none .none .none 0)) [].toArray
noncomputable def o_223 (P : Params) : Obj := Obj.mk (.type "code") none (.fields [.str "in_table_b1" 603, .str "in_table_b1" 604, .str "/claim/cut.py" 605, .int 93 0, .int 1 0, .int 0 0, .int 0 0, .int 3 0, .ref 218, .bool true, .int 273 0, .ref 219, .none, .ref 220, .ref 221, .ref 222, .int 607 0, .int 93 0, .str "/claim/cut.py" 608].toArray) [].toArray
noncomputable def o_224 (P : Params) : Obj := Obj.mk (.type "function") none (.func (FuncData.mk "in_table_b1" "in_table_b1" a9.1 (.stmts b9.1) s9.1 3 [] .none .none .none (.str "cpy313.stringprep" 541) none (.ref 223) .none 0)) [].toArray
noncomputable def e_225 : List DictEntry := [xE 181 610 "μ", xE 223 613 "ss", xE 304 616 "i̇", xE 329 619 "ʼn", xE 383 622 "s", xE 496 625 "ǰ", xE 837 628 "ι", xE 890 631 " ι", xE 912 634 "ΐ", xE 944 637 "ΰ", xE 962 640 "σ", xE 976 643 "β", xE 977 646 "θ", xE 978 649 "υ", xE 979 652 "ύ", xE 980 655 "ϋ", xE 981 658 "φ", xE 982 661 "π", xE 1008 664 "κ", xE 1009 667 "ρ", xE 1010 670 "σ", xE 1013 673 "ε", xE 1415 676 "եւ", xE 7830 679 "ẖ", xE 7831 682 "ẗ", xE 7832 685 "ẘ", xE 7833 688 "ẙ", xE 7834 691 "aʾ", xE 7835 694 "ṡ", xE 8016 697 "ὐ", xE 8018 700 "ὒ", xE 8020 703 "ὔ", xE 8022 706 "ὖ", xE 8064 709 "ἀι", xE 8065 712 "ἁι", xE 8066 715 "ἂι", xE 8067 718 "ἃι", xE 8068 721 "ἄι", xE 8069 724 "ἅι", xE 8070 727 "ἆι", xE 8071 730 "ἇι", xE 8072 733 "ἀι", xE 8073 736 "ἁι", xE 8074 739 "ἂι", xE 8075 742 "ἃι", xE 8076 745 "ἄι", xE 8077 748 "ἅι", xE 8078 751 "ἆι", xE 8079 754 "ἇι", xE 8080 757 "ἠι", xE 8081 760 "ἡι", xE 8082 763 "ἢι", xE 8083 766 "ἣι", xE 8084 769 "ἤι", xE 8085 772 "ἥι", xE 8086 775 "ἦι", xE 8087 778 "ἧι", xE 8088 781 "ἠι", xE 8089 784 "ἡι", xE 8090 787 "ἢι", xE 8091 790 "ἣι", xE 8092 793 "ἤι", xE 8093 796 "ἥι", xE 8094 799 "ἦι", xE 8095 802 "ἧι", xE 8096 805 "ὠι", xE 8097 808 "ὡι", xE 8098 811 "ὢι", xE 8099 814 "ὣι", xE 8100 817 "ὤι", xE 8101 820 "ὥι", xE 8102 823 "ὦι", xE 8103 826 "ὧι", xE 8104 829 "ὠι", xE 8105 832 "ὡι", xE 8106 835 "ὢι", xE 8107 838 "ὣι", xE 8108 841 "ὤι", xE 8109 844 "ὥι", xE 8110 847 "ὦι", xE 8111 850 "ὧι", xE 8114 853 "ὰι", xE 8115 856 "αι", xE 8116 859 "άι", xE 8118 862 "ᾶ", xE 8119 865 "ᾶι", xE 8124 868 "αι", xE 8126 871 "ι", xE 8130 874 "ὴι", xE 8131 877 "ηι", xE 8132 880 "ήι", xE 8134 883 "ῆ", xE 8135 886 "ῆι", xE 8140 889 "ηι", xE 8146 892 "ῒ", xE 8147 895 "ΐ", xE 8150 898 "ῖ", xE 8151 901 "ῗ", xE 8162 904 "ῢ", xE 8163 907 "ΰ", xE 8164 910 "ῤ", xE 8166 913 "ῦ", xE 8167 916 "ῧ", xE 8178 919 "ὼι", xE 8179 922 "ωι", xE 8180 925 "ώι", xE 8182 928 "ῶ", xE 8183 931 "ῶι", xE 8188 934 "ωι", xE 8360 937 "rs", xE 8450 940 "c", xE 8451 943 "°c", xE 8455 946 "ɛ", xE 8457 949 "°f", xE 8459 952 "h", xE 8460 955 "h", xE 8461 958 "h", xE 8464 961 "i", xE 8465 964 "i", xE 8466 967 "l", xE 8469 970 "n", xE 8470 973 "no", xE 8473 976 "p", xE 8474 979 "q", xE 8475 982 "r", xE 8476 985 "r", xE 8477 988 "r", xE 8480 991 "sm", xE 8481 994 "tel", xE 8482 997 "tm", xE 8484 1000 "z", xE 8488 1003 "z", xE 8492 1006 "b", xE 8493 1009 "c", xE 8496 1012 "e", xE 8497 1015 "f", xE 8499 1018 "m", xE 8510 1021 "γ", xE 8511 1024 "π", xE 8517 1027 "d", xE 13169 1030 "hpa", xE 13171 1033 "au", xE 13173 1036 "ov", xE 13184 1039 "pa", xE 13185 1042 "na", xE 13186 1045 "μa", xE 13187 1048 "ma", xE 13188 1051 "ka", xE 13189 1054 "kb", xE 13190 1057 "mb", xE 13191 1060 "gb", xE 13194 1063 "pf", xE 13195 1066 "nf", xE 13196 1069 "μf", xE 13200 1072 "hz", xE 13201 1075 "khz", xE 13202 1078 "mhz", xE 13203 1081 "ghz", xE 13204 1084 "thz", xE 13225 1087 "pa", xE 13226 1090 "kpa", xE 13227 1093 "mpa", xE 13228 1096 "gpa", xE 13236 1099 "pv", xE 13237 1102 "nv", xE 13238 1105 "μv", xE 13239 1108 "mv", xE 13240 1111 "kv", xE 13241 1114 "mv", xE 13242 1117 "pw", xE 13243 1120 "nw", xE 13244 1123 "μw", xE 13245 1126 "mw", xE 13246 1129 "kw", xE 13247 1132 "mw", xE 13248 1135 "kω", xE 13249 1138 "mω", xE 13251 1141 "bq", xE 13254 1144 "c∕kg", xE 13255 1147 "co.", xE 13256 1150 "db", xE 13257 1153 "gy", xE 13259 1156 "hp", xE 13261 1159 "kk", xE 13262 1162 "km", xE 13271 1165 "ph", xE 13273 1168 "ppm", xE 13274 1171 "pr", xE 13276 1174 "sv", xE 13277 1177 "wb", xE 64256 1180 "ff", xE 64257 1183 "fi", xE 64258 1186 "fl", xE 64259 1189 "ffi", xE 64260 1192 "ffl", xE 64261 1195 "st", xE 64262 1198 "st", xE 64275 1201 "մն", xE 64276 1204 "մե", xE 64277 1207 "մի", xE 64278 1210 "վն", xE 64279 1213 "մխ", xE 119808 1216 "a", xE 119809 1219 "b", xE 119810 1222 "c", xE 119811 1225 "d", xE 119812 1228 "e", xE 119813 1231 "f", xE 119814 1234 "g", xE 119815 1237 "h", xE 119816 1240 "i", xE 119817 1243 "j", xE 119818 1246 "k", xE 119819 1249 "l", xE 119820 1252 "m", xE 119821 1255 "n", xE 119822 1258 "o", xE 119823 1261 "p", xE 119824 1264 "q", xE 119825 1267 "r", xE 119826 1270 "s", xE 119827 1273 "t", xE 119828 1276 "u", xE 119829 1279 "v", xE 119830 1282 "w", xE 119831 1285 "x", xE 119832 1288 "y", xE 119833 1291 "z", xE 119860 1294 "a", xE 119861 1297 "b", xE 119862 1300 "c", xE 119863 1303 "d", xE 119864 1306 "e", xE 119865 1309 "f", xE 119866 1312 "g", xE 119867 1315 "h", xE 119868 1318 "i", xE 119869 1321 "j", xE 119870 1324 "k", xE 119871 1327 "l", xE 119872 1330 "m", xE 119873 1333 "n", xE 119874 1336 "o", xE 119875 1339 "p", xE 119876 1342 "q", xE 119877 1345 "r", xE 119878 1348 "s", xE 119879 1351 "t", xE 119880 1354 "u", xE 119881 1357 "v", xE 119882 1360 "w", xE 119883 1363 "x", xE 119884 1366 "y", xE 119885 1369 "z", xE 119912 1372 "a", xE 119913 1375 "b", xE 119914 1378 "c", xE 119915 1381 "d", xE 119916 1384 "e", xE 119917 1387 "f", xE 119918 1390 "g", xE 119919 1393 "h", xE 119920 1396 "i", xE 119921 1399 "j", xE 119922 1402 "k", xE 119923 1405 "l", xE 119924 1408 "m", xE 119925 1411 "n", xE 119926 1414 "o", xE 119927 1417 "p", xE 119928 1420 "q", xE 119929 1423 "r", xE 119930 1426 "s", xE 119931 1429 "t", xE 119932 1432 "u", xE 119933 1435 "v", xE 119934 1438 "w", xE 119935 1441 "x", xE 119936 1444 "y", xE 119937 1447 "z", xE 119964 1450 "a", xE 119966 1453 "c", xE 119967 1456 "d", xE 119970 1459 "g", xE 119973 1462 "j", xE 119974 1465 "k", xE 119977 1468 "n", xE 119978 1471 "o", xE 119979 1474 "p", xE 119980 1477 "q", xE 119982 1480 "s", xE 119983 1483 "t", xE 119984 1486 "u", xE 119985 1489 "v", xE 119986 1492 "w", xE 119987 1495 "x", xE 119988 1498 "y", xE 119989 1501 "z", xE 120016 1504 "a", xE 120017 1507 "b", xE 120018 1510 "c", xE 120019 1513 "d", xE 120020 1516 "e", xE 120021 1519 "f", xE 120022 1522 "g", xE 120023 1525 "h", xE 120024 1528 "i", xE 120025 1531 "j", xE 120026 1534 "k", xE 120027 1537 "l", xE 120028 1540 "m", xE 120029 1543 "n", xE 120030 1546 "o", xE 120031 1549 "p", xE 120032 1552 "q", xE 120033 1555 "r", xE 120034 1558 "s", xE 120035 1561 "t", xE 120036 1564 "u", xE 120037 1567 "v", xE 120038 1570 "w", xE 120039 1573 "x", xE 120040 1576 "y", xE 120041 1579 "z", xE 120068 1582 "a", xE 120069 1585 "b", xE 120071 1588 "d", xE 120072 1591 "e", xE 120073 1594 "f", xE 120074 1597 "g", xE 120077 1600 "j", xE 120078 1603 "k", xE 120079 1606 "l", xE 120080 1609 "m", xE 120081 1612 "n", xE 120082 1615 "o", xE 120083 1618 "p", xE 120084 1621 "q", xE 120086 1624 "s", xE 120087 1627 "t", xE 120088 1630 "u", xE 120089 1633 "v", xE 120090 1636 "w", xE 120091 1639 "x", xE 120092 1642 "y", xE 120120 1645 "a", xE 120121 1648 "b", xE 120123 1651 "d", xE 120124 1654 "e", xE 120125 1657 "f", xE 120126 1660 "g", xE 120128 1663 "i", xE 120129 1666 "j", xE 120130 1669 "k", xE 120131 1672 "l", xE 120132 1675 "m", xE 120134 1678 "o", xE 120138 1681 "s", xE 120139 1684 "t", xE 120140 1687 "u", xE 120141 1690 "v", xE 120142 1693 "w", xE 120143 1696 "x", xE 120144 1699 "y", xE 120172 1702 "a", xE 120173 1705 "b", xE 120174 1708 "c", xE 120175 1711 "d", xE 120176 1714 "e", xE 120177 1717 "f", xE 120178 1720 "g", xE 120179 1723 "h", xE 120180 1726 "i", xE 120181 1729 "j", xE 120182 1732 "k", xE 120183 1735 "l", xE 120184 1738 "m", xE 120185 1741 "n", xE 120186 1744 "o", xE 120187 1747 "p", xE 120188 1750 "q", xE 120189 1753 "r", xE 120190 1756 "s", xE 120191 1759 "t", xE 120192 1762 "u", xE 120193 1765 "v", xE 120194 1768 "w", xE 120195 1771 "x", xE 120196 1774 "y", xE 120197 1777 "z", xE 120224 1780 "a", xE 120225 1783 "b", xE 120226 1786 "c", xE 120227 1789 "d", xE 120228 1792 "e", xE 120229 1795 "f", xE 120230 1798 "g", xE 120231 1801 "h", xE 120232 1804 "i", xE 120233 1807 "j", xE 120234 1810 "k", xE 120235 1813 "l", xE 120236 1816 "m", xE 120237 1819 "n", xE 120238 1822 "o", xE 120239 1825 "p", xE 120240 1828 "q", xE 120241 1831 "r", xE 120242 1834 "s", xE 120243 1837 "t", xE 120244 1840 "u", xE 120245 1843 "v", xE 120246 1846 "w", xE 120247 1849 "x", xE 120248 1852 "y", xE 120249 1855 "z", xE 120276 1858 "a", xE 120277 1861 "b", xE 120278 1864 "c", xE 120279 1867 "d", xE 120280 1870 "e", xE 120281 1873 "f", xE 120282 1876 "g", xE 120283 1879 "h", xE 120284 1882 "i", xE 120285 1885 "j", xE 120286 1888 "k", xE 120287 1891 "l", xE 120288 1894 "m", xE 120289 1897 "n", xE 120290 1900 "o", xE 120291 1903 "p", xE 120292 1906 "q", xE 120293 1909 "r", xE 120294 1912 "s", xE 120295 1915 "t", xE 120296 1918 "u", xE 120297 1921 "v", xE 120298 1924 "w", xE 120299 1927 "x", xE 120300 1930 "y", xE 120301 1933 "z", xE 120328 1936 "a", xE 120329 1939 "b", xE 120330 1942 "c", xE 120331 1945 "d", xE 120332 1948 "e", xE 120333 1951 "f", xE 120334 1954 "g", xE 120335 1957 "h", xE 120336 1960 "i", xE 120337 1963 "j", xE 120338 1966 "k", xE 120339 1969 "l", xE 120340 1972 "m", xE 120341 1975 "n", xE 120342 1978 "o", xE 120343 1981 "p", xE 120344 1984 "q", xE 120345 1987 "r", xE 120346 1990 "s", xE 120347 1993 "t", xE 120348 1996 "u", xE 120349 1999 "v", xE 120350 2002 "w", xE 120351 2005 "x", xE 120352 2008 "y", xE 120353 2011 "z", xE 120380 2014 "a", xE 120381 2017 "b", xE 120382 2020 "c", xE 120383 2023 "d", xE 120384 2026 "e", xE 120385 2029 "f", xE 120386 2032 "g", xE 120387 2035 "h", xE 120388 2038 "i", xE 120389 2041 "j", xE 120390 2044 "k", xE 120391 2047 "l", xE 120392 2050 "m", xE 120393 2053 "n", xE 120394 2056 "o", xE 120395 2059 "p", xE 120396 2062 "q", xE 120397 2065 "r", xE 120398 2068 "s", xE 120399 2071 "t", xE 120400 2074 "u", xE 120401 2077 "v", xE 120402 2080 "w", xE 120403 2083 "x", xE 120404 2086 "y", xE 120405 2089 "z", xE 120432 2092 "a", xE 120433 2095 "b", xE 120434 2098 "c", xE 120435 2101 "d", xE 120436 2104 "e", xE 120437 2107 "f", xE 120438 2110 "g", xE 120439 2113 "h", xE 120440 2116 "i", xE 120441 2119 "j", xE 120442 2122 "k", xE 120443 2125 "l", xE 120444 2128 "m", xE 120445 2131 "n", xE 120446 2134 "o", xE 120447 2137 "p", xE 120448 2140 "q", xE 120449 2143 "r", xE 120450 2146 "s", xE 120451 2149 "t", xE 120452 2152 "u", xE 120453 2155 "v", xE 120454 2158 "w", xE 120455 2161 "x", xE 120456 2164 "y", xE 120457 2167 "z", xE 120488 2170 "α", xE 120489 2173 "β", xE 120490 2176 "γ", xE 120491 2179 "δ", xE 120492 2182 "ε", xE 120493 2185 "ζ", xE 120494 2188 "η", xE 120495 2191 "θ", xE 120496 2194 "ι", xE 120497 2197 "κ", xE 120498 2200 "λ", xE 120499 2203 "μ", xE 120500 2206 "ν", xE 120501 2209 "ξ", xE 120502 2212 "ο", xE 120503 2215 "π", xE 120504 2218 "ρ", xE 120505 2221 "θ", xE 120506 2224 "σ", xE 120507 2227 "τ", xE 120508 2230 "υ", xE 120509 2233 "φ", xE 120510 2236 "χ", xE 120511 2239 "ψ", xE 120512 2242 "ω", xE 120531 2245 "σ", xE 120546 2248 "α", xE 120547 2251 "β", xE 120548 2254 "γ", xE 120549 2257 "δ", xE 120550 2260 "ε", xE 120551 2263 "ζ", xE 120552 2266 "η", xE 120553 2269 "θ", xE 120554 2272 "ι", xE 120555 2275 "κ", xE 120556 2278 "λ", xE 120557 2281 "μ", xE 120558 2284 "ν", xE 120559 2287 "ξ", xE 120560 2290 "ο", xE 120561 2293 "π", xE 120562 2296 "ρ", xE 120563 2299 "θ", xE 120564 2302 "σ", xE 120565 2305 "τ", xE 120566 2308 "υ", xE 120567 2311 "φ", xE 120568 2314 "χ", xE 120569 2317 "ψ", xE 120570 2320 "ω", xE 120589 2323 "σ", xE 120604 2326 "α", xE 120605 2329 "β", xE 120606 2332 "γ", xE 120607 2335 "δ", xE 120608 2338 "ε", xE 120609 2341 "ζ", xE 120610 2344 "η", xE 120611 2347 "θ", xE 120612 2350 "ι", xE 120613 2353 "κ", xE 120614 2356 "λ", xE 120615 2359 "μ", xE 120616 2362 "ν", xE 120617 2365 "ξ", xE 120618 2368 "ο", xE 120619 2371 "π", xE 120620 2374 "ρ", xE 120621 2377 "θ", xE 120622 2380 "σ", xE 120623 2383 "τ", xE 120624 2386 "υ", xE 120625 2389 "φ", xE 120626 2392 "χ", xE 120627 2395 "ψ", xE 120628 2398 "ω", xE 120647 2401 "σ", xE 120662 2404 "α", xE 120663 2407 "β", xE 120664 2410 "γ", xE 120665 2413 "δ", xE 120666 2416 "ε", xE 120667 2419 "ζ", xE 120668 2422 "η", xE 120669 2425 "θ", xE 120670 2428 "ι", xE 120671 2431 "κ", xE 120672 2434 "λ", xE 120673 2437 "μ", xE 120674 2440 "ν", xE 120675 2443 "ξ", xE 120676 2446 "ο", xE 120677 2449 "π", xE 120678 2452 "ρ", xE 120679 2455 "θ", xE 120680 2458 "σ", xE 120681 2461 "τ", xE 120682 2464 "υ", xE 120683 2467 "φ", xE 120684 2470 "χ", xE 120685 2473 "ψ", xE 120686 2476 "ω", xE 120705 2479 "σ", xE 120720 2482 "α", xE 120721 2485 "β", xE 120722 2488 "γ", xE 120723 2491 "δ", xE 120724 2494 "ε", xE 120725 2497 "ζ", xE 120726 2500 "η", xE 120727 2503 "θ", xE 120728 2506 "ι", xE 120729 2509 "κ", xE 120730 2512 "λ", xE 120731 2515 "μ", xE 120732 2518 "ν", xE 120733 2521 "ξ", xE 120734 2524 "ο", xE 120735 2527 "π", xE 120736 2530 "ρ", xE 120737 2533 "θ", xE 120738 2536 "σ", xE 120739 2539 "τ", xE 120740 2542 "υ", xE 120741 2545 "φ", xE 120742 2548 "χ", xE 120743 2550 "ψ", xE 120744 2552 "ω", xE 120763 2554 "σ"]
noncomputable def o_225 (P : Params) : Obj := Obj.mk (.type "dict") none (.dict e_225.toArray 650) [].toArray
noncomputable def o_226 (P : Params) : Obj := Obj.mk (.type "dict") none (.dict ((e_225.drop (nat_lit 17)).take (nat_lit 17)).toArray (nat_lit 17)) [].toArray
noncomputable def o_227 (P : Params) : Obj := Obj.mk (.type "dict") none (.dict ((e_225.drop (nat_lit 34)).take (nat_lit 17)).toArray (nat_lit 17)) [].toArray
noncomputable def o_228 (P : Params) : Obj := Obj.mk (.type "dict") none (.dict ((e_225.drop (nat_lit 51)).take (nat_lit 17)).toArray (nat_lit 17)) [].toArray
noncomputable def o_229 (P : Params) : Obj := Obj.mk (.type "dict") none (.dict ((e_225.drop (nat_lit 68)).take (nat_lit 17)).toArray (nat_lit 17)) [].toArray
noncomputable def o_230 (P : Params) : Obj := Obj.mk (.type "dict") none (.dict ((e_225.drop (nat_lit 85)).take (nat_lit 17)).toArray (nat_lit 17)) [].toArray
noncomputable def o_231 (P : Params) : Obj := Obj.mk (.type "dict") none (.dict ((e_225.drop (nat_lit 102)).take (nat_lit 17)).toArray (nat_lit 17)) [].toArray
noncomputable def o_232 (P : Params) : Obj := Obj.mk (.type "dict") none (.dict ((e_225.drop (nat_lit 119)).take (nat_lit 17)).toArray (nat_lit 17)) [].toArray
noncomputable def o_233 (P : Params) : Obj := Obj.mk (.type "dict") none (.dict ((e_225.drop (nat_lit 136)).take (nat_lit 17)).toArray (nat_lit 17)) [].toArray
noncomputable def o_234 (P : Params) : Obj := Obj.mk (.type "dict") none (.dict ((e_225.drop (nat_lit 153)).take (nat_lit 17)).toArray (nat_lit 17)) [].toArray
noncomputable def o_235 (P : Params) : Obj := Obj.mk (.type "dict") none (.dict ((e_225.drop (nat_lit 170)).take (nat_lit 17)).toArray (nat_lit 17)) [].toArray
noncomputable def o_236 (P : Params) : Obj := Obj.mk (.type "dict") none (.dict ((e_225.drop (nat_lit 187)).take (nat_lit 17)).toArray (nat_lit 17)) [].toArray
noncomputable def o_237 (P : Params) : Obj := Obj.mk (.type "dict") none (.dict ((e_225.drop (nat_lit 204)).take (nat_lit 17)).toArray (nat_lit 17)) [].toArray
noncomputable def o_238 (P : Params) : Obj := Obj.mk (.type "dict") none (.dict ((e_225.drop (nat_lit 221)).take (nat_lit 17)).toArray (nat_lit 17)) [].toArray
noncomputable def o_239 (P : Params) : Obj := Obj.mk (.type "dict") none (.dict ((e_225.drop (nat_lit 238)).take (nat_lit 17)).toArray (nat_lit 17)) [].toArray
noncomputable def o_240 (P : Params) : Obj := Obj.mk (.type "dict") none (.dict ((e_225.drop (nat_lit 255)).take (nat_lit 17)).toArray (nat_lit 17)) [].toArray
noncomputable def o_241 (P : Params) : Obj := Obj.mk (.type "dict") none (.dict ((e_225.drop (nat_lit 272)).take (nat_lit 17)).toArray (nat_lit 17)) [].toArray
noncomputable def o_242 (P : Params) : Obj := Obj.mk (.type "dict") none (.dict ((e_225.drop (nat_lit 289)).take (nat_lit 17)).toArray (nat_lit 17)) [].toArray
noncomputable def o_243 (P : Params) : Obj := Obj.mk (.type "dict") none (.dict ((e_225.drop (nat_lit 306)).take (nat_lit 17)).toArray (nat_lit 17)) [].toArray
noncomputable def o_244 (P : Params) : Obj := Obj.mk (.type "dict") none (.dict ((e_225.drop (nat_lit 323)).take (nat_lit 17)).toArray (nat_lit 17)) [].toArray
noncomputable def o_245 (P : Params) : Obj := Obj.mk (.type "dict") none (.dict ((e_225.drop (nat_lit 340)).take (nat_lit 17)).toArray (nat_lit 17)) [].toArray
noncomputable def o_246 (P : Params) : Obj := Obj.mk (.type "dict") none (.dict ((e_225.drop (nat_lit 357)).take (nat_lit 17)).toArray (nat_lit 17)) [].toArray
noncomputable def o_247 (P : Params) : Obj := Obj.mk (.type "dict") none (.dict ((e_225.drop (nat_lit 374)).take (nat_lit 17)).toArray (nat_lit 17)) [].toArray
noncomputable def o_248 (P : Params) : Obj := Obj.mk (.type "dict") none (.dict ((e_225.drop (nat_lit 391)).take (nat_lit 17)).toArray (nat_lit 17)) [].toArray
noncomputable def o_249 (P : Params) : Obj := Obj.mk (.type "dict") none (.dict ((e_225.drop (nat_lit 408)).take (nat_lit 17)).toArray (nat_lit 17)) [].toArray
noncomputable def o_250 (P : Params) : Obj := Obj.mk (.type "dict") none (.dict ((e_225.drop (nat_lit 425)).take (nat_lit 17)).toArray (nat_lit 17)) [].toArray
noncomputable def o_251 (P : Params) : Obj := Obj.mk (.type "dict") none (.dict ((e_225.drop (nat_lit 442)).take (nat_lit 17)).toArray (nat_lit 17)) [].toArray
noncomputable def o_252 (P : Params) : Obj := Obj.mk (.type "dict") none (.dict ((e_225.drop (nat_lit 459)).take (nat_lit 17)).toArray (nat_lit 17)) [].toArray
noncomputable def o_253 (P : Params) : Obj := Obj.mk (.type "dict") none (.dict ((e_225.drop (nat_lit 476)).take (nat_lit 17)).toArray (nat_lit 17)) [].toArray
noncomputable def o_254 (P : Params) : Obj := Obj.mk (.type "dict") none (.dict ((e_225.drop (nat_lit 493)).take (nat_lit 17)).toArray (nat_lit 17)) [].toArray
noncomputable def o_255 (P : Params) : Obj := Obj.mk (.type "dict") none (.dict ((e_225.drop (nat_lit 510)).take (nat_lit 17)).toArray (nat_lit 17)) [].toArray
noncomputable def o_256 (P : Params) : Obj := Obj.mk (.type "dict") none (.dict ((e_225.drop (nat_lit 527)).take (nat_lit 17)).toArray (nat_lit 17)) [].toArray
noncomputable def o_257 (P : Params) : Obj := Obj.mk (.type "dict") none (.dict ((e_225.drop (nat_lit 544)).take (nat_lit 17)).toArray (nat_lit 17)) [].toArray
noncomputable def o_258 (P : Params) : Obj := Obj.mk (.type "dict") none (.dict ((e_225.drop (nat_lit 561)).take (nat_lit 17)).toArray (nat_lit 17)) [].toArray
noncomputable def o_259 (P : Params) : Obj := Obj.mk (.type "dict") none (.dict ((e_225.drop (nat_lit 578)).take (nat_lit 17)).toArray (nat_lit 17)) [].toArray
noncomputable def o_260 (P : Params) : Obj := Obj.mk (.type "dict") none (.dict ((e_225.drop (nat_lit 595)).take (nat_lit 17)).toArray (nat_lit 17)) [].toArray
noncomputable def o_261 (P : Params) : Obj := Obj.mk (.type "dict") none (.dict ((e_225.drop (nat_lit 612)).take (nat_lit 17)).toArray (nat_lit 17)) [].toArray
noncomputable def o_262 (P : Params) : Obj := Obj.mk (.type "dict") none (.dict ((e_225.drop (nat_lit 629)).take (nat_lit 17)).toArray (nat_lit 17)) [].toArray
noncomputable def o_263 (P : Params) : Obj := Obj.mk (.type "dict") none (.dict ((e_225.drop (nat_lit 646)).take (nat_lit 17)).toArray (nat_lit 4)) [].toArray
noncomputable def o_264 (P : Params) : Obj := Obj.mk (.type "tuple") none (.seq [].toArray 0) [].toArray
noncomputable def o_265 (P : Params) : Obj := Obj.mk .none none (.fields [].toArray) [].toArray
noncomputable def o_266 (P : Params) : Obj := Obj.mk (.type "tuple") none (.seq [.str "code" 2564, .str "r" 2565].toArray 0) [].toArray
noncomputable def o_267 (P : Params) : Obj := Obj.mk (.type "tuple") none (.seq [].toArray 0) [].toArray
noncomputable def o_268 (P : Params) : Obj := Obj.mk .none none (.func (FuncData.mk "map_table_b3" "map_table_b3" a11.1 (.stmts b11.1) s11.1 0 [] .none .none .none .none none .none .none 0)) [].toArray
noncomputable def o_269 (P : Params) : Obj := Obj.mk (.type "code") none (.fields [.str "map_table_b3" 2561, .str "map_table_b3" 2562, .str "/claim/cut.py" 2563, .int 96 0, .int 1 0, .int 0 0, .int 0 0, .int 3 0, .ref 264, .bool true, .int 273 0, .ref 265, .none, .ref 266, .ref 267, .ref 268, .int 2566 0, .int 96 0, .str "/claim/cut.py" 2567].toArray) [].toArray
noncomputable def o_270 (P : Params) : Obj := Obj.mk (.type "function") none (.func (FuncData.mk "map_table_b3" "map_table_b3" a11.1 (.stmts b11.1) s11.1 3 [] .none .none .none (.str "cpy313.stringprep" 541) none (.ref 269) .none 0)) [].toArray
noncomputable def o_271 (P : Params) : Obj := Obj.mk (.type "tuple") none (.seq [].toArray 0) [].toArray
noncomputable def o_272 (P : Params) : Obj := Obj.mk .none none (.fields [].toArray) [].toArray
noncomputable def o_273 (P : Params) : Obj := Obj.mk .none none (.func (FuncData.mk "_law_row" "_law_row" a13.1 (.stmts b13.1) s13.1 0 [] .none .none .none .none none .none .none 0)) [].toArray
noncomputable def o_274 (P : Params) : Obj := Obj.mk (.type "code") none (.fields [.str "_law_row" 2571, .str "_law_row" 2572, .str "/claim/cut.py" 2573, .int 102 0, .int 1 0, .int 0 0, .int 0 0, .int 3 0, .ref 271, .bool true, .int 273 0, .ref 272, .none, .none, .none, .ref 273, .int 2574 0, .int 102 0, .str "/claim/cut.py" 2575].toArray) [].toArray
noncomputable def o_275 (P : Params) : Obj := Obj.mk (.type "function") none (.func (FuncData.mk "_law_row" "_law_row" a13.1 (.stmts b13.1) s13.1 3 [] .none .none .none (.str "law_in0022_01" 2569) none (.ref 274) .none 0)) [].toArray
noncomputable def o_276 (P : Params) : Obj := Obj.mk (.type "tuple") none (.seq [].toArray 0) [].toArray
noncomputable def o_277 (P : Params) : Obj := Obj.mk .none none (.fields [].toArray) [].toArray
noncomputable def o_278 (P : Params) : Obj := Obj.mk .none none (.func (FuncData.mk "_law_texts" "_law_texts" a14.1 (.stmts b14.1) s14.1 0 [] .none .none .none .none none .none .none 0)) [].toArray
noncomputable def o_279 (P : Params) : Obj := Obj.mk (.type "code") none (.fields [.str "_law_texts" 2577, .str "_law_texts" 2578, .str "/claim/cut.py" 2579, .int 113 0, .int 2 0, .int 0 0, .int 0 0, .int 3 0, .ref 276, .bool true, .int 273 0, .ref 277, .none, .none, .none, .ref 278, .int 2580 0, .int 113 0, .str "/claim/cut.py" 2581].toArray) [].toArray
noncomputable def o_280 (P : Params) : Obj := Obj.mk (.type "function") none (.func (FuncData.mk "_law_texts" "_law_texts" a14.1 (.stmts b14.1) s14.1 3 [] .none .none .none (.str "law_in0022_01" 2569) none (.ref 279) .none 0)) [].toArray
noncomputable def o_281 (P : Params) : Obj := Obj.mk (.type "tuple") none (.seq [].toArray 0) [].toArray
noncomputable def o_282 (P : Params) : Obj := Obj.mk .none none (.fields [].toArray) [].toArray
noncomputable def o_283 (P : Params) : Obj := Obj.mk (.type "tuple") none (.seq [.str "name" 2586, .str "allowed" 2587, .str "pairs" 2588, .str "kept" 2589, .str "runs" 2590, .str "sign" 2591, .str "fold" 2592].toArray 0) [].toArray
noncomputable def o_284 (P : Params) : Obj := Obj.mk (.type "tuple") none (.seq [].toArray 0) [].toArray
noncomputable def o_285 (P : Params) : Obj := Obj.mk .none none (.func (FuncData.mk "_law_runs" "_law_runs" a15.1 (.stmts b15.1) s15.1 0 [] .none .none .none .none none .none .none 0)) [].toArray
noncomputable def o_286 (P : Params) : Obj := Obj.mk (.type "code") none (.fields [.str "_law_runs" 2583, .str "_law_runs" 2584, .str "/claim/cut.py" 2585, .int 119 0, .int 4 0, .int 0 0, .int 0 0, .int 3 0, .ref 281, .bool true, .int 273 0, .ref 282, .none, .ref 283, .ref 284, .ref 285, .int 2593 0, .int 119 0, .str "/claim/cut.py" 2594].toArray) [].toArray
noncomputable def o_287 (P : Params) : Obj := Obj.mk (.type "function") none (.func (FuncData.mk "_law_runs" "_law_runs" a15.1 (.stmts b15.1) s15.1 3 [] .none .none .none (.str "law_in0022_01" 2569) none (.ref 286) .none 0)) [].toArray
noncomputable def o_288 (P : Params) : Obj := Obj.mk (.type "tuple") none (.seq [].toArray 0) [].toArray
noncomputable def o_289 (P : Params) : Obj := Obj.mk .none none (.fields [].toArray) [].toArray
noncomputable def o_290 (P : Params) : Obj := Obj.mk (.type "tuple") none (.seq [.str "world" 2599, .str "key" 2600, .str "told" 2601].toArray 0) [].toArray
noncomputable def o_291 (P : Params) : Obj := Obj.mk (.type "tuple") none (.seq [].toArray 0) [].toArray
noncomputable def o_292 (P : Params) : Obj := Obj.mk .none none (.func (FuncData.mk "_law_ask" "_law_ask" a16.1 (.stmts b16.1) s16.1 0 [] .none .none .none .none none .none .none 0)) [].toArray
noncomputable def o_293 (P : Params) : Obj := Obj.mk (.type "code") none (.fields [.str "_law_ask" 2596, .str "_law_ask" 2597, .str "/claim/cut.py" 2598, .int 127 0, .int 2 0, .int 0 0, .int 0 0, .int 3 0, .ref 288, .bool true, .int 273 0, .ref 289, .none, .ref 290, .ref 291, .ref 292, .int 2602 0, .int 127 0, .str "/claim/cut.py" 2603].toArray) [].toArray
noncomputable def o_294 (P : Params) : Obj := Obj.mk (.type "function") none (.func (FuncData.mk "_law_ask" "_law_ask" a16.1 (.stmts b16.1) s16.1 3 [] .none .none .none (.str "law_in0022_01" 2569) none (.ref 293) .none 0)) [].toArray
noncomputable def o_295 (P : Params) : Obj := Obj.mk (.type "tuple") none (.seq [].toArray 0) [].toArray
noncomputable def o_296 (P : Params) : Obj := Obj.mk .none none (.fields [].toArray) [].toArray
noncomputable def o_297 (P : Params) : Obj := Obj.mk (.type "tuple") none (.seq [.str "world" 2608, .str "key" 2609, .str "pair" 2610, .str "ways" 2611, .str "sign" 2612, .str "fold" 2613].toArray 0) [].toArray
noncomputable def o_298 (P : Params) : Obj := Obj.mk (.type "tuple") none (.seq [].toArray 0) [].toArray
noncomputable def o_299 (P : Params) : Obj := Obj.mk .none none (.func (FuncData.mk "_law_made" "_law_made" a17.1 (.stmts b17.1) s17.1 0 [] .none .none .none .none none .none .none 0)) [].toArray
noncomputable def o_300 (P : Params) : Obj := Obj.mk (.type "code") none (.fields [.str "_law_made" 2605, .str "_law_made" 2606, .str "/claim/cut.py" 2607, .int 132 0, .int 1 0, .int 0 0, .int 0 0, .int 3 0, .ref 295, .bool true, .int 273 0, .ref 296, .none, .ref 297, .ref 298, .ref 299, .int 2614 0, .int 132 0, .str "/claim/cut.py" 2615].toArray) [].toArray
noncomputable def o_301 (P : Params) : Obj := Obj.mk (.type "function") none (.func (FuncData.mk "_law_made" "_law_made" a17.1 (.stmts b17.1) s17.1 3 [] .none .none .none (.str "law_in0022_01" 2569) none (.ref 300) .none 0)) [].toArray
noncomputable def o_302 (P : Params) : Obj := Obj.mk (.type "tuple") none (.seq [].toArray 0) [].toArray
noncomputable def o_303 (P : Params) : Obj := Obj.mk .none none (.fields [].toArray) [].toArray
noncomputable def o_304 (P : Params) : Obj := Obj.mk (.type "tuple") none (.seq [].toArray 0) [].toArray
noncomputable def o_305 (P : Params) : Obj := Obj.mk (.type "tuple") none (.seq [.str "world" 2620].toArray 0) [].toArray
noncomputable def o_306 (P : Params) : Obj := Obj.mk .none none (.func (FuncData.mk "_law_world" "_law_world" a18.1 (.stmts b18.1) s18.1 0 [] .none .none .none .none none .none .none 0)) [].toArray
noncomputable def o_307 (P : Params) : Obj := Obj.mk (.type "code") none (.fields [.str "_law_world" 2617, .str "_law_world" 2618, .str "/claim/cut.py" 2619, .int 143 0, .int 0 0, .int 0 0, .int 0 0, .int 3 0, .ref 302, .bool true, .int 273 0, .ref 303, .none, .ref 304, .ref 305, .ref 306, .int 2621 0, .int 143 0, .str "/claim/cut.py" 2622].toArray) [].toArray
noncomputable def o_308 (P : Params) : Obj := Obj.mk (.type "function") none (.func (FuncData.mk "_law_world" "_law_world" a18.1 (.stmts b18.1) s18.1 3 [] .none .none .none (.str "law_in0022_01" 2569) none (.ref 307) .none 0)) [].toArray
noncomputable def o_309 (P : Params) : Obj := Obj.mk (.type "tuple") none (.seq [].toArray 0) [].toArray
noncomputable def o_310 (P : Params) : Obj := Obj.mk .none none (.fields [].toArray) [].toArray
noncomputable def o_311 (P : Params) : Obj := Obj.mk .none none (.func (FuncData.mk "_law_asked" "_law_asked" a19.1 (.stmts b19.1) s19.1 0 [] .none .none .none .none none .none .none 0)) [].toArray
noncomputable def o_312 (P : Params) : Obj := Obj.mk (.type "code") none (.fields [.str "_law_asked" 2624, .str "_law_asked" 2625, .str "/claim/cut.py" 2626, .int 147 0, .int 3 0, .int 0 0, .int 0 0, .int 3 0, .ref 309, .bool true, .int 273 0, .ref 310, .none, .none, .none, .ref 311, .int 2627 0, .int 147 0, .str "/claim/cut.py" 2628].toArray) [].toArray
noncomputable def o_313 (P : Params) : Obj := Obj.mk (.type "function") none (.func (FuncData.mk "_law_asked" "_law_asked" a19.1 (.stmts b19.1) s19.1 3 [] .none .none .none (.str "law_in0022_01" 2569) none (.ref 312) .none 0)) [].toArray
noncomputable def o_314 (P : Params) : Obj := Obj.mk (.type "tuple") none (.seq [].toArray 0) [].toArray
noncomputable def o_315 (P : Params) : Obj := Obj.mk .none none (.fields [].toArray) [].toArray
noncomputable def o_316 (P : Params) : Obj := Obj.mk (.type "tuple") none (.seq [.str "world" 2633].toArray 0) [].toArray
noncomputable def o_317 (P : Params) : Obj := Obj.mk (.type "tuple") none (.seq [].toArray 0) [].toArray
noncomputable def o_318 (P : Params) : Obj := Obj.mk .none none (.func (FuncData.mk "_law_frozen" "_law_frozen" a20.1 (.stmts b20.1) s20.1 0 [] .none .none .none .none none .none .none 0)) [].toArray
noncomputable def o_319 (P : Params) : Obj := Obj.mk (.type "code") none (.fields [.str "_law_frozen" 2630, .str "_law_frozen" 2631, .str "/claim/cut.py" 2632, .int 159 0, .int 1 0, .int 0 0, .int 0 0, .int 3 0, .ref 314, .bool true, .int 273 0, .ref 315, .none, .ref 316, .ref 317, .ref 318, .int 2634 0, .int 159 0, .str "/claim/cut.py" 2635].toArray) [].toArray
noncomputable def o_320 (P : Params) : Obj := Obj.mk (.type "function") none (.func (FuncData.mk "_law_frozen" "_law_frozen" a20.1 (.stmts b20.1) s20.1 3 [] .none .none .none (.str "law_in0022_01" 2569) none (.ref 319) .none 0)) [].toArray
noncomputable def o_321 (P : Params) : Obj := Obj.mk (.type "tuple") none (.seq [].toArray 0) [].toArray
noncomputable def o_322 (P : Params) : Obj := Obj.mk .none none (.fields [].toArray) [].toArray
noncomputable def o_323 (P : Params) : Obj := Obj.mk (.type "tuple") none (.seq [.str "script" 2640, .str "world" 2641, .str "numbers" 2642, .str "half" 2643, .str "k" 2644].toArray 0) [].toArray
noncomputable def o_324 (P : Params) : Obj := Obj.mk (.type "tuple") none (.seq [].toArray 0) [].toArray
noncomputable def o_325 (P : Params) : Obj := Obj.mk .none none (.func (FuncData.mk "law" "law" a21.1 (.stmts b21.1) s21.1 0 [] .none .none .none .none none .none .none 0)) [].toArray
noncomputable def o_326 (P : Params) : Obj := Obj.mk (.type "code") none (.fields [.str "law" 2637, .str "law" 2638, .str "/claim/cut.py" 2639, .int 161 0, .int 1 0, .int 0 0, .int 0 0, .int 3 0, .ref 321, .bool true, .int 273 0, .ref 322, .none, .ref 323, .ref 324, .ref 325, .int 2645 0, .int 161 0, .str "/claim/cut.py" 2646].toArray) [].toArray
noncomputable def o_327 (P : Params) : Obj := Obj.mk (.type "function") none (.func (FuncData.mk "law" "law" a21.1 (.stmts b21.1) s21.1 3 [] .none .none .none (.str "law_in0022_01" 2569) none (.ref 326) .none 0)) [].toArray
noncomputable def KK (P : Params) : Frag := (nat_lit 2, o_2 P) :: (nat_lit 3, o_3 P) :: (nat_lit 6, o_6 P) :: (nat_lit 33, o_33 P) :: (nat_lit 35, o_35 P) :: (nat_lit 36, o_36 P) :: (nat_lit 38, o_38 P) :: (nat_lit 39, o_39 P) :: (nat_lit 47, o_47 P) :: (nat_lit 49, o_49 P) :: (nat_lit 50, o_50 P) :: (nat_lit 52, o_52 P) :: (nat_lit 53, o_53 P) :: (nat_lit 54, o_54 P) :: (nat_lit 55, o_55 P) :: (nat_lit 57, o_57 P) :: (nat_lit 58, o_58 P) :: (nat_lit 60, o_60 P) :: (nat_lit 61, o_61 P) :: (nat_lit 62, o_62 P) :: (nat_lit 64, o_64 P) :: (nat_lit 65, o_65 P) :: (nat_lit 67, o_67 P) :: (nat_lit 68, o_68 P) :: (nat_lit 69, o_69 P) :: (nat_lit 71, o_71 P) :: (nat_lit 72, o_72 P) :: (nat_lit 74, o_74 P) :: (nat_lit 75, o_75 P) :: (nat_lit 76, o_76 P) :: (nat_lit 77, o_77 P) :: (nat_lit 78, o_78 P) :: (nat_lit 79, o_79 P) :: (nat_lit 80, o_80 P) :: (nat_lit 83, o_83 P) :: (nat_lit 86, o_86 P) :: (nat_lit 91, o_91 P) :: (nat_lit 92, o_92 P) :: (nat_lit 94, o_94 P) :: (nat_lit 95, o_95 P) :: (nat_lit 97, o_97 P) :: (nat_lit 98, o_98 P) :: (nat_lit 99, o_99 P) :: (nat_lit 101, o_101 P) :: (nat_lit 102, o_102 P) :: (nat_lit 104, o_104 P) :: (nat_lit 105, o_105 P) :: (nat_lit 106, o_106 P) :: (nat_lit 107, o_107 P) :: (nat_lit 108, o_108 P) :: (nat_lit 109, o_109 P) :: (nat_lit 110, o_110 P) :: (nat_lit 113, o_113 P) :: (nat_lit 116, o_116 P) :: (nat_lit 121, o_121 P) :: (nat_lit 122, o_122 P) :: (nat_lit 123, o_123 P) :: (nat_lit 124, o_124 P) :: (nat_lit 126, o_126 P) :: (nat_lit 127, o_127 P) :: (nat_lit 129, o_129 P) :: (nat_lit 130, o_130 P) :: (nat_lit 131, o_131 P) :: (nat_lit 133, o_133 P) :: (nat_lit 134, o_134 P) :: (nat_lit 136, o_136 P) :: (nat_lit 137, o_137 P) :: (nat_lit 138, o_138 P) :: (nat_lit 139, o_139 P) :: (nat_lit 140, o_140 P) :: (nat_lit 141, o_141 P) :: (nat_lit 142, o_142 P) :: (nat_lit 144, o_144 P) :: (nat_lit 145, o_145 P) :: (nat_lit 147, o_147 P) :: (nat_lit 148, o_148 P) :: (nat_lit 149, o_149 P) :: (nat_lit 151, o_151 P) :: (nat_lit 152, o_152 P) :: (nat_lit 154, o_154 P) :: (nat_lit 155, o_155 P) :: (nat_lit 156, o_156 P) :: (nat_lit 158, o_158 P) :: (nat_lit 159, o_159 P) :: (nat_lit 161, o_161 P) :: (nat_lit 162, o_162 P) :: (nat_lit 163, o_163 P) :: (nat_lit 165, o_165 P) :: (nat_lit 166, o_166 P) :: (nat_lit 168, o_168 P) :: (nat_lit 169, o_169 P) :: (nat_lit 170, o_170 P) :: (nat_lit 171, o_171 P) :: (nat_lit 172, o_172 P) :: (nat_lit 174, o_174 P) :: (nat_lit 175, o_175 P) :: (nat_lit 177, o_177 P) :: (nat_lit 179, o_179 P) :: (nat_lit 180, o_180 P) :: (nat_lit 181, o_181 P) :: (nat_lit 184, o_184 P) :: (nat_lit 191, o_191 P) :: (nat_lit 193, o_193 P) :: (nat_lit 194, o_194 P) :: (nat_lit 196, o_196 P) :: (nat_lit 197, o_197 P) :: (nat_lit 198, o_198 P) :: (nat_lit 199, o_199 P) :: (nat_lit 200, o_200 P) :: (nat_lit 201, o_201 P) :: (nat_lit 202, o_202 P) :: (nat_lit 203, o_203 P) :: (nat_lit 204, o_204 P) :: (nat_lit 214, o_214 P) :: (nat_lit 218, o_218 P) :: (nat_lit 220, o_220 P) :: (nat_lit 221, o_221 P) :: (nat_lit 223, o_223 P) :: (nat_lit 224, o_224 P) :: (nat_lit 225, o_225 P) :: (nat_lit 264, o_264 P) :: (nat_lit 266, o_266 P) :: (nat_lit 267, o_267 P) :: (nat_lit 269, o_269 P) :: (nat_lit 270, o_270 P) :: (nat_lit 271, o_271 P) :: (nat_lit 274, o_274 P) :: (nat_lit 275, o_275 P) :: (nat_lit 276, o_276 P) :: (nat_lit 279, o_279 P) :: (nat_lit 280, o_280 P) :: (nat_lit 281, o_281 P) :: (nat_lit 283, o_283 P) :: (nat_lit 284, o_284 P) :: (nat_lit 286, o_286 P) :: (nat_lit 287, o_287 P) :: (nat_lit 288, o_288 P) :: (nat_lit 290, o_290 P) :: (nat_lit 291, o_291 P) :: (nat_lit 293, o_293 P) :: (nat_lit 294, o_294 P) :: (nat_lit 295, o_295 P) :: (nat_lit 297, o_297 P) :: (nat_lit 298, o_298 P) :: (nat_lit 300, o_300 P) :: (nat_lit 301, o_301 P) :: (nat_lit 302, o_302 P) :: (nat_lit 304, o_304 P) :: (nat_lit 305, o_305 P) :: (nat_lit 307, o_307 P) :: (nat_lit 308, o_308 P) :: (nat_lit 309, o_309 P) :: (nat_lit 312, o_312 P) :: (nat_lit 313, o_313 P) :: (nat_lit 314, o_314 P) :: (nat_lit 316, o_316 P) :: (nat_lit 317, o_317 P) :: (nat_lit 319, o_319 P) :: (nat_lit 320, o_320 P) :: (nat_lit 321, o_321 P) :: (nat_lit 323, o_323 P) :: (nat_lit 324, o_324 P) :: (nat_lit 326, o_326 P) :: (nat_lit 327, o_327 P) :: []
noncomputable def KA : List Addr := 2 :: 3 :: 6 :: 33 :: 35 :: 36 :: 38 :: 39 :: 47 :: 49 :: 50 :: 52 :: 53 :: 54 :: 55 :: 57 :: 58 :: 60 :: 61 :: 62 :: 64 :: 65 :: 67 :: 68 :: 69 :: 71 :: 72 :: 74 :: 75 :: 76 :: 77 :: 78 :: 79 :: 80 :: 83 :: 86 :: 91 :: 92 :: 94 :: 95 :: 97 :: 98 :: 99 :: 101 :: 102 :: 104 :: 105 :: 106 :: 107 :: 108 :: 109 :: 110 :: 113 :: 116 :: 121 :: 122 :: 123 :: 124 :: 126 :: 127 :: 129 :: 130 :: 131 :: 133 :: 134 :: 136 :: 137 :: 138 :: 139 :: 140 :: 141 :: 142 :: 144 :: 145 :: 147 :: 148 :: 149 :: 151 :: 152 :: 154 :: 155 :: 156 :: 158 :: 159 :: 161 :: 162 :: 163 :: 165 :: 166 :: 168 :: 169 :: 170 :: 171 :: 172 :: 174 :: 175 :: 177 :: 179 :: 180 :: 181 :: 184 :: 191 :: 193 :: 194 :: 196 :: 197 :: 198 :: 199 :: 200 :: 201 :: 202 :: 203 :: 204 :: 214 :: 218 :: 220 :: 221 :: 223 :: 224 :: 225 :: 264 :: 266 :: 267 :: 269 :: 270 :: 271 :: 274 :: 275 :: 276 :: 279 :: 280 :: 281 :: 283 :: 284 :: 286 :: 287 :: 288 :: 290 :: 291 :: 293 :: 294 :: 295 :: 297 :: 298 :: 300 :: 301 :: 302 :: 304 :: 305 :: 307 :: 308 :: 309 :: 312 :: 313 :: 314 :: 316 :: 317 :: 319 :: 320 :: 321 :: 323 :: 324 :: 326 :: 327 :: []
theorem KA_eq (P : Params) : KA = (KK P).map (·.1) := by kernel_rfl
end
section
section
noncomputable def o_2_1 (P : Params) : Obj := Obj.mk .none none (.dict [sE P "\x69mport.loaded._collections" 185 (.bool true), sE P "class._frozen_importlib.BuiltinImporter" 187 (.ref 15), sE P "watched.\x69mport" 208 (.ref 19), sE P "class._frozen_importlib.ModuleSpec" 218 (.ref 23), sE P "sys.modules.booked-epoch" 247 (.int 3 0), sE P "sys.modules.landed._collections" 248 (.bool true), sE P "\x69mport.later-laid._collections" 263 (.bool true), sE P "watched.library" 265 (.ref 28), sE P "watched.library-objects" 0 (.str "\x0d" 0), sE P "watched.library-deep._collections" 266 (.str "\x04\x00\x00\x0c\x04\x00\x00\x0c\x04\x00\x00\x03\x04\x00\x00\x0c\x08\x04dict\x02" 0)].toArray 10) [].toArray
noncomputable def o_3_1 (P : Params) : Obj := Obj.mk (.type "dict") none (.dict [sE P "__name__" 165 (.str "__main__" 164), sE P "__doc__" 166 .none, sE P "__package__" 167 .none, sE P "__loader__" 168 (.builtin "__main__.__loader__#opaque"), sE P "__spec__" 169 .none, sE P "__annotations__" 170 (.ref 6), sE P "__builtins__" 171 (.ref 4), sE P "__file__" 173 (.str "/claim/cut.py" 172), sE P "__cached__" 174 .none, sE P "defaultdict" 272 (.type "collections.defaultdict")].toArray 10) [].toArray
noncomputable def o_30_1 (P : Params) : Obj := Obj.mk .none none (.fields [].toArray) [].toArray
noncomputable def o_3_2 (P : Params) : Obj := Obj.mk (.type "dict") none (.dict [sE P "__name__" 165 (.str "__main__" 164), sE P "__doc__" 166 .none, sE P "__package__" 167 .none, sE P "__loader__" 168 (.builtin "__main__.__loader__#opaque"), sE P "__spec__" 169 .none, sE P "__annotations__" 170 (.ref 6), sE P "__builtins__" 171 (.ref 4), sE P "__file__" 173 (.str "/claim/cut.py" 172), sE P "__cached__" 174 .none, sE P "defaultdict" 272 (.type "collections.defaultdict"), sE P "_wall" 285 (.ref 39)].toArray 11) [].toArray
noncomputable def o_30_2 (P : Params) : Obj := Obj.mk .none none (.fields [.int 2 0, .int 0 0, .ref 38].toArray) [].toArray
noncomputable def o_3_3 (P : Params) : Obj := Obj.mk (.type "dict") none (.dict [sE P "__name__" 165 (.str "cpy313.importlib.metadata._collections" 286), sE P "__doc__" 166 .none, sE P "__package__" 167 .none, sE P "__loader__" 168 (.builtin "__main__.__loader__#opaque"), sE P "__spec__" 169 .none, sE P "__annotations__" 170 (.ref 6), sE P "__builtins__" 171 (.ref 4), sE P "__file__" 173 (.str "/claim/cut.py" 172), sE P "__cached__" 174 .none, sE P "defaultdict" 272 (.type "collections.defaultdict"), sE P "_wall" 285 (.ref 39)].toArray 11) [].toArray
noncomputable def o_3_4 (P : Params) : Obj := Obj.mk (.type "dict") none (.dict [sE P "__name__" 165 (.str "cpy313.importlib.metadata._collections" 286), sE P "__doc__" 166 .none, sE P "__package__" 167 .none, sE P "__loader__" 168 (.builtin "__main__.__loader__#opaque"), sE P "__spec__" 169 .none, sE P "__annotations__" 170 (.ref 6), sE P "__builtins__" 171 (.ref 4), sE P "__file__" 173 (.str "/claim/cut.py" 172), sE P "__cached__" 174 .none, sE P "defaultdict" 272 (.type "collections.defaultdict"), sE P "_wall" 285 (.ref 39), sE P "_tuplegetter" 344 (.ref 78)].toArray 12) [].toArray
noncomputable def o_30_3 (P : Params) : Obj := Obj.mk .none none (.fields [.int 2 0, .int 0 0, .ref 38, .int 6 0, .int 0 0, .ref 45].toArray) [].toArray
noncomputable def o_3_5 (P : Params) : Obj := Obj.mk (.type "dict") none (.dict [sE P "__name__" 165 (.str "cpy313.importlib.metadata._collections" 286), sE P "__doc__" 166 .none, sE P "__package__" 167 .none, sE P "__loader__" 168 (.builtin "__main__.__loader__#opaque"), sE P "__spec__" 169 .none, sE P "__annotations__" 170 (.ref 6), sE P "__builtins__" 171 (.ref 4), sE P "__file__" 173 (.str "/claim/cut.py" 172), sE P "__cached__" 174 .none, sE P "defaultdict" 272 (.type "collections.defaultdict"), sE P "_wall" 285 (.ref 39), sE P "_tuplegetter" 344 (.ref 78), sE P "FreezableDefaultDict" 387 (.ref 108)].toArray 13) [].toArray
noncomputable def o_30_4 (P : Params) : Obj := Obj.mk .none none (.fields [.int 2 0, .int 0 0, .ref 38, .int 6 0, .int 0 0, .ref 45, .int 24 0, .int 0 0, .ref 89].toArray) [].toArray
noncomputable def o_3_6 (P : Params) : Obj := Obj.mk (.type "dict") none (.dict [sE P "__name__" 165 (.str "cpy313.importlib.metadata._collections" 286), sE P "__doc__" 166 .none, sE P "__package__" 167 .none, sE P "__loader__" 168 (.builtin "__main__.__loader__#opaque"), sE P "__spec__" 169 .none, sE P "__annotations__" 170 (.ref 6), sE P "__builtins__" 171 (.ref 4), sE P "__file__" 173 (.str "/claim/cut.py" 172), sE P "__cached__" 174 .none, sE P "defaultdict" 272 (.type "collections.defaultdict"), sE P "_wall" 285 (.ref 39), sE P "_tuplegetter" 344 (.ref 78), sE P "FreezableDefaultDict" 387 (.ref 108), sE P "Pair" 502 (.ref 180)].toArray 14) [].toArray
noncomputable def o_30_5 (P : Params) : Obj := Obj.mk .none none (.fields [.int 2 0, .int 0 0, .ref 38, .int 6 0, .int 0 0, .ref 45, .int 24 0, .int 0 0, .ref 89, .int 44 0, .int 0 0, .ref 119].toArray) [].toArray
noncomputable def o_180_1 (P : Params) : Obj := Obj.mk (.type "type") none (.cls (ClassData.mk "Pair" [.type "tuple"] [.ref 180, .type "tuple", .type "object"] 179 "Pair" false [] [] false none false)) [some (.ref 113), none, some (.str "Pair" 388), some (.str "Pair" 396), some .none, some (.bool false)].toArray
noncomputable def o_3_7 (P : Params) : Obj := Obj.mk (.type "dict") none (.dict [sE P "__name__" 165 (.str "cpy313.importlib.metadata._collections" 286), sE P "__doc__" 166 .none, sE P "__package__" 167 .none, sE P "__loader__" 168 (.builtin "__main__.__loader__#opaque"), sE P "__spec__" 169 .none, sE P "__annotations__" 170 (.ref 6), sE P "__builtins__" 171 (.ref 4), sE P "__file__" 173 (.str "/claim/cut.py" 172), sE P "__cached__" 174 .none, sE P "defaultdict" 272 (.type "collections.defaultdict"), sE P "_wall" 285 (.ref 39), sE P "_tuplegetter" 344 (.ref 78), sE P "FreezableDefaultDict" 387 (.ref 108), sE P "Pair" 502 (.ref 203)].toArray 14) [].toArray
noncomputable def o_30_6 (P : Params) : Obj := Obj.mk .none none (.fields [.int 2 0, .int 0 0, .ref 38, .int 6 0, .int 0 0, .ref 45, .int 24 0, .int 0 0, .ref 89, .int 44 0, .int 0 0, .ref 119, .int 86 0, .int 0 0, .ref 189].toArray) [].toArray
noncomputable def o_3_8 (P : Params) : Obj := Obj.mk (.type "dict") none (.dict [sE P "__name__" 165 (.str "cpy313.stringprep" 541), sE P "__doc__" 166 .none, sE P "__package__" 167 .none, sE P "__loader__" 168 (.builtin "__main__.__loader__#opaque"), sE P "__spec__" 169 .none, sE P "__annotations__" 170 (.ref 6), sE P "__builtins__" 171 (.ref 4), sE P "__file__" 173 (.str "/claim/cut.py" 172), sE P "__cached__" 174 .none, sE P "defaultdict" 272 (.type "collections.defaultdict"), sE P "_wall" 285 (.ref 39), sE P "_tuplegetter" 344 (.ref 78), sE P "FreezableDefaultDict" 387 (.ref 108), sE P "Pair" 502 (.ref 203)].toArray 14) [].toArray
noncomputable def o_3_9 (P : Params) : Obj := Obj.mk (.type "dict") none (.dict [sE P "__name__" 165 (.str "cpy313.stringprep" 541), sE P "__doc__" 166 .none, sE P "__package__" 167 .none, sE P "__loader__" 168 (.builtin "__main__.__loader__#opaque"), sE P "__spec__" 169 .none, sE P "__annotations__" 170 (.ref 6), sE P "__builtins__" 171 (.ref 4), sE P "__file__" 173 (.str "/claim/cut.py" 172), sE P "__cached__" 174 .none, sE P "defaultdict" 272 (.type "collections.defaultdict"), sE P "_wall" 285 (.ref 39), sE P "_tuplegetter" 344 (.ref 78), sE P "FreezableDefaultDict" 387 (.ref 108), sE P "Pair" 502 (.ref 203), sE P "b1_set" 602 (.ref 214)].toArray 15) [].toArray
noncomputable def o_3_10 (P : Params) : Obj := Obj.mk (.type "dict") none (.dict [sE P "__name__" 165 (.str "cpy313.stringprep" 541), sE P "__doc__" 166 .none, sE P "__package__" 167 .none, sE P "__loader__" 168 (.builtin "__main__.__loader__#opaque"), sE P "__spec__" 169 .none, sE P "__annotations__" 170 (.ref 6), sE P "__builtins__" 171 (.ref 4), sE P "__file__" 173 (.str "/claim/cut.py" 172), sE P "__cached__" 174 .none, sE P "defaultdict" 272 (.type "collections.defaultdict"), sE P "_wall" 285 (.ref 39), sE P "_tuplegetter" 344 (.ref 78), sE P "FreezableDefaultDict" 387 (.ref 108), sE P "Pair" 502 (.ref 203), sE P "b1_set" 602 (.ref 214), sE P "in_table_b1" 609 (.ref 224)].toArray 16) [].toArray
noncomputable def o_30_7 (P : Params) : Obj := Obj.mk .none none (.fields [.int 2 0, .int 0 0, .ref 38, .int 6 0, .int 0 0, .ref 45, .int 24 0, .int 0 0, .ref 89, .int 44 0, .int 0 0, .ref 119, .int 86 0, .int 0 0, .ref 189, .int 93 0, .int 0 0, .ref 223].toArray) [].toArray
noncomputable def o_3_11 (P : Params) : Obj := Obj.mk (.type "dict") none (.dict [sE P "__name__" 165 (.str "cpy313.stringprep" 541), sE P "__doc__" 166 .none, sE P "__package__" 167 .none, sE P "__loader__" 168 (.builtin "__main__.__loader__#opaque"), sE P "__spec__" 169 .none, sE P "__annotations__" 170 (.ref 6), sE P "__builtins__" 171 (.ref 4), sE P "__file__" 173 (.str "/claim/cut.py" 172), sE P "__cached__" 174 .none, sE P "defaultdict" 272 (.type "collections.defaultdict"), sE P "_wall" 285 (.ref 39), sE P "_tuplegetter" 344 (.ref 78), sE P "FreezableDefaultDict" 387 (.ref 108), sE P "Pair" 502 (.ref 203), sE P "b1_set" 602 (.ref 214), sE P "in_table_b1" 609 (.ref 224), sE P "b3_exceptions" 2560 (.ref 225)].toArray 17) [].toArray
noncomputable def o_3_12 (P : Params) : Obj := Obj.mk (.type "dict") none (.dict [sE P "__name__" 165 (.str "cpy313.stringprep" 541), sE P "__doc__" 166 .none, sE P "__package__" 167 .none, sE P "__loader__" 168 (.builtin "__main__.__loader__#opaque"), sE P "__spec__" 169 .none, sE P "__annotations__" 170 (.ref 6), sE P "__builtins__" 171 (.ref 4), sE P "__file__" 173 (.str "/claim/cut.py" 172), sE P "__cached__" 174 .none, sE P "defaultdict" 272 (.type "collections.defaultdict"), sE P "_wall" 285 (.ref 39), sE P "_tuplegetter" 344 (.ref 78), sE P "FreezableDefaultDict" 387 (.ref 108), sE P "Pair" 502 (.ref 203), sE P "b1_set" 602 (.ref 214), sE P "in_table_b1" 609 (.ref 224), sE P "b3_exceptions" 2560 (.ref 225), sE P "map_table_b3" 2568 (.ref 270)].toArray 18) [].toArray
noncomputable def o_30_8 (P : Params) : Obj := Obj.mk .none none (.fields [.int 2 0, .int 0 0, .ref 38, .int 6 0, .int 0 0, .ref 45, .int 24 0, .int 0 0, .ref 89, .int 44 0, .int 0 0, .ref 119, .int 86 0, .int 0 0, .ref 189, .int 93 0, .int 0 0, .ref 223, .int 96 0, .int 0 0, .ref 269].toArray) [].toArray
noncomputable def o_3_13 (P : Params) : Obj := Obj.mk (.type "dict") none (.dict [sE P "__name__" 165 (.str "law_in0022_01" 2569), sE P "__doc__" 166 .none, sE P "__package__" 167 .none, sE P "__loader__" 168 (.builtin "__main__.__loader__#opaque"), sE P "__spec__" 169 .none, sE P "__annotations__" 170 (.ref 6), sE P "__builtins__" 171 (.ref 4), sE P "__file__" 173 (.str "/claim/cut.py" 172), sE P "__cached__" 174 .none, sE P "defaultdict" 272 (.type "collections.defaultdict"), sE P "_wall" 285 (.ref 39), sE P "_tuplegetter" 344 (.ref 78), sE P "FreezableDefaultDict" 387 (.ref 108), sE P "Pair" 502 (.ref 203), sE P "b1_set" 602 (.ref 214), sE P "in_table_b1" 609 (.ref 224), sE P "b3_exceptions" 2560 (.ref 225), sE P "map_table_b3" 2568 (.ref 270)].toArray 18) [].toArray
noncomputable def o_3_14 (P : Params) : Obj := Obj.mk (.type "dict") none (.dict [sE P "__name__" 165 (.str "law_in0022_01" 2569), sE P "__doc__" 166 .none, sE P "__package__" 167 .none, sE P "__loader__" 168 (.builtin "__main__.__loader__#opaque"), sE P "__spec__" 169 .none, sE P "__annotations__" 170 (.ref 6), sE P "__builtins__" 171 (.ref 4), sE P "__file__" 173 (.str "/claim/cut.py" 172), sE P "__cached__" 174 .none, sE P "defaultdict" 272 (.type "collections.defaultdict"), sE P "_wall" 285 (.ref 39), sE P "_tuplegetter" 344 (.ref 78), sE P "FreezableDefaultDict" 387 (.ref 108), sE P "Pair" 502 (.ref 203), sE P "b1_set" 602 (.ref 214), sE P "in_table_b1" 609 (.ref 224), sE P "b3_exceptions" 2560 (.ref 225), sE P "map_table_b3" 2568 (.ref 270), sE P "_law_row" 2576 (.ref 275)].toArray 19) [].toArray
noncomputable def o_30_9 (P : Params) : Obj := Obj.mk .none none (.fields [.int 2 0, .int 0 0, .ref 38, .int 6 0, .int 0 0, .ref 45, .int 24 0, .int 0 0, .ref 89, .int 44 0, .int 0 0, .ref 119, .int 86 0, .int 0 0, .ref 189, .int 93 0, .int 0 0, .ref 223, .int 96 0, .int 0 0, .ref 269, .int 102 0, .int 0 0, .ref 274].toArray) [].toArray
noncomputable def o_3_15 (P : Params) : Obj := Obj.mk (.type "dict") none (.dict [sE P "__name__" 165 (.str "law_in0022_01" 2569), sE P "__doc__" 166 .none, sE P "__package__" 167 .none, sE P "__loader__" 168 (.builtin "__main__.__loader__#opaque"), sE P "__spec__" 169 .none, sE P "__annotations__" 170 (.ref 6), sE P "__builtins__" 171 (.ref 4), sE P "__file__" 173 (.str "/claim/cut.py" 172), sE P "__cached__" 174 .none, sE P "defaultdict" 272 (.type "collections.defaultdict"), sE P "_wall" 285 (.ref 39), sE P "_tuplegetter" 344 (.ref 78), sE P "FreezableDefaultDict" 387 (.ref 108), sE P "Pair" 502 (.ref 203), sE P "b1_set" 602 (.ref 214), sE P "in_table_b1" 609 (.ref 224), sE P "b3_exceptions" 2560 (.ref 225), sE P "map_table_b3" 2568 (.ref 270), sE P "_law_row" 2576 (.ref 275), sE P "_law_texts" 2582 (.ref 280)].toArray 20) [].toArray
noncomputable def o_30_10 (P : Params) : Obj := Obj.mk .none none (.fields [.int 2 0, .int 0 0, .ref 38, .int 6 0, .int 0 0, .ref 45, .int 24 0, .int 0 0, .ref 89, .int 44 0, .int 0 0, .ref 119, .int 86 0, .int 0 0, .ref 189, .int 93 0, .int 0 0, .ref 223, .int 96 0, .int 0 0, .ref 269, .int 102 0, .int 0 0, .ref 274, .int 113 0, .int 0 0, .ref 279].toArray) [].toArray
noncomputable def o_3_16 (P : Params) : Obj := Obj.mk (.type "dict") none (.dict [sE P "__name__" 165 (.str "law_in0022_01" 2569), sE P "__doc__" 166 .none, sE P "__package__" 167 .none, sE P "__loader__" 168 (.builtin "__main__.__loader__#opaque"), sE P "__spec__" 169 .none, sE P "__annotations__" 170 (.ref 6), sE P "__builtins__" 171 (.ref 4), sE P "__file__" 173 (.str "/claim/cut.py" 172), sE P "__cached__" 174 .none, sE P "defaultdict" 272 (.type "collections.defaultdict"), sE P "_wall" 285 (.ref 39), sE P "_tuplegetter" 344 (.ref 78), sE P "FreezableDefaultDict" 387 (.ref 108), sE P "Pair" 502 (.ref 203), sE P "b1_set" 602 (.ref 214), sE P "in_table_b1" 609 (.ref 224), sE P "b3_exceptions" 2560 (.ref 225), sE P "map_table_b3" 2568 (.ref 270), sE P "_law_row" 2576 (.ref 275), sE P "_law_texts" 2582 (.ref 280), sE P "_law_runs" 2595 (.ref 287)].toArray 21) [].toArray
noncomputable def o_30_11 (P : Params) : Obj := Obj.mk .none none (.fields [.int 2 0, .int 0 0, .ref 38, .int 6 0, .int 0 0, .ref 45, .int 24 0, .int 0 0, .ref 89, .int 44 0, .int 0 0, .ref 119, .int 86 0, .int 0 0, .ref 189, .int 93 0, .int 0 0, .ref 223, .int 96 0, .int 0 0, .ref 269, .int 102 0, .int 0 0, .ref 274, .int 113 0, .int 0 0, .ref 279, .int 119 0, .int 0 0, .ref 286].toArray) [].toArray
noncomputable def o_3_17 (P : Params) : Obj := Obj.mk (.type "dict") none (.dict [sE P "__name__" 165 (.str "law_in0022_01" 2569), sE P "__doc__" 166 .none, sE P "__package__" 167 .none, sE P "__loader__" 168 (.builtin "__main__.__loader__#opaque"), sE P "__spec__" 169 .none, sE P "__annotations__" 170 (.ref 6), sE P "__builtins__" 171 (.ref 4), sE P "__file__" 173 (.str "/claim/cut.py" 172), sE P "__cached__" 174 .none, sE P "defaultdict" 272 (.type "collections.defaultdict"), sE P "_wall" 285 (.ref 39), sE P "_tuplegetter" 344 (.ref 78), sE P "FreezableDefaultDict" 387 (.ref 108), sE P "Pair" 502 (.ref 203), sE P "b1_set" 602 (.ref 214), sE P "in_table_b1" 609 (.ref 224), sE P "b3_exceptions" 2560 (.ref 225), sE P "map_table_b3" 2568 (.ref 270), sE P "_law_row" 2576 (.ref 275), sE P "_law_texts" 2582 (.ref 280), sE P "_law_runs" 2595 (.ref 287), sE P "_law_ask" 2604 (.ref 294)].toArray 22) [].toArray
noncomputable def o_30_12 (P : Params) : Obj := Obj.mk .none none (.fields [.int 2 0, .int 0 0, .ref 38, .int 6 0, .int 0 0, .ref 45, .int 24 0, .int 0 0, .ref 89, .int 44 0, .int 0 0, .ref 119, .int 86 0, .int 0 0, .ref 189, .int 93 0, .int 0 0, .ref 223, .int 96 0, .int 0 0, .ref 269, .int 102 0, .int 0 0, .ref 274, .int 113 0, .int 0 0, .ref 279, .int 119 0, .int 0 0, .ref 286, .int 127 0, .int 0 0, .ref 293].toArray) [].toArray
noncomputable def o_3_18 (P : Params) : Obj := Obj.mk (.type "dict") none (.dict [sE P "__name__" 165 (.str "law_in0022_01" 2569), sE P "__doc__" 166 .none, sE P "__package__" 167 .none, sE P "__loader__" 168 (.builtin "__main__.__loader__#opaque"), sE P "__spec__" 169 .none, sE P "__annotations__" 170 (.ref 6), sE P "__builtins__" 171 (.ref 4), sE P "__file__" 173 (.str "/claim/cut.py" 172), sE P "__cached__" 174 .none, sE P "defaultdict" 272 (.type "collections.defaultdict"), sE P "_wall" 285 (.ref 39), sE P "_tuplegetter" 344 (.ref 78), sE P "FreezableDefaultDict" 387 (.ref 108), sE P "Pair" 502 (.ref 203), sE P "b1_set" 602 (.ref 214), sE P "in_table_b1" 609 (.ref 224), sE P "b3_exceptions" 2560 (.ref 225), sE P "map_table_b3" 2568 (.ref 270), sE P "_law_row" 2576 (.ref 275), sE P "_law_texts" 2582 (.ref 280), sE P "_law_runs" 2595 (.ref 287), sE P "_law_ask" 2604 (.ref 294), sE P "_law_made" 2616 (.ref 301)].toArray 23) [].toArray
noncomputable def o_30_13 (P : Params) : Obj := Obj.mk .none none (.fields [.int 2 0, .int 0 0, .ref 38, .int 6 0, .int 0 0, .ref 45, .int 24 0, .int 0 0, .ref 89, .int 44 0, .int 0 0, .ref 119, .int 86 0, .int 0 0, .ref 189, .int 93 0, .int 0 0, .ref 223, .int 96 0, .int 0 0, .ref 269, .int 102 0, .int 0 0, .ref 274, .int 113 0, .int 0 0, .ref 279, .int 119 0, .int 0 0, .ref 286, .int 127 0, .int 0 0, .ref 293, .int 132 0, .int 0 0, .ref 300].toArray) [].toArray
noncomputable def o_3_19 (P : Params) : Obj := Obj.mk (.type "dict") none (.dict [sE P "__name__" 165 (.str "law_in0022_01" 2569), sE P "__doc__" 166 .none, sE P "__package__" 167 .none, sE P "__loader__" 168 (.builtin "__main__.__loader__#opaque"), sE P "__spec__" 169 .none, sE P "__annotations__" 170 (.ref 6), sE P "__builtins__" 171 (.ref 4), sE P "__file__" 173 (.str "/claim/cut.py" 172), sE P "__cached__" 174 .none, sE P "defaultdict" 272 (.type "collections.defaultdict"), sE P "_wall" 285 (.ref 39), sE P "_tuplegetter" 344 (.ref 78), sE P "FreezableDefaultDict" 387 (.ref 108), sE P "Pair" 502 (.ref 203), sE P "b1_set" 602 (.ref 214), sE P "in_table_b1" 609 (.ref 224), sE P "b3_exceptions" 2560 (.ref 225), sE P "map_table_b3" 2568 (.ref 270), sE P "_law_row" 2576 (.ref 275), sE P "_law_texts" 2582 (.ref 280), sE P "_law_runs" 2595 (.ref 287), sE P "_law_ask" 2604 (.ref 294), sE P "_law_made" 2616 (.ref 301), sE P "_law_world" 2623 (.ref 308)].toArray 24) [].toArray
noncomputable def o_30_14 (P : Params) : Obj := Obj.mk .none none (.fields [.int 2 0, .int 0 0, .ref 38, .int 6 0, .int 0 0, .ref 45, .int 24 0, .int 0 0, .ref 89, .int 44 0, .int 0 0, .ref 119, .int 86 0, .int 0 0, .ref 189, .int 93 0, .int 0 0, .ref 223, .int 96 0, .int 0 0, .ref 269, .int 102 0, .int 0 0, .ref 274, .int 113 0, .int 0 0, .ref 279, .int 119 0, .int 0 0, .ref 286, .int 127 0, .int 0 0, .ref 293, .int 132 0, .int 0 0, .ref 300, .int 143 0, .int 0 0, .ref 307].toArray) [].toArray
noncomputable def o_3_20 (P : Params) : Obj := Obj.mk (.type "dict") none (.dict [sE P "__name__" 165 (.str "law_in0022_01" 2569), sE P "__doc__" 166 .none, sE P "__package__" 167 .none, sE P "__loader__" 168 (.builtin "__main__.__loader__#opaque"), sE P "__spec__" 169 .none, sE P "__annotations__" 170 (.ref 6), sE P "__builtins__" 171 (.ref 4), sE P "__file__" 173 (.str "/claim/cut.py" 172), sE P "__cached__" 174 .none, sE P "defaultdict" 272 (.type "collections.defaultdict"), sE P "_wall" 285 (.ref 39), sE P "_tuplegetter" 344 (.ref 78), sE P "FreezableDefaultDict" 387 (.ref 108), sE P "Pair" 502 (.ref 203), sE P "b1_set" 602 (.ref 214), sE P "in_table_b1" 609 (.ref 224), sE P "b3_exceptions" 2560 (.ref 225), sE P "map_table_b3" 2568 (.ref 270), sE P "_law_row" 2576 (.ref 275), sE P "_law_texts" 2582 (.ref 280), sE P "_law_runs" 2595 (.ref 287), sE P "_law_ask" 2604 (.ref 294), sE P "_law_made" 2616 (.ref 301), sE P "_law_world" 2623 (.ref 308), sE P "_law_asked" 2629 (.ref 313)].toArray 25) [].toArray
noncomputable def o_30_15 (P : Params) : Obj := Obj.mk .none none (.fields [.int 2 0, .int 0 0, .ref 38, .int 6 0, .int 0 0, .ref 45, .int 24 0, .int 0 0, .ref 89, .int 44 0, .int 0 0, .ref 119, .int 86 0, .int 0 0, .ref 189, .int 93 0, .int 0 0, .ref 223, .int 96 0, .int 0 0, .ref 269, .int 102 0, .int 0 0, .ref 274, .int 113 0, .int 0 0, .ref 279, .int 119 0, .int 0 0, .ref 286, .int 127 0, .int 0 0, .ref 293, .int 132 0, .int 0 0, .ref 300, .int 143 0, .int 0 0, .ref 307, .int 147 0, .int 0 0, .ref 312].toArray) [].toArray
noncomputable def o_3_21 (P : Params) : Obj := Obj.mk (.type "dict") none (.dict [sE P "__name__" 165 (.str "law_in0022_01" 2569), sE P "__doc__" 166 .none, sE P "__package__" 167 .none, sE P "__loader__" 168 (.builtin "__main__.__loader__#opaque"), sE P "__spec__" 169 .none, sE P "__annotations__" 170 (.ref 6), sE P "__builtins__" 171 (.ref 4), sE P "__file__" 173 (.str "/claim/cut.py" 172), sE P "__cached__" 174 .none, sE P "defaultdict" 272 (.type "collections.defaultdict"), sE P "_wall" 285 (.ref 39), sE P "_tuplegetter" 344 (.ref 78), sE P "FreezableDefaultDict" 387 (.ref 108), sE P "Pair" 502 (.ref 203), sE P "b1_set" 602 (.ref 214), sE P "in_table_b1" 609 (.ref 224), sE P "b3_exceptions" 2560 (.ref 225), sE P "map_table_b3" 2568 (.ref 270), sE P "_law_row" 2576 (.ref 275), sE P "_law_texts" 2582 (.ref 280), sE P "_law_runs" 2595 (.ref 287), sE P "_law_ask" 2604 (.ref 294), sE P "_law_made" 2616 (.ref 301), sE P "_law_world" 2623 (.ref 308), sE P "_law_asked" 2629 (.ref 313), sE P "_law_frozen" 2636 (.ref 320)].toArray 26) [].toArray
noncomputable def o_30_16 (P : Params) : Obj := Obj.mk .none none (.fields [.int 2 0, .int 0 0, .ref 38, .int 6 0, .int 0 0, .ref 45, .int 24 0, .int 0 0, .ref 89, .int 44 0, .int 0 0, .ref 119, .int 86 0, .int 0 0, .ref 189, .int 93 0, .int 0 0, .ref 223, .int 96 0, .int 0 0, .ref 269, .int 102 0, .int 0 0, .ref 274, .int 113 0, .int 0 0, .ref 279, .int 119 0, .int 0 0, .ref 286, .int 127 0, .int 0 0, .ref 293, .int 132 0, .int 0 0, .ref 300, .int 143 0, .int 0 0, .ref 307, .int 147 0, .int 0 0, .ref 312, .int 159 0, .int 0 0, .ref 319].toArray) [].toArray
noncomputable def o_12_1 (P : Params) : Obj := Obj.mk (.type "dict") none (.dict [sE P "__name__" 250 (.str "_collections" 249), sE P "__doc__" 251 (.builtin "_collections.__doc__:str#opaque"), sE P "__package__" 253 (.str "" 252), sE P "__loader__" 254 (.ref 15), sE P "__spec__" 255 (.ref 27), sE P "_count_elements" 256 (.builtin "_collections._count_elements"), sE P "deque" 257 (.type "collections.deque"), sE P "defaultdict" 258 (.type "collections.defaultdict"), sE P "_deque_iterator" 259 (.type "collections._deque_iterator"), sE P "_deque_reverse_iterator" 260 (.type "collections._deque_reverse_iterator"), sE P "_tuplegetter" 261 (.type "collections._tuplegetter"), sE P "OrderedDict" 262 (.type "collections.OrderedDict")].toArray 12) [].toArray
noncomputable def ci (z j : Nat) (o : Obj) (l r : BT) : BT := Bool.rec (motive := fun _ => BT) .nil (.node o l r) (Nat.ble j z)
noncomputable def cl (z j : Nat) (o : Obj) : BT := Bool.rec (motive := fun _ => BT) .nil (.node o .nil .nil) (Nat.ble j z)
noncomputable def TT (P : Params) (z : Nat) (x2 x3 x30 x180 x225 : Obj) : BT := (.node (o_0 P) (.node (o_1 P) (.node x3 (.node (o_7 P) (.node (o_15 P) (ci z 32 (o_31 P) (ci z 64 (o_63 P) (ci z 128 (o_127 P) (cl z 256 (o_255 P)) .nil) (ci z 192 (o_191 P) (cl z 320 (o_319 P)) .nil)) (ci z 96 (o_95 P) (ci z 160 (o_159 P) (cl z 288 (o_287 P)) .nil) (cl z 224 (o_223 P)))) (ci z 48 (o_47 P) (ci z 80 (o_79 P) (ci z 144 (o_143 P) (cl z 272 (o_271 P)) .nil) (cl z 208 (o_207 P))) (ci z 112 (o_111 P) (ci z 176 (o_175 P) (cl z 304 (o_303 P)) .nil) (cl z 240 (o_239 P))))) (.node (o_23 P) (ci z 40 (o_39 P) (ci z 72 (o_71 P) (ci z 136 (o_135 P) (cl z 264 (o_263 P)) .nil) (ci z 200 (o_199 P) (cl z 328 (o_327 P)) .nil)) (ci z 104 (o_103 P) (ci z 168 (o_167 P) (cl z 296 (o_295 P)) .nil) (cl z 232 (o_231 P)))) (ci z 56 (o_55 P) (ci z 88 (o_87 P) (ci z 152 (o_151 P) (cl z 280 (o_279 P)) .nil) (cl z 216 (o_215 P))) (ci z 120 (o_119 P) (ci z 184 (o_183 P) (cl z 312 (o_311 P)) .nil) (cl z 248 (o_247 P)))))) (.node (o_11 P) (.node (o_19 P) (ci z 36 (o_35 P) (ci z 68 (o_67 P) (ci z 132 (o_131 P) (cl z 260 (o_259 P)) .nil) (ci z 196 (o_195 P) (cl z 324 (o_323 P)) .nil)) (ci z 100 (o_99 P) (ci z 164 (o_163 P) (cl z 292 (o_291 P)) .nil) (cl z 228 (o_227 P)))) (ci z 52 (o_51 P) (ci z 84 (o_83 P) (ci z 148 (o_147 P) (cl z 276 (o_275 P)) .nil) (cl z 212 (o_211 P))) (ci z 116 (o_115 P) (ci z 180 (o_179 P) (cl z 308 (o_307 P)) .nil) (cl z 244 (o_243 P))))) (.node (o_27 P) (ci z 44 (o_43 P) (ci z 76 (o_75 P) (ci z 140 (o_139 P) (cl z 268 (o_267 P)) .nil) (cl z 204 (o_203 P))) (ci z 108 (o_107 P) (ci z 172 (o_171 P) (cl z 300 (o_299 P)) .nil) (cl z 236 (o_235 P)))) (ci z 60 (o_59 P) (ci z 92 (o_91 P) (ci z 156 (o_155 P) (cl z 284 (o_283 P)) .nil) (cl z 220 (o_219 P))) (ci z 124 (o_123 P) (ci z 188 (o_187 P) (cl z 316 (o_315 P)) .nil) (cl z 252 (o_251 P))))))) (.node (o_5 P) (.node (o_9 P) (.node (o_17 P) (ci z 34 (o_33 P) (ci z 66 (o_65 P) (ci z 130 (o_129 P) (cl z 258 (o_257 P)) .nil) (ci z 194 (o_193 P) (cl z 322 (o_321 P)) .nil)) (ci z 98 (o_97 P) (ci z 162 (o_161 P) (cl z 290 (o_289 P)) .nil) (cl z 226 x225))) (ci z 50 (o_49 P) (ci z 82 (o_81 P) (ci z 146 (o_145 P) (cl z 274 (o_273 P)) .nil) (cl z 210 (o_209 P))) (ci z 114 (o_113 P) (ci z 178 (o_177 P) (cl z 306 (o_305 P)) .nil) (cl z 242 (o_241 P))))) (.node (o_25 P) (ci z 42 (o_41 P) (ci z 74 (o_73 P) (ci z 138 (o_137 P) (cl z 266 (o_265 P)) .nil) (cl z 202 (o_201 P))) (ci z 106 (o_105 P) (ci z 170 (o_169 P) (cl z 298 (o_297 P)) .nil) (cl z 234 (o_233 P)))) (ci z 58 (o_57 P) (ci z 90 (o_89 P) (ci z 154 (o_153 P) (cl z 282 (o_281 P)) .nil) (cl z 218 (o_217 P))) (ci z 122 (o_121 P) (ci z 186 (o_185 P) (cl z 314 (o_313 P)) .nil) (cl z 250 (o_249 P)))))) (.node (o_13 P) (.node (o_21 P) (ci z 38 (o_37 P) (ci z 70 (o_69 P) (ci z 134 (o_133 P) (cl z 262 (o_261 P)) .nil) (ci z 198 (o_197 P) (cl z 326 (o_325 P)) .nil)) (ci z 102 (o_101 P) (ci z 166 (o_165 P) (cl z 294 (o_293 P)) .nil) (cl z 230 (o_229 P)))) (ci z 54 (o_53 P) (ci z 86 (o_85 P) (ci z 150 (o_149 P) (cl z 278 (o_277 P)) .nil) (cl z 214 (o_213 P))) (ci z 118 (o_117 P) (ci z 182 (o_181 P) (cl z 310 (o_309 P)) .nil) (cl z 246 (o_245 P))))) (ci z 30 (o_29 P) (ci z 46 (o_45 P) (ci z 78 (o_77 P) (ci z 142 (o_141 P) (cl z 270 (o_269 P)) .nil) (cl z 206 (o_205 P))) (ci z 110 (o_109 P) (ci z 174 (o_173 P) (cl z 302 (o_301 P)) .nil) (cl z 238 (o_237 P)))) (ci z 62 (o_61 P) (ci z 94 (o_93 P) (ci z 158 (o_157 P) (cl z 286 (o_285 P)) .nil) (cl z 222 (o_221 P))) (ci z 126 (o_125 P) (ci z 190 (o_189 P) (cl z 318 (o_317 P)) .nil) (cl z 254 (o_253 P)))))))) (.node x2 (.node (o_4 P) (.node (o_8 P) (.node (o_16 P) (ci z 33 (o_32 P) (ci z 65 (o_64 P) (ci z 129 (o_128 P) (cl z 257 (o_256 P)) .nil) (ci z 193 (o_192 P) (cl z 321 (o_320 P)) .nil)) (ci z 97 (o_96 P) (ci z 161 (o_160 P) (cl z 289 (o_288 P)) .nil) (cl z 225 (o_224 P)))) (ci z 49 (o_48 P) (ci z 81 (o_80 P) (ci z 145 (o_144 P) (cl z 273 (o_272 P)) .nil) (cl z 209 (o_208 P))) (ci z 113 (o_112 P) (ci z 177 (o_176 P) (cl z 305 (o_304 P)) .nil) (cl z 241 (o_240 P))))) (.node (o_24 P) (ci z 41 (o_40 P) (ci z 73 (o_72 P) (ci z 137 (o_136 P) (cl z 265 (o_264 P)) .nil) (cl z 201 (o_200 P))) (ci z 105 (o_104 P) (ci z 169 (o_168 P) (cl z 297 (o_296 P)) .nil) (cl z 233 (o_232 P)))) (ci z 57 (o_56 P) (ci z 89 (o_88 P) (ci z 153 (o_152 P) (cl z 281 (o_280 P)) .nil) (cl z 217 (o_216 P))) (ci z 121 (o_120 P) (ci z 185 (o_184 P) (cl z 313 (o_312 P)) .nil) (cl z 249 (o_248 P)))))) (.node (o_12 P) (.node (o_20 P) (ci z 37 (o_36 P) (ci z 69 (o_68 P) (ci z 133 (o_132 P) (cl z 261 (o_260 P)) .nil) (ci z 197 (o_196 P) (cl z 325 (o_324 P)) .nil)) (ci z 101 (o_100 P) (ci z 165 (o_164 P) (cl z 293 (o_292 P)) .nil) (cl z 229 (o_228 P)))) (ci z 53 (o_52 P) (ci z 85 (o_84 P) (ci z 149 (o_148 P) (cl z 277 (o_276 P)) .nil) (cl z 213 (o_212 P))) (ci z 117 (o_116 P) (ci z 181 x180 (cl z 309 (o_308 P)) .nil) (cl z 245 (o_244 P))))) (.node (o_28 P) (ci z 45 (o_44 P) (ci z 77 (o_76 P) (ci z 141 (o_140 P) (cl z 269 (o_268 P)) .nil) (cl z 205 (o_204 P))) (ci z 109 (o_108 P) (ci z 173 (o_172 P) (cl z 301 (o_300 P)) .nil) (cl z 237 (o_236 P)))) (ci z 61 (o_60 P) (ci z 93 (o_92 P) (ci z 157 (o_156 P) (cl z 285 (o_284 P)) .nil) (cl z 221 (o_220 P))) (ci z 125 (o_124 P) (ci z 189 (o_188 P) (cl z 317 (o_316 P)) .nil) (cl z 253 (o_252 P))))))) (.node (o_6 P) (.node (o_10 P) (.node (o_18 P) (ci z 35 (o_34 P) (ci z 67 (o_66 P) (ci z 131 (o_130 P) (cl z 259 (o_258 P)) .nil) (ci z 195 (o_194 P) (cl z 323 (o_322 P)) .nil)) (ci z 99 (o_98 P) (ci z 163 (o_162 P) (cl z 291 (o_290 P)) .nil) (cl z 227 (o_226 P)))) (ci z 51 (o_50 P) (ci z 83 (o_82 P) (ci z 147 (o_146 P) (cl z 275 (o_274 P)) .nil) (cl z 211 (o_210 P))) (ci z 115 (o_114 P) (ci z 179 (o_178 P) (cl z 307 (o_306 P)) .nil) (cl z 243 (o_242 P))))) (.node (o_26 P) (ci z 43 (o_42 P) (ci z 75 (o_74 P) (ci z 139 (o_138 P) (cl z 267 (o_266 P)) .nil) (cl z 203 (o_202 P))) (ci z 107 (o_106 P) (ci z 171 (o_170 P) (cl z 299 (o_298 P)) .nil) (cl z 235 (o_234 P)))) (ci z 59 (o_58 P) (ci z 91 (o_90 P) (ci z 155 (o_154 P) (cl z 283 (o_282 P)) .nil) (cl z 219 (o_218 P))) (ci z 123 (o_122 P) (ci z 187 (o_186 P) (cl z 315 (o_314 P)) .nil) (cl z 251 (o_250 P)))))) (.node (o_14 P) (.node (o_22 P) (ci z 39 (o_38 P) (ci z 71 (o_70 P) (ci z 135 (o_134 P) (cl z 263 (o_262 P)) .nil) (ci z 199 (o_198 P) (cl z 327 (o_326 P)) .nil)) (ci z 103 (o_102 P) (ci z 167 (o_166 P) (cl z 295 (o_294 P)) .nil) (cl z 231 (o_230 P)))) (ci z 55 (o_54 P) (ci z 87 (o_86 P) (ci z 151 (o_150 P) (cl z 279 (o_278 P)) .nil) (cl z 215 (o_214 P))) (ci z 119 (o_118 P) (ci z 183 (o_182 P) (cl z 311 (o_310 P)) .nil) (cl z 247 (o_246 P))))) (ci z 31 x30 (ci z 47 (o_46 P) (ci z 79 (o_78 P) (ci z 143 (o_142 P) (cl z 271 (o_270 P)) .nil) (cl z 207 (o_206 P))) (ci z 111 (o_110 P) (ci z 175 (o_174 P) (cl z 303 (o_302 P)) .nil) (cl z 239 (o_238 P)))) (ci z 63 (o_62 P) (ci z 95 (o_94 P) (ci z 159 (o_158 P) (cl z 287 (o_286 P)) .nil) (cl z 223 (o_222 P))) (ci z 127 (o_126 P) (ci z 191 (o_190 P) (cl z 319 (o_318 P)) .nil) (cl z 255 (o_254 P)))))))))
noncomputable def T_pre (P : Params) : BT := TT P (nat_lit 33) (o_2_1 P) (o_3_1 P) (o_30_1 P) (o_180 P) (o_225 P)
noncomputable def T_p0 (P : Params) : BT := TT P (nat_lit 40) (o_2_1 P) (o_3_2 P) (o_30_2 P) (o_180 P) (o_225 P)
noncomputable def T_p1 (P : Params) : BT := TT P (nat_lit 40) (o_2_1 P) (o_3_3 P) (o_30_2 P) (o_180 P) (o_225 P)
noncomputable def T_p2 (P : Params) : BT := TT P (nat_lit 83) (o_2_1 P) (o_3_4 P) (o_30_3 P) (o_180 P) (o_225 P)
noncomputable def T_p3 (P : Params) : BT := TT P (nat_lit 113) (o_2 P) (o_3_5 P) (o_30_4 P) (o_180 P) (o_225 P)
noncomputable def T_p4 (P : Params) : BT := TT P (nat_lit 184) (o_2 P) (o_3_6 P) (o_30_5 P) (o_180_1 P) (o_225 P)
noncomputable def T_p5 (P : Params) : BT := TT P (nat_lit 207) (o_2 P) (o_3_7 P) (o_30_6 P) (o_180 P) (o_225 P)
noncomputable def T_p6 (P : Params) : BT := TT P (nat_lit 207) (o_2 P) (o_3_8 P) (o_30_6 P) (o_180 P) (o_225 P)
noncomputable def T_p7 (P : Params) : BT := TT P (nat_lit 218) (o_2 P) (o_3_9 P) (o_30_6 P) (o_180 P) (o_225 P)
noncomputable def T_p8 (P : Params) : BT := TT P (nat_lit 225) (o_2 P) (o_3_10 P) (o_30_7 P) (o_180 P) (o_225 P)
noncomputable def T_p9 (P : Params) : BT := TT P (nat_lit 264) (o_2 P) (o_3_11 P) (o_30_7 P) (o_180 P) (o_225 P)
noncomputable def T_p10 (P : Params) : BT := TT P (nat_lit 271) (o_2 P) (o_3_12 P) (o_30_8 P) (o_180 P) (o_225 P)
noncomputable def T_p11 (P : Params) : BT := TT P (nat_lit 271) (o_2 P) (o_3_13 P) (o_30_8 P) (o_180 P) (o_225 P)
noncomputable def T_p12 (P : Params) : BT := TT P (nat_lit 276) (o_2 P) (o_3_14 P) (o_30_9 P) (o_180 P) (o_225 P)
noncomputable def T_p13 (P : Params) : BT := TT P (nat_lit 281) (o_2 P) (o_3_15 P) (o_30_10 P) (o_180 P) (o_225 P)
noncomputable def T_p14 (P : Params) : BT := TT P (nat_lit 288) (o_2 P) (o_3_16 P) (o_30_11 P) (o_180 P) (o_225 P)
noncomputable def T_p15 (P : Params) : BT := TT P (nat_lit 295) (o_2 P) (o_3_17 P) (o_30_12 P) (o_180 P) (o_225 P)
noncomputable def T_p16 (P : Params) : BT := TT P (nat_lit 302) (o_2 P) (o_3_18 P) (o_30_13 P) (o_180 P) (o_225 P)
noncomputable def T_p17 (P : Params) : BT := TT P (nat_lit 309) (o_2 P) (o_3_19 P) (o_30_14 P) (o_180 P) (o_225 P)
noncomputable def T_p18 (P : Params) : BT := TT P (nat_lit 314) (o_2 P) (o_3_20 P) (o_30_15 P) (o_180 P) (o_225 P)
noncomputable def T_p19 (P : Params) : BT := TT P (nat_lit 321) (o_2 P) (o_3_21 P) (o_30_16 P) (o_180 P) (o_225 P)
noncomputable def T_p20 (P : Params) : BT := TT P (nat_lit 328) (o_2 P) (o_3 P) (o_30 P) (o_180 P) (o_225 P)
noncomputable def life0 : Life := Life.mk [] [] [] 0 [] [] false [].toArray [] 0 false false false 0 [2000, 10, 10] false 0 true [] [] 0 false
noncomputable def PG : Program := PySem.Challenge.pw_in0022_01
noncomputable def env0 : Env := { scope := PySem.Challenge.pw_in0022_01.main.scope, locals := mainNs, globals := mainNs, cells := [], code := .ref 31, frame := some 32 }
noncomputable def body0 : List Stmt := behindTheImports PySem.Challenge.pw_in0022_01
noncomputable def code0 : Code := .body body0 env0
noncomputable def q0 : Pos := ⟨0, 0, 0, 0⟩
noncomputable def S_pre (w : World) (os : OsState) : SharedT := ⟨T_pre w.params, nat_lit 33, life0, ⟨[]⟩, ⟨0, 0, 0, 0⟩, nat_lit 279, os⟩
noncomputable def S_p0 (w : World) (os : OsState) : SharedT := ⟨T_p0 w.params, nat_lit 40, life0, ⟨[]⟩, ⟨0, 0, 0, 0⟩, nat_lit 286, os⟩
noncomputable def S_p1 (w : World) (os : OsState) : SharedT := ⟨T_p1 w.params, nat_lit 40, life0, ⟨[]⟩, ⟨0, 0, 0, 0⟩, nat_lit 288, os⟩
noncomputable def S_p2 (w : World) (os : OsState) : SharedT := ⟨T_p2 w.params, nat_lit 83, life0, ⟨[]⟩, ⟨0, 0, 0, 0⟩, nat_lit 345, os⟩
noncomputable def S_p3 (w : World) (os : OsState) : SharedT := ⟨T_p3 w.params, nat_lit 113, life0, ⟨[]⟩, ⟨0, 0, 0, 0⟩, nat_lit 388, os⟩
noncomputable def S_p4 (w : World) (os : OsState) : SharedT := ⟨T_p4 w.params, nat_lit 184, life0, ⟨[]⟩, ⟨0, 0, 0, 0⟩, nat_lit 503, os⟩
noncomputable def S_p5 (w : World) (os : OsState) : SharedT := ⟨T_p5 w.params, nat_lit 207, life0, ⟨[]⟩, ⟨0, 0, 0, 0⟩, nat_lit 541, os⟩
noncomputable def S_p6 (w : World) (os : OsState) : SharedT := ⟨T_p6 w.params, nat_lit 207, life0, ⟨[]⟩, ⟨0, 0, 0, 0⟩, nat_lit 543, os⟩
noncomputable def S_p7 (w : World) (os : OsState) : SharedT := ⟨T_p7 w.params, nat_lit 218, life0, ⟨[]⟩, ⟨0, 0, 0, 0⟩, nat_lit 603, os⟩
noncomputable def S_p8 (w : World) (os : OsState) : SharedT := ⟨T_p8 w.params, nat_lit 225, life0, ⟨[]⟩, ⟨0, 0, 0, 0⟩, nat_lit 610, os⟩
noncomputable def S_p9 (w : World) (os : OsState) : SharedT := ⟨T_p9 w.params, nat_lit 264, life0, ⟨[]⟩, ⟨0, 0, 0, 0⟩, nat_lit 2561, os⟩
noncomputable def S_p10 (w : World) (os : OsState) : SharedT := ⟨T_p10 w.params, nat_lit 271, life0, ⟨[]⟩, ⟨0, 0, 0, 0⟩, nat_lit 2569, os⟩
noncomputable def S_p11 (w : World) (os : OsState) : SharedT := ⟨T_p11 w.params, nat_lit 271, life0, ⟨[]⟩, ⟨0, 0, 0, 0⟩, nat_lit 2571, os⟩
noncomputable def S_p12 (w : World) (os : OsState) : SharedT := ⟨T_p12 w.params, nat_lit 276, life0, ⟨[]⟩, ⟨0, 0, 0, 0⟩, nat_lit 2577, os⟩
noncomputable def S_p13 (w : World) (os : OsState) : SharedT := ⟨T_p13 w.params, nat_lit 281, life0, ⟨[]⟩, ⟨0, 0, 0, 0⟩, nat_lit 2583, os⟩
noncomputable def S_p14 (w : World) (os : OsState) : SharedT := ⟨T_p14 w.params, nat_lit 288, life0, ⟨[]⟩, ⟨0, 0, 0, 0⟩, nat_lit 2596, os⟩
noncomputable def S_p15 (w : World) (os : OsState) : SharedT := ⟨T_p15 w.params, nat_lit 295, life0, ⟨[]⟩, ⟨0, 0, 0, 0⟩, nat_lit 2605, os⟩
noncomputable def S_p16 (w : World) (os : OsState) : SharedT := ⟨T_p16 w.params, nat_lit 302, life0, ⟨[]⟩, ⟨0, 0, 0, 0⟩, nat_lit 2617, os⟩
noncomputable def S_p17 (w : World) (os : OsState) : SharedT := ⟨T_p17 w.params, nat_lit 309, life0, ⟨[]⟩, ⟨0, 0, 0, 0⟩, nat_lit 2624, os⟩
noncomputable def S_p18 (w : World) (os : OsState) : SharedT := ⟨T_p18 w.params, nat_lit 314, life0, ⟨[]⟩, ⟨0, 0, 0, 0⟩, nat_lit 2630, os⟩
noncomputable def S_p19 (w : World) (os : OsState) : SharedT := ⟨T_p19 w.params, nat_lit 321, life0, ⟨[]⟩, ⟨0, 0, 0, 0⟩, nat_lit 2637, os⟩
noncomputable def S_p20 (w : World) (os : OsState) : SharedT := ⟨T_p20 w.params, nat_lit 328, life0, ⟨[]⟩, ⟨0, 0, 0, 0⟩, nat_lit 2648, os⟩
end
end
section
theorem piece0 (w : World) (os : OsState) : segRunT treeTable PG w 29 (some (.ref 6)) 1 30 (S_pre w os) (piecesOf [stAt 1] env0 code0 q0 [topFrame q0]) = some (.next, S_p0 w os, code0, ⟨2, 0, 4, 12⟩) := by
  rewrite [PySem.W.Fast.te10110043849684766642, PySem.W.Fast.te14364793385576792824]
  kernel_rfl
theorem piece1 (w : World) (os : OsState) : segRunT treeTable PG w 29 (some (.ref 6)) 1 10 (S_p0 w os) (piecesOf [stAt 2] env0 code0 ⟨2, 0, 4, 12⟩ [topFrame q0]) = some (.next, S_p1 w os, code0, ⟨5, 0, 5, 8⟩) := by
  rewrite [PySem.W.Fast.te10110043849684766642, PySem.W.Fast.te14364793385576792824]
  kernel_rfl
theorem piece2 (w : World) (os : OsState) : segRunT treeTable PG w 29 (some (.ref 6)) 1 324 (S_p1 w os) (piecesOf [stAt 3] env0 code0 ⟨5, 0, 5, 8⟩ [topFrame q0]) = some (.next, S_p2 w os, code0, ⟨6, 0, 23, 54⟩) := by
  rewrite [PySem.W.Fast.te10110043849684766642, PySem.W.Fast.te14364793385576792824]
  kernel_rfl
theorem piece3 (w : World) (os : OsState) : segRunT treeTable PG w 29 (some (.ref 6)) 1 288 (S_p2 w os) (piecesOf [stAt 4] env0 code0 ⟨6, 0, 23, 54⟩ [topFrame q0]) = some (.next, S_p3 w os, code0, ⟨24, 0, 43, 57⟩) := by
  rewrite [PySem.W.Fast.te10110043849684766642, PySem.W.Fast.te14364793385576792824]
  kernel_rfl
theorem piece4 (w : World) (os : OsState) : segRunT treeTable PG w 29 (some (.ref 6)) 1 900 (S_p3 w os) (piecesOf [stAt 5] env0 code0 ⟨24, 0, 43, 57⟩ [topFrame q0]) = some (.next, S_p4 w os, code0, ⟨44, 0, 85, 55⟩) := by
  rewrite [PySem.W.Fast.te10110043849684766642, PySem.W.Fast.te14364793385576792824]
  kernel_rfl
theorem piece5 (w : World) (os : OsState) : segRunT treeTable PG w 29 (some (.ref 6)) 1 386 (S_p4 w os) (piecesOf [stAt 6] env0 code0 ⟨44, 0, 85, 55⟩ [topFrame q0]) = some (.next, S_p5 w os, code0, ⟨86, 0, 90, 55⟩) := by
  rewrite [PySem.W.Fast.te10110043849684766642, PySem.W.Fast.te14364793385576792824]
  kernel_rfl
theorem piece6 (w : World) (os : OsState) : segRunT treeTable PG w 29 (some (.ref 6)) 1 10 (S_p5 w os) (piecesOf [stAt 7] env0 code0 ⟨86, 0, 90, 55⟩ [topFrame q0]) = some (.next, S_p6 w os, code0, ⟨91, 0, 91, 8⟩) := by
  rewrite [PySem.W.Fast.te10110043849684766642, PySem.W.Fast.te14364793385576792824]
  kernel_rfl
theorem piece8 (w : World) (os : OsState) : segRunT treeTable PG w 29 (some (.ref 6)) 1 30 (S_p7 w os) (piecesOf [stAt 9] env0 code0 ⟨92, 0, 92, 6⟩ [topFrame q0]) = some (.next, S_p8 w os, code0, ⟨93, 0, 94, 30⟩) := by
  rewrite [PySem.W.Fast.te10110043849684766642, PySem.W.Fast.te14364793385576792824]
  kernel_rfl
theorem piece10 (w : World) (os : OsState) : segRunT treeTable PG w 29 (some (.ref 6)) 1 31 (S_p9 w os) (piecesOf [stAt 11] env0 code0 ⟨95, 0, 95, 13⟩ [topFrame q0]) = some (.next, S_p10 w os, code0, ⟨96, 0, 100, 23⟩) := by
  rewrite [PySem.W.Fast.te10110043849684766642, PySem.W.Fast.te14364793385576792824]
  kernel_rfl
theorem piece11 (w : World) (os : OsState) : segRunT treeTable PG w 29 (some (.ref 6)) 1 10 (S_p10 w os) (piecesOf [stAt 12] env0 code0 ⟨96, 0, 100, 23⟩ [topFrame q0]) = some (.next, S_p11 w os, code0, ⟨101, 0, 101, 8⟩) := by
  rewrite [PySem.W.Fast.te10110043849684766642, PySem.W.Fast.te14364793385576792824]
  kernel_rfl
theorem piece12 (w : World) (os : OsState) : segRunT treeTable PG w 29 (some (.ref 6)) 1 27 (S_p11 w os) (piecesOf [stAt 13] env0 code0 ⟨101, 0, 101, 8⟩ [topFrame q0]) = some (.next, S_p12 w os, code0, ⟨102, 0, 112, 86⟩) := by
  rewrite [PySem.W.Fast.te10110043849684766642, PySem.W.Fast.te14364793385576792824]
  kernel_rfl
theorem piece13 (w : World) (os : OsState) : segRunT treeTable PG w 29 (some (.ref 6)) 1 27 (S_p12 w os) (piecesOf [stAt 14] env0 code0 ⟨102, 0, 112, 86⟩ [topFrame q0]) = some (.next, S_p13 w os, code0, ⟨113, 0, 118, 20⟩) := by
  rewrite [PySem.W.Fast.te10110043849684766642, PySem.W.Fast.te14364793385576792824]
  kernel_rfl
theorem piece14 (w : World) (os : OsState) : segRunT treeTable PG w 29 (some (.ref 6)) 1 36 (S_p13 w os) (piecesOf [stAt 15] env0 code0 ⟨113, 0, 118, 20⟩ [topFrame q0]) = some (.next, S_p14 w os, code0, ⟨119, 0, 126, 15⟩) := by
  rewrite [PySem.W.Fast.te10110043849684766642, PySem.W.Fast.te14364793385576792824]
  kernel_rfl
theorem piece15 (w : World) (os : OsState) : segRunT treeTable PG w 29 (some (.ref 6)) 1 32 (S_p14 w os) (piecesOf [stAt 16] env0 code0 ⟨119, 0, 126, 15⟩ [topFrame q0]) = some (.next, S_p15 w os, code0, ⟨127, 0, 131, 15⟩) := by
  rewrite [PySem.W.Fast.te10110043849684766642, PySem.W.Fast.te14364793385576792824]
  kernel_rfl
theorem piece16 (w : World) (os : OsState) : segRunT treeTable PG w 29 (some (.ref 6)) 1 35 (S_p15 w os) (piecesOf [stAt 17] env0 code0 ⟨127, 0, 131, 15⟩ [topFrame q0]) = some (.next, S_p16 w os, code0, ⟨132, 0, 142, 15⟩) := by
  rewrite [PySem.W.Fast.te10110043849684766642, PySem.W.Fast.te14364793385576792824]
  kernel_rfl
theorem piece17 (w : World) (os : OsState) : segRunT treeTable PG w 29 (some (.ref 6)) 1 30 (S_p16 w os) (piecesOf [stAt 18] env0 code0 ⟨132, 0, 142, 15⟩ [topFrame q0]) = some (.next, S_p17 w os, code0, ⟨143, 0, 146, 16⟩) := by
  rewrite [PySem.W.Fast.te10110043849684766642, PySem.W.Fast.te14364793385576792824]
  kernel_rfl
theorem piece18 (w : World) (os : OsState) : segRunT treeTable PG w 29 (some (.ref 6)) 1 27 (S_p17 w os) (piecesOf [stAt 19] env0 code0 ⟨143, 0, 146, 16⟩ [topFrame q0]) = some (.next, S_p18 w os, code0, ⟨147, 0, 158, 83⟩) := by
  rewrite [PySem.W.Fast.te10110043849684766642, PySem.W.Fast.te14364793385576792824]
  kernel_rfl
theorem piece19 (w : World) (os : OsState) : segRunT treeTable PG w 29 (some (.ref 6)) 1 30 (S_p18 w os) (piecesOf [stAt 20] env0 code0 ⟨147, 0, 158, 83⟩ [topFrame q0]) = some (.next, S_p19 w os, code0, ⟨159, 0, 160, 41⟩) := by
  rewrite [PySem.W.Fast.te10110043849684766642, PySem.W.Fast.te14364793385576792824]
  kernel_rfl
theorem piece20 (w : World) (os : OsState) : segRunT treeTable PG w 29 (some (.ref 6)) 1 34 (S_p19 w os) (piecesOf [stAt 21] env0 code0 ⟨159, 0, 160, 41⟩ [topFrame q0]) = some (.next, S_p20 w os, code0, ⟨161, 0, 170, 15⟩) := by
  rewrite [PySem.W.Fast.te10110043849684766642, PySem.W.Fast.te14364793385576792824]
  kernel_rfl
end
section
theorem piece7_ff (w : World) (os : OsState) : segRunT treeTable PG ((w.withFollow "set-order" false).withFollow "special-get-raises" false) 29 (some (.ref 6)) 1 999 (S_p6 ((w.withFollow "set-order" false).withFollow "special-get-raises" false) os) (piecesOf [stAt 8] env0 code0 ⟨91, 0, 91, 8⟩ [topFrame q0]) = some (.next, S_p7 ((w.withFollow "set-order" false).withFollow "special-get-raises" false) os, code0, ⟨92, 0, 92, 6⟩) := by
  rewrite [PySem.W.Fast.te10110043849684766642, PySem.W.Fast.te14364793385576792824]
  kernel_rfl
theorem piece7_ft (w : World) (os : OsState) : segRunT treeTable PG ((w.withFollow "set-order" true).withFollow "special-get-raises" false) 29 (some (.ref 6)) 1 999 (S_p6 ((w.withFollow "set-order" true).withFollow "special-get-raises" false) os) (piecesOf [stAt 8] env0 code0 ⟨91, 0, 91, 8⟩ [topFrame q0]) = some (.next, S_p7 ((w.withFollow "set-order" true).withFollow "special-get-raises" false) os, code0, ⟨92, 0, 92, 6⟩) := by
  rewrite [PySem.W.Fast.te10110043849684766642, PySem.W.Fast.te14364793385576792824]
  kernel_rfl
theorem piece7_tf (w : World) (os : OsState) : segRunT treeTable PG ((w.withFollow "set-order" false).withFollow "special-get-raises" true) 29 (some (.ref 6)) 1 999 (S_p6 ((w.withFollow "set-order" false).withFollow "special-get-raises" true) os) (piecesOf [stAt 8] env0 code0 ⟨91, 0, 91, 8⟩ [topFrame q0]) = some (.next, S_p7 ((w.withFollow "set-order" false).withFollow "special-get-raises" true) os, code0, ⟨92, 0, 92, 6⟩) := by
  rewrite [PySem.W.Fast.te10110043849684766642, PySem.W.Fast.te14364793385576792824]
  kernel_rfl
theorem piece7_tt (w : World) (os : OsState) : segRunT treeTable PG ((w.withFollow "set-order" true).withFollow "special-get-raises" true) 29 (some (.ref 6)) 1 999 (S_p6 ((w.withFollow "set-order" true).withFollow "special-get-raises" true) os) (piecesOf [stAt 8] env0 code0 ⟨91, 0, 91, 8⟩ [topFrame q0]) = some (.next, S_p7 ((w.withFollow "set-order" true).withFollow "special-get-raises" true) os, code0, ⟨92, 0, 92, 6⟩) := by
  rewrite [PySem.W.Fast.te10110043849684766642, PySem.W.Fast.te14364793385576792824]
  kernel_rfl
theorem piece7_f (w : World) : ∀ os : OsState, segRunT treeTable PG (w.withFollow "special-get-raises" false) 29 (some (.ref 6)) 1 999 (S_p6 (w.withFollow "special-get-raises" false) os) (piecesOf [stAt 8] env0 code0 ⟨91, 0, 91, 8⟩ [topFrame q0]) = some (.next, S_p7 (w.withFollow "special-get-raises" false) os, code0, ⟨92, 0, 92, 6⟩) := byRow2 "set-order" (P := fun w => ∀ os : OsState, segRunT treeTable PG (w.withFollow "special-get-raises" false) 29 (some (.ref 6)) 1 999 (S_p6 (w.withFollow "special-get-raises" false) os) (piecesOf [stAt 8] env0 code0 ⟨91, 0, 91, 8⟩ [topFrame q0]) = some (.next, S_p7 (w.withFollow "special-get-raises" false) os, code0, ⟨92, 0, 92, 6⟩)) piece7_ff piece7_ft w
theorem piece7_t (w : World) : ∀ os : OsState, segRunT treeTable PG (w.withFollow "special-get-raises" true) 29 (some (.ref 6)) 1 999 (S_p6 (w.withFollow "special-get-raises" true) os) (piecesOf [stAt 8] env0 code0 ⟨91, 0, 91, 8⟩ [topFrame q0]) = some (.next, S_p7 (w.withFollow "special-get-raises" true) os, code0, ⟨92, 0, 92, 6⟩) := byRow2 "set-order" (P := fun w => ∀ os : OsState, segRunT treeTable PG (w.withFollow "special-get-raises" true) 29 (some (.ref 6)) 1 999 (S_p6 (w.withFollow "special-get-raises" true) os) (piecesOf [stAt 8] env0 code0 ⟨91, 0, 91, 8⟩ [topFrame q0]) = some (.next, S_p7 (w.withFollow "special-get-raises" true) os, code0, ⟨92, 0, 92, 6⟩)) piece7_tf piece7_tt w
theorem piece7 (w : World) : ∀ os : OsState, segRunT treeTable PG w 29 (some (.ref 6)) 1 999 (S_p6 w os) (piecesOf [stAt 8] env0 code0 ⟨91, 0, 91, 8⟩ [topFrame q0]) = some (.next, S_p7 w os, code0, ⟨92, 0, 92, 6⟩) := byRow2 "special-get-raises" (P := fun w => ∀ os : OsState, segRunT treeTable PG w 29 (some (.ref 6)) 1 999 (S_p6 w os) (piecesOf [stAt 8] env0 code0 ⟨91, 0, 91, 8⟩ [topFrame q0]) = some (.next, S_p7 w os, code0, ⟨92, 0, 92, 6⟩)) piece7_f piece7_t w
end
section
noncomputable abbrev Item := Option (Sem Value) × Sem Value
noncomputable abbrev DSt := Option Addr × List (Sem Value × Sem Value)
@[reducible] noncomputable def dispShape : {FG : (Item → DSt → Sem (ForInStep DSt)) × (DSt → Sem Value) // ∀ items : List Item, dictDisplay items = (forIn items ((none, []) : DSt) FG.1) >>= FG.2} := ⟨(_, _), fun items => rfl⟩
noncomputable def Fd : Item → DSt → Sem (ForInStep DSt) := dispShape.1.1
noncomputable def Gd : DSt → Sem Value := dispShape.1.2
theorem disp_eq (items : List Item) : dictDisplay items = (forIn items ((none, []) : DSt) Fd) >>= Gd := dispShape.2 items
noncomputable def goS {α σ : Type} (F : α → σ → Sem (ForInStep σ)) : List α → σ → Sem (ForInStep σ)
  | [], s => pure (.yield s)
  | x :: xs, s => F x s >>= fun r => match r with | .done s => pure (.done s) | .yield s => goS F xs s
theorem forIn_goS {α σ : Type} (F : α → σ → Sem (ForInStep σ)) (b : List α) : ∀ (a : List α) (s : σ),
    forIn (a ++ b) s F = (goS F a s >>= fun r => match r with | .done s => pure s | .yield s => forIn b s F)
  | [], s => by simp only [List.nil_append, goS, pure_bind]
  | x :: xs, s => by
    rw [List.cons_append, List.forIn_cons, goS, bind_assoc]
    congr 1
    funext r
    cases r with
    | done s => simp only [pure_bind]
    | yield s => exact forIn_goS F b xs s
noncomputable abbrev tR (w : World) (N : Nat) (s : Shared) (t : Thread) (r : Shared) : Prop := topRun treeTable PG w 29 (some (.ref 6)) N s t = some r
noncomputable def st10 : Stmt := stAt 10
noncomputable def dKeys (s : Stmt) : List (Option Expr) := match s with | .Assign _ (.Dict k _ _) _ => k | _ => []
noncomputable def dVals (s : Stmt) : List Expr := match s with | .Assign _ (.Dict _ v _) _ => v | _ => []
noncomputable def dPos (s : Stmt) : Pos := match s with | .Assign _ (.Dict _ _ p) _ => p | _ => default
noncomputable def aTgts (s : Stmt) : List Expr := match s with | .Assign t _ _ => t | _ => []
noncomputable def aPos (s : Stmt) : Pos := match s with | .Assign _ _ p => p | _ => default
theorem st10_eq : stAt 10 = .Assign (aTgts st10) (.Dict (dKeys st10) (dVals st10) (dPos st10)) (aPos st10) := by kernel_rfl
noncomputable def items0 : List Item := (evalEachOpt (dKeys st10) env0).zip ((evalEach (dVals st10) env0).map fun v => do let x ← v; standAt (dPos st10); pure x)
noncomputable def res225 (a : ForInStep DSt) : Flow := match a with | .yield (some d, []) => (match Nat.beq d 225 with | true => .next | false => .brk) | _ => .brk
theorem res225_iff (a : ForInStep DSt) (h : res225 a = .next) : a = .yield (some 225, []) := by
  unfold res225 at h
  split at h
  · rename_i d
    split at h
    · rename_i e; rw [Nat.eq_of_beq_eq_true e]
    · cases h
  · cases h
end
section
noncomputable def Go (w : World) (n : Nat) {α : Type} (x : Sem α) (s : Shared) (p : Pos) (a : α) (s' : Shared) (p' : Pos) (gd : Bool → Bool) (lv : List Value → List Value) : Prop :=
  ∀ (K : α → Sem Fin) (H : Value → Sem Fin) (N : Nat) (r : Shared), tR w N s' ⟨K a, code0, p', [topFrame q0]⟩ r → tR w (n + N) s ⟨x.wrap K H gd lv, code0, p, [topFrame q0]⟩ r
section
variable {w : World} {n m : Nat} {α β : Type} {s s' s₁ : Shared} {p p' p₁ : Pos} {gd : Bool → Bool} {lv : List Value → List Value}
theorem Go.pure (a : α) : Go w 0 (Sem.pure a) s p a s p gd lv := fun K H N r h => by rw [Nat.zero_add]; exact h
theorem Go.bind {x : Sem α} {f : α → Sem β} {a : α} {b : β} (h : Go w n x s p a s₁ p₁ gd lv) (k : Go w m (f a) s₁ p₁ b s' p' gd lv) : Go w (n + m) (x >>= f) s p b s' p' gd lv := fun K H N r z => by
  rw [Sem.bind_eq_wrap', Sem.wrap_wrap, Nat.add_assoc]
  exact h _ _ _ r (k K H N r z)
theorem Go.keep {x : Sem α} {a : α} (vs : List Value) (h : Go w n x s p a s' p' gd (fun l => lv (vs ++ l))) : Go w n (x.keep vs) s p a s' p' gd lv := fun K H N r z => by
  rw [Sem.keep_eq_wrap, Sem.wrap_wrap]
  exact h _ _ N r z
theorem Go.onRaise {x : Sem α} {a : α} {hd : Value → Sem Unit} (h : Go w n x s p a s' p' gd lv) : Go w n (x.onRaise hd) s p a s' p' gd lv := fun K H N r z => by
  rw [Sem.onRaise_eq_wrap, Sem.wrap_wrap]
  exact h _ _ N r z
theorem tR_step {w : World} {N : Nat} {s s' r : Shared} {t t' : Thread} (h1 : through t = false) (h2 : stepOk 29 (some (.ref 6)) t = true) (h3 : step (denote treeTable) PG w s t = .go s' t') (h : tR w N s' t' r) : tR w (N + 1) s t r := by
  unfold tR topRun
  rw [h1, h2]
  dsimp only
  rw [h3]
  exact h
theorem Go.load {a : Addr} {part : Option Value} {k : Obj → Sem α} {o : Obj} {b : α} (e : s.heap.get? a = some o) (h : Go w n (k o) s p b s' p' gd lv) : Go w (n + 1) (.load a part k) s p b s' p' gd lv := fun K H N r z => by
  rw [Nat.add_right_comm]
  refine tR_step rfl rfl ?_ (h K H N r z)
  obtain ⟨hp, g, d, t, os⟩ := s
  dsimp only at e
  simp only [Sem.wrap, step, e]
theorem Go.update {a : Addr} {part : Option Value} {f : Obj → Obj} {k : Unit → Sem α} {b : α} (big : Nat.ble 29 a = true) (e : (s.heap.get? a).isSome = true) (h : Go w n (k ()) { s with heap := s.heap.update a f } p b s' p' gd lv) : Go w (n + 1) (.update a part f k) s p b s' p' gd lv := fun K H N r z => by
  rw [Nat.add_right_comm]
  refine tR_step rfl ?_ ?_ (h K H N r z)
  · show (true && (Nat.ble 29 a || _ || _ || _)) = true
    rw [big]; rfl
  · obtain ⟨hp, g, d, t, os⟩ := s
    dsimp only at e
    simp only [Sem.wrap, step, e, if_true]
theorem Go.at {q : Pos} {k : Unit → Sem α} {b : α} (h : Go w n (k ()) s q b s' p' gd lv) : Go w (n + 1) (.at q k) s p b s' p' gd lv := fun K H N r z => by
  rw [Nat.add_right_comm]
  refine tR_step rfl rfl ?_ (h K H N r z)
  obtain ⟨hp, g, d, t, os⟩ := s
  rfl
theorem Go.run {x : Sem α} {a₀ : α} (res : α → Flow) (hres : ∀ a, res a = .next → a = a₀) (h : segRun treeTable PG w 29 (some (.ref 6)) 1 n s ⟨x.wrap (fun a => .pure (.done (res a))) deadEnd gd lv, code0, p, [topFrame q0]⟩ = some (.next, s', code0, p')) :
    Go w n x s p a₀ s' p' gd lv := fun K H N r z => by
  obtain ⟨a, ha, hN⟩ := seg_top (res := res) (K' := K) (H' := H) (B := [topFrame q0]) rfl n s ⟨x.wrap (fun a => .pure (.done (res a))) deadEnd gd lv, code0, p, [topFrame q0]⟩ ⟨x.wrap K H gd lv, code0, p, [topFrame q0]⟩ _ _ _ _ ⟨rfl, rfl, .inl ⟨rfl, rfl, _, rfl, rfl⟩⟩ h
  exact hN N r (by rw [hres a ha]; exact z)
end
end
section
noncomputable def dobj (es : List DictEntry) (n : Nat) : Obj := ⟨.type "dict", none, .dict es.toArray n, #[]⟩
theorem places_none (es : List DictEntry) (h : Int) (hn : ∀ e ∈ es, e.hash ≠ h) : placesWithHash es.toArray.size (fun i => es.toArray[i]?.map (·.hash)) h = [] := by
  unfold placesWithHash
  rw [List.filter_eq_nil_iff]
  intro i hi hc
  simp only [List.getElem?_toArray, beq_iff_eq, Option.map_eq_some_iff] at hc
  obtain ⟨e, he, hh⟩ := hc
  exact hn e (List.mem_of_getElem? he) hh
section
variable {w : World} {n : Nat} {s s' : Shared} {p p' : Pos} {gd : Bool → Bool} {lv : List Value → List Value} {es : List DictEntry} {m : Nat} {d : Addr}
theorem go_find {h i : Int} {t : Nat} (e : s.heap.get? d = some (dobj es m)) (hn : ∀ e ∈ es, e.hash ≠ h) : Go w 1 (dictFind d (.int i t) h) s p none s p gd lv := by
  have hp := places_none es h hn
  refine Go.load (o := dobj es m) e ?_
  show Go w 0 (Sem.bind (Sem.bind (Sem.pure _) _) _) s p none s p gd lv
  dsimp only [dobj]
  dsimp only [Sem.bind, Pure.pure]
  rw [hp]
  exact Go.pure none
theorem go_put {h i : Int} {t : Nat} {v : Value} (big : Nat.ble 29 d = true) (e : s.heap.get? d = some (dobj es m)) (hn : ∀ e ∈ es, e.hash ≠ h) (hs : es.length + 1 ≤ sizeLine + 1) :
    Go w 4 (dictPut d h (.int i t) v) s p () { s with heap := s.heap.update d (Obj.mapDictKeys (·.push ⟨h, .int i t, v⟩)) } p gd lv := by
  refine Go.bind (n := 1) (m := 3) (go_find e hn) ?_
  refine Go.load (o := dobj es m) e ?_
  refine Go.update (k := fun _ => lookBehind d none) big (by rw [e]; rfl) ?_
  refine Go.load (Heap.get?_update_self _ e rfl) ?_
  have hp : (Obj.mapDictKeys (fun x => x.push ⟨h, .int i t, v⟩) (dobj es m)).data.pastItsLine = none := by
    show (if (es.toArray.push _).size > sizeLine + 1 then _ else none) = none
    rw [if_neg]
    rw [Array.size_push, List.size_toArray]
    (first | lia | omega)
  dsimp only [Sem.bind]
  rw [hp]
  exact Go.pure ()
theorem mapKeys_dobj (e : DictEntry) : Obj.mapDictKeys (·.push e) (dobj es m) = dobj (es ++ [e]) (m + 1) := by
  simp only [Obj.mapDictKeys, dobj, List.push_toArray]
theorem update_same {hp : Heap} {o : Obj} (he : hp.get? d = some o) : hp.update d (fun _ => o) = hp := by
  obtain ⟨e1, _⟩ := Heap.get?_some_iff.mp he
  obtain ⟨objs, l⟩ := hp
  simp only [Heap.update, Heap.mk.injEq, and_true]
  refine Array.ext_getElem? fun i => ?_
  rw [Array.getElem?_modify]
  split
  · rename_i hi; subst hi; simp only at e1; rw [e1]; rfl
  · rfl
theorem update_put {hp : Heap} (e : DictEntry) : (hp.update d fun _ => dobj es m).update d (Obj.mapDictKeys (·.push e)) = hp.update d (fun _ => dobj (es ++ [e]) (m + 1)) := by
  obtain ⟨objs, l⟩ := hp
  simp only [Heap.update, Heap.mk.injEq, and_true]
  refine Array.ext_getElem? fun i => ?_
  rw [Array.getElem?_modify, Array.getElem?_modify, Array.getElem?_modify]
  split
  · cases objs[i]? with
    | none => rfl
    | some o => show some (Obj.mapDictKeys _ (dobj es m)) = _; rw [mapKeys_dobj]; rfl
  · rfl
theorem go_loop {c : Nat} {F : Nat → PUnit → Sem (ForInStep PUnit)} {st : Nat → Shared} (k : Nat) (step : ∀ j, j < k → Go w c (F j ⟨⟩) (st j) p (.yield ⟨⟩) (st (j + 1)) p gd lv) :
    Go w (c * k) (forIn (List.range k) PUnit.unit F) (st 0) p ⟨⟩ (st k) p gd lv := by
  suffices H : ∀ r j, j + r = k → Go w (c * r) (forIn (List.range' j r) PUnit.unit F) (st j) p ⟨⟩ (st k) p gd lv by
    rw [List.range_eq_range']; exact H k 0 (Nat.zero_add k)
  intro r
  induction r with
  | zero => intro j h; obtain rfl : j = k := h; exact Go.pure _
  | succ r ih =>
    intro j h
    rw [List.range'_succ, List.forIn_cons, Nat.mul_succ, Nat.add_comm]
    exact Go.bind (step j (by (first | lia | omega))) (ih (j + 1) (by (first | lia | omega)))
theorem go_mergeMapping {a : Addr} {g : List DictEntry} {mg n1 n2 : Nat} (big : Nat.ble 29 d = true) (hda : d ≠ a) (hsys : (a == sysModules) = false) (hg : ∀ e ∈ g, ∃ i t u v, e.key = .int i t ∧ e.val = .str u v) (he : es.isEmpty = false)
    (hd : s.heap.get? d = some (dobj es m)) (ha : s.heap.get? a = some (dobj g mg)) (hl : (es ++ g).length ≤ sizeLine) (hn : (es ++ g).Pairwise (fun x y => x.hash ≠ y.hash))
    (hI : Go w n1 (isInstance (.ref a) (.type "dict")) s p true s p gd lv) (hS : Go w n2 (specialOf (.ref a) "__iter__") s p (some (.builtin "dict.__iter__")) s p gd lv) :
    Go w (n1 + (n2 + (3 + 6 * g.length))) (mergeMapping d (.ref a) false) s p () { s with heap := s.heap.update d fun _ => dobj (es ++ g) (m + g.length) } p gd lv := by
  unfold mergeMapping
  refine Go.bind hI ?_
  refine Go.bind hS ?_
  have hb : (some (Value.builtin "dict.__iter__") == some (Value.builtin "dict.__iter__")) = true := by kernel_rfl
  rw [hb, pure_bind]
  dsimp only
  rw [hsys]
  simp only [Bool.false_eq_true, if_false]
  rw [show 3 + 6 * g.length = (2 + 6 * g.length) + 1 by (first | lia | omega)]
  refine Go.load (o := dobj es m) hd ?_
  have hz : es.toArray.isEmpty = false := by rw [List.isEmpty_toArray]; exact he
  dsimp only [dobj, Sem.bind, Pure.pure]
  rw [hz]
  simp only [Bool.false_eq_true, if_false]
  rw [show 2 + 6 * g.length = (1 + 6 * g.length) + 1 by (first | lia | omega)]
  refine Go.load (o := dobj g mg) ha ?_
  dsimp only [dobj, Sem.bind, Pure.pure]
  rw [show 1 + 6 * g.length = 6 * g.length + 1 by (first | lia | omega)]
  refine Go.load (o := dobj g mg) ha ?_
  dsimp only [dobj, Sem.bind, Pure.pure]
  rw [List.size_toArray]
  let st : Nat → Shared := fun j => { s with heap := s.heap.update d fun _ => dobj (es ++ g.take j) (m + j) }
  have st0 : st 0 = s := by
    show Shared.mk (s.heap.update d fun _ => dobj (es ++ []) m) _ _ _ _ = s
    rw [List.append_nil, update_same hd]
  have stl : st g.length = { s with heap := s.heap.update d fun _ => dobj (es ++ g) (m + g.length) } := by
    show Shared.mk (s.heap.update d fun _ => dobj (es ++ g.take g.length) (m + g.length)) _ _ _ _ = _
    rw [List.take_length]
  rw [show 6 * g.length = 6 * g.length + 0 by (first | lia | omega)]
  refine Go.bind (s₁ := st g.length) (p₁ := p) (a := PUnit.unit) ?_ (by rw [stl]; exact Go.pure ())
  conv => arg 4; rw [← st0]
  refine go_loop g.length fun j hj => ?_
  have hda' : (st j).heap.get? a = some (dobj g mg) := (Heap.get?_update_other _ _ hda).trans ha
  have hdd : (st j).heap.get? d = some (dobj (es ++ g.take j) (m + j)) := Heap.get?_update_self _ hd rfl
  refine Go.load (n := 5) (o := dobj g mg) hda' ?_
  dsimp only [dobj, Sem.bind, Pure.pure]
  obtain ⟨i, t, u, v, hk, hv⟩ := hg g[j] (List.getElem_mem hj)
  have hget : g.toArray[j]? = some g[j] := by rw [List.getElem?_toArray, List.getElem?_eq_getElem hj]
  rw [hget]
  dsimp only
  have hh : holding [g[j].key, g[j].val] (dictPut d g[j].hash g[j].key g[j].val) = dictPut d g[j].hash (.int i t) g[j].val := by
    rw [hk, hv]; rfl
  rw [hh]
  have hent : (⟨g[j].hash, .int i t, g[j].val⟩ : DictEntry) = g[j] := by rw [← hk]
  have hup : ({ st j with heap := (st j).heap.update d (Obj.mapDictKeys (·.push ⟨g[j].hash, .int i t, g[j].val⟩)) } : Shared) = st (j + 1) := by
    rw [hent]
    show Shared.mk ((s.heap.update d fun _ => dobj (es ++ g.take j) (m + j)).update d _) _ _ _ _ = Shared.mk (s.heap.update d fun _ => dobj (es ++ g.take (j + 1)) (m + (j + 1))) _ _ _ _
    rw [update_put, List.take_succ_eq_append_getElem hj, List.append_assoc]
    rfl
  refine Go.bind (n := 4) (m := 1) (s₁ := st (j + 1)) (p₁ := p) (a := ()) ?_ ?_
  · rw [← hup]
    refine go_put big hdd (fun e he' => ?_) ?_
    · rw [List.pairwise_append] at hn
      rcases List.mem_append.mp he' with h1 | h1
      · exact hn.2.2 e h1 _ (List.getElem_mem hj)
      · obtain ⟨k, hk', rfl⟩ := List.getElem_of_mem h1
        rw [List.length_take] at hk'
        rw [List.getElem_take]
        exact List.pairwise_iff_getElem.mp hn.2.1 k j (by (first | lia | omega)) hj (by (first | lia | omega))
    · rw [List.length_append] at hl ⊢
      rw [List.length_take]; (first | lia | omega)
  · have hda2 : (st (j + 1)).heap.get? a = some (dobj g mg) := (Heap.get?_update_other _ _ hda).trans ha
    refine Go.load (n := 0) (o := dobj g mg) hda2 ?_
    dsimp only [dobj, Sem.bind, Pure.pure]
    have hne : (mg != mg) = false := bne_self_eq_false mg
    rw [hne]
    exact Go.pure _
end
end
section
noncomputable def someP (p : Sem Value × Sem Value) : Item := (some p.1, p.2)
noncomputable def pairs0 : List (Sem Value × Sem Value) := items0.filterMap fun x => match x with | (some k, v) => some (k, v) | _ => none
theorem items0_eq : items0 = pairs0.map someP := by kernel_rfl
theorem fd_few (m : Option Addr) (p : Sem Value × Sem Value) (run : List (Sem Value × Sem Value)) (h : run.length + 1 < 17) : Fd (someP p) (m, run) = pure (.yield (m, run ++ [p])) := by
  have hne : ((run ++ [(p.1, p.2)]).length == 17) = false := by simp; (first | lia | omega)
  unfold Fd dispShape someP
  dsimp only
  rw [hne]
  simp only [Bool.false_eq_true, if_false]
theorem goS_few (m : Option Addr) (rest : List Item) : ∀ (l run : List (Sem Value × Sem Value)), run.length + l.length < 17 → goS Fd (l.map someP ++ rest) (m, run) = goS Fd rest (m, run ++ l)
  | [], run, _ => by simp
  | p :: l, run, h => by
    rw [List.map_cons, List.cons_append, goS, fd_few m p run (by simp at h; (first | lia | omega)), pure_bind]
    show goS Fd (l.map someP ++ rest) (m, run ++ [p]) = _
    rw [goS_few m rest l (run ++ [p]) (by simp at h ⊢; (first | lia | omega)), List.append_assoc]
    rfl
section
variable {w : World} {n m : Nat} {s s₁ s' : Shared} {p p' : Pos} {gd : Bool → Bool} {lv : List Value → List Value} {d a : Addr}
theorem go_flush {p0 : Sem Value × Sem Value} {run : List (Sem Value × Sem Value)} (h : run.length = 16) (h1 : Go w n (holding [.ref d] (subDict (run ++ [p0]))) s p a s₁ p' gd lv)
    (h2 : Go w m (mergeMapping d (.ref a) false) s₁ p' () s' p' gd (fun l => lv ([.ref d, .ref a] ++ l))) : Go w (n + m) (Fd (someP p0) (some d, run)) s p (.yield (some d, [])) s' p' gd lv := by
  have hne : ((run ++ [(p0.1, p0.2)]).length == 17) = true := by simp [h]
  have hem : (run ++ [(p0.1, p0.2)]).isEmpty = false := by simp
  unfold Fd dispShape someP
  dsimp only
  rw [hne, hem]
  simp only [if_true, Bool.false_eq_true, if_false]
  rw [bind_assoc]
  refine Go.bind h1 ?_
  rw [bind_assoc]
  refine Go.bind (n := m) (m := 0) (a := ()) (Go.onRaise ?_) (Go.pure _)
  show Go w m ((mergeMapping d (.ref a) false).keep [.ref d, .ref a]) _ _ _ _ _ _ _
  exact Go.keep _ h2
theorem go_chunk {l : List (Sem Value × Sem Value)} (hl : l.length = 17) (h1 : Go w n (holding [.ref d] (subDict l)) s p a s₁ p' gd lv)
    (h2 : Go w m (mergeMapping d (.ref a) false) s₁ p' () s' p' gd (fun l => lv ([.ref d, .ref a] ++ l))) : Go w (n + m) (goS Fd (l.map someP) (some d, [])) s p (.yield (some d, [])) s' p' gd lv := by
  have hcut : l = l.take 16 ++ [l[16]] := by rw [← List.take_succ_eq_append_getElem (by (first | lia | omega)), List.take_of_length_le (by (first | lia | omega))]
  rw [hcut, List.map_append, goS_few (some d) _ (l.take 16) [] (by simp; (first | lia | omega)), List.nil_append]
  show Go w (n + m) (Fd (someP l[16]) (some d, l.take 16) >>= _) s p _ s' p' gd lv
  rw [show n + m = (n + m) + 0 by (first | lia | omega)]
  refine Go.bind (go_flush (by simp [hl]) (by rw [← hcut]; exact h1) h2) ?_
  exact Go.pure _
end
noncomputable def sortedB : List DictEntry → Bool
  | [] => true
  | x :: l => match l with
    | [] => true
    | y :: _ => (match x.hash, y.hash with | .ofNat a, .ofNat b => Nat.blt a b | _, _ => false) && sortedB l
theorem sortedB_iff : ∀ {l : List DictEntry}, sortedB l = true → l.Pairwise fun x y => x.hash < y.hash
  | [], _ => .nil
  | [x], _ => List.pairwise_singleton _ _
  | x :: y :: l, h => by
    unfold sortedB at h
    rw [Bool.and_eq_true] at h
    have hp := sortedB_iff h.2
    have hxy : x.hash < y.hash := by
      have h1 := h.1
      split at h1
      · rename_i a b ea eb
        rw [ea, eb]
        have := Nat.blt_eq.mp h1
        show (a : Int) < (b : Int)
        (first | lia | omega)
      · cases h1
    refine List.pairwise_cons.mpr ⟨fun z hz => ?_, hp⟩
    rcases List.mem_cons.mp hz with rfl | hz
    · exact hxy
    · exact Int.lt_trans hxy ((List.pairwise_cons.mp hp).1 z hz)
theorem e225_sorted : e_225.Pairwise fun x y => x.hash ≠ y.hash := (sortedB_iff (by kernel_rfl)).imp fun h => by (first | lia | omega)
noncomputable def intStrB (e : DictEntry) : Bool := match e.key, e.val with | .int .., .str .. => true | _, _ => false
theorem e225_plain : ∀ e ∈ e_225, ∃ i t u v, e.key = .int i t ∧ e.val = .str u v := by
  have h : e_225.all intStrB = true := by kernel_rfl
  intro e he
  have := List.all_eq_true.mp h e he
  unfold intStrB at this
  split at this
  · rename_i h1 h2; exact ⟨_, _, _, _, h1, h2⟩
  · cases this
theorem e225_len : e_225.length = 650 := by kernel_rfl
end
section
section
variable {w : World} {n : Nat} {s s₁ s' : Shared} {p p' : Pos} {gd : Bool → Bool} {lv : List Value → List Value} {d a : Addr} {g es : List DictEntry} {m mg : Nat}
theorem go_isDict (e : s.heap.get? a = some (dobj g mg)) : Go w 1 (isInstance (.ref a) (.type "dict")) s p true s p gd lv := by
  have h : isSubtype (.type "dict") (.type "dict") = Sem.pure true := by kernel_rfl
  refine Go.load (o := dobj g mg) e ?_
  show Go w 0 (isSubtype (.type "dict") (.type "dict")) s p true s p gd lv
  rw [h]
  exact Go.pure true
theorem go_iterOf (e : s.heap.get? a = some (dobj g mg)) : Go w 1 (specialOf (.ref a) "__iter__") s p (some (.builtin "dict.__iter__")) s p gd lv := by
  have h : typeLookup (.type "dict") "__iter__" = Sem.pure (some (.builtin "dict.__iter__")) := by kernel_rfl
  refine Go.load (o := dobj g mg) e ?_
  show Go w 0 (typeLookup (.type "dict") "__iter__") s p (some (.builtin "dict.__iter__")) s p gd lv
  rw [h]
  exact Go.pure _
theorem go_mm (big : Nat.ble 29 d = true) (hda : Nat.beq d a = false) (hsys : (a == sysModules) = false) (hg : ∀ e ∈ g, ∃ i t u v, e.key = .int i t ∧ e.val = .str u v) (he : es.isEmpty = false)
    (hd : s.heap.get? d = some (dobj es m)) (ha : s.heap.get? a = some (dobj g mg)) (hl : (es ++ g).length ≤ sizeLine) (hn : (es ++ g).Pairwise (fun x y => x.hash ≠ y.hash)) :
    Go w (5 + 6 * g.length) (mergeMapping d (.ref a) false) s p () { s with heap := s.heap.update d fun _ => dobj (es ++ g) (m + g.length) } p gd lv := by
  rw [show 5 + 6 * g.length = 1 + (1 + (3 + 6 * g.length)) by omega]
  exact go_mergeMapping big (Nat.ne_of_beq_eq_false hda) hsys hg he hd ha hl hn (go_isDict ha) (go_iterOf ha)
end
theorem absG {t : BT} {n : Nat} {life : Life} {gens : Array GenState} {dr : Drawn} {k : Nat} {os : OsState} {a : Nat} {o : Obj} (h : Nat.blt a n = true) (g : t.get a = some o) (hf : alive o = some o) : (SharedT.abs ⟨t, n, life, gens, dr, k, os⟩).heap.get? a = some o :=
  (PySem.W.abs_get (Nat.blt_eq.mp h) g).trans hf
noncomputable def resA (k : Addr) (a : Addr) : Flow := match Nat.beq a k with | true => .next | false => .brk
theorem resA_iff {k a : Addr} (h : resA k a = .next) : a = k := by
  unfold resA at h
  split at h
  · rename_i e; exact Nat.eq_of_beq_eq_true e
  · cases h
theorem chunk_go {w : World} {n : Nat} {T : BT} {nn tk : Nat} {os : OsState} {s : Shared} {T' : BT} {p p' : Pos} (k : Nat) (a : Addr) {o' : Obj} (hk : k + 17 ≤ 650) (hk0 : Nat.ble 17 k = true) (ha0 : Nat.beq 225 a = false) (hsys : (a == sysModules) = false)
    (hsub : Go w n (holding [.ref 225] (subDict ((pairs0.drop k).take 17))) s p a (SharedT.abs ⟨T, nn, life0, ⟨[]⟩, ⟨0, 0, 0, 0⟩, tk, os⟩) p' id id)
    (hb1 : Nat.blt 225 nn = true) (hb2 : Nat.blt a nn = true) (hd : T.get 225 = some (dobj (e_225.take k) k)) (ha : T.get a = some (dobj ((e_225.drop k).take 17) 17))
    (hset : T.set 225 (fun _ => dobj (e_225.take (k + 17)) (k + 17)) = T') (hl : ((pairs0.drop k).take 17).length = 17) :
    Go w (n + 107) (goS Fd (((pairs0.drop k).take 17).map someP) (some 225, [])) s p (.yield (some 225, [])) (SharedT.abs ⟨T', nn, life0, ⟨[]⟩, ⟨0, 0, 0, 0⟩, tk, os⟩) p' id id := by
  have e1 : e_225.take k ++ (e_225.drop k).take 17 = e_225.take (k + 17) := List.take_add.symm
  have l1 : ((e_225.drop k).take 17).length = 17 := by rw [List.length_take, List.length_drop, e225_len]; omega
  refine go_chunk hl hsub ?_
  have := go_mm (w := w) (p := p') (gd := id) (lv := fun l => id ([.ref 225, .ref a] ++ l)) (s := SharedT.abs ⟨T, nn, life0, ⟨[]⟩, ⟨0, 0, 0, 0⟩, tk, os⟩) (d := 225) (a := a) (es := e_225.take k) (g := (e_225.drop k).take 17) (m := k) (mg := 17) rfl ha0 hsys
    (fun e he => e225_plain e (List.mem_of_mem_drop (List.mem_of_mem_take he))) (by
      rw [List.isEmpty_eq_false_iff]; intro h0; have := congrArg List.length h0; rw [List.length_take, e225_len] at this; have := Nat.le_of_ble_eq_true hk0; simp at *; omega) (absG hb1 hd rfl) (absG hb2 ha rfl)
    (by rw [e1, List.length_take, e225_len]; have : sizeLine = 16777216 := by decide
        omega) (by rw [e1]; exact e225_sorted.sublist (List.take_sublist _ _))
  rw [e1, l1] at this
  have he : ({ SharedT.abs ⟨T, nn, life0, ⟨[]⟩, ⟨0, 0, 0, 0⟩, tk, os⟩ with heap := (SharedT.abs ⟨T, nn, life0, ⟨[]⟩, ⟨0, 0, 0, 0⟩, tk, os⟩).heap.update 225 fun _ => dobj (e_225.take (k + 17)) (k + 17) } : Shared) = SharedT.abs ⟨T', nn, life0, ⟨[]⟩, ⟨0, 0, 0, 0⟩, tk, os⟩ := by
    rw [← hset]
    show Shared.mk (((PySem.W.absHeap T nn life0).update 225 _)) _ _ _ _ = Shared.mk (PySem.W.absHeap (T.set 225 _) nn life0) _ _ _ _
    rw [PySem.W.absHeap_set hd]
    rfl
  rw [he] at this
  exact this
theorem gd_last {w : World} {n m : Nat} {s s₁ s' : Shared} {p p' : Pos} {gd : Bool → Bool} {lv : List Value → List Value} {d a : Addr} {run : List (Sem Value × Sem Value)} (h0 : run.isEmpty = false) (h1 : Go w n (holding [.ref d] (subDict run)) s p a s₁ p' gd lv)
    (h2 : Go w m (mergeMapping d (.ref a) false) s₁ p' () s' p' gd (fun l => lv ([.ref d, .ref a] ++ l))) : Go w (n + m) (Gd (some d, run)) s p (.ref d) s' p' gd lv := by
  unfold Gd dispShape
  dsimp only
  rw [h0]
  simp only [Bool.false_eq_true, if_false]
  rw [bind_assoc]
  refine Go.bind h1 ?_
  rw [bind_assoc]
  refine Go.bind (n := m) (m := 0) (a := ()) (Go.onRaise ?_) (Go.pure _)
  show Go w m ((mergeMapping d (.ref a) false).keep [.ref d, .ref a]) _ _ _ _ _ _ _
  exact Go.keep _ h2
theorem last_go {w : World} {n : Nat} {T : BT} {nn tk : Nat} {os : OsState} {s : Shared} {T' : BT} {p p' : Pos} (a : Addr) (ha0 : Nat.beq 225 a = false) (hsys : (a == sysModules) = false)
    (hsub : Go w n (holding [.ref 225] (subDict (pairs0.drop 646))) s p a (SharedT.abs ⟨T, nn, life0, ⟨[]⟩, ⟨0, 0, 0, 0⟩, tk, os⟩) p' id id)
    (hb1 : Nat.blt 225 nn = true) (hb2 : Nat.blt a nn = true) (hd : T.get 225 = some (dobj (e_225.take 646) 646)) (ha : T.get a = some (dobj (e_225.drop 646) 4))
    (hset : T.set 225 (fun _ => dobj e_225 650) = T') (hl : (pairs0.drop 646).length = 4) :
    Go w (n + 29) (forIn ((pairs0.drop 646).map someP) ((some 225, []) : DSt) Fd >>= Gd) s p (.ref 225) (SharedT.abs ⟨T', nn, life0, ⟨[]⟩, ⟨0, 0, 0, 0⟩, tk, os⟩) p' id id := by
  have e1 : e_225.take 646 ++ e_225.drop 646 = e_225 := List.take_append_drop _ _
  have l1 : (e_225.drop 646).length = 4 := by rw [List.length_drop, e225_len]
  have hf : forIn ((pairs0.drop 646).map someP) ((some 225, []) : DSt) Fd = pure (some 225, pairs0.drop 646) := by
    have h := forIn_goS Fd [] ((pairs0.drop 646).map someP) ((some 225, []) : DSt)
    rw [List.append_nil] at h
    rw [h]
    have h2 := goS_few (some 225) [] (pairs0.drop 646) [] (by simp [hl])
    rw [List.append_nil] at h2
    rw [h2]
    rfl
  rw [hf, pure_bind]
  refine gd_last (by rw [List.isEmpty_eq_false_iff]; intro h0; rw [h0] at hl; cases hl) hsub ?_
  have := go_mm (w := w) (p := p') (gd := id) (lv := fun l => id ([.ref 225, .ref a] ++ l)) (s := SharedT.abs ⟨T, nn, life0, ⟨[]⟩, ⟨0, 0, 0, 0⟩, tk, os⟩) (d := 225) (a := a) (es := e_225.take 646) (g := e_225.drop 646) (m := 646) (mg := 4) rfl ha0 hsys
    (fun e he => e225_plain e (List.mem_of_mem_drop he)) (by
      rw [List.isEmpty_eq_false_iff]; intro h0; have := congrArg List.length h0; rw [List.length_take, e225_len] at this; cases this) (absG hb1 hd rfl) (absG hb2 ha rfl)
    (by rw [e1, e225_len]; have : sizeLine = 16777216 := by decide
        omega) (by rw [e1]; exact e225_sorted)
  rw [e1, l1] at this
  have he : ({ SharedT.abs ⟨T, nn, life0, ⟨[]⟩, ⟨0, 0, 0, 0⟩, tk, os⟩ with heap := (SharedT.abs ⟨T, nn, life0, ⟨[]⟩, ⟨0, 0, 0, 0⟩, tk, os⟩).heap.update 225 fun _ => dobj e_225 650 } : Shared) = SharedT.abs ⟨T', nn, life0, ⟨[]⟩, ⟨0, 0, 0, 0⟩, tk, os⟩ := by
    rw [← hset]
    show Shared.mk (((PySem.W.absHeap T nn life0).update 225 _)) _ _ _ _ = Shared.mk (PySem.W.absHeap (T.set 225 _) nn life0) _ _ _ _
    rw [PySem.W.absHeap_set hd]
    rfl
  rw [he] at this
  exact this
end
section
section
noncomputable def pB (k : Nat) (P : Params) : Obj := dobj (e_225.take (Nat.mul 17 k)) (Nat.mul 17 k)
noncomputable def S_B (k : Nat) (w : World) (os : OsState) : SharedT := ⟨TT w.params (Nat.add 225 k) (o_2 w.params) (o_3_10 w.params) (o_30_7 w.params) (o_180 w.params) (pB k w.params), Nat.add 225 k, life0, ⟨[]⟩, ⟨0, 0, 0, 0⟩, Nat.add 610 (Nat.mul 51 k), os⟩
noncomputable def S_C (k t : Nat) (w : World) (os : OsState) : SharedT := ⟨TT w.params (Nat.add 226 k) (o_2 w.params) (o_3_10 w.params) (o_30_7 w.params) (o_180 w.params) (pB k w.params), Nat.add 226 k, life0, ⟨[]⟩, ⟨0, 0, 0, 0⟩, t, os⟩
noncomputable def S_D (w : World) (os : OsState) : SharedT := ⟨TT w.params (nat_lit 264) (o_2 w.params) (o_3_10 w.params) (o_30_7 w.params) (o_180 w.params) (o_225 w.params), nat_lit 264, life0, ⟨[]⟩, ⟨0, 0, 0, 0⟩, nat_lit 2560, os⟩
noncomputable def Run0 (w : World) (os : OsState) : Prop := segRunT treeTable PG w 29 (some (.ref 6)) 1 600 (S_p8 w os) ⟨(goS Fd ((pairs0.take 17).map someP) (none, [])).wrap (fun a => .pure (.done (res225 a))) deadEnd id id, code0, dPos st10, [topFrame q0]⟩ = some (.next, S_B (nat_lit 1) w os, code0, dPos st10)
noncomputable def RunK (l : List (Sem Value × Sem Value)) (k t : Nat) (w : World) (os : OsState) : Prop := segRunT treeTable PG w 29 (some (.ref 6)) 1 600 (S_B k w os) ⟨(holding [.ref 225] (subDict l)).wrap (fun a => .pure (.done (resA (Nat.add 225 k) a))) deadEnd id id, code0, dPos st10, [topFrame q0]⟩ = some (.next, S_C k t w os, code0, dPos st10)
noncomputable def ChunkK (j k k1 : Nat) (w : World) (os : OsState) : Prop := Go w 707 (goS Fd (((pairs0.drop j).take 17).map someP) (some 225, [])) (S_B k w os).abs (dPos st10) (.yield (some 225, [])) (S_B k1 w os).abs (dPos st10) id id
noncomputable abbrev RunQ (l : List (Sem Value × Sem Value)) (k t : Nat) (w : World) (os : OsState) : Prop := PySem.W.Fast.tw10110043849684766642 PySem.W.Fast.tw14364793385576792824 PG w 29 (some (.ref 6)) 1 600 (S_B k w os) ⟨(holding [.ref 225] (subDict l)).wrap (fun a => .pure (.done (resA (Nat.add 225 k) a))) deadEnd id id, code0, dPos st10, [topFrame q0]⟩ = some (.next, S_C k t w os, code0, dPos st10)
noncomputable abbrev Run0Q (w : World) (os : OsState) : Prop := PySem.W.Fast.tw10110043849684766642 PySem.W.Fast.tw14364793385576792824 PG w 29 (some (.ref 6)) 1 600 (S_p8 w os) ⟨(goS Fd ((pairs0.take 17).map someP) (none, [])).wrap (fun a => .pure (.done (res225 a))) deadEnd id id, code0, dPos st10, [topFrame q0]⟩ = some (.next, S_B (nat_lit 1) w os, code0, dPos st10)
theorem RunK.of {l : List (Sem Value × Sem Value)} {k t : Nat} {w : World} {os : OsState} (h : RunQ l k t w os) : RunK l k t w os := by
  unfold RunK
  rewrite [PySem.W.Fast.te10110043849684766642, PySem.W.Fast.te14364793385576792824]
  exact h
theorem Run0.of {w : World} {os : OsState} (h : Run0Q w os) : Run0 w os := by
  unfold Run0
  rewrite [PySem.W.Fast.te10110043849684766642, PySem.W.Fast.te14364793385576792824]
  exact h
theorem byRow {Q : World → OsState → Prop} (f : ∀ (w : World) (os : OsState), Q (w.withFollow "special-get-raises" false) os) (t : ∀ (w : World) (os : OsState), Q (w.withFollow "special-get-raises" true) os) (w : World) (os : OsState) : Q w os := byRow2 "special-get-raises" (P := fun w => ∀ os : OsState, Q w os) f t w os
end
end
section
section
theorem run0 (w : World) (os : OsState) : Run0 w os := byRow (Q := Run0) (fun w os => Run0.of (by kernel_rfl)) (fun w os => Run0.of (by kernel_rfl)) w os
theorem chunk1 (w : World) (os : OsState) : ChunkK 17 (nat_lit 1) (nat_lit 2) w os :=
  chunk_go 17 226 (o' := o_0 w.params) (by decide) rfl rfl rfl (Go.run (resA 226) (fun _ => resA_iff) (segRun_of (byRow (Q := RunK ((pairs0.drop 17).take 17) (nat_lit 1) (nat_lit 712)) (fun w os => RunK.of (by kernel_rfl)) (fun w os => RunK.of (by kernel_rfl)) w os))) rfl rfl (by kernel_rfl) (by kernel_rfl) (by kernel_rfl) (by kernel_rfl)
theorem chunk2 (w : World) (os : OsState) : ChunkK 34 (nat_lit 2) (nat_lit 3) w os :=
  chunk_go 34 227 (o' := o_0 w.params) (by decide) rfl rfl rfl (Go.run (resA 227) (fun _ => resA_iff) (segRun_of (byRow (Q := RunK ((pairs0.drop 34).take 17) (nat_lit 2) (nat_lit 763)) (fun w os => RunK.of (by kernel_rfl)) (fun w os => RunK.of (by kernel_rfl)) w os))) rfl rfl (by kernel_rfl) (by kernel_rfl) (by kernel_rfl) (by kernel_rfl)
theorem chunk3 (w : World) (os : OsState) : ChunkK 51 (nat_lit 3) (nat_lit 4) w os :=
  chunk_go 51 228 (o' := o_0 w.params) (by decide) rfl rfl rfl (Go.run (resA 228) (fun _ => resA_iff) (segRun_of (byRow (Q := RunK ((pairs0.drop 51).take 17) (nat_lit 3) (nat_lit 814)) (fun w os => RunK.of (by kernel_rfl)) (fun w os => RunK.of (by kernel_rfl)) w os))) rfl rfl (by kernel_rfl) (by kernel_rfl) (by kernel_rfl) (by kernel_rfl)
theorem chunk4 (w : World) (os : OsState) : ChunkK 68 (nat_lit 4) (nat_lit 5) w os :=
  chunk_go 68 229 (o' := o_0 w.params) (by decide) rfl rfl rfl (Go.run (resA 229) (fun _ => resA_iff) (segRun_of (byRow (Q := RunK ((pairs0.drop 68).take 17) (nat_lit 4) (nat_lit 865)) (fun w os => RunK.of (by kernel_rfl)) (fun w os => RunK.of (by kernel_rfl)) w os))) rfl rfl (by kernel_rfl) (by kernel_rfl) (by kernel_rfl) (by kernel_rfl)
theorem chunk5 (w : World) (os : OsState) : ChunkK 85 (nat_lit 5) (nat_lit 6) w os :=
  chunk_go 85 230 (o' := o_0 w.params) (by decide) rfl rfl rfl (Go.run (resA 230) (fun _ => resA_iff) (segRun_of (byRow (Q := RunK ((pairs0.drop 85).take 17) (nat_lit 5) (nat_lit 916)) (fun w os => RunK.of (by kernel_rfl)) (fun w os => RunK.of (by kernel_rfl)) w os))) rfl rfl (by kernel_rfl) (by kernel_rfl) (by kernel_rfl) (by kernel_rfl)
theorem chunk6 (w : World) (os : OsState) : ChunkK 102 (nat_lit 6) (nat_lit 7) w os :=
  chunk_go 102 231 (o' := o_0 w.params) (by decide) rfl rfl rfl (Go.run (resA 231) (fun _ => resA_iff) (segRun_of (byRow (Q := RunK ((pairs0.drop 102).take 17) (nat_lit 6) (nat_lit 967)) (fun w os => RunK.of (by kernel_rfl)) (fun w os => RunK.of (by kernel_rfl)) w os))) rfl rfl (by kernel_rfl) (by kernel_rfl) (by kernel_rfl) (by kernel_rfl)
theorem chunk7 (w : World) (os : OsState) : ChunkK 119 (nat_lit 7) (nat_lit 8) w os :=
  chunk_go 119 232 (o' := o_0 w.params) (by decide) rfl rfl rfl (Go.run (resA 232) (fun _ => resA_iff) (segRun_of (byRow (Q := RunK ((pairs0.drop 119).take 17) (nat_lit 7) (nat_lit 1018)) (fun w os => RunK.of (by kernel_rfl)) (fun w os => RunK.of (by kernel_rfl)) w os))) rfl rfl (by kernel_rfl) (by kernel_rfl) (by kernel_rfl) (by kernel_rfl)
theorem chunk8 (w : World) (os : OsState) : ChunkK 136 (nat_lit 8) (nat_lit 9) w os :=
  chunk_go 136 233 (o' := o_0 w.params) (by decide) rfl rfl rfl (Go.run (resA 233) (fun _ => resA_iff) (segRun_of (byRow (Q := RunK ((pairs0.drop 136).take 17) (nat_lit 8) (nat_lit 1069)) (fun w os => RunK.of (by kernel_rfl)) (fun w os => RunK.of (by kernel_rfl)) w os))) rfl rfl (by kernel_rfl) (by kernel_rfl) (by kernel_rfl) (by kernel_rfl)
theorem chunk9 (w : World) (os : OsState) : ChunkK 153 (nat_lit 9) (nat_lit 10) w os :=
  chunk_go 153 234 (o' := o_0 w.params) (by decide) rfl rfl rfl (Go.run (resA 234) (fun _ => resA_iff) (segRun_of (byRow (Q := RunK ((pairs0.drop 153).take 17) (nat_lit 9) (nat_lit 1120)) (fun w os => RunK.of (by kernel_rfl)) (fun w os => RunK.of (by kernel_rfl)) w os))) rfl rfl (by kernel_rfl) (by kernel_rfl) (by kernel_rfl) (by kernel_rfl)
theorem chunk10 (w : World) (os : OsState) : ChunkK 170 (nat_lit 10) (nat_lit 11) w os :=
  chunk_go 170 235 (o' := o_0 w.params) (by decide) rfl rfl rfl (Go.run (resA 235) (fun _ => resA_iff) (segRun_of (byRow (Q := RunK ((pairs0.drop 170).take 17) (nat_lit 10) (nat_lit 1171)) (fun w os => RunK.of (by kernel_rfl)) (fun w os => RunK.of (by kernel_rfl)) w os))) rfl rfl (by kernel_rfl) (by kernel_rfl) (by kernel_rfl) (by kernel_rfl)
theorem chunk11 (w : World) (os : OsState) : ChunkK 187 (nat_lit 11) (nat_lit 12) w os :=
  chunk_go 187 236 (o' := o_0 w.params) (by decide) rfl rfl rfl (Go.run (resA 236) (fun _ => resA_iff) (segRun_of (byRow (Q := RunK ((pairs0.drop 187).take 17) (nat_lit 11) (nat_lit 1222)) (fun w os => RunK.of (by kernel_rfl)) (fun w os => RunK.of (by kernel_rfl)) w os))) rfl rfl (by kernel_rfl) (by kernel_rfl) (by kernel_rfl) (by kernel_rfl)
theorem chunk12 (w : World) (os : OsState) : ChunkK 204 (nat_lit 12) (nat_lit 13) w os :=
  chunk_go 204 237 (o' := o_0 w.params) (by decide) rfl rfl rfl (Go.run (resA 237) (fun _ => resA_iff) (segRun_of (byRow (Q := RunK ((pairs0.drop 204).take 17) (nat_lit 12) (nat_lit 1273)) (fun w os => RunK.of (by kernel_rfl)) (fun w os => RunK.of (by kernel_rfl)) w os))) rfl rfl (by kernel_rfl) (by kernel_rfl) (by kernel_rfl) (by kernel_rfl)
theorem chunk13 (w : World) (os : OsState) : ChunkK 221 (nat_lit 13) (nat_lit 14) w os :=
  chunk_go 221 238 (o' := o_0 w.params) (by decide) rfl rfl rfl (Go.run (resA 238) (fun _ => resA_iff) (segRun_of (byRow (Q := RunK ((pairs0.drop 221).take 17) (nat_lit 13) (nat_lit 1324)) (fun w os => RunK.of (by kernel_rfl)) (fun w os => RunK.of (by kernel_rfl)) w os))) rfl rfl (by kernel_rfl) (by kernel_rfl) (by kernel_rfl) (by kernel_rfl)
theorem chunk14 (w : World) (os : OsState) : ChunkK 238 (nat_lit 14) (nat_lit 15) w os :=
  chunk_go 238 239 (o' := o_0 w.params) (by decide) rfl rfl rfl (Go.run (resA 239) (fun _ => resA_iff) (segRun_of (byRow (Q := RunK ((pairs0.drop 238).take 17) (nat_lit 14) (nat_lit 1375)) (fun w os => RunK.of (by kernel_rfl)) (fun w os => RunK.of (by kernel_rfl)) w os))) rfl rfl (by kernel_rfl) (by kernel_rfl) (by kernel_rfl) (by kernel_rfl)
theorem chunk15 (w : World) (os : OsState) : ChunkK 255 (nat_lit 15) (nat_lit 16) w os :=
  chunk_go 255 240 (o' := o_0 w.params) (by decide) rfl rfl rfl (Go.run (resA 240) (fun _ => resA_iff) (segRun_of (byRow (Q := RunK ((pairs0.drop 255).take 17) (nat_lit 15) (nat_lit 1426)) (fun w os => RunK.of (by kernel_rfl)) (fun w os => RunK.of (by kernel_rfl)) w os))) rfl rfl (by kernel_rfl) (by kernel_rfl) (by kernel_rfl) (by kernel_rfl)
theorem chunk16 (w : World) (os : OsState) : ChunkK 272 (nat_lit 16) (nat_lit 17) w os :=
  chunk_go 272 241 (o' := o_0 w.params) (by decide) rfl rfl rfl (Go.run (resA 241) (fun _ => resA_iff) (segRun_of (byRow (Q := RunK ((pairs0.drop 272).take 17) (nat_lit 16) (nat_lit 1477)) (fun w os => RunK.of (by kernel_rfl)) (fun w os => RunK.of (by kernel_rfl)) w os))) rfl rfl (by kernel_rfl) (by kernel_rfl) (by kernel_rfl) (by kernel_rfl)
theorem chunk17 (w : World) (os : OsState) : ChunkK 289 (nat_lit 17) (nat_lit 18) w os :=
  chunk_go 289 242 (o' := o_0 w.params) (by decide) rfl rfl rfl (Go.run (resA 242) (fun _ => resA_iff) (segRun_of (byRow (Q := RunK ((pairs0.drop 289).take 17) (nat_lit 17) (nat_lit 1528)) (fun w os => RunK.of (by kernel_rfl)) (fun w os => RunK.of (by kernel_rfl)) w os))) rfl rfl (by kernel_rfl) (by kernel_rfl) (by kernel_rfl) (by kernel_rfl)
theorem chunk18 (w : World) (os : OsState) : ChunkK 306 (nat_lit 18) (nat_lit 19) w os :=
  chunk_go 306 243 (o' := o_0 w.params) (by decide) rfl rfl rfl (Go.run (resA 243) (fun _ => resA_iff) (segRun_of (byRow (Q := RunK ((pairs0.drop 306).take 17) (nat_lit 18) (nat_lit 1579)) (fun w os => RunK.of (by kernel_rfl)) (fun w os => RunK.of (by kernel_rfl)) w os))) rfl rfl (by kernel_rfl) (by kernel_rfl) (by kernel_rfl) (by kernel_rfl)
theorem chunk19 (w : World) (os : OsState) : ChunkK 323 (nat_lit 19) (nat_lit 20) w os :=
  chunk_go 323 244 (o' := o_0 w.params) (by decide) rfl rfl rfl (Go.run (resA 244) (fun _ => resA_iff) (segRun_of (byRow (Q := RunK ((pairs0.drop 323).take 17) (nat_lit 19) (nat_lit 1630)) (fun w os => RunK.of (by kernel_rfl)) (fun w os => RunK.of (by kernel_rfl)) w os))) rfl rfl (by kernel_rfl) (by kernel_rfl) (by kernel_rfl) (by kernel_rfl)
theorem chunk20 (w : World) (os : OsState) : ChunkK 340 (nat_lit 20) (nat_lit 21) w os :=
  chunk_go 340 245 (o' := o_0 w.params) (by decide) rfl rfl rfl (Go.run (resA 245) (fun _ => resA_iff) (segRun_of (byRow (Q := RunK ((pairs0.drop 340).take 17) (nat_lit 20) (nat_lit 1681)) (fun w os => RunK.of (by kernel_rfl)) (fun w os => RunK.of (by kernel_rfl)) w os))) rfl rfl (by kernel_rfl) (by kernel_rfl) (by kernel_rfl) (by kernel_rfl)
theorem chunk21 (w : World) (os : OsState) : ChunkK 357 (nat_lit 21) (nat_lit 22) w os :=
  chunk_go 357 246 (o' := o_0 w.params) (by decide) rfl rfl rfl (Go.run (resA 246) (fun _ => resA_iff) (segRun_of (byRow (Q := RunK ((pairs0.drop 357).take 17) (nat_lit 21) (nat_lit 1732)) (fun w os => RunK.of (by kernel_rfl)) (fun w os => RunK.of (by kernel_rfl)) w os))) rfl rfl (by kernel_rfl) (by kernel_rfl) (by kernel_rfl) (by kernel_rfl)
theorem chunk22 (w : World) (os : OsState) : ChunkK 374 (nat_lit 22) (nat_lit 23) w os :=
  chunk_go 374 247 (o' := o_0 w.params) (by decide) rfl rfl rfl (Go.run (resA 247) (fun _ => resA_iff) (segRun_of (byRow (Q := RunK ((pairs0.drop 374).take 17) (nat_lit 22) (nat_lit 1783)) (fun w os => RunK.of (by kernel_rfl)) (fun w os => RunK.of (by kernel_rfl)) w os))) rfl rfl (by kernel_rfl) (by kernel_rfl) (by kernel_rfl) (by kernel_rfl)
theorem chunk23 (w : World) (os : OsState) : ChunkK 391 (nat_lit 23) (nat_lit 24) w os :=
  chunk_go 391 248 (o' := o_0 w.params) (by decide) rfl rfl rfl (Go.run (resA 248) (fun _ => resA_iff) (segRun_of (byRow (Q := RunK ((pairs0.drop 391).take 17) (nat_lit 23) (nat_lit 1834)) (fun w os => RunK.of (by kernel_rfl)) (fun w os => RunK.of (by kernel_rfl)) w os))) rfl rfl (by kernel_rfl) (by kernel_rfl) (by kernel_rfl) (by kernel_rfl)
theorem chunk24 (w : World) (os : OsState) : ChunkK 408 (nat_lit 24) (nat_lit 25) w os :=
  chunk_go 408 249 (o' := o_0 w.params) (by decide) rfl rfl rfl (Go.run (resA 249) (fun _ => resA_iff) (segRun_of (byRow (Q := RunK ((pairs0.drop 408).take 17) (nat_lit 24) (nat_lit 1885)) (fun w os => RunK.of (by kernel_rfl)) (fun w os => RunK.of (by kernel_rfl)) w os))) rfl rfl (by kernel_rfl) (by kernel_rfl) (by kernel_rfl) (by kernel_rfl)
theorem chunk25 (w : World) (os : OsState) : ChunkK 425 (nat_lit 25) (nat_lit 26) w os :=
  chunk_go 425 250 (o' := o_0 w.params) (by decide) rfl rfl rfl (Go.run (resA 250) (fun _ => resA_iff) (segRun_of (byRow (Q := RunK ((pairs0.drop 425).take 17) (nat_lit 25) (nat_lit 1936)) (fun w os => RunK.of (by kernel_rfl)) (fun w os => RunK.of (by kernel_rfl)) w os))) rfl rfl (by kernel_rfl) (by kernel_rfl) (by kernel_rfl) (by kernel_rfl)
theorem chunk26 (w : World) (os : OsState) : ChunkK 442 (nat_lit 26) (nat_lit 27) w os :=
  chunk_go 442 251 (o' := o_0 w.params) (by decide) rfl rfl rfl (Go.run (resA 251) (fun _ => resA_iff) (segRun_of (byRow (Q := RunK ((pairs0.drop 442).take 17) (nat_lit 26) (nat_lit 1987)) (fun w os => RunK.of (by kernel_rfl)) (fun w os => RunK.of (by kernel_rfl)) w os))) rfl rfl (by kernel_rfl) (by kernel_rfl) (by kernel_rfl) (by kernel_rfl)
theorem chunk27 (w : World) (os : OsState) : ChunkK 459 (nat_lit 27) (nat_lit 28) w os :=
  chunk_go 459 252 (o' := o_0 w.params) (by decide) rfl rfl rfl (Go.run (resA 252) (fun _ => resA_iff) (segRun_of (byRow (Q := RunK ((pairs0.drop 459).take 17) (nat_lit 27) (nat_lit 2038)) (fun w os => RunK.of (by kernel_rfl)) (fun w os => RunK.of (by kernel_rfl)) w os))) rfl rfl (by kernel_rfl) (by kernel_rfl) (by kernel_rfl) (by kernel_rfl)
theorem chunk28 (w : World) (os : OsState) : ChunkK 476 (nat_lit 28) (nat_lit 29) w os :=
  chunk_go 476 253 (o' := o_0 w.params) (by decide) rfl rfl rfl (Go.run (resA 253) (fun _ => resA_iff) (segRun_of (byRow (Q := RunK ((pairs0.drop 476).take 17) (nat_lit 28) (nat_lit 2089)) (fun w os => RunK.of (by kernel_rfl)) (fun w os => RunK.of (by kernel_rfl)) w os))) rfl rfl (by kernel_rfl) (by kernel_rfl) (by kernel_rfl) (by kernel_rfl)
theorem chunk29 (w : World) (os : OsState) : ChunkK 493 (nat_lit 29) (nat_lit 30) w os :=
  chunk_go 493 254 (o' := o_0 w.params) (by decide) rfl rfl rfl (Go.run (resA 254) (fun _ => resA_iff) (segRun_of (byRow (Q := RunK ((pairs0.drop 493).take 17) (nat_lit 29) (nat_lit 2140)) (fun w os => RunK.of (by kernel_rfl)) (fun w os => RunK.of (by kernel_rfl)) w os))) rfl rfl (by kernel_rfl) (by kernel_rfl) (by kernel_rfl) (by kernel_rfl)
theorem chunk30 (w : World) (os : OsState) : ChunkK 510 (nat_lit 30) (nat_lit 31) w os :=
  chunk_go 510 255 (o' := o_0 w.params) (by decide) rfl rfl rfl (Go.run (resA 255) (fun _ => resA_iff) (segRun_of (byRow (Q := RunK ((pairs0.drop 510).take 17) (nat_lit 30) (nat_lit 2191)) (fun w os => RunK.of (by kernel_rfl)) (fun w os => RunK.of (by kernel_rfl)) w os))) rfl rfl (by kernel_rfl) (by kernel_rfl) (by kernel_rfl) (by kernel_rfl)
theorem chunk31 (w : World) (os : OsState) : ChunkK 527 (nat_lit 31) (nat_lit 32) w os :=
  chunk_go 527 256 (o' := o_0 w.params) (by decide) rfl rfl rfl (Go.run (resA 256) (fun _ => resA_iff) (segRun_of (byRow (Q := RunK ((pairs0.drop 527).take 17) (nat_lit 31) (nat_lit 2242)) (fun w os => RunK.of (by kernel_rfl)) (fun w os => RunK.of (by kernel_rfl)) w os))) rfl rfl (by kernel_rfl) (by kernel_rfl) (by kernel_rfl) (by kernel_rfl)
theorem chunk32 (w : World) (os : OsState) : ChunkK 544 (nat_lit 32) (nat_lit 33) w os :=
  chunk_go 544 257 (o' := o_0 w.params) (by decide) rfl rfl rfl (Go.run (resA 257) (fun _ => resA_iff) (segRun_of (byRow (Q := RunK ((pairs0.drop 544).take 17) (nat_lit 32) (nat_lit 2293)) (fun w os => RunK.of (by kernel_rfl)) (fun w os => RunK.of (by kernel_rfl)) w os))) rfl rfl (by kernel_rfl) (by kernel_rfl) (by kernel_rfl) (by kernel_rfl)
theorem chunk33 (w : World) (os : OsState) : ChunkK 561 (nat_lit 33) (nat_lit 34) w os :=
  chunk_go 561 258 (o' := o_0 w.params) (by decide) rfl rfl rfl (Go.run (resA 258) (fun _ => resA_iff) (segRun_of (byRow (Q := RunK ((pairs0.drop 561).take 17) (nat_lit 33) (nat_lit 2344)) (fun w os => RunK.of (by kernel_rfl)) (fun w os => RunK.of (by kernel_rfl)) w os))) rfl rfl (by kernel_rfl) (by kernel_rfl) (by kernel_rfl) (by kernel_rfl)
theorem chunk34 (w : World) (os : OsState) : ChunkK 578 (nat_lit 34) (nat_lit 35) w os :=
  chunk_go 578 259 (o' := o_0 w.params) (by decide) rfl rfl rfl (Go.run (resA 259) (fun _ => resA_iff) (segRun_of (byRow (Q := RunK ((pairs0.drop 578).take 17) (nat_lit 34) (nat_lit 2395)) (fun w os => RunK.of (by kernel_rfl)) (fun w os => RunK.of (by kernel_rfl)) w os))) rfl rfl (by kernel_rfl) (by kernel_rfl) (by kernel_rfl) (by kernel_rfl)
theorem chunk35 (w : World) (os : OsState) : ChunkK 595 (nat_lit 35) (nat_lit 36) w os :=
  chunk_go 595 260 (o' := o_0 w.params) (by decide) rfl rfl rfl (Go.run (resA 260) (fun _ => resA_iff) (segRun_of (byRow (Q := RunK ((pairs0.drop 595).take 17) (nat_lit 35) (nat_lit 2446)) (fun w os => RunK.of (by kernel_rfl)) (fun w os => RunK.of (by kernel_rfl)) w os))) rfl rfl (by kernel_rfl) (by kernel_rfl) (by kernel_rfl) (by kernel_rfl)
theorem chunk36 (w : World) (os : OsState) : ChunkK 612 (nat_lit 36) (nat_lit 37) w os :=
  chunk_go 612 261 (o' := o_0 w.params) (by decide) rfl rfl rfl (Go.run (resA 261) (fun _ => resA_iff) (segRun_of (byRow (Q := RunK ((pairs0.drop 612).take 17) (nat_lit 36) (nat_lit 2497)) (fun w os => RunK.of (by kernel_rfl)) (fun w os => RunK.of (by kernel_rfl)) w os))) rfl rfl (by kernel_rfl) (by kernel_rfl) (by kernel_rfl) (by kernel_rfl)
theorem chunk37 (w : World) (os : OsState) : ChunkK 629 (nat_lit 37) (nat_lit 38) w os :=
  chunk_go 629 262 (o' := o_0 w.params) (by decide) rfl rfl rfl (Go.run (resA 262) (fun _ => resA_iff) (segRun_of (byRow (Q := RunK ((pairs0.drop 629).take 17) (nat_lit 37) (nat_lit 2548)) (fun w os => RunK.of (by kernel_rfl)) (fun w os => RunK.of (by kernel_rfl)) w os))) rfl rfl (by kernel_rfl) (by kernel_rfl) (by kernel_rfl) (by kernel_rfl)
theorem chunk38 (w : World) (os : OsState) : Go w 629 (forIn ((pairs0.drop 646).map someP) ((some 225, []) : DSt) Fd >>= Gd) (S_B (nat_lit 38) w os).abs (dPos st10) (.ref 225) (S_D w os).abs (dPos st10) id id :=
  last_go 263 rfl rfl (Go.run (resA 263) (fun _ => resA_iff) (segRun_of (byRow (Q := RunK (pairs0.drop 646) (nat_lit 38) (nat_lit 2560)) (fun w os => RunK.of (by kernel_rfl)) (fun w os => RunK.of (by kernel_rfl)) w os))) rfl rfl (by kernel_rfl) (by kernel_rfl) (by kernel_rfl) (by kernel_rfl)
end
end
section
theorem chunk_G {w : World} {n m : Nat} {s s₁ s' : Shared} {p p₁ p' : Pos} {L : List (Sem Value × Sem Value)} {k : Nat} {st st' : DSt} {v : Value}
    (h : Go w n (goS Fd (((L.drop k).take 17).map someP) st) s p (.yield st') s₁ p₁ id id) (z : Go w m (forIn ((L.drop (k + 17)).map someP) st' Fd >>= Gd) s₁ p₁ v s' p' id id) :
    Go w (n + m) (forIn ((L.drop k).map someP) st Fd >>= Gd) s p v s' p' id id := by
  have e : L.drop k = (L.drop k).take 17 ++ L.drop (k + 17) := by rw [← List.drop_drop, List.take_append_drop]
  rw [e, List.map_append, forIn_goS, bind_assoc]
  exact Go.bind h z
noncomputable def resB (b : Bool) : Flow := match b with | true => .brk | false => .next
theorem resB_iff (b : Bool) (h : resB b = .next) : b = false := by cases b; rfl; cases h
noncomputable def dE : Expr := .Dict (dKeys st10) (dVals st10) (dPos st10)
theorem st10_go {w : World} {n m : Nat} {s s₁ s' : Shared} {p p' : Pos} {f : Flow}
    (h1 : Go w 100 (swapsWithSole (aTgts st10) dE (aPos st10).line env0) s (aPos st10) false s (aPos st10) id id)
    (h2 : Go w n (forIn ((pairs0.drop 0).map someP) ((none, []) : DSt) Fd >>= Gd) s (dPos st10) (.ref 225) s₁ (dPos st10) id id)
    (h3 : Go w m (swappedStores (aTgts st10) dE env0 >>= fun x => assignStores env0 (.ref 225) x ((assignEach (aTgts st10) env0).map (·.2))) s₁ (dPos st10) f s' p' id id) :
    Go w (0 + 1 + (100 + ((0 + 1 + n) + m))) (exec (stAt 10) env0) s p f s' p' id id := by
  rw [st10_eq, arm_exec_Assign]
  refine Go.bind (s₁ := s) (p₁ := aPos st10) (a := ()) (Go.at (Go.pure ())) ?_
  refine Go.bind h1 ?_
  simp only [Bool.false_eq_true, if_false]
  refine Go.bind ?_ h3
  rw [arm_eval_Dict]
  refine Go.bind (s₁ := s) (p₁ := dPos st10) (a := ()) (Go.at (Go.pure ())) ?_
  have e : dictDisplay items0 = forIn ((pairs0.drop 0).map someP) ((none, []) : DSt) Fd >>= Gd := by rw [disp_eq, items0_eq]; rfl
  show Go w n (dictDisplay items0) s _ _ _ _ _ _
  rw [e]
  exact h2
noncomputable def resF (f : Flow) : Flow := f
theorem swaps10 (w : World) (os : OsState) : segRunT treeTable PG w 29 (some (.ref 6)) 1 100 (S_p8 w os) ⟨(swapsWithSole (aTgts st10) dE (aPos st10).line env0).wrap (fun a => .pure (.done (resB a))) deadEnd id id, code0, aPos st10, [topFrame q0]⟩ = some (.next, S_p8 w os, code0, aPos st10) := by
  rewrite [PySem.W.Fast.te10110043849684766642, PySem.W.Fast.te14364793385576792824]
  kernel_rfl
theorem store10 (w : World) (os : OsState) : segRunT treeTable PG w 29 (some (.ref 6)) 1 100 (S_D w os) ⟨(swappedStores (aTgts st10) dE env0 >>= fun x => assignStores env0 (.ref 225) x ((assignEach (aTgts st10) env0).map (·.2))).wrap (fun a => .pure (.done (resF a))) deadEnd id id, code0, dPos st10, [topFrame q0]⟩ = some (.next, S_p9 w os, code0, ⟨95, 0, 95, 13⟩) := by
  rewrite [PySem.W.Fast.te10110043849684766642, PySem.W.Fast.te14364793385576792824]
  kernel_rfl
theorem go_top1 {w : World} {n N : Nat} {s s' r : Shared} {st : Stmt} {rest : List Stmt} {p p' : Pos} (h : Go w n (exec st env0) s p .next s' p' id id)
    (k : topRun treeTable PG w 29 (some (.ref 6)) N s' (restOf rest env0 code0 p' [topFrame q0]) = some r) : topRun treeTable PG w 29 (some (.ref 6)) (n + N) s (restOf ([st] ++ rest) env0 code0 p [topFrame q0]) = some r := by
  unfold restOf
  rw [List.singleton_append, execs_cons_wrap]
  exact h _ _ N r k
end
section
noncomputable def HL_s0 (P : Params) : Heap := ⟨⟨o_0 P :: o_1 P :: o_2_1 P :: o_3_1 P :: o_4 P :: o_5 P :: o_6 P :: o_7 P :: o_8 P :: o_9 P :: o_10 P :: o_11 P :: o_12 P :: o_13 P :: o_14 P :: o_15 P :: o_16 P :: o_17 P :: o_18 P :: o_19 P :: o_20 P :: o_21 P :: o_22 P :: o_23 P :: o_24 P :: o_25 P :: o_26 P :: o_27 P :: o_28 P :: []⟩, life0⟩
noncomputable def HL_imp (P : Params) : Heap := ⟨⟨o_0 P :: o_1 P :: o_2_1 P :: o_3_1 P :: o_4 P :: o_5 P :: o_6 P :: o_7 P :: o_8 P :: o_9 P :: o_10 P :: o_11 P :: o_12_1 P :: o_13 P :: o_14 P :: o_15 P :: o_16 P :: o_17 P :: o_18 P :: o_19 P :: o_20 P :: o_21 P :: o_22 P :: o_23 P :: o_24 P :: o_25 P :: o_26 P :: o_27 P :: o_28 P :: []⟩, life0⟩
noncomputable def HL_pre (P : Params) : Heap := ⟨⟨o_0 P :: o_1 P :: o_2_1 P :: o_3_1 P :: o_4 P :: o_5 P :: o_6 P :: o_7 P :: o_8 P :: o_9 P :: o_10 P :: o_11 P :: o_12 P :: o_13 P :: o_14 P :: o_15 P :: o_16 P :: o_17 P :: o_18 P :: o_19 P :: o_20 P :: o_21 P :: o_22 P :: o_23 P :: o_24 P :: o_25 P :: o_26 P :: o_27 P :: o_28 P :: o_29 P :: o_30_1 P :: o_31 P :: o_32 P :: []⟩, life0⟩
noncomputable def HL_p20 (P : Params) : Heap := ⟨⟨o_0 P :: o_1 P :: o_2 P :: o_3 P :: o_4 P :: o_5 P :: o_6 P :: o_7 P :: o_8 P :: o_9 P :: o_10 P :: o_11 P :: o_12 P :: o_13 P :: o_14 P :: o_15 P :: o_16 P :: o_17 P :: o_18 P :: o_19 P :: o_20 P :: o_21 P :: o_22 P :: o_23 P :: o_24 P :: o_25 P :: o_26 P :: o_27 P :: o_28 P :: o_29 P :: o_30 P :: o_31 P :: o_32 P :: o_33 P :: o_34 P :: o_35 P :: o_36 P :: o_37 P :: o_38 P :: o_39 P :: o_40 P :: o_41 P :: o_42 P :: o_43 P :: o_44 P :: o_45 P :: o_46 P :: o_47 P :: o_48 P :: o_49 P :: o_50 P :: o_51 P :: o_52 P :: o_53 P :: o_54 P :: o_55 P :: o_56 P :: o_57 P :: o_58 P :: o_59 P :: o_60 P :: o_61 P :: o_62 P :: o_63 P :: o_64 P :: o_65 P :: o_66 P :: o_67 P :: o_68 P :: o_69 P :: o_70 P :: o_71 P :: o_72 P :: o_73 P :: o_74 P :: o_75 P :: o_76 P :: o_77 P :: o_78 P :: o_79 P :: o_80 P :: o_81 P :: o_82 P :: o_83 P :: o_84 P :: o_85 P :: o_86 P :: o_87 P :: o_88 P :: o_89 P :: o_90 P :: o_91 P :: o_92 P :: o_93 P :: o_94 P :: o_95 P :: o_96 P :: o_97 P :: o_98 P :: o_99 P :: o_100 P :: o_101 P :: o_102 P :: o_103 P :: o_104 P :: o_105 P :: o_106 P :: o_107 P :: o_108 P :: o_109 P :: o_110 P :: o_111 P :: o_112 P :: o_113 P :: o_114 P :: o_115 P :: o_116 P :: o_117 P :: o_118 P :: o_119 P :: o_120 P :: o_121 P :: o_122 P :: o_123 P :: o_124 P :: o_125 P :: o_126 P :: o_127 P :: o_128 P :: o_129 P :: o_130 P :: o_131 P :: o_132 P :: o_133 P :: o_134 P :: o_135 P :: o_136 P :: o_137 P :: o_138 P :: o_139 P :: o_140 P :: o_141 P :: o_142 P :: o_143 P :: o_144 P :: o_145 P :: o_146 P :: o_147 P :: o_148 P :: o_149 P :: o_150 P :: o_151 P :: o_152 P :: o_153 P :: o_154 P :: o_155 P :: o_156 P :: o_157 P :: o_158 P :: o_159 P :: o_160 P :: o_161 P :: o_162 P :: o_163 P :: o_164 P :: o_165 P :: o_166 P :: o_167 P :: o_168 P :: o_169 P :: o_170 P :: o_171 P :: o_172 P :: o_173 P :: o_174 P :: o_175 P :: o_176 P :: o_177 P :: o_178 P :: o_179 P :: o_180 P :: o_181 P :: o_182 P :: o_183 P :: o_184 P :: o_185 P :: o_186 P :: o_187 P :: o_188 P :: o_189 P :: o_190 P :: o_191 P :: o_192 P :: o_193 P :: o_194 P :: o_195 P :: o_196 P :: o_197 P :: o_198 P :: o_199 P :: o_200 P :: o_201 P :: o_202 P :: o_203 P :: o_204 P :: o_205 P :: o_206 P :: o_207 P :: o_208 P :: o_209 P :: o_210 P :: o_211 P :: o_212 P :: o_213 P :: o_214 P :: o_215 P :: o_216 P :: o_217 P :: o_218 P :: o_219 P :: o_220 P :: o_221 P :: o_222 P :: o_223 P :: o_224 P :: o_225 P :: o_226 P :: o_227 P :: o_228 P :: o_229 P :: o_230 P :: o_231 P :: o_232 P :: o_233 P :: o_234 P :: o_235 P :: o_236 P :: o_237 P :: o_238 P :: o_239 P :: o_240 P :: o_241 P :: o_242 P :: o_243 P :: o_244 P :: o_245 P :: o_246 P :: o_247 P :: o_248 P :: o_249 P :: o_250 P :: o_251 P :: o_252 P :: o_253 P :: o_254 P :: o_255 P :: o_256 P :: o_257 P :: o_258 P :: o_259 P :: o_260 P :: o_261 P :: o_262 P :: o_263 P :: o_264 P :: o_265 P :: o_266 P :: o_267 P :: o_268 P :: o_269 P :: o_270 P :: o_271 P :: o_272 P :: o_273 P :: o_274 P :: o_275 P :: o_276 P :: o_277 P :: o_278 P :: o_279 P :: o_280 P :: o_281 P :: o_282 P :: o_283 P :: o_284 P :: o_285 P :: o_286 P :: o_287 P :: o_288 P :: o_289 P :: o_290 P :: o_291 P :: o_292 P :: o_293 P :: o_294 P :: o_295 P :: o_296 P :: o_297 P :: o_298 P :: o_299 P :: o_300 P :: o_301 P :: o_302 P :: o_303 P :: o_304 P :: o_305 P :: o_306 P :: o_307 P :: o_308 P :: o_309 P :: o_310 P :: o_311 P :: o_312 P :: o_313 P :: o_314 P :: o_315 P :: o_316 P :: o_317 P :: o_318 P :: o_319 P :: o_320 P :: o_321 P :: o_322 P :: o_323 P :: o_324 P :: o_325 P :: o_326 P :: o_327 P :: []⟩, life0⟩
noncomputable def OP : Program := opening PG
theorem imp0 (w : World) : importEnds treeTable OP w 900 (start OP).1 (start OP).2 = some ⟨HL_imp w.params, ⟨[]⟩, ⟨0, 0, 0, 0⟩, nat_lit 273, (start OP).1.os⟩ := by
  rewrite [PySem.W.Fast.te10274390034422433532, PySem.W.Fast.te14364793385576792824]
  kernel_rfl
theorem fence0 (w : World) (os : OsState) : fenceModules? PG ⟨HL_imp w.params, ⟨[]⟩, ⟨0, 0, 0, 0⟩, nat_lit 273, os⟩ = some ⟨HL_s0 w.params, ⟨[]⟩, ⟨0, 0, 0, 0⟩, nat_lit 273, os⟩ := by
  rewrite [PySem.W.Fast.te14289696077712309145]
  kernel_rfl
theorem pre0 (w : World) (os : OsState) : topGo treeTable PG w 29 (some (.ref 6)) 12 ⟨HL_s0 w.params, ⟨[]⟩, ⟨0, 0, 0, 0⟩, nat_lit 273, os⟩ (topStub PG) = some (⟨HL_pre w.params, ⟨[]⟩, ⟨0, 0, 0, 0⟩, nat_lit 279, os⟩, ⟨denote treeTable code0, code0, q0, [topFrame q0]⟩) := by
  rewrite [PySem.W.Fast.te15667345088766844465, PySem.W.Fast.te14364793385576792824, PySem.W.Fast.te11892475500146522536]
  kernel_rfl
theorem pre_heap (w : World) (os : OsState) : (S_pre w os).abs = ⟨HL_pre w.params, ⟨[]⟩, ⟨0, 0, 0, 0⟩, nat_lit 279, os⟩ := by kernel_rfl
theorem fin_heap (w : World) (os : OsState) : (S_p20 w os).abs = ⟨HL_p20 w.params, ⟨[]⟩, ⟨0, 0, 0, 0⟩, nat_lit 2648, os⟩ := by kernel_rfl
theorem block0 (w : World) (os : OsState) : segRun treeTable PG w 29 (some (.ref 6)) 1 1 (S_pre w os).abs (blockOf body0 env0 code0 q0 [topFrame q0]) = some (.next, (S_pre w os).abs, code0, q0) := by kernel_rfl
theorem fin0 (w : World) (os : OsState) : topRun treeTable PG w 29 (some (.ref 6)) 2 (S_p20 w os).abs ⟨doneF .next, code0, ⟨161, 0, 170, 15⟩, [topFrame q0]⟩ = some (S_p20 w os).abs := by kernel_rfl
theorem body_eq : body0 = [stAt 1] ++ ([stAt 2] ++ ([stAt 3] ++ ([stAt 4] ++ ([stAt 5] ++ ([stAt 6] ++ ([stAt 7] ++ ([stAt 8] ++ ([stAt 9] ++ ([stAt 10] ++ ([stAt 11] ++ ([stAt 12] ++ ([stAt 13] ++ ([stAt 14] ++ ([stAt 15] ++ ([stAt 16] ++ ([stAt 17] ++ ([stAt 18] ++ ([stAt 19] ++ ([stAt 20] ++ ([stAt 21] ++ [])))))))))))))))))))) := by kernel_rfl
end
section
noncomputable def n10 : Nat := (600 + (707 + (707 + (707 + (707 + (707 + (707 + (707 + (707 + (707 + (707 + (707 + (707 + (707 + (707 + (707 + (707 + (707 + (707 + (707 + (707 + (707 + (707 + (707 + (707 + (707 + (707 + (707 + (707 + (707 + (707 + (707 + (707 + (707 + (707 + (707 + (707 + (707 + 629))))))))))))))))))))))))))))))))))))))
theorem disp10 (w : World) (os : OsState) : Go w n10 (forIn ((pairs0.drop 0).map someP) ((none, []) : DSt) Fd >>= Gd) (S_p8 w os).abs (dPos st10) (.ref 225) (S_D w os).abs (dPos st10) id id :=
  (chunk_G (Go.run res225 res225_iff (segRun_of (run0 w os))) (chunk_G (chunk1 w os) (chunk_G (chunk2 w os) (chunk_G (chunk3 w os) (chunk_G (chunk4 w os) (chunk_G (chunk5 w os) (chunk_G (chunk6 w os) (chunk_G (chunk7 w os) (chunk_G (chunk8 w os) (chunk_G (chunk9 w os) (chunk_G (chunk10 w os) (chunk_G (chunk11 w os) (chunk_G (chunk12 w os) (chunk_G (chunk13 w os) (chunk_G (chunk14 w os) (chunk_G (chunk15 w os) (chunk_G (chunk16 w os) (chunk_G (chunk17 w os) (chunk_G (chunk18 w os) (chunk_G (chunk19 w os) (chunk_G (chunk20 w os) (chunk_G (chunk21 w os) (chunk_G (chunk22 w os) (chunk_G (chunk23 w os) (chunk_G (chunk24 w os) (chunk_G (chunk25 w os) (chunk_G (chunk26 w os) (chunk_G (chunk27 w os) (chunk_G (chunk28 w os) (chunk_G (chunk29 w os) (chunk_G (chunk30 w os) (chunk_G (chunk31 w os) (chunk_G (chunk32 w os) (chunk_G (chunk33 w os) (chunk_G (chunk34 w os) (chunk_G (chunk35 w os) (chunk_G (chunk36 w os) (chunk_G (chunk37 w os) (chunk38 w os)))))))))))))))))))))))))))))))))))))))
noncomputable def m10 : Nat := 0 + 1 + (100 + ((0 + 1 + n10) + 100))
theorem piece9 (w : World) (os : OsState) : Go w m10 (exec (stAt 10) env0) (S_p8 w os).abs ⟨93, 0, 94, 30⟩ .next (S_p9 w os).abs ⟨95, 0, 95, 13⟩ id id :=
  st10_go (Go.run resB resB_iff (segRun_of (swaps10 w os))) (disp10 w os) (Go.run resF (fun _ h => h) (segRun_of (store10 w os)))
noncomputable def M21 : Nat := 2
noncomputable def M20 : Nat := 34 + M21
noncomputable def M19 : Nat := 30 + M20
noncomputable def M18 : Nat := 27 + M19
noncomputable def M17 : Nat := 30 + M18
noncomputable def M16 : Nat := 35 + M17
noncomputable def M15 : Nat := 32 + M16
noncomputable def M14 : Nat := 36 + M15
noncomputable def M13 : Nat := 27 + M14
noncomputable def M12 : Nat := 27 + M13
noncomputable def M11 : Nat := 10 + M12
noncomputable def M10 : Nat := 31 + M11
noncomputable def M9 : Nat := m10 + M10
noncomputable def M8 : Nat := 30 + M9
noncomputable def M7 : Nat := 999 + M8
noncomputable def M6 : Nat := 10 + M7
noncomputable def M5 : Nat := 386 + M6
noncomputable def M4 : Nat := 900 + M5
noncomputable def M3 : Nat := 288 + M4
noncomputable def M2 : Nat := 324 + M3
noncomputable def M1 : Nat := 10 + M2
noncomputable def M0 : Nat := 30 + M1
noncomputable def MM : Nat := 12 + (1 + M0)
theorem top_run (w : World) (os : OsState) : topRun treeTable PG w 29 (some (.ref 6)) MM ⟨HL_s0 w.params, ⟨[]⟩, ⟨0, 0, 0, 0⟩, nat_lit 273, os⟩ (topStub PG) = some ⟨HL_p20 w.params, ⟨[]⟩, ⟨0, 0, 0, 0⟩, nat_lit 2648, os⟩ := by
  have hp := pre_heap w os
  refine go_top (n := 12) (N := 1 + M0) (pre0 w os) ?_
  rw [← hp]
  refine piece_block (n := 1) (N := M0) (block0 w os) ?_
  rw [body_eq]
  refine piece_app (n := 30) (N := M1) (segRun_of (piece0 w os)) ?_
  refine piece_app (n := 10) (N := M2) (segRun_of (piece1 w os)) ?_
  refine piece_app (n := 324) (N := M3) (segRun_of (piece2 w os)) ?_
  refine piece_app (n := 288) (N := M4) (segRun_of (piece3 w os)) ?_
  refine piece_app (n := 900) (N := M5) (segRun_of (piece4 w os)) ?_
  refine piece_app (n := 386) (N := M6) (segRun_of (piece5 w os)) ?_
  refine piece_app (n := 10) (N := M7) (segRun_of (piece6 w os)) ?_
  refine piece_app (n := 999) (N := M8) (segRun_of (piece7 w os)) ?_
  refine piece_app (n := 30) (N := M9) (segRun_of (piece8 w os)) ?_
  refine go_top1 (n := m10) (N := M10) (piece9 w os) ?_
  refine piece_app (n := 31) (N := M11) (segRun_of (piece10 w os)) ?_
  refine piece_app (n := 10) (N := M12) (segRun_of (piece11 w os)) ?_
  refine piece_app (n := 27) (N := M13) (segRun_of (piece12 w os)) ?_
  refine piece_app (n := 27) (N := M14) (segRun_of (piece13 w os)) ?_
  refine piece_app (n := 36) (N := M15) (segRun_of (piece14 w os)) ?_
  refine piece_app (n := 32) (N := M16) (segRun_of (piece15 w os)) ?_
  refine piece_app (n := 35) (N := M17) (segRun_of (piece16 w os)) ?_
  refine piece_app (n := 30) (N := M18) (segRun_of (piece17 w os)) ?_
  refine piece_app (n := 27) (N := M19) (segRun_of (piece18 w os)) ?_
  refine piece_app (n := 30) (N := M20) (segRun_of (piece19 w os)) ?_
  refine piece_app (n := 34) (N := M21) (segRun_of (piece20 w os)) ?_
  rw [← fin_heap w os]
  exact piece_nil (fin0 w os)
theorem open0 (w : World) : (fencedOpening treeTable PG w 200000).map (fun s => (s.heap, s.gens, s.drawn, s.toks)) = some (HL_s0 w.params, ⟨[]⟩, ⟨0, 0, 0, 0⟩, 273) :=
  open_cut (M := 900) (N := 200000) (He := HL_imp) (H₀ := HL_s0) (ge := ⟨[]⟩) (de := ⟨0, 0, 0, 0⟩) (ke := 273) imp0 (by kernel_rfl) (fun w => funext fun os => by rw [fence0]; rfl) w
theorem size0 (w : World) : ((HL_s0 w.params).isNs mainGlobals && (⟨[]⟩ : Array GenState).size == 0, (HL_s0 w.params).objs.size, (HL_s0 w.params).nsMap mainGlobals "__annotations__") = (true, 29, some (.ref 6)) := by kernel_rfl
theorem le0 : Nat.ble MM 200000 = true := by kernel_rfl
end
section
noncomputable def Q0 : Program := { PG with main := { PG.main with body := [stAt 0, stAt 1, stAt 3, stAt 4, stAt 5, stAt 6, stAt 8, stAt 9, stAt 11, stAt 13, stAt 14, stAt 15, stAt 16, stAt 17, stAt 18, stAt 19, stAt 20, stAt 21] } }
noncomputable def loose0 : List Str := ["_tuplegetter", "Pair", "b1_set", "b3_exceptions"]
noncomputable abbrev rw0 : OpenRow := PySem.Challenge.rw_in0022_01.row
noncomputable def hook0 : Hook := kmHook KK KA KA_eq [100, 303]
noncomputable abbrev Xt0 : Shared → Bool := fun s => xlAt Q0 [] s && recOk (RowW.records rw0.toRowW) s
theorem look1 (w : World) (os : OsState) : (staticsOk (importedModules PG.main.body) (HL_s0 w.params) (HL_p20 w.params) && namesBound PG (HL_p20 w.params) && gensDone ⟨HL_p20 w.params, ⟨[]⟩, ⟨0, 0, 0, 0⟩, 2648, os⟩ && laidKept (HL_s0 w.params) (HL_p20 w.params)) = true := by kernel_rfl
theorem look2 (w : World) (os : OsState) : openSeen Q0 loose0 (importedModules PG.main.body) Xt0 true ⟨HL_p20 w.params, ⟨[]⟩, ⟨0, 0, 0, 0⟩, 2648, os⟩ = openGood Q0 loose0 := by
  rewrite [PySem.W.Fast.te4187177175401517315]
  kernel_rfl
theorem look3 (w : World) (os : OsState) : Hook.obs hook0 ⟨HL_p20 w.params, ⟨[]⟩, ⟨0, 0, 0, 0⟩, 2648, os⟩ = Hook.val hook0 w := by kernel_rfl
theorem left0 : LeftO rw0.toRowW.prog Q0 loose0 Xt0 (Hook.obs hook0) (Hook.val hook0) 200000 :=
  LeftO.of_pieces (p := PG) (H₀ := HL_s0) (H₁ := HL_p20) (gs₀ := ⟨[]⟩) (gs₁ := ⟨[]⟩) (d₀ := ⟨0, 0, 0, 0⟩) (d₁ := ⟨0, 0, 0, 0⟩) (k₀ := 273) (k₁ := 2648) (m₀ := 29) (ann := some (.ref 6)) (M := MM) open0 size0 top_run le0
    (fun w => funext fun os => by rw [look1, look2, look3])
end
section
noncomputable def fPos (s : Stmt) : Pos := match s with | .FunctionDef _ _ _ _ _ _ _ _ _ p => p | _ => default
noncomputable def dLaw : DefRec := { name := "law", params := a21.1, body := b21.1, scope := s21.1, pos := fPos (stAt 21) }
theorem head0 (call : WalkO Q0 loose0 (XL Q0 []) hook0.says rw0.toRowW dLaw [] fun f vs => PySem.call f vs) : PySem.Challenge.rw_in0022_01.Holds := by
  w_on
  refine holds_law (by rewrite [PySem.W.Fast.te9446332074065402090]; kernel_rfl) fun said => ?_
  refine holds_open (q := Q0) (loose := loose0) (Xt := Xt0) (XP := XL Q0 []) (Yf := Hook.obs hook0) (Ya := Hook.val hook0) (YP := Hook.says hook0) (N := 200000) left0 (Hook.of hook0) (Hook.keeps hook0) (fun s e => xl_of s (Bool.and_eq_true_iff.mp e).1) XL.keeps (d := dLaw) (kwd := []) (by kernel_rfl) (by kernel_rfl) (by rfl) (fun s e => recFacts_of (Bool.and_eq_true_iff.mp e).2) (by rfl) (by assumption) (by decide +kernel) ⟨rfl, rfl, rfl, rfl, rfl, by decide +kernel⟩ ?hw call
  case hw => w_witness2
end
section
open PySem PySem.W PySem.Calls PyProof.Rows Builtin.Str
noncomputable abbrev ofL (l : List Nat) : Str := ⟨l.toArray⟩
noncomputable def occStep (s sub : Str) (hi limit : Nat) (st : Array Nat × Nat) (i : Nat) : Array Nat × Nat :=
  if ((st.1.size < limit ∧ st.2 ≤ i) ∧ i + sub.length ≤ hi) ∧ subAt s sub i = true then (st.1.push i, i + sub.length) else st
theorem occ_fold (s sub : Str) (lo hi limit : Nat) : occurrences s sub lo hi limit = ((List.range' lo (hi + 1 - lo)).foldl (occStep s sub hi limit) (#[], lo)).1.toList := by
  unfold occurrences
  simp [Std.Legacy.Range.forIn_eq_forIn_range', Id.run]
  have key : ∀ (l : List Nat) (st : Array Nat × Nat), (forIn (m := Id) l st fun i __s =>
        if ((__s.fst.size < limit ∧ __s.snd ≤ i) ∧ i + sub.length ≤ hi) ∧ subAt s sub i = true then
          pure (ForInStep.yield (__s.fst.push i, i + sub.length))
        else pure (ForInStep.yield (__s.fst, __s.snd))) = (pure (l.foldl (occStep s sub hi limit) st) : Id _) := by
    intro l
    induction l with
    | nil => intro st; rfl
    | cons i l ih =>
      intro st
      rw [List.forIn_cons, List.foldl_cons, ← ih]
      unfold occStep
      split <;> rfl
  rw [key]
  rfl
theorem occ_keep (s sub : Str) (hi limit : Nat) (st : Array Nat × Nat) : ∀ l : List Nat, (∀ i ∈ l, ¬ (((st.1.size < limit ∧ st.2 ≤ i) ∧ i + sub.length ≤ hi) ∧ subAt s sub i = true)) → l.foldl (occStep s sub hi limit) st = st
  | [], _ => rfl
  | i :: l, h => by
    rw [List.foldl_cons]
    have : occStep s sub hi limit st i = st := by unfold occStep; rw [if_neg (h i (List.mem_cons_self ..))]
    rw [this]
    exact occ_keep s sub hi limit st l fun j hj => h j (List.mem_cons_of_mem _ hj)
theorem length_ofL (l : List Nat) : (ofL l).length = l.length := by simp [Str.length]
theorem subAt_one (l : List Nat) (c i : Nat) (hi : i < l.length) : subAt (ofL l) (ofL [c]) i = (l[i] == c) := by
  unfold subAt
  have e : (ofL l).cps.extract i (i + (ofL [c]).length) = #[l[i]] := by
    rw [length_ofL]
    have h1 : List.take 1 (List.drop i l) = [l[i]] := by rw [List.drop_eq_getElem_cons hi]; rfl
    simp [List.extract_eq_take_drop, h1]
  rw [e]
  simp
theorem occ_one (P R : List Nat) (c : Nat) (hc : c ∉ P) : occurrences (ofL (P ++ c :: R)) (ofL [c]) 0 (ofL (P ++ c :: R)).length 1 = [P.length] := by
  rw [occ_fold]
  rw [length_ofL]
  have hl : (P ++ c :: R).length = P.length + (R.length + 1) := by simp
  rw [hl, Nat.sub_zero, show P.length + (R.length + 1) + 1 = P.length + (1 + (R.length + 1)) by (first | lia | omega), ← List.range'_append_1, List.foldl_append, ← List.range'_append_1, List.foldl_append]
  rw [occ_keep _ _ _ _ _ (List.range' 0 P.length) (fun i hi h => by
    have hlt : i < P.length := by have := List.mem_range'_1.mp hi; (first | lia | omega)
    have := h.2
    rw [subAt_one _ _ _ (by rw [hl]; (first | lia | omega)), List.getElem_append_left hlt, beq_iff_eq] at this
    exact hc (this ▸ List.getElem_mem hlt))]
  have h1 : List.foldl (occStep (ofL (P ++ c :: R)) (ofL [c]) (P.length + (R.length + 1)) 1) (#[], 0) (List.range' (0 + P.length) 1) = (#[P.length], P.length + 1) := by
    simp only [List.range'_one, List.foldl_cons, List.foldl_nil, Nat.zero_add]
    unfold occStep
    rw [if_pos]
    · simp [length_ofL]
    · refine ⟨⟨⟨by decide, Nat.zero_le _⟩, by rw [length_ofL]; simp⟩, ?_⟩
      rw [subAt_one _ _ _ (by rw [hl]; (first | lia | omega))]
      simp
  rw [h1, occ_keep _ _ _ _ _ _ (fun i hi h => by
    have := h.1.1.1
    simp at this)]
theorem parts_one (P R : List Nat) (c : Nat) : partsBetween (ofL (P ++ c :: R)) [P.length] 1 = [ofL P, ofL R] := by
  unfold partsBetween strSub
  simp [length_ofL, List.extract_eq_take_drop]
  apply List.take_of_length_le; (first | lia | omega)
theorem takeWhile_mid {f : Nat → Bool} : ∀ (A l : List Nat), (∀ c ∈ A, f c = true) → (∀ c r, l = c :: r → f c = false) → (A ++ l).takeWhile f = A
  | [], l, _, hl => by
    cases l with
    | nil => rfl
    | cons c r => rw [List.nil_append, List.takeWhile_cons, hl c r rfl]; rfl
  | a :: A, l, hA, hl => by
    rw [List.cons_append, List.takeWhile_cons, hA a (List.mem_cons_self ..)]
    simp only [if_true]
    rw [takeWhile_mid A l (fun c hc => hA c (List.mem_cons_of_mem _ hc)) hl]
theorem strip_mid (A W B : List Nat) (hA : ∀ c ∈ A, Unicode.isSpace c = true) (hB : ∀ c ∈ B, Unicode.isSpace c = true) (hW : ∀ c ∈ W, Unicode.isSpace c = false) : Txt.strip (ofL (A ++ W ++ B)) = ofL W := by
  unfold Txt.strip
  rw [PyProof.Rows.stripBy_eq]
  cases W with
  | nil =>
    have h1 : stripLo Unicode.isSpace true (ofL (A ++ [] ++ B)) = A.length + B.length := by
      unfold stripLo
      simp only [if_true, List.append_nil]
      have := takeWhile_mid (f := Unicode.isSpace) (A ++ B) [] (fun c hc => (List.mem_append.mp hc).elim (hA c) (hB c)) (fun c r h => by cases h)
      rw [List.append_nil] at this
      rw [this, List.length_append]
    rw [h1]
    unfold strSub stripHi
    simp
  | cons c W =>
    have h1 : stripLo Unicode.isSpace true (ofL (A ++ (c :: W) ++ B)) = A.length := by
      unfold stripLo
      simp only [if_true, List.append_assoc]
      rw [takeWhile_mid A _ hA (fun d r h => by
        rw [List.cons_append] at h
        cases h
        exact hW _ (List.mem_cons_self ..))]
    have h2 : stripHi Unicode.isSpace true (ofL (A ++ (c :: W) ++ B)) A.length = A.length + (c :: W).length := by
      unfold stripHi
      simp only [if_true, List.append_assoc]
      rw [List.drop_left, List.reverse_append, takeWhile_mid B.reverse _ (fun d hd => hB d (List.mem_reverse.mp hd)) (fun d r h => by
        have : d ∈ (c :: W).reverse := by rw [h]; exact List.mem_cons_self ..
        exact hW _ (List.mem_reverse.mp this))]
      rw [length_ofL, List.length_reverse, List.length_append, List.length_append]
      (first | lia | omega)
    rw [h1, h2]
    unfold strSub
    simp only [List.extract_toArray, List.extract_eq_take_drop, List.append_assoc, List.drop_left, Nat.add_sub_cancel_left, List.take_left]
end
section
open PySem
noncomputable def foldC (c : Nat) : List Nat := if c = 115 then [115] else if c = 383 then [115] else if c = 116 then [116] else if c = 223 then [115, 115] else if c = 64262 then [115, 116] else []
noncomputable def rest? (name : List Nat) (c : Nat) : Option (List Nat) :=
  if foldC c ≠ [] ∧ name.drop (name.length - (foldC c).length) = foldC c then some (name.take (name.length - (foldC c).length)) else none
theorem rest_lt {name r : List Nat} {c : Nat} (h : rest? name c = some r) : r.length < name.length := by
  unfold rest? at h
  split at h
  · rename_i hc
    cases h
    have h1 : (foldC c).length ≠ 0 := fun e => hc.1 (List.eq_nil_of_length_eq_zero e)
    have h2 : name.length ≠ 0 := fun e => by
      have : name = [] := List.eq_nil_of_length_eq_zero e
      subst this
      exact hc.1 (by simpa using hc.2.symm)
    rw [List.length_take]
    (first | lia | omega)
  · cases h
theorem rest_nil (c : Nat) : rest? [] c = none := by
  cases h : rest? [] c with
  | none => rfl
  | some r => exact absurd (rest_lt h) (Nat.not_lt_zero _)
theorem rest_sub {name r : List Nat} {c : Nat} (h : rest? name c = some r) : ∀ x ∈ r, x ∈ name := by
  unfold rest? at h
  split at h
  · cases h; exact fun x hx => List.mem_of_mem_take hx
  · cases h
noncomputable def waysF (al : List Nat) : Nat → List Nat → Nat
  | 0, name => if name = [] then 1 else 0
  | k + 1, name => if name = [] then 1 else (al.map fun c => match rest? name c with | some r => waysF al k r | none => 0).sum
theorem waysF_fuel (al : List Nat) : ∀ (k k' : Nat) (name : List Nat), name.length ≤ k → name.length ≤ k' → waysF al k name = waysF al k' name
  | 0, 0, _, _, _ => rfl
  | 0, k' + 1, name, h, _ => by
    have : name = [] := List.eq_nil_of_length_eq_zero (Nat.le_zero.mp h)
    subst this; rfl
  | k + 1, 0, name, _, h => by
    have : name = [] := List.eq_nil_of_length_eq_zero (Nat.le_zero.mp h)
    subst this; rfl
  | k + 1, k' + 1, name, h, h' => by
    unfold waysF
    congr 2
    refine List.map_congr_left fun c _ => ?_
    cases hr : rest? name c with
    | none => rfl
    | some r =>
      have := rest_lt hr
      exact waysF_fuel al k k' r (by (first | lia | omega)) (by (first | lia | omega))
noncomputable def ways (al name : List Nat) : Nat := waysF al name.length name
theorem ways_nil (al : List Nat) : ways al [] = 1 := rfl
theorem ways_rec (al : List Nat) {name : List Nat} (h : name ≠ []) : ways al name = (al.map fun c => match rest? name c with | some r => ways al r | none => 0).sum := by
  unfold ways
  cases hn : name.length with
  | zero => exact absurd (List.eq_nil_of_length_eq_zero hn) h
  | succ k =>
    rw [waysF, if_neg h]
    congr 1
    refine List.map_congr_left fun c _ => ?_
    cases hr : rest? name c with
    | none => rfl
    | some r =>
      have := rest_lt hr
      exact waysF_fuel al k r.length r (by (first | lia | omega)) (Nat.le_refl _)
noncomputable def enc (name al : List Nat) : Str := ofL (name ++ 61 :: al)
noncomputable def GoodN (name : List Nat) : Prop := ∀ c ∈ name, c = 115 ∨ c = 116
theorem GoodN.ne61 {name : List Nat} (h : GoodN name) : 61 ∉ name := fun q => by rcases h _ q with z | z <;> cases z
noncomputable def runsF (K : List Str) (al : List Nat) : Nat → List Nat → Nat
  | 0, name => if enc name al ∈ K then 0 else 1
  | k + 1, name => if enc name al ∈ K then 0 else 1 + (al.map fun c => match rest? name c with | some r => runsF K al k r | none => 0).sum
theorem runsF_fuel (K : List Str) (al : List Nat) : ∀ (k k' : Nat) (name : List Nat), name.length ≤ k → name.length ≤ k' → runsF K al k name = runsF K al k' name := by
  have nil : ∀ k, runsF K al k [] = if enc [] al ∈ K then 0 else 1 := by
    intro k
    cases k with
    | zero => rfl
    | succ k =>
      rw [runsF]
      have : (al.map fun c => match rest? [] c with | some r => runsF K al k r | none => 0).sum = 0 := by
        have : ∀ l : List Nat, (l.map fun c => match rest? [] c with | some r => runsF K al k r | none => 0).sum = 0 := by
          intro l
          induction l with
          | nil => rfl
          | cons c l ih => rw [List.map_cons, List.sum_cons, ih, rest_nil]
        exact this al
      rw [this]
  intro k
  induction k with
  | zero =>
    intro k' name h h'
    have : name = [] := List.eq_nil_of_length_eq_zero (Nat.le_zero.mp h)
    subst this
    rw [nil, nil]
  | succ k ih =>
    intro k' name h h'
    cases k' with
    | zero =>
      have : name = [] := List.eq_nil_of_length_eq_zero (Nat.le_zero.mp h')
      subst this
      rw [nil, nil]
    | succ k' =>
      unfold runsF
      congr 2
      congr 1
      refine List.map_congr_left fun c _ => ?_
      cases hr : rest? name c with
      | none => rfl
      | some r =>
        have := rest_lt hr
        exact ih k' r (by (first | lia | omega)) (by (first | lia | omega))
noncomputable def runs (K : List Str) (al name : List Nat) : Nat := runsF K al name.length name
theorem runs_old {K : List Str} {al name : List Nat} (h : enc name al ∈ K) : runs K al name = 0 := by
  unfold runs
  cases name.length <;> simp [runsF, h]
theorem runs_rec {K : List Str} {al name : List Nat} (h : enc name al ∉ K) : runs K al name = 1 + (al.map fun c => match rest? name c with | some r => runs K al r | none => 0).sum := by
  unfold runs
  have e := runsF_fuel K al name.length (name.length + 1) name (Nat.le_refl _) (Nat.le_succ _)
  rw [e, runsF, if_neg h]
  congr 2
  refine List.map_congr_left fun c _ => ?_
  cases hr : rest? name c with
  | none => rfl
  | some r =>
    have := rest_lt hr
    exact runsF_fuel K al _ _ r (by (first | lia | omega)) (Nat.le_refl _)
end
section
noncomputable abbrev PR : Program := PySem.Challenge.rw_in0022_01.row.toRowW.prog
noncomputable def Ext (h h' : Heap) : Prop := ∀ b o, h.get? b = some o → h'.get? b = some o
theorem Ext.refl (h : Heap) : Ext h h := fun _ _ e => e
theorem Ext.trans {a b c : Heap} (x : Ext a b) (y : Ext b c) : Ext a c := fun i o e => y i o (x i o e)
section
variable {w : World} {A : Around} {s : Shared} {R : Result → Shared → Prop} {name qual : Str} {params : Arguments} {body : List Stmt} {scope : Scope} {dV kV doc pm cdv ct oc : Value} {an od : Option Addr} {osl : Array (Option Value)} {f : Addr} {args : Args} {binds : List (Str × Value)}
  {mg mb : Str → Option Value} {p : Program} {loose : List Str} {cl : List (Str × Addr)}
theorem enterP (X : (KK w.params).In s.heap) (T : TopRead p loose mg mb s.heap)
    (ho : (KK w.params).lookup f = some ⟨oc, od, .func (fnOf name qual params body scope dV kV doc pm an cdv ct), osl⟩) (hcd : codeIn (KK w.params) cdv qual = true) (hroom : A.depth < recursionLimit)
    (hbind : BindsTo s (fnOf name qual params body scope dV kV doc pm an cdv ct) args binds) (hloc : ∀ y ∈ binds, scope.names.lookup y.1 = some .local)
    (h : ∀ h₁ L', L' = s.heap.objs.size → Fr s.heap L' h₁ (fun y => binds.reverse.lookup y) → News s.heap L' h₁ [] →
      wpAny (model PR w) (A.deeper (envOf qual scope L' f cdv)) (execs body (envOf qual scope L' f cdv))
        (fun fl s' => R (.ok (.ret (match fl with | .ret v => v | _ => .none))) s') (fun _ _ => False)
        { s with heap := h₁, toks := s.toks + binds.length })
    (hco : scope.isCoroutine = false) (hgen : scope.isGenerator = false) (hk : scope.kind = .function) (hcell : ∀ x ∈ scope.names, x.2 ≠ .cell) :
    codeAny (model PR w) A (.call (.ref f) args) R s := by
  refine codeAny_call_def (fd := fnOf name qual params body scope dV kV doc pm an cdv ct) (body := body) (binds := binds) hroom (X _ _ ho) rfl T.nolimit (codeRec_of X hcd) rfl hbind hcell hloc (fun h₁ hns hk₁ => ?_) hco hgen hk
  exact wpAny_mono (h h₁ _ rfl ⟨hns, hk₁, Nat.le_refl _⟩ News.nil) (fun fl s' x => x) (fun _ _ x => x.elim)
end
end
section
noncomputable def intEntry (e : Int × Value) : Bool := match e.2 with | .int i _ => e.1 == hashInt i | _ => false
theorem elems_ints {prog : Program} {w : World} {es : List (Int × Value)} (h : es.all intEntry = true) : ElemsOf (intKind prog w) es := fun e he => by
  have := List.all_eq_true.mp h e he
  obtain ⟨a, v⟩ := e
  unfold intEntry at this
  cases v <;> simp at this
  subst this
  exact ⟨⟨_, beq_self_eq_true _, rfl⟩, rfl⟩
noncomputable abbrev b1E := e_214
noncomputable def inB1 (k : Int) : Bool := b1E.any fun e => Value.isInt k e.2
theorem b1_set {w : World} {h : Heap} (X : (KK w.params).In h) : h.SetOf (intKind PR w) 214 inB1 27 := by
  refine ⟨_, b1E.toArray, 29, _, X 214 (o_214 w.params) (by kernel_rfl), ⟨rfl, rfl, rfl⟩, rfl, elems_ints (by decide +kernel), fun k => ?_, by decide, rfl, rfl⟩
  unfold inB1
  rw [List.any_eq_true]
  rfl
local macro_rules | `(tactic| walk_at "compareOp In int ref") => `(tactic| ((with_reducible show wpAny _ _ (compareOp CmpOp.In _ (Value.ref 214)) _ _ _); refine wpAny_inSet_of (knd := intKind PR _) (beq_self_eq_true _) rfl (b1_set (by k_in)) ?_))
set_option maxHeartbeats 8000000 in
theorem spec_b1 : ∀ {w : World} {mg mb : Str → Option Value} {p : Program} {loose : List Str} {A : Around} {s : Shared} {Q : Value → Shared → Prop} {E : Value → Shared → Prop} (X : (KK w.params).In s.heap) (T : TopRead p loose mg mb s.heap) (hroom : A.depth + 10 < recursionLimit)
  (c : Str) (t : Tok) (hc : c.length = 1) (hQ : ∀ h' tk, Ext s.heap h' → Q (.bool (inB1 (c.cps.getD 0 0 : Nat))) ⟨h', s.gens, s.drawn, tk, s.os⟩),
  wpAny (model PySem.Challenge.rw_in0022_01.row.toRowW.prog w) A (call (.ref 224) [.str c t]) Q E s := by
  k_fill
  intro w mg mb p loose A s Q E X T hroom c t hc hQ
  refine wpAny_call (enterP X T (by k_is) (by k_is) (by omega) (BindsTo.of_eq rfl) (locs rfl) (fun h₁ L' hL F N => ?_) rfl rfl rfl (by decide))
  (try dsimp only)
  k_steps
  exact hQ _ _ F.keep
end
section
noncomputable def intKey (e : DictEntry) : Bool := match e.key with | .int i _ => e.hash == hashInt i | _ => false
theorem keys_ints {prog : Program} {w : World} {es : List DictEntry} (h : es.all intKey = true) : KeysOf (intKind prog w) es.toArray := fun e he => by
  have := List.all_eq_true.mp h e (by simpa using he)
  obtain ⟨a, k, v⟩ := e
  unfold intKey at this
  cases k <;> simp at this
  subst this
  exact ⟨_, beq_self_eq_true _, rfl⟩
noncomputable def b3Of (k : Int) : Option Value := findBy Value.isInt e_225.toArray k
theorem b3_map {w : World} {h : Heap} (X : (KK w.params).In h) : h.MapOf (intKind PR w) 225 b3Of :=
  ⟨_, e_225.toArray, 650, X 225 (o_225 w.params) (by kernel_rfl), ⟨rfl, rfl, rfl⟩, rfl, keys_ints (by decide +kernel), fun _ => rfl⟩
noncomputable def valStr (e : DictEntry) : Bool := match e.val with | .str _ _ => true | _ => false
theorem b3_cases (k : Int) {P : Value → Prop} (h0 : b3Of k = none → P .none) (h1 : ∀ x t, b3Of k = some (.str x t) → P (.str x t)) : P ((b3Of k).getD .none) := by
  cases hb : b3Of k with
  | none => exact h0 hb
  | some v =>
    have : ∃ e ∈ e_225, e.val = v := by
      unfold b3Of findBy at hb
      obtain ⟨e, he, rfl⟩ := Option.map_eq_some_iff.mp hb
      exact ⟨e, by simpa using Array.mem_of_find?_eq_some he, rfl⟩
    obtain ⟨e, he, rfl⟩ := this
    have h := List.all_eq_true.mp (show e_225.all valStr = true by decide +kernel) e he
    unfold valStr at h
    cases hv : e.val <;> rw [hv] at h <;> simp at h
    exact h1 _ _ (by rw [hb, hv])
noncomputable def foldOf (c : Str) : Str := match b3Of (c.cps.getD 0 0 : Nat) with | some (.str x _) => x | _ => Txt.lower c
local macro_rules | `(tactic| walk_at "getMethod ref") => `(tactic| ((with_reducible show wpAny _ _ (getMethod (Value.ref 225) _ _) _ _ _); refine getMethod_builtin (Heap.MapOf.typeIs (b3_map (by k_in))) PySem.F.plainAttrs_dict PySem.F.slot_dict_get PySem.F.type_dict_get (Heap.MapOf.noDict (b3_map (by k_in))) ?_))
theorem call_b3get {w : World} {A : Around} {s : Shared} {Q : Value → Shared → Prop} {E : Value → Shared → Prop} {k : Int} {t : Tok} (X : (KK w.params).In s.heap)
    (h0 : b3Of k = none → Q .none { s with toks := s.toks + 1 }) (h1 : ∀ x t, b3Of k = some (.str x t) → Q (.str x t) { s with toks := s.toks + 1 }) :
    wpAny (model PR w) A (call (.builtin "dict.get") [.ref 225, .int k t]) Q E s :=
  call_meetsIn PySem.F.slot_dict_get (Heap.MapOf.typeIs (b3_map X)) PySem.F.entry_dict_get (PySem.F.args_dict_get_2 _ _) (meets_dict_get (intKind PR _) 225 (beq_self_eq_true _) rfl)
    ⟨_, b3_map X, b3_cases k (P := fun v => Q v { s with toks := s.toks + 1 }) h0 h1⟩
local macro_rules | `(tactic| walk_at "call builtin:dict.get") => `(tactic| ((with_reducible show wpAny _ _ (call (Value.builtin "dict.get") [Value.ref 225, Value.int _ _]) _ _ _); refine call_b3get (by k_in) (fun hb => ?_) (fun x3 t3 hb => ?_)))
theorem b3Of_list (k : Int) : b3Of k = (e_225.find? fun e => Value.isInt k e.key).map (·.val) := by
  unfold b3Of findBy
  rw [List.find?_toArray]
noncomputable def b3L (k : Int) : Option Value := (e_225.find? fun e => Value.isInt k e.key).map (·.val)
noncomputable def foldL (c : Str) : Str := match b3L (c.cps.getD 0 0 : Nat) with | some (.str x _) => x | _ => Txt.lower c
theorem foldOf_list (c : Str) : foldOf c = foldL c := by unfold foldOf foldL b3L; rw [b3Of_list]
theorem foldOf_none {c : Str} (hb : b3Of (c.cps.getD 0 0 : Nat) = none) : foldOf c = Txt.lower c := by unfold foldOf; rw [hb]
theorem foldOf_some {c x : Str} {t : Tok} (hb : b3Of (c.cps.getD 0 0 : Nat) = some (.str x t)) : foldOf c = x := by unfold foldOf; rw [hb]
set_option maxHeartbeats 8000000 in
theorem spec_b3 : ∀ {w : World} {mg mb : Str → Option Value} {p : Program} {loose : List Str} {A : Around} {s : Shared} {Q : Value → Shared → Prop} {E : Value → Shared → Prop} (X : (KK w.params).In s.heap) (T : TopRead p loose mg mb s.heap) (hroom : A.depth + 10 < recursionLimit)
  (c : Str) (t : Tok) (hc : c.length = 1) (hQ : ∀ h' tk u, Ext s.heap h' → Q (.str (foldOf c) u) ⟨h', s.gens, s.drawn, tk, s.os⟩),
  wpAny (model PySem.Challenge.rw_in0022_01.row.toRowW.prog w) A (call (.ref 270) [.str c t]) Q E s := by
  k_fill
  intro w mg mb p loose A s Q E X T hroom c t hc hQ
  refine wpAny_call (enterP X T (by k_is) (by k_is) (by omega) (BindsTo.of_eq rfl) (locs rfl) (fun h₁ L' hL F N => ?_) rfl rfl rfl (by decide))
  (try dsimp only)
  k_steps
  · have e := foldOf_none (c := c) (by assumption)
    exact e ▸ hQ _ _ _ (Fr.keep (by assumption))
  · have e := foldOf_some (c := c) (by assumption)
    exact e ▸ hQ _ _ _ (Fr.keep (by assumption))
end
section
section
variable {prog : Program} {w : World} {A : Around} {E : Value → Shared → Prop} {s : Shared}
noncomputable abbrev FinPost (M : Model) (A : Around) (E : Value → Shared → Prop) (Q : Value → Shared → Prop) : Fin → Shared → Prop := fun fin s' => match fin with | .done f => wants Q E (.ok f) s' | .again c' => c'.quiet = true ∧ codeAny M A c' (wants Q E) s'
theorem call_fn {id : String} {B : Builtin} {args : List Value} {Q : Value → Shared → Prop} (kind : builtinKind id = none) (plain : plainId id = true) (entry : entryFor table id = some B) (ok : argsOk id ⟨args, []⟩)
    (h : wpAny (model prog w) A.in1 (B ⟨args, []⟩) (FinPost (model prog w) A E Q) (fun e s' => E e s') s) :
    wpAny (model prog w) A (call (.builtin id) args) Q E s := by
  refine wpAny_call (codeAny_call_builtin plain entry ?_)
  simp only [checkBuiltinCall, kind]
  cases hsig : Manifest.signature? id with
  | none => exact wpAny_pure h
  | some sig =>
    simp only [argsOk, hsig] at ok
    have h2 : Bind.checkArgs id sig ⟨args, []⟩ = pure () := ok
    show wpAny _ _ (Bind.checkArgs id sig ⟨args, []⟩) _ _ s
    rw [h2]; exact wpAny_pure h
theorem call_slot {id owner nm : String} {B : Builtin} {self C : Value} {rest : List Value} {Q : Value → Shared → Prop} (kind : builtinKind id = some .slot ∨ builtinKind id = some .method) (sp : splitId id = some (owner, nm)) (plain : plainId id = true) (entry : entryFor table id = some B) (ok : argsOk id ⟨self :: rest, []⟩)
    (L1 : Looks (model prog w) s.heap (typeOf self) C) (L2 : Looks (model prog w) s.heap (isSubtype C (.type owner)) true)
    (h : wpAny (model prog w) A.in1 (B ⟨self :: rest, []⟩) (FinPost (model prog w) A E Q) (fun e s' => E e s') s) :
    wpAny (model prog w) A (call (.builtin id) (self :: rest)) Q E s := by
  refine wpAny_call (codeAny_call_builtin plain entry ?_)
  have fin : wpAny (model prog w) A.in1 (match Manifest.signature? id with | some sig => Bind.checkArgs id sig ⟨self :: rest, []⟩ | none => pure ()) (fun _ s' => wpAny (model prog w) A.in1 (B ⟨self :: rest, []⟩) (FinPost (model prog w) A E Q) (fun e s' => E e s') s') (fun e s' => wants Q E (.error e) s') s := by
    cases hsig : Manifest.signature? id with
    | none => exact wpAny_pure h
    | some sig =>
      simp only [argsOk, hsig] at ok
      have h2 : Bind.checkArgs id sig ⟨self :: rest, []⟩ = pure () := ok
      dsimp only
      rw [h2]; exact wpAny_pure h
  rcases kind with kind | kind
  · simp only [checkBuiltinCall, kind, sp]
    refine wpAny_bind (wpAny_bind (L1.here (L2.here ?_)))
    simp only [Bool.not_true, Bool.false_eq_true, if_false]
    cases hsig : Manifest.signature? id <;> (rw [hsig] at fin; exact fin)
  · simp only [checkBuiltinCall, kind, sp]
    refine wpAny_bind (wpAny_bind (L1.here (L2.here ?_)))
    simp only [Bool.not_true, Bool.false_eq_true, if_false]
    cases hsig : Manifest.signature? id <;> (rw [hsig] at fin; exact fin)
end
section
variable {prog : Program} {w : World} {A : Around} {E : Value → Shared → Prop} {s : Shared} {K : Frag} {name : Str}
theorem attr_type {T : String} {expr : Bool} {v : Value} {Q : Value → Shared → Prop} (X : K.In s.heap) (ht : typeOf (.type T) = pure (.type "type")) (hs : Manifest.isStub T = false)
    (e : findCls K (.type T) (.type "type") name = some (.val v)) (hh : handedIn v = true) (h : Q v { s with toks := s.toks + 1 }) : wpAny (model prog w) A (getAttr (.type T) name expr) Q E s := by
  have hstub : opaqueClassAbove (.type T) = pure none := by unfold opaqueClassAbove; dsimp only; rw [hs]; rfl
  have L0 : Looks (model prog w) s.heap (typeOf (.type T)) (.type "type") := Looks.of_pure ht
  have hg : findIn K (.type "type") "__getattribute__" = some (some (.builtin "type.__getattribute__")) := type_tga
  have LO : Looks (model prog w) s.heap (opaqueClassAbove (.type T)) none := Looks.of_pure hstub
  refine cls_open X LO L0 hg (looks_hook X (r := none) (by rfl)) (by show subIn K _ _ = _; rfl) e
    (wpAny_pure (by show wpAny _ _ (handedOut v) _ _ _; rw [handedOut_of hh]; exact wpAny_pure h))
end
theorem meta_str : typeOf (.type "str") = pure (.type "type") := by kernel_rfl
end
section
noncomputable def IsPair (h : Heap) (x : Addr) (a b : Value) : Prop := ∃ dx od n sl, h.get? x = some ⟨.ref 203, some dx, .seq #[a, b] n, sl⟩ ∧ h.get? dx = some od ∧ ∃ es k, od = dictOf es k
theorem IsPair.keeps {h h' : Heap} {x : Addr} {a b : Value} (p : IsPair h x a b) (k : Ext h h') : IsPair h' x a b :=
  let ⟨dx, od, n, sl, e1, e2, e3⟩ := p; ⟨dx, od, n, sl, k _ _ e1, k _ _ e2, e3⟩
theorem IsPair.inst {h : Heap} {x : Addr} {a b : Value} (p : IsPair h x a b) : ∃ ox od, InstAt h x ox 203 (some od) :=
  let ⟨dx, od, n, sl, e1, e2, e3⟩ := p; ⟨_, od, e1, rfl, rfl, e2⟩
section
variable {w : World} {A : Around} {E : Value → Shared → Prop} {Q : Value → Shared → Prop} {s : Shared} {x : Addr} {a b : Value}
theorem type_pair (p : IsPair s.heap x a b) (h : Q (.ref 203) s) : wpAny (model PR w) A (call (.type "type") [.ref x]) Q E s :=
  let ⟨_, _, I⟩ := p.inst; kto_own I h
theorem issub_pair (X : (KK w.params).In s.heap) (h : Q (.bool true) s) : wpAny (model PR w) A (call (.builtin "issubclass") [.ref 203, .type "tuple"]) Q E s := by
  have L1 := looks_mroIn (M := model PR w) (C := 203) (base := .type "tuple") (r := true) X (by kernel_rfl)
  have e203 := X 203 (o_203 w.params) (by kernel_rfl)
  obtain ⟨hh, g, d, t, os⟩ := s
  dsimp only at e203 L1
  refine call_fn PySem.F.kind_issubclass PySem.F.plain_issubclass PySem.F.entry_issubclass (PySem.F.args_issubclass_2 _ _) ?_
  unfold Builtin.«issubclass»
  repeat lk
  refine ⟨Code.quiet_builtin _ (by decide +kernel), codeAny_builtin PySem.F.entry_issubclass_nested ?_⟩
  unfold Builtin.«issubclass.nested»
  repeat lk
  exact h
theorem pair_at (X : (KK w.params).In s.heap) (p : IsPair s.heap x a b) {k : Nat} {v : Value} {tk : Nat} (hk : k < 2) (hv : (#[a, b] : Array Value)[k]? = some v) (h : Q v s) :
    wpAny (model PR w) A (call (.builtin "tuple.__getitem__") [.ref x, .int (Int.ofNat k) tk]) Q E s := by
  have L1 : Looks (model PR w) s.heap (typeOf (.ref x)) (.ref 203) := by obtain ⟨_, _, I⟩ := p.inst; exact InstAt.type I
  have L2 := looks_mroIn (M := model PR w) (C := 203) (base := .type "tuple") (r := true) X (by kernel_rfl)
  obtain ⟨dx, od, n, sl, e1, e2, e3⟩ := p
  refine call_slot (.inl (by kernel_rfl)) (owner := "tuple") (nm := "__getitem__") (by kernel_rfl) PySem.F.slot_tuple_getitem.plain PySem.F.entry_tuple_getitem (PySem.F.args_tuple_getitem_2 _ _) L1 L2 ?_
  have f1 := AutoSeq1.idx_int
  obtain ⟨hh, g, d, t, os⟩ := s
  dsimp only at e1
  have hs : seqIndex? (Int.ofNat k) (#[a, b] : Array Value).size = some k := by
    have : k = 0 ∨ k = 1 := by omega
    rcases this with rfl | rfl <;> rfl
  have hf : ¬ (decide ((Int.ofNat k) < -2 ^ 63) || decide ((Int.ofNat k) ≥ 2 ^ 63)) = true := by simp; omega
  wp_walk using wpAny_loadPart' e1
  simp only [hs, hv, Option.bind_some]
  refine wpAny_ite_false (by simp; omega) ?_
  wp_walk
  exact h
end
local macro_rules | `(tactic| walk_at "mine pair") => `(tactic| exact IsPair.keeps (by assumption) (Fr.keep (by assumption)))
local macro_rules | `(tactic| walk_at "call type:type") => `(tactic| (refine type_pair (by walk_at "mine pair") ?_))
local macro_rules | `(tactic| walk_at "call builtin:issubclass") => `(tactic| (refine issub_pair (by k_in) ?_))
theorem meta_tuple : typeOf (.type "tuple") = pure (.type "type") := by kernel_rfl
local macro_rules | `(tactic| walk_at "getMethod type:tuple") => `(tactic| (k_here; refine' method_type ?F ?X ?m (by decide +kernel) ?e ?h ?_; (case F => k_asm); (case X => k_asm); (case m => exact meta_tuple); (case e => k_dflt k_is); (case h => k_handed)))
local macro_rules | `(tactic| walk_at "call builtin:tuple.__getitem__") => `(tactic| (k_here; first | (refine pair_at (k := 0) (by k_in) (by walk_at "mine pair") (by decide) rfl ?_) | (refine pair_at (k := 1) (by k_in) (by walk_at "mine pair") (by decide) rfl ?_)))
set_option maxHeartbeats 8000000 in
theorem spec_name : ∀ {w : World} {mg mb : Str → Option Value} {p : Program} {loose : List Str} {A : Around} {s : Shared} {Q : Value → Shared → Prop} {E : Value → Shared → Prop} (X : (KK w.params).In s.heap) (T : TopRead p loose mg mb s.heap) (hroom : A.depth + 10 < recursionLimit)
  (x : Addr) (a b : Value) (hp : IsPair s.heap x a b) (hQ : ∀ h' tk, Ext s.heap h' → Q a ⟨h', s.gens, s.drawn, tk, s.os⟩),
  wpAny (model PySem.Challenge.rw_in0022_01.row.toRowW.prog w) A (call (.ref 61) [.ref 172, .ref x, .ref 203]) Q E s := by
  k_fill
  intro w mg mb p loose A s Q E X T hroom x a b hp hQ
  refine wpAny_call (enterP X T (by k_is) (by k_is) (by omega) (binds_K (by k_in) rfl (by k_is) rfl rfl rfl) (locs rfl) (fun h₁ L' hL F N => ?_) rfl rfl rfl (by decide))
  (try dsimp only)
  k_steps
  all_goals exact hQ _ _ (Fr.keep (by assumption))
set_option maxHeartbeats 8000000 in
theorem spec_value : ∀ {w : World} {mg mb : Str → Option Value} {p : Program} {loose : List Str} {A : Around} {s : Shared} {Q : Value → Shared → Prop} {E : Value → Shared → Prop} (X : (KK w.params).In s.heap) (T : TopRead p loose mg mb s.heap) (hroom : A.depth + 10 < recursionLimit)
  (x : Addr) (a b : Value) (hp : IsPair s.heap x a b) (hQ : ∀ h' tk, Ext s.heap h' → Q b ⟨h', s.gens, s.drawn, tk, s.os⟩),
  wpAny (model PySem.Challenge.rw_in0022_01.row.toRowW.prog w) A (call (.ref 61) [.ref 175, .ref x, .ref 203]) Q E s := by
  k_fill
  intro w mg mb p loose A s Q E X T hroom x a b hp hQ
  refine wpAny_call (enterP X T (by k_is) (by k_is) (by omega) (binds_K (by k_in) rfl (by k_is) rfl rfl rfl) (locs rfl) (fun h₁ L' hL F N => ?_) rfl rfl rfl (by decide))
  (try dsimp only)
  k_steps
  all_goals exact hQ _ _ (Fr.keep (by assumption))
end
section
open AutoSeq1 (wpAny_loadPart')
theorem mro_map : mroOf (.type "map") = pure [.type "map", .type "object"] := by rw [mroOf_type]; kernel_rfl
theorem lookup_map_new : typeLookup (.type "map") "__new__" = pure (some (.builtin "map.__new__")) := by rw [typeLookup_type, builtinLookup_eq_fast]; kernel_rfl
theorem slot_map_init : Slot "map" "__init__" "object.__init__" :=
  .of (owner := "object") (n := "__init__") (by rw [typeLookup_type, builtinLookup_eq_fast]; kernel_rfl) (by decide +kernel) (by decide +kernel) (by decide +kernel)
    (by first | exact .inl (by decide +kernel) | exact .inr (by decide +kernel)) (by rw [isSubtype_type]; kernel_rfl)
theorem slot_map_next : Slot "map" "__next__" "map.__next__" :=
  .of (owner := "map") (n := "__next__") (by rw [typeLookup_type, builtinLookup_eq_fast]; kernel_rfl) (by decide +kernel) (by decide +kernel) (by decide +kernel)
    (by first | exact .inl (by decide +kernel) | exact .inr (by decide +kernel)) (by rw [isSubtype_type]; kernel_rfl)
theorem slot_map_iter : Slot "map" "__iter__" "map.__iter__" :=
  .of (owner := "map") (n := "__iter__") (by rw [typeLookup_type, builtinLookup_eq_fast]; kernel_rfl) (by decide +kernel) (by decide +kernel) (by decide +kernel)
    (by first | exact .inl (by decide +kernel) | exact .inr (by decide +kernel)) (by rw [isSubtype_type]; kernel_rfl)
theorem called_map : TypeCalled "map" "map.__new__" "object.__init__" :=
  ⟨by decide +kernel, by decide +kernel, ⟨_, _, mro_map⟩, madeBy_type mro_map lookup_map_new (by decide +kernel), by decide +kernel, by rw [isSubtype_type]; kernel_rfl, slot_map_init⟩
theorem typeCall_map_2 (a b : Value) : checkTypeCall "map" ⟨[a, b], []⟩ = pure () := by kernel_rfl
theorem newCall_map_2 (a b : Value) : checkBuiltinCall "map.__new__" ⟨[.type "map", a, b], []⟩ = pure () := by kernel_rfl
theorem entry_map_new : entryFor table "map.__new__" = some Builtin.«map.__new__» := entryFor_of_tree (by kernel_rfl)
theorem entry_map_next : entryFor table "map.__next__" = some Builtin.«map.__next__» := entryFor_of_tree (by kernel_rfl)
theorem entry_map_iter : entryFor table "map.__iter__" = some Builtin.«dict_keyiterator.__iter__» :=
  entryFor_alias (id' := "dict_keyiterator.__iter__") (by kernel_rfl) (by first | rfl | decide +kernel | (unfold String.splitOn; simp +decide [String.splitOnAux])) (by decide +kernel) (by kernel_rfl)
theorem args_map_next_1 (a : Value) : argsOk "map.__next__" ⟨[a], []⟩ := by unfold argsOk; kernel_rfl
theorem args_map_iter_1 (a : Value) : argsOk "map.__iter__" ⟨[a], []⟩ := by unfold argsOk; kernel_rfl
theorem args_init3 (o a b : Value) : argsOk "object.__init__" ⟨[o, a, b], []⟩ := by unfold argsOk; kernel_rfl
theorem sub_map : isSubtype (.type "map") (.type "map") = pure true := by rw [isSubtype_type]; kernel_rfl
noncomputable def mapObj (tp : Addr) (f : Value) : Obj := { cls := .type "map", dict := none, data := .fields #[.ref tp, f], slots := #[] }
noncomputable def oneTup (it : Addr) : Obj := { cls := .type "tuple", dict := none, data := .seq #[.ref it] 0, slots := #[] }
theorem meets_map_new (f : Value) (l : Addr) (items : Array Value) (n : Nat) (dct : Option Addr) (sl : Array (Option Value)) :
    Meets (Builtin.«map.__new__» ⟨[.type "map", f, .ref l], []⟩) (fun _ R s => s.heap.get? l = some { cls := .type "list", dict := dct, data := .seq items n, slots := sl } ∧
      R (.ok (.ret (.ref (s.heap.objs.size + 2))))
        { s with heap := ((s.heap.push { cls := .type "list_iterator", data := .fields #[.ref l, .int 0 0] }).push (oneTup s.heap.objs.size)).push (mapObj (s.heap.objs.size + 1) f) }) :=
  .of_wp fun prog w A R s h => by
    obtain ⟨hp, g, d, tk, os⟩ := s; obtain ⟨hl, h⟩ := h
    have hsub := sub_map
    have hL : Heap.IsList (Shared.heap ⟨hp, g, d, tk, os⟩) l items := ⟨_, hl, rfl, n, rfl⟩
    wp_walk using wpAny_loadPart' hl, wpAny_pyIter_list hL
    refine ⟨_, rfl, ?_⟩
    simp only [Heap.size_push, oneTup, mapObj, Nat.add_assoc, Nat.reduceAdd] at h ⊢
    exact h
end
section
open AutoSeq1 (wpAny_loadPart')
section
variable {prog : Program} {w : World} {A : Around} {E : Value → Shared → Prop} {s : Shared}
structure IsMap (h : Heap) (e tp it l : Addr) (f : Value) (i : Nat) : Prop where
  m : h.get? e = some (mapObj tp f)
  t : h.get? tp = some (oneTup it)
  i : h.IsListIter it l i
theorem call_map {l : Addr} {items : Array Value} {f : Value} {Q : Value → Shared → Prop} (hL : s.heap.IsList l items)
    (h : ∀ h', IsMap h' (s.heap.objs.size + 2) (s.heap.objs.size + 1) s.heap.objs.size l f 0 → h'.objs.size = s.heap.objs.size + 3 →
      (∀ b o, s.heap.get? b = some o → h'.get? b = some o) → Q (.ref (s.heap.objs.size + 2)) { s with heap := h' }) :
    wpAny (model prog w) A (call (.type "map") [f, .ref l]) Q E s := by
  obtain ⟨⟨c, dct, dt, sl⟩, hl, hc, n, hd⟩ := hL
  replace hc : c = .type "list" := hc
  replace hd : dt = .seq items n := hd
  subst hc hd
  refine callType_new called_map (by decide) (typeCall_map_2 _ _) (newCall_map_2 _ _) (fun obj => args_init3 obj _ _) entry_map_new
    (meets_map_new f l items n dct sl) ⟨hl, ?_⟩
  have hz1 : (s.heap.push { cls := .type "list_iterator", data := .fields #[.ref l, .int 0 0] }).objs.size = s.heap.objs.size + 1 := Heap.size_push ..
  have hz2 : ((s.heap.push { cls := .type "list_iterator", data := .fields #[.ref l, .int 0 0] }).push (oneTup s.heap.objs.size)).objs.size = s.heap.objs.size + 2 := by rw [Heap.size_push, hz1]
  have h3 := Heap.get?_push_size ((s.heap.push { cls := .type "list_iterator", data := .fields #[.ref l, .int 0 0] }).push (oneTup s.heap.objs.size)) (o := mapObj (s.heap.objs.size + 1) f) rfl
  rw [hz2] at h3
  have h2 := Heap.get?_push_size (s.heap.push { cls := .type "list_iterator", data := .fields #[.ref l, .int 0 0] }) (o := oneTup s.heap.objs.size) rfl
  rw [hz1] at h2
  refine ⟨⟨_, h3, rfl⟩, h _ ⟨h3, Heap.get?_push_of_some _ h2, ⟨_, Heap.get?_push_of_some _ (Heap.get?_push_of_some _ (Heap.get?_push_size _ rfl)), rfl, rfl⟩⟩ (by rw [Heap.size_push, hz2]) fun b o x => Heap.get?_push_of_some _ (Heap.get?_push_of_some _ (Heap.get?_push_of_some _ x))⟩
theorem map_next_item {e tp it l : Addr} {f : Value} {i : Nat} {items : Array Value} {x : Value} {Q : Value → Shared → Prop}
    (he : IsMap s.heap e tp it l f i) (hl : s.heap.IsList l items) (hx : items[i]? = some x) (h1 : e ≠ it) (h2 : tp ≠ it)
    (hf : ∀ h', IsMap h' e tp it l f (i + 1) → Heap.SameBut it s.heap h' → wpAny (model prog w) A (call f [x]) Q E { s with heap := h' }) :
    wpAny (model prog w) A (Builtin.«map.__next__» ⟨[.ref e], []⟩) (fun fin s' => ∃ v, fin = .done (.ret v) ∧ Q v s') E s := by
  show wpAny _ _ (field (.ref e) 0 >>= _) _ _ _
  refine wpAny_bind (wpAny_field he.m rfl (x := .ref tp) rfl ?_)
  refine wpAny_bind (wpAny_seqItems he.t rfl ?_)
  simp only [List.forIn_toArray, List.forIn_cons, List.forIn_nil]
  refine wpAny_bind (wpAny_bind (wpAny_bind (wpAny_holding (wpAny_nextOf_list_item he.i hl hx fun h' hit hs => ?_))))
  have hm : IsMap h' e tp it l f (i + 1) := ⟨(hs.2 e h1).trans he.m, (hs.2 tp h2).trans he.t, hit⟩
  refine wpAny_pure (wpAny_pure ?_)
  refine wpAny_bind (wpAny_field hm.m rfl (x := f) rfl ?_)
  refine wpAny_bind (wpAny_holding (wpAny_mono (hf h' hm hs) (fun v s' hq => ?_) fun _ _ z => z))
  exact wpAny_bind (wpAny_letGo (wpAny_pure ⟨v, rfl, hq⟩))
theorem pyNext_map_item {e tp it l : Addr} {f : Value} {i : Nat} {items : Array Value} {x : Value} {Q : Option Value → Shared → Prop}
    (he : IsMap s.heap e tp it l f i) (hl : s.heap.IsList l items) (hx : items[i]? = some x) (h1 : e ≠ it) (h2 : tp ≠ it)
    (hf : ∀ h', IsMap h' e tp it l f (i + 1) → Heap.SameBut it s.heap h' → wpAny (model prog w) A.in1 (call f [x]) (fun v s' => Q (some v) s') (fun _ _ => False) { s with heap := h' }) :
    wpAny (model prog w) A (pyNext (.ref e)) Q E s := by
  have hT : s.TypeIs (.ref e) "map" := ⟨_, he.m, rfl⟩
  unfold pyNext
  refine wpAny_bind (wpAny_attempt (wpAny_callSpecial?_slot (name := Str.ofString "__next__") hT slot_map_next
    (wpAny_call_entry slot_map_next hT entry_map_next (map_next_item he hl hx h1 h2 fun h' a b => wpAny_mono (hf h' a b) (fun v s' hq => wpAny_pure hq) fun _ _ z => z.elim) (args_map_next_1 _))))
theorem pyNext_map_end {e tp it l : Addr} {f : Value} {i : Nat} {items : Array Value} {Q : Option Value → Shared → Prop} (hh : A.handled = none)
    (he : IsMap s.heap e tp it l f i) (hl : s.heap.IsList l items) (hx : items[i]? = none)
    (hQ : ∀ h', Heap.ExtBut it s.heap h' → Q none { s with heap := h' }) : wpAny (model prog w) A (pyNext (.ref e)) Q E s := by
  have hT : s.TypeIs (.ref e) "map" := ⟨_, he.m, rfl⟩
  unfold pyNext
  refine wpAny_bind (wpAny_attempt (wpAny_callSpecial?_slot (name := Str.ofString "__next__") hT slot_map_next
    (wpAny_call_entry slot_map_next hT entry_map_next ?_ (args_map_next_1 _))))
  show wpAny _ _ (field (.ref e) 0 >>= _) _ _ _
  refine wpAny_bind (wpAny_field he.m rfl (x := .ref tp) rfl ?_)
  refine wpAny_bind (wpAny_seqItems he.t rfl ?_)
  simp only [List.forIn_toArray, List.forIn_cons, List.forIn_nil]
  refine wpAny_bind (wpAny_bind (wpAny_bind (wpAny_holding (wpAny_nextOf_list_end hh he.i hl hx fun h' x he' hx' => ?_))))
  obtain ⟨o, ho, hc⟩ := hx'
  refine wpAny_bind (wpAny_isInstance (T := "StopIteration") (b := true) ⟨o, ho, hc⟩ isSubtype_stop ?_)
  exact wpAny_pure (hQ _ he')
theorem pyIter_map {e tp it l : Addr} {f : Value} {i : Nat} {Q : Value → Shared → Prop} (he : IsMap s.heap e tp it l f i) (h : Q (.ref e) s) : wpAny (model prog w) A (pyIter (.ref e)) Q E s := by
  have hT : s.TypeIs (.ref e) "map" := ⟨_, he.m, rfl⟩
  refine wpAny_pyIter_slot hT slot_map_iter (wpAny_call_entry slot_map_iter hT entry_map_iter ?_ (args_map_iter_1 _))
  show wpAny _ _ (ret (.ref e)) _ _ s
  exact wpAny_pure ⟨_, rfl, "map", _, hT, slot_map_next.lookup, h⟩
noncomputable def StrsIn (items : Array Value) (xs : List Str) : Prop := items.size = xs.length ∧ ∀ (i : Nat) (x : Str), xs[i]? = some x → ∃ t, items[i]? = some (Value.str x t)
theorem walks_map {prog : Program} {w : World} {A : Around} (hh : A.handled = none) {e tp it l : Addr} (h1 : e ≠ it) (h2 : tp ≠ it) (h3 : l ≠ it) {items : Array Value} {xs : List Str} (hx : StrsIn items xs) (hz : ∀ x ∈ xs, x.length ≤ sizeLine) :
    Walks prog w A (e) [e, tp, it, l] [it] xs.length (fun i v => ∃ x t, xs[i]? = some x ∧ v = Value.str (Txt.strip x) t) (fun i h => IsMap h e tp it l (.builtin "str.strip") i ∧ h.IsList l items) where
  sub := fun b hb => by simp at hb ⊢; exact .inr (.inr (.inl hb))
  frame := fun i h h' hs k => ⟨⟨k e (by simp) _ hs.1.m, k tp (by simp) _ hs.1.t, let ⟨o, a, b⟩ := hs.1.i; ⟨o, k it (by simp) _ a, b⟩⟩, let ⟨o, a, b⟩ := hs.2; ⟨o, k l (by simp) _ a, b⟩⟩
  item := fun i s Q E hi hs hQ => by
    have hxi : xs[i]? = some xs[i] := List.getElem?_eq_getElem hi
    obtain ⟨t, ht⟩ := hx.2 i _ hxi
    refine pyNext_map_item hs.1 hs.2 ht h1 h2 fun h' hm hsb => ?_
    refine SCL.strip (hsz := hz _ (List.getElem_mem hi)) fun t' k => ?_
    intros
    exact hQ _ h' k ⟨_, t', hxi, rfl⟩ ⟨hm, let ⟨o, a, b⟩ := hs.2; ⟨o, (hsb.2 l h3).trans a, b⟩⟩ fun b o hb e => (hsb.2 b (by simpa using hb)).trans e
  done := fun s Q E hs hQ => by
    refine pyNext_map_end hh hs.1 hs.2 (i := xs.length) (Array.getElem?_eq_none (Nat.le_of_eq hx.1)) fun h' he => ?_
    exact hQ h' s.toks fun b o hb e => he b o (by simpa using hb) e
  self := fun i s Q E hs hQ => pyIter_map hs.1 hQ
theorem map_no_len : typeLookup (.type "map") "__len__" = pure none := by rw [typeLookup_type, builtinLookup_eq_fast]; kernel_rfl
theorem map_no_hint : typeLookup (.type "map") "__length_hint__" = pure none := by rw [typeLookup_type, builtinLookup_eq_fast]; kernel_rfl
section
variable {prog : Program} {w : World} {A : Around} {E : Value → Shared → Prop} {s : Shared} {I : Addr} {fp wr : List Addr} {G : Array GenState → Array GenState → Prop} {n : Nat} {P : Nat → Value → Prop} {St : Nat → Shared → Prop}
theorem collect_map {Q : List Value → Shared → Prop} (W : WalksS prog w A.in1 I fp wr G n P St) (hT : ∀ i s, St i s → s.TypeIs (.ref I) "map") (hst : St 0 s) (hfp : ∀ b ∈ fp, b < s.heap.objs.size) (hI : I ∈ fp)
    (hQ : ∀ s' acc, Moved wr G s s' → ItemsOf P acc n → Q acc.toList s') (hn : n ≤ sizeLine := by size_fits) : wpAny (model prog w) A (collect (.ref I)) Q E s := by
  have hSf : s.heap.objs.size ∉ fp := fun hm => Nat.lt_irrefl _ (hfp _ hm)
  have hSI : s.heap.objs.size ≠ I := fun e => hSf (e ▸ hI)
  unfold collect
  refine wpAny_bind (wpAny_runValue (codeAny_builtin F.entry_proto_collect ?_))
  rw [Around.under_plainId F.plain_proto_collect _]
  show wpAny _ A.in1 (newList [] >>= fun l => again (.builtin "list.__iadd__" ⟨[l, .ref I], []⟩)) _ _ s
  refine wpAny_bind (wpAny_newObj_type ?_)
  refine wpAny_pure ⟨plainId_quiet F.plain_list_iadd _, codeAny_builtin F.entry_list_iadd ?_⟩
  rw [Around.under_plainId F.plain_list_iadd _]
  have hst₁ := W.frame 0 s (s.heap.push { cls := .type "list", data := .seq ([] : List Value).toArray }) s.toks hst (Nat.le_refl _) fun b _ o e => Heap.get?_push_of_some _ e
  show wpAny _ A.in1 (Builtin.List.listExtendWith (.ref s.heap.objs.size) (.ref I) (.ref s.heap.objs.size)) _ _ _
  unfold Builtin.List.listExtendWith
  refine wpAny_bind (wpAny_typeOf (hT 0 _ hst₁) ?_)
  have h1 : Builtin.List.listSameRef (.ref s.heap.objs.size) (.ref I) = false := by simp [Builtin.List.listSameRef, hSI]
  have h2 : (Value.type "map" == Value.type "list") = false := by decide
  have h3 : (Value.type "map" == Value.type "tuple") = false := by decide
  simp only [h1, h2, h3, Bool.or_false, Bool.false_eq_true, if_false]
  refine wpAny_bind (W.self 0 _ _ _ hst₁ ?_)
  refine wpAny_bind (wpAny_holding ?_)
  unfold Builtin.List.listLengthHint
  refine wpAny_bind (wpAny_specialOf (hT 0 _ hst₁) map_no_len ?_)
  show wpAny _ A.in1 (specialOf (Value.ref I) (Str.ofString "__length_hint__") >>= _) _ _ _
  refine wpAny_bind (wpAny_specialOf (hT 0 _ hst₁) map_no_hint ?_)
  refine wpAny_pure ?_
  show wpAny _ A.in1 (rule "list.extend.makes-room" >>= fun _ => Builtin.List.listTouch (.ref s.heap.objs.size) >>= fun _ =>
    again (.builtin "list.extend.loop" ⟨[.ref s.heap.objs.size, .ref I, .ref s.heap.objs.size], []⟩)) _ _ _
  refine wpAny_bind (wpAny_rule ?_)
  have hS₁ : (s.heap.push { cls := .type "list", data := .seq ([] : List Value).toArray }).get? s.heap.objs.size = some { cls := .type "list", data := .seq ([] : List Value).toArray } := Heap.get?_push_size _ rfl
  refine wpAny_bind ?_
  show wpAny _ A.in1 (updateSeq s.heap.objs.size (·.push .none) >>= fun _ => updateSeq s.heap.objs.size (·.pop)) _ _ _
  refine wpAny_bind (wpAny_updateSeq hS₁ rfl ?_)
  have hS₂ := Heap.get?_update_self (Obj.mapSeq (·.push Value.none)) hS₁ rfl
  refine wpAny_updateSeq hS₂ rfl ?_
  have hS₃ := Heap.get?_update_self (Obj.mapSeq (·.pop)) hS₂ rfl
  have oth : ∀ b o, b ≠ s.heap.objs.size → (s.heap.push { cls := .type "list", data := .seq ([] : List Value).toArray }).get? b = some o →
      (((s.heap.push { cls := .type "list", data := .seq ([] : List Value).toArray }).update s.heap.objs.size (Obj.mapSeq (·.push Value.none))).update s.heap.objs.size (Obj.mapSeq (·.pop))).get? b = some o :=
    fun b o hb e => (Heap.get?_update_other _ _ (Ne.symm hb)).trans ((Heap.get?_update_other _ _ (Ne.symm hb)).trans e)
  refine wpAny_pure ⟨plainId_quiet F.plain_extend_loop _, codeAny_extend_loopS W hn _ hSf _ n 0 _ _ _ rfl (Nat.zero_le _)
    (W.frame 0 ({ s with heap := s.heap.push { cls := .type "list", data := .seq ([] : List Value).toArray } } : Shared) _ s.toks hst₁ (Nat.le_refl _) fun b hb o e => oth b o (fun h => hSf (h ▸ hb)) e) hS₃ (ItemsOf.nil P) fun s' acc' c' hm hS' hacc => ?_⟩
  show wpAny _ A (load s.heap.objs.size >>= _) _ _ s'
  refine wpAny_bind (wpAny_load hS' ?_)
  refine wpAny_pure (hQ s' acc' (Moved.drop_new (o := { cls := .type "list", data := .seq ([] : List Value).toArray }) (tk := s.toks) (Moved.trans W.gtrans ((Moved.refl W.grefl).then_heap (by first | exact Nat.le_refl _ | exact Nat.le_succ _ | omega) fun b o hb e => ?_) hm) (Nat.le_refl _)) hacc)
  exact oth b o (fun h => hb (h ▸ List.mem_cons_self)) e
end
end
end
section
section
variable {w : World} {h : Heap}
theorem lk_made (X : (KK w.params).In h) : Looks (model PR w) h (Bind.madeBy (.ref 203)) none := Looks.of_peek X (by kernel_rfl)
theorem lk_here (X : (KK w.params).In h) : Looks (model PR w) h (Bind.madeHere "tuple.__new__" (.ref 203)) () := Looks.of_peek X (by kernel_rfl)
theorem lk_init (X : (KK w.params).In h) : Looks (model PR w) h (typeLookup (.ref 203) "__init__") (some (.builtin "object.__init__")) := Looks.of_peek X (by kernel_rfl)
theorem lk_isType (X : (KK w.params).In h) : Looks (model PR w) h (isType (.ref 203)) true := Looks.of_peek X (by kernel_rfl)
theorem lk_sub (X : (KK w.params).In h) : Looks (model PR w) h (isSubtype (.ref 203) (.type "tuple")) true := Looks.of_peek X (by kernel_rfl)
theorem lk_self (X : (KK w.params).In h) : Looks (model PR w) h (isSubtype (.ref 203) (.ref 203)) true := Looks.of_peek X (by kernel_rfl)
theorem lk_obj (X : (KK w.params).In h) : Looks (model PR w) h (isSubtype (.ref 203) (.type "object")) true := Looks.of_peek X (by kernel_rfl)
theorem lk_chk (X : (KK w.params).In h) (t : Addr) : Looks (model PR w) h (checkBuiltinCall "tuple.__new__" ⟨[.ref 203, .ref t], []⟩) () := Looks.of_peek X (by kernel_rfl)
theorem lk_call (X : (KK w.params).In h) : Looks (model PR w) h (specialOf (.ref 203) "__call__") (some (.builtin "type.__call__")) := Looks.of_peek X (by kernel_rfl)
theorem lk_chkc (X : (KK w.params).In h) (a b : Value) : Looks (model PR w) h (checkBuiltinCall "type.__call__" ⟨[.ref 203, a, b], []⟩) () := Looks.of_peek X (by kernel_rfl)
theorem lk_del (X : (KK w.params).In h) : Looks (model PR w) h (classHasDel 203) false := Looks.of_peek X (by kernel_rfl)
end
noncomputable def Fresh (h h' : Heap) (x : Addr) : Prop := h.get? x = none ∧ ∀ c dx d sl, h'.get? x = some ⟨c, some dx, d, sl⟩ → h.get? dx = none
theorem none_of_ext {h h₁ : Heap} {x : Addr} (e : Ext h h₁) (n : h₁.get? x = none) : h.get? x = none := by
  cases hn : h.get? x with
  | none => rfl
  | some o => rw [e _ _ hn] at n; cases n
theorem Fresh.mono {h h₁ h' : Heap} {x : Addr} (e : Ext h h₁) (n : Fresh h₁ h' x) : Fresh h h' x := ⟨none_of_ext e n.1, fun c dx d sl q => none_of_ext e (n.2 c dx d sl q)⟩
theorem none_of_le {h h' : Heap} {x : Addr} (e : Ext h h') (l : h'.objs.size ≤ x) : h.get? x = none := by
  cases hn : h.get? x with
  | none => rfl
  | some o => exact absurd (Heap.lt_size (e _ _ hn)) (Nat.not_lt.mpr l)
section
variable {w : World} {A : Around} {E : Value → Shared → Prop} {s : Shared}
theorem tuple_new {t : Addr} {a b : Value} {Q : Value → Shared → Prop} (X : (KK w.params).In s.heap) (ht : s.heap.IsTuple t #[a, b])
    (hQ : ∀ h' x, Ext s.heap h' → Fresh s.heap h' x → IsPair h' x a b → Q (.ref x) { s with heap := h' }) :
    wpAny (model PR w) A (call (.builtin "tuple.__new__") [.ref 203, .ref t]) Q E s := by
  have L1 := lk_isType X
  have L2 := lk_sub X
  have L3 := lk_here X
  have L4 := lk_init X
  have L5 := lk_del X
  refine wpAny_call (codeAny_call_builtin PySem.F.plain_tuple_new PySem.F.entry_tuple_new ((lk_chk X t).here ?_))
  obtain ⟨o, ho, hc, n, hd⟩ := ht
  obtain ⟨hh, g, d, tk, os⟩ := s
  dsimp only at L1 L2 L3 L4 L5 ho X hQ
  unfold Builtin.«tuple.__new__»
  repeat (first | (refine wpAny_collect_seq t (.inr rfl) ho hc hd (fun h' hk => ?_) (by show (2 : Nat) ≤ sizeLine; decide)) | lk)
  have e203 : ((h'.push { cls := .type "dict", data := .dict #[] }).push { cls := .ref 203, dict := some h'.objs.size, data := .seq #[a, b] }).get? 203 = some (o_203 w.params) :=
    Heap.get?_push_of_some _ (Heap.get?_push_of_some _ (hk _ _ (X 203 _ (by kernel_rfl))))
  refine wpAny_load e203 ?_
  refine wpAny_pure (wpAny_pure (wpAny_pure ?_))
  have hz1 : (h'.push { cls := .type "dict", data := .dict #[] }).objs.size = h'.objs.size + 1 := Heap.size_push ..
  have e1 := Heap.get?_push_size (h'.push { cls := .type "dict", data := .dict #[] }) (o := { cls := .ref 203, dict := some h'.objs.size, data := .seq #[a, b] }) rfl
  refine hQ _ _ (fun c o e => Heap.get?_push_of_some _ (Heap.get?_push_of_some _ (hk _ _ e))) ?_ ⟨h'.objs.size, _, 0, #[], e1, Heap.get?_push_of_some _ (Heap.get?_push_size _ rfl), [], 0, rfl⟩
  refine ⟨none_of_le hk (by rw [hz1]; exact Nat.le_succ _), fun c dx d sl q => ?_⟩
  have q' := e1.symm.trans q
  cases q'
  exact none_of_le hk (Nat.le_refl _)
end
local macro_rules | `(tactic| walk_at "getMethod type:tuple") => `(tactic| (k_here; refine' method_type ?F ?X ?m (by decide +kernel) ?e ?h ?_; (case F => k_asm); (case X => k_asm); (case m => exact meta_tuple); (case e => k_dflt k_is); (case h => k_handed)))
set_option maxHeartbeats 8000000 in
theorem spec_pnew : ∀ {w : World} {mg mb : Str → Option Value} {p : Program} {loose : List Str} {A : Around} {s : Shared} {Q : Value → Shared → Prop} {E : Value → Shared → Prop} (X : (KK w.params).In s.heap) (T : TopRead p loose mg mb s.heap) (hroom : A.depth + 10 < recursionLimit)
  (a b : Str) (ta tb : Tok) (hQ : ∀ h' x tk, Ext s.heap h' → Fresh s.heap h' x → IsPair h' x (.str a ta) (.str b tb) → Q (.ref x) ⟨h', s.gens, s.drawn, tk, s.os⟩),
  wpAny (model PySem.Challenge.rw_in0022_01.row.toRowW.prog w) A (call (.ref 130) [.ref 203, .str a ta, .str b tb]) Q E s := by
  k_fill
  intro w mg mb p loose A s Q E X T hroom a b ta tb hQ
  refine wpAny_call (enterP X T (by k_is) (by k_is) (by omega) (BindsTo.of_eq rfl) (locs rfl) (fun h₁ L' hL F N => ?_) rfl rfl rfl (by decide))
  (try dsimp only)
  k_steps
  all_goals refine tuple_new (by k_in) ⟨_, News.get (by assumption) (List.mem_cons_self ..), rfl, _, rfl⟩ fun h' x k n hp => hQ _ _ _ (fun b o e => k _ _ (Fr.keep (by assumption) b o e)) ?_ hp
  all_goals exact Fresh.mono (fun b o e => Fr.keep (by assumption) b o e) n
end
section
theorem pair_call {w : World} {mg mb : Str → Option Value} {p : Program} {loose : List Str} {A : Around} {s : Shared} {Q : Value → Shared → Prop} {E : Value → Shared → Prop} (X : (KK w.params).In s.heap) (T : TopRead p loose mg mb s.heap) (hroom : A.depth + 20 < recursionLimit)
  (a b : Str) (ta tb : Tok) (hQ : ∀ h' x tk, Ext s.heap h' → Fresh s.heap h' x → IsPair h' x (.str a ta) (.str b tb) → Q (.ref x) ⟨h', s.gens, s.drawn, tk, s.os⟩) :
  wpAny (model PR w) A (call (.ref 203) [.str a ta, .str b tb]) Q E s := by
  have e203 := X 203 (o_203 w.params) (by kernel_rfl)
  have L1 := lk_call X
  have L2 := lk_made X
  have hr : readsIn (KK w.params) 203 (.type "type") = true := by kernel_rfl
  have hn : findCls (KK w.params) (.ref 203) (.type "type") "__new__" = some (.get (.builtin "staticmethod.__get__") (.ref 181) .none (.ref 203)) := by kernel_rfl
  have hp : recIn (KK w.params) 181 "staticmethod" = some [.ref 130] := by kernel_rfl
  obtain ⟨hh, g, d, tk, os⟩ := s
  dsimp only at e203 L1 L2 X T hQ
  refine wpAny_call (codeAny_of_tree ?_)
  show wpAny _ _ (callAny (.ref 203) _) _ _ _
  refine nd_load e203 ?_
  show wpAny _ _ (callAny.viaDunder (.ref 203) _) _ _ _
  unfold callAny.viaDunder
  refine wpAny_bind (L1.at ?_)
  dsimp only
  rw [tc_bind]
  refine wpAny_bind (wpAny_pure (wpAny_bind (wpAny_pure ?_)))
  refine wpAny_pure (a := Fin.again (.call (.builtin "type.__call__") ⟨.ref 203 :: [.str a ta, .str b tb], []⟩)) (And.intro rfl ?_)
  refine codeAny_call_builtin_at (Code.quiet_builtin _ (by decide +kernel)) entry_typeCall ((lk_chkc X _ _).here ?_)
  unfold Builtin.«type.__call__»
  have hm : Looks (model PR w) hh (mroOf (.ref 203)) [.ref 203, .ref 180, .type "tuple", .type "object"] := Looks.of_peek X (by kernel_rfl)
  repeat (first | (with_reducible refine wpAny_bind (cls_bind X hr hn (wpAny_call (sm_get X hp (handed_on rfl ?_))))) | (refine spec_pnew X T ?room a b ta tb (fun h' x k e n p => ?_)) | lk)
  case room =>
    have hw : (Code.builtin "type.__call__" ⟨[.ref 203, .str a ta, .str b tb], []⟩).weight = 1 := rfl
    simp only [Around.under]
    omega
  have X' := X.keeps e
  obtain ⟨ox, od, I⟩ := p.inst
  have t1 := I.type (M := model PR w)
  have s1 := lk_self X'
  have i1 := lk_init X'
  have m1 := lk_made X'
  have b1 : Looks (model PR w) h' (bindSpecial (.builtin "object.__init__") (.ref x)) (.builtin "object.__init__", [.ref x]) := Looks.of_pure (oi_bind _)
  unfold isInstance callSpecial? specialOf
  repeat (first | (refine call_slot (.inl oi_kind) oi_split oi_plain entry_oi (args_init3 _ _ _) t1 (lk_obj X') ?_) | lk)
  exact hQ _ _ _ e n p
end
section
open PySem PySem.W PySem.Calls PyProof.Rows Builtin.Str
theorem eqSign : Str.ofString "=" = ofL [61] := by kernel_rfl
section
variable {w : World} {A : Around} {E : Value → Shared → Prop} {s : Shared} {h₀ : Heap} {L : Addr} {m : Str → Option Value} {news : List (Addr × Obj)}
theorem split_eq {P R : List Nat} {t u v : Tok} {Q : Value → Shared → Prop} (F : Fr h₀ L s.heap m) (N : News h₀ L s.heap news) (hc : 61 ∉ P) (hl : (P ++ 61 :: R).length ≤ 1000)
    (h : ∀ D t1 t2 h' k, Fr h₀ L h' m → News h₀ L h' ((D, listOf #[.str (ofL P) t1, .str (ofL R) t2] 0) :: news) → (∀ p ∈ news, p.1 < D) → Q (.ref D) { s with heap := h', toks := k }) :
    wpAny (model PR w) A (call (.builtin "str.split") [.str (ofL (P ++ 61 :: R)) t, .str "=" u, .int 1 v]) Q E s := by
  rw [eqSign]
  have ho := occ_one P R 61 hc
  have hp := parts_one P R 61
  have hlen : (ofL (P ++ 61 :: R)).length = (P ++ 61 :: R).length := length_ofL _
  have hlim : limitOf (ofL (P ++ 61 :: R)) 1 = 1 := rfl
  have h1 : (ofL [61]).length = 1 := rfl
  have hk : ∀ x : Str, 1 ≤ Builtin.Str.strKind x := fun x => by unfold Builtin.Str.strKind; split <;> (try split) <;> decide
  have hz : (ofL (P ++ 61 :: R)).length ≤ sizeLine := by rw [hlen, sizeLine_eq]; omega
  refine call_meets PySem.F.slot_str_split (typeIs_str _ _ _) PySem.F.entry_str_split (PySem.F.args_str_split_3 _ _ _) (meets_str_split_sep_max _ _ 1 _ _ _ (by decide) ?k rfl ?o hz ?sz2) ?_
  case k =>
    have hk2 : Builtin.Str.strKind (ofL [61]) = 1 := by kernel_rfl
    rw [hk2, h1, hlen, Bool.or_eq_false_iff, decide_eq_false_iff_not, decide_eq_false_iff_not]
    have := hk (ofL (P ++ 61 :: R))
    refine ⟨by simp, by omega⟩
  case o => rw [hlim, ho]; rfl
  case sz2 => rw [hlim, ho, h1, hp]; show (2 : Nat) ≤ sizeLine; decide
  rw [hlim, ho, h1, hp]
  exact h s.heap.objs.size s.toks (s.toks + 1) _ _ (F.push _) (N.push F _) fun p hp => Heap.lt_size (N p hp).1
theorem map_K {f : Value} {D : Addr} {its : Array Value} {Q : Value → Shared → Prop} (F : Fr h₀ L s.heap m) (N : News h₀ L s.heap news) (mem : (D, W.listOf its 0) ∈ news)
    (h : ∀ e tp it h', Fr h₀ L h' m → News h₀ L h' news → IsMap h' e tp it D f 0 → L < it → D < it → it < tp → tp < e → (∀ p ∈ news, p.1 < it) → e < h'.objs.size → Q (.ref e) { s with heap := h' }) :
    wpAny (model PR w) A (call (.type "map") [f, .ref D]) Q E s := by
  have hD := (N _ mem).1
  refine call_map ⟨_, hD, rfl, _, rfl⟩ fun h' hm hz hk => ?_
  exact h _ _ _ h' (F.keptAll hk) (fun p hp => ⟨hk _ _ (N p hp).1, (N p hp).2⟩) hm F.ns.lt (Heap.lt_size hD) (Nat.lt_succ_self _) (Nat.lt_succ_self _) (fun p hp => Heap.lt_size (N p hp).1) (by rw [hz]; exact Nat.lt_succ_self _)
theorem map_iterable : typeLookup (.type "map") "__iter__" = pure (some (.builtin "map.__iter__")) := slot_map_iter.lookup
theorem star_map {D e tp it : Addr} {x y : Str} {t1 t2 : Tok} {Q : List Value → Shared → Prop} (F : Fr h₀ L s.heap m) (N : News h₀ L s.heap news) (hh : A.handled = none) (mem : (D, W.listOf #[.str x t1, .str y t2] 0) ∈ news)
    (hm : IsMap s.heap e tp it D (.builtin "str.strip") 0) (hL : L < it) (hD : D < it) (h1 : it < tp) (h2 : tp < e) (hn : ∀ p ∈ news, p.1 < it) (he : e < s.heap.objs.size) (hx : x.length ≤ sizeLine) (hy : y.length ≤ sizeLine)
    (h : ∀ h' k u1 u2, Fr h₀ L h' m → News h₀ L h' news → Q [.str (Txt.strip x) u1, .str (Txt.strip y) u2] { s with heap := h', toks := k }) :
    StarOf (model PR w) A E (.ref e) Q s := by
  have hl : s.heap.IsList D #[.str x t1, .str y t2] := ⟨_, (N _ mem).1, rfl, _, rfl⟩
  have hT : s.TypeIs (.ref e) "map" := ⟨_, hm.m, rfl⟩
  unfold StarOf notIterableAtAll
  refine wpAny_bind (wpAny_specialOf hT map_iterable (wpAny_pure ⟨rfl, ?_⟩))
  have W0 := walks_map (prog := PR) (w := w) (A := A.in1) hh (e := e) (tp := tp) (it := it) (l := D) (Nat.ne_of_gt (Nat.lt_trans h1 h2)) (Nat.ne_of_gt h1) (Nat.ne_of_lt hD) (items := #[.str x t1, .str y t2]) (xs := [x, y])
    ⟨rfl, fun i z hz => by
      rcases i with _ | _ | i
      · cases hz; exact ⟨t1, rfl⟩
      · cases hz; exact ⟨t2, rfl⟩
      · cases hz⟩ (fun z hz => by rcases List.mem_cons.mp hz with rfl | hz; exact hx; rcases List.mem_cons.mp hz with rfl | hz; exact hy; cases hz)
  refine collect_map W0.toS (fun i s hs => ⟨_, hs.1.m, rfl⟩) ⟨hm, hl⟩ (fun b hb => by
    simp only [List.mem_cons, List.mem_nil_iff, or_false] at hb
    rcases hb with rfl | rfl | rfl | rfl
    · exact he
    · exact Heap.lt_size hm.t
    · obtain ⟨o, ho, _⟩ := hm.i; exact Heap.lt_size ho
    · exact Heap.lt_size (N _ mem).1) (by simp) (fun s' acc mv hi => ?_)
  obtain ⟨h', g', d', k', os'⟩ := s'
  obtain ⟨mh, mg, md, mo, mt⟩ := mv
  dsimp only at mh mg md mo mt
  subst mg md mo
  have hz : acc.size = 2 := hi.1
  have ha : acc.toList = [acc[0], acc[1]] := by
    apply List.ext_getElem
    · simp [hz]
    · intro i a b
      simp at b
      rcases i with _ | _ | i
      · simp
      · simp
      · omega
  obtain ⟨x0, u1, e0, v0⟩ := hi.2 0 acc[0] (by simp)
  obtain ⟨x1, u2, e1, v1⟩ := hi.2 1 acc[1] (by simp)
  cases e0
  cases e1
  rw [ha, v0, v1]
  have out : ∀ b o, b ≠ it → s.heap.get? b = some o → h'.get? b = some o := fun b o hb => mh b o (by simpa using hb)
  refine h h' k' u1 u2 ?_ fun p hp => ⟨out _ _ (Nat.ne_of_lt (hn p hp)) (N p hp).1, (N p hp).2⟩
  obtain ⟨oL, es, ep, a1, r⟩ := F.ns
  exact ⟨⟨oL, es, ep, out _ _ (Nat.ne_of_lt hL) a1, r⟩, fun b o hb => out b o (Nat.ne_of_lt (Nat.lt_of_lt_of_le (Heap.lt_size hb) (Nat.le_trans F.above (Nat.le_of_lt hL)))) (F.keep b o hb), F.above⟩
end
end
section
local macro_rules | `(tactic| walk_at "getAttr type:str") => `(tactic| (k_here; refine' attr_type ?X meta_str (by decide +kernel) ?e ?h ?_; (case X => k_in); (case e => k_dflt k_is); (case h => k_handed)))
local macro_rules | `(tactic| walk_at "call builtin:str.split") => `(tactic| (k_here; refine split_eq (by k_asm) (by k_asm) (by assumption) (by assumption) ?_; intro D' t1' t2' h' k' F' N' l1; (try k_lt l1); (try k_sweep)))
local macro_rules | `(tactic| walk_at "call type:map") => `(tactic| (k_here; refine map_K (by k_asm) (by k_asm) (List.mem_cons_self ..) ?_; intro e' tp' it' h' F' N' hm' l1 l2 l3 l4 l5 l6))
local macro_rules | `(tactic| walk_at "StarOf ref") => `(tactic| (k_here; refine star_map (by k_asm) (by k_asm) (by assumption) (List.mem_cons_self ..) (by assumption) (by assumption) (by assumption) (by assumption) (by assumption) (by assumption) (by assumption) (by assumption) (by assumption) ?_; intro h' k' u1 u2 F' N'))
set_option maxHeartbeats 8000000 in
theorem spec_parse_c : ∀ {w : World} {mg mb : Str → Option Value} {p : Program} {loose : List Str} {A : Around} {s : Shared} {R' : Result → Shared → Prop} (X : (KK w.params).In s.heap) (T : TopRead p loose mg mb s.heap) (hroom : A.depth + 40 < recursionLimit) (hh : A.handled = none)
  (P R : List Nat) (tc : Tok) (hc : 61 ∉ P) (hl : (P ++ 61 :: R).length ≤ 1000) (hp : (ofL P).length ≤ sizeLine) (hr : (ofL R).length ≤ sizeLine)
  (hQ : ∀ h' x tk ta tb, Ext s.heap h' → Fresh s.heap h' x → IsPair h' x (.str (Txt.strip (ofL P)) ta) (.str (Txt.strip (ofL R)) tb) → R' (.ok (.ret (.ref x))) ⟨h', s.gens, s.drawn, tk, s.os⟩),
  codeAny (model PySem.Challenge.rw_in0022_01.row.toRowW.prog w) A (.call (.ref 197) ⟨[.ref 203, .str (ofL (P ++ 61 :: R)) tc], []⟩) R' s := by
  k_fill
  intro w mg mb p loose A s R' X T hroom hh P R tc hc hl hp hr hQ
  refine enterP X T (by k_is) (by k_is) (by omega) (BindsTo.of_eq rfl) (locs rfl) (fun h₁ L' hL F N => ?_) rfl rfl rfl (by decide)
  (try dsimp only)
  k_steps
  all_goals refine pair_call (by k_in) (T.keeps (Fr.keep (by assumption))) (by show A.depth + _ + 20 < recursionLimit; omega) _ _ _ _ fun h' x k e n hp => ?_
  all_goals refine hQ _ _ _ _ _ (fun b o z => e _ _ (Fr.keep (by assumption) b o z)) ?_ hp
  all_goals exact Fresh.mono (fun b o e => Fr.keep (by assumption) b o e) n
end
section
structure OwnGa (ga owner : String) : Prop where
  ne : (Value.builtin ga == Value.builtin "object.__getattribute__") = false
  kind : builtinKind ga = some .slot
  split : splitId ga = some (owner, "__getattribute__")
  plain : plainId ga = true
  entry : entryFor table ga = some Builtin.«object.__getattribute__»
  args : ∀ a b, argsOk ga ⟨[a, b], []⟩
  bind : ∀ a, bindSpecial (.builtin ga) a = pure (.builtin ga, [a])
theorem ga_tuple : OwnGa "tuple.__getattribute__" "tuple" where
  ne := by decide +kernel
  kind := by kernel_rfl
  split := by kernel_rfl
  plain := by decide +kernel
  entry := entryFor_alias (id' := "object.__getattribute__") (by kernel_rfl) (by first | rfl | decide +kernel | (unfold String.splitOn; simp +decide [String.splitOnAux])) (by decide +kernel) (by kernel_rfl)
  args := fun a b => by unfold argsOk; kernel_rfl
  bind := (Slot.of (T := "tuple") (name := "__getattribute__") (owner := "tuple") (n := "__getattribute__") (by rw [typeLookup_type, builtinLookup_eq_fast]; kernel_rfl) (by decide +kernel) (by decide +kernel) (by decide +kernel)
    (.inl (by decide +kernel)) (by rw [isSubtype_type]; kernel_rfl)).bind
theorem ga_ddict : OwnGa "collections.defaultdict.__getattribute__" "collections.defaultdict" where
  ne := by decide +kernel
  kind := by kernel_rfl
  split := by kernel_rfl
  plain := by decide +kernel
  entry := entryFor_alias (id' := "object.__getattribute__") (by kernel_rfl) (by first | rfl | decide +kernel | (unfold String.splitOn; simp +decide [String.splitOnAux])) (by decide +kernel) (by kernel_rfl)
  args := fun a b => by unfold argsOk; kernel_rfl
  bind := (Slot.of (T := "collections.defaultdict") (name := "__getattribute__") (owner := "collections.defaultdict") (n := "__getattribute__") (by rw [typeLookup_type, builtinLookup_eq_fast]; kernel_rfl) (by decide +kernel) (by decide +kernel) (by decide +kernel)
    (.inl (by decide +kernel)) (by rw [isSubtype_type]; kernel_rfl)).bind
end
section
section
variable {prog : Program} {w : World} {A : Around} {E : Value → Shared → Prop} {s : Shared} {K : Frag} {C x : Addr} {ox : Obj} {od : Option Obj} {name : Str} {ga owner : String} {expr : Bool} {Q : Value → Shared → Prop}
theorem ga_open (G : OwnGa ga owner) (X : K.In s.heap) (I : InstAt s.heap x ox C od) (hga : findIn K (.ref C) "__getattribute__" = some (some (.builtin ga))) (hsub : mroIn K C (.type owner) = some true) (hk : findIn K (.ref C) "__getattr__" = some none)
    (h : wpAny (model prog w) A.in1 (Builtin.«object.__getattribute__» ⟨[.ref x, .str name s.toks], []⟩) (fun fin s' => match fin with | .done (.ret v) => wpAny (model prog w) A (handedOut v) Q E s' | _ => False) (fun _ _ => False) { s with toks := s.toks + 1 }) :
    wpAny (model prog w) A (getAttr (.ref x) name expr) Q E s := by
  have L0 := I.type (M := model prog w)
  have L1 := looks_findIn (M := model prog w) X hga
  have L2 := looks_findIn (M := model prog w) X hk
  have L3 := looks_mroIn (M := model prog w) X hsub
  have hb : (onTheHeap (.ref C) && (Value.builtin ga == Value.builtin "object.__getattribute__")) = false := by rw [G.ne]; rfl
  obtain ⟨hh, g, d, t, os⟩ := s
  dsimp only at L0 L1 L2 L3 h
  unfold getAttr getAttrBy
  refine wpAny_bind (wpAny_mkText (wpAny_holding (wpAny_bind (L0.at (wpAny_bind (L1.at ?_))))))
  dsimp only
  rw [hb]
  simp only [Bool.false_eq_true, if_false]
  unfold getAttrByItsOwn hookBefore callGetattribute boundAndCalled
  simp only [onTheHeap, if_true, Bool.and_false, Bool.false_eq_true, if_false]
  refine wpAny_bind (L2.at ?_)
  show wpAny _ _ (Sem.attempt _ >>= _) _ _ _
  rw [G.bind]
  refine wpAny_bind (wpAny_attempt ?_)
  show wpAny _ _ (call (.builtin ga) [.ref x, .str name t]) _ _ _
  exact call_slot (.inl G.kind) G.split G.plain G.entry (G.args _ _) L0 L3 (wpAny_mono h (fun fin s' z => by rcases fin with (_ | _ | _ | _) | _ <;> first | exact z | exact z.elim) fun _ _ z => z.elim)
theorem ga_bind {g a : Value} (G : OwnGa ga owner) (X : K.In s.heap) (I : InstAt s.heap x ox C od) (hga : findIn K (.ref C) "__getattribute__" = some (some (.builtin ga))) (hsub : mroIn K C (.type owner) = some true) (hk : findIn K (.ref C) "__getattr__" = some none)
    (hf : findObj K C od name = some (.bind g a)) (h : wpAny (model prog w) A.in1 (call g [a, .ref x, .ref C]) (fun v s' => wpAny (model prog w) A (handedOut v) Q E s') (fun _ _ => False) { s with toks := s.toks + 1 }) : wpAny (model prog w) A (getAttr (.ref x) name expr) Q E s := by
  refine ga_open G X I hga hsub hk ?_
  have L0 := I.type (M := model prog w)
  have L1 := looks_find (M := model prog w) X I hf
  obtain ⟨hh', g', d, t, os⟩ := s
  show wpAny _ _ (typeOf (.ref x) >>= _) _ _ _
  refine wpAny_bind (L0.at (wpAny_bind (L1.at ?_)))
  show wpAny _ _ (holding [a] (call g [a, .ref x, .ref C]) >>= ret) _ _ _
  exact wpAny_bind (wpAny_holding (wpAny_mono h (fun v s' z => wpAny_pure z) fun _ _ z => z))
end
end
section
theorem News.ext {h₀ h h' : Heap} {L : Addr} {news : List (Addr × Obj)} (N : News h₀ L h news) (k : Ext h h') : News h₀ L h' news := fun p hp => ⟨k _ _ (N p hp).1, (N p hp).2⟩
section
variable {w : World} {A : Around} {E : Value → Shared → Prop} {s : Shared} {h₀ : Heap} {L : Addr} {m : Str → Option Value} {news : List (Addr × Obj)} {mg mb : Str → Option Value} {p : Program} {loose : List Str}
theorem b1_K {c : Str} {t : Tok} {Q : Value → Shared → Prop} (F : Fr h₀ L s.heap m) (N : News h₀ L s.heap news) (X : (KK w.params).In h₀) (T : TopRead p loose mg mb h₀) (hroom : A.depth + 10 < recursionLimit) (hc : c.length = 1)
    (h : ∀ h' tk, Fr h₀ L h' m → News h₀ L h' news → Q (.bool (inB1 (c.cps.getD 0 0 : Nat))) { s with heap := h', toks := tk }) : wpAny (model PR w) A (call (.ref 224) [.str c t]) Q E s :=
  spec_b1 (X.keeps F.keep) (T.keeps F.keep) hroom c t hc fun h' tk e => h h' tk (F.keptAll e) (News.ext N e)
theorem b3_K {c : Str} {t : Tok} {Q : Value → Shared → Prop} (F : Fr h₀ L s.heap m) (N : News h₀ L s.heap news) (X : (KK w.params).In h₀) (T : TopRead p loose mg mb h₀) (hroom : A.depth + 10 < recursionLimit) (hc : c.length = 1)
    (h : ∀ h' tk u, Fr h₀ L h' m → News h₀ L h' news → Q (.str (foldOf c) u) { s with heap := h', toks := tk }) : wpAny (model PR w) A (call (.ref 270) [.str c t]) Q E s :=
  spec_b3 (X.keeps F.keep) (T.keeps F.keep) hroom c t hc fun h' tk u e => h h' tk u (F.keptAll e) (News.ext N e)
theorem name_K {x : Addr} {a b : Str} {ta tb : Tok} {expr : Bool} {Q : Value → Shared → Prop} (F : Fr h₀ L s.heap m) (N : News h₀ L s.heap news) (X : (KK w.params).In h₀) (T : TopRead p loose mg mb h₀) (hroom : A.depth + 20 < recursionLimit) (hp : IsPair s.heap x (.str a ta) (.str b tb))
    (h : ∀ h' tk, Fr h₀ L h' m → News h₀ L h' news → IsPair h' x (.str a ta) (.str b tb) → Q (.str a ta) { s with heap := h', toks := tk }) : wpAny (model PR w) A (getAttr (.ref x) "name" expr) Q E s := by
  obtain ⟨ox, od, I⟩ := hp.inst
  refine ga_bind ga_tuple (X.keeps F.keep) I (by kernel_rfl) (by kernel_rfl) (by kernel_rfl) (g := .ref 61) (a := .ref 172) (by kernel_rfl) ?_
  refine spec_name (A := A.in1) (s := { s with toks := s.toks + 1 }) (X.keeps F.keep) (T.keeps F.keep) (by show A.depth + 10 < recursionLimit; omega) x _ _ hp fun h' tk e => ?_
  refine handed_on rfl ?_
  exact h h' tk (F.keptAll e) (News.ext N e) (hp.keeps e)
theorem value_K {x : Addr} {a b : Str} {ta tb : Tok} {expr : Bool} {Q : Value → Shared → Prop} (F : Fr h₀ L s.heap m) (N : News h₀ L s.heap news) (X : (KK w.params).In h₀) (T : TopRead p loose mg mb h₀) (hroom : A.depth + 20 < recursionLimit) (hp : IsPair s.heap x (.str a ta) (.str b tb))
    (h : ∀ h' tk, Fr h₀ L h' m → News h₀ L h' news → IsPair h' x (.str a ta) (.str b tb) → Q (.str b tb) { s with heap := h', toks := tk }) : wpAny (model PR w) A (getAttr (.ref x) "value" expr) Q E s := by
  obtain ⟨ox, od, I⟩ := hp.inst
  refine ga_bind ga_tuple (X.keeps F.keep) I (by kernel_rfl) (by kernel_rfl) (by kernel_rfl) (g := .ref 61) (a := .ref 175) (by kernel_rfl) ?_
  refine spec_value (A := A.in1) (s := { s with toks := s.toks + 1 }) (X.keeps F.keep) (T.keeps F.keep) (by show A.depth + 10 < recursionLimit; omega) x _ _ hp fun h' tk e => ?_
  refine handed_on rfl ?_
  exact h h' tk (F.keptAll e) (News.ext N e) (hp.keeps e)
noncomputable abbrev pairObj (dx : Addr) (a b : Value) (n : Nat) (sl : Array (Option Value)) : Obj := ⟨.ref 203, some dx, .seq #[a, b] n, sl⟩
theorem news_pair {h' : Heap} {x : Addr} {a b : Value} (F : Fr h₀ L s.heap m) (N : News h₀ L s.heap news) (e : Ext s.heap h') (n : Fresh s.heap h' x) (hp : IsPair h' x a b) :
    ∃ dx k sl es j, News h₀ L h' ((x, pairObj dx a b k sl) :: (dx, dictOf es j) :: news) ∧ (∀ p ∈ news, p.1 ≠ x ∧ p.1 ≠ dx) := by
  obtain ⟨dx, od, k, sl, e1, e2, es, j, rfl⟩ := hp
  have nd := n.2 _ _ _ _ e1
  obtain ⟨oL, _, _, hL, _⟩ := F.ns
  refine ⟨dx, k, sl, es, j, fun p hp => ?_, fun p hp => ⟨fun q => ?_, fun q => ?_⟩⟩
  · rcases List.mem_cons.mp hp with rfl | hp
    · exact ⟨e1, fun q => by (dsimp only at q; rw [← q, n.1] at hL; cases hL), none_of_ext F.keep n.1⟩
    rcases List.mem_cons.mp hp with rfl | hp
    · exact ⟨e2, fun q => by (dsimp only at q; rw [← q, nd] at hL; cases hL), none_of_ext F.keep nd⟩
    · exact News.ext N e p hp
  · have z := (N p hp).1; rw [q, n.1] at z; cases z
  · have z := (N p hp).1; rw [q, nd] at z; cases z
theorem News.pair {h : Heap} {x dx : Addr} {a b : Value} {k : Nat} {sl : Array (Option Value)} {es : List DictEntry} {j : Nat} (N : News h₀ L h news) (h1 : (x, pairObj dx a b k sl) ∈ news) (h2 : (dx, dictOf es j) ∈ news) : IsPair h x a b :=
  ⟨dx, _, k, sl, N.get h1, N.get h2, es, j, rfl⟩
end
end
section
section
variable {w : World} {A : Around} {s : Shared} {R : Result → Shared → Prop} {name qual : Str} {params : Arguments} {body : List Stmt} {scope : Scope} {dV kV doc pm cdv ct oc : Value} {an od : Option Addr} {osl : Array (Option Value)} {f : Addr} {args : Args} {binds : List (Str × Value)}
  {mg mb : Str → Option Value} {p : Program} {loose : List Str} {cl : List (Str × Addr)} {B : Heap} {W : List (Addr × Obj)}
theorem enterB (hB : ∀ b o, B.get? b = some o → s.heap.get? b = some o) (hz : B.objs.size ≤ s.heap.objs.size) (hW : ∀ q ∈ W, s.heap.get? q.1 = some q.2 ∧ B.get? q.1 = none) (X : (KK w.params).In B) (T : TopRead p loose mg mb B)
    (ho : (KK w.params).lookup f = some ⟨oc, od, .func (fnOf name qual params body scope dV kV doc pm an cdv ct), osl⟩) (hcd : codeIn (KK w.params) cdv qual = true) (hroom : A.depth < recursionLimit)
    (hbind : BindsTo s (fnOf name qual params body scope dV kV doc pm an cdv ct) args binds) (hloc : ∀ y ∈ binds, scope.names.lookup y.1 = some .local)
    (h : ∀ h₁ L', L' = s.heap.objs.size → Fr B L' h₁ (fun y => binds.reverse.lookup y) → News B L' h₁ W →
      wpAny (model PR w) (A.deeper (envOf qual scope L' f cdv)) (execs body (envOf qual scope L' f cdv))
        (fun fl s' => R (.ok (.ret (match fl with | .ret v => v | _ => .none))) s') (fun _ _ => False)
        { s with heap := h₁, toks := s.toks + binds.length })
    (hco : scope.isCoroutine = false) (hgen : scope.isGenerator = false) (hk : scope.kind = .function) (hcell : ∀ x ∈ scope.names, x.2 ≠ .cell) :
    codeAny (model PR w) A (.call (.ref f) args) R s :=
  enterP (X.keeps hB) (T.keeps hB) ho hcd hroom hbind hloc (fun h₁ L' hL F N => h h₁ L' hL ⟨F.ns, fun b o e => F.keep b o (hB b o e), Nat.le_trans hz F.above⟩
    (fun q hq => ⟨F.keep _ _ (hW q hq).1, Nat.ne_of_lt (Nat.lt_of_lt_of_le (Heap.lt_size (hW q hq).1) F.above), (hW q hq).2⟩)) hco hgen hk hcell
end
noncomputable def wdf (qa qm bk : Addr) (k : Str) : Option Value := if k = "asked" then some (.ref qa) else if k = "made" then some (.ref qm) else if k = "book" then some (.ref bk) else none
noncomputable abbrev bookObj (bd lf : Addr) (es : List DictEntry) (n : Nat) : Obj := ⟨.ref 108, some bd, .dict es.toArray n, #[some (.ref lf)]⟩
section
variable {w : World} {A : Around} {E : Value → Shared → Prop} {s : Shared} {h₀ : Heap} {L : Addr} {m : Str → Option Value} {wd qa qm bk : Addr} {t : Tok} {Q : Value → Shared → Prop}
theorem world_asked (F : Fr h₀ L s.heap m) (hw : h₀.MapOf (strKind PR w) wd (wdf qa qm bk)) (h : Q (.ref qa) { s with toks := s.toks + 1 }) : wpAny (model PR w) A (getItem (.ref wd) (.str "asked" t)) Q E s := by
  obtain ⟨o, es, ep, e1, r⟩ := hw
  exact wpAny_getItem_of (knd := strKind PR w) (k := "asked") (beq_self_eq_true _) ⟨o, es, ep, F.keep _ _ e1, r⟩ rfl h
theorem world_made (F : Fr h₀ L s.heap m) (hw : h₀.MapOf (strKind PR w) wd (wdf qa qm bk)) (h : Q (.ref qm) { s with toks := s.toks + 1 }) : wpAny (model PR w) A (getItem (.ref wd) (.str "made" t)) Q E s := by
  obtain ⟨o, es, ep, e1, r⟩ := hw
  exact wpAny_getItem_of (knd := strKind PR w) (k := "made") (beq_self_eq_true _) ⟨o, es, ep, F.keep _ _ e1, r⟩ rfl h
theorem world_book (F : Fr h₀ L s.heap m) (hw : h₀.MapOf (strKind PR w) wd (wdf qa qm bk)) (h : Q (.ref bk) { s with toks := s.toks + 1 }) : wpAny (model PR w) A (getItem (.ref wd) (.str "book" t)) Q E s := by
  obtain ⟨o, es, ep, e1, r⟩ := hw
  exact wpAny_getItem_of (knd := strKind PR w) (k := "book") (beq_self_eq_true _) ⟨o, es, ep, F.keep _ _ e1, r⟩ rfl h
end
section
variable {w : World} {A : Around} {E : Value → Shared → Prop} {s : Shared} {h₀ : Heap} {L : Addr} {m : Str → Option Value} {wd qa qm bk : Addr} {t : Tok} {Q : Value → Shared → Prop} {value slice : Expr} {x : Str}
theorem sub_world (F : Fr h₀ L s.heap m) (hw : h₀.MapOf (strKind PR w) wd (wdf qa qm bk)) (h : wpAny (model PR w) A (getItem (.ref wd) (.str x t)) Q E s)
    (hs : subscripted slice false (.ref wd) (.str x t) = operate [.ref wd, .str x t] (getItem (.ref wd) (.str x t)) := by with_unfolding_all rfl) (hg : ∀ r, letTemporaryGo value (.ref wd) r = pure () := by intro _; with_unfolding_all rfl) :
    wpAny (model PR w) A (subscriptTail value slice (.ref wd) (.str x t)) Q E s := by
  obtain ⟨o, es, ep, e1, hx, r⟩ := hw
  exact subscriptTail_builtin ⟨o, F.keep _ _ e1, hx.1⟩ PySem.F.slot_dict_getitem.lookup h hs hg
end
end
theorem pr1 {a1 r : Prop} (h : a1 ∧ r) : a1 := h.1
theorem pr2 {a1 a2 r : Prop} (h : a1 ∧ a2 ∧ r) : a2 := h.2.1
theorem pr3 {a1 a2 a3 r : Prop} (h : a1 ∧ a2 ∧ a3 ∧ r) : a3 := h.2.2.1
theorem pr4 {a1 a2 a3 a4 r : Prop} (h : a1 ∧ a2 ∧ a3 ∧ a4 ∧ r) : a4 := h.2.2.2.1
theorem pr5 {a1 a2 a3 a4 a5 r : Prop} (h : a1 ∧ a2 ∧ a3 ∧ a4 ∧ a5 ∧ r) : a5 := h.2.2.2.2.1
theorem pr6 {a1 a2 a3 a4 a5 a6 r : Prop} (h : a1 ∧ a2 ∧ a3 ∧ a4 ∧ a5 ∧ a6 ∧ r) : a6 := h.2.2.2.2.2.1
theorem pr7 {a1 a2 a3 a4 a5 a6 a7 r : Prop} (h : a1 ∧ a2 ∧ a3 ∧ a4 ∧ a5 ∧ a6 ∧ a7 ∧ r) : a7 := h.2.2.2.2.2.2.1
theorem pr8 {a1 a2 a3 a4 a5 a6 a7 a8 r : Prop} (h : a1 ∧ a2 ∧ a3 ∧ a4 ∧ a5 ∧ a6 ∧ a7 ∧ a8 ∧ r) : a8 := h.2.2.2.2.2.2.2.1
theorem pr9 {a1 a2 a3 a4 a5 a6 a7 a8 a9 r : Prop} (h : a1 ∧ a2 ∧ a3 ∧ a4 ∧ a5 ∧ a6 ∧ a7 ∧ a8 ∧ a9 ∧ r) : a9 := h.2.2.2.2.2.2.2.2.1
theorem pr10 {a1 a2 a3 a4 a5 a6 a7 a8 a9 a10 r : Prop} (h : a1 ∧ a2 ∧ a3 ∧ a4 ∧ a5 ∧ a6 ∧ a7 ∧ a8 ∧ a9 ∧ a10 ∧ r) : a10 := h.2.2.2.2.2.2.2.2.2.1
theorem pr11 {a1 a2 a3 a4 a5 a6 a7 a8 a9 a10 a11 r : Prop} (h : a1 ∧ a2 ∧ a3 ∧ a4 ∧ a5 ∧ a6 ∧ a7 ∧ a8 ∧ a9 ∧ a10 ∧ a11 ∧ r) : a11 := h.2.2.2.2.2.2.2.2.2.2.1
theorem pr12 {a1 a2 a3 a4 a5 a6 a7 a8 a9 a10 a11 a12 r : Prop} (h : a1 ∧ a2 ∧ a3 ∧ a4 ∧ a5 ∧ a6 ∧ a7 ∧ a8 ∧ a9 ∧ a10 ∧ a11 ∧ a12 ∧ r) : a12 := h.2.2.2.2.2.2.2.2.2.2.2.1
local macro_rules | `(tactic| walk_at "mine lt") => `(tactic| (with_reducible (first | assumption | exact pr1 (by assumption) | exact pr2 (by assumption) | exact pr3 (by assumption) | exact pr4 (by assumption) | exact pr5 (by assumption) | exact pr6 (by assumption) | exact pr7 (by assumption) | exact pr8 (by assumption) | exact pr9 (by assumption) | exact pr10 (by assumption) | exact pr11 (by assumption) | exact pr12 (by assumption))))
local macro_rules | `(tactic| k_lt $h:ident) => `(tactic| (replace $h := allLt_of $h; dsimp only [AllLt] at $h:ident))
local macro_rules | `(tactic| k_ne) => `(tactic| (refine neN ?_; (try dsimp only); with_reducible (first | exact Nat.ne_of_lt (by walk_at "mine lt") | exact Nat.ne_of_gt (by walk_at "mine lt"))))
section
section
variable {w : World} {h : Heap}
theorem bk_getitem (X : (KK w.params).In h) : Looks (model PR w) h (typeLookup (.ref 108) "__getitem__") (some (.builtin "dict.__getitem__")) := Looks.of_peek X (by kernel_rfl)
theorem bk_missing (X : (KK w.params).In h) : Looks (model PR w) h (typeLookup (.ref 108) "__missing__") (some (.ref 98)) := Looks.of_peek X (by kernel_rfl)
theorem bk_isDict (X : (KK w.params).In h) : Looks (model PR w) h (isSubtype (.ref 108) (.type "dict")) true := Looks.of_peek X (by kernel_rfl)
theorem bk_isDD (X : (KK w.params).In h) : Looks (model PR w) h (isSubtype (.ref 108) (.type "collections.defaultdict")) true := Looks.of_peek X (by kernel_rfl)
theorem bk_ga (P : Params) : findIn (KK P) (.ref 108) "__getattribute__" = some (some (.builtin "collections.defaultdict.__getattribute__")) := by kernel_rfl
theorem bk_gh (P : Params) : findIn (KK P) (.ref 108) "__getattr__" = some none := by kernel_rfl
theorem bk_seq (X : (KK w.params).In h) : Looks (model PR w) h (seqItemTypes.anyM fun n => isSubtype (.ref 108) (.type n)) false := Looks.of_peek X (by kernel_rfl)
end
section
variable {w : World} {A : Around} {E : Value → Shared → Prop} {s : Shared} {h₀ : Heap} {L : Addr} {m : Str → Option Value} {bk bd lf : Addr} {es : List DictEntry} {n : Nat} {c : Str} {t : Tok} {Q : Value → Shared → Prop}
theorem slot_kind_gi : builtinKind "dict.__getitem__" = some .method := by kernel_rfl
theorem split_gi : splitId "dict.__getitem__" = some ("dict", "__getitem__") := by kernel_rfl
theorem book_get (X : (KK w.params).In s.heap) (hb : s.heap.get? bk = some (bookObj bd lf es n)) (hk : KeysOf (strKind PR w) es.toArray) (hs : (bk == sysModules) = false)
    (hit : ∀ v k, findBy Value.isStrOf es.toArray c = some v → Q v { s with toks := k })
    (miss : findBy Value.isStrOf es.toArray c = none → ∀ k, wpAny (model PR w) A.in1 (call (.ref 98) [.ref bk, .str c t]) (fun v s' => Q v s') E { s with toks := k }) :
    wpAny (model PR w) A (getItem (.ref bk) (.str c t)) Q E s := by
  have L0 : Looks (model PR w) s.heap (typeOf (.ref bk)) (.ref 108) := (Looks.ld hb).andThen .now
  have L1 := bk_getitem X
  have L2 := bk_missing X
  have L3 := bk_isDict X
  have L4 := bk_seq X
  obtain ⟨hh, g, d, tk, os⟩ := s
  dsimp only at L0 L1 L2 L3 L4 X hb hit miss
  have bg : Looks (model PR w) hh (bindSpecial (.builtin "dict.__getitem__") (.ref bk)) (.builtin "dict.__getitem__", [.ref bk]) := Looks.of_pure (PySem.F.slot_dict_getitem.bind _)
  have hkey : (strKind PR w).is c (.str c t) = true := beq_self_eq_true _
  have hdat : (bookObj bd lf es n).data = .dict es.toArray n := rfl
  unfold getItem sequenceKey callSpecial? specialOf
  repeat (first | (with_reducible refine call_slot (.inr slot_kind_gi) split_gi PySem.F.slot_dict_getitem.plain PySem.F.entry_dict_getitem (PySem.F.args_dict_getitem_2 _ _) L0 L3 ?_) | (with_reducible refine bg.at ?_; dsimp only [List.cons_append, List.nil_append]) | (with_reducible refine (strKind PR w).pyHash (k := c) hkey ?_) | (with_reducible refine wpAny_dictFind_of (knd := strKind PR w) (k := c) hkey hb hdat hk ?_) | lk)
  rw [findBy_of_findIdx?] at hit miss
  have hf : (es.toArray.findIdx? fun e => (strKind PR w).is c e.key) = es.toArray.findIdx? fun e => Value.isStrOf c e.key := rfl
  rw [hf]
  cases hi : es.toArray.findIdx? fun e => Value.isStrOf c e.key with
  | some i =>
    rw [hi] at hit
    dsimp only at hit
    have hlt : i < es.toArray.size := (Array.findIdx?_eq_some_iff_getElem.mp hi).1
    have he : es.toArray[i]? = some es.toArray[i] := Array.getElem?_eq_getElem hlt
    rw [he] at hit
    dsimp only
    refine wpAny_bind (wpAny_bind (wpAny_loadPart hb ?_))
    refine wpAny_pure ?_
    rw [he]
    refine wpAny_pure ?_
    dsimp only [Option.map_some]
    refine wpAny_pure ?_
    exact wpAny_pure (wpAny_pure (hit _ _ rfl))
  | none =>
    rw [hi] at miss
    have miss := miss rfl
    have bm : Looks (model PR w) hh (bindSpecial (.ref 98) (.ref bk)) (.ref 98, [.ref bk]) := bind_fn X (.ref bk) (by kernel_rfl)
    dsimp only
    refine wpAny_pure ?_
    dsimp only
    unfold Builtin.Dict.missed
    rw [hs]
    simp only [Bool.false_eq_true, if_false]
    refine wpAny_bind (wpAny_pure ?_)
    dsimp only
    unfold callSpecial? specialOf
    repeat (first | (with_reducible refine wpAny_mono (miss _) (fun v s' z => ?_) (fun e s' z => ?_)) | (with_reducible refine bm.at ?_; dsimp only [List.cons_append, List.nil_append]) | lk)
    · exact z
    · exact z
end
end
section
theorem ddm_plain : plainId "collections.defaultdict.__missing__" = true := by decide +kernel
theorem ddm_entry : entryFor table "collections.defaultdict.__missing__" = some Builtin.«collections.defaultdict.__missing__» := entryFor_of_tree (by kernel_rfl)
section
variable {w : World} {h : Heap}
theorem bk_notOrd (X : (KK w.params).In h) : Looks (model PR w) h (isSubtype (.ref 108) (.type "collections.OrderedDict")) false := Looks.of_peek X (by kernel_rfl)
end
theorem wpAny_borrowed {M : Model} {A : Around} {E : Value → Shared → Prop} {s : Shared} {f : Value} {pos : List Value} {Q : Value → Shared → Prop}
    (hc : codeAny M A (.call f ⟨pos, []⟩) (fun r s' => match r with | .ok (.ret v) => Q v s' | .ok _ => False | .error e => E e s') s) : wpAny M A (callBorrowed f pos) Q E s := by
  intro Γ p hΓ
  unfold callBorrowed
  rw [Sem.wp_call]
  have := hc _ p rfl (hΓ.enter (.call f ⟨pos, []⟩) none p (by intro x; cases x))
  refine wpCode_mono (fun r s' z => ?_) this
  rcases r with e | (v | _ | _ | _) <;> first | exact z | exact z.elim
section
variable {w : World} {A : Around} {E : Value → Shared → Prop} {s : Shared} {bk bd lf : Addr} {es : List DictEntry} {n : Nat} {c : Str} {t : Tok} {Q : Value → Shared → Prop}
theorem book_setdefault {A' : Around} {v : Value} (X : (KK w.params).In s.heap) (hb : s.heap.get? bk = some (bookObj bd lf es n)) (hk : KeysOf (strKind PR w) es.toArray) (hs : (bk == sysModules) = false) (hn : findBy Value.isStrOf es.toArray c = none) (hz : es.length + 1 ≤ sizeLine)
    (hq : ∀ h' tk, h'.get? bk = some (bookObj bd lf (es ++ [⟨hashStr w c, .str c t, v⟩]) (n + 1)) → Heap.SameBut bk s.heap h' → Q v { s with heap := h', toks := tk }) :
    wpAny (model PR w) A' (Builtin.«dict.setdefault» ⟨[.ref bk, .str c t, v], []⟩) (FinPost (model PR w) A E Q) (fun e s' => E e s') s := by
  have L0 : Looks (model PR w) s.heap (typeOf (.ref bk)) (.ref 108) := (Looks.ld hb).andThen .now
  have L1 := bk_notOrd X
  obtain ⟨hh, g, d, tk, os⟩ := s
  dsimp only at L0 L1 X hb hq
  have hkey : (strKind PR w).is c (.str c t) = true := beq_self_eq_true _
  have hdat : (bookObj bd lf es n).data = .dict es.toArray n := rfl
  unfold Builtin.«dict.setdefault»
  repeat (first | (with_reducible refine (strKind PR w).pyHash (k := c) hkey ?_) | (with_reducible refine wpAny_dictFind_of (knd := strKind PR w) (k := c) hkey hb hdat hk ?_) | lk)
  rw [hs]
  simp only [Bool.false_eq_true, if_false, Option.getD_some]
  have hi : (es.toArray.findIdx? fun e => (strKind PR w).is c e.key) = none := by
    have : (es.toArray.findIdx? fun e => Value.isStrOf c e.key) = none := by
      unfold findBy at hn
      rw [Option.map_eq_none_iff, Array.find?_eq_none] at hn
      rw [Array.findIdx?_eq_none_iff]
      intro x hx
      exact Bool.eq_false_iff.mpr (hn x hx)
    exact this
  unfold dictSetDefault
  repeat (first | (with_reducible refine (strKind PR w).pyHash (k := c) hkey ?_) | (with_reducible refine wpAny_dictFind_of (knd := strKind PR w) (k := c) hkey hb hdat hk ?_; rw [hi]) | (with_reducible refine wpAny_updateDictKeys hb hdat ?_ ?zz ?gg) | lk)
  case zz => rw [List.size_toArray]; (first | lia | omega)
  case gg => rw [Array.size_push]; exact Nat.le_refl _
  show Q v _
  refine hq _ _ ?_ (Heap.SameBut.update ..)
  have := Heap.get?_update_self (Obj.mapDictKeys fun x => x.push { hash := (PySem.strKind PR w).hash c, key := Value.str c t, val := v }) hb rfl
  rw [this]
  simp only [Obj.mapDictKeys, List.push_toArray]
  rfl
theorem dd_core (X : (KK w.params).In s.heap) (hb : s.heap.get? bk = some (bookObj bd lf es n)) (hs : (bk == sysModules) = false) {fd : FuncData} {olf : Obj} (hlf : s.heap.get? lf = some olf) (hfd : olf.data = .func fd)
    (hcall : codeAny (model PR w) A.in1 (.call (.ref lf) ⟨[], []⟩) (fun r s' => match r with
        | .ok (.ret v) => ∃ es' n', (KK w.params).In s'.heap ∧ s'.heap.get? bk = some (bookObj bd lf es' n') ∧ KeysOf (strKind PR w) es'.toArray ∧ findBy Value.isStrOf es'.toArray c = none ∧ es'.length + 1 ≤ sizeLine ∧
            ∀ h' tk, h'.get? bk = some (bookObj bd lf (es' ++ [⟨hashStr w c, .str c t, v⟩]) (n' + 1)) → Heap.SameBut bk s'.heap h' → Q v { s' with heap := h', toks := tk }
        | _ => False) s) :
    wpAny (model PR w) A.in1 (Builtin.«collections.defaultdict.__missing__» ⟨[.ref bk, .str c t], []⟩) (FinPost (model PR w) A E Q) (fun e s' => E e s') s := by
  have L0 : Looks (model PR w) s.heap (typeOf (.ref bk)) (.ref 108) := (Looks.ld hb).andThen .now
  have L3 := bk_isDD X
  obtain ⟨hh, g, d, tk, os⟩ := s
  dsimp only at L0 X hb hcall hlf
  have Lf : Looks (model PR w) hh (borrowsExactly (.ref lf)) true := (Looks.ld hlf).andThen (by rw [hfd]; exact .now)
  have Ls : Looks (model PR w) hh (Builtin.Collections_defaultdict.factory? (.ref bk)) (some (.ref lf)) := ((Looks.ld hb).andThen .now).andThen (Looks.of_pure rfl)
  unfold Builtin.«collections.defaultdict.__missing__»
  repeat (first | (with_reducible refine Looks.at Ls ?_) | (with_reducible refine Looks.at Lf ?_) | (with_reducible refine wpAny_borrowed ?_) | lk)
  refine codeAny_mono hcall fun r s' z => ?_
  rcases r with e | (v | _ | _ | _) <;> first | exact z.elim | skip
  obtain ⟨es', n', X', hb', hk', hn', hz', hq⟩ := z
  show wpAny _ _ (again _) _ _ _
  refine wpAny_pure ⟨plainId_quiet PySem.F.slot_dict_setdefault.plain _, codeAny_builtin PySem.F.entry_dict_setdefault ?_⟩
  rw [Around.under_plainId PySem.F.slot_dict_setdefault.plain _]
  refine wpAny_mono (book_setdefault (A' := A.in1) (A := A) (E := E) (Q := Q) X' hb' hk' hs hn' hz' hq) (fun fin s'' z => z) fun _ _ z => z
end
end
section
theorem gat_kind : builtinKind "getattr" = none := by kernel_rfl
theorem gat_plain : plainId "getattr" = true := by decide +kernel
theorem gat_entry : entryFor table "getattr" = some Builtin.«getattr» := entryFor_of_tree (by kernel_rfl)
theorem gat_args (a b c : Value) : argsOk "getattr" ⟨[a, b, c], []⟩ := by unfold argsOk; kernel_rfl
section
variable {w : World} {h : Heap}
theorem bk_notModule (X : (KK w.params).In h) : Looks (model PR w) h (isSubtype (.ref 108) (.type "module")) false := Looks.of_peek X (by kernel_rfl)
theorem bk_name (X : (KK w.params).In h) : Looks (model PR w) h (typeNameCut 100 (.ref 108)) "FreezableDefaultDict" := Looks.of_peek X (by kernel_rfl)
end
section
variable {w : World} {A : Around} {E : Value → Shared → Prop} {s : Shared} {bk bd lf : Addr} {es : List DictEntry} {n : Nat} {t : Tok} {Q : Value → Shared → Prop}
theorem getAttrBy_none {A : Around} {Q : Option Value → Shared → Prop} (hh : A.handled = none) (X : (KK w.params).In s.heap) (hb : s.heap.get? bk = some (bookObj bd lf es n)) (hd : s.heap.get? bd = some (dictOf [] 0))
    (hq : ∀ h' tk, Ext s.heap h' → Q none { s with heap := h', toks := tk }) :
    wpAny (model PR w) A (getAttrBy? (.ref bk) (.str "_frozen" t)) Q E s := by
  have I : InstAt s.heap bk (bookObj bd lf es n) 108 (some (dictOf [] 0)) := ⟨hb, rfl, rfl, hd⟩
  have L0 := I.type (M := model PR w)
  have L1 := looks_findIn (M := model PR w) X (bk_ga _)
  have L2 := looks_findIn (M := model PR w) X (bk_gh _)
  have L3 := bk_isDD X
  have L4 := looks_find (M := model PR w) X (name := "_frozen") (r := .missing) I (by kernel_rfl)
  have L6 := bk_name X
  have L7 : Looks (model PR w) s.heap (shownTypeOf (.ref bk)) (.ref 108) := L0.andThen (Looks.of_peek X (by kernel_rfl))
  have hb1 : (onTheHeap (.ref 108) && (Value.builtin "collections.defaultdict.__getattribute__" == Value.builtin "object.__getattribute__")) = false := by kernel_rfl
  have f1 := sub_AttributeError
  obtain ⟨hp, g, dr, tk, os⟩ := s
  dsimp only at L0 L1 L2 L3 L4 L6 L7 X hq
  unfold getAttrBy?
  refine wpAny_bind (wpAny_attempt ?_)
  unfold getAttrBy
  refine wpAny_holding (wpAny_bind (L0.at (wpAny_bind (L1.at ?_))))
  dsimp only
  rw [hb1]
  simp only [Bool.false_eq_true, if_false]
  unfold getAttrByItsOwn hookBefore callGetattribute boundAndCalled
  simp only [onTheHeap, if_true, Bool.false_and, Bool.false_eq_true, if_false]
  refine wpAny_bind (L2.at ?_)
  show wpAny _ _ (Sem.attempt _ >>= _) _ _ _
  rw [ga_ddict.bind]
  refine wpAny_bind (wpAny_attempt ?_)
  show wpAny _ _ (call (.builtin "collections.defaultdict.__getattribute__") [.ref bk, .str "_frozen" t]) _ _ _
  refine call_slot (.inl ga_ddict.kind) ga_ddict.split ga_ddict.plain ga_ddict.entry (ga_ddict.args _ _) L0 L3 ?_
  show wpAny _ _ (typeOf (.ref bk) >>= _) _ _ _
  refine wpAny_bind (L0.at (wpAny_bind (L4.at ?_)))
  dsimp only
  have hm : (Value.ref 108 == Value.type "module") = false := by decide
  have ht : (Value.ref 108 == Value.type "type") = false := by decide
  simp only [hm, ht, Bool.false_eq_true, if_false]
  unfold Builtin.ObjectAttr.noSuchAttribute typeNameOfCut
  refine wpAny_bind (wpAny_bind (L7.at (L6.at ?_)))
  refine wpAny_raiseAttrError hh (fun h' tk' e hx => ?_) (by show (_ : Nat) ≤ sizeLine; decide +kernel)
  obtain ⟨u1, u2, he⟩ := hx.there
  have hT : (⟨h', g, dr, tk', os⟩ : Shared).TypeIs (.ref e) "AttributeError" := ⟨_, he, rfl⟩
  unfold getattributeRaised
  refine wpAny_bind (wpAny_isInstance (b := true) hT f1 ?_)
  simp only [if_true]
  unfold hookBehind
  simp only [onTheHeap, if_true]
  refine wpAny_bind (wpAny_pure ?_)
  unfold hookOrError attributeErrorLeaves
  simp only [Bool.not_false, if_true]
  first | refine wpAny_throw ?_ | refine wpAny_bind (wpAny_throw ?_)
  refine wpAny_bind (wpAny_isInstance (b := true) hT f1 ?_)
  simp only [if_true]
  exact wpAny_pure (hq _ _ hx.keeps)
theorem getattr_none {A : Around} {Q : Value → Shared → Prop} {d : Value} (hh : A.handled = none) (X : (KK w.params).In s.heap) (hb : s.heap.get? bk = some (bookObj bd lf es n)) (hd : s.heap.get? bd = some (dictOf [] 0))
    (hq : ∀ h' tk, Ext s.heap h' → Q d { s with heap := h', toks := tk }) :
    wpAny (model PR w) A (call (.builtin "getattr") [.ref bk, .str "_frozen" t, d]) Q E s := by
  have I : InstAt s.heap bk (bookObj bd lf es n) 108 (some (dictOf [] 0)) := ⟨hb, rfl, rfl, hd⟩
  have L0 := I.type (M := model PR w)
  have L5 := bk_notModule X
  obtain ⟨hp, g, dr, tk, os⟩ := s
  dsimp only at L0 L5 X hb hd hq
  refine call_fn gat_kind gat_plain gat_entry (gat_args _ _ _) ?_
  unfold Builtin.«getattr»
  repeat (first | (with_reducible refine getAttrBy_none (s := ⟨hp, g, dr, tk, os⟩) hh X hb hd (fun h' tk' e => ?_)) | lk)
  exact hq _ _ e
noncomputable abbrev frozenDict (P : Params) (tf : Tok) (fl : Addr) (k : Nat) : Obj := dictOf [⟨PyData.keyHash P "_frozen", .str "_frozen" tf, .ref fl⟩] k
theorem getAttrBy_some {A : Around} {Q : Option Value → Shared → Prop} {tf : Tok} {fl : Addr} {k : Nat} (X : (KK w.params).In s.heap) (hb : s.heap.get? bk = some (bookObj bd lf es n)) (hd : s.heap.get? bd = some (frozenDict w.params tf fl k))
    (hq : ∀ tk, Q (some (.ref fl)) { s with toks := tk }) :
    wpAny (model PR w) A (getAttrBy? (.ref bk) (.str "_frozen" t)) Q E s := by
  have I : InstAt s.heap bk (bookObj bd lf es n) 108 (some (frozenDict w.params tf fl k)) := ⟨hb, rfl, rfl, hd⟩
  have L0 := I.type (M := model PR w)
  have L1 := looks_findIn (M := model PR w) X (bk_ga _)
  have L2 := looks_findIn (M := model PR w) X (bk_gh _)
  have L3 := bk_isDD X
  have L4 := looks_find (M := model PR w) X (name := "_frozen") (r := .value (.ref fl)) I (by kernel_rfl)
  have hb1 : (onTheHeap (.ref 108) && (Value.builtin "collections.defaultdict.__getattribute__" == Value.builtin "object.__getattribute__")) = false := by kernel_rfl
  obtain ⟨hp, g, dr, tk, os⟩ := s
  dsimp only at L0 L1 L2 L3 L4 X hq
  unfold getAttrBy?
  refine wpAny_bind (wpAny_attempt ?_)
  unfold getAttrBy
  refine wpAny_holding (wpAny_bind (L0.at (wpAny_bind (L1.at ?_))))
  dsimp only
  rw [hb1]
  simp only [Bool.false_eq_true, if_false]
  unfold getAttrByItsOwn hookBefore callGetattribute boundAndCalled
  simp only [onTheHeap, if_true, Bool.false_and, Bool.false_eq_true, if_false]
  refine wpAny_bind (L2.at ?_)
  show wpAny _ _ (Sem.attempt _ >>= _) _ _ _
  rw [ga_ddict.bind]
  refine wpAny_bind (wpAny_attempt ?_)
  show wpAny _ _ (call (.builtin "collections.defaultdict.__getattribute__") [.ref bk, .str "_frozen" t]) _ _ _
  refine call_slot (.inl ga_ddict.kind) ga_ddict.split ga_ddict.plain ga_ddict.entry (ga_ddict.args _ _) L0 L3 ?_
  show wpAny _ _ (typeOf (.ref bk) >>= _) _ _ _
  refine wpAny_bind (L0.at (wpAny_bind (L4.at ?_)))
  refine wpAny_pure ?_
  show wpAny _ _ (handedOut (.ref fl)) _ _ _
  rw [handedOut_of rfl]
  exact wpAny_pure (wpAny_pure (hq _))
theorem getattr_some {A : Around} {Q : Value → Shared → Prop} {d : Value} {tf : Tok} {fl : Addr} {k : Nat} (X : (KK w.params).In s.heap) (hb : s.heap.get? bk = some (bookObj bd lf es n)) (hd : s.heap.get? bd = some (frozenDict w.params tf fl k))
    (hq : ∀ tk, Q (.ref fl) { s with toks := tk }) :
    wpAny (model PR w) A (call (.builtin "getattr") [.ref bk, .str "_frozen" t, d]) Q E s := by
  have I : InstAt s.heap bk (bookObj bd lf es n) 108 (some (frozenDict w.params tf fl k)) := ⟨hb, rfl, rfl, hd⟩
  have L0 := I.type (M := model PR w)
  have L5 := bk_notModule X
  obtain ⟨hp, g, dr, tk, os⟩ := s
  dsimp only at L0 L5 X hb hd hq
  refine call_fn gat_kind gat_plain gat_entry (gat_args _ _ _) ?_
  unfold Builtin.«getattr»
  repeat (first | (with_reducible refine getAttrBy_some (s := ⟨hp, g, dr, tk, os⟩) X hb hd (fun tk' => ?_)) | lk)
  exact hq _
end
end
section
noncomputable abbrev ddm : Value := .builtin "collections.defaultdict.__missing__"
noncomputable abbrev boundMissing (bk : Addr) : Obj := { cls := .type "builtin_function_or_method", dict := none, data := .fields #[ddm, .ref bk], slots := #[] }
theorem mdg_entry : entryFor table "method_descriptor.__get__" = some Builtin.«method_descriptor.__get__» := entryFor_of_tree (by kernel_rfl)
theorem mdg_plain : plainId "method_descriptor.__get__" = true := by decide +kernel
theorem mdg_kind : builtinKind "method_descriptor.__get__" = some .slot := by kernel_rfl
theorem mdg_split : splitId "method_descriptor.__get__" = some ("method_descriptor", "__get__") := by kernel_rfl
theorem mdg_args (a b c : Value) : argsOk "method_descriptor.__get__" ⟨[a, b, c], []⟩ := by unfold argsOk; kernel_rfl
theorem ddm_type : typeOf ddm = pure (.type "method_descriptor") := by show builtinType _ = _; rw [builtinType_eq_fast]; kernel_rfl
theorem mdg_sub : isSubtype (.type "method_descriptor") (.type "method_descriptor") = pure true := by rw [isSubtype_type]; kernel_rfl
theorem mdg_look : typeLookup (.type "method_descriptor") "__get__" = pure (some (.builtin "method_descriptor.__get__")) := by rw [typeLookup_type, builtinLookup_eq_fast]; kernel_rfl
section
variable {w : World} {A : Around} {E : Value → Shared → Prop} {s : Shared} {bk bd lf so : Addr} {es : List DictEntry} {n : Nat} {t : Tok}
theorem bind_missing {Q : Value → Shared → Prop} (X : (KK w.params).In s.heap) (hb : s.heap.get? bk = some (bookObj bd lf es n))
    (hq : Q (.ref s.heap.objs.size) { s with heap := s.heap.push (boundMissing bk) }) :
    wpAny (model PR w) A (call (.builtin "method_descriptor.__get__") [ddm, .ref bk, .ref 108]) Q E s := by
  have L0 : Looks (model PR w) s.heap (typeOf (.ref bk)) (.ref 108) := (Looks.ld hb).andThen .now
  have L1 : Looks (model PR w) s.heap (typeOf ddm) (.type "method_descriptor") := Looks.of_pure ddm_type
  have L2 : Looks (model PR w) s.heap (isSubtype (.type "method_descriptor") (.type "method_descriptor")) true := Looks.of_pure mdg_sub
  have L3 : Looks (model PR w) s.heap (isSubtype (.ref 108) (.type (".".intercalate ("collections.defaultdict.__missing__".cutAt '.').dropLast))) true := Looks.of_peek X (by kernel_rfl)
  obtain ⟨hp, g, dr, tk, os⟩ := s
  dsimp only at L0 L1 L2 L3 hb X hq
  refine call_slot (.inl mdg_kind) mdg_split mdg_plain mdg_entry (mdg_args _ _ _) L1 L2 ?_
  unfold Builtin.«method_descriptor.__get__»
  repeat lk
  exact hq
set_option maxHeartbeats 1000000 in
theorem super_missing {expr : Bool} {Q : Value → Shared → Prop} (X : (KK w.params).In s.heap) (hb : s.heap.get? bk = some (bookObj bd lf es n)) (hbk : (Value.ref bk == Value.ref 108) = false)
    (hso : s.heap.get? so = some { cls := .type "super", dict := none, data := .fields #[.ref 108, .ref bk, .ref 108], slots := #[] })
    (hq : Q (.ref s.heap.objs.size) { s with heap := s.heap.push (boundMissing bk), toks := s.toks + 1 }) :
    wpAny (model PR w) A (getAttr (.ref so) "__missing__" expr) Q E s := by
  have hlk := F.ks_slot_super_ga.lookup
  have hno : Looks (model PR w) s.heap (opaqueClassAbove (.ref 108)) none := Looks.of_peek X (by kernel_rfl)
  have hC : Looks (model PR w) s.heap (mroOf (.ref 108)) [.ref 108, .type "collections.defaultdict", .type "dict", .type "object"] := Looks.of_peek X (by kernel_rfl)
  have hf : alongIn (KK w.params) "__missing__" [.type "collections.defaultdict", .type "dict", .type "object"] = some (some ddm) := by kernel_rfl
  have hT : ∀ t', (⟨s.heap, s.gens, s.drawn, t', s.os⟩ : Shared).TypeIs (.ref so) "super" := fun _ => ⟨_, hso, rfl⟩
  obtain ⟨h, g, d, t, os⟩ := s
  dsimp only at hso hb X hno hC hT hq
  unfold getAttr getAttrBy
  refine wpAny_bind (wpAny_mkText (wpAny_holding (wpAny_bind (wpAny_typeOf (hT _) (wpAny_bind (wpAny_of_eq hlk ?_))))))
  show wpAny _ _ (getAttrByItsOwn (.ref so) (.str "__missing__" t) (.type "super") (.builtin "super.__getattribute__") true expr) _ _ _
  unfold getAttrByItsOwn hookBefore callGetattribute boundAndCalled
  refine wpAny_bind (wpAny_of_eq (show (if onTheHeap (.type "super") then typeLookup (.type "super") "__getattr__" else pure none) = pure none from rfl) ?_)
  simp only [onTheHeap, Bool.and_false, Bool.false_eq_true, if_false]
  refine wpAny_bind (wpAny_attempt (wpAny_holding ?_))
  refine wpAny_bind (wpAny_of_eq (F.ks_slot_super_ga.bind _) ?_)
  refine wpAny_mono (Q := fun v s' => v = .ref h.objs.size ∧ s' = ⟨h.push (boundMissing bk), g, d, t + 1, os⟩) (E := fun _ _ => False)
    (wpAny_call_entry F.ks_slot_super_ga (hT _) F.ks_entry_super_ga ?_ (F.ks_gaArgs_super _ _)) (fun v s' hv => ?_) fun _ _ z => z.elim
  · have hdt : ({ cls := .type "super", dict := none, data := .fields #[.ref 108, .ref bk, .ref 108], slots := #[] } : Obj).data = .fields #[.ref 108, .ref bk, .ref 108] := rfl
    have f0 : (#[.ref 108, .ref bk, .ref 108] : Array Value)[0]? = some (.ref 108) := rfl
    have f1 : (#[.ref 108, .ref bk, .ref 108] : Array Value)[1]? = some (.ref bk) := rfl
    have f2 : (#[.ref 108, .ref bk, .ref 108] : Array Value)[2]? = some (.ref 108) := rfl
    have hl : (([.ref 108, .type "collections.defaultdict", .type "dict", .type "object"] : List Value).dropWhile (· != .ref 108)).drop 1 = [.type "collections.defaultdict", .type "dict", .type "object"] := by decide
    have hn : ((Str.ofString "__missing__") == ("__class__" : Str)) = false := by decide
    obtain ⟨l, hlv⟩ : ∃ l, l = ([.type "collections.defaultdict", .type "dict", .type "object"] : List Value) := ⟨_, rfl⟩
    rw [← hlv] at hf hl
    unfold Builtin.«super.__getattribute__»
    repeat (first
      | (with_reducible refine wpAny_field hso hdt f0 ?_) | (with_reducible refine wpAny_field hso hdt f1 ?_) | (with_reducible refine wpAny_field hso hdt f2 ?_)
      | (with_reducible refine ks_wpAny_notOpaque hno ?_)
      | (with_reducible refine Looks.at hC ?_; rw [hl])
      | (refine ks_forIn_along X (fun _ _ => rfl) rfl ?_ hf)
      | (with_reducible refine wpAny_of_eq ddm_type ?_)
      | (with_reducible refine wpAny_of_eq mdg_look ?_)
      | (with_reducible refine bind_missing X hb ?_)
      | (simp only [hn, hbk, Bool.or_false, Bool.false_eq_true, if_false])
      | wp_step
      | dsimp only)
    refine wpAny_load (X 108 (o_108 w.params) (by kernel_rfl)) ?_
    dsimp only [o_108]
    refine wpAny_pure (wpAny_pure ?_)
    dsimp only
    rw [show List.drop 1 (List.dropWhile (fun x => x != Value.ref 108) [Value.ref 108, Value.type "collections.defaultdict", Value.type "dict", Value.type "object"]) = l from by rw [hlv]; decide]
    refine wpAny_bind (ks_forIn_along X (fun _ _ => rfl) rfl ?_ hf)
    repeat (first
      | (with_reducible refine wpAny_of_eq ddm_type ?_)
      | (with_reducible refine wpAny_of_eq mdg_look ?_)
      | (with_reducible refine bind_missing X hb ?_)
      | wp_step
      | dsimp only)
    exact ⟨_, rfl, rfl, rfl⟩
  · obtain ⟨rfl, rfl⟩ := hv
    exact wpAny_pure hq
end
end
section
section
variable {w : World} {A : Around} {E : Value → Shared → Prop} {s : Shared} {bk bd lf bb : Addr} {es : List DictEntry} {n : Nat} {c : Str} {t : Tok} {Q : Value → Shared → Prop}
theorem bound_call (X : (KK w.params).In s.heap) (hb : s.heap.get? bk = some (bookObj bd lf es n)) (hbb : s.heap.get? bb = some (boundMissing bk))
    (h : wpAny (model PR w) A.in1 (Builtin.«collections.defaultdict.__missing__» ⟨[.ref bk, .str c t], []⟩) (FinPost (model PR w) A E Q) (fun e s' => E e s') s) :
    wpAny (model PR w) A (call (.ref bb) [.str c t]) Q E s := by
  have L0 : Looks (model PR w) s.heap (typeOf (.ref bk)) (.ref 108) := (Looks.ld hb).andThen .now
  have L1 := bk_notModule X
  have L2 : Looks (model PR w) s.heap (isType (.ref bk)) false := (Looks.ld hb).andThen .now
  have L3 : Looks (model PR w) s.heap (classData 108 >>= fun cd => pure cd.qualname.toString) "FreezableDefaultDict" := Looks.of_peek X (by kernel_rfl)
  have L4 : Looks (model PR w) s.heap (typeOf (.ref 108)) (.type "type") := Looks.of_peek X (by kernel_rfl)
  have e108 := X 108 (o_108 w.params) (by kernel_rfl)
  obtain ⟨hp, g, dr, tk, os⟩ := s
  dsimp only at L0 L1 L2 L3 L4 X hb hbb e108
  refine wpAny_call (codeAny_of_tree ?_)
  show wpAny _ _ (callAny (.ref bb) _) _ _ _
  unfold callAny
  refine wpAny_bind (wpAny_load hbb ?_)
  dsimp only [boundMissing]
  have hc : (Value.type "builtin_function_or_method" == Value.type "method" || Value.type "builtin_function_or_method" == Value.type "builtin_function_or_method" || Value.type "builtin_function_or_method" == Value.type "method-wrapper") = true := by decide
  rw [hc]
  simp only [if_true]
  show wpAny _ _ (if (Value.type "builtin_function_or_method" != Value.type "method") = true then (checkBoundCall "collections.defaultdict.__missing__" ⟨[.ref bk, .str c t], []⟩ >>= fun _ => again (.builtin "collections.defaultdict.__missing__" ⟨[.ref bk, .str c t], []⟩)) else _) _ _ _
  rw [if_pos (by decide)]
  refine wpAny_bind ?_
  unfold checkBoundCall
  repeat lk
  refine ⟨plainId_quiet ddm_plain _, codeAny_builtin ddm_entry ?_⟩
  rw [Around.under_plainId ddm_plain _]
  exact h
end
end
section
noncomputable abbrev fd98 : FuncData := ⟨"__missing__", "FreezableDefaultDict.__missing__", a4_1.1, .stmts b4_1.1, s4_1.1, 3, [("__class__", 86)], .none, .none, .none, .str "cpy313.importlib.metadata._collections" 286, none, .ref 97, .ref 91, 0⟩
noncomputable abbrev env98 (L : Addr) : Env := callEnv fd98 L 98
section
variable {α : Type} {M : Model} {A : Around} {c : Code} {E : Value → Shared → Prop} {s : Shared}
theorem at_spliced_nil {Q : List Value → Shared → Prop} (h : Q [] s) : PySem.wpAt M A c (spliced []) Q E s := PySem.wpAt_of_wpAny (wpAny_pure h)
theorem at_spliced_cons {x : Sem Value} {rest : List (Bool × Sem Value)} {Q : List Value → Shared → Prop} (h : PySem.wpAt M A c x (fun v s₁ => PySem.wpAt M A c (spliced rest) (fun vs s₂ => Q (v :: vs) s₂) E s₁) E s) :
    PySem.wpAt M A c (spliced ((false, x) :: rest)) Q E s := by
  rw [spliced]
  refine PySem.wpAt_bind (ks_wpAt_mono h (fun v s₁ h₁ => ?_) fun _ _ x => x)
  simp only [Bool.false_eq_true, if_false]
  refine PySem.wpAt_bind (PySem.wpAt_of_wpAny (wpAny_pure ?_))
  exact PySem.wpAt_bind (ks_wpAt_holding (ks_wpAt_mono h₁ (fun vs s₂ h₂ => PySem.wpAt_of_wpAny (wpAny_pure h₂)) fun _ _ x => x))
theorem at_evalArgs {f : Value} {x : Sem Value} {rest : List (Bool × Sem Value)} {Q : Args → Shared → Prop} (h : PySem.wpAt M A c (spliced ((false, x) :: rest)) (fun vs s₁ => Q ⟨vs, []⟩ s₁) E s) :
    PySem.wpAt M A c (evalArgs f true ((false, x) :: rest) []) Q E s := by
  unfold evalArgs
  show PySem.wpAt M A c (spliced ((false, x) :: rest) >>= _) Q E s
  refine PySem.wpAt_bind (ks_wpAt_mono h (fun vs s₁ h₁ => ?_) fun _ _ x => x)
  refine ks_wpAt_holding ?_
  exact PySem.wpAt_of_wpAny (wpAny_bind (wpAny_pure (wpAny_bind (wpAny_pure (wpAny_pure h₁)))))
theorem at_callWith {pos : Pos} {id : String} {first : List Value} {args : List (Bool × Sem Value)} {Q : Value → Shared → Prop} (hplain : args.any (·.1) = false)
    (h : PySem.wpAt M A c (evalArgs (.builtin id) true args []) (fun a s₁ => wpAny M A (call (.builtin id) (first ++ a.pos) a.kw) Q E s₁) E s) : PySem.wpAt M A c (callWith pos (.builtin id) first args []) Q E s := by
  unfold callWith
  refine PySem.wpAt_bind (ks_wpAt_holding (ks_wpAt_mono h (fun a s₁ h₁ => PySem.wpAt_of_wpAny (wpAny_bind (wpAny_standAt ?_))) fun _ _ x => x))
  simp only [hplain, List.any_nil, Bool.or_false]
  refine wpAny_bind (wpAny_pure ?_)
  exact wpAny_bind (wpAny_mono h₁ (fun r s₂ hr => wpAny_bind (wpAny_holding (wpAny_point (wpAny_pure hr)))) fun _ _ x => x)
end
section
variable {w : World} {A : Around} {E : Value → Shared → Prop} {s : Shared} {bk bd lf : Addr} {es : List DictEntry} {n : Nat} {c : Str} {t : Tok} {Q : Value → Shared → Prop} {mg mb : Str → Option Value} {p : Program} {loose : List Str}
theorem missing_enter (X : (KK w.params).In s.heap) (T : TopRead p loose mg mb s.heap) (hroom : A.depth < recursionLimit)
    (h : ∀ h₁ L, L = s.heap.objs.size → h₁.Ns L (fun x => ([(Str.ofString "key", Value.str c t), (Str.ofString "self", Value.ref bk)] : List (Str × Value)).lookup x) → Ext s.heap h₁ →
      PySem.wpAt (model PR w) (A.deeper (env98 L)) (.func b4_1.1 (env98 L)) (execs b4_1.1 (env98 L)) (fun f s' => match f with | .ret v => Q v s' | _ => Q .none s') (fun _ _ => False) { s with heap := h₁, toks := s.toks + 2 }) :
    wpAny (model PR w) A (call (.ref 98) [.ref bk, .str c t]) Q E s := by
  refine wpAny_call (ks_codeAny_call_defAt (fd := fd98) (body := b4_1.1) (binds := [("self", Value.ref bk), ("key", .str c t)]) hroom (X 98 (o_98 w.params) (by kernel_rfl)) rfl T.nolimit (codeRec_of (cd := .ref 97) X (by kernel_rfl)) rfl (BindsTo.of_eq rfl) (by decide) (locs rfl) (fun h₁ hns hk₁ => ?_) rfl rfl rfl)
  refine ks_wpAt_mono (h h₁ _ rfl hns hk₁) (fun f s' z => ?_) (fun e s' z => z.elim)
  cases f <;> exact z
theorem name_builtin {env : Env} {x : Str} {pos : Pos} {v : Value} {Q : Value → Shared → Prop} (X : (KK w.params).In s.heap) (T : TopRead p loose mg mb s.heap) (hk : env.scope.kind = .function) (hx : env.kindOf x = some .globalImplicit) (hg : env.globals = mainGlobals) (hb : env.builtins = builtinsNs)
    (e1 : nsIn (KK w.params) mainGlobals x = some none) (e2 : bootBuiltins x = some v) (hn : x ≠ "__name__") (hd : (x == ("__debug__" : Str)) = false) (h : Q v s) : wpAny (model PR w) A (eval (.Name x pos) env) Q E s :=
  wpAny_Name (ks_loadName_global hk hx (loadGlobal_builtin (hg ▸ T.g) (mg_none_of X T.g e1) (hb ▸ T.b) ((T.builtins x hn).trans e2) h)) hd
theorem name_local {env : Env} {L : Addr} {x : Str} {pos : Pos} {v : Value} {m : Str → Option Value} {Q : Value → Shared → Prop} (hk : env.scope.kind = .function) (hx : env.scope.names.lookup x = some .local) (hl : env.locals = L) (hn : s.heap.Ns L m) (hv : m x = some v)
    (hd : (x == ("__debug__" : Str)) = false) (h : Q v s) : wpAny (model PR w) A (eval (.Name x pos) env) Q E s :=
  wpAny_Name (wpAny_loadName_local hk hx (hl ▸ hn) hv h) hd
theorem arm_call_call (g : Expr) (a : List Expr) (k : List Keyword) (q : Pos) (args : List Expr) (pos : Pos) (env : Env) : eval (.Call (.Call g a k q) args [] pos) env =
    (eval (.Call g a k q) env >>= fun f => callWith pos f [] (backTo pos (starEach args env)) []) := rfl
theorem missing_body {A : Around} {L : Addr} {Q : Flow → Shared → Prop} (X : (KK w.params).In s.heap) (T : TopRead p loose mg mb s.heap) (hn : s.heap.Ns L (fun x => ([(Str.ofString "key", Value.str c t), (Str.ofString "self", Value.ref bk)] : List (Str × Value)).lookup x)) (hb : s.heap.get? bk = some (bookObj bd lf es n)) (hbk : (Value.ref bk == Value.ref 108) = false)
    (h : ∀ h' tk bb u, Ext s.heap h' → h'.get? bb = some (boundMissing bk) → s.heap.get? bb = none → wpAny (model PR w) A (call (.builtin "getattr") [.ref bk, .str "_frozen" u, .ref bb]) (fun f s₁ => wpAny (model PR w) A (callWith ⟨40, 15, 40, 65⟩ f [] [(false, eval (.Name "key" ⟨40, 61, 40, 64⟩) (env98 L))] []) (fun v s₂ => Q (.ret v) s₂) E s₁) E ⟨h', s.gens, s.drawn, tk, s.os⟩) :
    PySem.wpAt (model PR w) A (.func b4_1.1 (env98 L)) (execs b4_1.1 (env98 L)) Q E s := by
  refine ks_wpAt_execs_cons (ks_wpAt_Return_some ?_)
  rw [arm_call_call, arm_eval_Call_Name']
  refine PySem.wpAt_bind ?_
  refine PySem.wpAt_bind (PySem.wpAt_of_wpAny (name_builtin (v := .builtin "getattr") X T rfl rfl rfl rfl (by kernel_rfl) (by kernel_rfl) (by decide) (by decide) ?_))
  refine at_callWith rfl ?_
  refine at_evalArgs (at_spliced_cons (PySem.wpAt_of_wpAny (name_local rfl rfl rfl hn rfl (by decide) ?_)))
  refine at_spliced_cons (PySem.wpAt_of_wpAny (Constant_str (k := 0) (pos := ⟨40, 29, 40, 38⟩) ?_))
  refine at_spliced_cons ?_
  rw [arm_eval_Attribute]
  refine PySem.wpAt_bind ?_
  have hD1 := X 108 (o_108 w.params) (by kernel_rfl)
  have hz : s.toks + 1 = s.toks + 1 := rfl
  refine ks_wpAt_super_base (env := env98 L) (f := 98) (cc := 97) (fd := fd98) (file := "/claim/cut.py") (tf := 362) rfl rfl (by decide) rfl (X 98 (o_98 w.params) (by kernel_rfl)) rfl rfl rfl (X 97 (o_97 w.params) (by kernel_rfl)) rfl rfl (by kernel_rfl) (by kernel_rfl) ?_
  refine ks_loadName_global rfl rfl (loadGlobal_builtin (env := env98 L) (v := .type "super") T.g (mg_none_of X T.g (by kernel_rfl)) T.b ((T.builtins _ (by decide)).trans (by kernel_rfl)) ⟨rfl, ?_⟩)
  refine wpAny_loadName_free rfl rfl rfl ⟨_, X 86 (o_86 w.params) (by kernel_rfl), rfl⟩ ?_
  refine wpAny_loadName_local rfl rfl hn rfl ?_
  refine ks_wpAny_isType_cls hD1 rfl ⟨rfl, ?_⟩
  have hsub : Looks (model PR w) s.heap (isSubtype (.ref 108) (.ref 108)) true := Looks.of_peek X (by kernel_rfl)
  refine ks_wpAny_call_super hD1 rfl hb rfl (fun c e => by cases e) hsub (fun h₂ e2 k2 => ?_)
  refine PySem.wpAt_bind (PySem.wpAt_of_wpAny (wpAny_standAt ?_))
  refine PySem.wpAt_bind (PySem.wpAt_of_wpAny (wpAny_holding (super_missing (X.keeps k2) (k2 _ _ hb) hbk e2 ?_)))
  refine PySem.wpAt_bind (PySem.wpAt_of_wpAny (wpAny_letTemporaryGo ?_))
  refine PySem.wpAt_of_wpAny (wpAny_pure ?_)
  refine at_spliced_nil ?_
  refine wpAny_mono (h (h₂.push (boundMissing bk)) _ _ s.toks (fun b o e => Heap.get?_push_of_some _ (k2 b o e)) (Heap.get?_push_size _ rfl) ?_) (fun f s₁ z => ?_) fun _ _ z => z
  · cases hh : s.heap.get? h₂.objs.size with
    | none => rfl
    | some o => exact absurd (Heap.lt_size (k2 _ _ hh)) (Nat.lt_irrefl _)
  · refine PySem.wpAt_of_wpAny (wpAny_mono z (fun v s₂ z => z) fun _ _ z => z)
end
end
section
section
variable {w : World} {A : Around} {E : Value → Shared → Prop} {s : Shared} {bk bd lf : Addr} {es : List DictEntry} {n : Nat} {c : Str} {t : Tok} {Q : Value → Shared → Prop} {mg mb : Str → Option Value} {p : Program} {loose : List Str}
theorem keep_bound {h : Heap} {bb : Addr} (hbb : h.get? bb = some (boundMissing bk)) : Looks (model PR w) h (keeperOf (.ref bb)) .machine := by
  unfold keeperOf
  exact (Looks.ld hbb).andThen (Looks.of_pure rfl)
theorem missing_u {fd : FuncData} {olf : Obj} (X : (KK w.params).In s.heap) (T : TopRead p loose mg mb s.heap) (hroom : A.depth < recursionLimit) (hh : A.handled = none) (hb : s.heap.get? bk = some (bookObj bd lf es n)) (hd : s.heap.get? bd = some (dictOf [] 0))
    (hbk : (Value.ref bk == Value.ref 108) = false) (hs : (bk == sysModules) = false) (hlf : s.heap.get? lf = some olf) (hfd : olf.data = .func fd)
    (hfac : ∀ A' h₃ tk, A'.handled = none → A'.depth ≤ A.depth + 10 → Ext s.heap h₃ → codeAny (model PR w) A' (.call (.ref lf) ⟨[], []⟩) (fun r s' => match r with
        | .ok (.ret v) => ∃ es' n', (KK w.params).In s'.heap ∧ s'.heap.get? bk = some (bookObj bd lf es' n') ∧ KeysOf (strKind PR w) es'.toArray ∧ findBy Value.isStrOf es'.toArray c = none ∧ es'.length + 1 ≤ sizeLine ∧
            ∀ h' tk, h'.get? bk = some (bookObj bd lf (es' ++ [⟨hashStr w c, .str c t, v⟩]) (n' + 1)) → Heap.SameBut bk s'.heap h' → Q v { s' with heap := h', toks := tk }
        | _ => False) ⟨h₃, s.gens, s.drawn, tk, s.os⟩) :
    wpAny (model PR w) A (call (.ref 98) [.ref bk, .str c t]) Q E s := by
  refine missing_enter X T hroom (fun h₁ L hL hns k₁ => ?_)
  refine ks_wpAt_mono (missing_body (s := ⟨h₁, s.gens, s.drawn, s.toks + 2, s.os⟩) (E := fun _ _ => False) (Q := fun f s' => match f with | .ret v => Q v s' | _ => Q .none s') (X.keeps k₁) (T.keeps k₁) hns (k₁ _ _ hb) hbk (fun h' tk bb u e hbb hnew => ?_)) (fun f s' z => z) fun _ _ z => z
  have k₂ : Ext s.heap h' := fun b o q => e _ _ (k₁ b o q)
  have X₂ := X.keeps k₂
  refine getattr_none (s := ⟨h', s.gens, s.drawn, tk, s.os⟩) hh X₂ (k₂ _ _ hb) (k₂ _ _ hd) (fun h'' tk' e' => ?_)
  have k₃ : Ext s.heap h'' := fun b o q => e' _ _ (k₂ b o q)
  refine callWith_of (P := fun g => g.get? bb = some (boundMissing bk)) rfl (fun g hg => ⟨_, .inr (.inl rfl), keep_bound hg⟩) (evalArgs_plain (spliced_cons ?_))
  have hns' : h''.Ns L (fun x => ([(Str.ofString "key", Value.str c t), (Str.ofString "self", Value.ref bk)] : List (Str × Value)).lookup x) := hns.keeps (fun b o q => e' _ _ (e _ _ q))
  refine name_local (s := ⟨h'', s.gens, s.drawn, tk', s.os⟩) rfl rfl rfl hns' rfl (by decide) ?_
  refine spliced_nil ⟨e' _ _ hbb, ?_⟩
  refine bound_call (X.keeps k₃) (k₃ _ _ hb) (e' _ _ hbb) ?_
  refine dd_core (X.keeps k₃) (k₃ _ _ hb) hs (k₃ _ _ hlf) hfd ?_
  refine codeAny_mono (hfac _ h'' tk' hh ?dep k₃) (fun r s' z => z)
  case dep => (show A.depth + 1 ≤ A.depth + 10); (first | lia | omega)
end
end
section
noncomputable def facLam : Expr := match b18.1.getD 1 (.Pass default) with | .Assign _ (.Call _ [l] _ _) _ => l | _ => .Constant .none 0 default
noncomputable def frzLam : Expr := match b4_2.1.getD 0 (.Pass default) with | .Assign _ l _ => l | _ => .Constant .none 0 default
noncomputable def lamA (e : Expr) : Arguments := match e with | .Lambda a _ _ _ => a | _ => ⟨[], [], none, [], [], none, []⟩
noncomputable def lamB (e : Expr) : Expr := match e with | .Lambda _ b _ _ => b | _ => .Constant .none 0 default
noncomputable def lamS (e : Expr) : Scope := match e with | .Lambda _ _ s _ => s | _ => default
@[reducible] noncomputable def fA : {x : Arguments // x = lamA facLam} := ⟨⟨_, _, _, _, _, _, _⟩, rfl⟩
@[reducible] noncomputable def fB : {x : Expr // x = lamB facLam} := ⟨.Call _ _ _ _, rfl⟩
@[reducible] noncomputable def fS : {x : Scope // x = lamS facLam} := ⟨⟨_, _, _, _, _⟩, rfl⟩
@[reducible] noncomputable def zA : {x : Arguments // x = lamA frzLam} := ⟨⟨_, _, _, _, _, _, _⟩, rfl⟩
@[reducible] noncomputable def zB : {x : Expr // x = lamB frzLam} := ⟨.Call _ _ _ _, rfl⟩
@[reducible] noncomputable def zS : {x : Scope // x = lamS frzLam} := ⟨⟨_, _, _, _, _⟩, rfl⟩
noncomputable abbrev facObj (cw : Addr) (qual : Str) (pm : Value) (c' : Addr) (ctv : Value) : Obj := kla_obj "<lambda>" qual fA.1 fB.1 fS.1 [("world", cw)] pm c' ctv
noncomputable abbrev frzObj (cs : Addr) (qual : Str) (pm : Value) (c' : Addr) (ctv : Value) : Obj := kla_obj "<lambda>" qual zA.1 zB.1 zS.1 [("self", cs)] pm c' ctv
section
variable {w : World} {A : Around} {R : Result → Shared → Prop} {s : Shared} {mg mb : Str → Option Value} {p : Program} {loose : List Str} {lf cw wd c' : Addr} {qual : Str} {pm ctv : Value}
theorem fac_call (X : (KK w.params).In s.heap) (T : TopRead p loose mg mb s.heap) (hroom : A.depth < recursionLimit) (ho : s.heap.get? lf = some (facObj cw qual pm c' ctv)) (hc : s.heap.IsCell cw (some (.ref wd))) (hcd : s.heap.CodeRec (.ref c') qual)
    (h : ∀ A' h₁ tk, A'.handled = A.handled → A'.depth = A.depth + 1 → Ext s.heap h₁ → wpAny (model PR w) A' (call (.ref 301) [.ref wd]) (fun v s' => R (.ok (.ret v)) s') (fun _ _ => False) ⟨h₁, s.gens, s.drawn, tk, s.os⟩) :
    codeAny (model PR w) A (.call (.ref lf) ⟨[], []⟩) R s := by
  refine kla_callFunE hroom ho rfl rfl rfl rfl hcd ?_
  have hb : bindArgs (kla_fn "<lambda>" qual fA.1 fB.1 fS.1 [("world", cw)] pm (.ref c') ctv) ⟨[], []⟩ = pure [] := by rfl
  rw [hb]
  refine wpAny_pure (wpAny_newFunctionEnv (by show ∀ x ∈ fS.1.names, x.2 ≠ .cell; decide) (by intro x hx; cases hx) (fun h₁ hns hsb => ⟨T.nolimit.fresh _ hsb, ?_⟩) rfl)
  refine kla_codeExpr ?_
  have hk₁ : ∀ b o, s.heap.get? b = some o → h₁.get? b = some o := fun b o e => hsb.extBut b o (Nat.ne_of_lt (Heap.lt_size e)) (Heap.get?_push_of_some _ e)
  have T' := T.keeps hk₁
  have X' := X.keeps hk₁
  show wpAny _ _ (eval fB.1 (callEnv (kla_fn "<lambda>" qual fA.1 fB.1 fS.1 [("world", cw)] pm (.ref c') ctv) s.heap.objs.size lf)) _ _ _
  generalize hE : callEnv (kla_fn "<lambda>" qual fA.1 fB.1 fS.1 [("world", cw)] pm (.ref c') ctv) s.heap.objs.size lf = env
  have hes : env.scope = fS.1 := by rw [← hE]; rfl
  have heg : env.globals = mainGlobals := by rw [← hE]; rfl
  have hec : env.cells = [(Str.ofString "world", cw)] := by rw [← hE]; rfl
  have hkk : env.scope.kind = .function := by rw [hes]
  have hk1 : env.kindOf "_law_made" = some .globalImplicit := by unfold Env.kindOf; rw [hes]; rfl
  have hk2 : env.kindOf "world" = some .free := by unfold Env.kindOf; rw [hes]; rfl
  rw [arm_eval_Call_Name']
  refine wpAny_bind (wpAny_Name (ks_loadName_global hkk hk1 (loadGlobal_global (v := .ref 301) (heg ▸ T'.g) (mg_of X' T'.g (by kernel_rfl)) ?_)) (by decide))
  refine callWith_of (P := fun g => (KK w.params).In g) rfl (keeps_K (by kernel_rfl)) (evalArgs_plain (spliced_cons ?_))
  refine wpAny_Name (wpAny_loadName_free hkk hk2 (by rw [hec]; rfl) (hc.keeps hk₁) ?_) (by decide)
  refine spliced_nil ⟨X', ?_⟩
  refine wpAny_mono (h _ h₁ _ rfl rfl hk₁) (fun v s' z => z) fun _ _ z => z.elim
end
end
section
noncomputable abbrev dfB : Value := .builtin "collections.defaultdict.default_factory"
theorem mem_entry : entryFor table "member_descriptor.__get__" = some Builtin.«member_descriptor.__get__» := entryFor_of_tree (by kernel_rfl)
theorem mem_plain : plainId "member_descriptor.__get__" = true := by decide +kernel
theorem mem_kind : builtinKind "member_descriptor.__get__" = some .slot := by kernel_rfl
theorem mem_split : splitId "member_descriptor.__get__" = some ("member_descriptor", "__get__") := by kernel_rfl
theorem mem_args (a b c : Value) : argsOk "member_descriptor.__get__" ⟨[a, b, c], []⟩ := by unfold argsOk; kernel_rfl
theorem df_type : typeOf dfB = pure (.type "member_descriptor") := by show builtinType _ = _; rw [builtinType_eq_fast]; kernel_rfl
theorem mem_sub : isSubtype (.type "member_descriptor") (.type "member_descriptor") = pure true := by rw [isSubtype_type]; kernel_rfl
theorem df_entry : entryFor table "collections.defaultdict.default_factory" = some Builtin.«collections.defaultdict.default_factory» := entryFor_of_tree (by kernel_rfl)
theorem df_plain : plainId "collections.defaultdict.default_factory" = true := by decide +kernel
section
variable {w : World} {A : Around} {E : Value → Shared → Prop} {s : Shared} {bk bd lf : Addr} {es : List DictEntry} {n : Nat}
theorem mem_get {Q : Value → Shared → Prop} (X : (KK w.params).In s.heap) (hb : s.heap.get? bk = some (bookObj bd lf es n)) (hq : Q (.ref lf) s) :
    wpAny (model PR w) A (call (.builtin "member_descriptor.__get__") [dfB, .ref bk, .ref 108]) Q E s := by
  have L0 : Looks (model PR w) s.heap (typeOf (.ref bk)) (.ref 108) := (Looks.ld hb).andThen .now
  have L1 : Looks (model PR w) s.heap (typeOf dfB) (.type "member_descriptor") := Looks.of_pure df_type
  have L2 : Looks (model PR w) s.heap (isSubtype (.type "member_descriptor") (.type "member_descriptor")) true := Looks.of_pure mem_sub
  have Ls : Looks (model PR w) s.heap (Builtin.Collections_defaultdict.factory? (.ref bk)) (some (.ref lf)) := ((Looks.ld hb).andThen .now).andThen (Looks.of_pure rfl)
  have L3 : Looks (model PR w) s.heap (isSubtype (.ref 108) (.type (".".intercalate ("collections.defaultdict.default_factory".cutAt '.').dropLast))) true := Looks.of_peek X (by kernel_rfl)
  obtain ⟨hp, g, dr, tk, os⟩ := s
  dsimp only at L0 L1 L2 L3 hb X hq Ls
  refine call_slot (.inl mem_kind) mem_split mem_plain mem_entry (mem_args _ _ _) L1 L2 ?_
  unfold Builtin.«member_descriptor.__get__»
  repeat lk
  refine ⟨plainId_quiet df_plain _, codeAny_builtin df_entry ?_⟩
  rw [Around.under_plainId df_plain _]
  unfold Builtin.«collections.defaultdict.default_factory»
  repeat (first | (with_reducible refine Looks.at Ls ?_) | lk)
  exact hq
theorem get_factory {od : Obj} {expr : Bool} {Q : Value → Shared → Prop} (X : (KK w.params).In s.heap) (hb : s.heap.get? bk = some (bookObj bd lf es n)) (hd : s.heap.get? bd = some od) (hq : ∀ tk, Q (.ref lf) { s with toks := tk }) :
    wpAny (model PR w) A (getAttr (.ref bk) "default_factory" expr) Q E s := by
  have I : InstAt s.heap bk (bookObj bd lf es n) 108 (some od) := ⟨hb, rfl, rfl, hd⟩
  refine ga_bind ga_ddict X I (bk_ga _) (by kernel_rfl) (bk_gh _) (g := .builtin "member_descriptor.__get__") (a := dfB) (by kernel_rfl) ?_
  refine mem_get (s := { s with toks := s.toks + 1 }) X hb ?_
  refine handed_on rfl ?_
  exact hq _
end
end
section
section
variable {w : World} {A : Around} {E : Value → Shared → Prop} {s : Shared} {bk bd lf fl cs c' : Addr} {es : List DictEntry} {n : Nat} {qual : Str} {pm ctv : Value} {mg mb : Str → Option Value} {p : Program} {loose : List Str} {R : Result → Shared → Prop}
theorem gm_factory {od : Obj} {pl : Sem Bool} {Q : Value × List Value → Shared → Prop} (X : (KK w.params).In s.heap) (hb : s.heap.get? bk = some (bookObj bd lf es n)) (hd : s.heap.get? bd = some od) (hq : ∀ tk, Q (.ref lf, []) { s with toks := tk }) :
    wpAny (model PR w) A (getMethod (.ref bk) "default_factory" pl) Q E s := by
  have I : InstAt s.heap bk (bookObj bd lf es n) 108 (some od) := ⟨hb, rfl, rfl, hd⟩
  have L0 := I.type (M := model PR w)
  have L1 := looks_findIn (M := model PR w) X (bk_ga _)
  have L2 := looks_findIn (M := model PR w) X (bk_gh _)
  have L3 := looks_findIn (M := model PR w) X (show findIn (KK w.params) (.ref 108) "default_factory" = some (some dfB) by kernel_rfl)
  have hc : (Manifest.canonical "collections.defaultdict.__getattribute__" != "object.__getattribute__") = false := by decide +kernel
  have ht : ((Value.type "member_descriptor" != Value.type "function") && (Value.type "member_descriptor" != Value.type "method_descriptor") && (Value.type "member_descriptor" != Value.type "wrapper_descriptor")) = true := by decide
  unfold getMethod specialOf
  refine wpAny_bind (wpAny_bind (L0.here (L1.here ?_)))
  dsimp only
  rw [hc]
  simp only [Bool.false_eq_true, if_false]
  refine wpAny_bind (wpAny_bind (L0.here (L2.here ?_)))
  simp only [Option.isSome_none, Bool.false_eq_true, if_false]
  refine wpAny_bind (wpAny_bind (L0.here (L3.here ?_)))
  dsimp only
  refine wpAny_bind (wpAny_of_eq df_type ?_)
  rw [ht]
  simp only [if_true]
  exact wpAny_bind (get_factory X hb hd fun tk => wpAny_pure (hq tk))
theorem frz_call {od : Obj} {v0 : Value} {fdf : FuncData} {olf : Obj} (X : (KK w.params).In s.heap) (T : TopRead p loose mg mb s.heap) (hroom : A.depth < recursionLimit) (ho : s.heap.get? fl = some (frzObj cs qual pm c' ctv)) (hc : s.heap.IsCell cs (some (.ref bk))) (hcd : s.heap.CodeRec (.ref c') qual)
    (hb : s.heap.get? bk = some (bookObj bd lf es n)) (hd : s.heap.get? bd = some od) (hlf : s.heap.get? lf = some olf) (hlfd : olf.data = .func fdf)
    (h : ∀ A' h₁ tk, A'.handled = A.handled → A'.depth = A.depth + 1 → Ext s.heap h₁ → codeAny (model PR w) A' (.call (.ref lf) ⟨[], []⟩) (fun r s' => match r with | .ok (.ret v) => R (.ok (.ret v)) s' | _ => False) ⟨h₁, s.gens, s.drawn, tk, s.os⟩) :
    codeAny (model PR w) A (.call (.ref fl) ⟨[v0], []⟩) R s := by
  refine kla_callFunE hroom ho rfl rfl rfl rfl hcd ?_
  have hbi : bindArgs (kla_fn "<lambda>" qual zA.1 zB.1 zS.1 [("self", cs)] pm (.ref c') ctv) ⟨[v0], []⟩ = pure [(Str.ofString "key", v0)] := by rfl
  rw [hbi]
  refine wpAny_pure (wpAny_newFunctionEnv (by show ∀ x ∈ zS.1.names, x.2 ≠ .cell; decide) (locs rfl) (fun h₁ hns hsb => ⟨T.nolimit.fresh _ hsb, ?_⟩) rfl)
  refine kla_codeExpr ?_
  have hk₁ : ∀ b o, s.heap.get? b = some o → h₁.get? b = some o := fun b o e => hsb.extBut b o (Nat.ne_of_lt (Heap.lt_size e)) (Heap.get?_push_of_some _ e)
  have T' := T.keeps hk₁
  have X' := X.keeps hk₁
  show wpAny _ _ (eval zB.1 (callEnv (kla_fn "<lambda>" qual zA.1 zB.1 zS.1 [("self", cs)] pm (.ref c') ctv) s.heap.objs.size fl)) _ _ _
  generalize hE : callEnv (kla_fn "<lambda>" qual zA.1 zB.1 zS.1 [("self", cs)] pm (.ref c') ctv) s.heap.objs.size fl = env
  have hes : env.scope = zS.1 := by rw [← hE]; rfl
  have hec : env.cells = [(Str.ofString "self", cs)] := by rw [← hE]; rfl
  have hkk : env.scope.kind = .function := by rw [hes]
  have hk2 : env.kindOf "self" = some .free := by unfold Env.kindOf; rw [hes]; rfl
  refine methodCall_KW (kws := []) (args := []) ?_
  refine wpAny_Name (wpAny_loadName_free hkk hk2 (by rw [hec]; rfl) (hc.keeps hk₁) ?_) (by decide)
  refine gm_factory (s := ⟨h₁, s.gens, s.drawn, _, s.os⟩) X' (hk₁ _ _ hb) (hk₁ _ _ hd) (fun tk => ?_)
  refine callWith_of (P := fun g => g.get? lf = some olf) rfl (fun g hg => ⟨.frame, .inl rfl, (Looks.ld hg).andThen (by rw [hlfd]; exact .now)⟩) (evalArgs_nil3 ⟨hk₁ _ _ hlf, ?_⟩)
  refine wpAny_call (codeAny_mono (h _ h₁ tk rfl rfl hk₁) fun r s' z => ?_)
  rcases r with e | (v | _ | _ | _) <;> first | exact z | exact z.elim
end
end
section
section
variable {w : World} {A : Around} {E : Value → Shared → Prop} {s : Shared} {bk bd lf fl cs c' : Addr} {es : List DictEntry} {n : Nat} {c : Str} {t : Tok} {qual : Str} {pm ctv : Value} {mg mb : Str → Option Value} {p : Program} {loose : List Str} {Q : Value → Shared → Prop}
theorem missing_f {fd : FuncData} {olf : Obj} {tf : Tok} {k : Nat} (X : (KK w.params).In s.heap) (T : TopRead p loose mg mb s.heap) (hroom : A.depth + 10 < recursionLimit) (hh : A.handled = none) (hb : s.heap.get? bk = some (bookObj bd lf es n)) (hd : s.heap.get? bd = some (frozenDict w.params tf fl k))
    (hbk : (Value.ref bk == Value.ref 108) = false) (hlf : s.heap.get? lf = some olf) (hfd : olf.data = .func fd)
    (hfl : s.heap.get? fl = some (frzObj cs qual pm c' ctv)) (hcs : s.heap.IsCell cs (some (.ref bk))) (hcd : s.heap.CodeRec (.ref c') qual)
    (hfac : ∀ A' h₃ tk, A'.handled = none → A'.depth ≤ A.depth + 10 → Ext s.heap h₃ → codeAny (model PR w) A' (.call (.ref lf) ⟨[], []⟩) (fun r s' => match r with | .ok (.ret v) => Q v s' | _ => False) ⟨h₃, s.gens, s.drawn, tk, s.os⟩) :
    wpAny (model PR w) A (call (.ref 98) [.ref bk, .str c t]) Q E s := by
  refine missing_enter X T (by (first | lia | omega)) (fun h₁ L hL hns k₁ => ?_)
  refine ks_wpAt_mono (missing_body (s := ⟨h₁, s.gens, s.drawn, s.toks + 2, s.os⟩) (E := fun _ _ => False) (Q := fun f s' => match f with | .ret v => Q v s' | _ => Q .none s') (X.keeps k₁) (T.keeps k₁) hns (k₁ _ _ hb) hbk (fun h' tk bb u e hbb hnew => ?_)) (fun f s' z => z) fun _ _ z => z
  have k₂ : Ext s.heap h' := fun b o q => e _ _ (k₁ b o q)
  have X₂ := X.keeps k₂
  refine getattr_some (s := ⟨h', s.gens, s.drawn, tk, s.os⟩) X₂ (k₂ _ _ hb) (k₂ _ _ hd) (fun tk' => ?_)
  refine callWith_of (P := fun g => g.get? fl = some (frzObj cs qual pm c' ctv)) rfl (fun g hg => ⟨.frame, .inl rfl, (Looks.ld hg).andThen .now⟩) (evalArgs_plain (spliced_cons ?_))
  have hns' : h'.Ns L (fun x => ([(Str.ofString "key", Value.str c t), (Str.ofString "self", Value.ref bk)] : List (Str × Value)).lookup x) := hns.keeps (fun b o q => e _ _ q)
  refine name_local (s := ⟨h', s.gens, s.drawn, tk', s.os⟩) rfl rfl rfl hns' rfl (by decide) ?_
  refine spliced_nil ⟨k₂ _ _ hfl, ?_⟩
  have hcd' : h'.CodeRec (.ref c') qual := by
    obtain ⟨c₂, oc, vs, tq, e2, hoc, hdc, hq⟩ := hcd
    exact ⟨c₂, oc, vs, tq, e2, k₂ _ _ hoc, hdc, hq⟩
  refine wpAny_call (frz_call X₂ (T.keeps k₂) (by show A.depth + 1 < recursionLimit; (first | lia | omega)) (k₂ _ _ hfl) (hcs.keeps k₂) hcd' (k₂ _ _ hb) (k₂ _ _ hd) (k₂ _ _ hlf) hfd (fun A' h₃ tk₃ a1 a2 e₃ => ?_))
  refine hfac A' h₃ tk₃ (a1.trans hh) ?_ (fun b o q => e₃ _ _ (k₂ b o q))
  rw [a2]
  show A.depth + 1 + 1 ≤ A.depth + 10
  (first | lia | omega)
end
end
section
theorem ofL_inj : ∀ {a b : List Nat}, ofL a = ofL b → a = b := by
  intro a b h
  have := congrArg (fun s : Str => s.cps.toList) h
  simpa [ofL] using this
theorem app_inj : ∀ {a b c d : List Nat} {x : Nat}, x ∉ a → x ∉ b → a ++ x :: c = b ++ x :: d → a = b ∧ c = d
  | [], [], _, _, _, _, _, h => ⟨rfl, (List.cons.inj h).2⟩
  | [], y :: b, _, _, _, _, hb, h => absurd (List.mem_cons.mpr (.inl (List.cons.inj h).1)) hb
  | y :: a, [], _, _, _, ha, _, h => absurd (List.mem_cons.mpr (.inl (List.cons.inj h).1.symm)) ha
  | y :: a, z :: b, _, _, _, ha, hb, h => by
    obtain ⟨h1, h2⟩ := List.cons.inj h
    obtain ⟨e1, e2⟩ := app_inj (fun q => ha (.tail _ q)) (fun q => hb (.tail _ q)) h2
    exact ⟨by rw [h1, e1], e2⟩
theorem enc_inj {a b c d : List Nat} (ha : 61 ∉ a) (hb : 61 ∉ b) (h : enc a c = enc b d) : a = b ∧ c = d := app_inj ha hb (ofL_inj h)
noncomputable def Good (n : Nat) (al : List Nat) (D : List (Str × Nat)) : Prop := ∀ d ∈ D, ∃ r, d = (enc r al, ways al r) ∧ r.length < n ∧ GoodN r
noncomputable def GoodBk (Bk : List (Str × Nat)) : Prop := ∀ d ∈ Bk, ∃ r al, d = (enc r al, ways al r) ∧ 61 ∉ r
theorem Good.bk {n al D} (h : Good n al D) : GoodBk D := fun d hd => let ⟨r, e, _, x⟩ := h d hd; ⟨r, al, e, x.ne61⟩
theorem Good.mono {n k al D} (h : Good n al D) (l : n ≤ k) : Good k al D := fun d hd => let ⟨r, e, y, x⟩ := h d hd; ⟨r, e, Nat.lt_of_lt_of_le y l, x⟩
theorem Good.nil {n al} : Good n al [] := fun _ h => nomatch h
theorem Good.app {n al D D'} (h : Good n al D) (h' : Good n al D') : Good n al (D ++ D') := fun d hd => (List.mem_append.mp hd).elim (h d) (h' d)
theorem GoodBk.app {D D'} (h : GoodBk D) (h' : GoodBk D') : GoodBk (D ++ D') := fun d hd => (List.mem_append.mp hd).elim (h d) (h' d)
theorem GoodBk.hit {Bk : List (Str × Nat)} {name al : List Nat} {n : Nat} (h : GoodBk Bk) (hn : 61 ∉ name) (hm : (enc name al, n) ∈ Bk) : n = ways al name := by
  obtain ⟨r, al', e, x⟩ := h _ hm
  have h1 := congrArg Prod.fst e
  have h2 := congrArg Prod.snd e
  dsimp only at h1 h2
  obtain ⟨e1, e2⟩ := enc_inj x hn h1.symm
  rw [h2, e1, e2]
theorem Good.fresh {al D name} (h : Good name.length al D) (hn : 61 ∉ name) : enc name al ∉ D.map (·.1) := by
  intro hm
  obtain ⟨d, hd, e⟩ := List.mem_map.mp hm
  obtain ⟨r, e', l, x⟩ := h d hd
  subst e'
  obtain ⟨e1, e2⟩ := enc_inj x.ne61 hn e
  subst e1
  exact Nat.lt_irrefl _ l
noncomputable def fbound : Nat → Nat | 0 => 1 | n + 1 => 1 + 6 * fbound n
theorem fbound_mono : ∀ {n k : Nat}, n ≤ k → fbound n ≤ fbound k := by
  intro n k h
  induction h with
  | refl => exact Nat.le_refl _
  | step h ih => show _ ≤ 1 + 6 * fbound _; (first | lia | omega)
inductive All2 {α β : Type} (R : α → β → Prop) : List α → List β → Prop
  | nil : All2 R [] []
  | cons {a b l l'} : R a b → All2 R l l' → All2 R (a :: l) (b :: l')
noncomputable def EntsAre (w : World) (es : List DictEntry) (Bk : List (Str × Nat)) : Prop := All2 (fun e d => ∃ t t', e = (⟨hashStr w d.1, .str d.1 t, .int (d.2 : Int) t'⟩ : DictEntry)) es Bk
noncomputable abbrev pairOf (k : Str) (t : Tok) (n : Nat) (t' : Tok) : Obj := { cls := .type "tuple", data := .seq #[.str k t, .int (n : Int) t'] }
noncomputable def MadeAre (h : Heap) (vs : List Value) (D : List (Str × Nat)) : Prop := All2 (fun v d => ∃ a t t', v = .ref a ∧ h.get? a = some (pairOf d.1 t d.2 t')) vs D
theorem EntsAre.app {w es Bk es' Bk'} (h : EntsAre w es Bk) (h' : EntsAre w es' Bk') : EntsAre w (es ++ es') (Bk ++ Bk') := by
  induction h with
  | nil => exact h'
  | cons a b ih => exact .cons a ih
theorem MadeAre.app {h vs D vs' D'} (x : MadeAre h vs D) (x' : MadeAre h vs' D') : MadeAre h (vs ++ vs') (D ++ D') := by
  induction x with
  | nil => exact x'
  | cons a b ih => exact .cons a ih
theorem MadeAre.keep {h h' : Heap} {vs D} (x : MadeAre h vs D) (k : ∀ a t n t' d, h.get? a = some (pairOf d t n t') → h'.get? a = some (pairOf d t n t')) : MadeAre h' vs D := by
  induction x with
  | nil => exact .nil
  | cons a b ih =>
    obtain ⟨ad, t, t', e1, e2⟩ := a
    exact .cons ⟨ad, t, t', e1, k _ _ _ _ _ e2⟩ ih
theorem MadeAre.length {h vs D} (x : MadeAre h vs D) : vs.length = D.length := by
  induction x with
  | nil => rfl
  | cons a b ih => simp [ih]
theorem EntsAre.length {w es Bk} (x : EntsAre w es Bk) : es.length = Bk.length := by
  induction x with
  | nil => rfl
  | cons a b ih => simp [ih]
theorem EntsAre.keys {w es Bk} (x : EntsAre w es Bk) : KeysOf (strKind PR w) es.toArray := by
  induction x with
  | nil => intro e he; simp at he
  | cons a b ih =>
    intro e he
    rcases List.mem_cons.mp (Array.mem_toList_iff.mpr he) with h | h
    · obtain ⟨t, t', r⟩ := a
      subst h
      rw [r]
      exact ⟨_, beq_self_eq_true _, rfl⟩
    · exact ih e (Array.mem_toList_iff.mp h)
theorem findBy_list (c : Str) (es : List DictEntry) : findBy Value.isStrOf es.toArray c = (es.find? fun e => Value.isStrOf c e.key).map (·.val) := by
  unfold findBy
  simp
theorem EntsAre.found {w es Bk c v} (x : EntsAre w es Bk) (h : findBy Value.isStrOf es.toArray c = some v) : ∃ n t, v = .int ((n : Nat) : Int) t ∧ (c, n) ∈ Bk := by
  rw [findBy_list] at h
  induction x with
  | nil => cases h
  | cons a b ih =>
    obtain ⟨t, t', r⟩ := a
    subst r
    rw [List.find?_cons] at h
    dsimp only at h
    cases hb : Value.isStrOf c (Value.str _ t) with
    | true =>
      rw [hb] at h
      have e := eq_of_beq hb
      cases h
      exact ⟨_, _, rfl, by rw [← e]; exact .head _⟩
    | false =>
      rw [hb] at h
      obtain ⟨n, t, e1, e2⟩ := ih h
      exact ⟨n, t, e1, .tail _ e2⟩
theorem EntsAre.missed {w es Bk c} (x : EntsAre w es Bk) (h : findBy Value.isStrOf es.toArray c = none) : c ∉ Bk.map (·.1) := by
  rw [findBy_list] at h
  induction x with
  | nil => intro q; cases q
  | cons a b ih =>
    obtain ⟨t, t', r⟩ := a
    subst r
    rw [List.find?_cons] at h
    dsimp only at h
    cases hb : Value.isStrOf c (Value.str _ t) with
    | true => rw [hb] at h; cases h
    | false =>
      rw [hb] at h
      intro q
      rcases List.mem_cons.mp q with q | q
      · subst q
        rw [show Value.isStrOf _ (Value.str _ t) = true from beq_self_eq_true _] at hb
        cases hb
      · exact ih h q
theorem EntsAre.miss {w es Bk c} (x : EntsAre w es Bk) (h : c ∉ Bk.map (·.1)) : findBy Value.isStrOf es.toArray c = none := by
  cases e : findBy Value.isStrOf es.toArray c with
  | none => rfl
  | some v =>
    obtain ⟨n, t, _, m⟩ := x.found e
    exact absurd (List.mem_map_of_mem m) h
end
section
structure Apart (B : Heap) (qa qm bk : Addr) : Prop where
  am : qa ≠ qm
  ab : qa ≠ bk
  mb : qm ≠ bk
  a : B.get? qa = none
  m : B.get? qm = none
  b : B.get? bk = none
  sys : (bk == sysModules) = false
  cls : (Value.ref bk == Value.ref 108) = false
structure Cells (B h : Heap) (qa qm bk bd lf : Addr) (as ms : List Value) (es : List DictEntry) : Prop where
  keep : ∀ b o, B.get? b = some o → h.get? b = some o
  a : ∃ n, h.get? qa = some (listOf as.toArray n)
  m : ∃ n, h.get? qm = some (listOf ms.toArray n)
  b : ∃ n, h.get? bk = some (bookObj bd lf es n)
noncomputable def cut (B : Heap) (n : Nat) : Heap := { B with objs := B.objs.extract 0 n }
theorem cut_objs (B : Heap) (n b : Nat) : (cut B n).objs[b]? = if b < n then B.objs[b]? else none := by
  unfold cut
  simp only [Array.getElem?_extract, Nat.sub_zero, Nat.zero_add]
  by_cases h : b < n
  · by_cases h' : b < B.objs.size
    · rw [if_pos h, if_pos (by (first | lia | omega))]
    · rw [if_pos h, if_neg (by (first | lia | omega)), Array.getElem?_eq_none (by (first | lia | omega))]
  · rw [if_neg h, if_neg (by (first | lia | omega))]
theorem cut_of {B : Heap} {n : Nat} {b : Addr} {o : Obj} (e : (cut B n).get? b = some o) : B.get? b = some o := by
  unfold Heap.get? at *
  rw [cut_objs] at e
  by_cases h : b < n
  · rw [if_pos h] at e; exact e
  · rw [if_neg h] at e; cases e
theorem cut_get {B h : Heap} (k : ∀ b o, B.get? b = some o → h.get? b = some o) {b : Addr} {o : Obj} (e : B.get? b = some o) : (cut B h.objs.size).get? b = some o := by
  have l := Heap.lt_size (k _ _ e)
  unfold Heap.get? at *
  rw [cut_objs, if_pos l]
  exact e
theorem cut_size (B : Heap) (n : Nat) : (cut B n).objs.size ≤ n := by
  unfold cut
  simp
  (first | lia | omega)
theorem cut_none {B : Heap} {n : Nat} {b : Addr} (e : B.get? b = none) : (cut B n).get? b = none := by
  cases q : (cut B n).get? b with
  | none => rfl
  | some o => rw [cut_of q] at e; cases e
noncomputable abbrev over (h : Heap) (qa qm bk : Addr) : Heap := hideAll h [qa, qm, bk]
theorem over_get {h : Heap} {qa qm bk b : Addr} {o : Obj} (e : h.get? b = some o) (h1 : b ≠ qa) (h2 : b ≠ qm) (h3 : b ≠ bk) : (over h qa qm bk).get? b = some o :=
  hideAll_get _ e (by simp [h1, h2, h3])
theorem Apart.keeps {B h : Heap} {qa qm bk : Addr} (Ap : Apart B qa qm bk) (k : ∀ b o, B.get? b = some o → h.get? b = some o) : ∀ b o, B.get? b = some o → (over h qa qm bk).get? b = some o := by
  intro b o e
  refine over_get (k b o e) ?_ ?_ ?_
  · intro q; rw [q, Ap.a] at e; cases e
  · intro q; rw [q, Ap.m] at e; cases e
  · intro q; rw [q, Ap.b] at e; cases e
theorem Apart.over {B h : Heap} {qa qm bk : Addr} (Ap : Apart B qa qm bk) : Apart (over h qa qm bk) qa qm bk :=
  ⟨Ap.am, Ap.ab, Ap.mb, hideAll_none _ (by simp), hideAll_none _ (by simp), hideAll_none _ (by simp), Ap.sys, Ap.cls⟩
theorem Cells.over {B h : Heap} {qa qm bk bd lf as ms es} (C : Cells B h qa qm bk bd lf as ms es) : Cells (over h qa qm bk) h qa qm bk bd lf as ms es :=
  ⟨fun b o e => of_hideAll _ e, C.a, C.m, C.b⟩
theorem Cells.back {B h h' : Heap} {qa qm bk bd lf as ms es as' ms' es'} (C : Cells B h qa qm bk bd lf as ms es) (Ap : Apart B qa qm bk) (C' : Cells (Mine.over h qa qm bk) h' qa qm bk bd lf as' ms' es') : Cells B h' qa qm bk bd lf as' ms' es' :=
  ⟨fun b o e => C'.keep _ _ (Ap.keeps C.keep b o e), C'.a, C'.m, C'.b⟩
theorem Cells.ext {B h h' : Heap} {qa qm bk bd lf as ms es} (C : Cells B h qa qm bk bd lf as ms es) (e : Ext h h') : Cells B h' qa qm bk bd lf as ms es :=
  ⟨fun b o q => e _ _ (C.keep b o q), C.a.imp fun _ q => e _ _ q, C.m.imp fun _ q => e _ _ q, C.b.imp fun _ q => e _ _ q⟩
noncomputable abbrev ledger (qa qm bk bd lf : Addr) (as ms : List Value) (es : List DictEntry) (na nm nb : Nat) : List (Addr × Obj) := [(qa, listOf as.toArray na), (qm, listOf ms.toArray nm), (bk, bookObj bd lf es nb)]
theorem Cells.led {B h : Heap} {qa qm bk bd lf as ms es} (C : Cells B h qa qm bk bd lf as ms es) (Ap : Apart B qa qm bk) : ∃ na nm nb, ∀ q ∈ ledger qa qm bk bd lf as ms es na nm nb, h.get? q.1 = some q.2 ∧ B.get? q.1 = none := by
  obtain ⟨na, ha⟩ := C.a
  obtain ⟨nm, hm⟩ := C.m
  obtain ⟨nb, hb⟩ := C.b
  refine ⟨na, nm, nb, fun q hq => ?_⟩
  rcases List.mem_cons.mp hq with rfl | hq
  · exact ⟨ha, Ap.a⟩
  rcases List.mem_cons.mp hq with rfl | hq
  · exact ⟨hm, Ap.m⟩
  rcases List.mem_cons.mp hq with rfl | hq
  · exact ⟨hb, Ap.b⟩
  · cases hq
theorem Cells.of_fr {B h : Heap} {L : Addr} {m : Str → Option Value} {qa qm bk bd lf as ms es na nm nb} {rest : List (Addr × Obj)} (F : Fr B L h m) (N : News B L h ((qa, listOf as.toArray na) :: (qm, listOf ms.toArray nm) :: (bk, bookObj bd lf es nb) :: rest)) : Cells B h qa qm bk bd lf as ms es :=
  ⟨F.keep, ⟨_, (N _ (.head _)).1⟩, ⟨_, (N _ (.tail _ (.head _))).1⟩, ⟨_, (N _ (.tail _ (.tail _ (.head _)))).1⟩⟩
theorem Fr.back {B h h' : Heap} {L : Addr} {m : Str → Option Value} {qa qm bk : Addr} (F : Fr B L h m) (Ap : Apart B qa qm bk) (h1 : qa ≠ L) (h2 : qm ≠ L) (h3 : bk ≠ L) (k : ∀ b o, (over h qa qm bk).get? b = some o → h'.get? b = some o) : Fr B L h' m := by
  refine ⟨?_, fun b o e => k _ _ (Ap.keeps F.keep b o e), F.above⟩
  obtain ⟨o, es, ep, e1, r⟩ := F.ns
  exact ⟨o, es, ep, k _ _ (over_get e1 (Ne.symm h1) (Ne.symm h2) (Ne.symm h3)), r⟩
structure WorldAt (w : World) (B : Heap) (wd qa qm bk bd lf : Addr) (fz : Bool) : Prop where
  map : B.MapOf (strKind PR w) wd (wdf qa qm bk)
  fac : ∃ cw qual pm c' ctv, B.get? lf = some (facObj cw qual pm c' ctv) ∧ B.IsCell cw (some (.ref wd)) ∧ B.CodeRec (.ref c') qual
  dict : match fz with
    | true => ∃ tf fl k cs qual pm c' ctv, B.get? bd = some (frozenDict w.params tf fl k) ∧ B.get? fl = some (frzObj cs qual pm c' ctv) ∧ B.IsCell cs (some (.ref bk)) ∧ B.CodeRec (.ref c') qual
    | false => B.get? bd = some (dictOf [] 0)
theorem codeRec_keeps {B h : Heap} {c' : Addr} {qual : Str} (k : ∀ b o, B.get? b = some o → h.get? b = some o) (hcd : B.CodeRec (.ref c') qual) : h.CodeRec (.ref c') qual := by
  obtain ⟨c₂, oc, vs, tq, e2, hoc, hdc, hq⟩ := hcd
  exact ⟨c₂, oc, vs, tq, e2, k _ _ hoc, hdc, hq⟩
theorem mapOf_keeps {w : World} {B h : Heap} {wd : Addr} {f : Str → Option Value} (k : ∀ b o, B.get? b = some o → h.get? b = some o) (hw : B.MapOf (strKind PR w) wd f) : h.MapOf (strKind PR w) wd f := by
  obtain ⟨o, es, ep, e1, r⟩ := hw
  exact ⟨o, es, ep, k _ _ e1, r⟩
theorem WorldAt.keeps {w : World} {B h : Heap} {wd qa qm bk bd lf : Addr} {fz : Bool} (W : WorldAt w B wd qa qm bk bd lf fz) (k : ∀ b o, B.get? b = some o → h.get? b = some o) : WorldAt w h wd qa qm bk bd lf fz := by
  refine ⟨mapOf_keeps k W.map, ?_, ?_⟩
  · obtain ⟨cw, qual, pm, c', ctv, e1, e2, e3⟩ := W.fac
    exact ⟨cw, qual, pm, c', ctv, k _ _ e1, e2.keeps k, codeRec_keeps k e3⟩
  · have d := W.dict
    cases fz with
    | true =>
      obtain ⟨tf, fl, n, cs, qual, pm, c', ctv, e1, e2, e3, e4⟩ := d
      exact ⟨tf, fl, n, cs, qual, pm, c', ctv, k _ _ e1, k _ _ e2, e3.keeps k, codeRec_keeps k e4⟩
    | false => exact k _ _ d
noncomputable def bkAfter (fz : Bool) (Bk D : List (Str × Nat)) : List (Str × Nat) := if fz then Bk else Bk ++ D
noncomputable def AskSpec (w : World) (name al : List Nat) : Prop :=
  ∀ {mg mb : Str → Option Value} {p : Program} {loose : List Str} {A : Around} {s : Shared} {E : Value → Shared → Prop} {B : Heap} {wd qa qm bk bd lf : Addr} {fz : Bool} {as ms : List Value} {es : List DictEntry} {Bk : List (Str × Nat)} {t : Tok} {Q : Value → Shared → Prop},
  (KK w.params).In B → TopRead p loose mg mb B → A.depth + 60 * name.length + 60 < recursionLimit → A.handled = none → Apart B qa qm bk → Cells B s.heap qa qm bk bd lf as ms es → WorldAt w B wd qa qm bk bd lf fz →
  EntsAre w es Bk → GoodBk Bk → ms.length + fbound name.length ≤ 100000 → es.length + fbound name.length ≤ 100000 → as.length + name.length ≤ 1000 →
  (∀ h' tk t' es' nms D, Cells B h' qa qm bk bd lf as (ms ++ nms) es' → MadeAre h' nms D → EntsAre w es' (bkAfter fz Bk D) → Good (name.length + 1) al D → (fz = true → D.length = runs (Bk.map (·.1)) al name) → D.length ≤ fbound name.length →
    Q (.int (ways al name : Nat) t') { s with heap := h', toks := tk }) →
  wpAny (model PR w) A (call (.ref 294) [.ref wd, .str (enc name al) t]) Q E s
noncomputable def MadeSpec (w : World) (name al : List Nat) : Prop :=
  ∀ {mg mb : Str → Option Value} {p : Program} {loose : List Str} {A : Around} {s : Shared} {E : Value → Shared → Prop} {B : Heap} {wd qa qm bk bd lf : Addr} {fz : Bool} {as ms : List Value} {es : List DictEntry} {Bk : List (Str × Nat)} {t : Tok} {Q : Value → Shared → Prop},
  (KK w.params).In B → TopRead p loose mg mb B → A.depth + 60 * name.length + 44 < recursionLimit → A.handled = none → Apart B qa qm bk → Cells B s.heap qa qm bk bd lf (as ++ [.str (enc name al) t]) ms es → WorldAt w B wd qa qm bk bd lf fz →
  EntsAre w es Bk → GoodBk Bk → ms.length + fbound name.length ≤ 100000 → es.length + fbound name.length ≤ 100000 → as.length + name.length ≤ 1000 →
  (∀ h' tk t' es' nms D, Cells B h' qa qm bk bd lf (as ++ [.str (enc name al) t]) (ms ++ nms) es' → MadeAre h' nms (D ++ [(enc name al, ways al name)]) → EntsAre w es' (bkAfter fz Bk D) → Good name.length al D →
    (fz = true → enc name al ∉ Bk.map (·.1) → D.length + 1 = runs (Bk.map (·.1)) al name) → D.length + 1 ≤ fbound name.length →
    Q (.int (ways al name : Nat) t') { s with heap := h', toks := tk }) →
  wpAny (model PR w) A (call (.ref 301) [.ref wd]) Q E s
end
section
section
variable {w : World} {A : Around} {E : Value → Shared → Prop} {s : Shared} {mg mb : Str → Option Value} {p : Program} {loose : List Str} {B : Heap} {wd qa qm bk bd lf : Addr} {as ms : List Value} {es : List DictEntry} {Bk : List (Str × Nat)} {name al : List Nat} {t : Tok} {Q : Value → Shared → Prop}
theorem fac_made {A' : Around} {h₃ : Heap} {tk : Nat} {fz : Bool} {R : Result → Shared → Prop} (hm : MadeSpec w name al) (X : (KK w.params).In B) (T : TopRead p loose mg mb B) (hroom : A'.depth + 60 * name.length + 45 < recursionLimit) (hh : A'.handled = none)
    (Ap : Apart B qa qm bk) (C : Cells B s.heap qa qm bk bd lf (as ++ [.str (enc name al) t]) ms es) (W : WorldAt w B wd qa qm bk bd lf fz) (He : EntsAre w es Bk) (Hg : GoodBk Bk)
    (b1 : ms.length + fbound name.length ≤ 100000) (b2 : es.length + fbound name.length ≤ 100000) (b3 : as.length + name.length ≤ 1000) (e₃ : Ext s.heap h₃)
    (h : ∀ h' tk t' es' nms D, Cells (over h₃ qa qm bk) h' qa qm bk bd lf (as ++ [.str (enc name al) t]) (ms ++ nms) es' → MadeAre h' nms (D ++ [(enc name al, ways al name)]) → EntsAre w es' (bkAfter fz Bk D) → Good name.length al D →
      (fz = true → enc name al ∉ Bk.map (·.1) → D.length + 1 = runs (Bk.map (·.1)) al name) → D.length + 1 ≤ fbound name.length →
      R (.ok (.ret (.int (ways al name : Nat) t'))) ⟨h', s.gens, s.drawn, tk, s.os⟩) :
    codeAny (model PR w) A' (.call (.ref lf) ⟨[], []⟩) R ⟨h₃, s.gens, s.drawn, tk, s.os⟩ := by
  have C₃ := C.ext e₃
  obtain ⟨cw, qual, pm, c', ctv, e1, e2, e3⟩ := W.fac
  refine fac_call (s := ⟨h₃, s.gens, s.drawn, tk, s.os⟩) (X.keeps C₃.keep) (T.keeps C₃.keep) (by (first | lia | omega)) (C₃.keep _ _ e1) (e2.keeps C₃.keep) (codeRec_keeps C₃.keep e3) fun A'' h₁ tk' a1 a2 e₁ => ?_
  have C₁ := C₃.ext e₁
  have k := Ap.keeps C₃.keep
  have Ap' : Apart (over h₃ qa qm bk) qa qm bk := Ap.over
  have C' : Cells (over h₃ qa qm bk) h₁ qa qm bk bd lf (as ++ [.str (enc name al) t]) ms es := ⟨fun b o q => e₁ _ _ (of_hideAll _ q), C₁.a, C₁.m, C₁.b⟩
  exact hm (X.keeps k) (T.keeps k) (by rw [a2]; (first | lia | omega)) (a1.trans hh) Ap' C' (W.keeps k) He Hg b1 b2 b3 (fun h' tk t' es' nms D x1 x2 x3 x4 x5 x6 => h h' tk t' es' nms D x1 x2 x3 x4 x5 x6)
theorem ask_get {fz : Bool} (hm : MadeSpec w name al) (hN : GoodN name) (X : (KK w.params).In B) (T : TopRead p loose mg mb B) (hroom : A.depth + 60 * name.length + 56 < recursionLimit) (hh : A.handled = none)
    (Ap : Apart B qa qm bk) (C : Cells B s.heap qa qm bk bd lf (as ++ [.str (enc name al) t]) ms es) (W : WorldAt w B wd qa qm bk bd lf fz) (He : EntsAre w es Bk) (Hg : GoodBk Bk)
    (b1 : ms.length + fbound name.length ≤ 100000) (b2 : es.length + fbound name.length ≤ 100000) (b3 : as.length + name.length ≤ 1000)
    (h : ∀ h' tk t' es' nms D, Cells (over s.heap qa qm bk) h' qa qm bk bd lf (as ++ [.str (enc name al) t]) (ms ++ nms) es' → MadeAre h' nms D → EntsAre w es' (bkAfter fz Bk D) → Good (name.length + 1) al D → (fz = true → D.length = runs (Bk.map (·.1)) al name) → D.length ≤ fbound name.length →
      Q (.int (ways al name : Nat) t') { s with heap := h', toks := tk }) :
    wpAny (model PR w) A (getItem (.ref bk) (.str (enc name al) t)) Q E s := by
  have hn := hN.ne61
  obtain ⟨nb, hb⟩ := C.b
  have X' := X.keeps C.keep
  have T' := T.keeps C.keep
  have Wk := W.keeps C.keep
  obtain ⟨cw, qual, pm, c', ctv, f1, f2, f3⟩ := Wk.fac
  have hp : 1 ≤ fbound name.length := fbound_mono (n := 0) (Nat.zero_le _)
  refine book_get X' hb He.keys Ap.sys (fun v k hv => ?_) (fun hv k => ?_)
  · obtain ⟨n, t', rfl, hmem⟩ := He.found hv
    have := Hg.hit hn hmem
    subst this
    refine h s.heap k t' es [] [] (by rw [List.append_nil]; exact C.over) .nil ?_ Good.nil (fun _ => (runs_old (List.mem_map_of_mem (f := Prod.fst) hmem)).symm) (Nat.zero_le _)
    cases fz
    · show EntsAre w es (Bk ++ []); rw [List.append_nil]; exact He
    · exact He
  · have hnew := He.missed hv
    cases fz with
    | false =>
      refine missing_u (s := { s with toks := k }) X' T' (by show A.depth < recursionLimit; (first | lia | omega)) hh hb Wk.dict Ap.cls Ap.sys f1 rfl fun A' h₃ tk a1 a2 e₃ => ?_
      refine fac_made (s := { s with toks := k }) hm X T (by have : A'.depth ≤ A.depth + 10 := a2; (first | lia | omega)) a1 Ap C W He Hg b1 b2 b3 e₃ fun h' tk t' es' nms D x1 x2 x3 x4 x5 x6 => ?_
      obtain ⟨nb', hb'⟩ := x1.b
      have Xo := X.keeps (Ap.keeps (C.ext e₃).keep)
      have hl := x3.length
      have hl' := He.length
      have hz : sizeLine = 16777216 := by decide
      refine ⟨es', nb', Xo.keeps x1.keep, hb', x3.keys, x3.miss ?_, ?_, fun h'' tk' g1 g2 => ?_⟩
      · show enc name al ∉ (Bk ++ D).map (·.1)
        rw [List.map_append]
        intro q
        rcases List.mem_append.mp q with q | q
        · exact hnew q
        · exact x4.fresh hn q
      · have : es'.length = (Bk ++ D).length := hl
        rw [List.length_append] at this
        (first | lia | omega)
      · refine h h'' tk' t' (es' ++ [⟨hashStr w (enc name al), .str (enc name al) t, .int (ways al name : Nat) t'⟩]) nms (D ++ [(enc name al, ways al name)]) ?_ ?_ ?_ ?_ (fun q => nomatch q) ?_
        · refine ⟨fun b o q => ?_, x1.a.imp fun n q => ?_, x1.m.imp fun n q => ?_, nb' + 1, g1⟩
          · have hne : b ≠ bk := fun z => by rw [z, hideAll_none _ (by simp)] at q; cases q
            have q1 : b ≠ qa := fun z => by rw [z, hideAll_none _ (by simp)] at q; cases q
            have q2 : b ≠ qm := fun z => by rw [z, hideAll_none _ (by simp)] at q; cases q
            exact (g2.2 b hne).trans (x1.keep _ _ (over_get (e₃ _ _ (of_hideAll _ q)) q1 q2 hne))
          · exact (g2.2 _ Ap.ab).trans q
          · exact (g2.2 _ Ap.mb).trans q
        · refine x2.keep fun a tt n tt' d q => ?_
          have hne : a ≠ bk := fun z => by rw [z, hb'] at q; cases q
          exact (g2.2 _ hne).trans q
        · show EntsAre w _ (Bk ++ (D ++ [_]))
          rw [← List.append_assoc]
          exact EntsAre.app x3 (.cons ⟨t, t', rfl⟩ .nil)
        · refine (x4.mono (Nat.le_succ _)).app fun d hd => ?_
          rw [List.mem_singleton] at hd
          exact ⟨name, hd, Nat.lt_succ_self _, hN⟩
        · rw [List.length_append]; exact x6
    | true =>
      obtain ⟨tf, fl, kk, cs, qual2, pm2, c2, ctv2, d1, d2, d3, d4⟩ := Wk.dict
      refine missing_f (s := { s with toks := k }) X' T' (by show A.depth + 10 < recursionLimit; (first | lia | omega)) hh hb d1 Ap.cls f1 rfl d2 d3 d4 fun A' h₃ tk a1 a2 e₃ => ?_
      refine fac_made (s := { s with toks := k }) hm X T (by have : A'.depth ≤ A.depth + 10 := a2; (first | lia | omega)) a1 Ap C W He Hg b1 b2 b3 e₃ fun h' tk t' es' nms D x1 x2 x3 x4 x5 x6 => ?_
      refine h h' tk t' es' nms (D ++ [(enc name al, ways al name)]) ?_ x2 x3 ?_ (fun _ => ?_) ?_
      · refine ⟨fun b o q => ?_, x1.a, x1.m, x1.b⟩
        have hne : b ≠ bk := fun z => by rw [z, hideAll_none _ (by simp)] at q; cases q
        have q1 : b ≠ qa := fun z => by rw [z, hideAll_none _ (by simp)] at q; cases q
        have q2 : b ≠ qm := fun z => by rw [z, hideAll_none _ (by simp)] at q; cases q
        exact x1.keep _ _ (over_get (e₃ _ _ (of_hideAll _ q)) q1 q2 hne)
      · refine (x4.mono (Nat.le_succ _)).app fun d hd => ?_
        rw [List.mem_singleton] at hd
        exact ⟨name, hd, Nat.lt_succ_self _, hN⟩
      · rw [List.length_append]; exact x5 rfl hnew
      · rw [List.length_append]; exact x6
end
end
section
theorem sub_book {w : World} {A : Around} {E : Value → Shared → Prop} {s : Shared} {bk bd lf : Addr} {es : List DictEntry} {n : Nat} {i : Value} {value slice : Expr} {Q : Value → Shared → Prop} (X : (KK w.params).In s.heap) (hb : s.heap.get? bk = some (bookObj bd lf es n))
    (h : ∀ tk, wpAny (model PR w) A (getItem (.ref bk) i) Q E { s with toks := tk })
    (hs : subscripted slice false (.ref bk) i = operate [.ref bk, i] (getItem (.ref bk) i) := by with_unfolding_all rfl) (ht : ∀ r, letTemporaryGo value (.ref bk) r = pure () := by intro _; with_unfolding_all rfl) :
    wpAny (model PR w) A (subscriptTail value slice (.ref bk) i) Q E s := by
  have L0 : Looks (model PR w) s.heap (typeOf (.ref bk)) (.ref 108) := (Looks.ld hb).andThen .now
  have L1 := bk_getitem X
  unfold subscriptTail
  refine wpAny_bind ?_
  rw [getitemInPython_of_ne (o := .ref bk) (by intro e; cases e)]
  unfold specialOf
  refine wpAny_bind (wpAny_bind (L0.here (L1.here ?_)))
  refine wpAny_pure (wpAny_bind ?_)
  rw [hs]
  exact wpAny_operating (wpAny_mono (h _) (fun r s₃ h₃ => wpAny_bind (wpAny_of_eq (ht r) (wpAny_pure h₃))) fun _ _ x => x)
theorem news_cells {B h : Heap} {L : Addr} {qa qm bk bd lf as ms es} (C : Cells B h qa qm bk bd lf as ms es) (Ap : Apart B qa qm bk) (h1 : qa ≠ L) (h2 : qm ≠ L) (h3 : bk ≠ L) : ∃ na nm nb, News B L h [(qa, listOf as.toArray na), (qm, listOf ms.toArray nm), (bk, bookObj bd lf es nb)] := by
  obtain ⟨na, ha⟩ := C.a
  obtain ⟨nm, hm⟩ := C.m
  obtain ⟨nb, hb⟩ := C.b
  refine ⟨na, nm, nb, fun q hq => ?_⟩
  rcases List.mem_cons.mp hq with rfl | hq
  · exact ⟨ha, h1, Ap.a⟩
  rcases List.mem_cons.mp hq with rfl | hq
  · exact ⟨hm, h2, Ap.m⟩
  rcases List.mem_cons.mp hq with rfl | hq
  · exact ⟨hb, h3, Ap.b⟩
  · cases hq
theorem Apart.cut {B h : Heap} {qa qm bk : Addr} (Ap : Apart B qa qm bk) : Apart (Mine.cut B h.objs.size) qa qm bk :=
  ⟨Ap.am, Ap.ab, Ap.mb, cut_none Ap.a, cut_none Ap.m, cut_none Ap.b, Ap.sys, Ap.cls⟩
theorem MadeAre.led {B h : Heap} {L : Addr} {m : Str → Option Value} {qa qm bk bd lf as ms es vs D} (F : Fr B L h m) (C : Cells B h qa qm bk bd lf as ms es) (M : MadeAre h vs D) :
    ∃ ds : List (Addr × Obj), (∀ p ∈ ds, (h.get? p.1 = some p.2 ∧ p.1 ≠ L ∧ B.get? p.1 = none) ∧ p.1 ≠ qa ∧ p.1 ≠ qm ∧ p.1 ≠ bk) ∧ ∀ h', Ext B h' → (∀ p ∈ ds, h'.get? p.1 = some p.2) → MadeAre h' vs D := by
  induction M with
  | nil => exact ⟨[], (fun _ q => nomatch q), fun _ _ _ => .nil⟩
  | @cons v d vs D x y ih =>
    obtain ⟨ds, i1, i2⟩ := ih
    obtain ⟨a, t, t', rfl, e⟩ := x
    cases eb : B.get? a with
    | some o =>
      have : o = pairOf d.1 t d.2 t' := Option.some.inj ((F.keep _ _ eb).symm.trans e)
      subst this
      exact ⟨ds, i1, fun h' k z => .cons ⟨a, t, t', rfl, k _ _ eb⟩ (i2 h' k z)⟩
    | none =>
      refine ⟨(a, pairOf d.1 t d.2 t') :: ds, fun p hp => ?_, fun h' k z => .cons ⟨a, t, t', rfl, z _ (.head _)⟩ (i2 h' k fun p hp => z p (.tail _ hp))⟩
      rcases List.mem_cons.mp hp with rfl | hp
      · refine ⟨⟨e, ?_, eb⟩, ?_, ?_, ?_⟩
        · intro q
          dsimp only at q
          obtain ⟨o, es, ep, e1, e2, _⟩ := F.ns
          rw [← q, e] at e1
          cases e1
          cases e2
        · intro q; dsimp only at q; obtain ⟨n, z⟩ := C.a; rw [← q, e] at z; have z' : false = true := congrArg (fun o : Option Obj => match o with | some ⟨.type "list", _, _, _⟩ => true | _ => false) z; cases z'
        · intro q; dsimp only at q; obtain ⟨n, z⟩ := C.m; rw [← q, e] at z; have z' : false = true := congrArg (fun o : Option Obj => match o with | some ⟨.type "list", _, _, _⟩ => true | _ => false) z; cases z'
        · intro q; dsimp only at q; obtain ⟨n, z⟩ := C.b; rw [← q, e] at z; cases z
      · exact i1 p hp
theorem news_led {B h : Heap} {L : Addr} {qa qm bk bd lf as ms es} {ds : List (Addr × Obj)} (C : Cells B h qa qm bk bd lf as ms es) (Ap : Apart B qa qm bk) (h1 : qa ≠ L) (h2 : qm ≠ L) (h3 : bk ≠ L) (hd : ∀ p ∈ ds, (h.get? p.1 = some p.2 ∧ p.1 ≠ L ∧ B.get? p.1 = none) ∧ p.1 ≠ qa ∧ p.1 ≠ qm ∧ p.1 ≠ bk) :
    ∃ na nm nb, News B L h ((qa, listOf as.toArray na) :: (qm, listOf ms.toArray nm) :: (bk, bookObj bd lf es nb) :: ds) := by
  obtain ⟨na, nm, nb, N⟩ := news_cells C Ap h1 h2 h3
  refine ⟨na, nm, nb, fun q hq => ?_⟩
  rcases List.mem_append.mp (show q ∈ [(qa, listOf as.toArray na), (qm, listOf ms.toArray nm), (bk, bookObj bd lf es nb)] ++ ds from hq) with hq | hq
  · exact N q hq
  · exact (hd q hq).1
local macro_rules | `(tactic| walk_at "subscriptTail") => `(tactic| (k_here; (refine sub_world (by k_asm) (by assumption) ?_; first | refine world_asked (by k_asm) (by assumption) ?_ | refine world_made (by k_asm) (by assumption) ?_ | refine world_book (by k_asm) (by assumption) ?_)))
local macro_rules | `(tactic| walk_at "subscriptTail") => `(tactic| (k_here; (refine sub_world (by k_asm) (by assumption) ?_; first | refine world_asked (by k_asm) (by assumption) ?_ | refine world_made (by k_asm) (by assumption) ?_ | refine world_book (by k_asm) (by assumption) ?_)))
set_option maxHeartbeats 8000000 in
theorem ask_of : ∀ {w : World} {mg mb : Str → Option Value} {p : Program} {loose : List Str} {A : Around} {s : Shared} {Q : Value → Shared → Prop} {E : Value → Shared → Prop} {name al : List Nat} (hn : GoodN name) (hm : MadeSpec w name al) {B0 : Heap} {wd qa qm bk bd lf : Addr} {fz : Bool} {as ms : List Value} {es : List DictEntry} {Bk : List (Str × Nat)}
  (X0 : (KK w.params).In B0) (T0 : TopRead p loose mg mb B0) (hroom : A.depth + 60 * name.length + 60 < recursionLimit) (hh : A.handled = none) (Ap0 : Apart B0 qa qm bk) (C0 : Cells B0 s.heap qa qm bk bd lf as ms es) (W0 : WorldAt w B0 wd qa qm bk bd lf fz)
  (He : EntsAre w es Bk) (Hg : GoodBk Bk) (b1 : ms.length + fbound name.length ≤ 100000) (b2 : es.length + fbound name.length ≤ 100000) (b3 : as.length + name.length ≤ 1000)
  (t : Tok)
  (h : ∀ h' tk t' es' nms D, Cells B0 h' qa qm bk bd lf as (ms ++ nms) es' → MadeAre h' nms D → EntsAre w es' (bkAfter fz Bk D) → Good (name.length + 1) al D → (fz = true → D.length = runs (Bk.map (·.1)) al name) → D.length ≤ fbound name.length →
    Q (.int (ways al name : Nat) t') { s with heap := h', toks := tk }),
  wpAny (model PySem.Challenge.rw_in0022_01.row.toRowW.prog w) A (call (.ref 294) [.ref wd, .str (enc name al) t]) Q E s := by
  k_fill
  intro w mg mb p loose A s Q E name al hn hm B0 wd qa qm bk bd lf fz as ms es Bk X0 T0 hroom hh Ap0 C0 W0 He Hg b1 b2 b3 t h
  obtain ⟨B, hBB, hBk, hz, Ap⟩ : ∃ B, (∀ b o, B0.get? b = some o → B.get? b = some o) ∧ (∀ b o, B.get? b = some o → s.heap.get? b = some o) ∧ B.objs.size ≤ s.heap.objs.size ∧ Apart B qa qm bk :=
    ⟨cut B0 s.heap.objs.size, fun b o e => cut_get C0.keep e, fun b o e => C0.keep _ _ (cut_of e), cut_size _ _, Ap0.cut⟩
  have X := X0.keeps hBB
  have T := T0.keeps hBB
  have W := W0.keeps hBB
  have C : Cells B s.heap qa qm bk bd lf as ms es := ⟨hBk, C0.a, C0.m, C0.b⟩
  have hw := W.map
  have n1 := Ap.am
  have n2 := Ap.ab
  have n3 := Ap.mb
  obtain ⟨na, nm, nb, hW⟩ := C.led Ap
  have hsl : sizeLine = 16777216 := by decide
  refine wpAny_call (enterB hBk hz hW X T (by k_is) (by k_is) (by (first | lia | omega)) (BindsTo.of_eq rfl) (locs rfl) (fun h₁ L' hL F N => ?_) rfl rfl rfl (by decide))
  have l1 : qa ≠ L' := Nat.ne_of_lt (hL ▸ Heap.lt_size (hW _ (.head _)).1)
  have l2 : qm ≠ L' := Nat.ne_of_lt (hL ▸ Heap.lt_size (hW _ (.tail _ (.head _))).1)
  have l3 : bk ≠ L' := Nat.ne_of_lt (hL ▸ Heap.lt_size (hW _ (.tail _ (.tail _ (.head _)))).1)
  (try dsimp only)
  dsimp only [ledger] at N
  k_steps
  refine append_K F N (Upd.head (List.forall_mem_cons.mpr ⟨Ne.symm n1, List.forall_mem_cons.mpr ⟨Ne.symm n2, List.forall_mem_nil _⟩⟩)) (fun h₂ F₂ N₂ => ?_) (by rw [List.size_toArray]; (first | lia | omega))
  rw [List.push_toArray] at N₂
  clear N F
  k_steps
  have C₂ := Cells.of_fr F₂ N₂
  refine sub_book (X.keeps F₂.keep) (N₂ _ (.tail _ (.tail _ (.head _)))).1 (fun tk => ?_)
  refine ask_get hm hn X T (by show A.depth + 1 + _ + _ < _; (first | lia | omega)) hh Ap C₂ W He Hg b1 b2 b3 fun h₃ tk' t' es' nms D x1 x2 x3 x4 x5 x6 => ?_
  have F₃ := Fr.back F₂ Ap l1 l2 l3 x1.keep
  have C₃ := C₂.back Ap x1
  obtain ⟨ds, i1, i2⟩ := x2.led F₃ C₃
  obtain ⟨na₃, nm₃, nb₃, N₃⟩ := news_led C₃ Ap l1 l2 l3 i1
  clear N₂ F₂
  k_steps
  refine' kl_pop (p := as) (y := .str (enc name al) t) ?F ?N ?e ?U ?z ?_
  (case F => k_asm)
  (case N => k_asm)
  (case e => exact kpa_last _ _)
  (case U => exact Upd.head (List.forall_mem_cons.mpr ⟨Ne.symm n1, List.forall_mem_cons.mpr ⟨Ne.symm n2, fun p hp => (i1 p hp).2.1⟩⟩))
  (case z => (simp; (first | lia | omega)))
  intro h₄ F₄ N₄
  k_steps
  refine h h₄ _ t' es' nms D ?_ (i2 h₄ F₄.keep fun p hp => (N₄ p (.tail _ (.tail _ (.tail _ hp)))).1) x3 x4 x5 x6
  have C₄ := Cells.of_fr F₄ N₄
  exact ⟨fun b o e => C₄.keep _ _ (hBB b o e), C₄.a, C₄.m, C₄.b⟩
theorem ask_spec {w : World} {name al : List Nat} (hn : GoodN name) (hm : MadeSpec w name al) : AskSpec w name al :=
  fun X T hroom hh Ap C W He Hg b1 b2 b3 h => ask_of hn hm X T hroom hh Ap C W He Hg b1 b2 b3 _ h
end
section
noncomputable def IterObj (o : Obj) : Prop := o.cls = .type "str_iterator" ∨ o.cls = .type "str_ascii_iterator" ∨ o.cls = .type "list_iterator"
noncomputable def TurnEnd (h₀ : Heap) (L : Addr) (own : List (Addr × Obj)) (J : (Str → Option Value) → List (Addr × Obj) → Prop) (s₁ : Shared) (Q : Flow → Shared → Prop) (f : Flow) (s₂ : Shared) : Prop :=
  match f with
  | .ret v => Q (.ret v) s₂
  | .brk => Q .next s₂
  | _ => ∃ h' tk m' news', s₂ = { s₁ with heap := h', toks := tk } ∧ Fr h₀ L h' m' ∧ News h₀ L h' (own ++ news') ∧ (∀ p ∈ news', ∀ q ∈ own, IterObj q.2 → p.1 ≠ q.1) ∧ J m' news'
section
variable {prog : Program} {w : World} {A : Around} {E : Value → Shared → Prop} {s : Shared} {env : Env} {h₀ : Heap} {x : Str} {body : List Stmt} {Q : Flow → Shared → Prop}
theorem iter_str {xt : Str} {tx : Tok} {m₀ : Str → Option Value} {news : List (Addr × Obj)} (J : Nat → (Str → Option Value) → List (Addr × Obj) → Prop)
    (hh : A.handled = none) (F : Fr h₀ env.locals s.heap m₀) (N : News h₀ env.locals s.heap news) (hj : J 0 m₀ news)
    (turn : ∀ i c u m₁ news₁ h tk I oI, xt.cps[i]? = some c → J i m₁ news₁ → IterObj oI → (∀ p ∈ news₁, p.1 ≠ I) → Fr h₀ env.locals h (fun y => if y = x then some (.str ⟨#[c]⟩ u) else m₁ y) → News h₀ env.locals h ((I, oI) :: news₁) →
      wpAny (model prog w) A (execs body env) (TurnEnd h₀ env.locals [(I, oI)] (J (i + 1)) { s with heap := h, toks := tk } Q) E { s with heap := h, toks := tk })
    (done : ∀ m₁ news₁ h tk, J xt.cps.size m₁ news₁ → Fr h₀ env.locals h m₁ → News h₀ env.locals h news₁ → Q .next { s with heap := h, toks := tk }) :
    wpAny (model prog w) A (pyIter (.str xt tx)) (fun it s₂ => LoopAtV prog w A h₀ env x body Q E it s₂) E s := by
  have key : ∀ (o : Obj) (ty : String) (W : Walks prog w A s.heap.objs.size [s.heap.objs.size] [s.heap.objs.size] xt.cps.size (SignAt xt) (fun i h => h.IsStrIter s.heap.objs.size ty xt tx i)), (ty = "str_iterator" ∨ ty = "str_ascii_iterator") → Heap.IsStrIter (s.heap.push o) s.heap.objs.size ty xt tx 0 →
      LoopAtV prog w A h₀ env x body Q E (.ref s.heap.objs.size) { s with heap := s.heap.push o } := by
    intro o ty W hty hst
    refine ⟨_, _, _, _, _, _, m₀, news, J, rfl, W, ?_, ?_, ?_, hst, F.push _, (fun p hp => ⟨Heap.get?_push_of_some _ (N p hp).1, (N p hp).2⟩), hj, ?_, ?_⟩
    · intro hm
      exact absurd F.ns.lt ((List.mem_singleton.mp hm) ▸ Nat.lt_irrefl _)
    · intro b' hb
      rw [List.mem_singleton.mp hb]
      exact next_is_new F
    · intro p hp hI
      exact absurd (Heap.lt_size (N p hp).1) ((List.mem_singleton.mp hI) ▸ Nat.lt_irrefl _)
    · rintro i v m₁ news₁ s₁ own ⟨h, tk, rfl⟩ hi ⟨c, u, hc, rfl⟩ hJ hoff hsub hget hall ⟨oI, hoI, hcl, _⟩ F₁ N₁
      have hmem := hall _ (List.mem_singleton.mpr rfl) (next_is_new F) _ hoI
      have hIt : IterObj oI := by rcases hty with rfl | rfl; exact .inl hcl; exact .inr (.inl hcl)
      have N₂ : News h₀ env.locals h ((s.heap.objs.size, oI) :: news₁) := fun p hp => by
        rcases List.mem_cons.mp hp with rfl | hp
        · exact N₁ _ (List.mem_append_left _ hmem)
        · exact N₁ _ (List.mem_append_right _ hp)
      refine wpAny_mono (turn i c u m₁ news₁ h tk _ oI hc hJ hIt (fun p hp e => hoff p hp (List.mem_singleton.mpr e)) F₁ N₂) (fun f s₂ p => ?_) fun _ _ e => e
      have fin : (∃ h' tk' m' news', s₂ = { s with heap := h', toks := tk' } ∧ Fr h₀ env.locals h' m' ∧ News h₀ env.locals h' ([(s.heap.objs.size, oI)] ++ news') ∧ (∀ p ∈ news', ∀ q ∈ [(s.heap.objs.size, oI)], IterObj q.2 → p.1 ≠ q.1) ∧ J (i + 1) m' news') →
          LoopStepU h₀ env.locals [s.heap.objs.size] own (J (i + 1)) { s with heap := h, toks := tk } .next s₂ := by
        rintro ⟨h', tk', m', news', rfl, F', N', hs, hj'⟩
        refine ⟨rfl, h', tk', m', news', rfl, F', fun p hp => ?_, fun p hp e => ?_, hj'⟩
        · rcases List.mem_append.mp hp with hp | hp
          · have e1 := List.mem_singleton.mp (hsub p hp)
            have e2 := hget p hp
            have : p = (s.heap.objs.size, oI) := by
              obtain ⟨a, b⟩ := p
              dsimp only at e1 e2
              subst e1
              have e2' : h.get? _ = some b := e2
              rw [show h.get? s.heap.objs.size = some oI from hoI] at e2'
              cases e2'; rfl
            rw [this]
            exact N' _ (.head _)
          · exact N' _ (List.mem_append_right _ hp)
        · exact hs p hp _ (.head _) hIt (List.mem_singleton.mp e)
      cases f with
      | ret v => exact .ret p
      | brk => exact .brk p
      | next => exact .next (fin p)
      | cont => exact .cont (fin p)
    · intro h' tk m' news' F' N' _ hJ
      exact done m' news' h' tk hJ F' N'
  cases ha : xt.cps.all (· < 128)
  · exact wpAny_pyIter_wide ha (key _ _ (Walks.strWide hh _ xt tx) (.inl rfl) ⟨_, Heap.get?_push_size _ rfl, rfl, rfl⟩)
  · exact wpAny_pyIter_ascii ha (key _ _ (Walks.strAscii hh _ xt tx) (.inr rfl) ⟨_, Heap.get?_push_size _ rfl, rfl, rfl⟩)
end
end
section
open PySem PySem.W PySem.Calls PyProof.Rows Builtin.Str
theorem sliceRange_one (a b : Nat) (h : a ≤ b) : sliceRange (a : Int) (b : Int) 1 = List.range' a (b - a) := by
  unfold sliceRange
  have hc : (if (1 : Int) > 0 then (if (a : Int) < (b : Int) then ((b : Int) - a + 1 - 1) / 1 else 0) else (if (a : Int) > (b : Int) then ((a : Int) - b - 1 - 1) / (-1) else 0)).toNat = b - a := by
    rw [if_pos (by decide)]
    by_cases hab : a < b
    · rw [if_pos (by (first | lia | omega)), Int.ediv_one]; (first | lia | omega)
    · rw [if_neg (by (first | lia | omega))]; (first | lia | omega)
  dsimp only
  rw [hc, List.range'_eq_map_range]
  refine List.map_congr_left fun k _ => ?_
  (first | lia | omega)
theorem filterMap_range' (l : List Nat) : ∀ (n a : Nat), a + n ≤ l.length → (List.range' a n).filterMap (fun i => l[i]?) = (l.drop a).take n
  | 0, a, _ => by simp
  | n + 1, a, h => by
    rw [List.range'_succ, List.filterMap_cons]
    have hlt : a < l.length := by (first | lia | omega)
    rw [List.getElem?_eq_getElem hlt]
    dsimp only
    rw [filterMap_range' l n (a + 1) (by (first | lia | omega)), List.drop_eq_getElem_cons hlt, List.take_succ_cons]
theorem slice_core (l : List Nat) (lo hi : Option Int) (a b : Nat) (ha : a ≤ b) (hb : b ≤ l.length) (hs : strSliceIndices lo hi 1 l.length = List.range' a (b - a)) : Txt.slice (ofL l) lo hi = ofL ((l.take b).drop a) := by
  unfold Txt.slice
  rw [length_ofL, hs, List.length_range']
  have e : (l.take b).drop a = (l.drop a).take (b - a) := by rw [List.drop_take]
  by_cases h : b - a = l.length
  · rw [if_pos (by simp [h])]
    have h1 : a = 0 := by (first | lia | omega)
    have h2 : b = l.length := by (first | lia | omega)
    subst h1 h2
    simp
  · rw [if_neg (by simp [h]), e]
    congr 2
    rw [← filterMap_range' l (b - a) a (by (first | lia | omega))]
    simp
theorem slice_tail (l : List Nat) (k : Nat) (h : 1 ≤ k) : Txt.slice (ofL l) (some (-(k : Int))) none = ofL (l.drop (l.length - k)) := by
  rw [slice_core l _ _ (l.length - k) l.length (by (first | lia | omega)) (Nat.le_refl _), List.take_length]
  rw [← sliceRange_one _ _ (by (first | lia | omega))]
  unfold strSliceIndices
  simp only [show (1 : Int) > 0 from by decide, if_true]
  congr 1 <;> (repeat' split) <;> (first | lia | omega)
theorem slice_init (l : List Nat) (k : Nat) (h : 1 ≤ k) : Txt.slice (ofL l) none (some (-(k : Int))) = ofL (l.take (l.length - k)) := by
  rw [slice_core l _ _ 0 (l.length - k) (by (first | lia | omega)) (by (first | lia | omega)), List.drop_zero]
  rw [← sliceRange_one _ _ (by (first | lia | omega))]
  unfold strSliceIndices
  simp only [show (1 : Int) > 0 from by decide, if_true]
  congr 1 <;> (repeat' split) <;> (first | lia | omega)
theorem slice_mid (l : List Nat) (a b : Nat) (h : a ≤ b) (hb : b ≤ l.length) : Txt.slice (ofL l) (some (a : Int)) (some (b : Int)) = ofL ((l.take b).drop a) := by
  rw [slice_core l _ _ a b h hb]
  rw [← sliceRange_one _ _ (by (first | lia | omega))]
  unfold strSliceIndices
  simp only [show (1 : Int) > 0 from by decide, if_true]
  congr 1 <;> (repeat' split) <;> (first | lia | omega)
theorem ofL_app (a b : List Nat) : ofL a ++ ofL b = ofL (a ++ b) := by
  refine Str.ext' (Array.toList_inj.mp ?_)
  rw [Str.cps_append, Array.toList_append]
theorem ofL_beq (a b : List Nat) : (ofL a == ofL b) = decide (a = b) := by
  by_cases h : a = b
  · subst h; simp
  · rw [decide_eq_false h]
    refine Bool.eq_false_iff.mpr fun q => h ?_
    have := congrArg (fun s : Str => s.cps.toList) (eq_of_beq q)
    simpa using this
theorem str_eq : Str.ofString "=" = ofL [61] := by decide +kernel
theorem str_nil : Str.ofString "" = ofL [] := by decide +kernel
theorem enc_eq (r al : List Nat) : ofL r ++ Str.ofString "=" ++ ofL al = enc r al := by
  rw [str_eq, ofL_app, ofL_app]
  unfold enc
  rw [List.append_assoc]; rfl
noncomputable def six : List Nat := [115, 383, 116, 223, 64262, 8203]
theorem foldC_le (c : Nat) : (foldC c).length ≤ 2 := by
  unfold foldC
  repeat' split
  all_goals decide
end
section
open PySem PySem.W PySem.Calls PyProof.Rows Builtin.Str
theorem b1_six {c : Nat} (h : c ∈ six) : inB1 ((⟨#[c]⟩ : Str).cps.getD 0 0 : Nat) = decide (c = 8203) := by
  have : ∀ c ∈ six, inB1 ((⟨#[c]⟩ : Str).cps.getD 0 0 : Nat) = decide (c = 8203) := by decide +kernel
  exact this c h
theorem fold_six {c : Nat} (h : c ∈ six) (hn : c ≠ 8203) : foldOf ⟨#[c]⟩ = ofL (foldC c) := by
  have : ∀ c ∈ six, c ≠ 8203 → foldL ⟨#[c]⟩ = ofL (foldC c) := by decide +kernel
  rw [foldOf_list]
  exact this c h hn
theorem foldC_ne {c : Nat} (h : c ∈ six) (hn : c ≠ 8203) : 1 ≤ (foldC c).length := by
  have : ∀ c ∈ six, c ≠ 8203 → 1 ≤ (foldC c).length := by decide
  exact this c h hn
theorem rest_8203 (name : List Nat) : rest? name 8203 = none := by unfold rest?; rw [if_neg]; intro h; exact h.1 (by decide)
structure GoodA (al : List Nat) : Prop where
  six : ∀ c ∈ al, c ∈ Mine.six
  len : al.length ≤ 6
theorem strip_self (l : List Nat) (h : ∀ c ∈ l, Unicode.isSpace c = false) : Txt.strip (ofL l) = ofL l := by
  have := strip_mid [] l [] (fun _ q => nomatch q) (fun _ q => nomatch q) h
  simpa using this
theorem GoodN.strip {name : List Nat} (h : GoodN name) : Txt.strip (ofL name) = ofL name := by
  refine strip_self _ fun c hc => ?_
  rcases h c hc with rfl | rfl <;> decide +kernel
theorem GoodA.strip {al : List Nat} (h : GoodA al) : Txt.strip (ofL al) = ofL al := by
  refine strip_self _ fun c hc => ?_
  have : ∀ c ∈ Mine.six, Unicode.isSpace c = false := by decide +kernel
  exact this c (h.six c hc)
theorem rest_yes {name : List Nat} {c : Nat} (h : 1 ≤ (foldC c).length) (e : name.drop (name.length - (foldC c).length) = foldC c) : rest? name c = some (name.take (name.length - (foldC c).length)) := by
  unfold rest?
  rw [if_pos]
  exact ⟨fun q => by (rw [q] at h; cases h), e⟩
theorem rest_no {name : List Nat} {c : Nat} (e : ¬ name.drop (name.length - (foldC c).length) = foldC c) : rest? name c = none := by
  unfold rest?
  rw [if_neg]
  exact fun q => e q.2
end
section
open PySem PySem.W PySem.Calls PyProof.Rows LCg
noncomputable abbrev testsOf (ifs : List Expr) (env : Env) : Sem Bool := forIn ifs true fun c r => if r = true then do let ok ← isTrue c env (eval c env); pure (ForInStep.yield ok) else pure (ForInStep.yield r)
noncomputable def TurnTree (e : Expr) (d : Nat) (it acc : Value) (env : Env) (ipos : Pos) (target : Expr) (ifs : List Expr) (emit : Sem Fin) : Prop :=
  compTurn e d it acc env = (do
      standAt ipos
      match ← pyNext it with
      | none => pure (.done .next)
      | some v =>
        letOwnedTupleGo target it v
        assign target env v
        let ok ← testsOf ifs env
        if ok then emit else again (.compLoop e d it acc env))
section
variable {prog : Program} {w : World} {A : Around} {E : Value → Shared → Prop} {R : Result → Shared → Prop} {s : Shared}
theorem cl_loop {elt : Expr} {gens : List Comprehension} {scope : Scope} {pos : Pos} {d : Nat} {it acc : Value} {env : Env} {ipos : Pos} {target : Expr} {ifs : List Expr} {emit : Sem Fin} (ht : TurnTree (.ListComp elt gens scope pos) d it acc env ipos target ifs emit) (I : Nat → Shared → Prop)
    (turn : ∀ n s, I n s → wpAny (model prog w) A (pyNext it) (fun r s₁ => match r with
      | none => R (.ok .next) s₁
      | some v => wpAny (model prog w) A (letOwnedTupleGo target it v) (fun _ s₀ => wpAny (model prog w) A (assign target env v) (fun _ s₂ =>
          wpAny (model prog w) A (testsOf ifs env) (fun ok s₃ => if ok = true then wpAny (model prog w) A emit (fun fin s₅ => fin = .again (.compLoop (.ListComp elt gens scope pos) d it acc env) ∧ ∃ m, m < n ∧ I m s₅) (notedBy (model prog w) A env fun e s' => R (.error e) s') s₃
            else ∃ m, m < n ∧ I m s₃) (notedBy (model prog w) A env fun e s' => R (.error e) s') s₂)
          (notedBy (model prog w) A env fun e s' => R (.error e) s') s₀) (notedBy (model prog w) A env fun e s' => R (.error e) s') s₁) (notedBy (model prog w) A env fun e s' => R (.error e) s') s)
    (n : Nat) (h : I n s) : codeAny (model prog w) A (.compLoop (.ListComp elt gens scope pos) d it acc env) R s := by
  refine codeAny_loop rfl I (fun n s hI => ?_) n h
  show wpAny _ A ((compTurn (.ListComp elt gens scope pos) d it acc env).onRaise (fun x => do noteFrame x env; theTreesLotGoes x)) _ _ s
  refine wpAny_noted ?_
  rw [ht]
  refine wpAny_bind (wpAny_standAt (wpAny_bind (wpAny_mono (turn n s hI) (fun r s₁ h₁ => ?_) fun _ _ x => x)))
  cases r with
  | none => exact wpAny_pure h₁
  | some v =>
    refine wpAny_bind (wpAny_mono h₁ (fun _ s₀ h₀ => wpAny_bind (wpAny_mono h₀ (fun _ s₂ h₂ => wpAny_bind (wpAny_mono h₂ (fun ok s₃ h₃ => ?_) fun _ _ x => x)) fun _ _ x => x)) fun _ _ x => x)
    cases ok with
    | false => exact wpAny_pure ⟨rfl, h₃⟩
    | true => exact wpAny_mono h₃ (fun fin s₅ h₅ => by obtain ⟨rfl, z⟩ := h₅; exact ⟨rfl, z⟩) fun _ _ x => x
noncomputable def CEnd (h₀ : Heap) (L : Addr) (m : Str → Option Value) (s₁ : Shared) (I : Addr) (oI : Obj) (C D : Addr) (J : List Value → (Str → Option Value) → List (Addr × Obj) → Prop) (s₂ : Shared) : Prop :=
  ∃ h' tk oC m' ys news, s₂ = { s₁ with heap := h', toks := tk } ∧ Fr h₀ L h' m ∧ NsObj oC m' ∧ News h₀ L h' ((I, oI) :: (C, oC) :: (D, lst ys) :: news) ∧ Off3 I C D news ∧ J ys m' news
theorem cloop {h₀ : Heap} {L I C D : Addr} {m : Str → Option Value} {fp : List Addr} {n : Nat} {P : Nat → Value → Prop} {St : Nat → Heap → Prop} {elt : Expr} {gens : List Comprehension} {scope : Scope} {pos : Pos} {d : Nat} {env : Env} {ipos : Pos} {target : Expr} {ifs : List Expr} {emit : Sem Fin} {m₀ : Str → Option Value} {ys₀ : List Value} {news₀ : List (Addr × Obj)}
    (ht : TurnTree (.ListComp elt gens scope pos) d (.ref I) (.ref D) env ipos target ifs emit) (W : Walks prog w A I fp [I] n P St) (J : Nat → List Value → (Str → Option Value) → List (Addr × Obj) → Prop)
    (hIo : ∀ i h, St i h → ∃ o, h.get? I = some o) (hCf : C ∉ fp)
    (hSt : ∀ i h h' o ys m' nw, St i h → h.get? I = some o → h'.get? I = some o → (∀ b o, h₀.get? b = some o → h'.get? b = some o) → News h₀ L h' nw → J i ys m' nw → St i h')
    (hst : St 0 s.heap) (F : Fr h₀ L s.heap m) (hn : s.heap.Ns C m₀) (N : News h₀ L s.heap ((D, lst ys₀) :: news₀)) (off : Off3 I C D news₀) (j0 : J 0 ys₀ m₀ news₀)
    (hIL : L ≠ I) (hCL : C ≠ L) (hCI : I ≠ C) (hDI : I ≠ D) (hCD : C ≠ D) (hI₀ : h₀.get? I = none) (hC₀ : h₀.get? C = none)
    (turn : ∀ i v ys m' oC oI news h tk (E' : Value → Shared → Prop), i < n → P i v → J i ys m' news → NsObj oC m' → Fr h₀ L h m → News h₀ L h ((I, oI) :: (C, oC) :: (D, lst ys) :: news) → Off3 I C D news → St (i + 1) h →
      wpAny (model prog w) A (letOwnedTupleGo target (.ref I) v) (fun _ s₀ => wpAny (model prog w) A (assign target env v) (fun _ s₂ => wpAny (model prog w) A (testsOf ifs env) (fun ok s₃ =>
        if ok = true then wpAny (model prog w) A emit (fun fin s₅ => fin = .again (.compLoop (.ListComp elt gens scope pos) d (.ref I) (.ref D) env) ∧ CEnd h₀ L m { s with heap := h, toks := tk } I oI C D (J (i + 1)) s₅) E' s₃
        else CEnd h₀ L m { s with heap := h, toks := tk } I oI C D (J (i + 1)) s₃) E' s₂) E' s₀) E' { s with heap := h, toks := tk })
    (done : ∀ h tk m' ys news, Fr h₀ L h m → h.Ns C m' → News h₀ L h ((D, lst ys) :: news) → Off3 I C D news → J n ys m' news → R (.ok .next) { s with heap := h, toks := tk }) :
    codeAny (model prog w) A (.compLoop (.ListComp elt gens scope pos) d (.ref I) (.ref D) env) R s := by
  refine cl_loop ht
    (fun k s' => ∃ h' tk i ys m' news', s' = { s with heap := h', toks := tk } ∧ i ≤ n ∧ k = n + 1 - i ∧ St i h' ∧ Fr h₀ L h' m ∧ h'.Ns C m' ∧ News h₀ L h' ((D, lst ys) :: news') ∧ Off3 I C D news' ∧ J i ys m' news') ?_ (n + 1)
    ⟨s.heap, s.toks, 0, ys₀, m₀, news₀, rfl, Nat.zero_le _, rfl, hst, F, hn, N, off, j0⟩
  rintro k s' ⟨h', tk, i, ys, m', news', rfl, hi, rfl, hst', F', hn', N', off', hJ⟩
  have off3 := off'.mem
  have offD : ∀ q ∈ (D, lst ys) :: news', q.1 ≠ I := fun q hq => by
    rcases List.mem_cons.mp hq with rfl | hq
    · exact Ne.symm hDI
    · exact (off3 q hq).1
  by_cases hlt : i < n
  · refine W.item i _ _ _ hlt hst' fun v h₂ tk₂ hPv hst₂ hk₂ => ?_
    have F₂ := fr_but F' hk₂ hIL hI₀
    have N₂ := news_but N' hk₂ offD
    have hn₂ : h₂.Ns C m' := hn'.at' fun o e => hk₂ _ o (by simpa using Ne.symm hCI) e
    obtain ⟨oI, heI⟩ := hIo _ _ hst₂
    obtain ⟨oC, heC, hoC⟩ := ns_obj hn₂
    have N₃ : News h₀ L h₂ ((I, oI) :: (C, oC) :: (D, lst ys) :: news') := fun q hq => by
      rcases List.mem_cons.mp hq with rfl | hq
      · exact ⟨heI, Ne.symm hIL, hI₀⟩
      rcases List.mem_cons.mp hq with rfl | hq
      · exact ⟨heC, hCL, hC₀⟩
      · exact N₂ q hq
    have fin : ∀ s₅, CEnd h₀ L m { s with heap := h₂, toks := tk₂ } I oI C D (J (i + 1)) s₅ → ∃ q, q < n + 1 - i ∧ ∃ h' tk i ys m' news', s₅ = { s with heap := h', toks := tk } ∧ i ≤ n ∧ q = n + 1 - i ∧ St i h' ∧ Fr h₀ L h' m ∧ h'.Ns C m' ∧ News h₀ L h' ((D, lst ys) :: news') ∧ Off3 I C D news' ∧ J i ys m' news' := by
      rintro s₅ ⟨h₅, tk₅, oC₅, m₅, ys₅, news₅, rfl, F₅, hoC₅, N₅, off₅, j₅⟩
      have zI := (N₅ _ (.head _)).1
      refine ⟨n + 1 - (i + 1), by (first | lia | omega), h₅, tk₅, i + 1, ys₅, m₅, news₅, rfl, hlt, rfl, hSt _ _ _ _ _ _ _ hst₂ heI zI F₅.keep (fun q hq => N₅ q (.tail _ (.tail _ (.tail _ hq)))) j₅, F₅, hoC₅.ns (N₅ _ (.tail _ (.head _))).1, fun q hq => N₅ q (.tail _ (.tail _ hq)), off₅, j₅⟩
    refine wpAny_mono (turn i v ys m' oC oI news' h₂ tk₂ _ hlt hPv hJ hoC F₂ N₃ off' hst₂) (fun _ s₀ z₀ => wpAny_mono z₀ (fun _ s₂ z₂ => wpAny_mono z₂ (fun ok s₃ z₃ => ?_) fun _ _ x => x) fun _ _ x => x) fun _ _ x => x
    cases ok with
    | false => exact fin _ z₃
    | true => exact wpAny_mono z₃ (fun _ s₅ z₅ => ⟨z₅.1, fin _ z₅.2⟩) fun _ _ x => x
  · obtain rfl : i = n := Nat.le_antisymm hi (Nat.not_lt.mp hlt)
    refine W.done _ _ _ hst' fun h₂ tk₂ hk₂ => ?_
    exact done h₂ tk₂ m' ys news' (fr_but F' hk₂ hIL hI₀) (hn'.at' fun o e => hk₂ _ o (by simpa using Ne.symm hCI) e) (news_but N' hk₂ offD) off' hJ
end
end
section
open PySem PySem.W PySem.Calls PyProof.Rows LCg
section
variable {prog : Program} {w : World} {A : Around} {E : Value → Shared → Prop} {R : Result → Shared → Prop} {s : Shared} {h₀ : Heap} {L : Addr} {m : Str → Option Value} {env : Env}
structure Began (h₀ : Heap) (L : Addr) (m : Str → Option Value) (s₂ : Shared) (I C D : Addr) (news : List (Addr × Obj)) (h₁ : Heap) (m' : Str → Option Value) : Prop where
  F : Fr h₀ L h₁ m
  ns : h₁.Ns C m'
  N : News h₀ L h₁ ((D, lst []) :: news)
  off : Off3 I C D news
  up : ∀ b o, s₂.heap.get? b = some o → h₁.get? b = some o
  CL : C ≠ L
  DL : D ≠ L
  CI : I ≠ C
  DI : I ≠ D
  CD : C ≠ D
  C0 : h₀.get? C = none
  D0 : h₀.get? D = none
theorem comp_block {elt : Expr} {g : Comprehension} {rest : List Comprehension} {scope : Scope} {cl : List (Str × Addr)} {pos : Pos} {s₂ : Shared} {I : Addr} {fp : List Addr} {n : Nat} {P : Nat → Value → Prop} {St : Nat → Heap → Prop} {news : List (Addr × Obj)} {RR : Value → Addr → Result → Shared → Prop}
    (hg : g.is_async = 0) (W : Walks prog w A I fp [I] n P St) (hst : St 0 s₂.heap) (hfp : ∀ b ∈ fp, b < s₂.heap.objs.size) (hcell : ∀ y ∈ scope.names, y.2 ≠ .cell) (hkind : scope.kind = .function)
    (F : Fr h₀ L s₂.heap m) (N : News h₀ L s₂.heap news) (hI₀ : h₀.get? I = none) (off : ∀ p ∈ news, p.1 ≠ I)
    (loop : ∀ C D h₁ tk m', Began h₀ L m s₂ I C D news h₁ m' → St 0 h₁ → (∀ b ∈ fp, b ≠ C) → codeAny (model prog w) A (.compLoop (.ListComp elt (g :: rest) scope pos) 0 (.ref I) (.ref D) (compEnvC scope cl C env)) (RR (.ref D) C) { s₂ with heap := h₁, toks := tk }) :
    wpAny (model prog w) A (newList []) (fun acc s₃ => wpAny (model prog w) A (newFunctionEnv scope env.globals cl [] env.qual none .none (some env)) (fun cenv s₄ =>
      codeAny (model prog w) A (.compStart (.ListComp elt (g :: rest) scope pos) 0 (.ref I) acc { cenv with scope := relabel scope env }) (RR acc cenv.locals) s₄) E s₃) E s₂ := by
  refine wpAny_newObj_type (wpAny_newFunctionEnv hcell (by intro y hy; simp at hy) (fun h₁ hns₁ hsb₁ => ?_) hkind)
  dsimp only at hns₁ hsb₁ ⊢
  generalize hH2 : s₂.heap.push { cls := .type "list", dict := none, data := .seq ([] : List Value).toArray } = H2 at hns₁ hsb₁ ⊢
  have hC : H2.objs.size = s₂.heap.objs.size + 1 := by rw [← hH2, Heap.size_push]
  have hDC : s₂.heap.objs.size ≠ H2.objs.size := by rw [hC]; exact Nat.ne_of_lt (Nat.lt_succ_self _)
  have below : ∀ b, b < s₂.heap.objs.size → b ≠ H2.objs.size ∧ b ≠ s₂.heap.objs.size := fun b hb => ⟨by rw [hC]; exact Nat.ne_of_lt (Nat.lt_succ_of_lt hb), Nat.ne_of_lt hb⟩
  have hIlt : I < s₂.heap.objs.size := hfp I (W.sub I (List.mem_singleton.mpr rfl))
  have old : ∀ b o, s₂.heap.get? b = some o → h₁.get? b = some o := fun b o e => hsb₁.extBut b o (below b (Heap.lt_size e)).1 (Heap.get?_push_of_some _ (hH2 ▸ Heap.get?_push_of_some _ e))
  have hacc : h₁.get? s₂.heap.objs.size = some (lst []) := hsb₁.extBut _ _ hDC (Heap.get?_push_of_some _ (hH2 ▸ Heap.get?_push_size _ rfl))
  have fresh₀ : ∀ a, s₂.heap.objs.size ≤ a → h₀.get? a = none := fun a ha => none_of_le (fun b o e => F.keep b o e) ha
  have hst₁ : St 0 h₁ := W.frame _ _ _ hst fun b _ o e => old b o e
  have hLlt : L < s₂.heap.objs.size := F.ns.lt
  have B : Began h₀ L m s₂ I H2.objs.size s₂.heap.objs.size news h₁ _ :=
    ⟨F.keeps old, hns₁, fun p hp => by
        rcases List.mem_cons.mp hp with rfl | hp
        · exact ⟨hacc, Ne.symm (below L hLlt).2, fresh₀ _ (Nat.le_refl _)⟩
        · exact ⟨old _ _ (N p hp).1, (N p hp).2⟩,
      Off3.of fun p hp => ⟨off p hp, (below _ (Heap.lt_size (N p hp).1)).1, (below _ (Heap.lt_size (N p hp).1)).2⟩, old,
      Ne.symm (below L hLlt).1, Ne.symm (below L hLlt).2, (below I hIlt).1, (below I hIlt).2, Ne.symm hDC, fresh₀ _ (by rw [hC]; exact Nat.le_succ _), fresh₀ _ (Nat.le_refl _)⟩
  have lp := loop _ _ h₁ (s₂.toks + ([] : List (Str × Value)).length) _ B hst₁ (fun b hb => (below b (hfp b hb)).1)
  obtain ⟨t, it, ifs, a⟩ := g
  dsimp only at hg
  subst hg
  exact codeAny_compStart_list lp (W.self 0 _ _ _ hst₁ lp)
theorem comp_eval {elt : Expr} {g : Comprehension} {rest : List Comprehension} {scope : Scope} {cl : List (Str × Addr)} {pos : Pos} {Q : Value → Shared → Prop}
    (_F₀ : Fr h₀ L s.heap m) (hg : g.is_async = 0) (hclos : closureFor scope env = pure cl) (hcell : ∀ y ∈ scope.names, y.2 ≠ .cell) (hkind : scope.kind = .function) (hnames : ∀ y ∈ scope.names, y.2 = .local → scope.names.lookup y.1 = some .local)
    (h : wpAny (model prog w) A (eval g.iter env) (fun xv s₁ => wpAny (model prog w) A (pyIter xv) (fun it s₂ => ∃ I fp n P St news, it = .ref I ∧ Walks prog w A I fp [I] n P St ∧ St 0 s₂.heap ∧ (∀ b ∈ fp, b < s₂.heap.objs.size) ∧ Fr h₀ L s₂.heap m ∧ News h₀ L s₂.heap news ∧ h₀.get? I = none ∧ (∀ p ∈ news, p.1 ≠ I) ∧
      ∀ C D h₁ tk m', Began h₀ L m s₂ I C D news h₁ m' → St 0 h₁ → (∀ b ∈ fp, b ≠ C) → codeAny (model prog w) A (.compLoop (.ListComp elt (g :: rest) scope pos) 0 (.ref I) (.ref D) (compEnvC scope cl C env))
        (fun r s' => match r with | .ok _ => ∃ h tk m' ys news', s' = { s₂ with heap := h, toks := tk } ∧ Fr h₀ L h m ∧ h.Ns C m' ∧ News h₀ L h ((D, lst ys) :: news') ∧ Off3 I C D news' ∧ FinE h₀ L m s₂ Q ys news' | .error _ => False) { s₂ with heap := h₁, toks := tk }) E s₁) E s)
    (hs : ∀ x, foldedSetIterable g.iter env x = pure x := by intro _; rfl) (ha : firstAsync (g :: rest) = false := by rfl) (hf : firstIter (g :: rest) env = eval g.iter env := by rfl) :
    wpAny (model prog w) A (eval (.ListComp elt (g :: rest) scope pos) env) Q E s := by
  rw [eval_ListComp, ha, hf]
  refine wpAny_comprehension_free (use := none) rfl hs hclos hkind hnames (wpAny_mono h (fun xv s₁ h₁ => wpAny_mono h₁ (fun it s₂ h₂ => ?_) fun _ _ e => e) fun _ _ e => e)
  obtain ⟨I, fp, n, P, St, news, rfl, W, hst, hfp, F, N, hI₀, off, loop⟩ := h₂
  refine comp_block (RR := fun acc C => compPost (model prog w) A E none Q acc C) hg W hst hfp hcell hkind F N hI₀ off fun C D h₁ tk m' B hst₁ hf => ?_
  refine codeAny_mono (loop C D h₁ tk m' B hst₁ hf) fun r s' z => ?_
  cases r with
  | error _ => exact z.elim
  | ok f =>
    obtain ⟨h, tk', m'', ys, news', rfl, F', hn, N', off', fin⟩ := z
    refine ⟨m'', hn, fun h'' hs'' => fin D h'' tk' (F'.change hs'' B.CL B.C0) (fun p hp => ⟨hs''.extBut _ _ ?_ (N' p hp).1, (N' p hp).2⟩) off'.one⟩
    rcases List.mem_cons.mp hp with rfl | hp
    · exact Ne.symm B.CD
    · exact (off'.mem p hp).2.1
theorem comp_assign {elt : Expr} {g : Comprehension} {rest : List Comprehension} {scope : Scope} {cl : List (Str × Addr)} {pos spos py : Pos} {y : Str} {Q : Flow → Shared → Prop}
    (_F₀ : Fr h₀ L s.heap m) (hg : g.is_async = 0) (hLe : env.locals = L) (hsw : swapsWith (.ListComp elt (g :: rest) scope pos) (some (.Name y py)) spos.line env = pure true)
    (hclos : closureFor scope env = pure cl) (hcell : ∀ y ∈ scope.names, y.2 ≠ .cell) (hkind : scope.kind = .function) (hnames : ∀ y ∈ scope.names, y.2 = .local → scope.names.lookup y.1 = some .local)
    (hy : env.kindOf y = some .local) (hp : (env.scope.kind == .class || (env.scope.kind == .module && env.locals != env.globals)) = false)
    (h : wpAny (model prog w) A (eval g.iter env) (fun xv s₁ => wpAny (model prog w) A (pyIter xv) (fun it s₂ => ∃ I fp n P St news, it = .ref I ∧ Walks prog w A I fp [I] n P St ∧ St 0 s₂.heap ∧ (∀ b ∈ fp, b < s₂.heap.objs.size) ∧ Fr h₀ L s₂.heap m ∧ News h₀ L s₂.heap news ∧ h₀.get? I = none ∧ (∀ p ∈ news, p.1 ≠ I) ∧
      ∀ C D h₁ tk m', Began h₀ L m s₂ I C D news h₁ m' → St 0 h₁ → (∀ b ∈ fp, b ≠ C) → codeAny (model prog w) A (.compLoop (.ListComp elt (g :: rest) scope pos) 0 (.ref I) (.ref D) (compEnvC scope cl C env))
        (fun r s' => match r with | .ok _ => ∃ h tk m' ys news', s' = { s₂ with heap := h, toks := tk } ∧ Fr h₀ L h m ∧ h.Ns C m' ∧ News h₀ L h ((D, lst ys) :: news') ∧ Off3 I C D news' ∧ FinA h₀ L m s₂ y Q ys news' | .error _ => False) { s₂ with heap := h₁, toks := tk }) E s₁) E s)
    (hs : ∀ x, foldedSetIterable g.iter env x = pure x := by intro _; rfl) (ha : firstAsync (g :: rest) = false := by rfl) (hf : firstIter (g :: rest) env = eval g.iter env := by rfl) :
    wpAny (model prog w) A (exec (.Assign [.Name y py] (.ListComp elt (g :: rest) scope pos) spos) env) Q E s := by
  subst hLe
  rw [exec_Assign_Name_used _ _ _ _ hsw]
  refine wpAny_bind (wpAny_standAt (wpAny_bind ?_))
  show wpAny _ A (do let _ ← comprehension (.ListComp elt (g :: rest) scope pos) scope env _ (newList []) (firstAsync (g :: rest)) (firstIter (g :: rest) env) (some (assign (.Name y py) env))) _ _ s
  rw [ha, hf]
  refine wpAny_bind (wpAny_mono (wpAny_comprehension_free (use := some (assign (.Name y py) env)) (Q := fun _ s' => Q .next s') rfl hs hclos hkind hnames
    (wpAny_mono h (fun xv s₁ h₁ => wpAny_mono h₁ (fun it s₂ h₂ => ?_) fun _ _ e => e) fun _ _ e => e)) (fun _ s' hq => wpAny_pure (wpAny_pure hq)) fun _ _ e => e)
  obtain ⟨I, fp, n, P, St, news, rfl, W, hst, hfp, F, N, hI₀, off, loop⟩ := h₂
  refine comp_block (RR := fun acc C => compPost (model prog w) A E (some (assign (.Name y py) env)) (fun _ s' => Q .next s') acc C) hg W hst hfp hcell hkind F N hI₀ off fun C D h₁ tk m' B hst₁ hf => ?_
  refine codeAny_mono (loop C D h₁ tk m' B hst₁ hf) fun r s' z => ?_
  cases r with
  | error _ => exact z.elim
  | ok f =>
    obtain ⟨h, tk', m'', ys, news', rfl, F', hn, N', off', fin⟩ := z
    show wpAny _ A (assign (.Name y py) env (.ref D)) _ _ _
    refine wpAny_assign_Name (wpAny_storeName_local hy F'.ns (fun h₂ hn₂ hs₂ => ?_) hp)
    have hL₀ : h₀.get? env.locals = none := Heap.get?_none_of_le F'.above
    have F₂ : Fr h₀ env.locals h₂ (fun z => if z = y then some (.ref D) else m z) := ⟨hn₂, fun b o e => hs₂.extBut b o (fun q => by rw [q, hL₀] at e; cases e) (F'.keep b o e), F'.above⟩
    refine ⟨m'', hn.sameBut hs₂ B.CL, fun h'' hs'' => fin D h'' _ (F₂.change hs'' B.CL B.C0) (fun p hp => ⟨hs''.extBut _ _ ?_ (hs₂.extBut _ _ (N' p hp).2.1 (N' p hp).1), (N' p hp).2⟩) off'.one⟩
    rcases List.mem_cons.mp hp with rfl | hp
    · exact Ne.symm B.CD
    · exact (off'.mem p hp).2.1
noncomputable def CEl (h₀ : Heap) (L : Addr) (m : Str → Option Value) (s₁ : Shared) (I : Addr) (oI : Obj) (C D : Addr) (ys : List Value) (J : List Value → (Str → Option Value) → List (Addr × Obj) → Prop) (y : Value) (s₂ : Shared) : Prop :=
  ∃ h' tk oC m' news, s₂ = { s₁ with heap := h', toks := tk } ∧ Fr h₀ L h' m ∧ NsObj oC m' ∧ News h₀ L h' ((I, oI) :: (C, oC) :: (D, lst ys) :: news) ∧ Off3 I C D news ∧ J (ys ++ [y]) m' news
theorem emit_append {s₁ : Shared} {I C D : Addr} {oI : Obj} {ys : List Value} {J : List Value → (Str → Option Value) → List (Addr × Obj) → Prop} {elt : Expr} {cenv : Env} {c : Code} (hDI : I ≠ D) (hCD : C ≠ D) (hz : ys.length ≤ sizeLine)
    (h : wpAny (model prog w) A (eval elt cenv) (CEl h₀ L m s₁ I oI C D ys J) E s) :
    wpAny (model prog w) A ((do let _ ← call (.builtin "list.append") [.ref D, ← eval elt cenv] : Sem Unit) >>= fun _ => again c) (fun fin s₅ => fin = .again c ∧ CEnd h₀ L m s₁ I oI C D J s₅) E s := by
  refine wpAny_bind (wpAny_bind (wpAny_mono h (fun y s₄ z => ?_) fun _ _ e => e))
  obtain ⟨h₄, tk₄, oC, m', news, rfl, F₄, hoC, N₄, off, j⟩ := z
  have zD := N₄ _ (.tail _ (.tail _ (.head _)))
  refine wpAny_bind (append_at (hsz := by show ys.toArray.size ≤ sizeLine; rw [List.size_toArray]; exact hz) zD.1 fun h₅ hs₅ hD₅ => wpAny_pure (wpAny_pure ⟨rfl, ?_⟩))
  refine ⟨h₅, tk₄, oC, m', ys ++ [y], news, rfl, F₄.change hs₅ zD.2.1 zD.2.2, hoC, fun p hp => ?_, off, j⟩
  rcases List.mem_cons.mp hp with rfl | hp
  · exact ⟨hs₅.extBut _ _ hDI (N₄ _ (.head _)).1, (N₄ _ (.head _)).2⟩
  rcases List.mem_cons.mp hp with rfl | hp
  · exact ⟨hs₅.extBut _ _ hCD (N₄ _ (.tail _ (.head _))).1, (N₄ _ (.tail _ (.head _))).2⟩
  rcases List.mem_cons.mp hp with rfl | hp
  · exact ⟨hD₅.trans (congrArg some (lst_snoc ys y)), zD.2⟩
  · have z := N₄ p (.tail _ (.tail _ (.tail _ hp)))
    exact ⟨hs₅.extBut _ _ (off.mem p hp).2.2 z.1, z.2⟩
end
end
section
open PySem PySem.W PySem.Calls PyProof.Rows LCg
theorem tt_one (elt target iter : Expr) (ifs : List Expr) (scope : Scope) (pos : Pos) (it acc : Value) (env : Env) :
    TurnTree (.ListComp elt [⟨target, iter, ifs, 0⟩] scope pos) 0 it acc env iter.pos target ifs ((do let _ ← call (.builtin "list.append") [acc, ← eval elt env] : Sem Unit) >>= fun _ => again (.compLoop (.ListComp elt [⟨target, iter, ifs, 0⟩] scope pos) 0 it acc env)) := by rfl
noncomputable abbrev twoOf (elt t0 i0 : Expr) (f0 : List Expr) (t1 i1 : Expr) (f1 : List Expr) (scope : Scope) (pos : Pos) : Expr := .ListComp elt [⟨t0, i0, f0, 0⟩, ⟨t1, i1, f1, 0⟩] scope pos
theorem tt_two0 (elt t0 i0 : Expr) (f0 : List Expr) (t1 i1 : Expr) (f1 : List Expr) (scope : Scope) (pos : Pos) (it acc : Value) (env : Env) :
    TurnTree (twoOf elt t0 i0 f0 t1 i1 f1 scope pos) 0 it acc env i0.pos t0 f0 (do
      let x ← eval i1 env
      standAt i1.pos
      let x ← foldedSetIterable i1 env x
      let _ ← runOwn (.compStart (twoOf elt t0 i0 f0 t1 i1 f1 scope pos) 1 (← holding [x] (pyIter x)) acc env) env
      again (.compLoop (twoOf elt t0 i0 f0 t1 i1 f1 scope pos) 0 it acc env)) := by rfl
theorem tt_two1 (elt t0 i0 : Expr) (f0 : List Expr) (t1 i1 : Expr) (f1 : List Expr) (scope : Scope) (pos : Pos) (it acc : Value) (env : Env) :
    TurnTree (twoOf elt t0 i0 f0 t1 i1 f1 scope pos) 1 it acc env i1.pos t1 f1 ((do let _ ← call (.builtin "list.append") [acc, ← eval elt env] : Sem Unit) >>= fun _ => again (.compLoop (twoOf elt t0 i0 f0 t1 i1 f1 scope pos) 1 it acc env)) := by rfl
section
variable {prog : Program} {w : World} {A : Around} {E : Value → Shared → Prop} {R : Result → Shared → Prop} {s : Shared} {h₀ : Heap} {L : Addr} {m m' : Str → Option Value} {env : Env} {I C D : Addr} {oI oC oD : Obj} {news : List (Addr × Obj)} {scope : Scope} {cl : List (Str × Addr)}
theorem compStart_one {elt t0 i0 : Expr} {f0 : List Expr} {t1 i1 : Expr} {f1 : List Expr} {pos : Pos} {it acc : Value}
    (h0 : codeAny (model prog w) A (.compLoop (twoOf elt t0 i0 f0 t1 i1 f1 scope pos) 1 it acc env) R s)
    (h : wpAny (model prog w) A (pyIter it) (fun it' s' => codeAny (model prog w) A (.compLoop (twoOf elt t0 i0 f0 t1 i1 f1 scope pos) 1 it' acc env) R s') (notedBy (model prog w) A env fun x s' => R (.error x) s') s) :
    codeAny (model prog w) A (.compStart (twoOf elt t0 i0 f0 t1 i1 f1 scope pos) 1 it acc env) R s := by
  refine codeAny_of_tree ?_
  show wpAny _ _ ((compStart (twoOf elt t0 i0 f0 t1 i1 f1 scope pos) 1 it acc env).onRaise (fun x => do noteFrame x env; standAt theWindowsPlace)) _ _ s
  refine wpAny_notedAt ?_
  unfold compStart
  show wpAny _ _ (ask >>= _) _ _ s
  refine wpAny_bind (wpAny_askSetting (wpAny_ite ?_))
  split
  · first
      | exact wpAny_bind (wpAny_pure (wpAny_pure ⟨rfl, h0⟩))
      | exact wpAny_pure ⟨rfl, h0⟩
  · refine wpAny_bind (wpAny_rule ?_)
    show wpAny _ _ (standAt i1.pos >>= _) _ _ s
    exact wpAny_bind (wpAny_standAt (wpAny_bind (wpAny_mono h (fun it' s' h' => wpAny_pure ⟨rfl, h'⟩) fun _ _ x => x)))
theorem emit_inner {elt t0 i0 : Expr} {f0 : List Expr} {t1 i1 : Expr} {f1 : List Expr} {pos : Pos} {acc : Value} {c : Code} {Q : Shared → Prop}
    (h : wpAny (model prog w) A (eval i1 env) (fun xv s₁ => wpAny (model prog w) A (pyIter xv) (fun it s₂ => (∀ Q' : Value → Shared → Prop, ∀ E', Q' it s₂ → wpAny (model prog w) A (pyIter it) Q' E' s₂) ∧
      codeAny (model prog w) A (.compLoop (twoOf elt t0 i0 f0 t1 i1 f1 scope pos) 1 it acc env) (fun r s' => match r with | .ok _ => Q s' | .error _ => False) s₂) E s₁) E s)
    (hs : ∀ x, foldedSetIterable i1 env x = pure x) :
    wpAny (model prog w) A (do
      let x ← eval i1 env
      standAt i1.pos
      let x ← foldedSetIterable i1 env x
      let _ ← runOwn (.compStart (twoOf elt t0 i0 f0 t1 i1 f1 scope pos) 1 (← holding [x] (pyIter x)) acc env) env
      again c) (fun fin s' => fin = .again c ∧ Q s') E s := by
  refine wpAny_bind (wpAny_mono h (fun xv s₁ h₁ => ?_) fun _ _ e => e)
  refine wpAny_bind (wpAny_standAt (wpAny_bind (wpAny_of_eq (hs xv) (wpAny_bind (wpAny_holding (wpAny_mono h₁ (fun it s₂ h₂ => ?_) fun _ _ e => e))))))
  obtain ⟨hself, hl⟩ := h₂
  have hl' : codeAny (model prog w) (A.mark none) (.compLoop (twoOf elt t0 i0 f0 t1 i1 f1 scope pos) 1 it acc env) (fun r s' => match r with | .ok _ => Q s' | .error _ => False) s₂ := hl
  refine wpAny_bind (wpAny_runOwn (codeAny_mono (compStart_one hl' (hself _ _ hl')) fun r s' z => ?_) (by intro x; cases x))
  cases r with
  | error _ => exact z.elim
  | ok f => exact wpAny_pure ⟨rfl, z⟩
theorem name_turn {x : Str} {px : Pos} {v : Value} {Q : Unit → Shared → Prop} (hkind : scope.kind = .function) (hx : scope.names.lookup x = some .local) (F : Fr h₀ L s.heap m) (hoC : NsObj oC m') (N : News h₀ L s.heap ((I, oI) :: (C, oC) :: (D, oD) :: news)) (off : Off3 I C D news) (hCI : I ≠ C) (hCD : C ≠ D)
    (h : ∀ h' tk oC', Fr h₀ L h' m → NsObj oC' (fun y => if y = x then some v else m' y) → News h₀ L h' ((I, oI) :: (C, oC') :: (D, oD) :: news) → Q () { s with heap := h', toks := tk }) :
    wpAny (model prog w) A (assign (.Name x px) (compEnvC scope cl C env) v) Q E s := by
  have zC := N _ (.tail _ (.head _))
  refine wpAny_assign_Name (wpAny_storeName_local (lookup_relabel_local hx) (hoC.ns zC.1) (fun h₃ hn₃ hs₃ => ?_) (by simp [compEnvC, relabel, hkind]))
  obtain ⟨oC', heC, hoC'⟩ := ns_obj hn₃
  refine h h₃ _ oC' (F.change hs₃ zC.2.1 zC.2.2) hoC' fun p hp => ?_
  rcases List.mem_cons.mp hp with rfl | hp
  · exact ⟨hs₃.extBut _ _ hCI (N _ (.head _)).1, (N _ (.head _)).2⟩
  rcases List.mem_cons.mp hp with rfl | hp
  · exact ⟨heC, zC.2⟩
  rcases List.mem_cons.mp hp with rfl | hp
  · exact ⟨hs₃.extBut _ _ (Ne.symm hCD) (N _ (.tail _ (.tail _ (.head _)))).1, (N _ (.tail _ (.tail _ (.head _)))).2⟩
  · have z := N p (.tail _ (.tail _ (.tail _ hp)))
    exact ⟨hs₃.extBut _ _ (off.mem p hp).2.1 z.1, z.2⟩
theorem pair_turn {x x₂ : Str} {px px₂ tp : Pos} {tk} {t : Addr} {v₁ v₂ : Value} {l : Addr} {i : Nat} {Q : Unit → Shared → Prop} (hh : A.handled = none) (hkind : scope.kind = .function) (hx : scope.names.lookup x = some .local) (hx₂ : scope.names.lookup x₂ = some .local)
    (hit : s.heap.IsListIter I l i) (ht : IsTup s.heap t #[v₁, v₂]) (F : Fr h₀ L s.heap m) (hoC : NsObj oC m') (N : News h₀ L s.heap ((I, oI) :: (C, oC) :: (D, oD) :: news)) (off : Off3 I C D news) (hCI : I ≠ C) (hCD : C ≠ D)
    (h : ∀ h' tk oC', Fr h₀ L h' m → NsObj oC' (fun y => if y = x₂ then some v₂ else if y = x then some v₁ else m' y) → News h₀ L h' ((I, oI) :: (C, oC') :: (D, oD) :: news) → Q () { s with heap := h', toks := tk }) :
    wpAny (model prog w) A (letOwnedTupleGo (.Tuple [.Name x px, .Name x₂ px₂] tk tp) (.ref I) (.ref t)) (fun _ s₀ => wpAny (model prog w) A (assign (.Tuple [.Name x px, .Name x₂ px₂] tk tp) (compEnvC scope cl C env) (.ref t)) Q E s₀) E s := by
  have zC := N _ (.tail _ (.head _))
  refine wpAny_letOwnedTupleGo_listiter hit ?_
  refine assign_Tuple_tuple hh ht rfl rfl fun h₅ he => ?_
  have he' : ∀ b o, s.heap.get? b = some o → h₅.get? b = some o := fun b o e => he b o (Nat.ne_of_lt (Heap.lt_size e)) e
  refine assignInOrder_cons (wpAny_assign_Name (wpAny_storeName_local (lookup_relabel_local hx) ((hoC.ns zC.1).at' fun o e => he' _ o e) (fun h₆ hn₆ hs₆ => ?_) (by simp [compEnvC, relabel, hkind])))
  refine assignInOrder_cons (wpAny_assign_Name (wpAny_storeName_local (lookup_relabel_local hx₂) hn₆ (fun h₃ hn₃ hs₃ => ?_) (by simp [compEnvC, relabel, hkind])))
  refine assignInOrder_nil ?_
  have old : ∀ b o, b ≠ C → s.heap.get? b = some o → h₃.get? b = some o := fun b o hb e => hs₃.extBut b o hb (hs₆.extBut b o hb (he' b o e))
  obtain ⟨oC', heC, hoC'⟩ := ns_obj hn₃
  refine h h₃ _ oC' (((F.keeps he').change hs₆ zC.2.1 zC.2.2).change hs₃ zC.2.1 zC.2.2) hoC' fun p hp => ?_
  rcases List.mem_cons.mp hp with rfl | hp
  · exact ⟨old _ _ hCI (N _ (.head _)).1, (N _ (.head _)).2⟩
  rcases List.mem_cons.mp hp with rfl | hp
  · exact ⟨heC, zC.2⟩
  rcases List.mem_cons.mp hp with rfl | hp
  · exact ⟨old _ _ (Ne.symm hCD) (N _ (.tail _ (.tail _ (.head _)))).1, (N _ (.tail _ (.tail _ (.head _)))).2⟩
  · have z := N p (.tail _ (.tail _ (.tail _ hp)))
    exact ⟨old _ _ (off.mem p hp).2.1 z.1, z.2⟩
end
section
variable {w : World} {A : Around} {s : Shared} {R : Result → Shared → Prop} {name qual : Str} {params : Arguments} {body : List Stmt} {scope : Scope} {dV kV doc pm cdv ct oc : Value} {an od : Option Addr} {osl : Array (Option Value)} {f : Addr} {args : Args} {binds : List (Str × Value)}
  {mg mb : Str → Option Value} {p : Program} {loose : List Str}
theorem enterPc (X : (KK w.params).In s.heap) (T : TopRead p loose mg mb s.heap)
    (ho : (KK w.params).lookup f = some ⟨oc, od, .func (fnOf name qual params body scope dV kV doc pm an cdv ct), osl⟩) (hcd : codeIn (KK w.params) cdv qual = true) (hroom : A.depth < recursionLimit)
    (hbind : BindsTo s (fnOf name qual params body scope dV kV doc pm an cdv ct) args binds) (hkind : (binds.all fun y => scope.names.lookup y.1 == some .local || scope.names.lookup y.1 == some .cell) = true)
    (hnd : ((cellsFrom 0 scope.names []).map (·.1)).Nodup)
    (h : ∀ h₁ L' tk cells, L' = s.heap.objs.size → Fr s.heap L' h₁ (bindL (envOfC qual scope L' f cdv).kindOf binds fun _ => none) → News s.heap L' h₁ cells →
      CellsAre (bindC (envOfC qual scope L' f cdv).kindOf binds fun _ => none) (cellsFrom (L' + 1) scope.names []) cells →
      wpAny (model PR w) (A.deeper (envOfC qual scope L' f cdv)) (execs body (envOfC qual scope L' f cdv))
        (fun fl s' => R (.ok (.ret (match fl with | .ret v => v | _ => .none))) s') (fun _ _ => False)
        { s with heap := h₁, toks := tk })
    (hco : scope.isCoroutine = false) (hgen : scope.isGenerator = false) (hk : scope.kind = .function) :
    codeAny (model PR w) A (.call (.ref f) args) R s := by
  refine codeAny_call_function hroom (X _ _ ho) rfl hco hgen rfl (codeRec_of X hcd) (hbind _ _ _ _ ?_)
  refine wpAny_newFunctionEnv_cells hk (kindsX hkind _) fun env' he s' x => ?_
  subst he
  refine ⟨T.nolimit.keeps x.toInCall.keep, codeAny_func ?_⟩
  obtain ⟨h₁, tk, rfl, _⟩ := x.done
  have hk₁ := x.toInCall.keep
  obtain ⟨cells, NC, Y⟩ := Cl.news (h₀ := s.heap) (Nat.le_refl _) fun n c hm => ⟨x.cell n c (lookup_of_mem_nodup (cellsFrom_names scope.names 0 (s.heap.objs.size + 1) [] [] rfl ▸ hnd) hm), x.above n c hm⟩
  exact wpAny_mono (h h₁ _ tk cells rfl ⟨x.toInCall.ns, fun b o e => hk₁ b o e, Nat.le_refl _⟩ NC Y) (fun fl s' z => z) fun _ _ z => z.elim
end
end
section
open PySem PySem.W PySem.Calls PyProof.Rows LCg
section
variable {prog : Program} {w : World} {A : Around} {E : Value → Shared → Prop} {s : Shared} {h₀ : Heap} {L : Addr} {m : Str → Option Value} {env : Env} {scope : Scope} {cl : List (Str × Addr)}
noncomputable def CGo (prog : Program) (w : World) (A : Around) (h₀ : Heap) (L : Addr) (m : Str → Option Value) (env : Env) (elt : Expr) (gens : List Comprehension) (scope : Scope) (pos : Pos) (cl : List (Str × Addr)) (Fin : Shared → List Value → List (Addr × Obj) → Prop) (it : Value) (s₂ : Shared) : Prop :=
  ∃ I fp n P St news, it = .ref I ∧ Walks prog w A I fp [I] n P St ∧ St 0 s₂.heap ∧ (∀ b ∈ fp, b < s₂.heap.objs.size) ∧ Fr h₀ L s₂.heap m ∧ News h₀ L s₂.heap news ∧ h₀.get? I = none ∧ (∀ p ∈ news, p.1 ≠ I) ∧
      ∀ C D h₁ tk m', Began h₀ L m s₂ I C D news h₁ m' → St 0 h₁ → (∀ b ∈ fp, b ≠ C) → codeAny (model prog w) A (.compLoop (.ListComp elt gens scope pos) 0 (.ref I) (.ref D) (compEnvC scope cl C env))
        (fun r s' => match r with | .ok _ => ∃ h tk m' ys news', s' = { s₂ with heap := h, toks := tk } ∧ Fr h₀ L h m ∧ h.Ns C m' ∧ News h₀ L h ((D, lst ys) :: news') ∧ Off3 I C D news' ∧ Fin s₂ ys news' | .error _ => False) { s₂ with heap := h₁, toks := tk }
theorem cgo_pairs {elt iter : Expr} {x x₂ : Str} {px px₂ tp : Pos} {tk} {ifs : List Expr} {pos : Pos} {Fin : Shared → List Value → List (Addr × Obj) → Prop} {l : Addr} {its : Array Value} {news : List (Addr × Obj)} (J : Nat → List Value → List (Addr × Obj) → Prop)
    (hh : A.handled = none) (hkind : scope.kind = .function) (hx : scope.names.lookup x = some .local) (hx₂ : scope.names.lookup x₂ = some .local) (hne : x ≠ x₂) (F : Fr h₀ L s.heap m) (N : News h₀ L s.heap news) (hsz : its.size ≤ sizeLine)
    (hJs : ∀ i ys nw, J i ys nw → SrcAt h₀ l its nw ∧ ys.length ≤ i) (j0 : J 0 [] news)
    (item : ∀ i v ys nw, its[i]? = some v → J i ys nw → ∃ t ot v₁ v₂ k, v = .ref t ∧ ((t, ot) ∈ nw ∨ h₀.get? t = some ot) ∧ ot.cls = .type "tuple" ∧ ot.data = .seq #[v₁, v₂] k ∧
      ∀ I oI C D oC m' h tk (E' : Value → Shared → Prop), NsObj oC m' → m' x = some v₁ → m' x₂ = some v₂ → Fr h₀ L h m → News h₀ L h ((I, oI) :: (C, oC) :: (D, lst ys) :: nw) → Off3 I C D nw → I ≠ C ∧ I ≠ D ∧ C ≠ D →
        wpAny (model prog w) A (testsOf ifs (compEnvC scope cl C env)) (fun ok s₃ => if ok = true then wpAny (model prog w) A (eval elt (compEnvC scope cl C env)) (CEl h₀ L m { s with heap := h, toks := tk } I oI C D ys (fun ys' _ nw' => J (i + 1) ys' nw')) E' s₃
          else CEnd h₀ L m { s with heap := h, toks := tk } I oI C D (fun ys' _ nw' => J (i + 1) ys' nw') s₃) E' { s with heap := h, toks := tk })
    (fin : ∀ g ys nw, J its.size ys nw → Fin { s with heap := g } ys nw) :
    wpAny (model prog w) A (pyIter (.ref l)) (fun it s₂ => CGo prog w A h₀ L m env elt [⟨.Tuple [.Name x px, .Name x₂ px₂] tk tp, iter, ifs, 0⟩] scope pos cl Fin it s₂) E s := by
  have hl := (hJs _ _ _ j0).1.list F.keep N
  have hlt : l < s.heap.objs.size := by obtain ⟨_, e, _⟩ := hl; exact Heap.lt_size e
  refine wpAny_pyIter_list hl ?_
  have up : ∀ b o, s.heap.get? b = some o → (s.heap.push { cls := .type "list_iterator", data := .fields #[.ref l, .int 0 0] }).get? b = some o := fun b o e => Heap.get?_push_of_some _ e
  have W := Walks.list (prog := prog) (w := w) hh s.heap.objs.size l (Nat.ne_of_lt hlt) its
  refine ⟨_, _, _, _, _, news, rfl, W, ⟨⟨_, Heap.get?_push_size _ rfl, rfl, rfl⟩, hl.push _⟩, ?_, F.keeps up, N.grown up, next_is_new F, (fun p hp => Nat.ne_of_lt (Heap.lt_size (N p hp).1)), ?_⟩
  · intro b hb
    show b < (s.heap.push _).objs.size
    rw [Heap.size_push]
    rcases List.mem_cons.mp hb with rfl | hb
    · exact Nat.lt_succ_self _
    · rw [List.mem_singleton.mp hb]; exact Nat.lt_succ_of_lt hlt
  · intro C D h₁ tk₁ m' B hst hf
    refine cloop (tt_one _ _ _ _ _ _ _ _ _) W (fun i ys _ nw => J i ys nw) (fun i h st => by obtain ⟨o, e, _⟩ := st.1; exact ⟨o, e⟩) (fun hm => hf _ hm rfl) ?_ hst B.F B.ns B.N B.off j0 (Nat.ne_of_lt F.ns.lt) B.CL B.CI B.DI B.CD (next_is_new F) B.C0 ?_ ?_
    · intro i h h' o ys m' nw st e1 e2 k N' j
      exact list_st i h h' o nw st e1 e2 k N' (hJs _ _ _ j).1
    · intro i v ys m' oC oI nw h tk E' hi hv j hoC F' N' off st
      obtain ⟨t, ot, v₁, v₂, k, rfl, hm, hc, hd, go⟩ := item i v ys nw hv j
      have hot : h.get? t = some ot := hm.elim (fun hm => (N' _ (.tail _ (.tail _ (.tail _ hm)))).1) fun e => F'.keep _ _ e
      refine pair_turn hh hkind hx hx₂ st.1 ⟨ot, hot, hc, k, hd⟩ F' hoC N' off B.CI B.CD fun h' tk' oC' F₂ hoC' N₂ => ?_
      refine wpAny_mono (go _ oI C D oC' _ h' tk' E' hoC' (by simp [hne]) (by simp) F₂ N₂ off ⟨B.CI, B.DI, B.CD⟩) (fun ok s₃ z => ?_) fun _ _ e => e
      cases ok with
      | false => exact z
      | true => exact emit_append B.DI B.CD (Nat.le_trans (hJs _ _ _ j).2 (Nat.le_trans (Nat.le_of_lt hi) hsz)) z
    · intro h tk m' ys nw F' hn N' off j
      exact ⟨h, tk, m', ys, nw, rfl, F', hn, N', off, fin _ ys nw j⟩
theorem cgo_names {elt iter : Expr} {x : Str} {px : Pos} {ifs : List Expr} {pos : Pos} {Fin : Shared → List Value → List (Addr × Obj) → Prop} {I : Addr} {n : Nat} {P : Nat → Value → Prop} {St : Nat → Heap → Prop} {news : List (Addr × Obj)} (J : Nat → List Value → List (Addr × Obj) → Prop) {s₂ : Shared}
    (W : Walks prog w A I [I] [I] n P St) (hIo : ∀ i h, St i h → ∃ o, h.get? I = some o) (hSt : ∀ i h h' o, St i h → h.get? I = some o → h'.get? I = some o → St i h') (hst : St 0 s₂.heap) (hkind : scope.kind = .function) (hx : scope.names.lookup x = some .local) (F : Fr h₀ L s₂.heap m) (N : News h₀ L s₂.heap news) (hI₀ : h₀.get? I = none) (off : ∀ p ∈ news, p.1 ≠ I) (hIL : L ≠ I) (hsz : n ≤ sizeLine)
    (hJs : ∀ i ys nw, J i ys nw → ys.length ≤ i) (j0 : J 0 [] news) (hs : ∃ g tk, s₂ = { s with heap := g, toks := tk })
    (item : ∀ i v ys nw I oI C D oC m' h tk (E' : Value → Shared → Prop), i < n → P i v → J i ys nw → NsObj oC m' → m' x = some v → Fr h₀ L h m → News h₀ L h ((I, oI) :: (C, oC) :: (D, lst ys) :: nw) → Off3 I C D nw → I ≠ C ∧ I ≠ D ∧ C ≠ D →
        wpAny (model prog w) A (testsOf ifs (compEnvC scope cl C env)) (fun ok s₃ => if ok = true then wpAny (model prog w) A (eval elt (compEnvC scope cl C env)) (CEl h₀ L m { s with heap := h, toks := tk } I oI C D ys (fun ys' _ nw' => J (i + 1) ys' nw')) E' s₃
          else CEnd h₀ L m { s with heap := h, toks := tk } I oI C D (fun ys' _ nw' => J (i + 1) ys' nw') s₃) E' { s with heap := h, toks := tk })
    (fin : ∀ ys nw, J n ys nw → Fin s₂ ys nw) :
    CGo prog w A h₀ L m env elt [⟨.Name x px, iter, ifs, 0⟩] scope pos cl Fin (.ref I) s₂ := by
  have hIlt : I < s₂.heap.objs.size := by obtain ⟨o, e⟩ := hIo _ _ hst; exact Heap.lt_size e
  obtain ⟨g, tkg, rfl⟩ := hs
  refine ⟨_, _, _, _, _, news, rfl, W, hst, (fun b hb => by rw [List.mem_singleton.mp hb]; exact hIlt), F, N, hI₀, off, ?_⟩
  intro C D h₁ tk₁ m' B hst₁ hf
  refine cloop (tt_one _ _ _ _ _ _ _ _ _) W (fun i ys _ nw => J i ys nw) hIo (fun hm => hf _ hm rfl) (fun i h h' o ys m' nw st e1 e2 _ _ _ => hSt i h h' o st e1 e2) hst₁ B.F B.ns B.N B.off j0 hIL B.CL B.CI B.DI B.CD hI₀ B.C0 ?_ ?_
  · intro i v ys m' oC oI nw h tk E' hi hv j hoC F' N' off st
    refine wpAny_pure ?_
    refine name_turn hkind hx F' hoC N' off B.CI B.CD fun h' tk' oC' F₂ hoC' N₂ => ?_
    refine wpAny_mono (item i v ys nw I oI C D oC' _ h' tk' E' hi hv j hoC' (by simp) F₂ N₂ off ⟨B.CI, B.DI, B.CD⟩) (fun ok s₃ z => ?_) fun _ _ e => e
    cases ok with
    | false => exact z
    | true => exact emit_append B.DI B.CD (Nat.le_trans (hJs _ _ _ j) (Nat.le_trans (Nat.le_of_lt hi) hsz)) z
  · intro h tk m' ys nw F' hn N' off j
    exact ⟨h, tk, m', ys, nw, rfl, F', hn, N', off, fin ys nw j⟩
theorem cgo_range {elt iter : Expr} {x : Str} {px : Pos} {ifs : List Expr} {pos : Pos} {Fin : Shared → List Value → List (Addr × Obj) → Prop} {r : Addr} {b : Int} {t u v : Tok} {n : Nat} {news : List (Addr × Obj)} (J : Nat → List Value → List (Addr × Obj) → Prop)
    (hh : A.handled = none) (hr : IsRange s.heap r 0 b 1 t u v) (hsm : Builtin.Range.small 0 b 1 = true) (hn : Builtin.Range.rangeSize 0 b 1 = ((n : Nat) : Int)) (hkind : scope.kind = .function) (hx : scope.names.lookup x = some .local) (F : Fr h₀ L s.heap m) (N : News h₀ L s.heap news) (hsz : n ≤ sizeLine)
    (hJs : ∀ i ys nw, J i ys nw → ys.length ≤ i) (j0 : J 0 [] news)
    (item : ∀ i t ys nw I oI C D oC m' h tk (E' : Value → Shared → Prop), i < n → J i ys nw → NsObj oC m' → m' x = some (.int (i : Int) t) → Fr h₀ L h m → News h₀ L h ((I, oI) :: (C, oC) :: (D, lst ys) :: nw) → Off3 I C D nw → I ≠ C ∧ I ≠ D ∧ C ≠ D →
        wpAny (model prog w) A (testsOf ifs (compEnvC scope cl C env)) (fun ok s₃ => if ok = true then wpAny (model prog w) A (eval elt (compEnvC scope cl C env)) (CEl h₀ L m { s with heap := h, toks := tk } I oI C D ys (fun ys' _ nw' => J (i + 1) ys' nw')) E' s₃
          else CEnd h₀ L m { s with heap := h, toks := tk } I oI C D (fun ys' _ nw' => J (i + 1) ys' nw') s₃) E' { s with heap := h, toks := tk })
    (fin : ∀ g ys nw, J n ys nw → Fin { s with heap := g } ys nw) :
    wpAny (model prog w) A (pyIter (.ref r)) (fun it s₂ => CGo prog w A h₀ L m env elt [⟨.Name x px, iter, ifs, 0⟩] scope pos cl Fin it s₂) E s := by
  refine wpAny_pyIter_range hr hsm ?_
  refine cgo_names J (range_walks hh 0 n) (fun i h st => ⟨_, st⟩) (fun i h h' o st e1 e2 => ?_) (by show IsRangeIter _ _ _ _ _; rw [hn]; simpa using Heap.get?_push_size _ rfl) hkind hx (F.keeps fun _ _ e => Heap.get?_push_of_some _ e) (N.grown fun _ _ e => Heap.get?_push_of_some _ e) (next_is_new F) (fun p hp => Nat.ne_of_lt (Heap.lt_size (N p hp).1)) (Nat.ne_of_lt F.ns.lt) hsz hJs j0 ⟨_, _, rfl⟩ ?_ (fun ys nw j => fin _ ys nw j)
  · have st' : h.get? _ = some _ := st
    rw [e1] at st'
    exact e2.trans st'
  · intro i v ys nw I oI C D oC m' h tk E' hi hv j hoC hm F' N' off ne
    obtain ⟨t, rfl⟩ := hv
    rw [Int.zero_add] at hm
    exact item i t ys nw I oI C D oC m' h tk E' hi j hoC hm F' N' off ne
theorem cgo_signs {elt iter : Expr} {x : Str} {px : Pos} {ifs : List Expr} {pos : Pos} {Fin : Shared → List Value → List (Addr × Obj) → Prop} {xt : Str} {tx : Tok} {news : List (Addr × Obj)} (J : Nat → List Value → List (Addr × Obj) → Prop)
    (hh : A.handled = none) (hkind : scope.kind = .function) (hx : scope.names.lookup x = some .local) (F : Fr h₀ L s.heap m) (N : News h₀ L s.heap news) (hsz : xt.cps.size ≤ sizeLine)
    (hJs : ∀ i ys nw, J i ys nw → ys.length ≤ i) (j0 : J 0 [] news)
    (item : ∀ i c t ys nw I oI C D oC m' h tk (E' : Value → Shared → Prop), xt.cps[i]? = some c → J i ys nw → NsObj oC m' → m' x = some (.str ⟨#[c]⟩ t) → Fr h₀ L h m → News h₀ L h ((I, oI) :: (C, oC) :: (D, lst ys) :: nw) → Off3 I C D nw → I ≠ C ∧ I ≠ D ∧ C ≠ D →
        wpAny (model prog w) A (testsOf ifs (compEnvC scope cl C env)) (fun ok s₃ => if ok = true then wpAny (model prog w) A (eval elt (compEnvC scope cl C env)) (CEl h₀ L m { s with heap := h, toks := tk } I oI C D ys (fun ys' _ nw' => J (i + 1) ys' nw')) E' s₃
          else CEnd h₀ L m { s with heap := h, toks := tk } I oI C D (fun ys' _ nw' => J (i + 1) ys' nw') s₃) E' { s with heap := h, toks := tk })
    (fin : ∀ g ys nw, J xt.cps.size ys nw → Fin { s with heap := g } ys nw) :
    wpAny (model prog w) A (pyIter (.str xt tx)) (fun it s₂ => CGo prog w A h₀ L m env elt [⟨.Name x px, iter, ifs, 0⟩] scope pos cl Fin it s₂) E s := by
  have key : ∀ (o : Obj) (ty : String), Walks prog w A s.heap.objs.size [s.heap.objs.size] [s.heap.objs.size] xt.cps.size (SignAt xt) (fun i h => h.IsStrIter s.heap.objs.size ty xt tx i) → (s.heap.push o).IsStrIter s.heap.objs.size ty xt tx 0 →
      CGo prog w A h₀ L m env elt [⟨.Name x px, iter, ifs, 0⟩] scope pos cl Fin (.ref s.heap.objs.size) { s with heap := s.heap.push o } := by
    intro o ty W hst
    refine cgo_names J W (fun i h st => by obtain ⟨o, e, _⟩ := st; exact ⟨o, e⟩) (fun i h h' o st e1 e2 => ?_) hst hkind hx (F.keeps fun _ _ e => Heap.get?_push_of_some _ e) (N.grown fun _ _ e => Heap.get?_push_of_some _ e) (next_is_new F) (fun p hp => Nat.ne_of_lt (Heap.lt_size (N p hp).1)) (Nat.ne_of_lt F.ns.lt) hsz hJs j0 ⟨_, _, rfl⟩ ?_ (fun ys nw j => fin _ ys nw j)
    · obtain ⟨o', e, r⟩ := st
      rw [e1] at e
      cases e
      exact ⟨_, e2, r⟩
    · intro i v ys nw I oI C D oC m' h tk E' hi hv j hoC hm F' N' off ne
      obtain ⟨c, t, hc, rfl⟩ := hv
      exact item i c t ys nw I oI C D oC m' h tk E' hc j hoC hm F' N' off ne
  cases ha : xt.cps.all (· < 128)
  · exact wpAny_pyIter_wide ha (key _ _ (Walks.strWide hh _ xt tx) ⟨_, Heap.get?_push_size _ rfl, rfl, rfl⟩)
  · exact wpAny_pyIter_ascii ha (key _ _ (Walks.strAscii hh _ xt tx) ⟨_, Heap.get?_push_size _ rfl, rfl, rfl⟩)
end
end
section
open PySem PySem.W PySem.Calls PyProof.Rows LCg
section
variable {prog : Program} {w : World} {A : Around} {E : Value → Shared → Prop} {s : Shared} {h₀ : Heap} {L : Addr} {m : Str → Option Value} {env : Env} {scope : Scope} {cl : List (Str × Addr)}
noncomputable def InnerGo (prog : Program) (w : World) (A : Around) (h₀ : Heap) (L : Addr) (m : Str → Option Value) (e : Expr) (cenv : Env) (s₀ : Shared) (I : Addr) (oI : Obj) (C D : Addr) (J : List Value → List (Addr × Obj) → Prop) (it : Value) (s₂ : Shared) : Prop :=
  (∀ Q' : Value → Shared → Prop, ∀ E', Q' it s₂ → wpAny (model prog w) A (pyIter it) Q' E' s₂) ∧
  codeAny (model prog w) A (.compLoop e 1 it (.ref D) cenv) (fun r s' => match r with | .ok _ => CEnd h₀ L m s₀ I oI C D (fun ys' _ nw' => J ys' nw') s' | .error _ => False) s₂
theorem cgo_two {elt i0 i1 t1 : Expr} {f1 : List Expr} {x x₂ : Str} {px px₂ tp : Pos} {tk} {pos : Pos} {Fin : Shared → List Value → List (Addr × Obj) → Prop} {l : Addr} {its : Array Value} {news : List (Addr × Obj)} (J : Nat → List Value → List (Addr × Obj) → Prop)
    (hh : A.handled = none) (hkind : scope.kind = .function) (hx : scope.names.lookup x = some .local) (hx₂ : scope.names.lookup x₂ = some .local) (hne : x ≠ x₂) (F : Fr h₀ L s.heap m) (N : News h₀ L s.heap news)
    (hJs : ∀ i ys nw, J i ys nw → SrcAt h₀ l its nw) (j0 : J 0 [] news) (hs : ∀ env x, foldedSetIterable i1 env x = pure x)
    (item : ∀ i v ys nw, its[i]? = some v → J i ys nw → ∃ t ot v₁ v₂ k, v = .ref t ∧ ((t, ot) ∈ nw ∨ h₀.get? t = some ot) ∧ ot.cls = .type "tuple" ∧ ot.data = .seq #[v₁, v₂] k ∧
      ∀ I oI C D oC m' h tk' (E' : Value → Shared → Prop), NsObj oC m' → m' x = some v₁ → m' x₂ = some v₂ → Fr h₀ L h m → News h₀ L h ((I, oI) :: (C, oC) :: (D, lst ys) :: nw) → Off3 I C D nw → I ≠ C ∧ I ≠ D ∧ C ≠ D →
        wpAny (model prog w) A (eval i1 (compEnvC scope cl C env)) (fun xv s₁ => wpAny (model prog w) A (pyIter xv) (InnerGo prog w A h₀ L m (twoOf elt (.Tuple [.Name x px, .Name x₂ px₂] tk tp) i0 [] t1 i1 f1 scope pos) (compEnvC scope cl C env) { s with heap := h, toks := tk' } I oI C D (J (i + 1))) E' s₁) E' { s with heap := h, toks := tk' })
    (fin : ∀ g ys nw, J its.size ys nw → Fin { s with heap := g } ys nw) :
    wpAny (model prog w) A (pyIter (.ref l)) (fun it s₂ => CGo prog w A h₀ L m env elt [⟨.Tuple [.Name x px, .Name x₂ px₂] tk tp, i0, [], 0⟩, ⟨t1, i1, f1, 0⟩] scope pos cl Fin it s₂) E s := by
  have hl := (hJs _ _ _ j0).list F.keep N
  have hlt : l < s.heap.objs.size := by obtain ⟨_, e, _⟩ := hl; exact Heap.lt_size e
  refine wpAny_pyIter_list hl ?_
  have up : ∀ b o, s.heap.get? b = some o → (s.heap.push { cls := .type "list_iterator", data := .fields #[.ref l, .int 0 0] }).get? b = some o := fun b o e => Heap.get?_push_of_some _ e
  have W := Walks.list (prog := prog) (w := w) hh s.heap.objs.size l (Nat.ne_of_lt hlt) its
  refine ⟨_, _, _, _, _, news, rfl, W, ⟨⟨_, Heap.get?_push_size _ rfl, rfl, rfl⟩, hl.push _⟩, ?_, F.keeps up, N.grown up, next_is_new F, (fun p hp => Nat.ne_of_lt (Heap.lt_size (N p hp).1)), ?_⟩
  · intro b hb
    show b < (s.heap.push _).objs.size
    rw [Heap.size_push]
    rcases List.mem_cons.mp hb with rfl | hb
    · exact Nat.lt_succ_self _
    · rw [List.mem_singleton.mp hb]; exact Nat.lt_succ_of_lt hlt
  · intro C D h₁ tk₁ m' B hst hf
    refine cloop (tt_two0 _ _ _ _ _ _ _ _ _ _ _ _) W (fun i ys _ nw => J i ys nw) (fun i h st => by obtain ⟨o, e, _⟩ := st.1; exact ⟨o, e⟩) (fun hm => hf _ hm rfl) ?_ hst B.F B.ns B.N B.off j0 (Nat.ne_of_lt F.ns.lt) B.CL B.CI B.DI B.CD (next_is_new F) B.C0 ?_ ?_
    · intro i h h' o ys m' nw st e1 e2 k N' j
      exact list_st i h h' o nw st e1 e2 k N' (hJs _ _ _ j)
    · intro i v ys m' oC oI nw h tk2 E' hi hv j hoC F' N' off st
      obtain ⟨t, ot, v₁, v₂, k, rfl, hm, hc, hd, go⟩ := item i v ys nw hv j
      have hot : h.get? t = some ot := hm.elim (fun hm => (N' _ (.tail _ (.tail _ (.tail _ hm)))).1) fun e => F'.keep _ _ e
      refine pair_turn hh hkind hx hx₂ st.1 ⟨ot, hot, hc, k, hd⟩ F' hoC N' off B.CI B.CD fun h' tk' oC' F₂ hoC' N₂ => ?_
      refine wpAny_tests_nil ?_
      simp only [if_true]
      refine emit_inner (wpAny_mono (go _ oI C D oC' _ h' tk' E' hoC' (by simp [hne]) (by simp) F₂ N₂ off ⟨B.CI, B.DI, B.CD⟩) (fun xv s₁ z => wpAny_mono z (fun it s₃ z => ?_) fun _ _ e => e) fun _ _ e => e) (hs _)
      exact z
    · intro h tk m' ys nw F' hn N' off j
      exact ⟨h, tk, m', ys, nw, rfl, F', hn, N', off, fin _ ys nw j⟩
theorem inner_names {elt t0 i0 i1 : Expr} {f0 f1 : List Expr} {x x₂ z : Str} {pz : Pos} {pos : Pos} {s₀ s₂ : Shared} {I C D I2 : Addr} {oI oC : Obj} {fp : List Addr} {n : Nat} {P : Nat → Value → Prop} {St : Nat → Heap → Prop} {m' : Str → Option Value} {v₁ v₂ : Value} {ys : List Value} {nw : List (Addr × Obj)} {Jend : List Value → List (Addr × Obj) → Prop} (J : Nat → List Value → List (Addr × Obj) → Prop)
    (hkind : scope.kind = .function) (hz : scope.names.lookup z = some .local) (hzx : x ≠ z) (hzx₂ : x₂ ≠ z) (W : Walks prog w A I2 fp [I2] n P St) (hIo : ∀ i h, St i h → ∃ o, h.get? I2 = some o) (hCf : C ∉ fp)
    (hSt : ∀ i h h' o ys nw, St i h → h.get? I2 = some o → h'.get? I2 = some o → (∀ b o, h₀.get? b = some o → h'.get? b = some o) → News h₀ L h' nw → J i ys nw → St i h')
    (hst : St 0 s₂.heap) (hs : ∃ g tk, s₂ = { s₀ with heap := g, toks := tk }) (F : Fr h₀ L s₂.heap m) (hoC : NsObj oC m') (h1 : m' x = some v₁) (h2 : m' x₂ = some v₂) (N : News h₀ L s₂.heap ((I, oI) :: (C, oC) :: (D, lst ys) :: nw)) (off : Off3 I C D nw) (off2 : ∀ p ∈ (I, oI) :: (C, oC) :: (D, lst ys) :: nw, p.1 ≠ I2) (ne : I ≠ C ∧ I ≠ D ∧ C ≠ D) (hI2 : h₀.get? I2 = none) (hIL : L ≠ I2)
    (hJl : ∀ i ys nw, J i ys nw → ys.length ≤ sizeLine) (j0 : J 0 ys nw)
    (item : ∀ i v ys nw oC m' oI2 h tk (E' : Value → Shared → Prop), i < n → P i v → J i ys nw → NsObj oC m' → m' z = some v → m' x = some v₁ → m' x₂ = some v₂ → Fr h₀ L h m → News h₀ L h ((I2, oI2) :: (C, oC) :: (D, lst ys) :: (I, oI) :: nw) → Off3 I2 C D ((I, oI) :: nw) → Off3 I C D nw → I2 ≠ C ∧ I2 ≠ D ∧ C ≠ D →
      wpAny (model prog w) A (testsOf f1 (compEnvC scope cl C env)) (fun ok s₃ => if ok = true then wpAny (model prog w) A (eval elt (compEnvC scope cl C env)) (CEl h₀ L m { s₀ with heap := h, toks := tk } I2 oI2 C D ys (fun ys' m3 nw' => m3 x = some v₁ ∧ m3 x₂ = some v₂ ∧ ∃ nw'', nw' = (I, oI) :: nw'' ∧ Off3 I C D nw'' ∧ J (i + 1) ys' nw'')) E' s₃
        else CEnd h₀ L m { s₀ with heap := h, toks := tk } I2 oI2 C D (fun ys' m3 nw' => m3 x = some v₁ ∧ m3 x₂ = some v₂ ∧ ∃ nw'', nw' = (I, oI) :: nw'' ∧ Off3 I C D nw'' ∧ J (i + 1) ys' nw'') s₃) E' { s₀ with heap := h, toks := tk })
    (done : ∀ ys nw, J n ys nw → Jend ys nw) :
    InnerGo prog w A h₀ L m (twoOf elt t0 i0 f0 (.Name z pz) i1 f1 scope pos) (compEnvC scope cl C env) s₀ I oI C D Jend (.ref I2) s₂ := by
  obtain ⟨g, tk, rfl⟩ := hs
  refine ⟨fun Q' E' q => W.self 0 _ _ _ hst q, ?_⟩
  have hC := N _ (.tail _ (.head _))
  have nI2C : I2 ≠ C := Ne.symm (off2 _ (.tail _ (.head _)))
  have nI2D : I2 ≠ D := Ne.symm (off2 _ (.tail _ (.tail _ (.head _))))
  have off0 : Off3 I2 C D ((I, oI) :: nw) := ⟨⟨off2 _ (.head _), ne.1, ne.2.1⟩, Off3.of fun p hp => ⟨off2 p (.tail _ (.tail _ (.tail _ hp))), (off.mem p hp).2⟩⟩
  have N0 : News h₀ L g ((D, lst ys) :: (I, oI) :: nw) := fun p hp => by
    rcases List.mem_cons.mp hp with rfl | hp
    · exact N _ (.tail _ (.tail _ (.head _)))
    rcases List.mem_cons.mp hp with rfl | hp
    · exact N _ (.head _)
    · exact N _ (.tail _ (.tail _ (.tail _ hp)))
  refine cloop (s := ⟨g, s₀.gens, s₀.drawn, tk, s₀.os⟩) (m₀ := m') (tt_two1 _ _ _ _ _ _ _ _ _ _ _ _) W (fun i ys m3 nw' => m3 x = some v₁ ∧ m3 x₂ = some v₂ ∧ ∃ nw'', nw' = (I, oI) :: nw'' ∧ Off3 I C D nw'' ∧ J i ys nw'') hIo hCf ?_ hst F (hoC.ns hC.1) N0 off0 ⟨h1, h2, nw, rfl, off, j0⟩ hIL hC.2.1 nI2C nI2D ne.2.2 hI2 hC.2.2 ?_ ?_
  · rintro i h h' o ys m3 nw' st e1 e2 k N' ⟨_, _, nw'', rfl, _, j⟩
    exact hSt i h h' o ys nw'' st e1 e2 k (fun p hp => N' p (.tail _ hp)) j
  · rintro i v ys m3 oC' oI2 nw' h tk' E' hi hv ⟨q1, q2, nw'', rfl, off', j⟩ hoC' F' N' offI st
    refine wpAny_pure ?_
    refine name_turn hkind hz F' hoC' N' offI nI2C ne.2.2 fun h' tk2 oC2 F₂ hoC2 N₂ => ?_
    refine wpAny_mono (item i v ys nw'' oC2 _ oI2 h' tk2 E' hi hv j hoC2 (by simp) (by rw [if_neg hzx]; exact q1) (by rw [if_neg hzx₂]; exact q2) F₂ N₂ offI off' ⟨nI2C, nI2D, ne.2.2⟩) (fun ok s₃ zz => ?_) fun _ _ e => e
    cases ok with
    | false => exact zz
    | true => exact emit_append nI2D ne.2.2 (hJl _ _ _ j) zz
  · rintro h tk' m3 ys nw' F' hn N' offI ⟨q1, q2, nw'', rfl, off', j⟩
    obtain ⟨oC', heC, hoC'⟩ := ns_obj hn
    refine ⟨h, tk', oC', m3, ys, nw'', rfl, F', hoC', fun p hp => ?_, off', done ys nw'' j⟩
    rcases List.mem_cons.mp hp with rfl | hp
    · exact N' _ (.tail _ (.head _))
    rcases List.mem_cons.mp hp with rfl | hp
    · exact ⟨heC, hC.2⟩
    rcases List.mem_cons.mp hp with rfl | hp
    · exact N' _ (.head _)
    · exact N' _ (.tail _ (.tail _ hp))
end
section
variable {prog : Program} {w : World} {A : Around} {E : Value → Shared → Prop} {s : Shared} {h₀ : Heap} {L : Addr} {m : Str → Option Value} {env : Env} {scope : Scope} {cl : List (Str × Addr)}
theorem inner_range {elt t0 i0 i1 : Expr} {f0 f1 : List Expr} {x x₂ z : Str} {pz : Pos} {pos : Pos} {s₀ : Shared} {I C D r : Addr} {oI oC : Obj} {b : Int} {t u v : Tok} {n : Nat} {m' : Str → Option Value} {v₁ v₂ : Value} {ys : List Value} {nw : List (Addr × Obj)} {Jend : List Value → List (Addr × Obj) → Prop} (J : Nat → List Value → List (Addr × Obj) → Prop)
    (hh : A.handled = none) (hr : IsRange s.heap r 0 b 1 t u v) (hsm : Builtin.Range.small 0 b 1 = true) (hn : Builtin.Range.rangeSize 0 b 1 = ((n : Nat) : Int)) (hkind : scope.kind = .function) (hz : scope.names.lookup z = some .local) (hzx : x ≠ z) (hzx₂ : x₂ ≠ z)
    (hs : ∃ g tk, s = { s₀ with heap := g, toks := tk }) (F : Fr h₀ L s.heap m) (hoC : NsObj oC m') (h1 : m' x = some v₁) (h2 : m' x₂ = some v₂) (N : News h₀ L s.heap ((I, oI) :: (C, oC) :: (D, lst ys) :: nw)) (off : Off3 I C D nw) (ne : I ≠ C ∧ I ≠ D ∧ C ≠ D)
    (hJl : ∀ i ys nw, J i ys nw → ys.length ≤ sizeLine) (j0 : J 0 ys nw)
    (item : ∀ i t ys nw oC m' I2 oI2 h tk (E' : Value → Shared → Prop), i < n → J i ys nw → NsObj oC m' → m' z = some (.int ((i : Nat) : Int) t) → m' x = some v₁ → m' x₂ = some v₂ → Fr h₀ L h m → News h₀ L h ((I2, oI2) :: (C, oC) :: (D, lst ys) :: (I, oI) :: nw) → Off3 I2 C D ((I, oI) :: nw) → Off3 I C D nw → I2 ≠ C ∧ I2 ≠ D ∧ C ≠ D →
      wpAny (model prog w) A (testsOf f1 (compEnvC scope cl C env)) (fun ok s₃ => if ok = true then wpAny (model prog w) A (eval elt (compEnvC scope cl C env)) (CEl h₀ L m { s₀ with heap := h, toks := tk } I2 oI2 C D ys (fun ys' m3 nw' => m3 x = some v₁ ∧ m3 x₂ = some v₂ ∧ ∃ nw'', nw' = (I, oI) :: nw'' ∧ Off3 I C D nw'' ∧ J (i + 1) ys' nw'')) E' s₃
        else CEnd h₀ L m { s₀ with heap := h, toks := tk } I2 oI2 C D (fun ys' m3 nw' => m3 x = some v₁ ∧ m3 x₂ = some v₂ ∧ ∃ nw'', nw' = (I, oI) :: nw'' ∧ Off3 I C D nw'' ∧ J (i + 1) ys' nw'') s₃) E' { s₀ with heap := h, toks := tk })
    (done : ∀ ys nw, J n ys nw → Jend ys nw) :
    wpAny (model prog w) A (pyIter (.ref r)) (InnerGo prog w A h₀ L m (twoOf elt t0 i0 f0 (.Name z pz) i1 f1 scope pos) (compEnvC scope cl C env) s₀ I oI C D Jend) E s := by
  obtain ⟨g, tk, rfl⟩ := hs
  refine wpAny_pyIter_range hr hsm ?_
  refine inner_names J hkind hz hzx hzx₂ (range_walks hh 0 n) (fun i h st => ⟨_, st⟩) (fun hm => absurd (Heap.lt_size (N _ (.tail _ (.head _))).1) (by rw [List.mem_singleton.mp hm]; exact Nat.lt_irrefl _)) (fun i h h' o ys nw st e1 e2 _ _ _ => ?_) (by show IsRangeIter _ _ _ _ _; rw [hn]; simpa using Heap.get?_push_size _ rfl) ⟨_, _, rfl⟩ (F.keeps fun _ _ e => Heap.get?_push_of_some _ e) hoC h1 h2 (N.grown fun _ _ e => Heap.get?_push_of_some _ e) off (fun q hq => Nat.ne_of_lt (Heap.lt_size (N q hq).1)) ne (next_is_new F) (Nat.ne_of_lt F.ns.lt) hJl j0 ?_ done
  · have st' : h.get? _ = some _ := st
    rw [e1] at st'
    exact e2.trans st'
  · intro i v ys nw oC m' oI2 h tk E' hi hv j hoC hm q1 q2 F' N' o1 o2 ne'
    obtain ⟨t, rfl⟩ := hv
    rw [Int.zero_add] at hm
    exact item i t ys nw oC m' _ oI2 h tk E' hi j hoC hm q1 q2 F' N' o1 o2 ne'
theorem inner_list {elt t0 i0 i1 : Expr} {f0 f1 : List Expr} {x x₂ z : Str} {pz : Pos} {pos : Pos} {s₀ : Shared} {I C D l : Addr} {oI oC : Obj} {its : Array Value} {m' : Str → Option Value} {v₁ v₂ : Value} {ys : List Value} {nw : List (Addr × Obj)} {Jend : List Value → List (Addr × Obj) → Prop} (J : Nat → List Value → List (Addr × Obj) → Prop)
    (hh : A.handled = none) (hkind : scope.kind = .function) (hz : scope.names.lookup z = some .local) (hzx : x ≠ z) (hzx₂ : x₂ ≠ z)
    (hs : ∃ g tk, s = { s₀ with heap := g, toks := tk }) (F : Fr h₀ L s.heap m) (hoC : NsObj oC m') (h1 : m' x = some v₁) (h2 : m' x₂ = some v₂) (N : News h₀ L s.heap ((I, oI) :: (C, oC) :: (D, lst ys) :: nw)) (off : Off3 I C D nw) (ne : I ≠ C ∧ I ≠ D ∧ C ≠ D)
    (hJl : ∀ i ys nw, J i ys nw → ys.length ≤ sizeLine ∧ SrcAt h₀ l its nw) (hlC : l ≠ C) (j0 : J 0 ys nw)
    (item : ∀ i v ys nw oC m' I2 oI2 h tk (E' : Value → Shared → Prop), its[i]? = some v → J i ys nw → NsObj oC m' → m' z = some v → m' x = some v₁ → m' x₂ = some v₂ → Fr h₀ L h m → News h₀ L h ((I2, oI2) :: (C, oC) :: (D, lst ys) :: (I, oI) :: nw) → Off3 I2 C D ((I, oI) :: nw) → Off3 I C D nw → I2 ≠ C ∧ I2 ≠ D ∧ C ≠ D →
      wpAny (model prog w) A (testsOf f1 (compEnvC scope cl C env)) (fun ok s₃ => if ok = true then wpAny (model prog w) A (eval elt (compEnvC scope cl C env)) (CEl h₀ L m { s₀ with heap := h, toks := tk } I2 oI2 C D ys (fun ys' m3 nw' => m3 x = some v₁ ∧ m3 x₂ = some v₂ ∧ ∃ nw'', nw' = (I, oI) :: nw'' ∧ Off3 I C D nw'' ∧ J (i + 1) ys' nw'')) E' s₃
        else CEnd h₀ L m { s₀ with heap := h, toks := tk } I2 oI2 C D (fun ys' m3 nw' => m3 x = some v₁ ∧ m3 x₂ = some v₂ ∧ ∃ nw'', nw' = (I, oI) :: nw'' ∧ Off3 I C D nw'' ∧ J (i + 1) ys' nw'') s₃) E' { s₀ with heap := h, toks := tk })
    (done : ∀ ys nw, J its.size ys nw → Jend ys nw) :
    wpAny (model prog w) A (pyIter (.ref l)) (InnerGo prog w A h₀ L m (twoOf elt t0 i0 f0 (.Name z pz) i1 f1 scope pos) (compEnvC scope cl C env) s₀ I oI C D Jend) E s := by
  obtain ⟨g, tk, rfl⟩ := hs
  have N' : News h₀ L g nw := fun p hp => N p (.tail _ (.tail _ (.tail _ hp)))
  have hl := (hJl _ _ _ j0).2.list F.keep N'
  have hlt : l < g.objs.size := by obtain ⟨_, e, _⟩ := hl; exact Heap.lt_size e
  refine wpAny_pyIter_list hl ?_
  refine inner_names J hkind hz hzx hzx₂ (Walks.list hh g.objs.size l (Nat.ne_of_lt hlt) its) (fun i h st => by obtain ⟨o, e, _⟩ := st.1; exact ⟨o, e⟩) (fun hm => ?_) (fun i h h' o ys nw st e1 e2 k N'' j => list_st i h h' o nw st e1 e2 k N'' (hJl _ _ _ j).2) ⟨⟨_, Heap.get?_push_size _ rfl, rfl, rfl⟩, hl.push _⟩ ⟨_, _, rfl⟩ (F.keeps fun _ _ e => Heap.get?_push_of_some _ e) hoC h1 h2 (N.grown fun _ _ e => Heap.get?_push_of_some _ e) off (fun q hq => Nat.ne_of_lt (Heap.lt_size (N q hq).1)) ne (next_is_new F) (Nat.ne_of_lt F.ns.lt) (fun i ys nw j => (hJl _ _ _ j).1) j0 ?_ done
  · rcases List.mem_cons.mp hm with e | hm
    · exact absurd (Heap.lt_size (N _ (.tail _ (.head _))).1) (by rw [e]; exact Nat.lt_irrefl _)
    · exact hlC (List.mem_singleton.mp hm).symm
  · intro i v ys nw oC m' oI2 h tk E' hi hv j hoC hm q1 q2 F' N' o1 o2 ne'
    exact item i v ys nw oC m' _ oI2 h tk E' hv j hoC hm q1 q2 F' N' o1 o2 ne'
end
section
variable {M : Model} {A : Around} {E : Value → Shared → Prop} {s : Shared} {K : Frag} {h₀ : Heap} {L C : Addr} {m mg mb : Str → Option Value} {scope : Scope} {cl : List (Str × Addr)} {env : Env} {p : Program} {loose : List Str} {x : Str} {pos : Pos} {v : Value} {Q : Value → Shared → Prop}
theorem blk_global (F : Fr h₀ L s.heap m) (X : K.In h₀) (T : TopRead p loose mg mb h₀) (e : nsIn K mainGlobals x = some (some v)) (h : Q v s) (hg : env.globals = mainGlobals)
    (hk : (compEnvC scope cl C env).scope.kind = .function) (hx : (compEnvC scope cl C env).kindOf x = some .globalImplicit) (hd : (x == ("__debug__" : Str)) = false) :
    wpAny M A (eval (.Name x pos) (compEnvC scope cl C env)) Q E s :=
  Name_function_global hk hx (loadGlobal_global (env := compEnvC scope cl C env) (show s.heap.Ns env.globals mg from hg ▸ T.g.keeps F.keep) (mg_of X T.g e) h) hd
theorem blk_built (F : Fr h₀ L s.heap m) (X : K.In h₀) (T : TopRead p loose mg mb h₀) (e : nsIn K mainGlobals x = some none) (hv : bootBuiltins x = some v) (hn : x ≠ "__name__") (h : Q v s) (hg : env.globals = mainGlobals) (hb : env.builtins = builtinsNs)
    (hk : (compEnvC scope cl C env).scope.kind = .function) (hx : (compEnvC scope cl C env).kindOf x = some .globalImplicit) (hd : (x == ("__debug__" : Str)) = false) :
    wpAny M A (eval (.Name x pos) (compEnvC scope cl C env)) Q E s :=
  Name_function_global hk hx (loadGlobal_builtin (env := compEnvC scope cl C env) (show s.heap.Ns env.globals mg from hg ▸ T.g.keeps F.keep) (mg_none_of X T.g e) (show s.heap.Ns env.builtins mb from hb ▸ T.b.keeps F.keep) ((T.builtins x hn).trans hv) h) hd
end
end
section
open PySem PySem.W PySem.Calls PyProof.Rows LCg
section
variable {w : World} {A : Around} {E : Value → Shared → Prop} {s : Shared} {h₀ : Heap} {L : Addr} {m : Str → Option Value} {news : List (Addr × Obj)}
theorem item_sym {l : Addr} {its : List Value} {n : Nat} {k : Int} {u : Tok} {value slice : Expr} {Q : Value → Shared → Prop} (N : News h₀ L s.heap news) (hm : (l, listOf its.toArray n) ∈ news) (h0 : 0 ≤ k) (h1 : k < its.length) (h63 : its.length < 2 ^ 62) (h : Q (its.getD k.toNat .none) s)
    (hs : subscripted slice false (.ref l) (.int k u) = operate [.ref l, .int k u] (getItem (.ref l) (.int k u)) := by with_unfolding_all rfl) :
    wpAny (model PR w) A (subscriptTail value slice (.ref l) (.int k u)) Q E s := by
  have I : s.heap.IsList l its.toArray := ⟨_, N.get hm, rfl, _, rfl⟩
  have hlt : k.toNat < its.length := by (first | lia | omega)
  refine subscriptTail_builtinR (x := its.getD k.toNat .none) (T := "list") I.typeIs PySem.F.slot_list_getitem.lookup (wpAny_getItem_list (x := its.getD k.toNat .none) I h0 (by (first | lia | omega)) ?_ ⟨rfl, h⟩) hs
  rw [List.getElem?_toArray, List.getElem?_eq_getElem hlt, List.getD_eq_getElem?_getD, List.getElem?_eq_getElem hlt]
  rfl
theorem item_nat {l : Addr} {its : List Value} {n j : Nat} {k : Int} {u : Tok} {value slice : Expr} {Q : Value → Shared → Prop} (N : News h₀ L s.heap news) (hm : (l, listOf its.toArray n) ∈ news) (hk : k = (j : Int)) (h1 : j < its.length) (h63 : its.length < 2 ^ 62) (h : Q (its.getD j .none) s)
    (hs : subscripted slice false (.ref l) (.int k u) = operate [.ref l, .int k u] (getItem (.ref l) (.int k u)) := by with_unfolding_all rfl) :
    wpAny (model PR w) A (subscriptTail value slice (.ref l) (.int k u)) Q E s := by
  subst hk
  exact item_sym N hm (Int.natCast_nonneg _) (by (first | lia | omega)) h63 h hs
end
theorem fdivN (a b : Nat) : Int.fdiv (a : Int) (b : Int) = ((a / b : Nat) : Int) := by rw [Int.fdiv_eq_ediv_of_nonneg _ (Int.natCast_nonneg b)]; rfl
theorem fmodN (a b : Nat) : Int.fmod (a : Int) (b : Int) = ((a % b : Nat) : Int) := by rw [Int.fmod_eq_emod_of_nonneg _ (Int.natCast_nonneg b)]; rfl
theorem xm4 (n : Nat) : Int.fmod (n : Int) 4 = ((n % 4 : Nat) : Int) := fmodN n 4
theorem xd4 (n : Nat) : Int.fmod (Int.fdiv (n : Int) 4) 4 = ((n / 4 % 4 : Nat) : Int) := by rw [show Int.fdiv (n : Int) 4 = ((n / 4 : Nat) : Int) from fdivN n 4]; exact fmodN _ 4
theorem xd16 (n : Nat) : Int.fmod (Int.fdiv (n : Int) 16) 4 = ((n / 16 % 4 : Nat) : Int) := by rw [show Int.fdiv (n : Int) 16 = ((n / 16 : Nat) : Int) from fdivN n 16]; exact fmodN _ 4
theorem xd4096 (n : Nat) : Int.fmod (Int.fdiv (n : Int) 4096) 4 = ((n / 4096 % 4 : Nat) : Int) := by rw [show Int.fdiv (n : Int) 4096 = ((n / 4096 : Nat) : Int) from fdivN n 4096]; exact fmodN _ 4
end
section
open PySem PySem.W PySem.Calls PyProof.Rows LCg
noncomputable def letW (j : Nat) : Nat := [8203, 83, 383, 84].getD j 0
noncomputable def letF (j : Nat) : List Nat := [[], [115], [115], [116]].getD j []
noncomputable def drawnOf (x : Nat) : List Nat := [x % 4, x / 4 % 4, x / 16 % 4]
noncomputable def nameOf (x : Nat) : List Nat := ((drawnOf x).map letF).flatten
noncomputable def writtenOf (x : Nat) : List Nat := (drawnOf x).map letW
noncomputable def bitOf (x k : Nat) : Bool := (63 - x / 64 % 64) / 2 ^ k % 2 == 1
noncomputable def chosenOf (x i : Nat) : List Nat := (List.range i).filter (bitOf x)
noncomputable def sixAt (k : Nat) : Nat := six.getD k 0
noncomputable def allowedOf (x : Nat) : List Nat := (chosenOf x 6).map sixAt
noncomputable def blankOf (x : Nat) : List Nat := [[], [32], [9], [12288]].getD (x / 4096 % 4) []
noncomputable def rowOf (x : Nat) : List Nat := blankOf x ++ writtenOf x ++ blankOf x ++ [61] ++ blankOf x ++ allowedOf x ++ blankOf x
noncomputable abbrev tup2 (a b : Value) : Obj := { cls := .type "tuple", data := .seq #[a, b] }
theorem letter_led {N : List (Addr × Obj)} {a1 a2 a3 a4 : Addr} {j : Nat} {t1 t2 t3 t4 u1 u2 u3 u4 : Tok} (hj : j < 4)
    (m1 : (a1, tup2 (.str (Str.ofString "\u200b") t1) (.str (Str.ofString "") u1)) ∈ N) (m2 : (a2, tup2 (.str (Str.ofString "S") t2) (.str (Str.ofString "s") u2)) ∈ N)
    (m3 : (a3, tup2 (.str (Str.ofString "ſ") t3) (.str (Str.ofString "s") u3)) ∈ N) (m4 : (a4, tup2 (.str (Str.ofString "T") t4) (.str (Str.ofString "t") u4)) ∈ N) :
    ∃ p t t', [Value.ref a1, .ref a2, .ref a3, .ref a4].getD j .none = .ref p ∧ (p, tup2 (.str (ofL [letW j]) t) (.str (ofL (letF j)) t')) ∈ N := by
  have e1 : Str.ofString "\u200b" = ofL [letW 0] := by decide +kernel
  have e2 : Str.ofString "S" = ofL [letW 1] := by decide +kernel
  have e3 : Str.ofString "ſ" = ofL [letW 2] := by decide +kernel
  have e4 : Str.ofString "T" = ofL [letW 3] := by decide +kernel
  have f1 : Str.ofString "" = ofL (letF 0) := by decide +kernel
  have f2 : Str.ofString "s" = ofL (letF 1) := by decide +kernel
  have f4 : Str.ofString "t" = ofL (letF 3) := by decide +kernel
  have : j = 0 ∨ j = 1 ∨ j = 2 ∨ j = 3 := by (first | lia | omega)
  rcases this with rfl | rfl | rfl | rfl
  · exact ⟨a1, t1, u1, rfl, by rw [← e1, ← f1]; exact m1⟩
  · exact ⟨a2, t2, u2, rfl, by rw [← e2, ← f2]; exact m2⟩
  · exact ⟨a3, t3, u3, rfl, by rw [← e3, show letF 2 = letF 1 from rfl, ← f2]; exact m3⟩
  · exact ⟨a4, t4, u4, rfl, by rw [← e4, ← f4]; exact m4⟩
theorem sign_led {N : List (Addr × Obj)} {d1 d2 d3 d4 d5 d6 : Addr} {t1 t2 t3 t4 t5 t6 u1 u2 u3 u4 u5 u6 : Tok}
    (m1 : (d1, tup2 (.str (Str.ofString "s") t1) (.str (Str.ofString "s") u1)) ∈ N) (m2 : (d2, tup2 (.str (Str.ofString "ſ") t2) (.str (Str.ofString "s") u2)) ∈ N)
    (m3 : (d3, tup2 (.str (Str.ofString "t") t3) (.str (Str.ofString "t") u3)) ∈ N) (m4 : (d4, tup2 (.str (Str.ofString "ß") t4) (.str (Str.ofString "ss") u4)) ∈ N)
    (m5 : (d5, tup2 (.str (Str.ofString "ﬆ") t5) (.str (Str.ofString "st") u5)) ∈ N) (m6 : (d6, tup2 (.str (Str.ofString "\u200b") t6) (.str (Str.ofString "") u6)) ∈ N) :
    ∀ k, k < 6 → ∃ t t', ([d1, d2, d3, d4, d5, d6].getD k 0, tup2 (.str (ofL [sixAt k]) t) (.str (ofL (foldC (sixAt k))) t')) ∈ N := by
  intro k hk
  have : k = 0 ∨ k = 1 ∨ k = 2 ∨ k = 3 ∨ k = 4 ∨ k = 5 := by (first | lia | omega)
  rcases this with rfl | rfl | rfl | rfl | rfl | rfl
  · exact ⟨t1, u1, by rw [show ofL [sixAt 0] = Str.ofString "s" by decide +kernel, show ofL (foldC (sixAt 0)) = Str.ofString "s" by decide +kernel]; exact m1⟩
  · exact ⟨t2, u2, by rw [show ofL [sixAt 1] = Str.ofString "ſ" by decide +kernel, show ofL (foldC (sixAt 1)) = Str.ofString "s" by decide +kernel]; exact m2⟩
  · exact ⟨t3, u3, by rw [show ofL [sixAt 2] = Str.ofString "t" by decide +kernel, show ofL (foldC (sixAt 2)) = Str.ofString "t" by decide +kernel]; exact m3⟩
  · exact ⟨t4, u4, by rw [show ofL [sixAt 3] = Str.ofString "ß" by decide +kernel, show ofL (foldC (sixAt 3)) = Str.ofString "ss" by decide +kernel]; exact m4⟩
  · exact ⟨t5, u5, by rw [show ofL [sixAt 4] = Str.ofString "ﬆ" by decide +kernel, show ofL (foldC (sixAt 4)) = Str.ofString "st" by decide +kernel]; exact m5⟩
  · exact ⟨t6, u6, by rw [show ofL [sixAt 5] = Str.ofString "\u200b" by decide +kernel, show ofL (foldC (sixAt 5)) = Str.ofString "" by decide +kernel]; exact m6⟩
noncomputable abbrev rowLed (ld ls d1 d2 d3 d4 d5 d6 ll a1 a2 a3 a4 cS cX : Addr) (oS oX : Obj) (j1 j2 j3 : Nat) (t1 t2 t3 t4 u1 u2 u3 u4 s1 s2 s3 s4 s5 s6 v1 v2 v3 v4 v5 v6 : Tok) (nd ns nl : Nat) : List (Addr × Obj) :=
  [(ld, listOf #[[Value.ref a1, .ref a2, .ref a3, .ref a4].getD j1 .none, [Value.ref a1, .ref a2, .ref a3, .ref a4].getD j2 .none, [Value.ref a1, .ref a2, .ref a3, .ref a4].getD j3 .none] nd), (ls, listOf #[.ref d1, .ref d2, .ref d3, .ref d4, .ref d5, .ref d6] ns),
      (d6, tup2 (.str (Str.ofString "\u200b") s6) (.str (Str.ofString "") v6)), (d5, tup2 (.str (Str.ofString "ﬆ") s5) (.str (Str.ofString "st") v5)), (d4, tup2 (.str (Str.ofString "ß") s4) (.str (Str.ofString "ss") v4)), (d3, tup2 (.str (Str.ofString "t") s3) (.str (Str.ofString "t") v3)), (d2, tup2 (.str (Str.ofString "ſ") s2) (.str (Str.ofString "s") v2)), (d1, tup2 (.str (Str.ofString "s") s1) (.str (Str.ofString "s") v1)),
      (ll, listOf #[.ref a1, .ref a2, .ref a3, .ref a4] nl), (a4, tup2 (.str (Str.ofString "T") t4) (.str (Str.ofString "t") u4)), (a3, tup2 (.str (Str.ofString "ſ") t3) (.str (Str.ofString "s") u3)), (a2, tup2 (.str (Str.ofString "S") t2) (.str (Str.ofString "s") u2)), (a1, tup2 (.str (Str.ofString "\u200b") t1) (.str (Str.ofString "") u1)), (cS, oS), (cX, oX)]
theorem row_led {B h : Heap} {L ld ls d1 d2 d3 d4 d5 d6 ll a1 a2 a3 a4 cS cX : Addr} {oS oX : Obj} {j1 j2 j3 : Nat} {t1 t2 t3 t4 u1 u2 u3 u4 s1 s2 s3 s4 s5 s6 v1 v2 v3 v4 v5 v6 : Tok} {nd ns nl : Nat}
    (N : News B L h (rowLed ld ls d1 d2 d3 d4 d5 d6 ll a1 a2 a3 a4 cS cX oS oX j1 j2 j3 t1 t2 t3 t4 u1 u2 u3 u4 s1 s2 s3 s4 s5 s6 v1 v2 v3 v4 v5 v6 nd ns nl))
    (h1 : j1 < 4) (h2 : j2 < 4) (h3 : j3 < 4) :
    ∃ (p1 p2 p3 : Addr) (q1 q1' q2 q2' q3 q3' : Tok) (sg : List Addr) (tl : List (Addr × Obj)), sg.length = 6 ∧
      News B L h ((ld, listOf [Value.ref p1, .ref p2, .ref p3].toArray nd) :: (ls, listOf (sg.map Value.ref).toArray ns) :: (cS, oS) :: (cX, oX) :: tl) ∧
      (p1, tup2 (.str (ofL [letW j1]) q1) (.str (ofL (letF j1)) q1')) ∈ tl ∧ (p2, tup2 (.str (ofL [letW j2]) q2) (.str (ofL (letF j2)) q2')) ∈ tl ∧ (p3, tup2 (.str (ofL [letW j3]) q3) (.str (ofL (letF j3)) q3')) ∈ tl ∧
      ∀ k, k < 6 → ∃ t t', (sg.getD k 0, tup2 (.str (ofL [sixAt k]) t) (.str (ofL (foldC (sixAt k))) t')) ∈ tl := by
  have m1 : (a1, tup2 (.str (Str.ofString "\u200b") t1) (.str (Str.ofString "") u1)) ∈ (rowLed ld ls d1 d2 d3 d4 d5 d6 ll a1 a2 a3 a4 cS cX oS oX j1 j2 j3 t1 t2 t3 t4 u1 u2 u3 u4 s1 s2 s3 s4 s5 s6 v1 v2 v3 v4 v5 v6 nd ns nl) := List.mem_of_getElem? (i := 12) rfl
  have m2 : (a2, tup2 (.str (Str.ofString "S") t2) (.str (Str.ofString "s") u2)) ∈ (rowLed ld ls d1 d2 d3 d4 d5 d6 ll a1 a2 a3 a4 cS cX oS oX j1 j2 j3 t1 t2 t3 t4 u1 u2 u3 u4 s1 s2 s3 s4 s5 s6 v1 v2 v3 v4 v5 v6 nd ns nl) := List.mem_of_getElem? (i := 11) rfl
  have m3 : (a3, tup2 (.str (Str.ofString "ſ") t3) (.str (Str.ofString "s") u3)) ∈ (rowLed ld ls d1 d2 d3 d4 d5 d6 ll a1 a2 a3 a4 cS cX oS oX j1 j2 j3 t1 t2 t3 t4 u1 u2 u3 u4 s1 s2 s3 s4 s5 s6 v1 v2 v3 v4 v5 v6 nd ns nl) := List.mem_of_getElem? (i := 10) rfl
  have m4 : (a4, tup2 (.str (Str.ofString "T") t4) (.str (Str.ofString "t") u4)) ∈ (rowLed ld ls d1 d2 d3 d4 d5 d6 ll a1 a2 a3 a4 cS cX oS oX j1 j2 j3 t1 t2 t3 t4 u1 u2 u3 u4 s1 s2 s3 s4 s5 s6 v1 v2 v3 v4 v5 v6 nd ns nl) := List.mem_of_getElem? (i := 9) rfl
  obtain ⟨p1, q1, q1', e1, k1⟩ := letter_led h1 m1 m2 m3 m4
  obtain ⟨p2, q2, q2', e2, k2⟩ := letter_led h2 m1 m2 m3 m4
  obtain ⟨p3, q3, q3', e3, k3⟩ := letter_led h3 m1 m2 m3 m4
  refine ⟨p1, p2, p3, q1, q1', q2, q2', q3, q3', [d1, d2, d3, d4, d5, d6], _, rfl, ?_, k1, k2, k3, sign_led (t1 := s1) (t2 := s2) (t3 := s3) (t4 := s4) (t5 := s5) (t6 := s6) (u1 := v1) (u2 := v2) (u3 := v3) (u4 := v4) (u5 := v5) (u6 := v6) (List.mem_of_getElem? (i := 7) rfl) (List.mem_of_getElem? (i := 6) rfl) (List.mem_of_getElem? (i := 5) rfl) (List.mem_of_getElem? (i := 4) rfl) (List.mem_of_getElem? (i := 3) rfl) (List.mem_of_getElem? (i := 2) rfl)⟩
  have z := N _ (.head _)
  rw [e1, e2, e3] at z
  exact List.forall_mem_cons.mpr ⟨z, List.forall_mem_cons.mpr ⟨N _ (.tail _ (.head _)), List.forall_mem_cons.mpr ⟨N _ (List.mem_of_getElem? (i := 13) rfl), List.forall_mem_cons.mpr ⟨N _ (List.mem_of_getElem? (i := 14) rfl), N⟩⟩⟩⟩
noncomputable def StrsOf (cs : List (List Nat)) (ys : List Value) : Prop := ∃ l : List (Str × Tok), ys = strValues l ∧ l.map (·.1) = cs.map ofL
theorem StrsOf.nil : StrsOf [] [] := ⟨[], rfl, rfl⟩
theorem StrsOf.snoc {cs : List (List Nat)} {ys : List Value} {c : List Nat} {t : Tok} (h : StrsOf cs ys) : StrsOf (cs ++ [c]) (ys ++ [.str (ofL c) t]) := by
  obtain ⟨l, rfl, e⟩ := h
  refine ⟨l ++ [(ofL c, t)], ?_, ?_⟩
  · unfold strValues; rw [List.map_append]; rfl
  · rw [List.map_append, List.map_append, e]; rfl
theorem StrsOf.length {cs : List (List Nat)} {ys : List Value} (h : StrsOf cs ys) : ys.length = cs.length := by
  obtain ⟨l, rfl, e⟩ := h
  have := congrArg List.length e
  simpa [strValues] using this
theorem join_ofL : ∀ cs : List (List Nat), Str.join (Str.ofString "") (cs.map ofL) = ofL cs.flatten
  | [] => by decide
  | [c] => by simp [Str.join]
  | c :: d :: cs => by
    have ih := join_ofL (d :: cs)
    rw [List.map_cons] at ih
    rw [List.map_cons, List.map_cons, Str.join, ih, str_nil, ofL_app, ofL_app]
    simp
    intro h; cases h
section
variable {w : World} {A : Around} {E : Value → Shared → Prop} {s : Shared} {h₀ : Heap} {L : Addr} {news : List (Addr × Obj)}
theorem join_K {D : Addr} {ys : List Value} {cs : List (List Nat)} {t : Tok} {Q : Value → Shared → Prop} (N : News h₀ L s.heap news) (hm : (D, lst ys) ∈ news) (hy : StrsOf cs ys) (hl : cs.length ≤ 100) (hc : ∀ c ∈ cs, c.length ≤ 100)
    (h : ∀ t' k, Q (.str (ofL cs.flatten) t') { s with toks := k }) : wpAny (model PR w) A (call (.builtin "str.join") [.str (Str.ofString "") t, .ref D]) Q E s := by
  obtain ⟨l, rfl, e⟩ := hy
  refine SC.join (texts := cs.map ofL) ⟨_, N.get hm, rfl, _, rfl⟩ e ?_ fun t' k => ?_
  · unfold JoinOk
    rw [Bool.not_eq_true']
    refine StrLaws.joinFits (B := 100) (fun y hy => ?_) ?_
    · obtain ⟨c, hc', rfl⟩ := List.mem_map.mp hy
      rw [length_ofL]; exact hc c hc'
    · rw [List.length_map, show (Str.ofString "").length = 0 from rfl]
      (first | lia | omega)
  · have : Txt.join (Str.ofString "") (cs.map ofL) = ofL cs.flatten := by
      unfold Txt.join
      rw [StrLaws.glued_eq_join, join_ofL]
    rw [this]
    exact h t' k
end
section
variable {w : World} {A : Around} {E : Value → Shared → Prop} {s : Shared} {i : Nat} {t u : Tok} {a : Int} {Q : Value → Shared → Prop}
theorem pow_lt (hi : i < 6) : (2 : Int) ^ (i : Int).toNat ≠ 0 ∧ ((2 : Int) ^ (i : Int).toNat).natAbs < 1073741824 := by
  have : i = 0 ∨ i = 1 ∨ i = 2 ∨ i = 3 ∨ i = 4 ∨ i = 5 := by (first | lia | omega)
  rcases this with rfl | rfl | rfl | rfl | rfl | rfl <;> decide
theorem pow2_K (hi : i < 6) (h : Q (.int ((2 : Int) ^ (i : Int).toNat) s.toks) { s with toks := s.toks + 1 }) : wpAny (model PR w) A (binaryOp .Pow (.int 2 t) (.int (i : Int) u)) Q E s :=
  pow_int_small (by (first | lia | omega)) (by (first | lia | omega)) (by decide) h
theorem fd2_K (hi : i < 6) (h : Q (.int (a.fdiv ((2 : Int) ^ (i : Int).toNat)) s.toks) { s with toks := s.toks + 1 }) : wpAny (model PR w) A (binaryOp .FloorDiv (.int a t) (.int ((2 : Int) ^ (i : Int).toNat) u)) Q E s :=
  floordiv_int (pow_lt hi).1 h (.inl (PyProof.noPylong_small (pow_lt hi).2))
end
theorem bit_int (x i : Nat) : Int.fmod (Int.fdiv (63 - Int.fmod (Int.fdiv (x : Int) 64) 64) (2 ^ (i : Int).toNat)) 2 = 1 ↔ bitOf x i = true := by
  have e1 : Int.fmod (Int.fdiv (x : Int) 64) 64 = ((x / 64 % 64 : Nat) : Int) := by
    rw [show Int.fdiv (x : Int) 64 = ((x / 64 : Nat) : Int) from fdivN x 64]; exact fmodN _ 64
  have e2 : (63 : Int) - ((x / 64 % 64 : Nat) : Int) = ((63 - x / 64 % 64 : Nat) : Int) := by (first | lia | omega)
  have e3 : (2 : Int) ^ (i : Int).toNat = ((2 ^ i : Nat) : Int) := by rw [Int.toNat_natCast, Int.natCast_pow]; rfl
  rw [e1, e2, e3, fdivN, show ∀ a : Nat, Int.fmod (a : Int) 2 = ((a % 2 : Nat) : Int) from fun a => fmodN a 2]
  unfold bitOf
  rw [beq_iff_eq]
  (first | lia | omega)
theorem getD_ref (sg : List Addr) {k : Nat} (h : k < sg.length) : (sg.map Value.ref).getD k .none = .ref (sg.getD k 0) := by
  rw [List.getD_eq_getElem?_getD, List.getD_eq_getElem?_getD, List.getElem?_map, List.getElem?_eq_getElem h]
  rfl
theorem chosenOf_succ (x i : Nat) : chosenOf x (i + 1) = if bitOf x i = true then chosenOf x i ++ [i] else chosenOf x i := by
  unfold chosenOf
  rw [List.range_succ, List.filter_append]
  by_cases h : bitOf x i = true
  · rw [if_pos h]; simp [h]
  · rw [if_neg h]; simp [h]
theorem chosenOf_le (x i : Nat) : (chosenOf x i).length ≤ i := by
  unfold chosenOf
  exact Nat.le_trans (List.length_filter_le _ _) (by rw [List.length_range]; exact Nat.le_refl _)
theorem chosenOf_lt {x i k : Nat} (h : k ∈ chosenOf x i) : k < i := by
  unfold chosenOf at h
  exact List.mem_range.mp (List.mem_filter.mp h).1
end
section
open PySem PySem.W PySem.Calls PyProof.Rows LCg
local macro_rules | `(tactic| walk_at "subscriptTail") => `(tactic| (k_here; (with_reducible show wpAny _ _ (subscriptTail _ _ (Value.ref _) (Value.int _ _)) _ _ _); refine item_nat (by k_asm) (by k_mem) (by first | exact xm4 _ | exact xd4 _ | exact xd16 _ | exact xd4096 _ | rfl) (by (try simp only [List.length_cons, List.length_nil, List.length_map]); (first | lia | omega)) (by (try simp only [List.length_cons, List.length_nil, List.length_map]); (first | lia | omega)) ?_))
local macro_rules | `(tactic| walk_at "subscriptTail Name BinOp ref int") => `(tactic| (k_here; (with_reducible show wpAny _ _ (subscriptTail _ _ (Value.ref _) (Value.int _ _)) _ _ _); refine item_nat (by k_asm) (by k_mem) (by first | exact xm4 _ | exact xd4 _ | exact xd16 _ | exact xd4096 _ | rfl) (by (try simp only [List.length_cons, List.length_nil, List.length_map]); (first | lia | omega)) (by (try simp only [List.length_cons, List.length_nil, List.length_map]); (first | lia | omega)) ?_))
local macro_rules | `(tactic| walk_at "subscriptTail Name Name ref int") => `(tactic| (k_here; (with_reducible show wpAny _ _ (subscriptTail _ _ (Value.ref _) (Value.int _ _)) _ _ _); refine item_nat (by k_asm) (by k_mem) (by first | exact xm4 _ | exact xd4 _ | exact xd16 _ | exact xd4096 _ | rfl) (by (try simp only [List.length_cons, List.length_nil, List.length_map]); (first | lia | omega)) (by (try simp only [List.length_cons, List.length_nil, List.length_map]); (first | lia | omega)) ?_))
local macro_rules | `(tactic| walk_at "subscriptTail List BinOp ref int") => `(tactic| (k_here; (with_reducible show wpAny _ _ (subscriptTail _ _ (Value.ref _) (Value.int _ _)) _ _ _); refine item_nat (by k_asm) (by k_mem) (by first | exact xm4 _ | exact xd4 _ | exact xd16 _ | exact xd4096 _ | rfl) (by (try simp only [List.length_cons, List.length_nil, List.length_map]); (first | lia | omega)) (by (try simp only [List.length_cons, List.length_nil, List.length_map]); (first | lia | omega)) ?_))
local macro_rules | `(tactic| walk_at "binaryOp Pow int int") => `(tactic| (k_here; refine pow2_K (by assumption) ?_))
local macro_rules | `(tactic| walk_at "binaryOp FloorDiv int int") => `(tactic| (k_here; refine fd2_K (by assumption) ?_))
local macro_rules | `(tactic| walk_at "mine upto") => `(tactic| repeat (first | (k_unfold; (try dsimp only)) | ((fail_if_success (with_reducible show wpAny _ _ (exec (Stmt.Assign _ (Expr.ListComp _ _ _ _) _) _) _ _ _)); (fail_if_success (with_reducible show wpAny _ _ (eval (Expr.ListComp _ _ _ _) _) _ _ _)); (fail_if_success (with_reducible show wpAny _ _ (pyIter _) _ _ _)); first | walk1 | (dsimp only; walk1))))
set_option maxHeartbeats 8000000 in
theorem row_b : ∀ {w : World} {mg mb : Str → Option Value} {p : Program} {loose : List Str} {A : Around} {s : Shared} {B : Heap} {L ld ls : Addr} {r : Str → Option Value} {oS oX : Obj} {sg : List Addr} {v1 v2 v3 : Value} {nd ns : Nat} {tl : List (Addr × Obj)} {x : Nat} {t : Tok} {R : Flow → Shared → Prop} (X : (KK w.params).In B) (T : TopRead p loose mg mb B) (hroom : A.depth + 10 < recursionLimit) (hh : A.handled = none)
  (hsg : sg.length = 6) (hS : oS.data = .cell (some (.ref ls))) (hX : oX.data = .cell (some (.int (x : Int) t))) (F : Fr B L s.heap (fun y => if y = "drawn" then some (.ref ld) else r y)) (N : News B L s.heap ((ld, listOf [v1, v2, v3].toArray nd) :: (ls, listOf (sg.map Value.ref).toArray ns) :: (L + 1 + 1, oS) :: (L + 1, oX) :: tl))
  (h : ∀ h' tk lc, Fr B L h' (fun z => if z = "chosen" then some (.ref lc) else if z = "drawn" then some (.ref ld) else r z) → News B L h' ((lc, lst ((chosenOf x 6).map fun k => Value.ref (sg.getD k 0))) :: (ld, listOf [v1, v2, v3].toArray nd) :: (ls, listOf (sg.map Value.ref).toArray ns) :: (L + 1 + 1, oS) :: (L + 1, oX) :: tl) → wpAny (model PR w) (A.deeper (envOfC "_law_row" s13.1 L 275 (.ref 274))) (execs (b13.1.drop 4) (envOfC "_law_row" s13.1 L 275 (.ref 274))) R (fun _ _ => False) ⟨h', s.gens, s.drawn, tk, s.os⟩),
  wpAny (model PySem.Challenge.rw_in0022_01.row.toRowW.prog w) (A.deeper (envOfC "_law_row" s13.1 L 275 (.ref 274))) (execs (b13.1.drop 3) (envOfC "_law_row" s13.1 L 275 (.ref 274))) R (fun _ _ => False) s := by
  k_fill
  intro w mg mb p loose A s B L ld ls r oS oX sg v1 v2 v3 nd ns tl x t R X T hroom hh hsg hS hX F N h
  have hsl : sizeLine = 16777216 := by decide
  have hL1 : L < L + 1 := Nat.lt_succ_self _
  change wpAny _ _ (execs [_, _, _, _, _, _, _] _) _ _ _
  walk_at "mine upto"
  refine comp_assign F rfl rfl (by with_unfolding_all rfl) (by with_unfolding_all rfl) (by decide) (by rfl) (by decide) (by rfl) (by rfl) ?_
  dsimp only
  walk_at "mine upto"
  rename IsRange _ _ _ _ _ _ _ _ => hr
  rename Fr B L _ _ => Fc
  rename News B L _ _ => Nc
  refine cgo_range (n := 6) (fun i ys nw => nw = (ld, listOf [v1, v2, v3].toArray nd) :: (ls, listOf (sg.map Value.ref).toArray ns) :: (L + 1 + 1, oS) :: (L + 1, oX) :: tl ∧ ys = (chosenOf x i).map fun k => Value.ref (sg.getD k 0)) hh hr (by decide) (by rfl) rfl (by rfl) Fc Nc (by decide) (fun i ys nw j => by rw [j.2, List.length_map]; exact chosenOf_le x i) ⟨rfl, rfl⟩ ?item1 ?fin1
  case item1 =>
    rintro i tk1 ys nw I oI C D oC m' h' tk2 E' hi ⟨rfl, hys⟩ hoC hm F₂ N₂ off ne
    clear Fc Nc hr h
    refine wpAny_tests_one ?_
    k_steps
    · rename _ = (1 : Int) => hb
      have hbit : bitOf x i = true := (bit_int x i).mp hb
      refine ⟨_, _, oC, m', _, rfl, F₂, hoC, N₂, off, rfl, ?_⟩
      rw [hys, chosenOf_succ, if_pos hbit, List.map_append, List.map_cons, List.map_nil, getD_ref _ (by (first | lia | omega))]
    · rename _ ≠ (1 : Int) => hb
      have hbit : ¬ bitOf x i = true := fun q => hb ((bit_int x i).mpr q)
      refine ⟨_, _, oC, m', ys, _, rfl, F₂, hoC, N₂, off, rfl, ?_⟩
      rw [hys, chosenOf_succ, if_neg hbit]
  case fin1 =>
    rintro g ys nw ⟨rfl, rfl⟩ D h' tk F' N' off
    exact h h' tk D F' N'
end
section
open PySem PySem.W PySem.Calls PyProof.Rows LCg
section
variable {prog : Program} {w : World} {A : Around} {E : Value → Shared → Prop} {s : Shared} {h₀ : Heap} {L : Addr} {m : Str → Option Value} {env : Env} {scope : Scope} {cl : List (Str × Addr)}
theorem cgo_proj {iter : Expr} {x x₂ z : Str} {px px₂ pz tp : Pos} {tk} {pos : Pos} {Fin : Shared → List Value → List (Addr × Obj) → Prop} {l : Addr} {its : List Value} {nl : Nat} {news : List (Addr × Obj)} {cs : List (List Nat)}
    (hz : z = x ∨ z = x₂) (hh : A.handled = none) (hkind : scope.kind = .function) (hx : scope.names.lookup x = some .local) (hx₂ : scope.names.lookup x₂ = some .local) (hne : x ≠ x₂) (hd : (z == ("__debug__" : Str)) = false) (F : Fr h₀ L s.heap m) (N : News h₀ L s.heap news) (hl : (l, listOf its.toArray nl) ∈ news) (hsz : its.length ≤ sizeLine)
    (hlen : its.length = cs.length) (item : ∀ (i : Nat) (v : Value), its[i]? = some v → ∃ (t : Addr) (a b : List Nat) (ta tb : Tok), v = .ref t ∧ (t, tup2 (.str (ofL a) ta) (.str (ofL b) tb)) ∈ news ∧ cs[i]? = some (if z = x then a else b))
    (fin : ∀ g ys, StrsOf cs ys → Fin { s with heap := g } ys news) :
    wpAny (model prog w) A (pyIter (.ref l)) (fun it s₂ => CGo prog w A h₀ L m env (.Name z pz) [⟨.Tuple [.Name x px, .Name x₂ px₂] tk tp, iter, [], 0⟩] scope pos cl Fin it s₂) E s := by
  have hsa : its.toArray.size = its.length := by simp
  refine cgo_pairs (fun i ys nw => nw = news ∧ StrsOf (cs.take i) ys ∧ i ≤ cs.length) hh hkind hx hx₂ hne F N (by rw [hsa]; exact hsz) ?_ ⟨rfl, StrsOf.nil, Nat.zero_le _⟩ ?_ ?_
  · rintro i ys nw ⟨rfl, hs, hi⟩
    exact ⟨.inr ⟨_, hl, rfl, _, rfl⟩, by rw [hs.length, List.length_take]; exact Nat.min_le_left _ _⟩
  · rintro i v ys nw hv ⟨rfl, hs, hi⟩
    have hv' : its[i]? = some v := by simpa using hv
    obtain ⟨t, a, b, ta, tb, rfl, hm, hc⟩ := item i v hv'
    refine ⟨t, _, _, _, _, rfl, .inl hm, rfl, rfl, ?_⟩
    intro I oI C D oC m' h tk' E' hoC h1 h2 F' N' off ne
    refine wpAny_tests_nil ?_
    simp only [if_true]
    have hil : i < cs.length := by rw [← hlen]; exact (List.getElem?_eq_some_iff.mp hv').1
    have key : ∀ (c : List Nat) (tc : Tok), m' z = some (.str (ofL c) tc) → cs[i]? = some c → wpAny (model prog w) A (eval (.Name z pz) (compEnvC scope cl C env)) (CEl h₀ L m { s with heap := h, toks := tk' } I oI C D ys (fun ys' _ nw' => nw' = nw ∧ StrsOf (cs.take (i + 1)) ys' ∧ i + 1 ≤ cs.length)) E' { s with heap := h, toks := tk' } := by
      intro c tc hm' hcs
      refine PySem.W.LCgL.ld_own N' (.tail _ (.head _)) hoC hm' ?_ (by simp [compEnvC, relabel, hkind]) ?_ hd
      · refine ⟨h, tk', oC, m', nw, rfl, F', hoC, N', off, rfl, ?_, hil⟩
        rw [List.take_add_one, hcs]
        exact hs.snoc
      · rcases hz with rfl | rfl
        · exact lookup_relabel_local hx
        · exact lookup_relabel_local hx₂
    rcases hz with rfl | rfl
    · rw [if_pos rfl] at hc
      exact key _ _ h1 hc
    · rw [if_neg (Ne.symm hne)] at hc
      exact key _ _ h2 hc
  · rintro g ys nw ⟨rfl, hs, hi⟩
    rw [hsa, hlen, List.take_length] at hs
    exact fin g ys hs
end
section
variable {w : World} {A : Around} {E : Value → Shared → Prop} {s : Shared} {h₀ : Heap} {L : Addr} {news : List (Addr × Obj)}
theorem item_blank {l : Addr} {x n : Nat} {t1 t2 t3 t4 : Tok} {k : Int} {u : Tok} {value slice : Expr} {Q : Value → Shared → Prop} (N : News h₀ L s.heap news) (hm : (l, listOf #[.str (Str.ofString "") t1, .str (Str.ofString " ") t2, .str (Str.ofString "\t") t3, .str (Str.ofString "\u3000") t4] n) ∈ news) (hk : k = ((x / 4096 % 4 : Nat) : Int)) (h : ∀ t', Q (.str (ofL (blankOf x)) t') s)
    (hs : subscripted slice false (.ref l) (.int k u) = operate [.ref l, .int k u] (getItem (.ref l) (.int k u)) := by with_unfolding_all rfl) :
    wpAny (model PR w) A (subscriptTail value slice (.ref l) (.int k u)) Q E s := by
  refine item_nat (its := [.str (Str.ofString "") t1, .str (Str.ofString " ") t2, .str (Str.ofString "\t") t3, .str (Str.ofString "\u3000") t4]) N hm hk (by simp only [List.length_cons, List.length_nil]; (first | lia | omega)) (by simp only [List.length_cons, List.length_nil]; (first | lia | omega)) ?_ hs
  unfold blankOf at h
  have : x / 4096 % 4 = 0 ∨ x / 4096 % 4 = 1 ∨ x / 4096 % 4 = 2 ∨ x / 4096 % 4 = 3 := by (first | lia | omega)
  rcases this with e | e | e | e <;> rw [e] at h ⊢
  · have := h t1; rw [show ofL ([[], [32], [9], [12288]].getD 0 []) = Str.ofString "" by decide +kernel] at this; exact this
  · have := h t2; rw [show ofL ([[], [32], [9], [12288]].getD 1 []) = Str.ofString " " by decide +kernel] at this; exact this
  · have := h t3; rw [show ofL ([[], [32], [9], [12288]].getD 2 []) = Str.ofString "\t" by decide +kernel] at this; exact this
  · have := h t4; rw [show ofL ([[], [32], [9], [12288]].getD 3 []) = Str.ofString "\u3000" by decide +kernel] at this; exact this
end
noncomputable def PairRefs (ds : List (Addr × Obj)) (ys : List Value) (cs : List Nat) : Prop := All2 (fun v c => ∃ a t t', v = .ref a ∧ (a, tup2 (.str (ofL [c]) t) (.str (ofL (foldC c)) t')) ∈ ds) ys cs
theorem PairRefs.mono {ds ds' : List (Addr × Obj)} {ys : List Value} {cs : List Nat} (h : PairRefs ds ys cs) (k : ∀ p ∈ ds, p ∈ ds') : PairRefs ds' ys cs := by
  induction h with
  | nil => exact .nil
  | cons a b ih =>
    obtain ⟨ad, t, t', e, m⟩ := a
    exact .cons ⟨ad, t, t', e, k _ m⟩ ih
theorem All2.app {α β : Type} {R : α → β → Prop} {a a' : List α} {b b' : List β} (h : All2 R a b) (h' : All2 R a' b') : All2 R (a ++ a') (b ++ b') := by
  induction h with
  | nil => exact h'
  | cons x y ih => exact .cons x ih
theorem All2.len {α β : Type} {R : α → β → Prop} {a : List α} {b : List β} (h : All2 R a b) : a.length = b.length := by
  induction h with
  | nil => rfl
  | cons x y ih => simp [ih]
theorem All2.get {α β : Type} {R : α → β → Prop} {a : List α} {b : List β} (h : All2 R a b) : ∀ {i : Nat} {x : α}, a[i]? = some x → ∃ y, b[i]? = some y ∧ R x y := by
  induction h with
  | nil => intro i x e; simp at e
  | cons p q ih =>
    intro i x e
    cases i with
    | zero => simp at e; subst e; exact ⟨_, rfl, p⟩
    | succ i => simp at e; obtain ⟨y, e', r⟩ := ih e; exact ⟨y, by simpa using e', r⟩
theorem drawn_item {p1 p2 p3 : Addr} {q1 q1' q2 q2' q3 q3' : Tok} {tl news : List (Addr × Obj)} {x : Nat} (hsub : ∀ p ∈ tl, p ∈ news)
    (m1 : (p1, tup2 (.str (ofL [letW (x % 4)]) q1) (.str (ofL (letF (x % 4))) q1')) ∈ tl) (m2 : (p2, tup2 (.str (ofL [letW (x / 4 % 4)]) q2) (.str (ofL (letF (x / 4 % 4))) q2')) ∈ tl) (m3 : (p3, tup2 (.str (ofL [letW (x / 16 % 4)]) q3) (.str (ofL (letF (x / 16 % 4))) q3')) ∈ tl)
    (i : Nat) (v : Value) (hv : [Value.ref p1, .ref p2, .ref p3][i]? = some v) :
    ∃ (t : Addr) (a b : List Nat) (ta tb : Tok), v = .ref t ∧ (t, tup2 (.str (ofL a) ta) (.str (ofL b) tb)) ∈ news ∧ ((drawnOf x).map fun j => [letW j])[i]? = some a ∧ ((drawnOf x).map letF)[i]? = some b := by
  match i, hv with
  | 0, hv => cases hv; exact ⟨p1, _, _, _, _, rfl, hsub _ m1, rfl, rfl⟩
  | 1, hv => cases hv; exact ⟨p2, _, _, _, _, rfl, hsub _ m2, rfl, rfl⟩
  | 2, hv => cases hv; exact ⟨p3, _, _, _, _, rfl, hsub _ m3, rfl, rfl⟩
theorem chosen_item {sg : List Addr} {tl news : List (Addr × Obj)} {x : Nat} (hsub : ∀ p ∈ tl, p ∈ news)
    (hS : ∀ k, k < 6 → ∃ t t', (sg.getD k 0, tup2 (.str (ofL [sixAt k]) t) (.str (ofL (foldC (sixAt k))) t')) ∈ tl)
    (i : Nat) (v : Value) (hv : ((chosenOf x 6).map fun k => Value.ref (sg.getD k 0))[i]? = some v) :
    ∃ (t : Addr) (c : Nat) (ta tb : Tok), v = .ref t ∧ (t, tup2 (.str (ofL [c]) ta) (.str (ofL (foldC c)) tb)) ∈ news ∧ (allowedOf x)[i]? = some c := by
  rw [List.getElem?_map] at hv
  obtain ⟨k, hk, rfl⟩ := Option.map_eq_some_iff.mp hv
  obtain ⟨t, t', m⟩ := hS k (chosenOf_lt (List.mem_of_getElem? hk))
  exact ⟨_, sixAt k, t, t', rfl, hsub _ m, by unfold allowedOf; rw [List.getElem?_map, hk]; rfl⟩
theorem written_flat (x : Nat) : (((drawnOf x).map fun j => [letW j]).flatten) = writtenOf x := rfl
theorem allowed_flat (x : Nat) : (((allowedOf x).map fun c => [c]).flatten) = allowedOf x := by
  generalize allowedOf x = l
  induction l with
  | nil => rfl
  | cons c l ih => rw [List.map_cons, List.flatten_cons, ih]; rfl
theorem letF_le (j : Nat) : (letF j).length ≤ 100 := by
  unfold letF
  match j with
  | 0 => decide
  | 1 => decide
  | 2 => decide
  | 3 => decide
  | n + 4 => exact Nat.zero_le _
theorem blank_le (x : Nat) : (blankOf x).length ≤ 1 := by
  unfold blankOf
  have : x / 4096 % 4 = 0 ∨ x / 4096 % 4 = 1 ∨ x / 4096 % 4 = 2 ∨ x / 4096 % 4 = 3 := by (first | lia | omega)
  rcases this with e | e | e | e <;> rw [e] <;> decide
theorem allowed_six {x c : Nat} (h : c ∈ allowedOf x) : c ∈ six := by
  unfold allowedOf at h
  obtain ⟨k, hk, rfl⟩ := List.mem_map.mp h
  have := chosenOf_lt hk
  have : k = 0 ∨ k = 1 ∨ k = 2 ∨ k = 3 ∨ k = 4 ∨ k = 5 := by (first | lia | omega)
  rcases this with rfl | rfl | rfl | rfl | rfl | rfl <;> decide
theorem fold_ne {c : Nat} (h : c ∈ six) : (ofL (foldC c) != Str.ofString "") = decide (c ≠ 8203) := by
  have : ∀ c ∈ six, (ofL (foldC c) != Str.ofString "") = decide (c ≠ 8203) := by decide +kernel
  exact this c h
theorem filter_take_yes {l : List Nat} {i c : Nat} (h : l[i]? = some c) (hc : c ≠ 8203) : (l.take (i + 1)).filter (· ≠ 8203) = (l.take i).filter (· ≠ 8203) ++ [c] := by
  rw [List.take_add_one, h, List.filter_append]
  simp [hc]
theorem filter_take_no {l : List Nat} {i c : Nat} (h : l[i]? = some c) (hc : c = 8203) : (l.take (i + 1)).filter (· ≠ 8203) = (l.take i).filter (· ≠ 8203) := by
  rw [List.take_add_one, h, List.filter_append]
  simp [hc]
theorem news_swap {B h : Heap} {L : Addr} {a b c d : Addr × Obj} {r : List (Addr × Obj)} (N : News B L h (a :: b :: c :: d :: r)) : News B L h (b :: c :: d :: a :: r) := fun p hp => by
  refine N p ?_
  simp only [List.mem_cons] at hp ⊢
  rcases hp with e | e | e | e | e
  · exact .inr (.inl e)
  · exact .inr (.inr (.inl e))
  · exact .inr (.inr (.inr (.inl e)))
  · exact .inl e
  · exact .inr (.inr (.inr (.inr e)))
theorem row_str (x : Nat) : ofL (blankOf x) ++ ofL (writtenOf x) ++ ofL (blankOf x) ++ Str.ofString "=" ++ ofL (blankOf x) ++ ofL (allowedOf x) ++ ofL (blankOf x) = ofL (rowOf x) := by
  rw [str_eq]
  simp only [ofL_app]
  rfl
noncomputable abbrev tup4 (a b c d : Value) : Obj := { cls := .type "tuple", data := .seq #[a, b, c, d] }
end
section
open PySem PySem.W PySem.Calls PyProof.Rows LCg
local macro_rules | `(tactic| walk_at "subscriptTail") => `(tactic| (k_here; (with_reducible show wpAny _ _ (subscriptTail _ _ (Value.ref _) (Value.int _ _)) _ _ _); refine item_nat (by k_asm) (by k_mem) (by first | exact xm4 _ | exact xd4 _ | exact xd16 _ | exact xd4096 _ | rfl) (by (try simp only [List.length_cons, List.length_nil, List.length_map]); (first | lia | omega)) (by (try simp only [List.length_cons, List.length_nil, List.length_map]); (first | lia | omega)) ?_))
local macro_rules | `(tactic| walk_at "subscriptTail Name BinOp ref int") => `(tactic| (k_here; (with_reducible show wpAny _ _ (subscriptTail _ _ (Value.ref _) (Value.int _ _)) _ _ _); refine item_nat (by k_asm) (by k_mem) (by first | exact xm4 _ | exact xd4 _ | exact xd16 _ | exact xd4096 _ | rfl) (by (try simp only [List.length_cons, List.length_nil, List.length_map]); (first | lia | omega)) (by (try simp only [List.length_cons, List.length_nil, List.length_map]); (first | lia | omega)) ?_))
local macro_rules | `(tactic| walk_at "subscriptTail Name Name ref int") => `(tactic| (k_here; (with_reducible show wpAny _ _ (subscriptTail _ _ (Value.ref _) (Value.int _ _)) _ _ _); refine item_nat (by k_asm) (by k_mem) (by first | exact xm4 _ | exact xd4 _ | exact xd16 _ | exact xd4096 _ | rfl) (by (try simp only [List.length_cons, List.length_nil, List.length_map]); (first | lia | omega)) (by (try simp only [List.length_cons, List.length_nil, List.length_map]); (first | lia | omega)) ?_))
local macro_rules | `(tactic| walk_at "subscriptTail List BinOp ref int") => `(tactic| (k_here; (with_reducible show wpAny _ _ (subscriptTail _ _ (Value.ref _) (Value.int _ _)) _ _ _); refine item_nat (by k_asm) (by k_mem) (by first | exact xm4 _ | exact xd4 _ | exact xd16 _ | exact xd4096 _ | rfl) (by (try simp only [List.length_cons, List.length_nil, List.length_map]); (first | lia | omega)) (by (try simp only [List.length_cons, List.length_nil, List.length_map]); (first | lia | omega)) ?_))
local macro_rules | `(tactic| walk_at "binaryOp Pow int int") => `(tactic| (k_here; refine pow2_K (by assumption) ?_))
local macro_rules | `(tactic| walk_at "binaryOp FloorDiv int int") => `(tactic| (k_here; refine fd2_K (by assumption) ?_))
local macro_rules | `(tactic| walk_at "mine upto") => `(tactic| repeat (first | (k_unfold; (try dsimp only)) | ((fail_if_success (with_reducible show wpAny _ _ (exec (Stmt.Assign _ (Expr.ListComp _ _ _ _) _) _) _ _ _)); (fail_if_success (with_reducible show wpAny _ _ (eval (Expr.ListComp _ _ _ _) _) _ _ _)); (fail_if_success (with_reducible show wpAny _ _ (pyIter _) _ _ _)); first | walk1 | (dsimp only; walk1))))
local macro_rules | `(tactic| walk_at "subscriptTail") => `(tactic| (k_here; (with_reducible show wpAny _ _ (subscriptTail _ _ (Value.ref _) (Value.int _ _)) _ _ _); refine item_blank (by k_asm) (by k_mem) (by exact xd4096 _) ?_; intro tb'))
local macro_rules | `(tactic| walk_at "call builtin:str.join") => `(tactic| (k_here; refine join_K (by k_asm) (by k_mem) (by assumption) (by simp only [List.length_map]; (first | lia | omega)) (by intro c hc; first | (obtain ⟨_, _, rfl⟩ := List.mem_map.mp hc; exact Nat.le_of_ble_eq_true rfl) | (obtain ⟨j, _, rfl⟩ := List.mem_map.mp hc; exact letF_le j)) ?_; intro tj' kj'))
local macro_rules | `(tactic| walk_at "binaryOp Add str str") => `(tactic| (k_here; refine add_str (fun tw' tk' => ?_) (by simp only [Str.length_append, length_ofL, show (Str.ofString "=").length = 1 from rfl]; (first | lia | omega))))
set_option maxHeartbeats 8000000 in
theorem row_c : ∀ {w : World} {mg mb : Str → Option Value} {p : Program} {loose : List Str} {A : Around} {s : Shared} {B : Heap} {L ld lc p1 p2 p3 : Addr} {r : Str → Option Value} {oX : Obj} {sg : List Addr} {q1 q1' q2 q2' q3 q3' : Tok} {nd : Nat} {tl : List (Addr × Obj)} {x : Nat} {t : Tok} {R : Flow → Shared → Prop} (X : (KK w.params).In B) (T : TopRead p loose mg mb B) (hroom : A.depth + 10 < recursionLimit) (hh : A.handled = none)
  (hsg : sg.length = 6) (hX : oX.data = .cell (some (.int (x : Int) t))) (F : Fr B L s.heap (fun y => if y = "chosen" then some (.ref lc) else if y = "drawn" then some (.ref ld) else r y)) (N : News B L s.heap ((lc, lst ((chosenOf x 6).map fun k => Value.ref (sg.getD k 0))) :: (ld, listOf [Value.ref p1, .ref p2, .ref p3].toArray nd) :: (L + 1, oX) :: tl))
  (m1 : (p1, tup2 (.str (ofL [letW (x % 4)]) q1) (.str (ofL (letF (x % 4))) q1')) ∈ tl) (m2 : (p2, tup2 (.str (ofL [letW (x / 4 % 4)]) q2) (.str (ofL (letF (x / 4 % 4))) q2')) ∈ tl) (m3 : (p3, tup2 (.str (ofL [letW (x / 16 % 4)]) q3) (.str (ofL (letF (x / 16 % 4))) q3')) ∈ tl)
  (hS : ∀ k, k < 6 → ∃ t t', (sg.getD k 0, tup2 (.str (ofL [sixAt k]) t) (.str (ofL (foldC (sixAt k))) t')) ∈ tl)
  (h : ∀ h' tk rr pl t1 t2 t3 ys news' m', Fr B L h' m' → News B L h' ((rr, tup4 (.str (ofL (rowOf x)) t1) (.str (ofL (nameOf x)) t2) (.str (ofL (allowedOf x)) t3) (.ref pl)) :: (pl, lst ys) :: news') → PairRefs news' ys ((allowedOf x).filter (· ≠ 8203)) → R (.ret (.ref rr)) ⟨h', s.gens, s.drawn, tk, s.os⟩),
  wpAny (model PySem.Challenge.rw_in0022_01.row.toRowW.prog w) (A.deeper (envOfC "_law_row" s13.1 L 275 (.ref 274))) (execs (b13.1.drop 4) (envOfC "_law_row" s13.1 L 275 (.ref 274))) R (fun _ _ => False) s := by
  k_fill
  intro w mg mb p loose A s B L ld lc p1 p2 p3 r oX sg q1 q1' q2 q2' q3 q3' nd tl x t R X T hroom hh hsg hX F N m1 m2 m3 hS h
  have hsl : sizeLine = 16777216 := by decide
  have hL1 : L < L + 1 := Nat.lt_succ_self _
  have hlc := chosenOf_le x 6
  have hla : (allowedOf x).length ≤ 6 := by unfold allowedOf; rw [List.length_map]; exact hlc
  have hld : (drawnOf x).length = 3 := rfl
  have hbl := blank_le x
  have hwl : (writtenOf x).length = 3 := rfl
  change wpAny _ _ (execs [_, _, _, _, _, _] _) _ _ _
  walk_at "mine upto"
  rename Fr B L _ _ => Fa
  refine comp_eval Fa rfl (by with_unfolding_all rfl) (by decide) (by rfl) (by decide) ?_
  dsimp only
  walk_at "mine upto"
  rename Fr B L _ _ => Fb
  rename News B L _ _ => Nb
  refine cgo_proj (cs := (drawnOf x).map fun j => [letW j]) (.inl rfl) hh (by rfl) (by rfl) (by rfl) (by decide) (by decide) Fb Nb (by k_mem) (by show 3 ≤ _; (first | lia | omega)) rfl (fun i v hv => ?it1) ?fin1
  case it1 =>
    obtain ⟨t, a, b, ta, tb, e, hm, ha, hb⟩ := drawn_item (news := tl) (fun p hp => hp) m1 m2 m3 i v hv
    exact ⟨t, a, b, ta, tb, e, by repeat (first | exact hm | refine List.Mem.tail _ ?_), by rw [if_pos rfl]; exact ha⟩
  case fin1 =>
    intro g ys hys D h' tk' F' N' off
    clear Fb Nb
    walk_at "mine upto"
    refine join_K (by exact N') (.head _) hys (by rw [List.length_map]; (first | lia | omega)) (fun c hc => by obtain ⟨_, _, rfl⟩ := List.mem_map.mp hc; exact Nat.le_of_ble_eq_true rfl) fun tj kj => ?_
    rw [written_flat]
    walk_at "mine upto"
    rename Fr B L _ _ => Fc
    refine comp_eval Fc rfl (by with_unfolding_all rfl) (by decide) (by rfl) (by decide) ?_
    dsimp only
    walk_at "mine upto"
    rename Fr B L _ _ => Fd
    rename News B L _ _ => Nd
    refine cgo_proj (cs := (allowedOf x).map fun c => [c]) (.inl rfl) hh (by rfl) (by rfl) (by rfl) (by decide) (by decide) Fd Nd (by k_mem) (by rw [List.length_map]; (first | lia | omega)) (by unfold allowedOf; simp only [List.length_map]) (fun i v hv => ?it2) ?fin2
    case it2 =>
      obtain ⟨t, c, ta, tb, e, hm, hc⟩ := chosen_item (news := tl) (fun p hp => hp) hS i v hv
      exact ⟨t, [c], foldC c, ta, tb, e, by repeat (first | exact hm | refine List.Mem.tail _ ?_), by rw [if_pos rfl, List.getElem?_map, hc]; rfl⟩
    case fin2 =>
      intro g2 ys2 hys2 D2 h2 tk2 F2 N2 off2
      clear Fd Nd
      walk_at "mine upto"
      refine join_K (by exact N2) (.head _) hys2 (by rw [List.length_map]; (first | lia | omega)) (fun c hc => by obtain ⟨_, _, rfl⟩ := List.mem_map.mp hc; exact Nat.le_of_ble_eq_true rfl) fun tj2 kj2 => ?_
      rw [allowed_flat]
      walk_at "mine upto"
      rename Fr B L _ _ => Fe
      refine comp_eval Fe rfl (by with_unfolding_all rfl) (by decide) (by rfl) (by decide) ?_
      dsimp only
      walk_at "mine upto"
      rename Fr B L _ _ => Ff
      rename News B L _ _ => Nf
      refine cgo_proj (cs := (drawnOf x).map letF) (.inr rfl) hh (by rfl) (by rfl) (by rfl) (by decide) (by decide) Ff Nf (by k_mem) (by show 3 ≤ _; (first | lia | omega)) rfl (fun i v hv => ?it3) ?fin3
      case it3 =>
        obtain ⟨t, a, b, ta, tb, e, hm, ha, hb⟩ := drawn_item (news := tl) (fun p hp => hp) m1 m2 m3 i v hv
        exact ⟨t, a, b, ta, tb, e, by repeat (first | exact hm | refine List.Mem.tail _ ?_), by rw [if_neg (by decide)]; exact hb⟩
      case fin3 =>
        intro g3 ys3 hys3 D3 h3 tk3 F3 N3 off3
        clear Ff Nf
        walk_at "mine upto"
        refine join_K (by exact N3) (.head _) hys3 (by rw [List.length_map]; (first | lia | omega)) (fun c hc => by obtain ⟨j, _, rfl⟩ := List.mem_map.mp hc; exact letF_le j) fun tj3 kj3 => ?_
        rw [show ((drawnOf x).map letF).flatten = nameOf x from rfl]
        walk_at "mine upto"
        rename Fr B L _ _ => Fg
        refine comp_eval Fg rfl (by with_unfolding_all rfl) (by decide) (by rfl) (by decide) ?_
        dsimp only
        walk_at "mine upto"
        rename Fr B L _ _ => Fh
        rename News B L _ _ => Nh
        obtain ⟨N0, hN0, Ni⟩ : ∃ N0, N0 = _ ∧ News B L _ N0 := ⟨_, rfl, Nh⟩
        have hlcm : (lc, lst ((chosenOf x 6).map fun k => Value.ref (sg.getD k 0))) ∈ N0 := by rw [hN0]; k_mem
        have htl : ∀ p ∈ tl, p ∈ N0 := fun p hp => by rw [hN0]; repeat (first | exact hp | refine List.Mem.tail _ ?_)
        refine cgo_pairs (its := ((chosenOf x 6).map fun k => Value.ref (sg.getD k 0)).toArray) (fun i ys nw => ∃ ds, nw = ds ++ N0 ∧ PairRefs ds ys (((allowedOf x).take i).filter (· ≠ 8203)) ∧ i ≤ (allowedOf x).length) hh (by rfl) (by rfl) (by rfl) (by decide) Fh Ni (by rw [List.size_toArray, List.length_map]; (first | lia | omega)) ?hjs ⟨[], rfl, .nil, Nat.zero_le _⟩ ?it4 ?fin4
        case hjs =>
          rintro i ys nw ⟨ds, rfl, hp, hi⟩
          refine ⟨.inr ⟨_, List.mem_append_right _ hlcm, rfl, _, rfl⟩, ?_⟩
          rw [hp.len]
          exact Nat.le_trans (List.length_filter_le _ _) (by rw [List.length_take]; exact Nat.min_le_left _ _)
        case it4 =>
          rintro i v ys nw hv ⟨ds, rfl, hp, hi⟩
          obtain ⟨t, c, ta, tb, e, hm, hc⟩ := chosen_item (news := tl) (fun p hp => hp) hS i v (by simpa using hv)
          refine ⟨t, _, _, _, _, e, .inl (List.mem_append_right _ (htl _ hm)), rfl, rfl, ?_⟩
          intro I oI C D oC m' h' tk' E' hoC h1 h2 F4 N4 off ne
          clear Fh Nh
          refine wpAny_tests_one ?_
          have hc6 := allowed_six (List.mem_of_getElem? hc)
          have hil : i < (allowedOf x).length := (List.getElem?_eq_some_iff.mp hc).1
          k_steps
          · rename ((ofL (foldC c) != _) = true) => hq
            rename Fr B L _ _ => F5
            rename News B L _ _ => N5
            rw [fold_ne hc6] at hq
            have hc9 := of_decide_eq_true hq
            refine ⟨_, _, oC, m', _ :: (ds ++ N0), rfl, F5, hoC, news_swap N5, ⟨⟨by k_ne, by k_ne, by k_ne⟩, off⟩, _ :: ds, rfl, ?_, hil⟩
            rw [filter_take_yes hc hc9]
            exact All2.app (hp.mono fun p hp => .tail _ hp) (.cons ⟨_, ta, tb, rfl, .head _⟩ .nil)
          · rename ((ofL (foldC c) != _) = false) => hq
            rw [fold_ne hc6] at hq
            have hc9 : c = 8203 := Decidable.of_not_not (of_decide_eq_false hq)
            refine ⟨_, _, oC, m', ys, ds ++ N0, rfl, F4, hoC, N4, off, ds, rfl, ?_, hil⟩
            rw [filter_take_no hc hc9]
            exact hp
        case fin4 =>
          rintro g4 ys4 nw4 ⟨ds, rfl, hp, hi⟩ D4 h4 tk4 F4 N4 off4
          have hall : ((chosenOf x 6).map fun k => Value.ref (sg.getD k 0)).toArray.size = (allowedOf x).length := by unfold allowedOf; simp
          rw [hall, List.take_length] at hp
          walk_at "mine upto"
          rename Fr B L _ _ => Fz
          rename News B L _ _ => Nz
          rw [row_str] at Nz
          exact h _ _ _ D4 _ _ _ ys4 (ds ++ N0) _ Fz Nz (hp.mono fun p hp => List.mem_append_left _ hp)
end
section
open PySem PySem.W PySem.Calls PyProof.Rows LCg
local macro_rules | `(tactic| walk_at "subscriptTail") => `(tactic| (k_here; (with_reducible show wpAny _ _ (subscriptTail _ _ (Value.ref _) (Value.int _ _)) _ _ _); refine item_nat (by k_asm) (by k_mem) (by first | exact xm4 _ | exact xd4 _ | exact xd16 _ | exact xd4096 _ | rfl) (by (try simp only [List.length_cons, List.length_nil, List.length_map]); (first | lia | omega)) (by (try simp only [List.length_cons, List.length_nil, List.length_map]); (first | lia | omega)) ?_))
local macro_rules | `(tactic| walk_at "subscriptTail Name BinOp ref int") => `(tactic| (k_here; (with_reducible show wpAny _ _ (subscriptTail _ _ (Value.ref _) (Value.int _ _)) _ _ _); refine item_nat (by k_asm) (by k_mem) (by first | exact xm4 _ | exact xd4 _ | exact xd16 _ | exact xd4096 _ | rfl) (by (try simp only [List.length_cons, List.length_nil, List.length_map]); (first | lia | omega)) (by (try simp only [List.length_cons, List.length_nil, List.length_map]); (first | lia | omega)) ?_))
local macro_rules | `(tactic| walk_at "subscriptTail Name Name ref int") => `(tactic| (k_here; (with_reducible show wpAny _ _ (subscriptTail _ _ (Value.ref _) (Value.int _ _)) _ _ _); refine item_nat (by k_asm) (by k_mem) (by first | exact xm4 _ | exact xd4 _ | exact xd16 _ | exact xd4096 _ | rfl) (by (try simp only [List.length_cons, List.length_nil, List.length_map]); (first | lia | omega)) (by (try simp only [List.length_cons, List.length_nil, List.length_map]); (first | lia | omega)) ?_))
local macro_rules | `(tactic| walk_at "subscriptTail List BinOp ref int") => `(tactic| (k_here; (with_reducible show wpAny _ _ (subscriptTail _ _ (Value.ref _) (Value.int _ _)) _ _ _); refine item_nat (by k_asm) (by k_mem) (by first | exact xm4 _ | exact xd4 _ | exact xd16 _ | exact xd4096 _ | rfl) (by (try simp only [List.length_cons, List.length_nil, List.length_map]); (first | lia | omega)) (by (try simp only [List.length_cons, List.length_nil, List.length_map]); (first | lia | omega)) ?_))
local macro_rules | `(tactic| walk_at "binaryOp Pow int int") => `(tactic| (k_here; refine pow2_K (by assumption) ?_))
local macro_rules | `(tactic| walk_at "binaryOp FloorDiv int int") => `(tactic| (k_here; refine fd2_K (by assumption) ?_))
local macro_rules | `(tactic| walk_at "mine upto") => `(tactic| repeat (first | (k_unfold; (try dsimp only)) | ((fail_if_success (with_reducible show wpAny _ _ (exec (Stmt.Assign _ (Expr.ListComp _ _ _ _) _) _) _ _ _)); (fail_if_success (with_reducible show wpAny _ _ (eval (Expr.ListComp _ _ _ _) _) _ _ _)); (fail_if_success (with_reducible show wpAny _ _ (pyIter _) _ _ _)); first | walk1 | (dsimp only; walk1))))
local macro_rules | `(tactic| walk_at "mine upto") => `(tactic| repeat (first | (k_unfold; (try dsimp only)) | ((fail_if_success (with_reducible show wpAny _ _ (execs (Stmt.Assign _ (Expr.ListComp _ _ _ _) _ :: _) _) _ _ _)); first | walk1 | (dsimp only; walk1))))
set_option maxHeartbeats 8000000 in
theorem spec_row : ∀ {w : World} {mg mb : Str → Option Value} {p : Program} {loose : List Str} {A : Around} {s : Shared} {Q : Value → Shared → Prop} {E : Value → Shared → Prop} (X : (KK w.params).In s.heap) (T : TopRead p loose mg mb s.heap) (hroom : A.depth + 10 < recursionLimit) (hh : A.handled = none)
  (x : Nat) (t : Tok) (h1 : x < 16384)
  (hQ : ∀ h' tk rr pl t1 t2 t3 ys nw, Ext s.heap h' → (∀ p ∈ nw, h'.get? p.1 = some p.2 ∧ s.heap.get? p.1 = none) → PairRefs nw ys ((allowedOf x).filter (· ≠ 8203)) → (rr, tup4 (.str (ofL (rowOf x)) t1) (.str (ofL (nameOf x)) t2) (.str (ofL (allowedOf x)) t3) (.ref pl)) ∈ nw → (pl, lst ys) ∈ nw → Q (.ref rr) ⟨h', s.gens, s.drawn, tk, s.os⟩),
  wpAny (model PySem.Challenge.rw_in0022_01.row.toRowW.prog w) A (call (.ref 275) [.int (x : Int) t]) Q E s := by
  k_fill
  intro w mg mb p loose A s Q E X T hroom hh x t h1 hQ
  have hsl : sizeLine = 16777216 := by decide
  refine wpAny_call (enterPc X T (by k_is) (by k_is) (by (first | lia | omega)) (BindsTo.of_eq rfl) (by rfl) (by decide +kernel) (fun h₁ L' tk cells hL F N Y => ?_) rfl rfl rfl)
  have hL1 : L' < L' + 1 := Nat.lt_succ_self _
  k_cells Y
  (try simp only [List.cons_append, List.nil_append] at N)
  (try dsimp only)
  rename_i oS oX d1 d2
  have F' : Fr s.heap L' h₁ (fun _ => none) := F
  have d1' : oS.data = Data.cell none := d1
  have d2' : oX.data = Data.cell (some (.int (x : Int) t)) := d2
  clear F d1 d2
  walk_at "mine upto"
  rename Fr s.heap L' _ _ => Fa
  rename News s.heap L' _ _ => Na
  rename (_ = Data.cell (some (Value.ref _))) => dS
  obtain ⟨p1, p2, p3, q1, q1', q2, q2', q3, q3', sg, tl, hsg, Nb, m1, m2, m3, hS⟩ := row_led Na (by (first | lia | omega)) (by (first | lia | omega)) (by (first | lia | omega))
  clear Na
  refine row_b X T hroom hh hsg dS d2' Fa Nb fun h2 tk2 lc F2 N2 => ?_
  have N3 : News s.heap L' h2 ((lc, lst ((chosenOf x 6).map fun k => Value.ref (sg.getD k 0))) :: (_, listOf [Value.ref p1, .ref p2, .ref p3].toArray _) :: (L' + 1, oX) :: tl) := fun q hq => by
    rcases List.mem_cons.mp hq with rfl | hq
    · exact N2 _ (.head _)
    rcases List.mem_cons.mp hq with rfl | hq
    · exact N2 _ (.tail _ (.head _))
    rcases List.mem_cons.mp hq with rfl | hq
    · exact N2 _ (.tail _ (.tail _ (.tail _ (.tail _ (.head _)))))
    · exact N2 _ (.tail _ (.tail _ (.tail _ (.tail _ (.tail _ hq)))))
  refine row_c X T hroom hh hsg d2' F2 N3 m1 m2 m3 hS fun h4 tk4 rr pl t1 t2 t3 ys nw m' F4 N4 hp => ?_
  exact hQ h4 tk4 rr pl t1 t2 t3 ys _ F4.keep (fun q hq => ⟨(N4 q hq).1, (N4 q hq).2.2⟩) (hp.mono fun q hq => .tail _ (.tail _ hq)) (.head _) (.tail _ (.head _))
end
section
open PySem PySem.W PySem.Calls PyProof.Rows LCg
noncomputable def PEnd (h₀ : Heap) (L I : Addr) (oI : Obj) (news : List (Addr × Obj)) (J : (Str → Option Value) → Prop) (s₁ : Shared) (Q : Flow → Shared → Prop) (f : Flow) (s₂ : Shared) : Prop :=
  match f with
  | .ret v => Q (.ret v) s₂
  | .brk => Q .next s₂
  | _ => ∃ h' tk' m', s₂ = { s₁ with heap := h', toks := tk' } ∧ Fr h₀ L h' m' ∧ News h₀ L h' ((I, oI) :: news) ∧ J m'
section
variable {prog : Program} {w : World} {A : Around} {E : Value → Shared → Prop} {s : Shared} {h₀ : Heap} {env : Env}
theorem pairs_loop {x x₂ : Str} {px px₂ pt : Pos} {x1} {body : List Stmt} {l : Addr} {its : Array Value} {m₀ : Str → Option Value} {news : List (Addr × Obj)} {Q : Flow → Shared → Prop} (J : Nat → (Str → Option Value) → Prop)
    (hh : A.handled = none) (hx : env.kindOf x = some .local) (hx₂ : env.kindOf x₂ = some .local) (hp : (env.scope.kind == .class || (env.scope.kind == .module && env.locals != env.globals)) = false)
    (F : Fr h₀ env.locals s.heap m₀) (N : News h₀ env.locals s.heap news) (hl : SrcAt h₀ l its news) (hj : J 0 m₀)
    (turn : ∀ i v m₁, its[i]? = some v → J i m₁ → ∃ t v₁ v₂ ot k, v = .ref t ∧ ((t, ot) ∈ news ∨ h₀.get? t = some ot) ∧ ot.cls = .type "tuple" ∧ ot.data = .seq #[v₁, v₂] k ∧
      ∀ h tk I oI (E' : Value → Shared → Prop), Fr h₀ env.locals h (fun y => if y = x₂ then some v₂ else if y = x then some v₁ else m₁ y) → News h₀ env.locals h ((I, oI) :: news) →
        wpAny (model prog w) A (execs body env) (PEnd h₀ env.locals I oI news (J (i + 1)) { s with heap := h, toks := tk } Q) E' { s with heap := h, toks := tk })
    (done : ∀ m₁ h tk, J its.size m₁ → Fr h₀ env.locals h m₁ → News h₀ env.locals h news → Q .next { s with heap := h, toks := tk }) :
    wpAny (model prog w) A (pyIter (.ref l)) (fun it s₂ => codeAny (model prog w) A (.forLoop (.Tuple [.Name x px, .Name x₂ px₂] x1 pt) it body [] env) (fun r s' => match r with | .ok f => Q f s' | .error e => cameBackBy (model prog w) A env E e s') s₂) E s := by
  have hls := hl.list F.keep N
  have hlt : l < s.heap.objs.size := by obtain ⟨_, e, _⟩ := hls; exact Heap.lt_size e
  refine wpAny_pyIter_list hls ?_
  have up : ∀ b o, s.heap.get? b = some o → (s.heap.push { cls := .type "list_iterator", data := .fields #[.ref l, .int 0 0] }).get? b = some o := fun b o e => Heap.get?_push_of_some _ e
  have W := Walks.list (prog := prog) (w := w) hh s.heap.objs.size l (Nat.ne_of_lt hlt) its
  have hI₀ : h₀.get? s.heap.objs.size = none := next_is_new F
  have hIL : env.locals ≠ s.heap.objs.size := Nat.ne_of_lt F.ns.lt
  have off : ∀ p ∈ news, p.1 ≠ s.heap.objs.size := fun p hp => Nat.ne_of_lt (Heap.lt_size (N p hp).1)
  refine codeAny_forLoop_any (fun k s' => ∃ h' tk i m', s' = { s with heap := h', toks := tk } ∧ i ≤ its.size ∧ k = its.size + 1 - i ∧ h'.IsListIter s.heap.objs.size l i ∧ Fr h₀ env.locals h' m' ∧ News h₀ env.locals h' news ∧ J i m') ?_ (its.size + 1)
    ⟨_, s.toks, 0, m₀, rfl, Nat.zero_le _, rfl, ⟨_, Heap.get?_push_size _ rfl, rfl, rfl⟩, F.keeps up, N.grown up, hj⟩
  rintro k s' ⟨h', tk, i, m', rfl, hi, rfl, hit, F', N', hJ⟩
  have hst : h'.IsListIter s.heap.objs.size l i ∧ h'.IsList l its := ⟨hit, hl.list F'.keep N'⟩
  by_cases hlt' : i < its.size
  · refine W.item i _ _ _ hlt' hst fun v h₂ tk₂ hv hst₂ hk₂ => ?_
    obtain ⟨t, v₁, v₂, ot, kt, rfl, hm, hc, hd, go⟩ := turn i v m' hv hJ
    have F₂ := fr_but F' hk₂ hIL hI₀
    have N₂ := news_but N' hk₂ off
    have hot : h₂.get? t = some ot := hm.elim (fun hm => (N₂ _ hm).1) fun e => F₂.keep _ _ e
    refine wpAny_letOwnedTupleGo_listiter hst₂.1 ?_
    refine assign_Tuple_tuple hh ⟨ot, hot, hc, kt, hd⟩ rfl rfl fun h₅ he => ?_
    have he' : ∀ b o, h₂.get? b = some o → h₅.get? b = some o := fun b o e => he b o (Nat.ne_of_lt (Heap.lt_size e)) e
    have F₅ := F₂.keeps he'
    refine assignInOrder_cons (wpAny_assign_Name (wpAny_storeName_local hx F₅.ns (fun h₆ hn₆ hs₆ => ?_) hp))
    have F₆ := F₅.set hn₆ hs₆
    refine assignInOrder_cons (wpAny_assign_Name (wpAny_storeName_local hx₂ F₆.ns (fun h₃ hn₃ hs₃ => ?_) hp))
    have F₃ := F₆.set hn₃ hs₃
    refine assignInOrder_nil ?_
    have old : ∀ b o, b ≠ env.locals → h₂.get? b = some o → h₃.get? b = some o := fun b o hb e => hs₃.extBut b o hb (hs₆.extBut b o hb (he' b o e))
    obtain ⟨oI, heI, hcI, hdI⟩ := hst₂.1
    have N₃ : News h₀ env.locals h₃ ((s.heap.objs.size, oI) :: news) := fun p hp => by
      rcases List.mem_cons.mp hp with rfl | hp
      · exact ⟨old _ _ (Ne.symm hIL) heI, Ne.symm hIL, hI₀⟩
      · exact ⟨old _ _ (N₂ p hp).2.1 (N₂ p hp).1, (N₂ p hp).2⟩
    refine wpAny_mono (go h₃ _ _ oI _ F₃ N₃) (fun f s₃ z => ?_) fun _ _ e => e
    have fin : (∃ h' tk' m', s₃ = { s with heap := h', toks := tk' } ∧ Fr h₀ env.locals h' m' ∧ News h₀ env.locals h' ((s.heap.objs.size, oI) :: news) ∧ J (i + 1) m') →
        ∃ q, q < its.size + 1 - i ∧ ∃ h' tk i m', s₃ = { s with heap := h', toks := tk } ∧ i ≤ its.size ∧ q = its.size + 1 - i ∧ h'.IsListIter s.heap.objs.size l i ∧ Fr h₀ env.locals h' m' ∧ News h₀ env.locals h' news ∧ J i m' := by
      rintro ⟨h', tk', m', rfl, F', N', j⟩
      exact ⟨its.size + 1 - (i + 1), by (first | lia | omega), h', tk', i + 1, m', rfl, hlt', rfl, ⟨oI, (N' _ (.head _)).1, hcI, hdI⟩, F', fun p hp => N' p (.tail _ hp), j⟩
    cases f with
    | ret v => exact z
    | brk => exact z
    | next => exact fin z
    | cont => exact fin z
  · obtain rfl : i = its.size := Nat.le_antisymm hi (Nat.not_lt.mp hlt')
    refine W.done _ _ _ hst fun h₂ tk₂ hk₂ => wpAny_execs_nil ?_
    exact done m' h₂ tk₂ hJ (fr_but F' hk₂ hIL hI₀) (news_but N' hk₂ off)
end
end
section
theorem last_item {w : World} {A : Around} {E : Value → Shared → Prop} {s : Shared} {qa : Addr} {as : List Value} {c : Str} {tc : Tok} {n : Nat} {u : Tok} {value slice : Expr} {Q : Value → Shared → Prop} (hl : s.heap.get? qa = some (listOf (as ++ [Value.str c tc]).toArray n)) (h : Q (.str c tc) s)
    (hs : subscripted slice false (.ref qa) (.int (-1) u) = operate [.ref qa, .int (-1) u] (getItem (.ref qa) (.int (-1) u)) := by with_unfolding_all rfl) :
    wpAny (model PR w) A (subscriptTail value slice (.ref qa) (.int (-1) u)) Q E s := by
  have I : s.heap.IsList qa (as ++ [Value.str c tc]).toArray := ⟨_, hl, rfl, _, rfl⟩
  refine subscriptTail_builtinR (x := .str c tc) (T := "list") I.typeIs PySem.F.slot_list_getitem.lookup (wpAny_getItem_list_neg (x := .str c tc) I (by decide) ?_ (by decide) ?_ ⟨rfl, h⟩) hs
  · rw [List.size_toArray, List.length_append]
    have : ([Value.str c tc] : List Value).length = 1 := rfl
    (first | lia | omega)
  · have e : ((-1 : Int) + ((as ++ [Value.str c tc]).toArray.size : Nat)).toNat = as.length := by
      rw [List.size_toArray, List.length_append]
      have : ([Value.str c tc] : List Value).length = 1 := rfl
      (first | lia | omega)
    rw [e]
    simp
theorem parse_M {w : World} {A : Around} {E : Value → Shared → Prop} {s : Shared} {h₀ : Heap} {L q : Addr} {m : Str → Option Value} {news : List (Addr × Obj)} {mg mb : Str → Option Value} {p : Program} {loose : List Str} {P R : List Nat} {tc : Tok} {Q : Value → Shared → Prop} (F : Fr h₀ L s.heap m) (N : News h₀ L s.heap news) (hq : (q, methodObj (.ref 197) (.ref 203)) ∈ news)
    (X : (KK w.params).In h₀) (T : TopRead p loose mg mb h₀) (hroom : A.depth + 40 < recursionLimit) (hh : A.handled = none) (hc : 61 ∉ P) (hl : (P ++ 61 :: R).length ≤ 1000)
    (h : ∀ h' x tk ta tb dx k sl es j, Fr h₀ L h' m → News h₀ L h' ((x, pairObj dx (.str (Txt.strip (ofL P)) ta) (.str (Txt.strip (ofL R)) tb) k sl) :: (dx, dictOf es j) :: news) → (∀ p ∈ news, p.1 ≠ x ∧ p.1 ≠ dx) → Q (.ref x) { s with heap := h', toks := tk }) :
    wpAny (model PR w) A (call (.ref q) [.str (ofL (P ++ 61 :: R)) tc]) Q E s := by
  have hl' := hl
  rw [List.length_append, List.length_cons] at hl'
  have hz : sizeLine = 16777216 := by decide
  refine call_meth N hq (spec_parse_c (X.keeps F.keep) (T.keeps F.keep) hroom hh P R tc hc hl (by rw [length_ofL, hz]; (first | lia | omega)) (by rw [length_ofL, hz]; (first | lia | omega)) fun h' x tk ta tb e n hp => ?_)
  obtain ⟨dx, k, sl, es, j, N', o⟩ := news_pair F N e n hp
  exact h h' x tk ta tb dx k sl es j (F.keptAll e) N' o
noncomputable def mT (sg fo : Option Value) (W : Int) (tw : Tok) (x : Addr) (c : Str) (t : Tok) (wd : Addr) (r : Str → Option Value) (y : Str) : Option Value :=
  if y = "sign" then sg else if y = "fold" then fo else if y = "ways" then some (.int W tw) else if y = "pair" then some (.ref x) else if y = "key" then some (.str c t) else if y = "world" then some (.ref wd) else r y
theorem mT_of {m₀ : Str → Option Value} {W : Int} {tw : Tok} {x : Addr} {c : Str} {t : Tok} {wd : Addr} (h1 : m₀ "ways" = some (.int W tw)) (h2 : m₀ "pair" = some (.ref x)) (h3 : m₀ "key" = some (.str c t)) (h4 : m₀ "world" = some (.ref wd)) :
    m₀ = mT (m₀ "sign") (m₀ "fold") W tw x c t wd m₀ := by
  funext y
  unfold mT
  by_cases e1 : y = "sign"
  · rw [if_pos e1, e1]
  by_cases e2 : y = "fold"
  · rw [if_neg e1, if_pos e2, e2]
  by_cases e3 : y = "ways"
  · rw [if_neg e1, if_neg e2, if_pos e3, e3, h1]
  by_cases e4 : y = "pair"
  · rw [if_neg e1, if_neg e2, if_neg e3, if_pos e4, e4, h2]
  by_cases e5 : y = "key"
  · rw [if_neg e1, if_neg e2, if_neg e3, if_neg e4, if_pos e5, e5, h3]
  by_cases e6 : y = "world"
  · rw [if_neg e1, if_neg e2, if_neg e3, if_neg e4, if_neg e5, if_pos e6, e6, h4]
  rw [if_neg e1, if_neg e2, if_neg e3, if_neg e4, if_neg e5, if_neg e6]
theorem fr_mT {B h : Heap} {L : Addr} {m₀ : Str → Option Value} {W : Int} {tw : Tok} {x : Addr} {c : Str} {t : Tok} {wd : Addr} (F : Fr B L h m₀) (h1 : m₀ "ways" = some (.int W tw)) (h2 : m₀ "pair" = some (.ref x)) (h3 : m₀ "key" = some (.str c t)) (h4 : m₀ "world" = some (.ref wd)) :
    ∃ sg fo r, Fr B L h (mT sg fo W tw x c t wd r) := ⟨_, _, m₀, mT_of h1 h2 h3 h4 ▸ F⟩
theorem mT_sign {sg fo : Option Value} {W : Int} {tw : Tok} {x : Addr} {c : Str} {t : Tok} {wd : Addr} {r : Str → Option Value} {v : Value} :
    (fun y : Str => if y = "sign" then some v else mT sg fo W tw x c t wd r y) = mT (some v) fo W tw x c t wd r := by
  funext y
  unfold mT
  by_cases e1 : y = "sign"
  · rw [if_pos e1, if_pos e1]
  · rw [if_neg e1, if_neg e1, if_neg e1]
theorem mT_fold {sg fo : Option Value} {W : Int} {tw : Tok} {x : Addr} {c : Str} {t : Tok} {wd : Addr} {r : Str → Option Value} {v : Value} :
    (fun y : Str => if y = "fold" then some v else mT sg fo W tw x c t wd r y) = mT sg (some v) W tw x c t wd r := by
  funext y
  unfold mT
  by_cases e1 : y = "sign"
  · rw [if_pos e1, if_pos e1, e1]; rfl
  by_cases e2 : y = "fold"
  · rw [if_pos e2, if_neg e1, if_pos e2]
  · rw [if_neg e2, if_neg e1, if_neg e2, if_neg e1, if_neg e2]
theorem mT_ways {sg fo : Option Value} {W W' : Int} {tw tw' : Tok} {x : Addr} {c : Str} {t : Tok} {wd : Addr} {r : Str → Option Value} :
    (fun y : Str => if y = "ways" then some (Value.int W' tw') else mT sg fo W tw x c t wd r y) = mT sg fo W' tw' x c t wd r := by
  funext y
  unfold mT
  by_cases e1 : y = "sign"
  · rw [if_pos e1, if_pos e1, e1]; rfl
  by_cases e2 : y = "fold"
  · rw [if_neg e1, if_pos e2, if_neg e1, if_pos e2, e2]; rfl
  by_cases e3 : y = "ways"
  · rw [if_pos e3, if_neg e1, if_neg e2, if_pos e3]
  · rw [if_neg e3, if_neg e1, if_neg e2, if_neg e3, if_neg e1, if_neg e2, if_neg e3]
noncomputable def sideCls : Value → Bool | .type t => t == "tuple" || t == "dict" || t == "method" | .ref a => a == 203 | _ => false
noncomputable def Side (o : Obj) : Prop := sideCls o.cls = true
theorem Side.iter {o : Obj} (s : Side o) : ¬ IterObj o := by
  unfold Side at s
  rintro (h | h | h) <;> rw [h] at s <;> exact absurd s (by decide)
theorem side_ne {B h : Heap} {L : Addr} {qa qm bk bd lf as ms es na nm nb} {ds : List (Addr × Obj)} (N : News B L h ((qa, listOf as na) :: (qm, listOf ms nm) :: (bk, bookObj bd lf es nb) :: ds)) (hs : ∀ p ∈ ds, Side p.2) : ∀ p ∈ ds, p.1 ≠ qa ∧ p.1 ≠ qm ∧ p.1 ≠ bk := by
  intro p hp
  have zp := (N p (.tail _ (.tail _ (.tail _ hp)))).1
  have za := (N _ (.head _)).1
  have zm := (N _ (.tail _ (.head _))).1
  have zb := (N _ (.tail _ (.tail _ (.head _)))).1
  dsimp only at za zm zb
  have sp : sideCls p.2.cls = true := hs p hp
  refine ⟨fun q => ?_, fun q => ?_, fun q => ?_⟩
  · rw [q, za] at zp
    have := (Option.some.inj zp); rw [← this] at sp; exact absurd (show sideCls (.type "list") = true from sp) (by decide)
  · rw [q, zm] at zp
    have := (Option.some.inj zp); rw [← this] at sp; exact absurd (show sideCls (.type "list") = true from sp) (by decide)
  · rw [q, zb] at zp
    have := (Option.some.inj zp); rw [← this] at sp; exact absurd (show sideCls (.ref 108) = true from sp) (by decide)
noncomputable def upTo (f : List Nat → Nat) (name al : List Nat) (i : Nat) : Nat := ((al.take i).map fun c => match rest? name c with | some r => f r | none => 0).sum
theorem upTo_none {f : List Nat → Nat} {name al : List Nat} {i c : Nat} (hc : al[i]? = some c) (hr : rest? name c = none) : upTo f name al (i + 1) = upTo f name al i := by
  unfold upTo
  rw [List.take_add_one, hc]
  simp [hr]
theorem upTo_some {f : List Nat → Nat} {name al r : List Nat} {i c : Nat} (hc : al[i]? = some c) (hr : rest? name c = some r) : upTo f name al (i + 1) = upTo f name al i + f r := by
  unfold upTo
  rw [List.take_add_one, hc]
  simp [hr]
theorem upTo_all (f : List Nat → Nat) (name al : List Nat) : upTo f name al al.length = (al.map fun c => match rest? name c with | some r => f r | none => 0).sum := by
  unfold upTo; rw [List.take_length]
theorem MadeAre.led2 {B h : Heap} {L : Addr} {m : Str → Option Value} {vs D} (F : Fr B L h m) (M : MadeAre h vs D) :
    ∃ ds : List (Addr × Obj), (∀ p ∈ ds, (h.get? p.1 = some p.2 ∧ p.1 ≠ L ∧ B.get? p.1 = none) ∧ Side p.2) ∧ ∀ h', Ext B h' → (∀ p ∈ ds, h'.get? p.1 = some p.2) → MadeAre h' vs D := by
  induction M with
  | nil => exact ⟨[], (fun _ q => nomatch q), fun _ _ _ => .nil⟩
  | @cons v d vs D x y ih =>
    obtain ⟨ds, i1, i2⟩ := ih
    obtain ⟨a, t, t', rfl, e⟩ := x
    cases eb : B.get? a with
    | some o =>
      have : o = pairOf d.1 t d.2 t' := Option.some.inj ((F.keep _ _ eb).symm.trans e)
      subst this
      exact ⟨ds, i1, fun h' k z => .cons ⟨a, t, t', rfl, k _ _ eb⟩ (i2 h' k z)⟩
    | none =>
      refine ⟨(a, pairOf d.1 t d.2 t') :: ds, fun p hp => ?_, fun h' k z => .cons ⟨a, t, t', rfl, z _ (.head _)⟩ (i2 h' k fun p hp => z p (.tail _ hp))⟩
      rcases List.mem_cons.mp hp with rfl | hp
      · refine ⟨⟨e, ?_, eb⟩, rfl⟩
        intro q
        dsimp only at q
        obtain ⟨o, es, ep, e1, e2, _⟩ := F.ns
        rw [← q, e] at e1
        cases e1
        cases e2
      · exact i1 p hp
theorem not_iter {o : Obj} {c : Value} (hc : o.cls = c) (h1 : c ≠ .type "str_iterator") (h2 : c ≠ .type "str_ascii_iterator") (h3 : c ≠ .type "list_iterator") : ¬ IterObj o := by
  rintro (h | h | h)
  · exact h1 (hc.symm.trans h)
  · exact h2 (hc.symm.trans h)
  · exact h3 (hc.symm.trans h)
theorem iter_ne {B h : Heap} {L : Addr} {qa qm bk bd lf as ms es na nm nb} {I : Addr} {oI : Obj} {ds : List (Addr × Obj)} (N : News B L h ((qa, listOf as na) :: (qm, listOf ms nm) :: (bk, bookObj bd lf es nb) :: ds)) (hI : IterObj oI) (h1 : h.get? I = some oI) : I ≠ qa ∧ I ≠ qm ∧ I ≠ bk := by
  have za := (N _ (.head _)).1
  have zm := (N _ (.tail _ (.head _))).1
  have zb := (N _ (.tail _ (.tail _ (.head _)))).1
  dsimp only at za zm zb
  refine ⟨fun q => ?_, fun q => ?_, fun q => ?_⟩
  · rw [q, za] at h1
    have := Option.some.inj h1
    rw [← this] at hI
    exact absurd hI (not_iter (c := .type "list") rfl (by decide) (by decide) (by decide))
  · rw [q, zm] at h1
    have := Option.some.inj h1
    rw [← this] at hI
    exact absurd hI (not_iter (c := .type "list") rfl (by decide) (by decide) (by decide))
  · rw [q, zb] at h1
    have := Option.some.inj h1
    rw [← this] at hI
    exact absurd hI (not_iter (c := .ref 108) rfl (by decide) (by decide) (by decide))
theorem ask_K {w : World} {A : Around} {E : Value → Shared → Prop} {s : Shared} {B : Heap} {L : Addr} {m : Str → Option Value} {mg mb : Str → Option Value} {p : Program} {loose : List Str} {x dx I wd qa qm bk bd lf : Addr} {op od oI : Obj} {as ms : List Value} {es : List DictEntry} {na nm nb : Nat} {ds : List (Addr × Obj)} {fz : Bool} {Bk : List (Str × Nat)} {r al : List Nat} {t : Tok} {Q : Value → Shared → Prop}
    (ha : AskSpec w r al) (F : Fr B L s.heap m) (N : News B L s.heap ((x, op) :: (dx, od) :: (I, oI) :: (qa, listOf as.toArray na) :: (qm, listOf ms.toArray nm) :: (bk, bookObj bd lf es nb) :: ds)) (sx : Side op) (sd : Side od) (hI : IterObj oI) (hsd : ∀ p ∈ ds, Side p.2)
    (X : (KK w.params).In B) (T : TopRead p loose mg mb B) (hroom : A.depth + 60 * r.length + 60 < recursionLimit) (hh : A.handled = none) (Ap : Apart B qa qm bk) (W : WorldAt w B wd qa qm bk bd lf fz)
    (l1 : qa ≠ L) (l2 : qm ≠ L) (l3 : bk ≠ L) (He : EntsAre w es Bk) (Hg : GoodBk Bk) (b1 : ms.length + fbound r.length ≤ 100000) (b2 : es.length + fbound r.length ≤ 100000) (b3 : as.length + r.length ≤ 1000)
    (h : ∀ h' tk t' es' nms D na nm nb ds', Fr B L h' m → News B L h' ((x, op) :: (dx, od) :: (I, oI) :: (qa, listOf as.toArray na) :: (qm, listOf (ms ++ nms).toArray nm) :: (bk, bookObj bd lf es' nb) :: (ds ++ ds')) → (∀ p ∈ ds ++ ds', Side p.2) →
      (∀ h', Ext B h' → (∀ p ∈ ds ++ ds', h'.get? p.1 = some p.2) → MadeAre h' nms D) → EntsAre w es' (bkAfter fz Bk D) → Good (r.length + 1) al D → (fz = true → D.length = runs (Bk.map (·.1)) al r) → D.length ≤ fbound r.length → nms.length = D.length →
      Q (.int (ways al r : Nat) t') { s with heap := h', toks := tk }) :
    wpAny (model PR w) A (call (.ref 294) [.ref wd, .str (enc r al) t]) Q E s := by
  have Nc : News B L s.heap ((qa, listOf as.toArray na) :: (qm, listOf ms.toArray nm) :: (bk, bookObj bd lf es nb) :: ds) := fun q hq => N q (.tail _ (.tail _ (.tail _ hq)))
  have C : Cells B s.heap qa qm bk bd lf as ms es := Cells.of_fr F Nc
  have k := Ap.keeps C.keep
  have Nx : News B L s.heap ((qa, listOf as.toArray na) :: (qm, listOf ms.toArray nm) :: (bk, bookObj bd lf es nb) :: ((x, op) :: (dx, od) :: ds)) := fun q hq => by
    rcases List.mem_cons.mp hq with rfl | hq
    · exact Nc _ (.head _)
    rcases List.mem_cons.mp hq with rfl | hq
    · exact Nc _ (.tail _ (.head _))
    rcases List.mem_cons.mp hq with rfl | hq
    · exact Nc _ (.tail _ (.tail _ (.head _)))
    rcases List.mem_cons.mp hq with rfl | hq
    · exact N _ (.head _)
    rcases List.mem_cons.mp hq with rfl | hq
    · exact N _ (.tail _ (.head _))
    · exact N q (.tail _ (.tail _ (.tail _ (.tail _ (.tail _ (.tail _ hq))))))
  have off := side_ne Nx (fun q hq => by
    rcases List.mem_cons.mp hq with rfl | hq
    · exact sx
    rcases List.mem_cons.mp hq with rfl | hq
    · exact sd
    · exact hsd q hq)
  have offI := iter_ne Nc hI (N.get (.tail _ (.tail _ (.head _))))
  refine ha (X.keeps k) (T.keeps k) hroom hh Ap.over C.over (W.keeps k) He Hg b1 b2 b3 fun h' tk t' es' nms D x1 x2 x3 x4 x5 x6 => ?_
  have F' := Fr.back F Ap l1 l2 l3 x1.keep
  have C' := C.back Ap x1
  obtain ⟨ds', i1, i2⟩ := x2.led2 F'
  obtain ⟨na', nm', nb', Nn⟩ := news_cells C' Ap l1 l2 l3
  have kept : ∀ q ∈ (x, op) :: (dx, od) :: (I, oI) :: ds, h'.get? q.1 = some q.2 := by
    intro q hq
    rcases List.mem_cons.mp hq with rfl | hq
    · have o := off _ (.head _)
      exact x1.keep _ _ (over_get (N _ (.head _)).1 o.1 o.2.1 o.2.2)
    rcases List.mem_cons.mp hq with rfl | hq
    · have o := off _ (.tail _ (.head _))
      exact x1.keep _ _ (over_get (N _ (.tail _ (.head _))).1 o.1 o.2.1 o.2.2)
    rcases List.mem_cons.mp hq with rfl | hq
    · exact x1.keep _ _ (over_get (N _ (.tail _ (.tail _ (.head _)))).1 offI.1 offI.2.1 offI.2.2)
    · have o := off _ (.tail _ (.tail _ hq))
      exact x1.keep _ _ (over_get (Nc _ (.tail _ (.tail _ (.tail _ hq)))).1 o.1 o.2.1 o.2.2)
  refine h h' tk t' es' nms D na' nm' nb' ds' F' ?_ ?_ (fun h'' e z => i2 h'' e fun q hq => z q (List.mem_append_right _ hq)) x3 x4 x5 x6 ?_
  · intro q hq
    rcases List.mem_cons.mp hq with rfl | hq
    · exact ⟨kept _ (.head _), (N _ (.head _)).2⟩
    rcases List.mem_cons.mp hq with rfl | hq
    · exact ⟨kept _ (.tail _ (.head _)), (N _ (.tail _ (.head _))).2⟩
    rcases List.mem_cons.mp hq with rfl | hq
    · exact ⟨kept _ (.tail _ (.tail _ (.head _))), (N _ (.tail _ (.tail _ (.head _)))).2⟩
    rcases List.mem_append.mp (show q ∈ [(qa, listOf as.toArray na'), (qm, listOf (ms ++ nms).toArray nm'), (bk, bookObj bd lf es' nb')] ++ (ds ++ ds') from hq) with hq | hq
    · exact Nn q hq
    rcases List.mem_append.mp hq with hq | hq
    · exact ⟨kept _ (.tail _ (.tail _ (.tail _ hq))), (Nc _ (.tail _ (.tail _ (.tail _ hq)))).2⟩
    · exact (i1 q hq).1
  · intro q hq
    rcases List.mem_append.mp hq with hq | hq
    · exact hsd q hq
    · exact (i1 q hq).2
  · exact x2.length.trans rfl
noncomputable def fpre : Nat → Nat | 0 => 0 | n + 1 => fbound n
theorem fbound_eq : ∀ n, fbound n = 1 + 6 * fpre n | 0 => rfl | _ + 1 => rfl
theorem fbound_pre {r n : Nat} (h : r < n) : fbound r ≤ fpre n := by
  cases n with
  | zero => exact absurd h (Nat.not_lt_zero _)
  | succ n => exact fbound_mono (Nat.le_of_lt_succ h)
theorem upTo_nil (f : List Nat → Nat) (al : List Nat) (i : Nat) : upTo f [] al i = 0 := by
  unfold upTo
  generalize al.take i = l
  induction l with
  | nil => rfl
  | cons c l ih => rw [List.map_cons, List.sum_cons, ih, rest_nil]
theorem News.ne_cls {B h : Heap} {L a b : Addr} {o o' : Obj} {news : List (Addr × Obj)} (N : News B L h news) (h1 : (a, o) ∈ news) (h2 : (b, o') ∈ news) (hc : o.cls ≠ o'.cls) : a ≠ b := by
  rintro rfl
  have e := (N.get h1).symm.trans (N.get h2)
  cases e
  exact hc rfl
structure MInv (w : World) (B : Heap) (wd qa qm bk bd lf x dx : Addr) (op od : Obj) (fz : Bool) (ka : Value) (c : Str) (t : Tok) (as ms : List Value) (Bk : List (Str × Nat)) (name al : List Nat) (W0 : Nat) (r : Str → Option Value) (i : Nat) (m₁ : Str → Option Value) (news₁ : List (Addr × Obj)) : Prop where
  ex : ∃ sg fo tw nms D es' na nm nb ds, m₁ = mT sg fo ((W0 + upTo (ways al) name al i : Nat) : Int) tw x c t wd r ∧
    news₁ = (qa, listOf (as ++ [ka]).toArray na) :: (qm, listOf (ms ++ nms).toArray nm) :: (bk, bookObj bd lf es' nb) :: ds ∧
    (x, op) ∈ ds ∧ (dx, od) ∈ ds ∧ (∀ p ∈ ds, Side p.2) ∧ (∀ h', Ext B h' → (∀ p ∈ ds, h'.get? p.1 = some p.2) → MadeAre h' nms D) ∧
    EntsAre w es' (bkAfter fz Bk D) ∧ Good name.length al D ∧ (fz = true → D.length = upTo (runs (Bk.map (·.1)) al) name al i) ∧ D.length ≤ i * fpre name.length ∧ nms.length = D.length ∧ es'.length ≤ Bk.length + D.length
theorem bkAfter_len (fz : Bool) (Bk D : List (Str × Nat)) : (bkAfter fz Bk D).length ≤ Bk.length + D.length := by
  unfold bkAfter
  cases fz
  · simp
  · simp
theorem bkAfter_app (fz : Bool) (Bk D D' : List (Str × Nat)) : bkAfter fz (bkAfter fz Bk D) D' = bkAfter fz Bk (D ++ D') := by
  unfold bkAfter
  cases fz
  · simp
  · simp
theorem bkAfter_good {fz : Bool} {Bk D : List (Str × Nat)} {n : Nat} {al : List Nat} (h : GoodBk Bk) (h' : Good n al D) : GoodBk (bkAfter fz Bk D) := by
  unfold bkAfter
  cases fz
  · exact h.app h'.bk
  · exact h
theorem turn_end {w : World} {B h : Heap} {L : Addr} {x dx I wd qa qm bk bd lf : Addr} {op od oI : Obj} {fz : Bool} {ka : Value} {c : Str} {t : Tok} {as ms nms : List Value} {Bk D : List (Str × Nat)} {es' : List DictEntry} {name al : List Nat} {W0 : Nat} {r : Str → Option Value} {i na nm nb : Nat} {ds : List (Addr × Obj)} {sg fo : Option Value} {tw : Tok} {s₁ : Shared} {tk : Nat} {Q : Flow → Shared → Prop}
    (F : Fr B L h (mT sg fo ((W0 + upTo (ways al) name al (i + 1) : Nat) : Int) tw x c t wd r))
    (N : News B L h ((x, op) :: (dx, od) :: (I, oI) :: (qa, listOf (as ++ [ka]).toArray na) :: (qm, listOf (ms ++ nms).toArray nm) :: (bk, bookObj bd lf es' nb) :: ds)) (hI : IterObj oI)
    (hxm : (x, op) ∈ ds) (hdm : (dx, od) ∈ ds) (hsd : ∀ p ∈ ds, Side p.2) (hmade : ∀ h', Ext B h' → (∀ p ∈ ds, h'.get? p.1 = some p.2) → MadeAre h' nms D)
    (He : EntsAre w es' (bkAfter fz Bk D)) (Hg : Good name.length al D) (hrun : fz = true → D.length = upTo (runs (Bk.map (·.1)) al) name al (i + 1)) (hDl : D.length ≤ (i + 1) * fpre name.length) (hnl : nms.length = D.length) :
    TurnEnd B L [(I, oI)] (MInv w B wd qa qm bk bd lf x dx op od fz ka c t as ms Bk name al W0 r (i + 1)) s₁ Q .next ⟨h, s₁.gens, s₁.drawn, tk, s₁.os⟩ := by
  have Nc : News B L h ((qa, listOf (as ++ [ka]).toArray na) :: (qm, listOf (ms ++ nms).toArray nm) :: (bk, bookObj bd lf es' nb) :: ds) := fun q hq => N q (.tail _ (.tail _ (.tail _ hq)))
  have zI := (N _ (.tail _ (.tail _ (.head _)))).1
  have offI := iter_ne Nc hI zI
  refine ⟨h, tk, _, _, rfl, F, fun q hq => N q (.tail _ (.tail _ hq)), ?_, ⟨sg, fo, tw, nms, D, es', na, nm, nb, ds, rfl, rfl, hxm, hdm, hsd, hmade, He, Hg, hrun, hDl, hnl, ?_⟩⟩
  · intro q hq z hz _
    rw [List.mem_singleton.mp hz]
    rcases List.mem_cons.mp hq with rfl | hq
    · exact Ne.symm offI.1
    rcases List.mem_cons.mp hq with rfl | hq
    · exact Ne.symm offI.2.1
    rcases List.mem_cons.mp hq with rfl | hq
    · exact Ne.symm offI.2.2
    · intro e
      have zq := (Nc q (.tail _ (.tail _ (.tail _ hq)))).1
      dsimp only at zI e
      rw [e, zI] at zq
      exact (hsd q hq).iter (Option.some.inj zq ▸ hI)
  · rw [He.length]; exact bkAfter_len _ _ _
end
section
open PySem PySem.W PySem.Calls PyProof.Rows LCg
noncomputable def PairsIn (h : Heap) (ys : List Value) (cs : List Nat) : Prop := All2 (fun v c => ∃ a t t', v = .ref a ∧ h.get? a = some (tup2 (.str (ofL [c]) t) (.str (ofL (foldC c)) t'))) ys cs
theorem PairsIn.keeps {h h' : Heap} {ys : List Value} {cs : List Nat} (p : PairsIn h ys cs) (k : Ext h h') : PairsIn h' ys cs := by
  induction p with
  | nil => exact .nil
  | cons a b ih =>
    obtain ⟨ad, t, t', e, m⟩ := a
    exact .cons ⟨ad, t, t', e, k _ _ m⟩ ih
noncomputable abbrev noZ (al : List Nat) : List Nat := al.filter (· ≠ 8203)
theorem noZ_mem {al : List Nat} {c : Nat} (ha : ∀ c ∈ al, c ∈ six) (h : c ∈ noZ al) : c ∈ six ∧ c ≠ 8203 := by
  have := List.mem_filter.mp h
  exact ⟨ha _ this.1, by simpa using this.2⟩
theorem upTo_noZ (f : List Nat → Nat) (name al : List Nat) : upTo f name (noZ al) (noZ al).length = upTo f name al al.length := by
  rw [upTo_all, upTo_all]
  induction al with
  | nil => rfl
  | cons c al ih =>
    by_cases hc : c = 8203
    · have : noZ (c :: al) = noZ al := by simp [noZ, hc]
      rw [this, List.map_cons, List.sum_cons, hc, rest_8203, ih, Nat.zero_add]
    · have : noZ (c :: al) = c :: noZ al := by simp [noZ, hc]
      rw [this, List.map_cons, List.map_cons, List.sum_cons, List.sum_cons, ih]
noncomputable def mR (sg fo : Option Value) (W : Int) (tw : Tok) (nm al : Value) (pl kl : Addr) (r : Str → Option Value) (y : Str) : Option Value :=
  if y = "fold" then fo else if y = "sign" then sg else if y = "runs" then some (.int W tw) else if y = "name" then some nm else if y = "allowed" then some al else if y = "pairs" then some (.ref pl) else if y = "kept" then some (.ref kl) else r y
theorem mR_of {m₀ : Str → Option Value} {W : Int} {tw : Tok} {nm al : Value} {pl kl : Addr} (h1 : m₀ "runs" = some (.int W tw)) (h2 : m₀ "name" = some nm) (h3 : m₀ "allowed" = some al) (h4 : m₀ "pairs" = some (.ref pl)) (h5 : m₀ "kept" = some (.ref kl)) :
    m₀ = mR (m₀ "sign") (m₀ "fold") W tw nm al pl kl m₀ := by
  funext y
  unfold mR
  by_cases e1 : y = "fold"
  · rw [if_pos e1, e1]
  by_cases e2 : y = "sign"
  · rw [if_neg e1, if_pos e2, e2]
  by_cases e3 : y = "runs"
  · rw [if_neg e1, if_neg e2, if_pos e3, e3, h1]
  by_cases e4 : y = "name"
  · rw [if_neg e1, if_neg e2, if_neg e3, if_pos e4, e4, h2]
  by_cases e5 : y = "allowed"
  · rw [if_neg e1, if_neg e2, if_neg e3, if_neg e4, if_pos e5, e5, h3]
  by_cases e6 : y = "pairs"
  · rw [if_neg e1, if_neg e2, if_neg e3, if_neg e4, if_neg e5, if_pos e6, e6, h4]
  by_cases e7 : y = "kept"
  · rw [if_neg e1, if_neg e2, if_neg e3, if_neg e4, if_neg e5, if_neg e6, if_pos e7, e7, h5]
  rw [if_neg e1, if_neg e2, if_neg e3, if_neg e4, if_neg e5, if_neg e6, if_neg e7]
theorem fr_mR {B h : Heap} {L : Addr} {m₀ : Str → Option Value} {W : Int} {tw : Tok} {nm al : Value} {pl kl : Addr} (F : Fr B L h m₀) (h1 : m₀ "runs" = some (.int W tw)) (h2 : m₀ "name" = some nm) (h3 : m₀ "allowed" = some al) (h4 : m₀ "pairs" = some (.ref pl)) (h5 : m₀ "kept" = some (.ref kl)) :
    ∃ sg fo r, Fr B L h (mR sg fo W tw nm al pl kl r) := ⟨_, _, m₀, mR_of h1 h2 h3 h4 h5 ▸ F⟩
theorem mR_pair {sg fo : Option Value} {W : Int} {tw : Tok} {nm al : Value} {pl kl : Addr} {r : Str → Option Value} {v v' : Value} :
    (fun y : Str => if y = "fold" then some v' else if y = "sign" then some v else mR sg fo W tw nm al pl kl r y) = mR (some v) (some v') W tw nm al pl kl r := by
  funext y
  unfold mR
  by_cases e1 : y = "fold"
  · rw [if_pos e1, if_pos e1]
  by_cases e2 : y = "sign"
  · rw [if_neg e1, if_pos e2, if_neg e1, if_pos e2]
  · rw [if_neg e1, if_neg e2, if_neg e1, if_neg e2, if_neg e1, if_neg e2]
theorem mR_runs {sg fo : Option Value} {W W' : Int} {tw tw' : Tok} {nm al : Value} {pl kl : Addr} {r : Str → Option Value} :
    (fun y : Str => if y = "runs" then some (Value.int W' tw') else mR sg fo W tw nm al pl kl r y) = mR sg fo W' tw' nm al pl kl r := by
  funext y
  unfold mR
  by_cases e1 : y = "fold"
  · rw [if_pos e1, if_pos e1, e1]; rfl
  by_cases e2 : y = "sign"
  · rw [if_neg e1, if_pos e2, if_neg e1, if_pos e2, e2]; rfl
  by_cases e3 : y = "runs"
  · rw [if_pos e3, if_neg e1, if_neg e2, if_pos e3]
  · rw [if_neg e3, if_neg e1, if_neg e2, if_neg e3, if_neg e1, if_neg e2, if_neg e3]
noncomputable def RunsSpec (w : World) (name al : List Nat) : Prop :=
  ∀ {mg mb : Str → Option Value} {p : Program} {loose : List Str} {A : Around} {s : Shared} {E : Value → Shared → Prop} {pl kl : Addr} {ys vs : List Value} {ny nk : Nat} {K : List Str} {t1 t2 : Tok} {Q : Value → Shared → Prop},
  (KK w.params).In s.heap → TopRead p loose mg mb s.heap → A.depth + name.length + 20 < recursionLimit → A.handled = none → s.heap.get? pl = some (listOf ys.toArray ny) → PairsIn s.heap ys (noZ al) → s.heap.get? kl = some (listOf vs.toArray nk) → StrsAre vs K →
  (∀ h' tk t, Ext s.heap h' → Q (.int (runs K al name : Nat) t) ⟨h', s.gens, s.drawn, tk, s.os⟩) →
  wpAny (model PR w) A (call (.ref 287) [.str (ofL name) t1, .str (ofL al) t2, .ref pl, .ref kl]) Q E s
theorem in_keys {w : World} {A : Around} {E : Value → Shared → Prop} {s : Shared} {h₀ : Heap} {L kl : Addr} {m : Str → Option Value} {vs : List Value} {nk : Nat} {K : List Str} {name al : List Nat} {t : Tok} {Q : Value → Shared → Prop} (F : Fr h₀ L s.heap m) (hk : h₀.get? kl = some (listOf vs.toArray nk)) (hv : StrsAre vs K)
    (h : Q (.bool (decide (enc name al ∈ K))) s) : wpAny (model PR w) A (compareOp .In (.str (ofL name ++ Str.ofString "=" ++ ofL al) t) (.ref kl)) Q E s := by
  refine in_list_strs ⟨_, F.keep _ _ hk, rfl, _, rfl⟩ hv ?_
  rw [enc_eq]
  have : K.any (· == enc name al) = decide (enc name al ∈ K) := by
    by_cases hm : enc name al ∈ K
    · rw [decide_eq_true hm]; exact List.any_eq_true.mpr ⟨_, hm, by simp⟩
    · rw [decide_eq_false hm]
      refine Bool.eq_false_iff.mpr fun q => hm ?_
      obtain ⟨y, hy, e⟩ := List.any_eq_true.mp q
      rw [← eq_of_beq e]; exact hy
  rw [this]; exact h
end
section
open PySem PySem.W PySem.Calls PyProof.Rows LCg
noncomputable def CLEnd (h₀ : Heap) (L I : Addr) (oI : Obj) (cS : Addr) (J : (Str → Option Value) → List (Addr × Obj) → Prop) (s₁ : Shared) (Q : Flow → Shared → Prop) (f : Flow) (s₂ : Shared) : Prop :=
  match f with
  | .ret v => Q (.ret v) s₂
  | .brk => Q .next s₂
  | _ => ∃ h' tk' m' oS nw v, s₂ = { s₁ with heap := h', toks := tk' } ∧ Fr h₀ L h' m' ∧ oS.data = .cell v ∧ News h₀ L h' ((I, oI) :: (cS, oS) :: nw) ∧ (∀ p ∈ nw, p.1 ≠ I ∧ p.1 ≠ cS) ∧ J m' nw
section
variable {prog : Program} {w : World} {A : Around} {E : Value → Shared → Prop} {s : Shared} {h₀ : Heap} {env : Env}
theorem cell_loop {x : Str} {px : Pos} {body : List Stmt} {r cS : Addr} {a b : Int} {t u v : Tok} {n : Nat} {oS : Obj} {v₀ : Option Value} {m₀ : Str → Option Value} {nw : List (Addr × Obj)} {Q : Flow → Shared → Prop} (J : Nat → (Str → Option Value) → List (Addr × Obj) → Prop)
    (hh : A.handled = none) (hr : IsRange s.heap r a b 1 t u v) (hsm : Builtin.Range.small a b 1 = true) (hn : Builtin.Range.rangeSize a b 1 = ((n : Nat) : Int)) (hk : env.scope.kind = .function) (hx : env.kindOf x = some .cell) (hc : env.cells.lookup x = some cS)
    (F : Fr h₀ env.locals s.heap m₀) (N : News h₀ env.locals s.heap ((cS, oS) :: nw)) (hd : oS.data = .cell v₀) (off : ∀ p ∈ nw, p.1 ≠ cS) (hj : J 0 m₀ nw)
    (turn : ∀ i t m₁ nw h tk I oI oS (E' : Value → Shared → Prop), i < n → J i m₁ nw → oS.data = .cell (some (.int (a + (i : Int)) t)) → Fr h₀ env.locals h m₁ → News h₀ env.locals h ((I, oI) :: (cS, oS) :: nw) → (∀ p ∈ nw, p.1 ≠ I ∧ p.1 ≠ cS) → I ≠ cS →
      wpAny (model prog w) A (execs body env) (CLEnd h₀ env.locals I oI cS (J (i + 1)) { s with heap := h, toks := tk } Q) E' { s with heap := h, toks := tk })
    (done : ∀ m₁ nw oS h tk, J n m₁ nw → Fr h₀ env.locals h m₁ → News h₀ env.locals h ((cS, oS) :: nw) → (∃ v, oS.data = .cell v) → Q .next { s with heap := h, toks := tk }) :
    wpAny (model prog w) A (pyIter (.ref r)) (fun it s₂ => codeAny (model prog w) A (.forLoop (.Name x px) it body [] env) (fun r s' => match r with | .ok f => Q f s' | .error e => cameBackBy (model prog w) A env E e s') s₂) E s := by
  refine wpAny_pyIter_range hr hsm ?_
  have W : Walks prog w A s.heap.objs.size [s.heap.objs.size] [s.heap.objs.size] n (fun i v => ∃ t, v = .int (a + (i : Int)) t) (fun i h => IsRangeIter h s.heap.objs.size (a + (i : Nat) * 1) ((n : Int) - (i : Nat)) 1) := range_walks hh a n
  have hI₀ : h₀.get? s.heap.objs.size = none := next_is_new F
  have hIL : env.locals ≠ s.heap.objs.size := Nat.ne_of_lt F.ns.lt
  have offI : ∀ p ∈ (cS, oS) :: nw, p.1 ≠ s.heap.objs.size := fun p hp => Nat.ne_of_lt (Heap.lt_size (N p hp).1)
  have up : ∀ c' o, s.heap.get? c' = some o → (s.heap.push { cls := .type "range_iterator", data := .fields #[rawInt a, rawInt (Builtin.Range.rangeSize a b 1), rawInt 1] }).get? c' = some o := fun c' o e => Heap.get?_push_of_some _ e
  refine codeAny_forLoop_any (fun k s' => ∃ h' tk i m' oS v nw, s' = { s with heap := h', toks := tk } ∧ i ≤ n ∧ k = n + 1 - i ∧ IsRangeIter h' s.heap.objs.size (a + (i : Nat) * 1) ((n : Int) - (i : Nat)) 1 ∧ Fr h₀ env.locals h' m' ∧ oS.data = .cell v ∧ News h₀ env.locals h' ((cS, oS) :: nw) ∧ (∀ p ∈ nw, p.1 ≠ s.heap.objs.size ∧ p.1 ≠ cS) ∧ J i m' nw) ?_ (n + 1)
    ⟨_, s.toks, 0, m₀, oS, v₀, nw, rfl, Nat.zero_le _, rfl, by show IsRangeIter _ _ _ _ _; rw [hn]; simpa using Heap.get?_push_size _ rfl, F.keeps up, hd, N.grown up, fun p hp => ⟨offI p (.tail _ hp), off p hp⟩, hj⟩
  rintro k s' ⟨h', tk, i, m', oS, v, nw, rfl, hi, rfl, hit, F', hd', N', off', hJ⟩
  have nIS : s.heap.objs.size ≠ cS := Ne.symm (offI _ (.head _))
  have offA : ∀ p ∈ (cS, oS) :: nw, p.1 ≠ s.heap.objs.size := fun p hp => by
    rcases List.mem_cons.mp hp with rfl | hp
    · exact Ne.symm nIS
    · exact (off' p hp).1
  by_cases hlt' : i < n
  · refine W.item i _ _ _ hlt' hit fun v h₂ tk₂ hv hst₂ hk₂ => ?_
    obtain ⟨tv, rfl⟩ := hv
    have F₂ := fr_but F' hk₂ hIL hI₀
    have N₂ := news_but N' hk₂ offA
    have zS := N₂ _ (.head _)
    refine wpAny_pure ?_
    refine wpAny_assign_Name (wpAny_storeName_cell hk hx hc ⟨oS, zS.1, hd'⟩ fun h₃ hv₃ hs₃ => ?_)
    obtain ⟨oS', heS, hdS⟩ := hv₃
    have F₃ := F₂.change hs₃ zS.2.1 zS.2.2
    obtain ⟨oI, hst₂', hback⟩ : ∃ oI, h₂.get? s.heap.objs.size = some oI ∧ ∀ h : Heap, h.get? s.heap.objs.size = some oI → IsRangeIter h s.heap.objs.size (a + ((i + 1 : Nat) : Int) * 1) ((n : Int) - ((i + 1 : Nat) : Int)) 1 := ⟨_, hst₂, fun _ e => e⟩
    have N₃ : News h₀ env.locals h₃ ((s.heap.objs.size, oI) :: (cS, oS') :: nw) := fun p hp => by
      rcases List.mem_cons.mp hp with rfl | hp
      · exact ⟨hs₃.extBut _ _ nIS hst₂', Ne.symm hIL, hI₀⟩
      rcases List.mem_cons.mp hp with rfl | hp
      · exact ⟨heS, zS.2⟩
      · have z := N₂ p (.tail _ hp)
        exact ⟨hs₃.extBut _ _ (off' p hp).2 z.1, z.2⟩
    refine wpAny_mono (turn i tv m' nw h₃ _ _ oI oS' _ hlt' hJ hdS F₃ N₃ off' nIS) (fun f s₃ z => ?_) fun _ _ e => e
    have fin : (∃ h' tk' m' oS nw v, s₃ = { s with heap := h', toks := tk' } ∧ Fr h₀ env.locals h' m' ∧ oS.data = .cell v ∧ News h₀ env.locals h' ((s.heap.objs.size, oI) :: (cS, oS) :: nw) ∧ (∀ p ∈ nw, p.1 ≠ s.heap.objs.size ∧ p.1 ≠ cS) ∧ J (i + 1) m' nw) → ∃ q, q < n + 1 - i ∧ ∃ h' tk i m' oS v nw, s₃ = { s with heap := h', toks := tk } ∧ i ≤ n ∧ q = n + 1 - i ∧ IsRangeIter h' s.heap.objs.size (a + (i : Nat) * 1) ((n : Int) - (i : Nat)) 1 ∧ Fr h₀ env.locals h' m' ∧ oS.data = .cell v ∧ News h₀ env.locals h' ((cS, oS) :: nw) ∧ (∀ p ∈ nw, p.1 ≠ s.heap.objs.size ∧ p.1 ≠ cS) ∧ J i m' nw := by
      rintro ⟨h', tk', m', oS, nw, v, rfl, F', hd', N', off', j⟩
      exact ⟨n + 1 - (i + 1), by (first | lia | omega), h', tk', i + 1, m', oS, v, nw, rfl, hlt', rfl, hback _ (N' _ (.head _)).1, F', hd', fun p hp => N' p (.tail _ hp), off', j⟩
    cases f with
    | ret v => exact z
    | brk => exact z
    | next => exact fin z
    | cont => exact fin z
  · obtain rfl : i = n := Nat.le_antisymm hi (Nat.not_lt.mp hlt')
    refine W.done _ _ _ hit fun h₂ tk₂ hk₂ => wpAny_execs_nil ?_
    exact done m' nw oS h₂ tk₂ hJ (fr_but F' hk₂ hIL hI₀) (news_but N' hk₂ offA) ⟨v, hd'⟩
end
noncomputable def endOf (name : List Nat) (size c : Nat) : List Nat := (List.range size).filter fun k => (name.take size).drop k = foldC c
theorem drop_len {l f : List Nat} {k : Nat} (h : l.drop k = f) (hf : 1 ≤ f.length) : k = l.length - f.length ∧ k < l.length := by
  have := congrArg List.length h
  rw [List.length_drop] at this
  (first | lia | omega)
theorem filter_one {p : Nat → Bool} {K : Nat} : ∀ {n : Nat}, K < n → p K = true → (∀ k, k < n → p k = true → k = K) → (List.range n).filter p = [K]
  | 0, h, _, _ => absurd h (Nat.not_lt_zero _)
  | n + 1, h, hp, hu => by
    rw [List.range_succ, List.filter_append]
    by_cases hK : K = n
    · subst hK
      have : (List.range K).filter p = [] := by
        rw [List.filter_eq_nil_iff]
        intro k hk q
        have h1 := List.mem_range.mp hk
        have := hu k (by (first | lia | omega)) q
        (first | lia | omega)
      rw [this]
      simp [hp]
    · have ih := filter_one (n := n) (p := p) (K := K) (by (first | lia | omega)) hp (fun k hk q => hu k (by (first | lia | omega)) q)
      rw [ih]
      have : p n = false := by
        cases hq : p n with
        | false => rfl
        | true => exact absurd (hu n (by (first | lia | omega)) hq).symm hK
      simp [this]
theorem endOf_eq {name : List Nat} {size c : Nat} (hs : size ≤ name.length) (hf : 1 ≤ (foldC c).length) : endOf name size c = match rest? (name.take size) c with | some r => [r.length] | none => [] := by
  have hl : (name.take size).length = size := by rw [List.length_take]; (first | lia | omega)
  unfold endOf
  by_cases hd : (name.take size).drop ((name.take size).length - (foldC c).length) = foldC c
  · have hlt := (drop_len hd hf).2
    rw [hl] at hd hlt
    have hr : rest? (name.take size) c = some ((name.take size).take (size - (foldC c).length)) := by rw [rest_yes hf (by rw [hl]; exact hd), hl]
    rw [hr]
    have : ((name.take size).take (size - (foldC c).length)).length = size - (foldC c).length := by rw [List.length_take, hl]; (first | lia | omega)
    dsimp only
    rw [this]
    refine filter_one (by (first | lia | omega)) (by simpa using hd) fun k hk q => ?_
    have := (drop_len (of_decide_eq_true q) hf).1
    (first | lia | omega)
  · have hr : rest? (name.take size) c = none := rest_no hd
    rw [hr]
    rw [List.filter_eq_nil_iff]
    intro k hk q
    have e := of_decide_eq_true q
    have h1 := drop_len e hf
    rw [h1.1] at e
    exact hd e
noncomputable def endsOf (name : List Nat) (size : Nat) (cs : List Nat) : List (Nat × Nat) := (cs.map fun c => (endOf name size c).map fun k => (c, k)).flatten
theorem rest_take {name r : List Nat} {size c : Nat} (hr : rest? (name.take size) c = some r) : r = name.take r.length ∧ r.length < size := by
  have hlt := rest_lt hr
  have hl : (name.take size).length ≤ size := by rw [List.length_take]; exact Nat.min_le_left _ _
  unfold rest? at hr
  split at hr
  · cases hr
    refine ⟨?_, by (first | lia | omega)⟩
    rw [List.length_take, List.take_take, List.length_take]
    congr 1
    (first | lia | omega)
  · cases hr
theorem ways_ends {name al : List Nat} {size : Nat} (ha : ∀ c ∈ al, c ∈ six) (h1 : 1 ≤ size) (hs : size ≤ name.length) : ((endsOf name size (noZ al)).map fun q => ways al (name.take q.2)).sum = ways al (name.take size) := by
  have hne : name.take size ≠ [] := by
    intro q
    have := congrArg List.length q
    rw [List.length_take, List.length_nil] at this
    (first | lia | omega)
  have e := upTo_noZ (ways al) (name.take size) al
  rw [upTo_all, upTo_all] at e
  have e2 := ways_rec al hne
  refine Eq.trans ?_ (e.trans e2.symm)
  have hz : ∀ c ∈ noZ al, c ∈ six ∧ c ≠ 8203 := fun c hc => noZ_mem ha hc
  unfold endsOf
  generalize noZ al = cs at hz
  induction cs with
  | nil => rfl
  | cons c cs ih =>
    have hc := hz c (.head _)
    rw [List.map_cons, List.flatten_cons, List.map_append, List.sum_append, List.map_cons, List.sum_cons, ih (fun d hd => hz d (.tail _ hd)), endOf_eq hs (foldC_ne hc.1 hc.2)]
    congr 1
    cases hr : rest? (name.take size) c with
    | none => rfl
    | some r =>
      have := (rest_take hr).1
      simp
      rw [← this]
theorem ways_le : ∀ (n : Nat) (al name : List Nat), name.length ≤ n → al.length ≤ 6 → ways al name ≤ fbound n := by
  intro n
  induction n with
  | zero =>
    intro al name h _
    have : name = [] := List.eq_nil_of_length_eq_zero (Nat.le_zero.mp h)
    subst this
    exact Nat.le_refl _
  | succ n ih =>
    intro al name h ha
    by_cases hne : name = []
    · subst hne
      exact fbound_mono (n := 0) (Nat.zero_le _)
    · rw [ways_rec al hne]
      have key : ∀ l : List Nat, (l.map fun c => match rest? name c with | some r => ways al r | none => 0).sum ≤ l.length * fbound n := by
        intro l
        induction l with
        | nil => exact Nat.zero_le _
        | cons c l ihl =>
          rw [List.map_cons, List.sum_cons, List.length_cons, Nat.succ_mul]
          have : (match rest? name c with | some r => ways al r | none => 0) ≤ fbound n := by
            cases hr : rest? name c with
            | none => exact Nat.zero_le _
            | some r =>
              have := rest_lt hr
              exact ih al r (by (first | lia | omega)) ha
          (first | lia | omega)
      have h1 := key al
      have h2 := Nat.mul_le_mul_right (fbound n) ha
      exact Nat.le_trans h1 (Nat.le_trans h2 (Nat.le_add_left _ 1))
end
section
open PySem PySem.W PySem.Calls PyProof.Rows LCg
noncomputable def forBody (s : Stmt) : List Stmt := match s with | .For _ _ b _ _ => b | _ => []
noncomputable def EndRefs (ds : List (Addr × Obj)) (ys : List Value) (qs : List (Nat × Nat)) : Prop := All2 (fun v q => ∃ a t t', v = .ref a ∧ (a, tup2 (.str (ofL [q.1]) t) (.int ((q.2 : Nat) : Int) t')) ∈ ds) ys qs
theorem EndRefs.mono {ds ds' : List (Addr × Obj)} {ys : List Value} {cs : List (Nat × Nat)} (h : EndRefs ds ys cs) (k : ∀ p ∈ ds, p ∈ ds') : EndRefs ds' ys cs := by
  induction h with
  | nil => exact .nil
  | cons a b ih =>
    obtain ⟨ad, t, t', e, m⟩ := a
    exact .cons ⟨ad, t, t', e, k _ m⟩ ih
theorem endsOf_succ {name cs : List Nat} {size j c : Nat} (h : cs[j]? = some c) : endsOf name size (cs.take (j + 1)) = endsOf name size (cs.take j) ++ (endOf name size c).map fun k => (c, k) := by
  unfold endsOf
  rw [List.take_add_one, h, List.map_append, List.flatten_append]
  simp
theorem endOf_le1 {name : List Nat} {size c : Nat} (hs : size ≤ name.length) (hf : 1 ≤ (foldC c).length) : (endOf name size c).length ≤ 1 := by
  rw [endOf_eq hs hf]
  split
  · exact Nat.le_refl _
  · exact Nat.zero_le _
theorem endsOf_le {name : List Nat} {size : Nat} (hs : size ≤ name.length) : ∀ cs : List Nat, (∀ c ∈ cs, 1 ≤ (foldC c).length) → (endsOf name size cs).length ≤ cs.length
  | [], _ => Nat.zero_le _
  | c :: cs, h => by
    have ih := endsOf_le hs cs fun d hd => h d (.tail _ hd)
    have h1 := endOf_le1 (name := name) hs (h c (.head _))
    unfold endsOf at ih ⊢
    rw [List.map_cons, List.flatten_cons, List.length_append, List.length_map, List.length_cons]
    (first | lia | omega)
theorem endOf_part (name : List Nat) (size c k : Nat) (p : Bool) (hp : p = decide ((name.take size).drop k = foldC c)) : ((List.range (k + 1)).filter fun j => (name.take size).drop j = foldC c) = if p = true then ((List.range k).filter fun j => (name.take size).drop j = foldC c) ++ [k] else ((List.range k).filter fun j => (name.take size).drop j = foldC c) := by
  rw [List.range_succ, List.filter_append, hp]
  by_cases h : (name.take size).drop k = foldC c
  · simp [h]
  · simp [h]
local macro_rules | `(tactic| walk_at "eval Name") => `(tactic| (k_here; (with_reducible show wpAny _ _ (eval (Expr.Name _ _) (compEnvC _ _ _ _)) _ _ _); k_dflt (first
  | (refine' blk_global ?F ?X ?T ?e ?_ ?g ?k ?x ?d; (case F => k_asm); (case X => assumption); (case T => assumption); (case e => k_is); (case g => rfl); (case k => rfl); (case x => rfl); (case d => decide); k_whole)
  | (refine' blk_built ?F ?X ?T ?e ?v ?n ?_ ?g ?b ?k ?x ?d; (case F => k_asm); (case X => assumption); (case T => assumption); (case e => k_is); (case v => boot_by_name); (case n => decide); (case g => rfl); (case b => rfl); (case k => rfl); (case x => rfl); (case d => decide); k_whole))))
local macro_rules | `(tactic| walk_at "mine upto") => `(tactic| repeat' (first | (k_unfold; (try dsimp only)) | ((fail_if_success (with_reducible show wpAny _ _ (pyIter _) _ _ _)); first | walk1 | (dsimp only; walk1))))
set_option maxHeartbeats 8000000 in
theorem texts_ends : ∀ {w : World} {mg mb : Str → Option Value} {p : Program} {loose : List Str} {A : Around} {s : Shared} {B : Heap} {L pl : Addr} {e0 : Option Value} {r : Str → Option Value} {oN oS : Obj} {ys : List Value} {ny : Nat} {name cs : List Nat} {i : Nat} {t tN : Tok} {rest : List (Addr × Obj)} {R : Flow → Shared → Prop} (X : (KK w.params).In B) (T : TopRead p loose mg mb B) (hroom : A.depth + 10 < recursionLimit) (hh : A.handled = none)
  (hN : oN.data = .cell (some (.str (ofL name) tN))) (hS : oS.data = .cell (some (.int ((i + 1 : Nat) : Int) t))) (hi : i < name.length) (hln : name.length ≤ 100) (hpl : B.get? pl = some (listOf ys.toArray ny)) (hps : PairsIn B ys cs) (hcs : ∀ c ∈ cs, c ∈ six ∧ c ≠ 8203) (hcl : cs.length ≤ 6)
  (F : Fr B L s.heap (fun y => if y = "ends" then e0 else if y = "pairs" then some (.ref pl) else r y)) (N : News B L s.heap ((L + 1 + 1 + 1, oS) :: (L + 1, oN) :: rest))
  (h : ∀ h' tk le ys' ds, Fr B L h' (fun z => if z = "ends" then some (.ref le) else if z = "ends" then e0 else if z = "pairs" then some (.ref pl) else r z) → News B L h' ((le, lst ys') :: (ds ++ ((L + 1 + 1 + 1, oS) :: (L + 1, oN) :: rest))) → Off1 le (ds ++ ((L + 1 + 1 + 1, oS) :: (L + 1, oN) :: rest)) → EndRefs (ds ++ ((L + 1 + 1 + 1, oS) :: (L + 1, oN) :: rest)) ys' (endsOf name (i + 1) cs) → R .next ⟨h', s.gens, s.drawn, tk, s.os⟩),
  wpAny (model PySem.Challenge.rw_in0022_01.row.toRowW.prog w) (A.deeper (envOfC "_law_texts" s14.1 L 280 (.ref 279))) (exec ((forBody (b14.1.getD 1 (.Pass default))).getD 0 (.Pass default)) (envOfC "_law_texts" s14.1 L 280 (.ref 279))) R (fun _ _ => False) s := by
  k_fill
  intro w mg mb p loose A s B L pl e0 r oN oS ys ny name cs i t tN rest R X T hroom hh hN hS hi hln hpl hps hcs hcl F N h
  have hsl : sizeLine = 16777216 := by decide
  have hL1 : L < L + 1 := Nat.lt_succ_self _
  change wpAny _ _ (exec (Stmt.Assign _ _ _) _) _ _ _
  refine comp_assign F rfl rfl (by with_unfolding_all rfl) (by with_unfolding_all rfl) (by decide) (by rfl) (by decide) (by rfl) (by rfl) ?_
  dsimp only
  walk_at "mine upto"
  obtain ⟨N0, hN0⟩ : ∃ N0, N0 = (L + 1 + 1 + 1, oS) :: (L + 1, oN) :: rest := ⟨_, rfl⟩
  rw [← hN0] at N
  refine cgo_two (fun j zs nw => (∃ ds, nw = ds ++ N0) ∧ EndRefs nw zs (endsOf name (i + 1) (cs.take j)) ∧ j ≤ cs.length) hh (by rfl) (by rfl) (by rfl) (by decide) F N (fun j zs nw _ => .inl ⟨_, hpl, rfl, _, rfl⟩) ⟨⟨[], rfl⟩, .nil, Nat.zero_le _⟩ (fun _ _ => rfl) ?item ?fin
  case fin =>
    rintro g zs nw ⟨⟨ds, rfl⟩, hz, hj⟩ D h' tk' F' N' off'
    have hsz : ys.toArray.size = cs.length := by rw [List.size_toArray]; exact hps.len
    rw [hsz, List.take_length] at hz
    rw [hN0] at N' off' hz
    exact h h' tk' D zs ds F' N' off' hz
  case item =>
    rintro j v zs nw hv ⟨⟨ds, rfl⟩, hz, hj⟩
    obtain ⟨c, hc, a, ta, tb, rfl, hat⟩ := hps.get (show ys[j]? = some v by simpa using hv)
    refine ⟨a, _, _, _, _, rfl, .inr hat, rfl, rfl, ?_⟩
    intro I oI C D oC m' h' tk' E' hoC h1 h2 F' N' off ne
    have hjl : j < cs.length := (List.getElem?_eq_some_iff.mp hc).1
    obtain ⟨hc6, hc9⟩ := hcs c (List.mem_of_getElem? hc)
    have hf1 := foldC_ne hc6 hc9
    have hfs : ∀ d ∈ cs, 1 ≤ (foldC d).length := fun d hd => foldC_ne (hcs d hd).1 (hcs d hd).2
    have hel : (endsOf name (i + 1) (cs.take j)).length ≤ 6 := Nat.le_trans (endsOf_le hi (cs.take j) fun d hd => hfs d (List.mem_of_mem_take hd)) (by rw [List.length_take]; (first | lia | omega))
    rw [hN0] at N' off hz
    obtain ⟨nw0, hnw0⟩ : ∃ nw0, nw0 = ds ++ (L + 1 + 1 + 1, oS) :: (L + 1, oN) :: rest := ⟨_, rfl⟩
    have hmS : (L + 1 + 1 + 1, oS) ∈ nw0 := by rw [hnw0]; exact List.mem_append_right _ (.head _)
    have hmN : (L + 1, oN) ∈ nw0 := by rw [hnw0]; exact List.mem_append_right _ (.tail _ (.head _))
    rw [← hnw0] at N' off hz
    have N1 : News B L h' ((L + 1 + 1 + 1, oS) :: (L + 1, oN) :: (I, oI) :: (C, oC) :: (D, lst zs) :: nw0) :=
      List.forall_mem_cons.mpr ⟨N' _ (.tail _ (.tail _ (.tail _ hmS))), List.forall_mem_cons.mpr ⟨N' _ (.tail _ (.tail _ (.tail _ hmN))), N'⟩⟩
    walk_at "mine upto"
    rename IsRange _ _ _ _ _ _ _ _ => hr
    rename Fr B L _ _ => Fc
    rename News B L _ _ => Nc
    refine inner_range (n := i + 1) (v₁ := .str (ofL [c]) ta) (v₂ := .str (ofL (foldC c)) tb) (fun k zs' nw' => (∃ ds', nw' = ds' ++ nw0) ∧ EndRefs nw' zs' (endsOf name (i + 1) (cs.take j) ++ ((List.range k).filter fun q => (name.take (i + 1)).drop q = foldC c).map fun q => (c, q)) ∧ k ≤ i + 1)
      hh hr (small_one (by (first | lia | omega)) (by (first | lia | omega)) (by (first | lia | omega)) (by (first | lia | omega))) (by rw [rangeSize_nat]; (first | lia | omega)) (by rfl) (by rfl) (by decide) (by decide) ⟨_, _, rfl⟩ Fc hoC h1 h2 (fun q hq => Nc q (.tail _ (.tail _ hq))) off ne ?hJl ⟨⟨[], rfl⟩, by simpa using hz, Nat.zero_le _⟩ ?it2 ?dn
    case hJl =>
      rintro k zs' nw' ⟨_, hz', hk⟩
      rw [hz'.len, List.length_append, List.length_map]
      have := List.length_filter_le (fun q => decide ((name.take (i + 1)).drop q = foldC c)) (List.range k)
      rw [List.length_range] at this
      (first | lia | omega)
    case dn =>
      rintro zs' nw' ⟨⟨ds', rfl⟩, hz', _⟩
      refine ⟨⟨ds' ++ ds, by rw [hnw0, hN0, List.append_assoc]⟩, ?_, hjl⟩
      rw [endsOf_succ hc]
      exact hz'
    case it2 =>
      rintro k t3 zs' nw' oC2 m2 I2 oI2 h3 tk3 E3 hk ⟨⟨ds', rfl⟩, hz', _⟩ hoC2 hmz hmx hmx2 F3 N3 off3 off3' ne3
      refine wpAny_tests_one ?_
      have N4 : News B L h3 ((L + 1 + 1 + 1, oS) :: (L + 1, oN) :: (I2, oI2) :: (C, oC2) :: (D, lst zs') :: (I, oI) :: (ds' ++ nw0)) :=
        List.forall_mem_cons.mpr ⟨N3 _ (.tail _ (.tail _ (.tail _ (.tail _ (List.mem_append_right _ hmS))))), List.forall_mem_cons.mpr ⟨N3 _ (.tail _ (.tail _ (.tail _ (.tail _ (List.mem_append_right _ hmN))))), N3⟩⟩
      clear Fc Nc hr N'
      k_steps
      · rename ((Txt.slice _ _ _ == _) = true) => hq
        rename Fr B L _ _ => Fz
        rename News B L _ _ => Nz
        have hb : true = decide ((name.take (i + 1)).drop k = foldC c) := by rw [← ofL_beq, ← slice_mid name k (i + 1) (by (first | lia | omega)) hi]; exact hq.symm
        rename Addr => T
        refine ⟨_, _, oC2, m2, (I, oI) :: ((T, tup2 (.str (ofL [c]) ta) (.int ((k : Nat) : Int) t3)) :: (ds' ++ nw0)), rfl, Fz, hoC2, fun q hm => Nz q ?_, ⟨off3.1, ⟨by k_ne, by k_ne, by k_ne⟩, off3.2⟩, hmx, hmx2, _, rfl, ⟨⟨by k_ne, by k_ne, by k_ne⟩, off3'⟩, ⟨_ :: ds', rfl⟩, ?_, by (first | lia | omega)⟩
        · simp only [List.mem_cons] at hm ⊢
          rcases hm with e | e | e | e | e | e
          · exact .inr (.inr (.inr (.inl e)))
          · exact .inr (.inr (.inr (.inr (.inl e))))
          · exact .inr (.inr (.inr (.inr (.inr (.inl e)))))
          · exact .inr (.inr (.inr (.inr (.inr (.inr (.inl e))))))
          · exact .inl e
          · exact .inr (.inr (.inr (.inr (.inr (.inr (.inr e))))))
        · rw [endOf_part name (i + 1) c k true hb, if_pos rfl, List.map_append, ← List.append_assoc]
          exact All2.app (hz'.mono fun q hm => .tail _ hm) (.cons ⟨_, ta, t3, rfl, .head _⟩ .nil)
      · rename ((Txt.slice _ _ _ == _) = false) => hq
        rename Fr B L _ _ => Fz
        rename News B L _ _ => Nz
        have hb : false = decide ((name.take (i + 1)).drop k = foldC c) := by rw [← ofL_beq, ← slice_mid name k (i + 1) (by (first | lia | omega)) hi]; exact hq.symm
        refine ⟨_, _, oC2, m2, zs', (I, oI) :: (ds' ++ nw0), rfl, Fz, hoC2, fun q hm => Nz q (.tail _ (.tail _ hm)), off3, hmx, hmx2, _, rfl, off3', ⟨ds', rfl⟩, ?_, by (first | lia | omega)⟩
        rw [endOf_part name (i + 1) c k false hb, if_neg (by decide)]
        exact hz'
end
section
open PySem PySem.W PySem.Calls PyProof.Rows LCg
noncomputable def TextsAre (b n : Nat) (ys : List Value) : Prop := ∃ l : List (Str × Tok), ys = strValues l ∧ l.length = n ∧ ∀ p ∈ l, p.1.length ≤ b
theorem TextsAre.len {b n : Nat} {ys : List Value} (h : TextsAre b n ys) : ys.length = n := by obtain ⟨l, rfl, e, _⟩ := h; simpa [strValues] using e
theorem TextsAre.snoc {b n : Nat} {ys : List Value} {x : Str} {t : Tok} (h : TextsAre b n ys) (hx : x.length ≤ b) : TextsAre b (n + 1) (ys ++ [.str x t]) := by
  obtain ⟨l, rfl, e, hl⟩ := h
  refine ⟨l ++ [(x, t)], ?_, by rw [List.length_append, e]; rfl, fun p hp => ?_⟩
  · unfold strValues; rw [List.map_append]; rfl
  · rcases List.mem_append.mp hp with hp | hp
    · exact hl p hp
    · rw [List.mem_singleton.mp hp]; exact hx
theorem TextsAre.at {b n : Nat} {ys : List Value} {i : Nat} {v : Value} (h : TextsAre b n ys) (hv : ys[i]? = some v) : ∃ x t, v = .str x t ∧ x.length ≤ b := by
  obtain ⟨l, rfl, e, hl⟩ := h
  unfold strValues at hv
  rw [List.getElem?_map] at hv
  obtain ⟨p, hp, rfl⟩ := Option.map_eq_some_iff.mp hv
  exact ⟨_, _, rfl, hl p (List.mem_of_getElem? hp)⟩
theorem off1_mem {D : Addr} : ∀ {l : List (Addr × Obj)}, Off1 D l → ∀ p ∈ l, p.1 ≠ D
  | [], _, _, h => nomatch h
  | _ :: _, x, p, h => by
    rcases List.mem_cons.mp h with rfl | h
    · exact x.1
    · exact off1_mem x.2 p h
theorem sum_take_le (f : Nat × Nat → Nat) : ∀ (l : List (Nat × Nat)) (j : Nat), ((l.take j).map f).sum ≤ (l.map f).sum
  | [], j => by simp
  | a :: l, 0 => by simp
  | a :: l, j + 1 => by
    rw [List.take_succ_cons, List.map_cons, List.map_cons, List.sum_cons, List.sum_cons]
    have := sum_take_le f l j
    (first | lia | omega)
theorem sum_take_succ (f : Nat × Nat → Nat) {l : List (Nat × Nat)} {j : Nat} {q : Nat × Nat} (h : l[j]? = some q) : ((l.take (j + 1)).map f).sum = ((l.take j).map f).sum + f q := by
  rw [List.take_add_one, h]; simp
theorem endsOf_lt {name cs : List Nat} {size : Nat} {q : Nat × Nat} (h : q ∈ endsOf name size cs) : q.2 < size := by
  unfold endsOf at h
  obtain ⟨l, hl, hq⟩ := List.mem_flatten.mp h
  obtain ⟨c, _, rfl⟩ := List.mem_map.mp hl
  obtain ⟨k, hk, rfl⟩ := List.mem_map.mp hq
  unfold endOf at hk
  exact List.mem_range.mp (List.mem_filter.mp hk).1
local macro_rules | `(tactic| walk_at "eval Name") => `(tactic| (k_here; (with_reducible show wpAny _ _ (eval (Expr.Name _ _) (compEnvC _ _ _ _)) _ _ _); k_dflt (first
  | (refine' blk_global ?F ?X ?T ?e ?_ ?g ?k ?x ?d; (case F => k_asm); (case X => assumption); (case T => assumption); (case e => k_is); (case g => rfl); (case k => rfl); (case x => rfl); (case d => decide); k_whole)
  | (refine' blk_built ?F ?X ?T ?e ?v ?n ?_ ?g ?b ?k ?x ?d; (case F => k_asm); (case X => assumption); (case T => assumption); (case e => k_is); (case v => boot_by_name); (case n => decide); (case g => rfl); (case b => rfl); (case k => rfl); (case x => rfl); (case d => decide); k_whole))))
local macro_rules | `(tactic| walk_at "mine upto") => `(tactic| repeat' (first | (k_unfold; (try dsimp only)) | ((fail_if_success (with_reducible show wpAny _ _ (pyIter _) _ _ _)); (fail_if_success (with_reducible show wpAny _ _ (eval (Expr.ListComp _ _ _ _) _) _ _ _)); first | walk1 | (dsimp only; walk1))))
local macro_rules | `(tactic| walk_at "binaryOp Add str str") => `(tactic| (k_here; refine add_str (fun tw' tk' => ?_) (by simp only [length_ofL, List.length_cons, List.length_nil]; (first | lia | omega))))
local macro_rules | `(tactic| walk_at "subscriptTail") => `(tactic| (k_here; (with_reducible show wpAny _ _ (subscriptTail _ _ (Value.ref _) (Value.int _ _)) _ _ _); refine item_nat (by k_asm) (by k_mem) rfl (by rw [List.length_map]; (first | lia | omega)) (by rw [List.length_map]; (first | lia | omega)) ?_))
local macro_rules | `(tactic| walk_at "subscriptTail Name Name ref int") => `(tactic| (k_here; (with_reducible show wpAny _ _ (subscriptTail _ _ (Value.ref _) (Value.int _ _)) _ _ _); refine item_nat (by k_asm) (by k_mem) rfl (by rw [List.length_map]; (first | lia | omega)) (by rw [List.length_map]; (first | lia | omega)) ?_))
set_option maxHeartbeats 8000000 in
theorem texts_more : ∀ {w : World} {mg mb : Str → Option Value} {p : Program} {loose : List Str} {A : Around} {s : Shared} {B : Heap} {L tl le : Addr} {r : Str → Option Value} {oT : Obj} {ys : List Value} {nt : Nat} {as : List Addr} {name al cs : List Nat} {i : Nat} {rest : List (Addr × Obj)} {R : Flow → Shared → Prop} (X : (KK w.params).In B) (T : TopRead p loose mg mb B) (hroom : A.depth + 10 < recursionLimit) (hh : A.handled = none)
  (hT : oT.data = .cell (some (.ref tl))) (hi : i < name.length) (hln : name.length ≤ 3) (has : as.length = i + 1) (hla : al.length ≤ 6) (hsum : ((endsOf name (i + 1) cs).map fun q => ways al (name.take q.2)).sum = ways al (name.take (i + 1)))
  (F : Fr B L s.heap (fun y => if y = "ends" then some (.ref le) else r y)) (N : News B L s.heap ((le, lst ys) :: (L + 1 + 1, oT) :: (tl, listOf (as.map Value.ref).toArray nt) :: rest)) (off : ∀ q ∈ (le, lst ys) :: (L + 1 + 1, oT) :: rest, q.1 ≠ tl)
  (hE : EndRefs rest ys (endsOf name (i + 1) cs)) (hK : ∀ k, k ≤ i → ∃ zs n, (as.getD k 0, listOf zs.toArray n) ∈ rest ∧ TextsAre k (ways al (name.take k)) zs)
  (h : ∀ h' tk D zs, Fr B L h' (fun y => if y = "ends" then some (.ref le) else r y) → News B L h' ((D, lst zs) :: (le, lst ys) :: (L + 1 + 1, oT) :: (tl, listOf ((as ++ [D]).map Value.ref).toArray (nt + 1)) :: rest) → D ≠ tl → (∀ q ∈ (L + 1 + 1, oT) :: rest, q.1 ≠ D) → TextsAre (i + 1) (ways al (name.take (i + 1))) zs → R .next ⟨h', s.gens, s.drawn, tk, s.os⟩),
  wpAny (model PySem.Challenge.rw_in0022_01.row.toRowW.prog w) (A.deeper (envOfC "_law_texts" s14.1 L 280 (.ref 279))) (exec ((forBody (b14.1.getD 1 (.Pass default))).getD 1 (.Pass default)) (envOfC "_law_texts" s14.1 L 280 (.ref 279))) R (fun _ _ => False) s := by
  k_fill
  intro w mg mb p loose A s B L tl le r oT ys nt as name al cs i rest R X T hroom hh hT hi hln has hla hsum F N off hE hK h
  have hsl : sizeLine = 16777216 := by decide
  have hL1 : L < L + 1 := Nat.lt_succ_self _
  have hwl : ∀ k, ways al (name.take k) ≤ 300 := fun k => Nat.le_trans (ways_le 3 al (name.take k) (by rw [List.length_take]; (first | lia | omega)) hla) (by decide)
  change wpAny _ _ (exec (Stmt.Expr _ _) _) _ _ _
  walk_at "mine upto"
  rename Fr B L _ _ => Fa
  rename News B L _ _ => Na
  refine comp_eval Fa rfl (by with_unfolding_all rfl) (by decide) (by rfl) (by decide) ?_
  dsimp only
  walk_at "mine upto"
  rename Fr B L _ _ => Fb
  rename News B L _ _ => Nb
  obtain ⟨N0, hN0⟩ : ∃ N0, N0 = (le, lst ys) :: (L + 1 + 1, oT) :: (tl, listOf (as.map Value.ref).toArray nt) :: rest := ⟨_, rfl⟩
  rw [← hN0] at Nb
  have hql : ∀ q ∈ endsOf name (i + 1) cs, q.2 < i + 1 := fun q hq => endsOf_lt hq
  refine cgo_two (its := ys.toArray) (fun j zs nw => nw = N0 ∧ TextsAre (i + 1) (((endsOf name (i + 1) cs).take j).map fun q => ways al (name.take q.2)).sum zs ∧ j ≤ (endsOf name (i + 1) cs).length) hh (by rfl) (by rfl) (by rfl) (by decide) Fb Nb (fun j zs nw z => .inr ⟨lst ys, by rw [z.1, hN0]; exact .head _, rfl, _, rfl⟩) ⟨rfl, ⟨[], rfl, rfl, fun _ q => nomatch q⟩, Nat.zero_le _⟩ (fun _ _ => rfl) ?item ?fin
  case fin =>
    rintro g zs nw ⟨rfl, hz, hj⟩ D h' tk' F' N' off'
    have hsz : ys.toArray.size = (endsOf name (i + 1) cs).length := by rw [List.size_toArray]; exact hE.len
    rw [hsz, List.take_length, hsum] at hz
    rw [hN0] at N' off'
    have nD : D ≠ tl := Ne.symm off'.2.2.1
    walk_at "mine upto"
    have o1 := off _ (.head _)
    have o2 := off _ (.tail _ (.head _))
    refine append_K F' N' (.tail nD (.tail o1 (.tail o2 (.head fun q hq => off q (.tail _ (.tail _ hq)))))) (fun h₅ F₅ N₅ => ?_) (by rw [List.size_toArray, List.length_map]; (first | lia | omega))
    rw [List.push_toArray, show as.map Value.ref ++ [Value.ref D] = (as ++ [D]).map Value.ref by rw [List.map_append]; rfl] at N₅
    refine h h₅ _ D zs F₅ N₅ nD (fun q hq => ?_) hz
    rcases List.mem_cons.mp hq with rfl | hq
    · exact off'.2.1
    · exact off1_mem off'.2.2.2 q hq
  case item =>
    rintro j v zs nw hv ⟨rfl, hz, hj⟩
    obtain ⟨q, hq, a, ta, tb, rfl, hat⟩ := hE.get (show ys[j]? = some v by simpa using hv)
    refine ⟨a, _, _, _, _, rfl, .inl (by rw [hN0]; exact .tail _ (.tail _ (.tail _ hat))), rfl, rfl, ?_⟩
    intro I oI C D oC m' h' tk' E' hoC h1 h2 F' N' off' ne
    have hq2 := hql q (List.mem_of_getElem? hq)
    have hjl : j < (endsOf name (i + 1) cs).length := (List.getElem?_eq_some_iff.mp hq).1
    have hS1 := sum_take_succ (fun q => ways al (name.take q.2)) hq
    have hS2 := sum_take_le (fun q => ways al (name.take q.2)) (endsOf name (i + 1) cs) (j + 1)
    have hw3 := hwl (i + 1)
    obtain ⟨xs, n, hm, hx⟩ := hK q.2 (by (first | lia | omega))
    rw [hN0] at N' off'
    walk_at "mine upto"
    rename Fr B L _ _ => Fc
    rename News B L _ _ => Nc
    rw [getD_ref as (by (first | lia | omega))]
    refine inner_list (its := xs.toArray) (v₁ := .str (ofL [q.1]) ta) (v₂ := .int ((q.2 : Nat) : Int) tb) (fun k zs' nw' => nw' = (le, lst ys) :: (L + 1 + 1, oT) :: (tl, listOf (as.map Value.ref).toArray nt) :: rest ∧ TextsAre (i + 1) ((((endsOf name (i + 1) cs).take j).map fun q => ways al (name.take q.2)).sum + k) zs' ∧ k ≤ ways al (name.take q.2))
      hh (by rfl) (by rfl) (by decide) (by decide) ⟨_, _, rfl⟩ Fc hoC h1 h2 Nc off' ne ?hJl (off'.mem _ (.tail _ (.tail _ (.tail _ hm)))).2.1 ⟨rfl, hz, Nat.zero_le _⟩ ?it2 ?dn
    case hJl =>
      rintro k zs' nw' ⟨rfl, hz', hk⟩
      exact ⟨by rw [hz'.len]; (first | lia | omega), .inr ⟨_, .tail _ (.tail _ (.tail _ hm)), rfl, _, rfl⟩⟩
    case dn =>
      rintro zs' nw' ⟨rfl, hz', hk⟩
      rw [List.size_toArray, hx.len, ← hS1] at hz'
      exact ⟨hN0.symm, hz', hjl⟩
    case it2 =>
      rintro k v zs' nw' oC2 m2 I2 oI2 h3 tk3 E3 hv2 ⟨rfl, hz', hk⟩ hoC2 hmz hmx hmx2 F3 N3 off3 off3' ne3
      obtain ⟨x, tx, rfl, hxl⟩ := hx.at (show xs[k]? = some v by simpa using hv2)
      have hkl : k < ways al (name.take q.2) := by
        have := (List.getElem?_eq_some_iff.mp (show xs[k]? = some _ by simpa using hv2)).1
        rw [hx.len] at this
        exact this
      refine wpAny_tests_nil ?_
      simp only [if_true]
      clear Fc Nc
      k_steps
      rename Fr B L _ _ => Fz
      rename News B L _ _ => Nz
      refine ⟨_, _, oC2, m2, (I, oI) :: _, rfl, Fz, hoC2, Nz, off3, hmx, hmx2, _, rfl, off3', rfl, ?_, by (first | lia | omega)⟩
      rw [← Nat.add_assoc]
      exact hz'.snoc (by rw [Str.length_append, length_ofL [q.1], List.length_singleton]; (first | lia | omega))
end
section
open PySem PySem.W PySem.Calls PyProof.Rows LCg
theorem last_any {w : World} {A : Around} {E : Value → Shared → Prop} {s : Shared} {l : Addr} {as : List Value} {v : Value} {n : Nat} {u : Tok} {value slice : Expr} {Q : Value → Shared → Prop} (hl : s.heap.get? l = some (listOf as.toArray n)) (h1 : 1 ≤ as.length) (hv : as[as.length - 1]? = some v) (h : Q v s)
    (hs : subscripted slice false (.ref l) (.int (-1) u) = operate [.ref l, .int (-1) u] (getItem (.ref l) (.int (-1) u)) := by with_unfolding_all rfl) :
    wpAny (model PR w) A (subscriptTail value slice (.ref l) (.int (-1) u)) Q E s := by
  have I : s.heap.IsList l as.toArray := ⟨_, hl, rfl, _, rfl⟩
  refine subscriptTail_builtinR (x := v) (T := "list") I.typeIs PySem.F.slot_list_getitem.lookup (wpAny_getItem_list_neg (x := v) I (by decide) ?_ (by decide) ?_ ⟨rfl, h⟩) hs
  · rw [List.size_toArray]; (first | lia | omega)
  · have e : ((-1 : Int) + (as.toArray.size : Nat)).toNat = as.length - 1 := by rw [List.size_toArray]; (first | lia | omega)
    rw [e, List.getElem?_toArray]
    exact hv
noncomputable def TInv (L tl pl : Addr) (oT oN : Obj) (name al : List Nat) (r0 : Str → Option Value) (i : Nat) (m₁ : Str → Option Value) (nw : List (Addr × Obj)) : Prop :=
  ∃ (as : List Addr) (nt : Nat) (tail : List (Addr × Obj)) (e0 : Option Value), m₁ = (fun y : Str => if y = "ends" then e0 else if y = "pairs" then some (.ref pl) else r0 y) ∧ nw = (L + 1 + 1, oT) :: (L + 1, oN) :: (tl, listOf (as.map Value.ref).toArray nt) :: tail ∧ as.length = i + 1 ∧ (∀ p ∈ tail, p.1 ≠ tl) ∧
    ∀ k, k ≤ i → ∃ (zs : List Value) (n : Nat), (as.getD k 0, listOf zs.toArray n) ∈ tail ∧ TextsAre k (ways al (name.take k)) zs
theorem texts_init {B h : Heap} {L tl a0 pl : Addr} {oS oT oN : Obj} {name al : List Nat} {nt n0 : Nat} {t : Tok} (N : News B L h [(tl, listOf #[.ref a0] nt), (a0, listOf #[.str (Str.ofString "") t] n0), (L + 1 + 1 + 1, oS), (L + 1 + 1, oT), (L + 1, oN)]) (h1 : L + 1 + 1 + 1 < a0) (h2 : a0 < tl) :
    ∃ nw tl', tl' = tl ∧ (L + 1 + 1 ≠ tl' ∧ L + 1 ≠ tl' ∧ L + 1 + 1 + 1 ≠ tl') ∧ News B L h ((L + 1 + 1 + 1, oS) :: nw) ∧ TInv L tl' pl oT oN name al (fun _ => none) 0 (fun y : Str => if y = "pairs" then some (.ref pl) else none) nw ∧ (∀ p ∈ nw, p.1 ≠ L + 1 + 1 + 1) := by
  have q := Nat.lt_trans h1 h2
  refine ⟨(L + 1 + 1, oT) :: (L + 1, oN) :: (tl, listOf ([a0].map Value.ref).toArray nt) :: [(a0, listOf [Value.str (Str.ofString "") t].toArray n0)], tl, rfl, ⟨Nat.ne_of_lt (Nat.lt_of_succ_lt q), Nat.ne_of_lt (Nat.lt_of_succ_lt (Nat.lt_of_succ_lt q)), Nat.ne_of_lt q⟩, fun p hp => ?_, ⟨[a0], nt, _, none, ?_, rfl, rfl, ?_, ?_⟩, ?_⟩
  · refine N p ?_
    simp only [List.mem_cons, List.not_mem_nil, or_false] at hp ⊢
    rcases hp with e | e | e | e | e
    · exact .inr (.inr (.inl e))
    · exact .inr (.inr (.inr (.inl e)))
    · exact .inr (.inr (.inr (.inr e)))
    · exact .inl e
    · exact .inr (.inl e)
  · funext y
    by_cases e : y = "ends"
    · rw [if_pos e, e]; rfl
    · rw [if_neg e]
  · intro p hp
    rw [List.mem_singleton.mp hp]
    exact Nat.ne_of_lt h2
  · intro k hk
    obtain rfl : k = 0 := Nat.le_zero.mp hk
    refine ⟨_, n0, .head _, [(Str.ofString "", t)], rfl, rfl, fun p hp => ?_⟩
    rw [List.mem_singleton.mp hp]
    exact Nat.zero_le _
  · intro p hp
    simp only [List.mem_cons, List.not_mem_nil, or_false] at hp
    rcases hp with rfl | rfl | rfl | rfl
    · exact Nat.ne_of_lt (Nat.lt_succ_self _)
    · exact Nat.ne_of_lt (Nat.lt_succ_of_lt (Nat.lt_succ_self _))
    · exact Ne.symm (Nat.ne_of_lt (Nat.lt_trans h1 h2))
    · exact Ne.symm (Nat.ne_of_lt h1)
theorem named_obj {o : Obj} {d : Data} (h : o.data = d) : ∃ o', o' = o ∧ o'.data = d := ⟨o, rfl, h⟩
noncomputable abbrev keepOff (tl : Addr) (l : List (Addr × Obj)) : List (Addr × Obj) := l.filter fun p => decide (p.1 ≠ tl)
theorem mem_keepOff {tl : Addr} {l : List (Addr × Obj)} {p : Addr × Obj} (h : p ∈ l) (hn : p.1 ≠ tl) : p ∈ keepOff tl l := List.mem_filter.mpr ⟨h, decide_eq_true hn⟩
theorem EndRefs.filt {ds : List (Addr × Obj)} {ys : List Value} {qs : List (Nat × Nat)} {tl : Addr} (h : EndRefs ds ys qs) (k : ∀ a o, (a, o) ∈ ds → o.cls = .type "tuple" → a ≠ tl) : EndRefs (keepOff tl ds) ys qs := by
  induction h with
  | nil => exact .nil
  | cons a b ih =>
    obtain ⟨ad, t, t', e, m⟩ := a
    exact .cons ⟨ad, t, t', e, mem_keepOff m (k _ _ m rfl)⟩ ih
local macro_rules | `(tactic| walk_at "call builtin:len") => `(tactic| (k_here; refine P.len_str (by assumption) ?_))
local macro_rules | `(tactic| walk_at "mine upto") => `(tactic| repeat' (first | (k_unfold; (try dsimp only)) | ((fail_if_success (with_reducible show wpAny _ _ (exec (Stmt.For _ _ _ _ _) _) _ _ _)); (fail_if_success (with_reducible show wpAny _ _ (pyIter _) _ _ _)); (fail_if_success (with_reducible show wpAny _ _ (subscriptTail _ _ _ _) _ _ _)); first | walk1 | (dsimp only; walk1))))
set_option maxHeartbeats 8000000 in
theorem spec_texts : ∀ {w : World} {mg mb : Str → Option Value} {p : Program} {loose : List Str} {A : Around} {s : Shared} {Q : Value → Shared → Prop} {E : Value → Shared → Prop} {name al : List Nat} {pl : Addr} {ys : List Value} {ny : Nat} {tN : Tok} (X : (KK w.params).In s.heap) (T : TopRead p loose mg mb s.heap) (hroom : A.depth + 10 < recursionLimit) (hh : A.handled = none)
  (hal : GoodA al) (hln : name.length ≤ 3) (hpl : s.heap.get? pl = some (listOf ys.toArray ny)) (hps : PairsIn s.heap ys (noZ al))
  (hQ : ∀ (h' : Heap) (tk : Nat) (lr : Addr) (zs : List Value) (n : Nat), Ext s.heap h' → h'.get? lr = some (listOf zs.toArray n) → zs.length = ways al name → Q (.ref lr) ⟨h', s.gens, s.drawn, tk, s.os⟩),
  wpAny (model PySem.Challenge.rw_in0022_01.row.toRowW.prog w) A (call (.ref 280) [.str (ofL name) tN, .ref pl]) Q E s := by
  k_fill
  intro w mg mb p loose A s Q E name al pl ys ny tN X T hroom hh hal hln hpl hps hQ
  have hsl : sizeLine = 16777216 := by decide
  have hfz : ¬ ((ofL name).length : Int) ≥ 2 ^ 63 := by rw [length_ofL]; (first | lia | omega)
  refine wpAny_call (enterPc X T (by k_is) (by k_is) (by (first | lia | omega)) (BindsTo.of_eq rfl) (by rfl) (by decide +kernel) (fun h₁ L' tk cells hL F N Y => ?_) rfl rfl rfl)
  have hL1 : L' < L' + 1 := Nat.lt_succ_self _
  k_cells Y
  (try simp only [List.cons_append, List.nil_append] at N)
  (try dsimp only)
  rename_i oS oT oN d1 d2 d3
  have F' : Fr s.heap L' h₁ (fun y => if y = "pairs" then some (.ref pl) else none) := F
  have d1' : oS.data = Data.cell none := d1
  have d2' : oT.data = Data.cell none := d2
  have d3' : oN.data = Data.cell (some (.str (ofL name) tN)) := d3
  clear F d1 d2 d3
  walk_at "mine upto"
  refine wpAny_For ?_
  walk_at "mine upto"
  rename IsRange _ _ _ _ _ _ _ _ => hr
  rename Fr s.heap L' _ _ => Fa
  rename News s.heap L' _ _ => Na
  rename (_ = Data.cell (some (Value.ref _))) => dT
  obtain ⟨oT2, eT, dT⟩ := named_obj dT
  rw [← eT] at Na
  obtain ⟨nw0, tl, htl, hcT, Nb, hT0, hoff⟩ := texts_init (pl := pl) (name := name) (al := al) Na (ltN (by (first | lia | omega))) (ltN (by (first | lia | omega)))
  rw [← htl] at dT
  clear Na htl
  have hb : (((ofL name).length : Nat) : Int) + 1 = ((name.length + 1 : Nat) : Int) := by rw [length_ofL]; rfl
  rw [hb] at hr
  refine cell_loop (TInv L' tl pl _ oN name al (fun _ => none)) hh hr (small_one (by (first | lia | omega)) (by (first | lia | omega)) (by (first | lia | omega)) (by (first | lia | omega))) (n := name.length) (by rw [rangeSize_nat]; (first | lia | omega)) (by rfl) (by rfl) (by rfl) Fa Nb d1' hoff hT0 ?turn ?done
  case done =>
    rintro m₁ nw oS2 h tk5 ⟨as, nt, tail, e0, rfl, rfl, has, htl, hK⟩ F₂ N₂ ⟨v, hv⟩
    have F₃ : Fr s.heap L' h _ := F₂
    have N₃ : News s.heap L' h _ := N₂
    clear F₂ N₂ Fa Nb
    obtain ⟨zs, n, hm, hx⟩ := hK name.length (Nat.le_refl _)
    have hm' := N₃ _ (.tail _ (.tail _ (.tail _ (.tail _ hm))))
    dsimp only
    walk_at "mine upto"
    rename News s.heap L' _ _ => Nz
    have hlz := (Nz (tl, listOf (as.map Value.ref).toArray nt) (by k_mem)).1
    refine last_any (as := as.map Value.ref) (v := .ref (as.getD name.length 0)) hlz (by rw [List.length_map]; (first | lia | omega)) ?_ ?_
    · rw [List.length_map, has, Nat.add_sub_cancel, List.getElem?_map, List.getD_eq_getElem?_getD, List.getElem?_eq_getElem (by (first | lia | omega))]
      rfl
    · rw [List.take_length] at hx
      exact hQ _ _ _ zs n (Fr.keep (by assumption)) ((Nz _ (.tail _ (.tail _ (.tail _ (.tail _ hm))))).1) hx.len
  case turn =>
    rintro i t m₁ nw h tk5 I oI oS2 E' hi ⟨as, nt, tail, e0, rfl, rfl, has, htl, hK⟩ hS2 F₂ N₂ off2 nIS
    rw [show (1 : Int) + (i : Int) = ((i + 1 : Nat) : Int) by (first | lia | omega)] at hS2
    have F₃ : Fr s.heap L' h _ := F₂
    have N₃ : News s.heap L' h ((L' + 1 + 1 + 1, oS2) :: (L' + 1, oN) :: (I, oI) :: (L' + 1 + 1, oT2) :: (tl, listOf (as.map Value.ref).toArray nt) :: tail) := fun q hq => by
      refine N₂ q ?_
      simp only [List.mem_cons] at hq ⊢
      rcases hq with e | e | e | e | e | e
      · exact .inr (.inl e)
      · exact .inr (.inr (.inr (.inl e)))
      · exact .inl e
      · exact .inr (.inr (.inl e))
      · exact .inr (.inr (.inr (.inr (.inl e))))
      · exact .inr (.inr (.inr (.inr (.inr e))))
    clear F₂ N₂ Fa Nb
    have hz6 : (noZ al).length ≤ 6 := Nat.le_trans (List.length_filter_le _ _) hal.len
    walk1
    refine wpAny_mono (texts_ends X T hroom hh d3' hS2 hi (by (first | lia | omega)) hpl hps (fun c hc => noZ_mem hal.six hc) hz6 F₃ N₃ fun h' tk' le ys' ds F₄ N₄ off₄ hE => ?_) (fun _ _ x => x) fun _ _ x => x.elim
    clear F₃ N₃
    dsimp only
    walk1
    have mtl : (tl, listOf (as.map Value.ref).toArray nt) ∈ ds ++ (L' + 1 + 1 + 1, oS2) :: (L' + 1, oN) :: (I, oI) :: (L' + 1 + 1, oT2) :: (tl, listOf (as.map Value.ref).toArray nt) :: tail := List.mem_append_right _ (.tail _ (.tail _ (.tail _ (.tail _ (.head _)))))
    have mtail : ∀ q ∈ tail, q ∈ ds ++ (L' + 1 + 1 + 1, oS2) :: (L' + 1, oN) :: (I, oI) :: (L' + 1 + 1, oT2) :: (tl, listOf (as.map Value.ref).toArray nt) :: tail := fun q hq => List.mem_append_right _ (.tail _ (.tail _ (.tail _ (.tail _ (.tail _ hq)))))
    have mcT : (L' + 1 + 1, oT2) ∈ ds ++ (L' + 1 + 1 + 1, oS2) :: (L' + 1, oN) :: (I, oI) :: (L' + 1 + 1, oT2) :: (tl, listOf (as.map Value.ref).toArray nt) :: tail := List.mem_append_right _ (.tail _ (.tail _ (.tail _ (.head _))))
    have mI : (I, oI) ∈ ds ++ (L' + 1 + 1 + 1, oS2) :: (L' + 1, oN) :: (I, oI) :: (L' + 1 + 1, oT2) :: (tl, listOf (as.map Value.ref).toArray nt) :: tail := List.mem_append_right _ (.tail _ (.tail _ (.head _)))
    have mcN : (L' + 1, oN) ∈ ds ++ (L' + 1 + 1 + 1, oS2) :: (L' + 1, oN) :: (I, oI) :: (L' + 1 + 1, oT2) :: (tl, listOf (as.map Value.ref).toArray nt) :: tail := List.mem_append_right _ (.tail _ (.head _))
    have mcS : (L' + 1 + 1 + 1, oS2) ∈ ds ++ (L' + 1 + 1 + 1, oS2) :: (L' + 1, oN) :: (I, oI) :: (L' + 1 + 1, oT2) :: (tl, listOf (as.map Value.ref).toArray nt) :: tail := List.mem_append_right _ (.head _)
    generalize hall : ds ++ (L' + 1 + 1 + 1, oS2) :: (L' + 1, oN) :: (I, oI) :: (L' + 1 + 1, oT2) :: (tl, listOf (as.map Value.ref).toArray nt) :: tail = all at N₄ off₄ hE mtl mtail mcT mI mcN mcS
    have nle : le ≠ tl := Ne.symm (off1_mem off₄ _ mtl)
    have nI : I ≠ tl := Ne.symm (off2 _ (.tail _ (.tail _ (.head _)))).1
    have hE' := hE.filt (tl := tl) fun a o hm hc => News.ne_cls N₄ (.tail _ hm) (.tail _ mtl) (by rw [hc]; exact (show Value.type "tuple" ≠ Value.type "list" by decide))
    have N₅ : News s.heap L' h' ((le, lst ys') :: (L' + 1 + 1, oT2) :: (tl, listOf (as.map Value.ref).toArray nt) :: keepOff tl all) := fun q hq => by
      rcases List.mem_cons.mp hq with rfl | hq
      · exact N₄ _ (.head _)
      rcases List.mem_cons.mp hq with rfl | hq
      · exact N₄ _ (.tail _ mcT)
      rcases List.mem_cons.mp hq with rfl | hq
      · exact N₄ _ (.tail _ mtl)
      · exact N₄ _ (.tail _ (List.mem_filter.mp hq).1)
    have off₅ : ∀ q ∈ (le, lst ys') :: (L' + 1 + 1, oT2) :: keepOff tl all, q.1 ≠ tl := fun q hq => by
      rcases List.mem_cons.mp hq with rfl | hq
      · exact nle
      rcases List.mem_cons.mp hq with rfl | hq
      · exact hcT.1
      · exact of_decide_eq_true (List.mem_filter.mp hq).2
    have hK' : ∀ k, k ≤ i → ∃ (zs : List Value) (n : Nat), (as.getD k 0, listOf zs.toArray n) ∈ keepOff tl all ∧ TextsAre k (ways al (name.take k)) zs := fun k hk => by
      obtain ⟨zs, n, hm, hx⟩ := hK k hk
      exact ⟨zs, n, mem_keepOff (mtail _ hm) (htl _ hm), hx⟩
    refine wpAny_mono (texts_more X T hroom hh dT hi hln has hal.len (ways_ends hal.six (by (first | lia | omega)) hi) F₄ N₅ off₅ hE' hK' fun h5 tk6 D zs F₆ N₆ nD hnD hz => ?_) (fun _ _ x => x) fun _ _ x => x.elim
    clear N₅ F₄
    dsimp only
    walk1
    have sub : ∀ q ∈ all, q.1 ≠ tl → q ∈ (D, lst zs) :: (le, lst ys') :: (L' + 1 + 1, oT2) :: (tl, listOf ((as ++ [D]).map Value.ref).toArray (nt + 1)) :: keepOff tl all := fun q hq hn => .tail _ (.tail _ (.tail _ (.tail _ (mem_keepOff hq hn))))
    refine ⟨h5, _, _, oS2, (L' + 1 + 1, oT2) :: (L' + 1, oN) :: (tl, listOf ((as ++ [D]).map Value.ref).toArray (nt + 1)) :: (D, lst zs) :: tail, _, rfl, F₆, hS2, fun q hq => N₆ q ?_, fun q hq => ?_, ⟨as ++ [D], nt + 1, (D, lst zs) :: tail, some (.ref le), ?_, rfl, by rw [List.length_append, has]; rfl, fun q hq => ?_, fun k hk => ?_⟩⟩
    · simp only [List.mem_cons] at hq
      rcases hq with e | e | e | e | e | e | e
      · rw [e]; exact sub _ mI nI
      · rw [e]; exact sub _ mcS hcT.2.2
      · rw [e]; exact .tail _ (.tail _ (.head _))
      · rw [e]; exact sub _ mcN hcT.2.1
      · rw [e]; exact .tail _ (.tail _ (.tail _ (.head _)))
      · rw [e]; exact .head _
      · exact sub _ (mtail _ e) (htl _ e)
    · simp only [List.mem_cons] at hq
      rcases hq with e | e | e | e | e
      · rw [e]; exact off2 _ (.head _)
      · rw [e]; exact off2 _ (.tail _ (.head _))
      · rw [e]; exact off2 (tl, listOf (as.map Value.ref).toArray nt) (.tail _ (.tail _ (.head _)))
      · rw [e]; exact ⟨Ne.symm (hnD _ (.tail _ (mem_keepOff mI nI))), Ne.symm (hnD _ (.tail _ (mem_keepOff mcS hcT.2.2)))⟩
      · exact off2 q (.tail _ (.tail _ (.tail _ e)))
    · funext y
      by_cases e : y = "ends"
      · rw [if_pos e, if_pos e]
      · rw [if_neg e, if_neg e, if_neg e]
    · rcases List.mem_cons.mp hq with rfl | hq
      · exact nD
      · exact htl q hq
    · by_cases hki : k ≤ i
      · obtain ⟨zs', n', hm, hx⟩ := hK k hki
        refine ⟨zs', n', ?_, hx⟩
        rw [List.getD_eq_getElem?_getD, List.getElem?_append_left (by (first | lia | omega)), ← List.getD_eq_getElem?_getD]
        exact .tail _ hm
      · obtain rfl : k = i + 1 := by (first | lia | omega)
        refine ⟨zs, zs.length, ?_, hz⟩
        rw [List.getD_eq_getElem?_getD, List.getElem?_append_right (by (first | lia | omega)), has, Nat.sub_self]
        exact .head _
end
section
open PySem PySem.W PySem.Calls PyProof.Rows PyProof.V PySem.Spec
noncomputable def BkAt (h : Heap) (d : Addr) (es : Array DictEntry) (ep : Nat) : Prop := ∃ o, h.get? d = some o ∧ o.data = .dict es ep
noncomputable abbrev itObj (f0 f1 : Value) (d : Addr) (i n ep : Nat) (ok ov : Value) : Obj := { cls := .type "dict_itemiterator", dict := none, data := .fields #[f0, f1, .ref d, .int i 0, .int n 0, .int ep 0, ok, ov], slots := #[] }
noncomputable abbrev tupOf (e : DictEntry) : Obj := { cls := .type "tuple", data := .seq #[e.key, e.val] }
noncomputable def ItAt (h : Heap) (it d S : Addr) (i n ep : Nat) : Prop := ∃ f0 f1 ok ov, h.get? it = some (itObj f0 f1 d i n ep ok ov) ∧ ((f0 = .none ∧ f1 = .bool false) ∨ ∃ a f oa, f0 = rawInt (a : Nat) ∧ f1 = .bool f ∧ h.get? a = some oa ∧ a ≠ it ∧ a ≠ S)
theorem ItAt.keep {h h' : Heap} {it d S : Addr} {i n ep : Nat} (x : ItAt h it d S i n ep) (hk : ∀ b o, b ≠ S → h.get? b = some o → h'.get? b = some o) (hI : it ≠ S) : ItAt h' it d S i n ep := by
  obtain ⟨f0, f1, ok, ov, e, r⟩ := x
  refine ⟨f0, f1, ok, ov, hk _ _ hI e, ?_⟩
  rcases r with r | ⟨a, f, oa, r1, r2, r3, r4, r5⟩
  · exact .inl r
  · exact .inr ⟨a, f, oa, r1, r2, hk _ _ r5 r3, r4, r5⟩
theorem BkAt.keep {h h' : Heap} {d : Addr} {es : Array DictEntry} {ep : Nat} (x : BkAt h d es ep) (hk : ∀ o, h.get? d = some o → h'.get? d = some o) : BkAt h' d es ep := let ⟨o, e, r⟩ := x; ⟨o, hk _ e, r⟩
section
variable {prog : Program} {w : World} {A : Around} {E : Value → Shared → Prop} {s : Shared} {it d S : Addr} {i n ep : Nat} {es : Array DictEntry}
theorem it_next {e : DictEntry} {Q : Option Value → Shared → Prop} (hit : ItAt s.heap it d S i n ep) (hS : S < s.heap.objs.size) (hm : BkAt s.heap d es ep) (hn : es.size = n) (hx : es[i]? = some e)
    (hQ : ∀ h', ItAt h' it d S (i + 1) n ep → h'.get? s.heap.objs.size = some (tupOf e) → h'.objs.size = s.heap.objs.size + 1 → (∀ b o, b ≠ it → s.heap.get? b = some o → h'.get? b = some o) → Q (some (.ref s.heap.objs.size)) { s with heap := h' }) :
    wpAny (model prog w) A (pyNext (.ref it)) Q E s := by
  obtain ⟨hp, g, dr, tk, os⟩ := s
  obtain ⟨f0, f1, ok, ov, hit, hf⟩ := hit
  obtain ⟨od, hod, hdd⟩ := hm
  have hT : Shared.TypeIs ⟨hp, g, dr, tk, os⟩ (.ref it) "dict_itemiterator" := ⟨_, hit, rfl⟩
  unfold pyNext
  refine wpAny_bind (wpAny_attempt (wpAny_callSpecial?_slot (name := Str.ofString "__next__") hT PySem.F.slot_dict_itemiterator_next
    (wpAny_call_entry PySem.F.slot_dict_itemiterator_next hT PySem.F.entry_dict_itemiterator_next ?_ (PySem.F.args_dict_itemiterator_next_1 _))))
  refine wpAny_bind (wpAny_pure (wpAny_bind (wpAny_bind (wpAny_bind (wpAny_typeNameOfWhole_itemiter hT (wpAny_pure ?_))))))
  refine wpAny_bind (wpAny_fieldsOf hit rfl ?_)
  simp only [show Builtin.Dict_items.ownsTuple "dict_itemiterator" = true from by decide, if_true]
  show wpAny _ _ (if (Value.ref d == Value.none) = true then _ else _) _ _ _
  rw [if_neg (show ¬ ((Value.ref d == Value.none) = true) from Bool.false_ne_true)]
  refine wpAny_bind (wpAny_pure (wpAny_bind (wpAny_dictEntries hod hdd ?_)))
  rw [if_neg (by rw [hn]; simp)]
  refine wpAny_bind (wpAny_pure (wpAny_bind (wpAny_dictEpoch hod hdd ?_)))
  rw [if_neg (by simp)]
  refine wpAny_pure ?_
  have hlt : i < es.size := (Array.getElem?_eq_some_iff.mp hx).1
  have hxe : es[i] = e := (Array.getElem?_eq_some_iff.mp hx).2
  simp only [show ¬ ((i : Int) < 0) from by (first | lia | omega), if_false, Int.toNat_natCast, Array.getElem?_eq_getElem hlt]
  refine wpAny_bind (wpAny_bind (wpAny_typeNameOfWhole_itemiter hT (wpAny_pure ?_)))
  refine wpAny_bind (wpAny_isOneOf_itemiter hT ?_)
  show wpAny _ _ (setField (.ref it) 3 (rawInt ((i : Int) + 1)) >>= _) _ _ ⟨hp, g, dr, tk, os⟩
  refine wpAny_bind (wpAny_setField_rec hit (by simp) fun h₁ he₁ hs₁ => ?_)
  replace hs₁ : Heap.SameBut it hp h₁ := hs₁
  replace he₁ : h₁.get? it = some (itObj f0 f1 d (i + 1) n ep ok ov) := by
    have e : ((i + 1 : Nat) : Int) = (i : Int) + 1 := by (first | lia | omega)
    unfold itObj; rw [e]; simpa [rawInt] using he₁
  have hT₁ : Shared.TypeIs ⟨h₁, g, dr, tk, os⟩ (.ref it) "dict_itemiterator" := ⟨_, he₁, rfl⟩
  refine wpAny_bind (wpAny_holding (wpAny_bind (wpAny_isOneOf_itemiter hT₁ (wpAny_bind (wpAny_isOneOf_itemiter hT₁ ?_)))))
  show wpAny _ _ (Builtin.Dict_items.pairFromOwner (.ref it) 6 es[i].key es[i].val) _ _ ⟨h₁, g, dr, tk, os⟩
  rw [hxe]
  unfold Builtin.Dict_items.pairFromOwner
  refine wpAny_bind (wpAny_newTuple ?_)
  have he₂ : (h₁.push (tupOf e)).get? it = some (itObj f0 f1 d (i + 1) n ep ok ov) := Heap.get?_push_of_some _ he₁
  generalize hh₂ : h₁.push { cls := .type "tuple", data := .seq #[e.key, e.val] } = h₂ at he₂
  have hz₁ : h₁.objs.size = hp.objs.size := hs₁.1
  have hil : it < hp.objs.size := Heap.lt_size hit
  have ht₂ : h₂.get? hp.objs.size = some (tupOf e) := by rw [← hh₂, ← hz₁]; exact Heap.get?_push_size _ rfl
  have hz₂ : h₂.objs.size = hp.objs.size + 1 := by rw [← hh₂, Heap.size_push, hz₁]
  have hk₂ : ∀ b o, b ≠ it → hp.get? b = some o → h₂.get? b = some o := fun b o hb e => by rw [← hh₂]; exact Heap.get?_push_of_some _ (hs₁.extBut b o hb e)
  show wpAny _ _ (Builtin.Dict_items.ownedTupleIsFree (.ref it) >>= _) _ _ ⟨h₂, g, dr, tk, os⟩
  rw [hz₁]
  clear hh₂ he₁ hs₁ hT₁ hz₁ h₁
  have hti := Nat.ne_of_gt hil
  refine wpAny_bind ?_
  unfold Builtin.Dict_items.ownedTupleIsFree
  rcases hf with ⟨rfl, rfl⟩ | ⟨a, f, oa, rfl, rfl, ha, hai, haS⟩
  · refine wpAny_bind (wpAny_field he₂ rfl (x := .none) rfl (wpAny_pure ?_))
    simp only [if_true]
    refine wpAny_bind (wpAny_field he₂ rfl (x := ok) rfl ?_)
    refine wpAny_bind (wpAny_field he₂ rfl (x := ov) rfl ?_)
    refine wpAny_bind (wpAny_setField_rec he₂ (by simp) fun h₃ he₃ hs₃ => ?_)
    replace hs₃ : Heap.SameBut it h₂ h₃ := hs₃
    refine wpAny_bind (wpAny_setField_rec he₃ (by simp) fun h₄ he₄ hs₄ => ?_)
    replace hs₄ : Heap.SameBut it h₃ h₄ := hs₄
    refine wpAny_bind (wpAny_setField_rec he₄ (by simp) fun h₅ he₅ hs₅ => ?_)
    replace hs₅ : Heap.SameBut it h₄ h₅ := hs₅
    refine wpAny_bind (wpAny_setField_rec he₅ (by simp) fun h₆ he₆ hs₆ => ?_)
    replace hs₆ : Heap.SameBut it h₅ h₆ := hs₆
    have kk : ∀ b o, b ≠ it → h₂.get? b = some o → h₆.get? b = some o := fun b o hb e => hs₆.extBut b o hb (hs₅.extBut b o hb (hs₄.extBut b o hb (hs₃.extBut b o hb e)))
    refine wpAny_bind (wpAny_letGo (wpAny_pure (wpAny_pure ⟨_, rfl, wpAny_pure (hQ h₆ ⟨_, _, _, _, he₆, .inr ⟨hp.objs.size, false, _, rfl, rfl, kk _ _ hti ht₂, hti, Nat.ne_of_gt hS⟩⟩ (kk _ _ hti ht₂) ?_ fun b o hb e => kk b o hb (hk₂ b o hb e))⟩)))
    show h₆.objs.size = hp.objs.size + 1
    rw [hs₆.1, hs₅.1, hs₄.1, hs₃.1, hz₂]
  · refine wpAny_bind (wpAny_field he₂ rfl (x := rawInt (a : Nat)) rfl ?_)
    show wpAny _ _ (loadIfAlive ((a : Int).toNat) >>= _) _ _ _
    rw [Int.toNat_natCast]
    refine wpAny_bind (kdx_alive (hk₂ a oa hai ha) ?_)
    simp only [Option.isNone_some, Bool.false_eq_true, if_false]
    refine wpAny_bind (wpAny_field he₂ rfl (x := .bool f) rfl ?_)
    have fin : ∀ h₃ : Heap, h₃.get? it = some (itObj (rawInt (a : Nat)) (.bool true) d (i + 1) n ep ok ov) → Heap.SameBut it h₂ h₃ → Q (some (.ref hp.objs.size)) ⟨h₃, g, dr, tk, os⟩ := fun h₃ he₃ hs₃ =>
      hQ h₃ ⟨_, _, _, _, he₃, .inr ⟨a, true, oa, rfl, rfl, hs₃.extBut _ _ hai (hk₂ a oa hai ha), hai, haS⟩⟩ (hs₃.extBut _ _ hti ht₂) (by show h₃.objs.size = hp.objs.size + 1; rw [hs₃.1, hz₂]) fun b o hb e => hs₃.extBut b o hb (hk₂ b o hb e)
    cases f with
    | true =>
      rw [if_neg (show ¬ ((Value.bool true != Value.bool true) = true) from Bool.false_ne_true)]
      refine wpAny_pure ?_
      simp only [Bool.false_eq_true, if_false]
      exact wpAny_pure (wpAny_pure ⟨_, rfl, wpAny_pure (fin h₂ he₂ (Heap.SameBut.refl _ _))⟩)
    | false =>
      rw [if_pos (show (Value.bool false != Value.bool true) = true from rfl)]
      refine wpAny_bind (wpAny_setField_rec he₂ (by simp) fun h₃ he₃ hs₃ => ?_)
      replace hs₃ : Heap.SameBut it h₂ h₃ := hs₃
      refine wpAny_pure ?_
      simp only [Bool.false_eq_true, if_false]
      exact wpAny_pure (wpAny_pure ⟨_, rfl, wpAny_pure (fin h₃ he₃ hs₃)⟩)
theorem it_end {Q : Option Value → Shared → Prop} (hh : A.handled = none) (hit : ItAt s.heap it d S n n ep) (hm : BkAt s.heap d es ep) (hn : es.size = n)
    (hQ : ∀ h', Heap.ExtBut it s.heap h' → Q none { s with heap := h' }) : wpAny (model prog w) A (pyNext (.ref it)) Q E s := by
  obtain ⟨f0, f1, ok, ov, hit, hf⟩ := hit
  obtain ⟨od, hod, hdd⟩ := hm
  have hT : s.TypeIs (.ref it) "dict_itemiterator" := ⟨_, hit, rfl⟩
  unfold pyNext
  refine wpAny_bind (wpAny_attempt (wpAny_callSpecial?_slot (name := Str.ofString "__next__") hT PySem.F.slot_dict_itemiterator_next
    (wpAny_call_entry PySem.F.slot_dict_itemiterator_next hT PySem.F.entry_dict_itemiterator_next ?_ (PySem.F.args_dict_itemiterator_next_1 _))))
  refine wpAny_bind (wpAny_pure (wpAny_bind (wpAny_bind (wpAny_bind (wpAny_typeNameOfWhole_itemiter hT (wpAny_pure ?_))))))
  refine wpAny_bind (wpAny_fieldsOf hit rfl ?_)
  simp only [show Builtin.Dict_items.ownsTuple "dict_itemiterator" = true from by decide, if_true]
  show wpAny _ _ (if (Value.ref d == Value.none) = true then _ else _) _ _ s
  rw [if_neg (show ¬ ((Value.ref d == Value.none) = true) from Bool.false_ne_true)]
  refine wpAny_bind (wpAny_pure (wpAny_bind (wpAny_dictEntries hod hdd ?_)))
  rw [if_neg (by rw [hn]; simp)]
  refine wpAny_bind (wpAny_pure (wpAny_bind (wpAny_dictEpoch hod hdd ?_)))
  rw [if_neg (by simp)]
  refine wpAny_pure ?_
  simp only [show ¬ ((n : Int) < 0) from by (first | lia | omega), if_false, Int.toNat_natCast, Array.getElem?_eq_none (Nat.le_of_eq hn)]
  refine wpAny_bind (wpAny_bind (wpAny_typeNameOfWhole_itemiter hT (wpAny_pure ?_)))
  show wpAny _ _ (setField (.ref it) 2 .none >>= _) _ _ s
  refine wpAny_bind (wpAny_setField hit rfl (by simp) ?_)
  show wpAny _ _ (newExc (.type "StopIteration") [] >>= _) _ _ _
  refine wpAny_bind ?_
  simp only [newExc, newTuple]
  refine wpAny_bind (wpAny_newObj_type ?_ (by size_fits))
  refine wpAny_bind (m := firstArgMember _ _) (wpAny_of_eq (a := Value.none) (by first | rfl | (simp only [firstArgMember]; rfl)) ?_)
  refine wpAny_newObj_type ?_ (by size_fits)
  simp only [raiseNew]
  refine wpAny_bind (wpAny_handled ?_)
  rw [show A.in1.handled = none from hh]
  refine wpAny_bind (wpAny_pure (wpAny_throw ?_))
  refine wpAny_bind (wpAny_isInstance (T := "StopIteration") (b := true) ⟨_, Heap.get?_push_size _ rfl, rfl⟩ isSubtype_stop ?_)
  exact wpAny_pure (hQ _ (((Heap.SameBut.update ..).extBut.push _).push _))
end
end
section
open PySem PySem.W PySem.Calls PyProof.Rows PyProof.V PySem.Spec
noncomputable def Tups (es : Array DictEntry) (lo : Addr) (h : Heap) (as : List Addr) (i : Nat) : Prop := as.length = i ∧ ∀ (j : Nat) (a : Addr), as[j]? = some a → lo < a ∧ ∃ e, es[j]? = some e ∧ h.get? a = some (tupOf e)
section
variable {prog : Program} {w : World} {A : Around} {E : Value → Shared → Prop} {s : Shared} {R : Result → Shared → Prop} {ep : Nat} {es : Array DictEntry}
theorem it_loop {S I d : Addr} (hh : A.handled = none) (hSI : S < I) (hSd : d ≠ S) (hId : d ≠ I) (hn : es.size ≤ sizeLine) (res : Value) {h₁ : Heap}
    (hR : ∀ h' tk acc c as, (∀ b o, b ≠ S → b ≠ I → h₁.get? b = some o → h'.get? b = some o) → h'.get? S = some (PySem.W.listOf acc c) → Tups es I h' as es.size → acc.toList = as.map Value.ref → R (.ok (.ret res)) { s with heap := h', toks := tk }) :
    ∀ (k i : Nat) (h : Heap) (tk c : Nat) (acc : Array Value) (as : List Addr), es.size - i = k → i ≤ es.size → ItAt h I d S i es.size ep → BkAt h d es ep → (∀ b o, b ≠ S → b ≠ I → h₁.get? b = some o → h.get? b = some o) →
      h.get? S = some (PySem.W.listOf acc c) → acc.toList = as.map Value.ref → Tups es I h as i → I < h.objs.size →
      codeAny (model prog w) A (.builtin "list.extend.loop" ⟨[.ref S, .ref I, res], []⟩) R { s with heap := h, toks := tk } := by
  have hne : S ≠ I := Nat.ne_of_lt hSI
  intro k
  induction k with
  | zero =>
    intro i h tk c acc as hk hi hst hD hkeep hS hacc hG hIs
    have hin : i = es.size := by (first | lia | omega)
    subst hin
    refine codeAny_builtin PySem.F.entry_extend_loop ?_
    rw [Around.under_plainId PySem.F.plain_extend_loop _]
    show wpAny _ A.in1 (pyNext (.ref I) >>= _) _ _ _
    refine wpAny_bind (it_end (s := { s with heap := h, toks := tk }) (A := A.in1) hh hst hD rfl fun h' he => ?_)
    refine wpAny_pure (hR h' tk acc c as (fun b o h1 h2 e => he b o h2 (hkeep b o h1 h2 e)) (he S _ hne hS) ⟨hG.1, fun j a hj => ?_⟩ hacc)
    obtain ⟨e0, e, e1, e2⟩ := hG.2 j a hj
    exact ⟨e0, e, e1, he a _ (Nat.ne_of_gt e0) e2⟩
  | succ k ih =>
    intro i h tk c acc as hk hi hst hD hkeep hS hacc hG hIs
    have hlt : i < es.size := by (first | lia | omega)
    have hx : es[i]? = some es[i] := Array.getElem?_eq_getElem hlt
    have hsz : acc.size = i := by rw [← Array.length_toList, hacc, List.length_map, hG.1]
    refine codeAny_builtin PySem.F.entry_extend_loop ?_
    rw [Around.under_plainId PySem.F.plain_extend_loop _]
    show wpAny _ A.in1 (pyNext (.ref I) >>= _) _ _ _
    have hSl : S < h.objs.size := Heap.lt_size hS
    refine wpAny_bind (it_next (s := { s with heap := h, toks := tk }) (S := S) hst hSl hD rfl hx fun h' hst' ht hz hkp => ?_)
    dsimp only at ht hz hkp ⊢
    have hS' := hkp S _ hne hS
    have up : ∀ b o, b ≠ S → h'.get? b = some o → (h'.update S (Obj.mapSeq (·.push (Value.ref h.objs.size)))).get? b = some o := fun b o hb e => (Heap.get?_update_other _ _ (Ne.symm hb)).trans e
    have hSh := Nat.ne_of_gt hSl
    show wpAny _ A.in1 (updateSeq S (·.push (Value.ref h.objs.size)) >>= _) _ _ _
    refine wpAny_bind ?_
    refine wpAny_updateSeq hS' rfl (wpAny_pure ⟨plainId_quiet PySem.F.plain_extend_loop _, ih (i + 1) _ tk _ (acc.push (Value.ref h.objs.size)) (as ++ [h.objs.size]) (by (first | lia | omega)) hlt (hst'.keep up (Ne.symm hne)) (hD.keep fun o e => up d o hSd (hkp d o hId e))
      (fun b o h1 h2 e => up b o h1 (hkp b o h2 (hkeep b o h1 h2 e))) (Heap.get?_update_self _ hS' rfl) (by rw [Array.toList_push, hacc, List.map_append]; rfl) ⟨by rw [List.length_append, hG.1]; rfl, ?_⟩ ?_⟩) (by rw [hsz]; (first | lia | omega)) (by show (acc.push (Value.ref h.objs.size)).size ≤ sizeLine + 1; rw [Array.size_push, hsz]; (first | lia | omega))
    · intro j b hj
      rcases Nat.lt_trichotomy j as.length with h1 | h1 | h1
      · rw [List.getElem?_append_left h1] at hj
        obtain ⟨hb, e, e2, e3⟩ := hG.2 j b hj
        exact ⟨hb, e, e2, up b _ (Nat.ne_of_gt (Nat.lt_trans hSI hb)) (hkp b _ (Nat.ne_of_gt hb) e3)⟩
      · subst h1
        have hb : h.objs.size = b := by simpa using hj
        subst hb
        exact ⟨hIs, es[i], by rw [hG.1]; exact hx, up _ _ hSh ht⟩
      · have hnone : (as ++ [h.objs.size])[j]? = none := List.getElem?_eq_none (by rw [List.length_append, List.length_singleton]; (first | lia | omega))
        rw [hnone] at hj; cases hj
    · have e : (h'.update S (Obj.mapSeq (·.push (Value.ref h.objs.size)))).get? h.objs.size = _ := up _ _ hSh ht
      exact Nat.lt_trans hIs (Heap.lt_size e)
theorem it_iter {v d : Addr} {Q : Value → Shared → Prop} (hv : s.heap.IsItemsView v d) (hm : BkAt s.heap d es ep) (hQ : Q (.ref s.heap.objs.size) { s with heap := s.heap.push (itObj .none (.bool false) d 0 es.size ep .none .none) }) :
    wpAny (model prog w) A (pyIter (.ref v)) Q E s := by
  obtain ⟨ov, hov, hcv, hdv⟩ := id hv
  obtain ⟨o, ho, hdat⟩ := hm
  refine wpAny_pyIter_slot hv.typeIs PySem.F.slot_dict_items_iter (wpAny_call_entry PySem.F.slot_dict_items_iter hv.typeIs PySem.F.entry_dict_items_iter ?_ (PySem.F.args_dict_items_iter_1 _))
  unfold Builtin.«dict_items.__iter__»
  refine wpAny_bind (wpAny_pure (wpAny_bind ?_))
  unfold Builtin.Dict_items.dictOf
  refine wpAny_bind (wpAny_field hov hdv (x := .ref d) rfl (wpAny_pure (wpAny_bind ?_)))
  unfold Builtin.Dict_items.newIterator
  refine wpAny_bind (wpAny_dictEntries ho hdat (wpAny_bind (wpAny_dictEpoch ho hdat ?_)))
  have hown : Builtin.Dict_items.ownsTuple "dict_itemiterator" = true := by decide
  simp only [hown, if_true]
  refine wpAny_newObj_type (wpAny_pure ⟨_, rfl, "dict_itemiterator", _, ⟨_, Heap.get?_push_size _ rfl, rfl⟩, PySem.F.slot_dict_itemiterator_next.lookup, ?_⟩)
    (by simp only [sizeOk, Builtin.Dict_items.ownedTupleFields, List.size_toArray, List.length_append, List.length_cons, List.length_nil, sizeLine_eq]; (first | lia | omega))
  simpa [rawInt, Builtin.Dict_items.ownedTupleFields, itObj] using hQ
theorem it_extend {S r d : Addr} (hh : A.handled = none) (hv : s.heap.IsItemsView r d) (hm : BkAt s.heap d es ep) (hSr : S ≠ r) (hSd : d ≠ S) (res : Value) (c₀ : Nat) (hS : s.heap.get? S = some (PySem.W.listOf #[] c₀))
    (hR : ∀ h' tk acc c as, (∀ b o, b ≠ S → s.heap.get? b = some o → h'.get? b = some o) → h'.get? S = some (PySem.W.listOf acc c) → Tups es s.heap.objs.size h' as es.size → acc.toList = as.map Value.ref → R (.ok (.ret res)) { s with heap := h', toks := tk }) (hn : es.size ≤ sizeLine) :
    wpAny (model prog w) A.in1 (Builtin.List.listExtendWith (.ref S) (.ref r) res)
      (fun fin s' => match fin with | .done f => R (.ok f) s' | .again c' => c'.quiet = true ∧ codeAny (model prog w) A c' R s') (fun e s' => R (.error e) s') s := by
  have hSI : S < s.heap.objs.size := Heap.lt_size hS
  have hdI : d < s.heap.objs.size := let ⟨_, e, _⟩ := hm; Heap.lt_size e
  have key : ∀ (h : Heap) (c₁ tk : Nat), (∀ b o, b ≠ S → (s.heap.push (itObj .none (.bool false) d 0 es.size ep .none .none)).get? b = some o → h.get? b = some o) →
      h.get? S = some (PySem.W.listOf #[] c₁) → codeAny (model prog w) A (.builtin "list.extend.loop" ⟨[.ref S, .ref s.heap.objs.size, res], []⟩) R { s with heap := h, toks := tk } := by
    intro h c₁ tk hk hS₁
    have hI := hk s.heap.objs.size _ (Nat.ne_of_gt hSI) (Heap.get?_push_size _ rfl)
    refine it_loop (es := es) (ep := ep) (s := s) (h₁ := s.heap) hh hSI hSd (Nat.ne_of_lt hdI) hn res (fun h' tk' acc c as hk' hS' hG hacc => hR h' tk' acc c as (fun b o hb e => hk' b o hb (Nat.ne_of_lt (Heap.lt_size e)) e) hS' hG hacc)
      es.size 0 h tk c₁ #[] [] (Nat.sub_zero _) (Nat.zero_le _) ⟨_, _, _, _, hI, .inl ⟨rfl, rfl⟩⟩ (hm.keep fun o e => hk d o hSd (Heap.get?_push_of_some _ e)) (fun b o hb _ e => hk b o hb (Heap.get?_push_of_some _ e)) hS₁ rfl
      ⟨rfl, (fun j a hj => by simp at hj)⟩ (Heap.lt_size hI)
  unfold Builtin.List.listExtendWith
  refine wpAny_bind (wpAny_typeOf (T := "dict_items") hv.typeIs ?_)
  have h1 : Builtin.List.listSameRef (.ref S) (.ref r) = false := by simp [Builtin.List.listSameRef, hSr]
  have h2 : (Value.type "dict_items" == Value.type "list") = false := by decide
  have h3 : (Value.type "dict_items" == Value.type "tuple") = false := by decide
  simp only [h1, h2, h3, Bool.or_false, Bool.false_eq_true, if_false]
  refine wpAny_bind (it_iter hv hm ?_)
  have hS₁ := Heap.get?_push_of_some (itObj .none (.bool false) d 0 es.size ep .none .none) hS
  refine wpAny_bind (wpAny_holding (kdx_hint (let ⟨o, ho, hc, _⟩ := hv; ⟨o, Heap.get?_push_of_some _ ho, hc⟩) ?_))
  refine wpAny_ite_split (fun _ => ?_) (fun _ => wpAny_pure ⟨plainId_quiet PySem.F.plain_extend_loop _, key _ c₀ _ (fun b o _ e => e) hS₁⟩)
  refine wpAny_bind (wpAny_rule (wpAny_bind ?_))
  show wpAny _ _ (updateSeq S (·.push .none) >>= fun _ => updateSeq S (·.pop)) _ _ _
  refine wpAny_bind (wpAny_updateSeq hS₁ rfl ?_)
  have hS₂ := Heap.get?_update_self (Obj.mapSeq (·.push Value.none)) hS₁ rfl
  refine wpAny_updateSeq (hz := by seq_fits) hS₂ rfl ?_
  have hS₃ := Heap.get?_update_self (Obj.mapSeq (·.pop)) hS₂ rfl
  refine wpAny_pure ⟨plainId_quiet PySem.F.plain_extend_loop _, key _ _ _ (fun b o hb e => ?_) hS₃⟩
  exact (Heap.get?_update_other _ _ (Ne.symm hb)).trans ((Heap.get?_update_other _ _ (Ne.symm hb)).trans e)
theorem it_list {r d : Addr} {Q : Value → Shared → Prop} (hh : A.handled = none) (hv : s.heap.IsItemsView r d) (hm : BkAt s.heap d es ep) (hn : es.size ≤ sizeLine)
    (hQ : ∀ h' tk c as, Ext s.heap h' → h'.get? s.heap.objs.size = some (PySem.W.listOf (as.map Value.ref).toArray c) → Tups es s.heap.objs.size h' as es.size → Q (.ref s.heap.objs.size) { s with heap := h', toks := tk }) :
    wpAny (model prog w) A (call (.type "list") [.ref r]) Q E s := by
  refine callType_codes (Q₁ := fun obj s₁ => obj = .ref s.heap.objs.size ∧ s₁ = { s with heap := s.heap.push { cls := .type "list", data := .seq #[] } }) PySem.F.called_list (PySem.F.typeCall_list_1 _) PySem.F.entry_list_init
    (code_list_new _ ⟨rfl, rfl⟩) fun obj s₁ h₁ => ?_
  obtain ⟨rfl, rfl⟩ := h₁
  have hS : (s.heap.push { cls := .type "list", data := .seq #[] }).get? s.heap.objs.size = some { cls := .type "list", data := .seq #[] } := Heap.get?_push_size _ rfl
  have hr : r < s.heap.objs.size := let ⟨_, ho, _⟩ := hv; Heap.lt_size ho
  have hd : d < s.heap.objs.size := let ⟨_, e, _⟩ := hm; Heap.lt_size e
  refine ⟨⟨_, hS, rfl⟩, PySem.F.args_list_init_2 _ _, ?_⟩
  show wpAny _ _ (do let old ← Builtin.List.listItems (.ref s.heap.objs.size); Builtin.List.listUpdate (.ref s.heap.objs.size) (fun _ => #[]); letGo old.toList.reverse; Builtin.List.listExtendWith (.ref s.heap.objs.size) (.ref r) .none) _ _ _
  refine wpAny_bind ?_
  unfold Builtin.List.listItems
  refine wpAny_bind (wpAny_seqItems hS rfl (wpAny_pure ?_))
  show wpAny _ _ (updateSeq s.heap.objs.size (fun _ => #[]) >>= fun _ => letGo (#[] : Array Value).toList.reverse >>= fun _ => Builtin.List.listExtendWith (.ref s.heap.objs.size) (.ref r) .none) _ _ _
  refine wpAny_bind (wpAny_updateSeq hS rfl ?_)
  have hS₂ := Heap.get?_update_self (Obj.mapSeq (fun _ => (#[] : Array Value))) hS rfl
  have oth : ∀ b o, s.heap.get? b = some o → ((s.heap.push { cls := .type "list", data := .seq #[] }).update s.heap.objs.size (Obj.mapSeq (fun _ => (#[] : Array Value)))).get? b = some o :=
    fun b o e => (Heap.get?_update_other _ _ (Ne.symm (Nat.ne_of_lt (Heap.lt_size e)))).trans (Heap.get?_push_of_some _ e)
  refine wpAny_bind (wpAny_letGo ?_)
  refine it_extend (A := A.in1) (es := es) (ep := ep) hh (let ⟨o, ho, x⟩ := hv; ⟨o, oth r o ho, x⟩) (hm.keep fun o e => oth d o e) (Nat.ne_of_gt hr) (Nat.ne_of_lt hd) .none _ hS₂ (fun h' tk acc c as hk hS' hG hacc => ?_) hn
  have hla := Heap.lt_size hS₂
  refine ⟨rfl, hQ h' tk c as (fun b o e => hk b o (Nat.ne_of_lt (Heap.lt_size e)) (oth b o e)) ?_ ⟨hG.1, fun j a hj => ⟨Nat.lt_of_lt_of_le hla (Nat.le_of_lt (hG.2 j a hj).1), (hG.2 j a hj).2⟩⟩⟩
  rw [← hacc, Array.toArray_toList]
  exact hS'
end
end
section
section
variable {w : World} {A : Around} {E : Value → Shared → Prop} {s : Shared} {bk bd lf : Addr} {es : List DictEntry} {n : Nat}
theorem gm_plain {od : Obj} {g : Value} {tf : Value} {name : Str} {pl : Sem Bool} {Q : Value × List Value → Shared → Prop} (X : (KK w.params).In s.heap) (hb : s.heap.get? bk = some (bookObj bd lf es n)) (hd : s.heap.get? bd = some od)
    (hg : findIn (KK w.params) (.ref 108) name = some (some g)) (ht : Looks (model PR w) s.heap (typeOf g) tf) (hf : (tf != .type "function" && tf != .type "method_descriptor" && tf != .type "wrapper_descriptor") = false) (ho : lookIn name od = some none)
    (hq : Q (g, [.ref bk]) s) :
    wpAny (model PR w) A (getMethod (.ref bk) name pl) Q E s := by
  have I : InstAt s.heap bk (bookObj bd lf es n) 108 (some od) := ⟨hb, rfl, rfl, hd⟩
  have L0 := I.type (M := model PR w)
  have L1 := looks_findIn (M := model PR w) X (bk_ga _)
  have L2 := looks_findIn (M := model PR w) X (bk_gh _)
  have L3 := looks_findIn (M := model PR w) X hg
  have hc : (Manifest.canonical "collections.defaultdict.__getattribute__" != "object.__getattribute__") = false := by decide +kernel
  unfold getMethod specialOf
  refine wpAny_bind (wpAny_bind (L0.here (L1.here ?_)))
  dsimp only
  rw [hc]
  simp only [Bool.false_eq_true, if_false]
  refine wpAny_bind (wpAny_bind (L0.here (L2.here ?_)))
  simp only [Option.isSome_none, Bool.false_eq_true, if_false]
  refine wpAny_bind (wpAny_bind (L0.here (L3.here ?_)))
  dsimp only
  refine wpAny_bind (ht.here ?_)
  rw [hf]
  simp only [Bool.false_eq_true, if_false]
  refine wpAny_bind (wpAny_loadPart hb ?_)
  dsimp only
  refine wpAny_bind (wpAny_bind (wpAny_loadPart hd ?_))
  rw [nsLook_of ho]
  refine wpAny_pure ?_
  simp only [Option.isSome_none, Bool.false_eq_true, if_false]
  exact wpAny_bind (wpAny_rule (wpAny_pure hq))
theorem items_type : typeOf (.builtin "dict.items") = pure (.type "method_descriptor") := by show builtinType _ = _; rw [builtinType_eq_fast]; kernel_rfl
noncomputable def OwnOk (P : Params) (od : Obj) : Prop := od = dictOf [] 0 ∨ ∃ tf fl k, od = frozenDict P tf fl k
theorem OwnOk.no {P : Params} {od : Obj} (x : OwnOk P od) {name : Str} (hn : (Str.ofString "_frozen" == name) = false) : lookIn name od = some none := by
  rcases x with rfl | ⟨tf, fl, k, rfl⟩
  · rfl
  · unfold lookIn
    simp [Value.isStr, hn, DictEntry.refKey]
theorem WorldAt.own {B : Heap} {wd qa qm : Addr} {fz : Bool} (W : WorldAt w B wd qa qm bk bd lf fz) : ∃ od, B.get? bd = some od ∧ OwnOk w.params od := by
  have d := W.dict
  cases fz with
  | true =>
    obtain ⟨tf, fl, n, cs, qual, pm, c', ctv, e1, _⟩ := d
    exact ⟨_, e1, .inr ⟨tf, fl, n, rfl⟩⟩
  | false => exact ⟨_, d, .inl rfl⟩
theorem gm_items {od : Obj} {pl : Sem Bool} {Q : Value × List Value → Shared → Prop} (X : (KK w.params).In s.heap) (hb : s.heap.get? bk = some (bookObj bd lf es n)) (hd : s.heap.get? bd = some od) (ho : OwnOk w.params od)
    (hq : Q (.builtin "dict.items", [.ref bk]) s) : wpAny (model PR w) A (getMethod (.ref bk) "items" pl) Q E s :=
  gm_plain X hb hd (by kernel_rfl) (Looks.of_pure items_type) (by decide) (ho.no (by decide +kernel)) hq
theorem items_kind : builtinKind "dict.items" = some .method := by kernel_rfl
theorem items_split : splitId "dict.items" = some ("dict", "items") := by kernel_rfl
theorem items_plain : plainId "dict.items" = true := by decide +kernel
theorem items_args (a : Value) : argsOk "dict.items" ⟨[a], []⟩ := by unfold argsOk; kernel_rfl
theorem call_items {Q : Value → Shared → Prop} (X : (KK w.params).In s.heap) (hb : s.heap.get? bk = some (bookObj bd lf es n)) (hs : (bk == sysModules) = false)
    (hq : Q (.ref s.heap.objs.size) { s with heap := s.heap.push { cls := .type "dict_items", data := .fields #[.ref bk] } }) :
    wpAny (model PR w) A (call (.builtin "dict.items") [.ref bk]) Q E s := by
  have L0 : Looks (model PR w) s.heap (typeOf (.ref bk)) (.ref 108) := (Looks.ld hb).andThen .now
  have L1 := bk_notOrd X
  have L3 := bk_isDict X
  obtain ⟨hp, g, dr, tk, os⟩ := s
  dsimp only at L0 L1 L3 hb X hq
  refine call_slot (.inr items_kind) items_split items_plain PySem.F.entry_dict_items (items_args _) L0 L3 ?_
  unfold Builtin.«dict.items» Builtin.Dict.noArgs Builtin.Dict.showsAll
  repeat lk
  rw [hs]
  simp only [Bool.false_eq_true, if_false]
  exact wpAny_pure (wpAny_bind (wpAny_newObj_type (wpAny_pure hq)))
theorem tups_made {Bk : List (Str × Nat)} {lo : Addr} {h' : Heap} {as : List Addr} (He : EntsAre w es Bk) (hG : Tups es.toArray lo h' as es.toArray.size) : MadeAre h' (as.map Value.ref) Bk := by
  obtain ⟨hl, hG⟩ := hG
  rw [List.size_toArray] at hl
  simp only [List.getElem?_toArray] at hG
  induction He generalizing as with
  | nil =>
    have : as = [] := List.eq_nil_of_length_eq_zero hl
    subst this
    exact .nil
  | @cons e d es Bk hx _ ih =>
    cases as with
    | nil => simp at hl
    | cons a as =>
      obtain ⟨t, t', rfl⟩ := hx
      obtain ⟨_, e, h1, h2⟩ := hG 0 a rfl
      have h1' : _ = e := Option.some.inj h1
      subst h1'
      exact .cons ⟨a, t, t', rfl, h2⟩ (ih (as := as) (by simpa using hl) fun j b hj => hG (j + 1) b (by simpa using hj))
theorem book_list {r : Addr} {Bk : List (Str × Nat)} {Q : Value → Shared → Prop} (hh : A.handled = none) (hv : s.heap.IsItemsView r bk) (hb : s.heap.get? bk = some (bookObj bd lf es n)) (He : EntsAre w es Bk) (hn : es.length ≤ sizeLine)
    (hQ : ∀ h' tk c vs, Ext s.heap h' → h'.get? s.heap.objs.size = some (PySem.W.listOf vs.toArray c) → MadeAre h' vs Bk → Q (.ref s.heap.objs.size) { s with heap := h', toks := tk }) :
    wpAny (model PR w) A (call (.type "list") [.ref r]) Q E s :=
  it_list hh hv ⟨_, hb, rfl⟩ (by rw [List.size_toArray]; exact hn) fun h' tk c as e hl hG => hQ h' tk c _ e hl (tups_made He hG)
end
end
section
open PySem PySem.W PySem.Calls PyProof.Rows LCg
local macro_rules | `(tactic| walk_at "binaryOp Add str str") => `(tactic| (k_here; refine add_str (fun tw' tk' => ?_) (by simp only [Str.length_append, length_ofL, List.length_take, show (Str.ofString "=").length = 1 from rfl]; (first | lia | omega))))
local macro_rules | `(tactic| walk_at "compareOp In str ref") => `(tactic| (k_here; refine in_keys (by k_asm) (by assumption) (by assumption) ?_))
local macro_rules | `(tactic| walk_at "call builtin:len") => `(tactic| (k_here; refine P.len_str (by assumption) ?_))
theorem F_ext {h₀ h h' : Heap} {L : Addr} {m : Str → Option Value} (F : Fr h₀ L h m) (e : Ext h h') : Fr h₀ L h' m := F.keptAll e
local macro_rules | `(tactic| walk_at "mine upto") => `(tactic| repeat' (first | (k_unfold; (try dsimp only)) | ((fail_if_success (with_reducible show wpAny _ _ (exec (Stmt.For _ _ _ _ _) _) _ _ _)); (fail_if_success (with_reducible show wpAny _ _ (pyIter _) _ _ _)); (fail_if_success (with_reducible show wpAny _ _ (call (Value.ref 287) _) _ _ _)); first | walk1 | (dsimp only; walk1))))
set_option maxHeartbeats 8000000 in
theorem runs_walk : ∀ {w : World} {name al : List Nat} (hn : GoodN name) (ha : ∀ c ∈ al, c ∈ six) (hla : al.length ≤ 6) (hln : name.length ≤ 100) (ih : ∀ r, GoodN r → r.length < name.length → RunsSpec w r al)
  {mg mb : Str → Option Value} {p : Program} {loose : List Str} {A : Around} {s : Shared} {E : Value → Shared → Prop} {pl kl : Addr} {ys vs : List Value} {ny nk : Nat} {K : List Str} {t1 t2 : Tok} {Q : Value → Shared → Prop}
  (X : (KK w.params).In s.heap) (T : TopRead p loose mg mb s.heap) (hroom : A.depth + name.length + 20 < recursionLimit) (hh : A.handled = none) (hpl : s.heap.get? pl = some (listOf ys.toArray ny)) (hps : PairsIn s.heap ys (noZ al)) (hkl : s.heap.get? kl = some (listOf vs.toArray nk)) (hvs : StrsAre vs K)
  (hQ : ∀ h' tk t, Ext s.heap h' → Q (.int (runs K al name : Nat) t) ⟨h', s.gens, s.drawn, tk, s.os⟩),
  wpAny (model PySem.Challenge.rw_in0022_01.row.toRowW.prog w) A (call (.ref 287) [.str (ofL name) t1, .str (ofL al) t2, .ref pl, .ref kl]) Q E s := by
  k_fill
  intro w name al hn ha hla hln ih mg mb p loose A s E pl kl ys vs ny nk K t1 t2 Q X T hroom hh hpl hps hkl hvs hQ
  have hsl : sizeLine = 16777216 := by decide
  refine wpAny_call (enterP X T (by k_is) (by k_is) (by (first | lia | omega)) (BindsTo.of_eq rfl) (locs rfl) (fun h₁ L' hL F N => ?_) rfl rfl rfl (by decide))
  (try dsimp only)
  walk_at "mine upto"
  · rename (enc name al ∈ K) => hm
    dsimp only
    have q := fun h' tk t e => hQ h' tk t e
    rw [runs_old hm] at q
    exact q _ _ _ (Fr.keep (by assumption))
  · rename (¬ enc name al ∈ K) => hm
    rename Fr s.heap L' _ _ => F₃
    rename News s.heap L' _ _ => N₃
    obtain ⟨sg0, fo0, r0, F₄⟩ := fr_mR (W := 1) F₃ (by rfl) (by rfl) (by rfl) (by rfl) (by rfl)
    clear F₃
    refine wpAny_For ?_
    walk_at "mine upto"
    refine pairs_loop (its := ys.toArray) (fun i m₁ => i ≤ (noZ al).length ∧ ∃ sg fo tw, m₁ = mR sg fo ((1 + upTo (runs K al) name (noZ al) i : Nat) : Int) tw (.str (ofL name) t1) (.str (ofL al) t2) pl kl r0) hh (by rfl) (by rfl) (by rfl) F₄ N₃ (.inl ⟨_, hpl, rfl, _, rfl⟩) ⟨Nat.zero_le _, sg0, fo0, _, rfl⟩ ?turn ?done
    case turn =>
      rintro i v m₁ hv ⟨hi, sg, fo, tw, rfl⟩
      have hv' : ys[i]? = some v := by simpa using hv
      obtain ⟨c, hc, a, ta, tb, rfl, hat⟩ := hps.get hv'
      refine ⟨a, _, _, _, _, rfl, .inr hat, rfl, rfl, ?_⟩
      intro h₅ tk₅ I oI E' F₅ N₅
      have hil : i < (noZ al).length := (List.getElem?_eq_some_iff.mp hc).1
      obtain ⟨hc6, hc9⟩ := noZ_mem ha (List.mem_of_getElem? hc)
      have hf1 := foldC_ne hc6 hc9
      have hf2 := foldC_le c
      have hfz : ¬ ((ofL (foldC c)).length : Int) ≥ 2 ^ 63 := by rw [length_ofL]; (first | lia | omega)
      rw [mR_pair] at F₅
      have F₆ : Fr s.heap L' h₅ _ := F₅
      have N₆ : News s.heap L' h₅ _ := N₅
      clear F₅ N₅ F₄ N₃
      walk_at "mine upto"
      · rename ((Txt.slice _ _ _ == _) = true) => hs
        rename Fr s.heap L' _ _ => Fz
        rename News s.heap L' _ _ => Nz
        rw [length_ofL, slice_tail _ _ hf1, ofL_beq] at hs
        have hr := rest_yes hf1 (of_decide_eq_true hs)
        generalize hrr : name.take (name.length - (foldC c).length) = r at hr
        have hrn : GoodN r := fun y hy => hn y (rest_sub hr y hy)
        have hrl := rest_lt hr
        rw [length_ofL, slice_init _ _ hf1, hrr]
        clear hs
        refine (ih r hrn hrl) (X.keeps Fz.keep) (T.keeps Fz.keep) (by show A.depth + 1 + _ + _ < _; (first | lia | omega)) hh (Fz.keep _ _ hpl) (hps.keeps Fz.keep) (Fz.keep _ _ hkl) hvs fun h' tk t e => ?_
        have F₇ := F_ext Fz e
        have N₇ := News.ext Nz e
        clear Fz Nz
        k_steps
        rename Fr s.heap L' _ _ => Fw
        rename News s.heap L' _ _ => Nw
        rw [mR_runs] at Fw
        have hwi : ((1 + upTo (runs K al) name (noZ al) i : Nat) : Int) + ((runs K al r : Nat) : Int) = ((1 + upTo (runs K al) name (noZ al) (i + 1) : Nat) : Int) := by
          rw [upTo_some (f := runs K al) hc hr]; (first | lia | omega)
        rw [hwi] at Fw
        exact ⟨_, _, _, rfl, Fw, Nw, hil, _, _, _, rfl⟩
      · rename ((Txt.slice _ _ _ == _) = false) => hs
        rename Fr s.heap L' _ _ => Fz
        rename News s.heap L' _ _ => Nz
        rw [length_ofL, slice_tail _ _ hf1, ofL_beq] at hs
        have hr : rest? name c = none := rest_no (of_decide_eq_false hs)
        rw [← upTo_none (f := runs K al) hc hr] at Fz
        exact ⟨_, _, _, rfl, Fz, Nz, hil, _, _, _, rfl⟩
    case done =>
      rintro m₁ h₅ tk₅ ⟨hi, sg, fo, tw, rfl⟩ F₅ N₅
      have hz : ys.toArray.size = (noZ al).length := by rw [List.size_toArray]; exact hps.len
      rw [hz, upTo_noZ, upTo_all] at F₅
      have F₆ : Fr s.heap L' h₅ _ := F₅
      clear F₅ F₄
      k_steps
      dsimp only
      have q := fun h' tk t e => hQ h' tk t e
      rw [runs_rec hm] at q
      exact q _ _ _ (Fr.keep (by assumption))
theorem runs_all {w : World} {al : List Nat} (ha : ∀ c ∈ al, c ∈ six) (hla : al.length ≤ 6) : ∀ (n : Nat) (name : List Nat), name.length ≤ n → n ≤ 100 → GoodN name → RunsSpec w name al := by
  intro n
  induction n with
  | zero =>
    intro name h _ hn
    have e := @runs_walk w name al hn ha hla (by (first | lia | omega)) (fun r _ hl => by (first | lia | omega))
    assumption
  | succ n ih =>
    intro name h h9 hn
    have ih' : ∀ r, GoodN r → r.length < name.length → RunsSpec w r al := fun r hr hl => by
      have e := @ih r (by (first | lia | omega)) (by (first | lia | omega)) hr
      assumption
    have e := @runs_walk w name al hn ha hla (by (first | lia | omega)) ih'
    assumption
theorem runs_good {w : World} {name al : List Nat} (hn : GoodN name) (hl : name.length ≤ 100) (hal : GoodA al) : RunsSpec w name al := by
  have e := @runs_all w al hal.six hal.len name.length name (Nat.le_refl _) hl hn
  assumption
end
section
local macro_rules | `(tactic| walk_at "subscriptTail") => `(tactic| (k_here; first | (refine sub_world (by k_asm) (by assumption) ?_; first | refine world_asked (by k_asm) (by assumption) ?_ | refine world_made (by k_asm) (by assumption) ?_ | refine world_book (by k_asm) (by assumption) ?_) | (refine last_item (by assumption) ?_)))
local macro_rules | `(tactic| walk_at "getAttr ref") => `(tactic| (k_here; first
  | ((with_reducible show wpAny _ _ (getAttr _ (Str.ofString "name") _) _ _ _); refine name_K (by k_asm) (by k_asm) (by assumption) (by assumption) (by dsimp only [Around.deeper]; (first | lia | omega)) (News.pair (by k_asm) (by k_mem) (by k_mem)) ?_; intro h' tk' F' N' hp'; clear hp')
  | ((with_reducible show wpAny _ _ (getAttr _ (Str.ofString "value") _) _ _ _); refine value_K (by k_asm) (by k_asm) (by assumption) (by assumption) (by dsimp only [Around.deeper]; (first | lia | omega)) (News.pair (by k_asm) (by k_mem) (by k_mem)) ?_; intro h' tk' F' N' hp'; clear hp')))
local macro_rules | `(tactic| walk_at "call ref") => `(tactic| (k_here; first
  | ((with_reducible show wpAny _ _ (call (Value.ref 224) _) _ _ _); refine b1_K (by k_asm) (by k_asm) (by assumption) (by assumption) (by dsimp only [Around.deeper]; (first | lia | omega)) (by assumption) ?_; intro h' tk' F' N')
  | ((with_reducible show wpAny _ _ (call (Value.ref 270) _) _ _ _); rename (_ → foldOf _ = _) => hfo'; rename (inB1 _ = false) => hb1'; refine b3_K (by k_asm) (by k_asm) (by assumption) (by assumption) (by dsimp only [Around.deeper]; (first | lia | omega)) (by assumption) ?_; rw [hfo' hb1']; intro h' tk' u' F' N')))
local macro_rules | `(tactic| walk_at "call builtin:len") => `(tactic| (k_here; refine P.len_str (by assumption) ?_))
local macro_rules | `(tactic| walk_at "binaryOp Add str str") => `(tactic| (k_here; refine add_str (fun tw' tk' => ?_) (by simp only [Str.length_append, length_ofL, List.length_take, show (Str.ofString "=").length = 1 from rfl]; (first | lia | omega))))
theorem led_in {B h : Heap} {L : Addr} {a b c : Addr × Obj} {qa qm bk bd lf : Addr} {ka : List Value} {ms : List Value} {na nm nb : Nat} {es : List DictEntry} (N : News B L h [a, b, c, (qa, listOf ka.toArray na), (qm, listOf ms.toArray nm), (bk, bookObj bd lf es nb)]) :
    News B L h ((qa, listOf ka.toArray na) :: (qm, listOf (ms ++ []).toArray nm) :: (bk, bookObj bd lf es nb) :: [a, b]) := by
  rw [List.append_nil]
  intro q hq
  refine N q ?_
  simp only [List.mem_cons, List.not_mem_nil, or_false] at hq ⊢
  rcases hq with e | e | e | e | e
  · exact .inr (.inr (.inr (.inl e)))
  · exact .inr (.inr (.inr (.inr (.inl e))))
  · exact .inr (.inr (.inr (.inr (.inr e))))
  · exact .inl e
  · exact .inr (.inl e)
set_option maxHeartbeats 8000000 in
theorem made_cons : ∀ {w : World} {mg mb : Str → Option Value} {p : Program} {loose : List Str} {A : Around} {s : Shared} {Q : Value → Shared → Prop} {E : Value → Shared → Prop} {name al : List Nat} (hnm : GoodN name) (hal : GoodA al) (hne : name ≠ []) (hn9 : name.length ≤ 100) (ha : ∀ r, GoodN r → r.length < name.length → AskSpec w r al) {B0 : Heap} {wd qa qm bk bd lf : Addr} {fz : Bool} {as ms : List Value} {es : List DictEntry} {Bk : List (Str × Nat)} {t : Tok}
  (X0 : (KK w.params).In B0) (T0 : TopRead p loose mg mb B0) (hroom : A.depth + 60 * name.length + 44 < recursionLimit) (hh : A.handled = none) (Ap0 : Apart B0 qa qm bk) (C0 : Cells B0 s.heap qa qm bk bd lf (as ++ [.str (enc name al) t]) ms es) (W0 : WorldAt w B0 wd qa qm bk bd lf fz)
  (He : EntsAre w es Bk) (Hg : GoodBk Bk) (b1 : ms.length + fbound name.length ≤ 100000) (b2 : es.length + fbound name.length ≤ 100000) (b3 : as.length + name.length ≤ 1000)
  (h : ∀ h' tk t' es' nms D, Cells B0 h' qa qm bk bd lf (as ++ [.str (enc name al) t]) (ms ++ nms) es' → MadeAre h' nms (D ++ [(enc name al, ways al name)]) → EntsAre w es' (bkAfter fz Bk D) → Good name.length al D →
    (fz = true → enc name al ∉ Bk.map (·.1) → D.length + 1 = runs (Bk.map (·.1)) al name) → D.length + 1 ≤ fbound name.length →
    Q (.int (ways al name : Nat) t') { s with heap := h', toks := tk }),
  wpAny (model PySem.Challenge.rw_in0022_01.row.toRowW.prog w) A (call (.ref 301) [.ref wd]) Q E s := by
  k_fill
  intro w mg mb p loose A s Q E name al hnm hal hne hn9 ha B0 wd qa qm bk bd lf fz as ms es Bk t X0 T0 hroom hh Ap0 C0 W0 He Hg b1 b2 b3 h
  have hb : (ofL name == Str.ofString "") = false := by rw [str_nil, ofL_beq]; exact decide_eq_false hne
  have hwy : 0 + upTo (ways al) name al al.length = ways al name := by rw [upTo_all, ways_rec al hne, Nat.zero_add] <;> rfl
  obtain ⟨B, hBB, hBk, hz, Ap⟩ : ∃ B, (∀ b o, B0.get? b = some o → B.get? b = some o) ∧ (∀ b o, B.get? b = some o → s.heap.get? b = some o) ∧ B.objs.size ≤ s.heap.objs.size ∧ Apart B qa qm bk :=
    ⟨cut B0 s.heap.objs.size, fun b o e => cut_get C0.keep e, fun b o e => C0.keep _ _ (cut_of e), cut_size _ _, Ap0.cut⟩
  have X := X0.keeps hBB
  have T := T0.keeps hBB
  have W := W0.keeps hBB
  have C : Cells B s.heap qa qm bk bd lf (as ++ [.str (enc name al) t]) ms es := ⟨hBk, C0.a, C0.m, C0.b⟩
  have hw := W.map
  have n1 := Ap.am
  have n2 := Ap.ab
  have n3 := Ap.mb
  obtain ⟨na, nm, nb, hW⟩ := C.led Ap
  have hsl : sizeLine = 16777216 := by decide
  refine wpAny_call (enterB hBk hz hW X T (by k_is) (by k_is) (by (first | lia | omega)) (BindsTo.of_eq rfl) (locs rfl) (fun h₁ L' hL F N => ?_) rfl rfl rfl (by decide))
  have l1 : qa ≠ L' := Nat.ne_of_lt (hL ▸ Heap.lt_size (hW _ (.head _)).1)
  have l2 : qm ≠ L' := Nat.ne_of_lt (hL ▸ Heap.lt_size (hW _ (.tail _ (.head _))).1)
  have l3 : bk ≠ L' := Nat.ne_of_lt (hL ▸ Heap.lt_size (hW _ (.tail _ (.tail _ (.head _)))).1)
  (try dsimp only)
  dsimp only [ledger] at N
  have hn : 61 ∉ name := hnm.ne61
  have hal6 := hal.len
  have hlast := N.get (.head _)
  k_steps
  refine parse_M (by k_asm) (by k_asm) (.head _) X T (by show A.depth + 1 + 40 < recursionLimit; (first | lia | omega)) hh hn (by rw [List.length_append, List.length_cons]; (first | lia | omega)) ?_
  rw [hnm.strip, hal.strip]
  intro h₂ x tk₂ ta tb dx kx sl ed jd F₂ N₂ hx
  k_steps
  rename Fr B L' _ _ => F₃
  rename News B L' _ _ => N₃
  obtain ⟨sg0, fo0, r0, F₃'⟩ := fr_mT (W := 0) (x := x) (c := enc name al) (t := t) (wd := wd) F₃ (by rfl) (by rfl) (by rfl) (by rfl)
  clear F₃
  have N₃' := led_in N₃
  refine iter_str (MInv w B wd qa qm bk bd lf x dx (pairObj dx (.str (ofL name) ta) (.str (ofL al) tb) kx sl) (dictOf ed jd) fz (.str (enc name al) t) (enc name al) t as ms Bk name al 0 r0) hh F₃' N₃' ?j0 ?turn ?done
  case j0 =>
    refine ⟨sg0, fo0, _, [], [], es, na, nm, nb, _, rfl, rfl, .head _, .tail _ (.head _), ?_, fun _ _ _ => .nil, ?_, Good.nil, fun _ => rfl, Nat.zero_le _, rfl, ?_⟩
    · exact List.forall_mem_cons.mpr ⟨rfl, List.forall_mem_cons.mpr ⟨rfl, List.forall_mem_nil _⟩⟩
    · cases fz
      · show EntsAre w es (Bk ++ []); rw [List.append_nil]; exact He
      · exact He
    · rw [He.length]; exact Nat.le_refl _
  case turn =>
    clear F₃' N₃' N₃ hx hlast
    rintro i c u m₁ news₁ h₄ tk₄ I oI hc ⟨sg, fo, tw, nms, D, es', na', nm', nb', ds, rfl, rfl, hxm, hdm, hsd, hmade, He', Hg', hrun, hDl, hnl, hel⟩ hI hoff F₄ N₄
    rw [mT_sign] at F₄
    have hc' : al[i]? = some c := by simpa [ofL] using hc
    have hc6 : c ∈ six := hal.six c (List.mem_of_getElem? hc')
    have hil : i < al.length := (List.getElem?_eq_some_iff.mp hc').1
    have hcL : (⟨#[c]⟩ : Str).length = 1 := rfl
    have F₅ : Fr B L' h₄ _ := F₄
    have N₅ : News B L' h₄ ((x, pairObj dx (.str (ofL name) ta) (.str (ofL al) tb) kx sl) :: (dx, dictOf ed jd) :: (I, oI) :: (qa, listOf (as ++ [Value.str (enc name al) t]).toArray na') :: (qm, listOf (ms ++ nms).toArray nm') :: (bk, bookObj bd lf es' nb') :: ds) :=
      List.forall_mem_cons.mpr ⟨N₄ _ (.tail _ (.tail _ (.tail _ (.tail _ hxm)))), List.forall_mem_cons.mpr ⟨N₄ _ (.tail _ (.tail _ (.tail _ (.tail _ hdm)))), N₄⟩⟩
    clear F₄ N₄
    have hfo : inB1 ((⟨#[c]⟩ : Str).cps.getD 0 0 : Nat) = false → foldOf ⟨#[c]⟩ = ofL (foldC c) := fun q => fold_six hc6 (fun e => by rw [b1_six hc6, e] at q; exact absurd q (by decide))
    have hf2 := foldC_le c
    have hfz : ¬ ((ofL (foldC c)).length : Int) ≥ 2 ^ 63 := by rw [length_ofL]; (first | lia | omega)
    have hb' : (ofL name != Str.ofString "") = true := by rw [bne, hb]; rfl
    have hmul : D.length ≤ 5 * fpre name.length := Nat.le_trans hDl (Nat.mul_le_mul_right _ (by (first | lia | omega)))
    have hfb := fbound_eq name.length
    have hmul1 : D.length ≤ (i + 1) * fpre name.length := Nat.le_trans hDl (Nat.mul_le_mul_right _ (Nat.le_succ _))
    k_steps
    · rename Fr B L' _ _ => Fz
      rename News B L' _ _ => Nz
      rename (inB1 _ = true) => hq
      have hr : rest? name c = none := by
        rw [b1_six hc6] at hq
        rw [of_decide_eq_true hq]
        exact rest_8203 _
      rw [← upTo_none (f := ways al) hc' hr] at Fz
      exact turn_end Fz Nz hI hxm hdm hsd hmade He' Hg' (fun q => by rw [upTo_none hc' hr]; exact hrun q) hmul1 hnl
    · rename (inB1 _ = false) => hq
      rename ((Txt.slice _ _ _ == _) = true) => hs
      rename Fr B L' _ _ => Fz
      rename News B L' _ _ => Nz
      have hc9 : c ≠ 8203 := fun e => by rw [b1_six hc6, e] at hq; exact absurd hq (by decide)
      have hf1 := foldC_ne hc6 hc9
      rw [length_ofL, slice_tail _ _ hf1, ofL_beq] at hs
      have hr := rest_yes hf1 (of_decide_eq_true hs)
      generalize hrr : name.take (name.length - (foldC c).length) = r at hr
      have hrn : GoodN r := fun y hy => hnm y (rest_sub hr y hy)
      have hrl := rest_lt hr
      rw [length_ofL, slice_init _ _ hf1, hrr]
      rw [mT_fold] at Fz
      clear hs
      k_steps
      rw [enc_eq]
      rename Fr B L' _ _ => Fy
      rename News B L' _ _ => Ny
      have hfr := fbound_pre hrl
      have hell : es'.length ≤ es.length + D.length := by rw [He.length]; exact hel
      refine ask_K (ha r hrn hrl) Fy Ny rfl rfl hI hsd X T (by show A.depth + 1 + _ + _ < _; (first | lia | omega)) hh Ap W l1 l2 l3 He' (bkAfter_good Hg Hg') (by rw [List.length_append]; (first | lia | omega)) (by (first | lia | omega)) (by rw [List.length_append, List.length_singleton]; (first | lia | omega)) ?_
      intro h₇ tk₇ t₇ es₇ nms₇ D₇ na₇ nm₇ nb₇ ds₇ F₇ N₇ sd₇ made₇ He₇ Hg₇ run₇ Dl₇ nl₇
      clear Fy Ny Fz Nz
      k_steps
      rename Fr B L' _ _ => Fw
      rename News B L' _ _ => Nw
      rw [mT_ways] at Fw
      have hwi : ((0 + upTo (ways al) name al i : Nat) : Int) + ((ways al r : Nat) : Int) = ((0 + upTo (ways al) name al (i + 1) : Nat) : Int) := by
        rw [upTo_some (f := ways al) hc' hr]; (first | lia | omega)
      rw [hwi] at Fw
      rw [List.append_assoc] at Nw
      rw [bkAfter_app] at He₇
      refine turn_end Fw Nw hI (List.mem_append_left _ hxm) (List.mem_append_left _ hdm) sd₇ (fun h' e z => (hmade h' e fun q hq => z q (List.mem_append_left _ hq)).app (made₇ h' e z)) He₇ (Hg'.app (Hg₇.mono hrl)) (fun q => ?_) ?_ ?_
      · subst q
        rw [upTo_some hc' hr, List.length_append, hrun rfl, run₇ rfl]
        all_goals rfl
      · rw [List.length_append, Nat.succ_mul]; (first | lia | omega)
      · rw [List.length_append, List.length_append]; (first | lia | omega)
    · rename (inB1 _ = false) => hq
      rename ((Txt.slice _ _ _ == _) = false) => hs
      rename Fr B L' _ _ => Fz
      rename News B L' _ _ => Nz
      have hc9 : c ≠ 8203 := fun e => by rw [b1_six hc6, e] at hq; exact absurd hq (by decide)
      have hf1 := foldC_ne hc6 hc9
      rw [length_ofL, slice_tail _ _ hf1, ofL_beq] at hs
      have hr : rest? name c = none := rest_no (of_decide_eq_false hs)
      rw [mT_fold, ← upTo_none (f := ways al) hc' hr] at Fz
      exact turn_end Fz Nz hI hxm hdm hsd hmade He' Hg' (fun q => by rw [upTo_none hc' hr]; exact hrun q) hmul1 hnl
  case done =>
    clear F₃' N₃' N₃ hx hlast
    rintro m₁ news₁ h₄ tk₄ ⟨sg, fo, tw, nms, D, es', na', nm', nb', ds, rfl, rfl, hxm, hdm, hsd, hmade, He', Hg', hrun, hDl, hnl, hel⟩ F₄ N₄
    have hsz : (ofL al).cps.size = al.length := by simp
    rw [hsz, hwy] at F₄
    rw [hsz] at hrun hDl
    have hmul : D.length ≤ 6 * fpre name.length := Nat.le_trans hDl (Nat.mul_le_mul_right _ hal6)
    have hfb := fbound_eq name.length
    have F₅ : Fr B L' h₄ _ := F₄
    have N₅ : News B L' h₄ _ := N₄
    clear F₄ N₄
    k_steps
    rename Fr B L' _ _ => Fz
    rename News B L' _ _ => Nz
    have offd := side_ne (fun q hq => Nz q (.tail _ hq)) hsd
    have tq := News.ne_cls Nz (.head _) (.tail _ (.tail _ (.head _))) (show Value.type "tuple" ≠ Value.type "list" by decide)
    refine append_K Fz Nz (.tail tq (.tail n1 (.head (List.forall_mem_cons.mpr ⟨Ne.symm n3, fun p hp => (offd p hp).2.1⟩)))) (fun h₆ F₆ N₆ => ?_) (by rw [List.size_toArray, List.length_append]; (first | lia | omega))
    rw [List.push_toArray] at N₆
    clear Fz Nz
    k_steps
    rename Fr B L' _ _ => Fw
    rename News B L' _ _ => Nw
    have Nc : News B L' _ _ := fun q hq => Nw q (.tail _ hq)
    have C₆ := Cells.of_fr Fw Nc
    rw [List.append_assoc] at C₆
    refine h _ _ _ es' (nms ++ [_]) D ⟨fun b o e => C₆.keep _ _ (hBB b o e), C₆.a, C₆.m, C₆.b⟩ ((hmade _ Fw.keep fun q hq => (Nc q (.tail _ (.tail _ (.tail _ hq)))).1).app (.cons ⟨_, t, tw, rfl, Nw.get (.head _)⟩ .nil)) He' Hg' (fun q hk => ?_) (by (first | lia | omega))
    rw [runs_rec hk, hrun q, upTo_all, Nat.add_comm]
    all_goals rfl
end
section
local macro_rules | `(tactic| walk_at "subscriptTail") => `(tactic| (k_here; first | (refine sub_world (by k_asm) (by assumption) ?_; first | refine world_asked (by k_asm) (by assumption) ?_ | refine world_made (by k_asm) (by assumption) ?_ | refine world_book (by k_asm) (by assumption) ?_) | (refine last_item (by assumption) ?_)))
local macro_rules | `(tactic| walk_at "getAttr ref") => `(tactic| (k_here; first
  | ((with_reducible show wpAny _ _ (getAttr _ (Str.ofString "name") _) _ _ _); refine name_K (by k_asm) (by k_asm) (by assumption) (by assumption) (by dsimp only [Around.deeper]; (first | lia | omega)) (News.pair (by k_asm) (by k_mem) (by k_mem)) ?_; intro h' tk' F' N' hp'; clear hp')
  | ((with_reducible show wpAny _ _ (getAttr _ (Str.ofString "value") _) _ _ _); refine value_K (by k_asm) (by k_asm) (by assumption) (by assumption) (by dsimp only [Around.deeper]; (first | lia | omega)) (News.pair (by k_asm) (by k_mem) (by k_mem)) ?_; intro h' tk' F' N' hp'; clear hp')))
local macro_rules | `(tactic| walk_at "call ref") => `(tactic| (k_here; first
  | ((with_reducible show wpAny _ _ (call (Value.ref 224) _) _ _ _); refine b1_K (by k_asm) (by k_asm) (by assumption) (by assumption) (by dsimp only [Around.deeper]; (first | lia | omega)) (by assumption) ?_; intro h' tk' F' N')
  | ((with_reducible show wpAny _ _ (call (Value.ref 270) _) _ _ _); rename (_ → foldOf _ = _) => hfo'; rename (inB1 _ = false) => hb1'; refine b3_K (by k_asm) (by k_asm) (by assumption) (by assumption) (by dsimp only [Around.deeper]; (first | lia | omega)) (by assumption) ?_; rw [hfo' hb1']; intro h' tk' u' F' N')))
local macro_rules | `(tactic| walk_at "call builtin:len") => `(tactic| (k_here; refine P.len_str (by assumption) ?_))
local macro_rules | `(tactic| walk_at "binaryOp Add str str") => `(tactic| (k_here; refine add_str (fun tw' tk' => ?_) (by simp only [Str.length_append, length_ofL, List.length_take, show (Str.ofString "=").length = 1 from rfl]; (first | lia | omega))))
theorem led_in1 {B h : Heap} {L : Addr} {a b c : Addr × Obj} {qa qm bk bd lf : Addr} {ka : List Value} {ms : List Value} {na nm nb : Nat} {es : List DictEntry} (N : News B L h [a, b, c, (qa, listOf ka.toArray na), (qm, listOf ms.toArray nm), (bk, bookObj bd lf es nb)]) :
    News B L h ((qa, listOf ka.toArray na) :: (qm, listOf (ms ++ []).toArray nm) :: (bk, bookObj bd lf es nb) :: [a, b]) := by
  rw [List.append_nil]
  intro q hq
  refine N q ?_
  simp only [List.mem_cons, List.not_mem_nil, or_false] at hq ⊢
  rcases hq with e | e | e | e | e
  · exact .inr (.inr (.inr (.inl e)))
  · exact .inr (.inr (.inr (.inr (.inl e))))
  · exact .inr (.inr (.inr (.inr (.inr e))))
  · exact .inl e
  · exact .inr (.inl e)
set_option maxHeartbeats 8000000 in
theorem made_nil : ∀ {w : World} {mg mb : Str → Option Value} {p : Program} {loose : List Str} {A : Around} {s : Shared} {Q : Value → Shared → Prop} {E : Value → Shared → Prop} {name al : List Nat} (hnm : GoodN name) (hal : GoodA al) (hne : name = []) {B0 : Heap} {wd qa qm bk bd lf : Addr} {fz : Bool} {as ms : List Value} {es : List DictEntry} {Bk : List (Str × Nat)} {t : Tok}
  (X0 : (KK w.params).In B0) (T0 : TopRead p loose mg mb B0) (hroom : A.depth + 60 * name.length + 44 < recursionLimit) (hh : A.handled = none) (Ap0 : Apart B0 qa qm bk) (C0 : Cells B0 s.heap qa qm bk bd lf (as ++ [.str (enc name al) t]) ms es) (W0 : WorldAt w B0 wd qa qm bk bd lf fz)
  (He : EntsAre w es Bk) (Hg : GoodBk Bk) (b1 : ms.length + fbound name.length ≤ 100000) (b2 : es.length + fbound name.length ≤ 100000) (b3 : as.length + name.length ≤ 1000)
  (h : ∀ h' tk t' es' nms D, Cells B0 h' qa qm bk bd lf (as ++ [.str (enc name al) t]) (ms ++ nms) es' → MadeAre h' nms (D ++ [(enc name al, ways al name)]) → EntsAre w es' (bkAfter fz Bk D) → Good name.length al D →
    (fz = true → enc name al ∉ Bk.map (·.1) → D.length + 1 = runs (Bk.map (·.1)) al name) → D.length + 1 ≤ fbound name.length →
    Q (.int (ways al name : Nat) t') { s with heap := h', toks := tk }),
  wpAny (model PySem.Challenge.rw_in0022_01.row.toRowW.prog w) A (call (.ref 301) [.ref wd]) Q E s := by
  k_fill
  intro w mg mb p loose A s Q E name al hnm hal hne B0 wd qa qm bk bd lf fz as ms es Bk t X0 T0 hroom hh Ap0 C0 W0 He Hg b1 b2 b3 h
  have hb : (ofL name == Str.ofString "") = true := by rw [str_nil, ofL_beq]; exact decide_eq_true hne
  have hwy : 1 + upTo (ways al) name al al.length = ways al name := by rw [hne, upTo_nil, ways_nil]
  have hn9 : name.length ≤ 100 := by rw [hne]; exact Nat.zero_le _
  obtain ⟨B, hBB, hBk, hz, Ap⟩ : ∃ B, (∀ b o, B0.get? b = some o → B.get? b = some o) ∧ (∀ b o, B.get? b = some o → s.heap.get? b = some o) ∧ B.objs.size ≤ s.heap.objs.size ∧ Apart B qa qm bk :=
    ⟨cut B0 s.heap.objs.size, fun b o e => cut_get C0.keep e, fun b o e => C0.keep _ _ (cut_of e), cut_size _ _, Ap0.cut⟩
  have X := X0.keeps hBB
  have T := T0.keeps hBB
  have W := W0.keeps hBB
  have C : Cells B s.heap qa qm bk bd lf (as ++ [.str (enc name al) t]) ms es := ⟨hBk, C0.a, C0.m, C0.b⟩
  have hw := W.map
  have n1 := Ap.am
  have n2 := Ap.ab
  have n3 := Ap.mb
  obtain ⟨na, nm, nb, hW⟩ := C.led Ap
  have hsl : sizeLine = 16777216 := by decide
  refine wpAny_call (enterB hBk hz hW X T (by k_is) (by k_is) (by (first | lia | omega)) (BindsTo.of_eq rfl) (locs rfl) (fun h₁ L' hL F N => ?_) rfl rfl rfl (by decide))
  have l1 : qa ≠ L' := Nat.ne_of_lt (hL ▸ Heap.lt_size (hW _ (.head _)).1)
  have l2 : qm ≠ L' := Nat.ne_of_lt (hL ▸ Heap.lt_size (hW _ (.tail _ (.head _))).1)
  have l3 : bk ≠ L' := Nat.ne_of_lt (hL ▸ Heap.lt_size (hW _ (.tail _ (.tail _ (.head _)))).1)
  (try dsimp only)
  dsimp only [ledger] at N
  have hn : 61 ∉ name := hnm.ne61
  have hal6 := hal.len
  have hlast := N.get (.head _)
  k_steps
  refine parse_M (by k_asm) (by k_asm) (.head _) X T (by show A.depth + 1 + 40 < recursionLimit; (first | lia | omega)) hh hn (by rw [List.length_append, List.length_cons]; (first | lia | omega)) ?_
  rw [hnm.strip, hal.strip]
  intro h₂ x tk₂ ta tb dx kx sl ed jd F₂ N₂ hx
  k_steps
  rename Fr B L' _ _ => F₃
  rename News B L' _ _ => N₃
  obtain ⟨sg0, fo0, r0, F₃'⟩ := fr_mT (W := 1) (x := x) (c := enc name al) (t := t) (wd := wd) F₃ (by rfl) (by rfl) (by rfl) (by rfl)
  clear F₃
  have N₃' := led_in1 N₃
  refine iter_str (MInv w B wd qa qm bk bd lf x dx (pairObj dx (.str (ofL name) ta) (.str (ofL al) tb) kx sl) (dictOf ed jd) fz (.str (enc name al) t) (enc name al) t as ms Bk name al 1 r0) hh F₃' N₃' ?j0 ?turn ?done
  case j0 =>
    refine ⟨sg0, fo0, _, [], [], es, na, nm, nb, _, rfl, rfl, .head _, .tail _ (.head _), ?_, fun _ _ _ => .nil, ?_, Good.nil, fun _ => rfl, Nat.zero_le _, rfl, ?_⟩
    · exact List.forall_mem_cons.mpr ⟨rfl, List.forall_mem_cons.mpr ⟨rfl, List.forall_mem_nil _⟩⟩
    · cases fz
      · show EntsAre w es (Bk ++ []); rw [List.append_nil]; exact He
      · exact He
    · rw [He.length]; exact Nat.le_refl _
  case turn =>
    clear F₃' N₃' N₃ hx hlast
    rintro i c u m₁ news₁ h₄ tk₄ I oI hc ⟨sg, fo, tw, nms, D, es', na', nm', nb', ds, rfl, rfl, hxm, hdm, hsd, hmade, He', Hg', hrun, hDl, hnl, hel⟩ hI hoff F₄ N₄
    rw [mT_sign] at F₄
    have hc' : al[i]? = some c := by simpa [ofL] using hc
    have hc6 : c ∈ six := hal.six c (List.mem_of_getElem? hc')
    have hil : i < al.length := (List.getElem?_eq_some_iff.mp hc').1
    have hcL : (⟨#[c]⟩ : Str).length = 1 := rfl
    have F₅ : Fr B L' h₄ _ := F₄
    have N₅ : News B L' h₄ ((x, pairObj dx (.str (ofL name) ta) (.str (ofL al) tb) kx sl) :: (dx, dictOf ed jd) :: (I, oI) :: (qa, listOf (as ++ [Value.str (enc name al) t]).toArray na') :: (qm, listOf (ms ++ nms).toArray nm') :: (bk, bookObj bd lf es' nb') :: ds) :=
      List.forall_mem_cons.mpr ⟨N₄ _ (.tail _ (.tail _ (.tail _ (.tail _ hxm)))), List.forall_mem_cons.mpr ⟨N₄ _ (.tail _ (.tail _ (.tail _ (.tail _ hdm)))), N₄⟩⟩
    clear F₄ N₄
    have hb' : (ofL name != Str.ofString "") = false := by rw [bne, hb]; rfl
    have hr : rest? name c = none := by rw [hne]; exact rest_nil c
    have hmul1 : D.length ≤ (i + 1) * fpre name.length := Nat.le_trans hDl (Nat.mul_le_mul_right _ (Nat.le_succ _))
    k_steps
    rename Fr B L' _ _ => Fz
    rename News B L' _ _ => Nz
    rw [← upTo_none (f := ways al) hc' hr] at Fz
    exact turn_end Fz Nz hI hxm hdm hsd hmade He' Hg' (fun q => by rw [upTo_none hc' hr]; exact hrun q) hmul1 hnl
  case done =>
    clear F₃' N₃' N₃ hx hlast
    rintro m₁ news₁ h₄ tk₄ ⟨sg, fo, tw, nms, D, es', na', nm', nb', ds, rfl, rfl, hxm, hdm, hsd, hmade, He', Hg', hrun, hDl, hnl, hel⟩ F₄ N₄
    have hsz : (ofL al).cps.size = al.length := by simp
    rw [hsz, hwy] at F₄
    rw [hsz] at hrun hDl
    have hmul : D.length ≤ 6 * fpre name.length := Nat.le_trans hDl (Nat.mul_le_mul_right _ hal6)
    have hfb := fbound_eq name.length
    have F₅ : Fr B L' h₄ _ := F₄
    have N₅ : News B L' h₄ _ := N₄
    clear F₄ N₄
    k_steps
    rename Fr B L' _ _ => Fz
    rename News B L' _ _ => Nz
    have offd := side_ne (fun q hq => Nz q (.tail _ hq)) hsd
    have tq := News.ne_cls Nz (.head _) (.tail _ (.tail _ (.head _))) (show Value.type "tuple" ≠ Value.type "list" by decide)
    refine append_K Fz Nz (.tail tq (.tail n1 (.head (List.forall_mem_cons.mpr ⟨Ne.symm n3, fun p hp => (offd p hp).2.1⟩)))) (fun h₆ F₆ N₆ => ?_) (by rw [List.size_toArray, List.length_append]; (first | lia | omega))
    rw [List.push_toArray] at N₆
    clear Fz Nz
    k_steps
    rename Fr B L' _ _ => Fw
    rename News B L' _ _ => Nw
    have Nc : News B L' _ _ := fun q hq => Nw q (.tail _ hq)
    have C₆ := Cells.of_fr Fw Nc
    rw [List.append_assoc] at C₆
    refine h _ _ _ es' (nms ++ [_]) D ⟨fun b o e => C₆.keep _ _ (hBB b o e), C₆.a, C₆.m, C₆.b⟩ ((hmade _ Fw.keep fun q hq => (Nc q (.tail _ (.tail _ (.tail _ hq)))).1).app (.cons ⟨_, t, tw, rfl, Nw.get (.head _)⟩ .nil)) He' Hg' (fun q hk => ?_) (by (first | lia | omega))
    rw [runs_rec hk, hrun q, upTo_all, Nat.add_comm]
    all_goals rfl
end
section
theorem ask_all {w : World} {al : List Nat} (hal : GoodA al) : ∀ (n : Nat) (name : List Nat), name.length ≤ n → n ≤ 100 → GoodN name → AskSpec w name al := by
  intro n
  induction n with
  | zero =>
    intro name h _ hn
    have hne : name = [] := List.eq_nil_of_length_eq_zero (Nat.le_zero.mp h)
    have e := @ask_spec w name al hn fun X0 T0 hroom hh Ap0 C0 W0 He Hg b1 b2 b3 h => made_nil hn hal hne X0 T0 hroom hh Ap0 C0 W0 He Hg b1 b2 b3 h
    assumption
  | succ n ih =>
    intro name h hn9 hn
    rcases Classical.em (name = []) with hne | hne
    · have e := @ask_spec w name al hn fun X0 T0 hroom hh Ap0 C0 W0 He Hg b1 b2 b3 h => made_nil hn hal hne X0 T0 hroom hh Ap0 C0 W0 He Hg b1 b2 b3 h
      assumption
    · have ih' : ∀ r, GoodN r → r.length < name.length → AskSpec w r al := fun r hr hl => by
        have e := @ih r (by (first | lia | omega)) (by (first | lia | omega)) hr
        assumption
      have e := @ask_spec w name al hn fun X0 T0 hroom hh Ap0 C0 W0 He Hg b1 b2 b3 h' => made_cons hn hal hne (by (first | lia | omega)) ih' X0 T0 hroom hh Ap0 C0 W0 He Hg b1 b2 b3 h'
      assumption
theorem ask_good {w : World} {name al : List Nat} (hn : GoodN name) (hl : name.length ≤ 100) (hal : GoodA al) : AskSpec w name al := by
  have e := @ask_all w al hal name.length name (Nat.le_refl _) hl hn
  assumption
end
section
open PySem PySem.W PySem.Calls PyProof.Rows LCg
local macro_rules | `(tactic| walk_at "subscriptTail") => `(tactic| (k_here; (refine sub_world (by k_asm) (by assumption) ?_; first | refine world_asked (by k_asm) (by assumption) ?_ | refine world_made (by k_asm) (by assumption) ?_ | refine world_book (by k_asm) (by assumption) ?_)))
local macro_rules | `(tactic| walk_at "subscriptTail") => `(tactic| (k_here; (refine sub_world (by k_asm) (by assumption) ?_; first | refine world_asked (by k_asm) (by assumption) ?_ | refine world_made (by k_asm) (by assumption) ?_ | refine world_book (by k_asm) (by assumption) ?_)))
local macro_rules | `(tactic| walk_at "mine upto") => `(tactic| repeat (first | (k_unfold; (try dsimp only)) | ((fail_if_success (with_reducible show wpAny _ _ (getMethod (Value.ref _) _ _) _ _ _)); (fail_if_success (with_reducible show wpAny _ _ (call (Value.builtin _) _) _ _ _)); (fail_if_success (with_reducible show wpAny _ _ (call (Value.type _) _) _ _ _)); (fail_if_success (with_reducible show wpAny _ _ (execs (Stmt.Assign _ _ _ :: _) _) _ _ _)); first | walk1 | (dsimp only; walk1))))
theorem fr_pt {m : Str → Option Value} {k : Str} {v : Value} (e : m k = some v) (y : Str) : (if y = k then some v else m y) = m y := by
  by_cases h : y = k
  · rw [if_pos h, h, e]
  · rw [if_neg h]
theorem fr_eq {m : Str → Option Value} {k : Str} {v : Value} (e : m k = some v) : (fun y => if y = k then some v else m y) = m := by
  funext y
  by_cases h : y = k
  · rw [if_pos h, h, e]
  · rw [if_neg h]
noncomputable def MadeRefs (B : Heap) (ds : List (Addr × Obj)) (vs : List Value) (D : List (Str × Nat)) : Prop := All2 (fun v d => ∃ a t t', v = .ref a ∧ ((a, pairOf d.1 t d.2 t') ∈ ds ∨ B.get? a = some (pairOf d.1 t d.2 t'))) vs D
theorem MadeRefs.made {B h' : Heap} {ds : List (Addr × Obj)} {vs : List Value} {D : List (Str × Nat)} (M : MadeRefs B ds vs D) (k : Ext B h') (z : ∀ p ∈ ds, h'.get? p.1 = some p.2) : MadeAre h' vs D := by
  induction M with
  | nil => exact .nil
  | cons x _ ih =>
    obtain ⟨a, t, t', e, q⟩ := x
    exact .cons ⟨a, t, t', e, q.elim (fun q => z _ q) fun q => k _ _ q⟩ ih
theorem MadeRefs.mono {B : Heap} {ds ds' : List (Addr × Obj)} {vs : List Value} {D : List (Str × Nat)} (M : MadeRefs B ds vs D) (z : ∀ p ∈ ds, p ∈ ds') : MadeRefs B ds' vs D := by
  induction M with
  | nil => exact .nil
  | cons x _ ih =>
    obtain ⟨a, t, t', e, q⟩ := x
    exact .cons ⟨a, t, t', e, q.imp (z _) id⟩ ih
theorem MadeAre.refs {B h : Heap} {L : Addr} {m : Str → Option Value} {qa qm bk bd lf as ms es vs D} (F : Fr B L h m) (C : Cells B h qa qm bk bd lf as ms es) (M : MadeAre h vs D) :
    ∃ ds : List (Addr × Obj), (∀ p ∈ ds, (h.get? p.1 = some p.2 ∧ p.1 ≠ L ∧ B.get? p.1 = none) ∧ p.1 ≠ qa ∧ p.1 ≠ qm ∧ p.1 ≠ bk) ∧ MadeRefs B ds vs D := by
  induction M with
  | nil => exact ⟨[], (fun _ q => nomatch q), .nil⟩
  | @cons v d vs D x y ih =>
    obtain ⟨ds, i1, i2⟩ := ih
    obtain ⟨a, t, t', rfl, e⟩ := x
    cases eb : B.get? a with
    | some o =>
      have : o = pairOf d.1 t d.2 t' := Option.some.inj ((F.keep _ _ eb).symm.trans e)
      subst this
      exact ⟨ds, i1, .cons ⟨a, t, t', rfl, .inr eb⟩ i2⟩
    | none =>
      have one : ∀ p ∈ [(a, pairOf d.1 t d.2 t')], (h.get? p.1 = some p.2 ∧ p.1 ≠ L ∧ B.get? p.1 = none) ∧ p.1 ≠ qa ∧ p.1 ≠ qm ∧ p.1 ≠ bk := by
        intro p hp
        rw [List.mem_singleton.mp hp]
        refine ⟨⟨e, ?_, eb⟩, ?_, ?_, ?_⟩
        · intro q
          dsimp only at q
          obtain ⟨o, es, ep, e1, e2, _⟩ := F.ns
          rw [← q, e] at e1
          cases e1
          cases e2
        · intro q; dsimp only at q; obtain ⟨n, z⟩ := C.a; rw [← q, e] at z; have z' : false = true := congrArg (fun o : Option Obj => match o with | some ⟨.type "list", _, _, _⟩ => true | _ => false) z; cases z'
        · intro q; dsimp only at q; obtain ⟨n, z⟩ := C.m; rw [← q, e] at z; have z' : false = true := congrArg (fun o : Option Obj => match o with | some ⟨.type "list", _, _, _⟩ => true | _ => false) z; cases z'
        · intro q; dsimp only at q; obtain ⟨n, z⟩ := C.b; rw [← q, e] at z; cases z
      refine ⟨(a, pairOf d.1 t d.2 t') :: ds, fun p hp => ?_, .cons ⟨a, t, t', rfl, .inl (.head _)⟩ (i2.mono fun p hp => .tail _ hp)⟩
      rcases List.mem_cons.mp hp with rfl | hp
      · exact one _ (.head _)
      · exact i1 p hp
set_option maxHeartbeats 8000000 in
theorem asked_kept : ∀ {w : World} {mg mb : Str → Option Value} {p : Program} {loose : List Str} {A : Around} {s : Shared} {B : Heap} {L wd qa qm bk bd lf : Addr} {fz : Bool} {vq ms : List Value} {na nm nb : Nat} {es : List DictEntry} {Bk : List (Str × Nat)} {tl : List (Addr × Obj)} {m : Str → Option Value} {rest : List Stmt} {P : Pos} {R : Flow → Shared → Prop}
  (X : (KK w.params).In B) (T : TopRead p loose mg mb B) (hroom : A.depth + 300 < recursionLimit) (hh : A.handled = none) (Ap : Apart B qa qm bk) (W : WorldAt w B wd qa qm bk bd lf fz)
  (He : EntsAre w es Bk) (b2 : es.length ≤ 100000) (m1 : m "world" = some (.ref wd))
  (F : Fr B L s.heap m) (N : News B L s.heap ((qa, listOf vq.toArray na) :: (qm, listOf ms.toArray nm) :: (bk, bookObj bd lf es nb) :: tl))
  (hT : ∀ q ∈ tl, q.1 ≠ qa ∧ q.1 ≠ qm ∧ q.1 ≠ bk)
  (h : ∀ h' tk kl c vs ds, Fr B L h' (fun y => if y = "kept" then some (.ref kl) else m y) → News B L h' ((qa, listOf vq.toArray na) :: (qm, listOf ms.toArray nm) :: (bk, bookObj bd lf es nb) :: (kl, listOf vs.toArray c) :: (ds ++ tl)) → (∀ q ∈ (kl, listOf vs.toArray c) :: (ds ++ tl), q.1 ≠ qa ∧ q.1 ≠ qm ∧ q.1 ≠ bk) →
    MadeRefs B ds vs Bk →
    wpAny (model PySem.Challenge.rw_in0022_01.row.toRowW.prog w) (A.deeper (envOf "_law_asked" s19.1 L 313 (.ref 312))) (execs (b19.1.drop 2) (envOf "_law_asked" s19.1 L 313 (.ref 312))) R (fun _ _ => False) ⟨h', s.gens, s.drawn, tk, s.os⟩),
  wpAny (model PySem.Challenge.rw_in0022_01.row.toRowW.prog w) (A.deeper (envOf "_law_asked" s19.1 L 313 (.ref 312))) (execs (b19.1.drop 1) (envOf "_law_asked" s19.1 L 313 (.ref 312))) R (fun _ _ => False) s := by
  k_fill
  intro w mg mb p loose A s B L wd qa qm bk bd lf fz vq ms na nm nb es Bk tl m rest P R X T hroom hh Ap W He b2 m1 F N hT h
  have hsl : sizeLine = 16777216 := by decide
  have hw := W.map
  obtain ⟨od, hod, hok⟩ := W.own
  have l3 : bk ≠ L := (N _ (.tail _ (.tail _ (.head _)))).2.1
  rw [← fr_eq m1] at F
  refine wpAny_execs_cons ?_
  walk_at "mine upto"
  refine gm_items (X.keeps (Fr.keep (by assumption))) (N _ (.tail _ (.tail _ (.head _)))).1 (Fr.keep (by assumption) _ _ hod) hok ?_
  walk_at "mine upto"
  refine call_items (X.keeps (Fr.keep (by assumption))) (N _ (.tail _ (.tail _ (.head _)))).1 Ap.sys ?_
  walk_at "mine upto"
  have hbk := (N _ (.tail _ (.tail _ (.head _)))).1
  dsimp only at hbk
  refine book_list (es := es) (n := nb) (bd := bd) (lf := lf) ?H ⟨_, Heap.get?_push_size _ rfl, rfl, rfl⟩ (Heap.get?_push_of_some _ hbk) He (by (first | lia | omega)) fun h' tk c vs e hl hM => ?_
  case H => exact hh
  dsimp only at e hl
  have e0 : Ext s.heap h' := fun b o q => e _ _ (Heap.get?_push_of_some _ q)
  have F1 := F_ext F e0
  have N1 := News.ext N e0
  obtain ⟨ds, i1, i2⟩ := MadeAre.refs F1 (Cells.of_fr F1 N1) hM
  have big : ∀ b o, s.heap.get? b = some o → (s.heap.push { cls := .type "dict_items", data := .fields #[.ref bk] }).objs.size ≠ b := fun b o q => by
    rw [Heap.size_push]; exact Nat.ne_of_gt (Nat.lt_succ_of_lt (Heap.lt_size q))
  generalize hkl : (s.heap.push { cls := .type "dict_items", data := .fields #[.ref bk] }).objs.size = kl at big hl
  have b1 := big _ _ (N _ (.head _)).1
  have b3 := big _ _ (N _ (.tail _ (.head _))).1
  have b4 := big _ _ hbk
  have b5 : kl ≠ L := by obtain ⟨o, es, ep, e1, r⟩ := F.ns; exact big _ _ e1
  have b6 : B.get? kl = none := by
    cases q : B.get? kl with
    | none => rfl
    | some o => exact absurd rfl (big _ _ (F.keep _ _ q))
  have hT' : ∀ q ∈ (kl, listOf vs.toArray c) :: (ds ++ tl), q.1 ≠ qa ∧ q.1 ≠ qm ∧ q.1 ≠ bk := fun q hq => by
    rcases List.mem_cons.mp hq with rfl | hq
    · exact ⟨b1, b3, b4⟩
    rcases List.mem_append.mp hq with hq | hq
    · exact (i1 q hq).2
    · exact hT q hq
  have N2 : News B L h' ((qa, listOf vq.toArray na) :: (qm, listOf ms.toArray nm) :: (bk, bookObj bd lf es nb) :: (kl, listOf vs.toArray c) :: (ds ++ tl)) := fun q hq => by
    rcases List.mem_cons.mp hq with rfl | hq
    · exact N1 _ (.head _)
    rcases List.mem_cons.mp hq with rfl | hq
    · exact N1 _ (.tail _ (.head _))
    rcases List.mem_cons.mp hq with rfl | hq
    · exact N1 _ (.tail _ (.tail _ (.head _)))
    rcases List.mem_cons.mp hq with rfl | hq
    · exact ⟨hl, b5, b6⟩
    rcases List.mem_append.mp hq with hq | hq
    · exact (i1 q hq).1
    · exact N1 _ (.tail _ (.tail _ (.tail _ hq)))
  clear N N1 F
  walk_at "mine upto"
  rename Fr B L _ _ => F4
  rename News B L _ _ => N4
  simp only [fr_pt m1] at F4
  exact h _ _ kl c vs ds F4 N4 hT' i2
end
section
noncomputable def lets : List Nat := [8203, 83, 383, 84]
noncomputable def letFold (c : Nat) : List Nat := if c = 8203 then [] else if c = 84 then [116] else [115]
noncomputable def rowP (x : Nat) : List Nat := blankOf x ++ writtenOf x ++ blankOf x
noncomputable def rowR (x : Nat) : List Nat := blankOf x ++ allowedOf x ++ blankOf x
theorem rowOf_eq (x : Nat) : rowOf x = rowP x ++ 61 :: rowR x := by
  unfold rowOf rowP rowR
  simp
theorem four {j : Nat} (h : j < 4) : j = 0 ∨ j = 1 ∨ j = 2 ∨ j = 3 := by omega
theorem letW_in {j : Nat} (h : j < 4) : letW j ∈ lets := by
  rcases four h with rfl | rfl | rfl | rfl <;> decide
theorem drawn_lt {x j : Nat} (h : j ∈ drawnOf x) : j < 4 := by
  unfold drawnOf at h
  simp only [List.mem_cons, List.not_mem_nil, or_false] at h
  omega
theorem written_in {x c : Nat} (h : c ∈ writtenOf x) : c ∈ lets := by
  unfold writtenOf at h
  obtain ⟨j, hj, rfl⟩ := List.mem_map.mp h
  exact letW_in (drawn_lt hj)
theorem blank_space (x : Nat) : ∀ c ∈ blankOf x, Unicode.isSpace c = true := by
  unfold blankOf
  rcases four (show x / 4096 % 4 < 4 by omega) with e | e | e | e <;> rw [e] <;> decide +kernel
theorem blank_ne (x : Nat) : 61 ∉ blankOf x := by
  unfold blankOf
  rcases four (show x / 4096 % 4 < 4 by omega) with e | e | e | e <;> rw [e] <;> decide
theorem rowP_ne (x : Nat) : 61 ∉ rowP x := by
  unfold rowP
  intro h
  rcases List.mem_append.mp h with h | h
  · rcases List.mem_append.mp h with h | h
    · exact blank_ne x h
    · have : ∀ c ∈ lets, c ≠ 61 := by decide
      exact this _ (written_in h) rfl
  · exact blank_ne x h
theorem strip_P (x : Nat) : Txt.strip (ofL (rowP x)) = ofL (writtenOf x) :=
  strip_mid _ _ _ (blank_space x) (blank_space x) fun c hc => by
    have : ∀ c ∈ lets, Unicode.isSpace c = false := by decide +kernel
    exact this _ (written_in hc)
theorem strip_R (x : Nat) : Txt.strip (ofL (rowR x)) = ofL (allowedOf x) :=
  strip_mid _ _ _ (blank_space x) (blank_space x) fun c hc => by
    have : ∀ c ∈ six, Unicode.isSpace c = false := by decide +kernel
    exact this _ (allowed_six hc)
theorem allowed_len (x : Nat) : (allowedOf x).length ≤ 6 := by
  unfold allowedOf; rw [List.length_map]; exact chosenOf_le x 6
theorem allowed_good (x : Nat) : GoodA (allowedOf x) := ⟨fun c hc => allowed_six hc, allowed_len x⟩
theorem row_len (x : Nat) : (rowP x ++ 61 :: rowR x).length ≤ 1000 := by
  have h1 := blank_le x
  have h2 := allowed_len x
  have h3 : (writtenOf x).length = 3 := rfl
  unfold rowP rowR
  simp only [List.length_append, List.length_cons]
  omega
theorem letF_good {j : Nat} (h : j < 4) : ∀ c ∈ letF j, c = 115 ∨ c = 116 := by
  rcases four h with rfl | rfl | rfl | rfl <;> decide
theorem letF_one {j : Nat} (h : j < 4) : (letF j).length ≤ 1 := by
  rcases four h with rfl | rfl | rfl | rfl <;> decide
theorem name_good (x : Nat) : GoodN (nameOf x) := by
  intro c hc
  unfold nameOf at hc
  obtain ⟨l, hl, hc⟩ := List.mem_flatten.mp hc
  obtain ⟨j, hj, rfl⟩ := List.mem_map.mp hl
  exact letF_good (drawn_lt hj) c hc
theorem name_len (x : Nat) : (nameOf x).length ≤ 3 := by
  have h1 := letF_one (show x % 4 < 4 by omega)
  have h2 := letF_one (show x / 4 % 4 < 4 by omega)
  have h3 := letF_one (show x / 16 % 4 < 4 by omega)
  unfold nameOf drawnOf
  simp only [List.map_cons, List.map_nil, List.flatten_cons, List.flatten_nil, List.length_append, List.length_nil]
  omega
theorem b1_let {c : Nat} (h : c ∈ lets) : inB1 ((⟨#[c]⟩ : Str).cps.getD 0 0 : Nat) = decide (c = 8203) := by
  have : ∀ c ∈ lets, inB1 ((⟨#[c]⟩ : Str).cps.getD 0 0 : Nat) = decide (c = 8203) := by decide +kernel
  exact this c h
theorem fold_let {c : Nat} (h : c ∈ lets) (hn : c ≠ 8203) : foldOf ⟨#[c]⟩ = ofL (letFold c) := by
  have : ∀ c ∈ lets, c ≠ 8203 → foldL ⟨#[c]⟩ = ofL (letFold c) := by decide +kernel
  rw [foldOf_list]
  exact this c h hn
theorem letFold_le (c : Nat) : (letFold c).length ≤ 100 := by
  unfold letFold
  repeat' split
  all_goals decide
theorem fold_all : ∀ l : List Nat, (∀ j ∈ l, j < 4) → ((((l.map letW).filter (· ≠ 8203)).map letFold).flatten) = (l.map letF).flatten
  | [], _ => rfl
  | j :: l, h => by
    have ih := fold_all l fun i hi => h i (.tail _ hi)
    rcases four (h j (.head _)) with rfl | rfl | rfl | rfl <;> simp_all [letW, letF, letFold]
theorem fold_name (x : Nat) : (((writtenOf x).filter (· ≠ 8203)).map letFold).flatten = nameOf x := fold_all _ fun j hj => drawn_lt hj
end
section
open PySem PySem.W PySem.Calls PyProof.Rows LCg
local macro_rules | `(tactic| walk_at "subscriptTail") => `(tactic| (k_here; (refine sub_world (by k_asm) (by assumption) ?_; first | refine world_asked (by k_asm) (by assumption) ?_ | refine world_made (by k_asm) (by assumption) ?_ | refine world_book (by k_asm) (by assumption) ?_)))
local macro_rules | `(tactic| walk_at "subscriptTail") => `(tactic| (k_here; (refine sub_world (by k_asm) (by assumption) ?_; first | refine world_asked (by k_asm) (by assumption) ?_ | refine world_made (by k_asm) (by assumption) ?_ | refine world_book (by k_asm) (by assumption) ?_)))
theorem len_cell {w : World} {A : Around} {E : Value → Shared → Prop} {s : Shared} {h₀ : Heap} {L qa qm : Addr} {oa : Obj} {vs : List Value} {n : Nat} {tl : List (Addr × Obj)} {Q : Value → Shared → Prop} (N : News h₀ L s.heap ((qa, oa) :: (qm, listOf vs.toArray n) :: tl)) (hl : vs.length ≤ 100000)
    (h : ∀ k t, Q (.int (vs.length : Nat) t) { s with toks := k }) : wpAny (model PR w) A (call (.builtin "len") [.ref qm]) Q E s := by
  refine call_len_list (items := vs.toArray) ⟨_, (N _ (.tail _ (.head _))).1, rfl, _, rfl⟩ (by rw [List.size_toArray]; (first | lia | omega)) ?_
  rw [List.size_toArray]
  exact h _ _
local macro_rules | `(tactic| walk_at "call builtin:len") => `(tactic| (k_here; refine len_cell (by k_asm) (by assumption) (fun k t => ?_)))
local macro_rules | `(tactic| walk_at "mine upto") => `(tactic| repeat (first | (k_unfold; (try dsimp only)) | ((fail_if_success (with_reducible show wpAny _ _ (call (Value.ref _) _) _ _ _)); (fail_if_success (with_reducible show wpAny _ _ (eval (Expr.ListComp _ _ _ _) _) _ _ _)); first | walk1 | (dsimp only; walk1))))
local macro_rules | `(tactic| walk_at "mine store") => `(tactic| repeat (first | (k_unfold; (try dsimp only)) | ((fail_if_success (with_reducible show wpAny _ _ (execs (Stmt.Assign _ _ _ :: _) _) _ _ _)); first | walk1 | (dsimp only; walk1))))
set_option maxHeartbeats 8000000 in
theorem asked_pair : ∀ {w : World} {mg mb : Str → Option Value} {p : Program} {loose : List Str} {A : Around} {s : Shared} {B : Heap} {L wd qa qm bk bd lf : Addr} {fz : Bool} {vq ms : List Value} {na nm nb : Nat} {es : List DictEntry} {tl : List (Addr × Obj)} {m : Str → Option Value} {x : Nat} {t1 : Tok} {R : Flow → Shared → Prop}
  (X : (KK w.params).In B) (T : TopRead p loose mg mb B) (hroom : A.depth + 300 < recursionLimit) (hh : A.handled = none) (Ap : Apart B qa qm bk) (W : WorldAt w B wd qa qm bk bd lf fz)
  (m1 : m "world" = some (.ref wd)) (m2 : m "row" = some (.str (ofL (rowOf x)) t1)) (b1 : ms.length ≤ 100000)
  (F : Fr B L s.heap m) (N : News B L s.heap ((qa, listOf vq.toArray na) :: (qm, listOf ms.toArray nm) :: (bk, bookObj bd lf es nb) :: tl))
  (hT : ∀ q ∈ tl, q.1 ≠ qa ∧ q.1 ≠ qm ∧ q.1 ≠ bk)
  (h : ∀ h' tk x' tr ta tb dx k sl es' j tl', Fr B L h' (fun y => if y = "pair" then some (.ref x') else if y = "runs" then some (.int (ms.length : Nat) tr) else m y) →
    News B L h' ((qa, listOf vq.toArray na) :: (qm, listOf ms.toArray nm) :: (bk, bookObj bd lf es nb) :: (x', pairObj dx (.str (ofL (writtenOf x)) ta) (.str (ofL (allowedOf x)) tb) k sl) :: (dx, dictOf es' j) :: tl') → (∀ q ∈ (x', pairObj dx (.str (ofL (writtenOf x)) ta) (.str (ofL (allowedOf x)) tb) k sl) :: (dx, dictOf es' j) :: tl', q.1 ≠ qa ∧ q.1 ≠ qm ∧ q.1 ≠ bk) → (∀ q ∈ tl, q ∈ tl') →
    wpAny (model PySem.Challenge.rw_in0022_01.row.toRowW.prog w) (A.deeper (envOf "_law_asked" s19.1 L 313 (.ref 312))) (execs (b19.1.drop 4) (envOf "_law_asked" s19.1 L 313 (.ref 312))) R (fun _ _ => False) ⟨h', s.gens, s.drawn, tk, s.os⟩),
  wpAny (model PySem.Challenge.rw_in0022_01.row.toRowW.prog w) (A.deeper (envOf "_law_asked" s19.1 L 313 (.ref 312))) (execs (b19.1.drop 2) (envOf "_law_asked" s19.1 L 313 (.ref 312))) R (fun _ _ => False) s := by
  k_fill
  intro w mg mb p loose A s B L wd qa qm bk bd lf fz vq ms na nm nb es tl m x t1 R X T hroom hh Ap W m1 m2 b1 F N hT h
  have hsl : sizeLine = 16777216 := by decide
  have hw := W.map
  have hr := rowOf_eq x
  rw [← fr_eq m1, ← fr_eq m2] at F
  k_steps
  rw [hr]
  refine parse_M (by k_asm) (by k_asm) (.head _) X T (by show A.depth + 1 + 40 < recursionLimit; (first | lia | omega)) hh (rowP_ne x) (row_len x) ?_
  rw [strip_P, strip_R]
  intro h₂ x' tk₂ ta tb dx kx sl ed jd F₂ N₂ hx
  walk_at "mine store"
  rename Fr B L _ _ => F₃
  rename News B L _ _ => N₃
  simp only [fr_pt m1, fr_pt m2] at F₃
  refine h _ _ x' _ ta tb dx kx sl ed jd tl F₃ (fun q hq => ?_) (fun q hq => ?_) (fun q hq => hq)
  · rcases List.mem_cons.mp hq with rfl | hq
    · exact N₃ _ (.tail _ (.tail _ (.tail _ (.head _))))
    rcases List.mem_cons.mp hq with rfl | hq
    · exact N₃ _ (.tail _ (.tail _ (.tail _ (.tail _ (.head _)))))
    rcases List.mem_cons.mp hq with rfl | hq
    · exact N₃ _ (.tail _ (.tail _ (.tail _ (.tail _ (.tail _ (.head _))))))
    rcases List.mem_cons.mp hq with rfl | hq
    · exact N₃ _ (.head _)
    rcases List.mem_cons.mp hq with rfl | hq
    · exact N₃ _ (.tail _ (.head _))
    · exact N₃ _ (.tail _ (.tail _ (.tail _ (.tail _ (.tail _ (.tail _ hq))))))
  · have ha := hx (qa, listOf vq.toArray na) (.tail _ (.head _))
    have hm := hx (qm, listOf ms.toArray nm) (.tail _ (.tail _ (.head _)))
    have hb := hx (bk, bookObj bd lf es nb) (.tail _ (.tail _ (.tail _ (.head _))))
    rcases List.mem_cons.mp hq with rfl | hq
    · exact ⟨Ne.symm ha.1, Ne.symm hm.1, Ne.symm hb.1⟩
    rcases List.mem_cons.mp hq with rfl | hq
    · exact ⟨Ne.symm ha.2, Ne.symm hm.2, Ne.symm hb.2⟩
    · exact hT q hq
end
section
open PySem PySem.W PySem.Calls PyProof.Rows LCg
local macro_rules | `(tactic| walk_at "getAttr ref") => `(tactic| (k_here; first
  | ((with_reducible show wpAny _ _ (getAttr _ (Str.ofString "name") _) _ _ _); refine name_K (by k_asm) (by k_asm) (by assumption) (by assumption) (by dsimp only [Around.deeper]; (first | lia | omega)) (News.pair (by k_asm) (by k_mem) (by k_mem)) ?_; intro h' tk' F' N' hp'; clear hp')
  | ((with_reducible show wpAny _ _ (getAttr _ (Str.ofString "value") _) _ _ _); refine value_K (by k_asm) (by k_asm) (by assumption) (by assumption) (by dsimp only [Around.deeper]; (first | lia | omega)) (News.pair (by k_asm) (by k_mem) (by k_mem)) ?_; intro h' tk' F' N' hp'; clear hp')))
local macro_rules | `(tactic| walk_at "call ref") => `(tactic| (k_here; first
  | ((with_reducible show wpAny _ _ (call (Value.ref 224) _) _ _ _); refine b1_K (by k_asm) (by k_asm) (by assumption) (by assumption) (by dsimp only [Around.deeper]; (first | lia | omega)) (by assumption) ?_; intro h' tk' F' N')
  | ((with_reducible show wpAny _ _ (call (Value.ref 270) _) _ _ _); rename (_ → foldOf _ = _) => hfo'; rename (inB1 _ = false) => hb1'; refine b3_K (by k_asm) (by k_asm) (by assumption) (by assumption) (by dsimp only [Around.deeper]; (first | lia | omega)) (by assumption) ?_; rw [hfo' hb1']; intro h' tk' u' F' N')))
local macro_rules | `(tactic| walk_at "binaryOp Add str str") => `(tactic| (k_here; refine add_str (fun tw' tk' => ?_) (by simp only [Str.length_append, length_ofL, List.length_take, show (Str.ofString "=").length = 1 from rfl]; (first | lia | omega))))
local macro_rules | `(tactic| walk_at "eval Name") => `(tactic| (k_here; (with_reducible show wpAny _ _ (eval (Expr.Name _ _) (compEnvC _ _ _ _)) _ _ _); k_dflt (first
  | (refine' blk_global ?F ?X ?T ?e ?_ ?g ?k ?x ?d; (case F => k_asm); (case X => assumption); (case T => assumption); (case e => k_is); (case g => rfl); (case k => rfl); (case x => rfl); (case d => decide); k_whole)
  | (refine' blk_built ?F ?X ?T ?e ?v ?n ?_ ?g ?b ?k ?x ?d; (case F => k_asm); (case X => assumption); (case T => assumption); (case e => k_is); (case v => boot_by_name); (case n => decide); (case g => rfl); (case b => rfl); (case k => rfl); (case x => rfl); (case d => decide); k_whole))))
local macro_rules | `(tactic| walk_at "mine upto") => `(tactic| repeat (first | (k_unfold; (try dsimp only)) | ((fail_if_success (with_reducible show wpAny _ _ (eval (Expr.ListComp _ _ _ _) _) _ _ _)); (fail_if_success (with_reducible show wpAny _ _ (pyIter _) _ _ _)); first | walk1 | (dsimp only; walk1))))
local macro_rules | `(tactic| walk_at "mine store") => `(tactic| repeat (first | (k_unfold; (try dsimp only)) | ((fail_if_success (with_reducible show wpAny _ _ (execs (Stmt.If _ _ _ _ :: _) _) _ _ _)); first | walk1 | (dsimp only; walk1))))
theorem filt_succ {l : List Nat} {i c : Nat} (h : l[i]? = some c) : ((l.take (i + 1)).filter (· ≠ 8203)).map letFold = ((l.take i).filter (· ≠ 8203)).map letFold ++ if c = 8203 then [] else [letFold c] := by
  rw [List.take_add_one, h, List.filter_append, List.map_append]
  by_cases e : c = 8203 <;> simp [e]
set_option maxHeartbeats 8000000 in
theorem asked_key : ∀ {w : World} {mg mb : Str → Option Value} {p : Program} {loose : List Str} {A : Around} {s : Shared} {B : Heap} {L x' dx : Addr} {tl : List (Addr × Obj)} {m : Str → Option Value} {x k : Nat} {ta tb : Tok} {sl : Array (Option Value)} {ed : List DictEntry} {j : Nat} {R : Flow → Shared → Prop}
  (X : (KK w.params).In B) (T : TopRead p loose mg mb B) (hroom : A.depth + 300 < recursionLimit) (hh : A.handled = none)
  (m1 : m "pair" = some (.ref x'))
  (F : Fr B L s.heap m) (N : News B L s.heap ((x', pairObj dx (.str (ofL (writtenOf x)) ta) (.str (ofL (allowedOf x)) tb) k sl) :: (dx, dictOf ed j) :: tl))
  (h : ∀ h' tk t, Fr B L h' (fun y => if y = "key" then some (.str (enc (nameOf x) (allowedOf x)) t) else m y) → News B L h' tl →
    wpAny (model PySem.Challenge.rw_in0022_01.row.toRowW.prog w) (A.deeper (envOf "_law_asked" s19.1 L 313 (.ref 312))) (execs (b19.1.drop 5) (envOf "_law_asked" s19.1 L 313 (.ref 312))) R (fun _ _ => False) ⟨h', s.gens, s.drawn, tk, s.os⟩),
  wpAny (model PySem.Challenge.rw_in0022_01.row.toRowW.prog w) (A.deeper (envOf "_law_asked" s19.1 L 313 (.ref 312))) (execs (b19.1.drop 4) (envOf "_law_asked" s19.1 L 313 (.ref 312))) R (fun _ _ => False) s := by
  k_fill
  intro w mg mb p loose A s B L x' dx tl m x k ta tb sl ed j R X T hroom hh m1 F N h
  have hsl : sizeLine = 16777216 := by decide
  rw [← fr_eq m1] at F
  obtain ⟨N0, hN0⟩ : ∃ N0, N0 = (x', pairObj dx (.str (ofL (writtenOf x)) ta) (.str (ofL (allowedOf x)) tb) k sl) :: (dx, dictOf ed j) :: tl := ⟨_, rfl⟩
  walk_at "mine upto"
  refine comp_eval (by k_asm) rfl (by with_unfolding_all rfl) (by decide) (by rfl) (by decide) ?_
  dsimp only
  walk_at "mine upto"
  rename Fr B L _ _ => Fa
  rename News B L _ _ => Na
  rw [← hN0] at Na
  have hwl : (writtenOf x).length = 3 := rfl
  refine cgo_signs (fun i ys nw => nw = N0 ∧ StrsOf (((writtenOf x).take i |>.filter (· ≠ 8203)).map letFold) ys ∧ i ≤ 3) hh (by rfl) (by rfl) Fa Na (by show (writtenOf x).toArray.size ≤ _; rw [List.size_toArray]; (first | lia | omega)) ?hjs ⟨rfl, .nil, Nat.zero_le _⟩ ?item ?fin
  case hjs =>
    rintro i ys nw ⟨_, hs, hi⟩
    rw [hs.length, List.length_map]
    exact Nat.le_trans (List.length_filter_le _ _) (by rw [List.length_take]; exact Nat.min_le_left _ _)
  case item =>
    rintro i c t ys nw I oI C D oC m' h' tk' E' hc ⟨rfl, hs, hi⟩ hoC h1 F4 N4 off ne
    clear Fa Na
    have hc' : (writtenOf x)[i]? = some c := by simpa [ofL] using hc
    have hc4 := written_in (List.mem_of_getElem? hc')
    have hil : i < 3 := (List.getElem?_eq_some_iff.mp hc').1
    have hcL : (⟨#[c]⟩ : Str).length = 1 := rfl
    have hb1 := b1_let hc4
    have hfo : inB1 ((⟨#[c]⟩ : Str).cps.getD 0 0 : Nat) = false → foldOf ⟨#[c]⟩ = ofL (letFold c) := fun q => fold_let hc4 (fun e => by rw [b1_let hc4, e] at q; exact absurd q (by decide))
    have hfs := filt_succ hc'
    refine wpAny_tests_one ?_
    k_steps
    · rename (inB1 _ = true) => hq
      rename Fr B L _ _ => Fz
      rename News B L _ _ => Nz
      have e8 : c = 8203 := of_decide_eq_true (hb1.symm.trans hq)
      refine ⟨_, _, oC, m', ys, _, rfl, Fz, hoC, Nz, off, rfl, ?_, hil⟩
      rw [hfs, if_pos e8, List.append_nil]
      exact hs
    · rename (inB1 _ = false) => hq
      rename Fr B L _ _ => Fz
      rename News B L _ _ => Nz
      have e8 : c ≠ 8203 := of_decide_eq_false (hb1.symm.trans hq)
      refine ⟨_, _, oC, m', _, rfl, Fz, hoC, Nz, off, rfl, ?_, hil⟩
      rw [hfs, if_neg e8]
      exact hs.snoc
  case fin =>
    rintro g ys nw ⟨rfl, hys, _⟩ D h' tk' F' N' off
    clear Fa Na N F
    have hsz : (ofL (writtenOf x)).cps.size = 3 := rfl
    rw [hsz, ← hwl, List.take_length] at hys
    rw [hN0] at N'
    have hnl := name_len x
    have hal := allowed_len x
    walk_at "mine store"
    refine join_K (by exact N') (.head _) hys ?l1 (fun c hc => by obtain ⟨_, _, rfl⟩ := List.mem_map.mp hc; exact letFold_le _) fun tj kj => ?_
    case l1 => rw [List.length_map]; exact Nat.le_trans (List.length_filter_le _ _) (by rw [hwl]; decide)
    rw [fold_name]
    walk_at "mine store"
    rename Fr B L _ _ => Fz
    rename News B L _ _ => Nz
    simp only [fr_pt m1, enc_eq] at Fz
    exact h _ _ _ Fz fun q hq => Nz q (.tail _ (.tail _ (.tail _ hq)))
end
section
open PySem PySem.W PySem.Calls PyProof.Rows LCg
local macro_rules | `(tactic| walk_at "binaryOp Add str str") => `(tactic| (k_here; refine add_str (fun tw' tk' => ?_) (by simp only [Str.length_append, length_ofL, List.length_take, show (Str.ofString "=").length = 1 from rfl]; (first | lia | omega))))
local macro_rules | `(tactic| walk_at "mine upto") => `(tactic| repeat' (first | (k_unfold; (try dsimp only)) | ((fail_if_success (with_reducible show wpAny _ _ (call (Value.ref _) _) _ _ _)); (fail_if_success (with_reducible show wpAny _ _ (call (Value.builtin _) _) _ _ _)); (fail_if_success (with_reducible show wpAny _ _ (execs (_ :: _) _) _ _ _)); first | walk1 | (dsimp only; walk1))))
theorem PairRefs.ins {h : Heap} {ds : List (Addr × Obj)} {ys : List Value} {cs : List Nat} (p : PairRefs ds ys cs) (k : ∀ q ∈ ds, h.get? q.1 = some q.2) : PairsIn h ys cs := by
  induction p with
  | nil => exact .nil
  | cons a b ih =>
    obtain ⟨ad, t, t', e, hm⟩ := a
    exact .cons ⟨ad, t, t', e, k _ hm⟩ ih
set_option maxHeartbeats 8000000 in
theorem asked_if : ∀ {w : World} {mg mb : Str → Option Value} {p : Program} {loose : List Str} {A : Around} {s : Shared} {B : Heap} {L wd qa qm bk bd lf pl : Addr} {fz : Bool} {ms ys : List Value} {na nm nb ny : Nat} {es : List DictEntry} {Bk : List (Str × Nat)} {tl : List (Addr × Obj)} {m : Str → Option Value} {name al : List Nat} {t1 t2 t3 : Tok} {R : Flow → Shared → Prop}
  (X : (KK w.params).In B) (T : TopRead p loose mg mb B) (hroom : A.depth + 300 < recursionLimit) (hh : A.handled = none) (Ap : Apart B qa qm bk) (W : WorldAt w B wd qa qm bk bd lf fz)
  (hn : GoodN name) (hn3 : name.length ≤ 3) (hal : GoodA al)
  (He : EntsAre w es Bk) (Hg : GoodBk Bk) (b1 : ms.length + 300 ≤ 100000) (b2 : es.length + 300 ≤ 100000)
  (m1 : m "world" = some (.ref wd)) (m2 : m "key" = some (.str (enc name al) t1)) (m3 : m "name" = some (.str (ofL name) t2)) (m4 : m "allowed" = some (.str (ofL al) t3)) (m5 : m "pairs" = some (.ref pl))
  (F : Fr B L s.heap m) (N : News B L s.heap ((qa, listOf ([] : List Value).toArray na) :: (qm, listOf ms.toArray nm) :: (bk, bookObj bd lf es nb) :: tl))
  (hT : ∀ q ∈ tl, q.1 ≠ qa ∧ q.1 ≠ qm ∧ q.1 ≠ bk) (hpl : (pl, listOf ys.toArray ny) ∈ tl) (hpr : PairRefs tl ys (noZ al))
  (h : ∀ h' tk es' nms D ds na nm nb, Fr B L h' m → News B L h' ((qa, listOf ([] : List Value).toArray na) :: (qm, listOf (ms ++ nms).toArray nm) :: (bk, bookObj bd lf es' nb) :: (ds ++ tl)) → (∀ q ∈ ds ++ tl, q.1 ≠ qa ∧ q.1 ≠ qm ∧ q.1 ≠ bk) →
    (∀ h', Ext B h' → (∀ p ∈ ds, h'.get? p.1 = some p.2) → MadeAre h' nms D) → EntsAre w es' (bkAfter fz Bk D) → Good (name.length + 1) al D → (fz = true → D.length = runs (Bk.map (·.1)) al name) → D.length ≤ fbound name.length →
    wpAny (model PySem.Challenge.rw_in0022_01.row.toRowW.prog w) (A.deeper (envOf "_law_asked" s19.1 L 313 (.ref 312))) (execs (b19.1.drop 6) (envOf "_law_asked" s19.1 L 313 (.ref 312))) R (fun _ _ => False) ⟨h', s.gens, s.drawn, tk, s.os⟩),
  wpAny (model PySem.Challenge.rw_in0022_01.row.toRowW.prog w) (A.deeper (envOf "_law_asked" s19.1 L 313 (.ref 312))) (execs (b19.1.drop 5) (envOf "_law_asked" s19.1 L 313 (.ref 312))) R (fun _ _ => False) s := by
  k_fill
  intro w mg mb p loose A s B L wd qa qm bk bd lf pl fz ms ys na nm nb ny es Bk tl m name al t1 t2 t3 R X T hroom hh Ap W hn hn3 hal He Hg b1 b2 m1 m2 m3 m4 m5 F N hT hpl hpr h
  have hsl : sizeLine = 16777216 := by decide
  have hal6 := hal.len
  have hee := enc_eq name al
  rw [← fr_eq m1, ← fr_eq m2, ← fr_eq m3, ← fr_eq m4, ← fr_eq m5] at F
  refine wpAny_execs_cons ?_
  walk_at "mine upto"
  · rename ((_ != _) = true) => q
    rw [enc_eq] at q
    simp at q
  rename ((_ != _) = false) => q0
  clear q0
  have k := Ap.keeps F.keep
  have C0 := Cells.of_fr F N
  have l1 := (N _ (.head _)).2.1
  have l2 := (N _ (.tail _ (.head _))).2.1
  have l3 := (N _ (.tail _ (.tail _ (.head _)))).2.1
  have hfb : fbound name.length ≤ 259 := fbound_mono (k := 3) hn3
  have hwl : ways al name ≤ 259 := Nat.le_trans (ways_le 3 al name hn3 hal6) (by decide)
  have ask := @ask_good w name al hn (by (first | lia | omega)) hal
  refine ask (B := over s.heap qa qm bk) (mg := mg) (mb := mb) (p := p) (loose := loose) (fz := fz) (Bk := Bk) (bd := bd) (lf := lf) (as := []) (ms := ms) (es := es) ?X ?T ?room ?H Ap.over C0.over ?W He Hg (by (first | lia | omega)) (by (first | lia | omega)) (by simp; (first | lia | omega)) fun h3 tk3 t' es' nms D x1 x2 x3 x4 x5 x6 => ?_
  case X => exact X.keeps k
  case T => exact T.keeps k
  case room => (show A.depth + 1 + _ + _ < _; (first | lia | omega))
  case H => exact hh
  case W => exact W.keeps k
  try dsimp only at x1
  have F3 := Fr.back F Ap l1 l2 l3 x1.keep
  have C3 := C0.back Ap x1
  obtain ⟨ds, i1, i2⟩ := x2.led F3 C3
  obtain ⟨na3, nm3, nb3, N3⟩ := news_led C3 Ap l1 l2 l3 i1
  have N4 : News B L h3 ((qa, listOf ([] : List Value).toArray na3) :: (qm, listOf (ms ++ nms).toArray nm3) :: (bk, bookObj bd lf es' nb3) :: (ds ++ tl)) := fun q hq => by
    rcases List.mem_cons.mp hq with rfl | hq
    · exact N3 _ (.head _)
    rcases List.mem_cons.mp hq with rfl | hq
    · exact N3 _ (.tail _ (.head _))
    rcases List.mem_cons.mp hq with rfl | hq
    · exact N3 _ (.tail _ (.tail _ (.head _)))
    rcases List.mem_append.mp hq with hq | hq
    · exact N3 _ (.tail _ (.tail _ (.tail _ hq)))
    · have z := N _ (.tail _ (.tail _ (.tail _ hq)))
      obtain ⟨z1, z2, z3⟩ := hT q hq
      exact ⟨x1.keep _ _ (over_get z.1 z1 z2 z3), z.2⟩
  have hT4 : ∀ q ∈ ds ++ tl, q.1 ≠ qa ∧ q.1 ≠ qm ∧ q.1 ≠ bk := fun q hq => (List.mem_append.mp hq).elim (fun hq => (i1 q hq).2) (hT q)
  clear N3 N F
  walk_at "mine upto"
  have hpl3 := (N4 _ (.tail _ (.tail _ (.tail _ (List.mem_append_right ds hpl))))).1
  try dsimp only at hpl3
  refine spec_texts (p := p) (loose := loose) (mg := mg) (mb := mb) ?X2 ?T2 ?R2 ?H2 hal hn3 hpl3 (hpr.ins fun q hq => (N4 _ (.tail _ (.tail _ (.tail _ (List.mem_append_right ds hq))))).1) fun h5 tk5 lr zs n5 e5 hlr hzs => ?_
  case H2 => exact hh
  case X2 => exact X.keeps F3.keep
  case T2 => exact T.keeps F3.keep
  case R2 => (show A.depth + 1 + _ < _; (first | lia | omega))
  try dsimp only at e5
  have F5 := F_ext F3 e5
  have N5 := News.ext N4 e5
  clear F3 N4
  walk_at "mine upto"
  refine call_len_list (items := zs.toArray) ⟨_, hlr, rfl, _, rfl⟩ (by rw [List.size_toArray, hzs]; (first | lia | omega)) ?_
  rw [List.size_toArray, hzs]
  walk_at "mine upto"
  · exfalso
    contradiction
  · simp only [fr_pt m1, fr_pt m2, fr_pt m3, fr_pt m4, fr_pt m5] at F5
    exact h h5 _ es' nms D ds na3 nm3 nb3 F5 N5 hT4 i2 x3 x4 x5 x6
end
section
open PySem PySem.W PySem.Calls PyProof.Rows LCg
noncomputable def datOf (d : Str × Nat) : PyData := .tuple [.str d.1, .int ((d.2 : Nat) : Int)]
noncomputable def KeysOk (D : List (Str × Nat)) : Prop := ∀ d ∈ D, PyData.strOk d.1 = true
theorem made_reads {h : Heap} {vs : List Value} {D : List (Str × Nat)} (M : MadeAre h vs D) : ∃ as, ReadsAll h vs (D.map datOf) as := by
  induction M with
  | nil => exact ⟨_, .nil⟩
  | cons x _ ih =>
    obtain ⟨a, t, t', rfl, e⟩ := x
    obtain ⟨as, r⟩ := ih
    exact ⟨_, .cons (.tuple e rfl rfl (.cons (.str _ _) (.cons (.int _ _) .nil))) r⟩
theorem dat_lay : ∀ {D : List (Str × Nat)}, KeysOk D → PyData.canLayAll0 (D.map datOf) = true ∧ PyData.depthAll (D.map datOf) ≤ 1
  | [], _ => ⟨rfl, Nat.zero_le _⟩
  | d :: D, h => by
    obtain ⟨h1, h2⟩ := dat_lay (D := D) fun e he => h e (.tail _ he)
    have hd := h d (.head _)
    constructor
    · rw [List.map_cons, PyData.canLayAll0, h1, Bool.and_true]
      unfold datOf
      simp [PyData.canLay0, PyData.canLayAll0, hd]
    · rw [List.map_cons, PyData.depthAll]
      unfold datOf at *
      simp [PyData.depth, PyData.depthAll] at *
      (first | lia | omega)
theorem eq_made {w : World} {A : Around} {E : Value → Shared → Prop} {s : Shared} {a b : Addr} {vs vs' : List Value} {ka kb : Nat} {D : List (Str × Nat)} {Q : Value → Shared → Prop} (ha : s.heap.get? a = some (listOf vs.toArray ka)) (hb : s.heap.get? b = some (listOf vs'.toArray kb))
    (Ma : MadeAre s.heap vs D) (Mb : MadeAre s.heap vs' D) (hk : KeysOk D) (hu : A.units + 64 < cLine) (h : Q (.bool true) s) : wpAny (model PR w) A (compareOp .Eq (.ref a) (.ref b)) Q E s := by
  obtain ⟨as, ra⟩ := made_reads Ma
  obtain ⟨bs, rb⟩ := made_reads Mb
  obtain ⟨l1, l2⟩ := dat_lay hk
  have e : PyData.canLay0 (.list (D.map datOf)) = true := by rw [PyData.canLay0]; exact l1
  have sh : SeqAt.shaped (.list (D.map datOf)) = true := by
    unfold SeqAt.shaped
    rw [e, Bool.true_and]
    exact decide_eq_true (by rw [PyData.depth]; (first | lia | omega))
  refine eq_dataH (reads_list_at ha rfl rfl (by simpa using ra)) (reads_list_at hb rfl rfl (by simpa using rb)) sh sh hu ?_
  rw [PySem.SeqAt.eqv_refl _ e]
  exact h
theorem ok_of {al : List Nat} {n : Nat} {D : List (Str × Nat)} (hal : GoodA al) (h : Good n al D) : KeysOk D := by
  intro d hd
  obtain ⟨r, rfl, _, hr⟩ := h d hd
  have : ∀ c ∈ r ++ 61 :: al, c < 0x110000 := by
    intro c hc
    rcases List.mem_append.mp hc with hc | hc
    · rcases hr c hc with rfl | rfl <;> decide
    · rcases List.mem_cons.mp hc with rfl | hc
      · decide
      · have : ∀ c ∈ six, c < 0x110000 := by decide
        exact this c (hal.six c hc)
  unfold PyData.strOk enc ofL
  rw [Array.all_eq_true_iff_forall_mem]
  intro c hc
  exact decide_eq_true (this c (by simpa using hc))
theorem KeysOk.app {D D' : List (Str × Nat)} (h : KeysOk D) (h' : KeysOk D') : KeysOk (D ++ D') := fun d hd => (List.mem_append.mp hd).elim (h d) (h' d)
end
section
open PySem PySem.W PySem.Calls PyProof.Rows LCg
local macro_rules | `(tactic| walk_at "subscriptTail") => `(tactic| (k_here; (refine sub_world (by k_asm) (by assumption) ?_; first | refine world_asked (by k_asm) (by assumption) ?_ | refine world_made (by k_asm) (by assumption) ?_ | refine world_book (by k_asm) (by assumption) ?_)))
local macro_rules | `(tactic| walk_at "subscriptTail") => `(tactic| (k_here; (refine sub_world (by k_asm) (by assumption) ?_; first | refine world_asked (by k_asm) (by assumption) ?_ | refine world_made (by k_asm) (by assumption) ?_ | refine world_book (by k_asm) (by assumption) ?_)))
local macro_rules | `(tactic| walk_at "mine upto") => `(tactic| repeat (first | (k_unfold; (try dsimp only)) | ((fail_if_success (with_reducible show wpAny _ _ (getMethod (Value.ref _) _ _) _ _ _)); (fail_if_success (with_reducible show wpAny _ _ (call (Value.builtin _) _) _ _ _)); (fail_if_success (with_reducible show wpAny _ _ (call (Value.type _) _) _ _ _)); (fail_if_success (with_reducible show wpAny _ _ (compareOp _ _ _) _ _ _)); (fail_if_success (with_reducible show wpAny _ _ (execs (_ :: _) _) _ _ _)); first | walk1 | (dsimp only; walk1))))
theorem after_items {B h h' : Heap} {L qa qm bk bd lf kl : Addr} {m : Str → Option Value} {vq ms vs : List Value} {na nm nb c : Nat} {es : List DictEntry} {Bk : List (Str × Nat)} {tl : List (Addr × Obj)}
    (F : Fr B L h m) (N : News B L h ((qa, listOf vq.toArray na) :: (qm, listOf ms.toArray nm) :: (bk, bookObj bd lf es nb) :: tl)) (hT : ∀ q ∈ tl, q.1 ≠ qa ∧ q.1 ≠ qm ∧ q.1 ≠ bk)
    (e0 : Ext h h') (hkl : h.objs.size ≤ kl) (hl : h'.get? kl = some (listOf vs.toArray c)) (hM : MadeAre h' vs Bk) :
    Fr B L h' m ∧ ∃ ds, News B L h' ((qa, listOf vq.toArray na) :: (qm, listOf ms.toArray nm) :: (bk, bookObj bd lf es nb) :: (kl, listOf vs.toArray c) :: (ds ++ tl)) ∧ (∀ q ∈ (kl, listOf vs.toArray c) :: (ds ++ tl), q.1 ≠ qa ∧ q.1 ≠ qm ∧ q.1 ≠ bk) ∧
      (∀ h', Ext B h' → (∀ p ∈ ds, h'.get? p.1 = some p.2) → MadeAre h' vs Bk) := by
  have F1 := F_ext F e0
  have N1 := News.ext N e0
  obtain ⟨ds, i1, i2⟩ := MadeAre.led F1 (Cells.of_fr F1 N1) hM
  have big : ∀ b o, h.get? b = some o → kl ≠ b := fun b o q => Nat.ne_of_gt (Nat.lt_of_lt_of_le (Heap.lt_size q) hkl)
  have b1 := big _ _ (N _ (.head _)).1
  have b3 := big _ _ (N _ (.tail _ (.head _))).1
  have b4 := big _ _ (N _ (.tail _ (.tail _ (.head _)))).1
  have b5 : kl ≠ L := by obtain ⟨o, es, ep, e1, r⟩ := F.ns; exact big _ _ e1
  have b6 : B.get? kl = none := by
    cases q : B.get? kl with
    | none => rfl
    | some o => exact absurd rfl (big _ _ (F.keep _ _ q))
  refine ⟨F1, ds, fun q hq => ?_, fun q hq => ?_, i2⟩
  · rcases List.mem_cons.mp hq with rfl | hq
    · exact N1 _ (.head _)
    rcases List.mem_cons.mp hq with rfl | hq
    · exact N1 _ (.tail _ (.head _))
    rcases List.mem_cons.mp hq with rfl | hq
    · exact N1 _ (.tail _ (.tail _ (.head _)))
    rcases List.mem_cons.mp hq with rfl | hq
    · exact ⟨hl, b5, b6⟩
    rcases List.mem_append.mp hq with hq | hq
    · exact (i1 q hq).1
    · exact N1 _ (.tail _ (.tail _ (.tail _ hq)))
  · rcases List.mem_cons.mp hq with rfl | hq
    · exact ⟨b1, b3, b4⟩
    rcases List.mem_append.mp hq with hq | hq
    · exact (i1 q hq).2
    · exact hT q hq
set_option maxHeartbeats 8000000 in
theorem asked_free : ∀ {w : World} {mg mb : Str → Option Value} {p : Program} {loose : List Str} {A : Around} {s : Shared} {B : Heap} {L wd qa qm bk bd lf : Addr} {vq ms : List Value} {na nm nb : Nat} {es : List DictEntry} {Bk : List (Str × Nat)} {tl : List (Addr × Obj)} {m : Str → Option Value} {fz : Bool} {R : Flow → Shared → Prop}
  (X : (KK w.params).In B) (T : TopRead p loose mg mb B) (hroom : A.depth + 300 < recursionLimit) (hh : A.handled = none) (hu : A.units + 100 < cLine) (Ap : Apart B qa qm bk) (W : WorldAt w B wd qa qm bk bd lf fz)
  (He : EntsAre w es Bk) (hk : KeysOk Bk) (b2 : es.length ≤ 100000) (m1 : m "world" = some (.ref wd)) (m2 : m "frozen" = some (.bool false))
  (F : Fr B L s.heap m) (N : News B L s.heap ((qa, listOf vq.toArray na) :: (qm, listOf ms.toArray nm) :: (bk, bookObj bd lf es nb) :: tl))
  (hT : ∀ q ∈ tl, q.1 ≠ qa ∧ q.1 ≠ qm ∧ q.1 ≠ bk) (hM : ∀ h', Ext B h' → (∀ p ∈ tl, h'.get? p.1 = some p.2) → MadeAre h' ms Bk)
  (h : ∀ h' tk tl' m', Fr B L h' m' → News B L h' ((qa, listOf vq.toArray na) :: (qm, listOf ms.toArray nm) :: (bk, bookObj bd lf es nb) :: tl') → (∀ q ∈ tl, q ∈ tl') → R (.ret (.bool true)) ⟨h', s.gens, s.drawn, tk, s.os⟩),
  wpAny (model PySem.Challenge.rw_in0022_01.row.toRowW.prog w) (A.deeper (envOf "_law_asked" s19.1 L 313 (.ref 312))) (execs (b19.1.drop 6) (envOf "_law_asked" s19.1 L 313 (.ref 312))) R (fun _ _ => False) s := by
  k_fill
  intro w mg mb p loose A s B L wd qa qm bk bd lf vq ms na nm nb es Bk tl m fz R X T hroom hh hu Ap W He hk b2 m1 m2 F N hT hM h
  have hsl : sizeLine = 16777216 := by decide
  have hw := W.map
  obtain ⟨od, hod, hok⟩ := W.own
  rw [← fr_eq m1, ← fr_eq m2] at F
  refine wpAny_execs_cons ?_
  walk_at "mine upto"
  refine wpAny_execs_cons ?_
  walk_at "mine upto"
  refine gm_items (X.keeps (Fr.keep (by assumption))) (N _ (.tail _ (.tail _ (.head _)))).1 (Fr.keep (by assumption) _ _ hod) hok ?_
  walk_at "mine upto"
  refine call_items (X.keeps (Fr.keep (by assumption))) (N _ (.tail _ (.tail _ (.head _)))).1 Ap.sys ?_
  walk_at "mine upto"
  have hbk := (N _ (.tail _ (.tail _ (.head _)))).1
  dsimp only at hbk
  refine book_list (es := es) (n := nb) (bd := bd) (lf := lf) ?H ⟨_, Heap.get?_push_size _ rfl, rfl, rfl⟩ (Heap.get?_push_of_some _ hbk) He (by (first | lia | omega)) fun h' tk c vs e hl hMv => ?_
  case H => exact hh
  dsimp only at e hl
  obtain ⟨F4, ds, N4, hT4, i2⟩ := after_items F N hT (fun b o q => e _ _ (Heap.get?_push_of_some _ q)) (by rw [Heap.size_push]; exact Nat.le_succ _) hl hMv
  clear N F
  walk_at "mine upto"
  refine eq_made (D := Bk) (N4 _ (.tail _ (.tail _ (.tail _ (.head _))))).1 (N4 _ (.tail _ (.head _))).1 (i2 _ F4.keep fun q hq => (N4 _ (.tail _ (.tail _ (.tail _ (.tail _ (List.mem_append_left _ hq)))))).1) (hM _ F4.keep fun q hq => (N4 _ (.tail _ (.tail _ (.tail _ (.tail _ (List.mem_append_right _ hq)))))).1) hk ?U ?_
  case U => (show A.units + 3 + 64 < cLine; (first | lia | omega))
  walk_at "mine upto"
  exact h h' _ _ _ F4 N4 fun q hq => .tail _ (List.mem_append_right _ hq)
end
section
open PySem PySem.W PySem.Calls PyProof.Rows LCg
local macro_rules | `(tactic| walk_at "subscriptTail") => `(tactic| (k_here; (refine sub_world (by k_asm) (by assumption) ?_; first | refine world_asked (by k_asm) (by assumption) ?_ | refine world_made (by k_asm) (by assumption) ?_ | refine world_book (by k_asm) (by assumption) ?_)))
local macro_rules | `(tactic| walk_at "subscriptTail") => `(tactic| (k_here; (refine sub_world (by k_asm) (by assumption) ?_; first | refine world_asked (by k_asm) (by assumption) ?_ | refine world_made (by k_asm) (by assumption) ?_ | refine world_book (by k_asm) (by assumption) ?_)))
local macro_rules | `(tactic| walk_at "call builtin:len") => `(tactic| (k_here; refine len_cell (by k_asm) (by assumption) (fun k t => ?_)))
local macro_rules | `(tactic| walk_at "mine comp") => `(tactic| repeat (first | (k_unfold; (try dsimp only)) | ((fail_if_success (with_reducible show wpAny _ _ (eval (Expr.ListComp _ _ _ _) _) _ _ _)); (fail_if_success (with_reducible show wpAny _ _ (pyIter _) _ _ _)); (fail_if_success (with_reducible show wpAny _ _ (call (Value.ref _) _) _ _ _)); first | walk1 | (dsimp only; walk1))))
local macro_rules | `(tactic| walk_at "mine upto") => `(tactic| repeat (first | (k_unfold; (try dsimp only)) | ((fail_if_success (with_reducible show wpAny _ _ (getMethod (Value.ref _) _ _) _ _ _)); (fail_if_success (with_reducible show wpAny _ _ (call (Value.builtin "dict.items") _) _ _ _)); (fail_if_success (with_reducible show wpAny _ _ (call (Value.type _) _) _ _ _)); (fail_if_success (with_reducible show wpAny _ _ (compareOp _ (Value.ref _) _) _ _ _)); first | walk1 | (dsimp only; walk1))))
theorem strsAre_snoc {vs : List Value} {ks : List Str} {k : Str} {t : Tok} (h : StrsAre vs ks) : StrsAre (vs ++ [.str k t]) (ks ++ [k]) := by
  induction h with
  | nil => exact .cons _ _ .nil
  | cons => exact .cons _ _ (by assumption)
theorem strsAre_len {vs : List Value} {ks : List Str} (h : StrsAre vs ks) : vs.length = ks.length := by
  induction h with
  | nil => rfl
  | cons => simp_all
set_option maxHeartbeats 8000000 in
theorem asked_frozen : ∀ {w : World} {mg mb : Str → Option Value} {p : Program} {loose : List Str} {A : Around} {s : Shared} {B : Heap} {L wd qa qm bk bd lf pl kl : Addr} {vq ms ys vk : List Value} {na nm nb ny ck r0 : Nat} {es : List DictEntry} {Bk : List (Str × Nat)} {tl : List (Addr × Obj)} {m : Str → Option Value} {name al : List Nat} {t2 t3 tr : Tok} {fz : Bool} {R : Flow → Shared → Prop}
  (X : (KK w.params).In B) (T : TopRead p loose mg mb B) (hroom : A.depth + 300 < recursionLimit) (hh : A.handled = none) (hu : A.units + 100 < cLine) (Ap : Apart B qa qm bk) (W : WorldAt w B wd qa qm bk bd lf fz)
  (hn : GoodN name) (hn3 : name.length ≤ 3) (hal : GoodA al)
  (He : EntsAre w es Bk) (hk : KeysOk Bk) (b2 : es.length ≤ 100000) (b1 : ms.length ≤ 100000) (m1 : m "world" = some (.ref wd)) (m2 : m "frozen" = some (.bool true)) (m3 : m "name" = some (.str (ofL name) t2)) (m4 : m "allowed" = some (.str (ofL al) t3)) (m5 : m "pairs" = some (.ref pl)) (m6 : m "kept" = some (.ref kl)) (m7 : m "runs" = some (.int (r0 : Nat) tr))
  (hlen : ms.length = r0 + runs (Bk.map (·.1)) al name)
  (F : Fr B L s.heap m) (N : News B L s.heap ((qa, listOf vq.toArray na) :: (qm, listOf ms.toArray nm) :: (bk, bookObj bd lf es nb) :: tl))
  (hT : ∀ q ∈ tl, q.1 ≠ qa ∧ q.1 ≠ qm ∧ q.1 ≠ bk) (hpl : (pl, listOf ys.toArray ny) ∈ tl) (hpr : PairRefs tl ys (noZ al)) (hkl : (kl, listOf vk.toArray ck) ∈ tl) (hkp : MadeRefs B tl vk Bk)
  (h : ∀ h' tk tl' m', Fr B L h' m' → News B L h' ((qa, listOf vq.toArray na) :: (qm, listOf ms.toArray nm) :: (bk, bookObj bd lf es nb) :: tl') → (∀ q ∈ tl, q ∈ tl') → R (.ret (.bool true)) ⟨h', s.gens, s.drawn, tk, s.os⟩),
  wpAny (model PySem.Challenge.rw_in0022_01.row.toRowW.prog w) (A.deeper (envOf "_law_asked" s19.1 L 313 (.ref 312))) (execs (b19.1.drop 6) (envOf "_law_asked" s19.1 L 313 (.ref 312))) R (fun _ _ => False) s := by
  k_fill
  intro w mg mb p loose A s B L wd qa qm bk bd lf pl kl vq ms ys vk na nm nb ny ck r0 es Bk tl m name al t2 t3 tr fz R X T hroom hh hu Ap W hn hn3 hal He hk b2 b1 m1 m2 m3 m4 m5 m6 m7 hlen F N hT hpl hpr hkl hkp h
  have hsl : sizeLine = 16777216 := by decide
  have hw := W.map
  obtain ⟨od, hod, hok⟩ := W.own
  rw [← fr_eq m1, ← fr_eq m2, ← fr_eq m3, ← fr_eq m4, ← fr_eq m5, ← fr_eq m6, ← fr_eq m7] at F
  have hBl : Bk.length ≤ 100000 := by rw [← He.length]; exact b2
  have hvl : vk.length = Bk.length := hkp.len
  obtain ⟨N0, hN0, N1⟩ : ∃ N0, N0 = (qa, listOf vq.toArray na) :: (qm, listOf ms.toArray nm) :: (bk, bookObj bd lf es nb) :: tl ∧ News B L s.heap N0 := ⟨_, rfl, N⟩
  have tlN : ∀ q ∈ tl, q ∈ N0 := fun q hq => by rw [hN0]; exact .tail _ (.tail _ (.tail _ hq))
  clear N
  walk_at "mine comp"
  refine comp_eval (by k_asm) rfl (by with_unfolding_all rfl) (by decide) (by rfl) (by decide) ?_
  dsimp only
  walk_at "mine comp"
  rename Fr B L _ _ => Fa
  rename News B L _ _ => Na
  refine cgo_pairs (its := vk.toArray) (fun i zs nw => nw = N0 ∧ StrsAre zs ((Bk.map (·.1)).take i) ∧ i ≤ Bk.length) hh (by rfl) (by rfl) (by rfl) (by decide) Fa Na (by rw [List.size_toArray]; (first | lia | omega)) ?hjs ⟨rfl, .nil, Nat.zero_le _⟩ ?item ?fin
  case hjs =>
    rintro i zs nw ⟨rfl, hz, hi⟩
    refine ⟨.inr ⟨_, tlN _ hkl, rfl, _, rfl⟩, ?_⟩
    rw [strsAre_len hz, List.length_take]
    exact Nat.min_le_left _ _
  case item =>
    rintro i v zs nw hv ⟨rfl, hz, hi⟩
    obtain ⟨d, hd, a, ta, tb, rfl, hm⟩ := hkp.get (show vk[i]? = some v by simpa using hv)
    have hil : i < Bk.length := (List.getElem?_eq_some_iff.mp hd).1
    refine ⟨a, _, _, _, _, rfl, hm.imp (tlN _) id, rfl, rfl, ?_⟩
    intro I oI C D oC m' h' tk' E' hoC h1 h2 F4 N4 off ne
    refine wpAny_tests_nil ?_
    simp only [if_true]
    clear Fa Na
    k_steps
    rename Fr B L _ _ => Fz
    rename News B L _ _ => Nz
    refine ⟨_, _, oC, m', _, rfl, Fz, hoC, Nz, off, rfl, ?_, hil⟩
    have : (Bk.map (·.1)).take (i + 1) = (Bk.map (·.1)).take i ++ [d.1] := by rw [List.take_add_one, List.getElem?_map, hd]; rfl
    rw [this]
    exact strsAre_snoc hz
  case fin =>
    rintro g zs nw ⟨rfl, hz, _⟩ D h' tk' F' N' off
    clear Fa Na
    have hsz : vk.toArray.size = (Bk.map (·.1)).length := by rw [List.size_toArray, List.length_map]; exact hvl
    rw [hsz, List.take_length] at hz
    walk_at "mine comp"
    have runs' := @runs_good w name al hn (by (first | lia | omega)) hal
    refine runs' (mg := mg) (mb := mb) (p := p) (loose := loose) (ys := ys) (ny := ny) (vs := zs) (nk := zs.length) (K := Bk.map (·.1)) ?X ?T ?room ?H (N' _ (.tail _ (tlN _ hpl))).1 (hpr.ins fun q hq => (N' _ (.tail _ (tlN _ hq))).1) (N' _ (.head _)).1 hz fun h5 tk5 t5 e5 => ?_
    case X => exact X.keeps F'.keep
    case T => exact T.keeps F'.keep
    case room => (show A.depth + 1 + _ + _ < _; (first | lia | omega))
    case H => exact hh
    try dsimp only at e5
    have F5 := F_ext F' e5
    have N5 : News B L h5 ((qa, listOf vq.toArray na) :: (qm, listOf ms.toArray nm) :: (bk, bookObj bd lf es nb) :: tl) := fun q hq => (News.ext N' e5) q (.tail _ (by rw [hN0]; exact hq))
    clear F' N'
    walk_at "mine upto"
    rename Fr B L _ _ => F6
    rename News B L _ _ => N6
    refine gm_items (X.keeps F6.keep) (N6 _ (.tail _ (.tail _ (.head _)))).1 (F6.keep _ _ hod) hok ?_
    walk_at "mine upto"
    refine call_items (X.keeps F6.keep) (N6 _ (.tail _ (.tail _ (.head _)))).1 Ap.sys ?_
    walk_at "mine upto"
    have hbk := (N6 _ (.tail _ (.tail _ (.head _)))).1
    dsimp only at hbk
    refine book_list (es := es) (n := nb) (bd := bd) (lf := lf) ?H3 ⟨_, Heap.get?_push_size _ rfl, rfl, rfl⟩ (Heap.get?_push_of_some _ hbk) He (by (first | lia | omega)) fun h7 tk7 c vs e hl hMv => ?_
    case H3 => exact hh
    dsimp only at e hl
    obtain ⟨F7, ds, N7, hT7, i2⟩ := after_items F6 N6 hT (fun b o q => e _ _ (Heap.get?_push_of_some _ q)) (by rw [Heap.size_push]; exact Nat.le_succ _) hl hMv
    clear N6 F6
    have Ntl : ∀ q ∈ tl, h7.get? q.1 = some q.2 := fun q hq => (N7 _ (.tail _ (.tail _ (.tail _ (.tail _ (List.mem_append_right ds hq)))))).1
    walk_at "mine upto"
    refine eq_made (D := Bk) (N7 _ (.tail _ (.tail _ (.tail _ (.head _))))).1 (Ntl _ hkl) (i2 _ F7.keep fun q hq => (N7 _ (.tail _ (.tail _ (.tail _ (.tail _ (List.mem_append_left _ hq)))))).1) (hkp.made F7.keep Ntl) hk ?U ?_
    case U => (show A.units + 3 + 64 < cLine; (first | lia | omega))
    walk_at "mine upto"
    have he : (((ms.length : Nat) : Int) == ((r0 : Nat) : Int) + ((runs (Bk.map (·.1)) al name : Nat) : Int)) = true := by
      rw [beq_iff_eq, hlen]; (first | lia | omega)
    rw [he]
    exact h h7 _ _ _ F7 N7 fun q hq => .tail _ (List.mem_append_right _ hq)
end
section
open PySem PySem.W PySem.Calls PyProof.Rows LCg
local macro_rules | `(tactic| walk_at "mine upto") => `(tactic| repeat (first | (k_unfold; (try dsimp only)) | ((fail_if_success (with_reducible show wpAny _ _ (call (Value.ref 275) _) _ _ _)); first | walk1 | (dsimp only; walk1))))
theorem at_up {m : Str → Option Value} {k k' : Str} {v v' : Option Value} (h : m k = v) (hne : k ≠ k') : (fun y => if y = k' then v' else m y) k = v := by
  show (if k = k' then v' else m k) = v
  rw [if_neg hne]; exact h
theorem at_here {m : Str → Option Value} {k : Str} {v : Option Value} : (fun y => if y = k then v else m y) k = v := by
  show (if k = k then v else m k) = v
  rw [if_pos rfl]
local macro_rules | `(tactic| walk_at "mine store") => `(tactic| repeat (first | (k_unfold; (try dsimp only)) | ((fail_if_success (with_reducible show wpAny _ _ (execs (Stmt.Assign _ _ _ :: _) _) _ _ _)); first | walk1 | (dsimp only; walk1))))
set_option maxHeartbeats 8000000 in
theorem asked_rest : ∀ {w : World} {mg mb : Str → Option Value} {p : Program} {loose : List Str} {A : Around} {s : Shared} {R : Flow → Shared → Prop} {B : Heap} {L wd qa qm bk bd lf pl : Addr} {fz : Bool} {ms ys : List Value} {na nm nb : Nat} {es : List DictEntry} {Bk Dm : List (Str × Nat)} {nw : List (Addr × Obj)} {m : Str → Option Value} {x : Nat} {t1 t2 t3 : Tok}
  (X : (KK w.params).In B) (T : TopRead p loose mg mb B) (hroom : A.depth + 300 < recursionLimit) (hh : A.handled = none) (hu : A.units + 100 < cLine) (Ap : Apart B qa qm bk) (W : WorldAt w B wd qa qm bk bd lf fz)
  (He : EntsAre w es Bk) (Hg : GoodBk Bk) (hk : KeysOk Bk) (Hm : MadeAre B ms Dm) (hD : fz = false → Dm = Bk) (b1 : ms.length + 300 ≤ 100000) (b2 : es.length + 300 ≤ 100000)
  (m1 : m "world" = some (.ref wd)) (m2 : m "frozen" = some (.bool fz)) (m3 : m "row" = some (.str (ofL (rowOf x)) t1)) (m4 : m "name" = some (.str (ofL (nameOf x)) t2)) (m5 : m "allowed" = some (.str (ofL (allowedOf x)) t3)) (m6 : m "pairs" = some (.ref pl))
  (Fm : Fr B L s.heap m) (N6 : News B L s.heap ((qa, listOf ([] : List Value).toArray na) :: (qm, listOf ms.toArray nm) :: (bk, bookObj bd lf es nb) :: nw))
  (nwT : ∀ q ∈ nw, q.1 ≠ qa ∧ q.1 ≠ qm ∧ q.1 ≠ bk) (hpr : PairRefs nw ys ((allowedOf x).filter (· ≠ 8203))) (mpl : (pl, lst ys) ∈ nw)
  (h : ∀ h' tk es' nms D, Cells B h' qa qm bk bd lf [] (ms ++ nms) es' → MadeAre h' nms D → EntsAre w es' (bkAfter fz Bk D) → GoodBk D → KeysOk D → D.length ≤ 259 →
    R (.ret (.bool true)) ⟨h', s.gens, s.drawn, tk, s.os⟩),
  wpAny (model PySem.Challenge.rw_in0022_01.row.toRowW.prog w) (A.deeper (envOf "_law_asked" s19.1 L 313 (.ref 312))) (execs (b19.1.drop 1) (envOf "_law_asked" s19.1 L 313 (.ref 312))) R (fun _ _ => False) s := by
  k_fill
  intro w mg mb p loose A s R B L wd qa qm bk bd lf pl fz ms ys na nm nb es Bk Dm nw m x t1 t2 t3 X T hroom hh hu Ap W He Hg hk Hm hD b1 b2 m1 m2 m3 m4 m5 m6 Fm N6 nwT hpr mpl h
  have hal := allowed_good x
  have hn := name_good x
  have hn3 := name_len x
  have c1 : es.length ≤ 100000 := Nat.le_trans (Nat.le_add_right _ _) b2
  have c2 : ms.length ≤ 100000 := Nat.le_trans (Nat.le_add_right _ _) b1
  refine asked_kept (rest := []) (P := default) (m := m) (fz := fz) (vq := []) X T hroom hh Ap W He c1 m1 Fm N6 nwT fun h6 tk6 kl c6 vk dk F6 N7 T7 hkr => ?_
  clear Fm N6
  refine asked_pair (fz := fz) (vq := []) (x := x) X T hroom hh Ap W (at_up m1 (by decide +kernel)) (at_up m3 (by decide +kernel)) c2 F6 N7 T7 fun h7 tk7 x' tr ta tb dx k sl ed j tl F7 N8 T8 sub8 => ?_
  clear F6 N7
  have N8' : News B L h7 ((x', pairObj dx (.str (ofL (writtenOf x)) ta) (.str (ofL (allowedOf x)) tb) k sl) :: (dx, dictOf ed j) :: (qa, listOf ([] : List Value).toArray na) :: (qm, listOf ms.toArray nm) :: (bk, bookObj bd lf es nb) :: tl) := by
    intro q hq
    refine N8 q ?_
    simp only [List.mem_cons] at hq ⊢
    rcases hq with e | e | e | e | e | e
    · exact .inr (.inr (.inr (.inl e)))
    · exact .inr (.inr (.inr (.inr (.inl e))))
    · exact .inl e
    · exact .inr (.inl e)
    · exact .inr (.inr (.inl e))
    · exact .inr (.inr (.inr (.inr (.inr e))))
  refine asked_key X T hroom hh at_here F7 N8' fun h8 tk8 t8 F8 N9 => ?_
  clear F7 N8 N8'
  have T9 : ∀ q ∈ tl, q.1 ≠ qa ∧ q.1 ≠ qm ∧ q.1 ≠ bk := fun q hq => T8 q (.tail _ (.tail _ hq))
  have snw : ∀ q ∈ nw, q ∈ tl := fun q hq => sub8 q (.tail _ (List.mem_append_right _ hq))
  have hplt := snw _ mpl
  have hprt : PairRefs tl ys (noZ (allowedOf x)) := hpr.mono snw
  have hklt := sub8 _ (.head _)
  have hkrt : MadeRefs B tl vk Bk := hkr.mono fun q hq => sub8 q (.tail _ (List.mem_append_left _ hq))
  obtain ⟨mm, hmm⟩ : ∃ mm, mm = (fun y : Str => if y = "key" then some (Value.str (enc (nameOf x) (allowedOf x)) t8) else if y = "pair" then some (.ref x') else if y = "runs" then some (.int (ms.length : Nat) tr) else if y = "kept" then some (.ref kl) else m y) := ⟨_, rfl⟩
  rw [← hmm] at F8
  have k1 : mm "world" = some (.ref wd) := by
    rw [hmm]
    show (if _ = _ then _ else if _ = _ then _ else if _ = _ then _ else if _ = _ then _ else _) = _
    rw [if_neg (by decide +kernel), if_neg (by decide +kernel), if_neg (by decide +kernel), if_neg (by decide +kernel)]
    exact m1
  have k2 : mm "frozen" = some (.bool fz) := by
    rw [hmm]
    show (if _ = _ then _ else if _ = _ then _ else if _ = _ then _ else if _ = _ then _ else _) = _
    rw [if_neg (by decide +kernel), if_neg (by decide +kernel), if_neg (by decide +kernel), if_neg (by decide +kernel)]
    exact m2
  have k4 : mm "name" = some (.str (ofL (nameOf x)) t2) := by
    rw [hmm]
    show (if _ = _ then _ else if _ = _ then _ else if _ = _ then _ else if _ = _ then _ else _) = _
    rw [if_neg (by decide +kernel), if_neg (by decide +kernel), if_neg (by decide +kernel), if_neg (by decide +kernel)]
    exact m4
  have k5 : mm "allowed" = some (.str (ofL (allowedOf x)) t3) := by
    rw [hmm]
    show (if _ = _ then _ else if _ = _ then _ else if _ = _ then _ else if _ = _ then _ else _) = _
    rw [if_neg (by decide +kernel), if_neg (by decide +kernel), if_neg (by decide +kernel), if_neg (by decide +kernel)]
    exact m5
  have k6 : mm "pairs" = some (.ref pl) := by
    rw [hmm]
    show (if _ = _ then _ else if _ = _ then _ else if _ = _ then _ else if _ = _ then _ else _) = _
    rw [if_neg (by decide +kernel), if_neg (by decide +kernel), if_neg (by decide +kernel), if_neg (by decide +kernel)]
    exact m6
  have k7 : mm "kept" = some (.ref kl) := by
    rw [hmm]
    show (if _ = _ then _ else if _ = _ then _ else if _ = _ then _ else if _ = _ then _ else _) = _
    rw [if_neg (by decide +kernel), if_neg (by decide +kernel), if_neg (by decide +kernel), if_pos rfl]
  have k8 : mm "runs" = some (.int (ms.length : Nat) tr) := by
    rw [hmm]
    show (if _ = _ then _ else if _ = _ then _ else if _ = _ then _ else if _ = _ then _ else _) = _
    rw [if_neg (by decide +kernel), if_neg (by decide +kernel), if_pos rfl]
  have k9 : mm "key" = some (.str (enc (nameOf x) (allowedOf x)) t8) := by
    rw [hmm]
    show (if _ = _ then _ else if _ = _ then _ else if _ = _ then _ else if _ = _ then _ else _) = _
    rw [if_pos rfl]
  clear hmm
  clear m1 m2 m3 m4 m5 m6 nwT hpr mpl hkr T8 T7 sub8 snw
  refine asked_if (fz := fz) (name := nameOf x) (al := allowedOf x) X T hroom hh Ap W hn hn3 hal He Hg b1 b2 k1 k9 k4 k5 k6 F8 N9 T9 hplt hprt fun h9 tk9 es' nms D ds na' nm' nb' F10 N10 T10 i2 x3 x4 x5 x6 => ?_
  clear F8 N9
  have hfb : D.length ≤ 259 := Nat.le_trans x6 (fbound_mono (k := 3) hn3)
  have dsT : ∀ q ∈ ds, q ∈ ds ++ tl := fun q hq => List.mem_append_left _ hq
  have tlT : ∀ q ∈ tl, q ∈ ds ++ tl := fun q hq => List.mem_append_right _ hq
  have hnl : ms.length + D.length ≤ 100000 := by (first | lia | omega)
  have okD := ok_of hal x4
  have hnm : nms.length = D.length := (i2 h9 F10.keep fun q hq => (N10 _ (.tail _ (.tail _ (.tail _ (dsT _ hq))))).1).length
  have hms : (ms ++ nms).length ≤ 100000 := by rw [List.length_append, hnm]; exact hnl
  have fin : ∀ h' tk tl' m', Fr B L h' m' → News B L h' ((qa, listOf ([] : List Value).toArray na') :: (qm, listOf (ms ++ nms).toArray nm') :: (bk, bookObj bd lf es' nb') :: tl') → (∀ q ∈ ds ++ tl, q ∈ tl') → R (.ret (.bool true)) ⟨h', s.gens, s.drawn, tk, s.os⟩ := fun h' tk tl' m' F' N' sub =>
    h h' tk es' nms D (Cells.of_fr F' N') (i2 h' F'.keep fun q hq => (N' _ (.tail _ (.tail _ (.tail _ (sub _ (dsT _ hq)))))).1) x3 x4.bk okD hfb
  cases fz with
  | false =>
    obtain rfl := hD rfl
    have x3' : EntsAre w es' (Dm ++ D) := x3
    have hel : es'.length ≤ 100000 := by rw [x3'.length, List.length_append, ← He.length]; (first | lia | omega)
    exact asked_free (fz := false) X T hroom hh hu Ap W x3' (hk.app okD) hel k1 k2 F10 N10 T10 (fun h' e z => (Hm.keep fun a t n t' d q => e _ _ q).app (i2 h' e fun q hq => z _ (dsT _ hq))) fin
  | true =>
    have x3' : EntsAre w es' Bk := x3
    have hel : es'.length ≤ 100000 := by rw [x3'.length, ← He.length]; exact c1
    exact asked_frozen (fz := true) (name := nameOf x) (al := allowedOf x) (r0 := ms.length) X T hroom hh hu Ap W hn hn3 hal x3' hk hel hms k1 k2 k4 k5 k6 k7 k8 (by rw [List.length_append, hnm, x5 rfl]) F10 N10 T10 (tlT _ hplt) (hprt.mono tlT) (tlT _ hklt) (hkrt.mono tlT) fin
end
section
open PySem PySem.W PySem.Calls PyProof.Rows LCg
local macro_rules | `(tactic| walk_at "mine upto") => `(tactic| repeat (first | (k_unfold; (try dsimp only)) | ((fail_if_success (with_reducible show wpAny _ _ (call (Value.ref 275) _) _ _ _)); first | walk1 | (dsimp only; walk1))))
local macro_rules | `(tactic| walk_at "mine store") => `(tactic| repeat (first | (k_unfold; (try dsimp only)) | ((fail_if_success (with_reducible show wpAny _ _ (execs (Stmt.Assign _ _ _ :: _) _) _ _ _)); first | walk1 | (dsimp only; walk1))))
set_option maxHeartbeats 8000000 in
theorem spec_asked : ∀ {w : World} {mg mb : Str → Option Value} {p : Program} {loose : List Str} {A : Around} {s : Shared} {Q : Value → Shared → Prop} {E : Value → Shared → Prop} {B0 : Heap} {wd qa qm bk bd lf : Addr} {fz : Bool} {ms : List Value} {es : List DictEntry} {Bk Dm : List (Str × Nat)}
  (X0 : (KK w.params).In B0) (T0 : TopRead p loose mg mb B0) (hroom : A.depth + 310 < recursionLimit) (hh : A.handled = none) (hu : A.units + 100 < cLine) (Ap0 : Apart B0 qa qm bk) (C0 : Cells B0 s.heap qa qm bk bd lf [] ms es) (W0 : WorldAt w B0 wd qa qm bk bd lf fz)
  (He : EntsAre w es Bk) (Hg : GoodBk Bk) (hk : KeysOk Bk) (Hm : MadeAre B0 ms Dm) (hD : fz = false → Dm = Bk) (b1 : ms.length + 300 ≤ 100000) (b2 : es.length + 300 ≤ 100000)
  (x : Nat) (hx : x < 16384) (t : Tok)
  (h : ∀ h' tk es' nms D, Cells B0 h' qa qm bk bd lf [] (ms ++ nms) es' → MadeAre h' nms D → EntsAre w es' (bkAfter fz Bk D) → GoodBk D → KeysOk D → D.length ≤ 259 →
    Q (.bool true) { s with heap := h', toks := tk }),
  wpAny (model PySem.Challenge.rw_in0022_01.row.toRowW.prog w) A (call (.ref 313) [.ref wd, .int (x : Int) t, .bool fz]) Q E s := by
  k_fill
  intro w mg mb p loose A s Q E B0 wd qa qm bk bd lf fz ms es Bk Dm X0 T0 hroom hh hu Ap0 C0 W0 He Hg hk Hm hD b1 b2 x hx t h
  obtain ⟨B, hBB, hBk, hz, Ap⟩ : ∃ B, (∀ b o, B0.get? b = some o → B.get? b = some o) ∧ (∀ b o, B.get? b = some o → s.heap.get? b = some o) ∧ B.objs.size ≤ s.heap.objs.size ∧ Apart B qa qm bk :=
    ⟨cut B0 s.heap.objs.size, fun b o e => cut_get C0.keep e, fun b o e => C0.keep _ _ (cut_of e), cut_size _ _, Ap0.cut⟩
  have X := X0.keeps hBB
  have T := T0.keeps hBB
  have W := W0.keeps hBB
  have Hm' : MadeAre B ms Dm := Hm.keep fun a t n t' d q => hBB _ _ q
  have C : Cells B s.heap qa qm bk bd lf [] ms es := ⟨hBk, C0.a, C0.m, C0.b⟩
  obtain ⟨na, nm, nb, hW⟩ := C.led Ap
  have hsl : sizeLine = 16777216 := by decide
  have hal := allowed_good x
  have hn := name_good x
  have hn3 := name_len x
  refine wpAny_call (enterB hBk hz hW X T (by k_is) (by k_is) (by (first | lia | omega)) (BindsTo.of_eq rfl) (locs rfl) (fun h₁ L' hL F N => ?_) rfl rfl rfl (by decide))
  (try dsimp only)
  dsimp only [ledger] at N
  walk_at "mine upto"
  refine spec_row (p := p) (loose := loose) (mg := mg) (mb := mb) ?X ?T ?R ?H x t hx fun h2 tk2 rr pl t1 t2 t3 ys nw e2 hnw hpr mrr mpl => ?_
  case H => exact hh
  case X => exact X.keeps F.keep
  case T => exact T.keeps F.keep
  case R => (show A.depth + 1 + _ < _; (first | lia | omega))
  try dsimp only at e2 hnw
  have F2 := F_ext F e2
  have hc := fun q (hq : q ∈ [(qa, listOf ([] : List Value).toArray na), (qm, listOf ms.toArray nm), (bk, bookObj bd lf es nb)]) => (N q hq).1
  have nwT : ∀ q ∈ nw, q.1 ≠ qa ∧ q.1 ≠ qm ∧ q.1 ≠ bk := fun q hq => by
    have z := (hnw q hq).2
    refine ⟨fun e => ?_, fun e => ?_, fun e => ?_⟩
    · rw [e] at z; have y := hc _ (.head _); dsimp only at y; rw [y] at z; cases z
    · rw [e] at z; have y := hc _ (.tail _ (.head _)); dsimp only at y; rw [y] at z; cases z
    · rw [e] at z; have y := hc _ (.tail _ (.tail _ (.head _))); dsimp only at y; rw [y] at z; cases z
  have N2 : News B L' h2 ((qa, listOf ([] : List Value).toArray na) :: (qm, listOf ms.toArray nm) :: (bk, bookObj bd lf es nb) :: nw) := fun q hq => by
    have z := News.ext N e2
    rcases List.mem_cons.mp hq with rfl | hq
    · exact z _ (.head _)
    rcases List.mem_cons.mp hq with rfl | hq
    · exact z _ (.tail _ (.head _))
    rcases List.mem_cons.mp hq with rfl | hq
    · exact z _ (.tail _ (.tail _ (.head _)))
    · obtain ⟨z1, z2⟩ := hnw q hq
      refine ⟨z1, ?_, ?_⟩
      · intro e; obtain ⟨o, es, ep, e1, r⟩ := F.ns; rw [e, e1] at z2; cases z2
      · cases eb : B.get? q.1 with
        | none => rfl
        | some o => rw [F.keep _ _ eb] at z2; cases z2
  have N3 : News B L' h2 ((rr, { cls := .type "tuple", data := .seq #[.str (ofL (rowOf x)) t1, .str (ofL (nameOf x)) t2, .str (ofL (allowedOf x)) t3, .ref pl] }) :: (qa, listOf ([] : List Value).toArray na) :: (qm, listOf ms.toArray nm) :: (bk, bookObj bd lf es nb) :: nw) := fun q hq => by
    rcases List.mem_cons.mp hq with rfl | hq
    · exact N2 _ (.tail _ (.tail _ (.tail _ mrr)))
    · exact N2 _ hq
  clear N N2 hc
  refine unpackN_ F2 N3 (News.isTup N3 (.head _)) hh rfl rfl ?_
  intro h3 F3 N4
  clear N3 F2
  walk_at "mine store"
  rename Fr B L' _ _ => F5
  rename News B L' _ _ => N5
  obtain ⟨m, m1, m2, m3, m4, m5, m6, Fm⟩ : ∃ m, m "world" = some (.ref wd) ∧ m "frozen" = some (.bool fz) ∧ m "row" = some (.str (ofL (rowOf x)) t1) ∧ m "name" = some (.str (ofL (nameOf x)) t2) ∧ m "allowed" = some (.str (ofL (allowedOf x)) t3) ∧ m "pairs" = some (.ref pl) ∧ Fr B L' _ m :=
    ⟨_, by rfl, by rfl, by rfl, by rfl, by rfl, by rfl, F5⟩
  have N6 : News B L' _ ((qa, listOf ([] : List Value).toArray na) :: (qm, listOf ms.toArray nm) :: (bk, bookObj bd lf es nb) :: nw) := fun q hq => N5 q (.tail _ hq)
  clear F5 N5
  try dsimp only
  have hr2 : A.depth + 300 < recursionLimit := Nat.lt_of_le_of_lt (Nat.add_le_add_left (by decide) _) hroom
  refine asked_rest (ms := ms) X T hr2 hh hu Ap W He Hg hk Hm' hD b1 b2 m1 m2 m3 m4 m5 m6 Fm N6 nwT hpr mpl fun h9 tk9 es' nms D C9 M9 E9 G9 K9 L9 => ?_
  exact h h9 _ es' nms D ⟨fun b o e => C9.keep _ _ (hBB b o e), C9.a, C9.m, C9.b⟩ M9 E9 G9 K9 L9
end
section
theorem sf_find (P : Params) : findIn (KK P) (.ref 108) "__setattr__" = some (some (.builtin "object.__setattr__")) := by kernel_rfl
theorem sf_has (P : Params) : (clsIn (KK P) 108).any (·.hasDict) = true := by kernel_rfl
section
variable {w : World} {A : Around} {E : Value → Shared → Prop} {s : Shared} {bk bd lf fl : Addr} {es : List DictEntry} {n : Nat}
theorem sf_refuse {h : Heap} (X : (KK w.params).In h) (self : Value) : Looks (model PR w) h (refuseLoop self "__setattr__" [.ref 108, .type "collections.defaultdict", .type "dict", .type "object"]) () := Looks.of_peek X (by kernel_rfl)
theorem sf_mro {h : Heap} (X : (KK w.params).In h) : Looks (model PR w) h (mroOf (.ref 108)) [.ref 108, .type "collections.defaultdict", .type "dict", .type "object"] := Looks.of_peek X (by kernel_rfl)
theorem sf_sub {h : Heap} (X : (KK w.params).In h) : Looks (model PR w) h (isSubtype (.ref 108) (.type "object")) true := Looks.of_peek X (by kernel_rfl)
theorem sf_look {h : Heap} (X : (KK w.params).In h) : Looks (model PR w) h (typeLookup (.ref 108) "_frozen") none := Looks.of_peek X (by kernel_rfl)
theorem set_frozen {Q : Unit → Shared → Prop} (X : (KK w.params).In s.heap) (hb : s.heap.get? bk = some (bookObj bd lf es n)) (hd : s.heap.get? bd = some (dictOf [] 0))
    (hQ : ∀ h' tk tf, Heap.SameBut bd s.heap h' → h'.get? bd = some (frozenDict w.params tf fl 1) → Q () ⟨h', s.gens, s.drawn, tk, s.os⟩) :
    wpAny (model PR w) A (setAttr (.ref bk) "_frozen" (.ref fl)) Q E s := by
  have I : InstAt s.heap bk (bookObj bd lf es n) 108 (some (dictOf [] 0)) := ⟨hb, rfl, rfl, hd⟩
  have SF := PySem.F.store_object
  refine set_plain X I (sf_find _) ?_
  obtain ⟨hh, g, d, tk, os⟩ := s
  dsimp only at X hb hd hQ I ⊢
  have sub : Looks (model PR w) hh (isInstance (.ref bk) (.type "object")) true := I.type.andThen (sf_sub X)
  refine codeAny_call_builtin SF.slot.plain SF.entry (@check_slot (model PR w) _ _ ⟨hh, g, d, tk + 1, os⟩ "object.__setattr__" "object" "__setattr__" (.ref bk) [.str "_frozen" tk, .ref fl] [] _ SF.kind SF.split sub (SF.args (.ref bk) (.str "_frozen" tk) (.ref fl)) ?_)
  rw [osa_eq, refuse_eq]
  refine wpAny_bind (wpAny_bind (I.type.here (wpAny_bind ((sf_mro X).here ?_))))
  refine (sf_refuse X _).here ?_
  refine wpAny_bind (I.type.here (wpAny_bind ((sf_look X).here (wpAny_bind (wpAny_pure ?_)))))
  obtain ⟨cd, hc, hd'⟩ := any_some (sf_has w.params)
  refine wpAny_bind (wpAny_pure (wpAny_bind (wpAny_bind (wpAny_loadPart hb (wpAny_bind ((looks_clsIn X hc).here ?_))))))
  rw [hd']
  refine wpAny_pure (a := some bd) (wpAny_bind (wpAny_pure (wpAny_bind ?_)))
  unfold nsSet
  refine wpAny_bind (wpAny_bind (wpAny_askSetting (wpAny_pure (wpAny_bind (wpAny_mkText (wpAny_bind (wpAny_loadPart hd ?_)))))))
  dsimp only
  have c : (!(#[] : Array DictEntry).any (·.key.isStr "_frozen") && (#[] : Array DictEntry).any (·.refKey)) = false := by simp
  rw [aRefKeyMayBeTheName_at, c]
  refine wpAny_updatePart hd ?_
  have same : Heap.SameBut bd hh (hh.update bd (Obj.putName "_frozen" (PyData.keyHash w.params "_frozen") (.str "_frozen" (tk + 1)) (.ref fl))) := Heap.SameBut.update ..
  have e : Obj.putName "_frozen" (PyData.keyHash w.params "_frozen") (.str "_frozen" (tk + 1)) (.ref fl) (dictOf [] 0) = frozenDict w.params (tk + 1) fl 1 := by rw [putName_dict]; rfl
  have hb2 := Heap.get?_update_self (Obj.putName "_frozen" (PyData.keyHash w.params "_frozen") (.str "_frozen" (tk + 1)) (.ref fl)) hd (by rw [e]; rfl)
  rw [e] at hb2
  refine wpAny_bind (wpAny_lookBehind hb2 (pastItsLine_dict (by show 1 ≤ sizeLine + 1; decide)) ?_)
  exact wpAny_pure (hQ _ _ _ same hb2)
end
end
section
section
variable {w : World} {A : Around} {s : Shared} {R : Result → Shared → Prop} {name qual : Str} {params : Arguments} {body : List Stmt} {scope : Scope} {dV kV doc pm cdv ct oc : Value} {an od : Option Addr} {osl : Array (Option Value)} {f : Addr} {args : Args} {binds : List (Str × Value)}
  {mg mb : Str → Option Value} {p : Program} {loose : List Str} {B : Heap} {W : List (Addr × Obj)}
theorem enterBc (hB : ∀ b o, B.get? b = some o → s.heap.get? b = some o) (hz : B.objs.size ≤ s.heap.objs.size) (hW : ∀ q ∈ W, s.heap.get? q.1 = some q.2 ∧ B.get? q.1 = none) (X : (KK w.params).In B) (T : TopRead p loose mg mb B)
    (ho : (KK w.params).lookup f = some ⟨oc, od, .func (fnOf name qual params body scope dV kV doc pm an cdv ct), osl⟩) (hcd : codeIn (KK w.params) cdv qual = true) (hroom : A.depth < recursionLimit)
    (hbind : BindsTo s (fnOf name qual params body scope dV kV doc pm an cdv ct) args binds) (hkind : (binds.all fun y => scope.names.lookup y.1 == some .local || scope.names.lookup y.1 == some .cell) = true)
    (hnd : ((cellsFrom 0 scope.names []).map (·.1)).Nodup)
    (h : ∀ h₁ L' tk cells, L' = s.heap.objs.size → Fr B L' h₁ (bindL (envOfC qual scope L' f cdv).kindOf binds fun _ => none) → News B L' h₁ (cells ++ W) →
      CellsAre (bindC (envOfC qual scope L' f cdv).kindOf binds fun _ => none) (cellsFrom (L' + 1) scope.names []) cells →
      wpAny (model PR w) (A.deeper (envOfC qual scope L' f cdv)) (execs body (envOfC qual scope L' f cdv))
        (fun fl s' => R (.ok (.ret (match fl with | .ret v => v | _ => .none))) s') (fun _ _ => False)
        { s with heap := h₁, toks := tk })
    (hco : scope.isCoroutine = false) (hgen : scope.isGenerator = false) (hk : scope.kind = .function) :
    codeAny (model PR w) A (.call (.ref f) args) R s :=
  enterPc (X.keeps hB) (T.keeps hB) ho hcd hroom hbind hkind hnd (fun h₁ L' tk cells hL F N Y => h h₁ L' tk cells hL ⟨F.ns, fun b o e => F.keep b o (hB b o e), Nat.le_trans hz F.above⟩
    (fun q hq => by
      rcases List.mem_append.mp hq with hq | hq
      · refine ⟨(N q hq).1, (N q hq).2.1, ?_⟩
        cases e : B.get? q.1 with
        | none => rfl
        | some o => have := (N q hq).2.2; rw [hB _ _ e] at this; cases this
      · exact ⟨F.keep _ _ (hW q hq).1, Nat.ne_of_lt (Nat.lt_of_lt_of_le (Heap.lt_size (hW q hq).1) F.above), (hW q hq).2⟩) Y) hco hgen hk
end
section
variable {w : World} {A : Around} {E : Value → Shared → Prop} {s : Shared} {B : Heap} {L bk bd lf fl : Addr} {es : List DictEntry} {n : Nat} {m : Str → Option Value} {news : List (Addr × Obj)} {g : Obj → List (Addr × Obj)}
theorem set_frozen_K {Q : Unit → Shared → Prop} (F : Fr B L s.heap m) (X : (KK w.params).In B) (N : News B L s.heap news) (hb : (bk, bookObj bd lf es n) ∈ news) (U : UpdF bd (dictOf [] 0) news g)
    (hQ : ∀ h' tk tf, Fr B L h' m → News B L h' (g (frozenDict w.params tf fl 1)) → Q () ⟨h', s.gens, s.drawn, tk, s.os⟩) :
    wpAny (model PR w) A (setAttr (.ref bk) "_frozen" (.ref fl)) Q E s := by
  obtain ⟨own, rest, rfl, hgr, h1, h2⟩ := U.split
  have hm := N (bd, dictOf [] 0) (List.mem_append_right _ (.head _))
  refine set_frozen (X.keeps F.keep) (N _ hb).1 hm.1 fun h' tk tf same hd => ?_
  refine hQ h' tk tf (F.change same hm.2.1 hm.2.2) fun q hq => ?_
  rw [hgr] at hq
  rcases List.mem_append.mp hq with hq | hq
  · have z := N q (List.mem_append_left _ hq)
    exact ⟨same.extBut _ _ (h1 q hq) z.1, z.2⟩
  · rcases List.mem_cons.mp hq with rfl | hq
    · exact ⟨hd, hm.2⟩
    · have z := N q (List.mem_append_right _ (.tail _ hq))
      exact ⟨same.extBut _ _ (h2 q hq) z.1, z.2⟩
end
end
section
section
variable {w : World} {h : Heap}
theorem bc_made (X : (KK w.params).In h) : Looks (model PR w) h (Bind.madeBy (.ref 108)) (some "dict.__new__") := Looks.of_peek X (by kernel_rfl)
theorem bc_call (X : (KK w.params).In h) : Looks (model PR w) h (specialOf (.ref 108) "__call__") (some (.builtin "type.__call__")) := Looks.of_peek X (by kernel_rfl)
theorem bc_chkc (X : (KK w.params).In h) (a : Value) : Looks (model PR w) h (checkBuiltinCall "type.__call__" ⟨[.ref 108, a], []⟩) () := Looks.of_peek X (by kernel_rfl)
theorem bc_mro (X : (KK w.params).In h) : Looks (model PR w) h (mroOf (.ref 108)) [.ref 108, .type "collections.defaultdict", .type "dict", .type "object"] := Looks.of_peek X (by kernel_rfl)
end
section
variable {w : World} {h : Heap}
theorem bd_chk (X : (KK w.params).In h) (a : Value) : Looks (model PR w) h (checkBuiltinCall "dict.__new__" ⟨[.ref 108, a], []⟩) () := Looks.of_peek X (by kernel_rfl)
theorem bd_isType (X : (KK w.params).In h) : Looks (model PR w) h (isType (.ref 108)) true := Looks.of_peek X (by kernel_rfl)
theorem bd_del (X : (KK w.params).In h) : Looks (model PR w) h (classHasDel 108) false := Looks.of_peek X (by kernel_rfl)
theorem bd_init (X : (KK w.params).In h) : Looks (model PR w) h (typeLookup (.ref 108) "__init__") (some (.builtin "collections.defaultdict.__init__")) := Looks.of_peek X (by kernel_rfl)
theorem bd_self (X : (KK w.params).In h) : Looks (model PR w) h (isSubtype (.ref 108) (.ref 108)) true := Looks.of_peek X (by kernel_rfl)
theorem dn_plain : plainId "dict.__new__" = true := by decide +kernel
theorem dn_entry : entryFor table "dict.__new__" = some Builtin.«dict.__new__» := entryFor_of_tree (by kernel_rfl)
theorem di_plain : plainId "collections.defaultdict.__init__" = true := by decide +kernel
theorem di_entry : entryFor table "collections.defaultdict.__init__" = some Builtin.«collections.defaultdict.__init__» := entryFor_of_tree (by kernel_rfl)
theorem di_kind : builtinKind "collections.defaultdict.__init__" = some .slot := by kernel_rfl
theorem di_split : splitId "collections.defaultdict.__init__" = some ("collections.defaultdict", "__init__") := by kernel_rfl
theorem di_args (a b : Value) : argsOk "collections.defaultdict.__init__" ⟨[a, b], []⟩ := by unfold argsOk; kernel_rfl
theorem di_bind (a : Value) : bindSpecial (.builtin "collections.defaultdict.__init__") a = pure (.builtin "collections.defaultdict.__init__", [a]) :=
  (Slot.of (T := "collections.defaultdict") (name := "__init__") (owner := "collections.defaultdict") (n := "__init__") (by rw [typeLookup_type, builtinLookup_eq_fast]; kernel_rfl) (by decide +kernel) (by decide +kernel) (by decide +kernel)
    (.inl (by decide +kernel)) (by rw [isSubtype_type]; kernel_rfl)).bind a
theorem fn_call : typeLookup (.type "function") "__call__" = pure (some (.builtin "function.__call__")) := by rw [typeLookup_type, builtinLookup_eq_fast]; kernel_rfl
theorem di2_entry : entryFor table "dict.__init__" = some Builtin.«dict.__init__» := entryFor_of_tree (by kernel_rfl)
theorem di2_plain : plainId "dict.__init__" = true := by decide +kernel
end
section
variable {w : World} {A : Around} {E : Value → Shared → Prop} {s : Shared}
theorem dict_new {a : Value} {Q : Value → Shared → Prop} (X : (KK w.params).In s.heap)
    (hQ : Q (.ref (s.heap.objs.size + 1)) { s with heap := (s.heap.push { cls := .type "dict", data := .dict #[] }).push { cls := .ref 108, dict := some s.heap.objs.size, data := .dict #[] } }) :
    wpAny (model PR w) A (call (.builtin "dict.__new__") [.ref 108, a]) Q E s := by
  have L1 := bd_isType X
  have L2 := bk_isDict X
  have L3 := bc_mro X
  refine wpAny_call (codeAny_call_builtin dn_plain dn_entry ((bd_chk X a).here ?_))
  have X2 : (KK w.params).In ((s.heap.push { cls := .type "dict", data := .dict #[] }).push { cls := .ref 108, dict := some s.heap.objs.size, data := .dict #[] }) := X.keeps fun b o e => Heap.get?_push_of_some _ (Heap.get?_push_of_some _ e)
  have L5 := bd_del X2
  obtain ⟨hh, g, d, tk, os⟩ := s
  dsimp only at L1 L2 L3 L5 X hQ
  unfold Builtin.«dict.__new__»
  repeat lk
  rw [Heap.size_push]
  exact hQ
theorem dd_init {bk bd f : Addr} {of : Obj} {Q : Value → Shared → Prop} (X : (KK w.params).In s.heap) (hX : ∀ b o, (KK w.params).lookup b = some o → b ≠ bk) (hb : s.heap.get? bk = some { cls := .ref 108, dict := some bd, data := .dict #[] }) (hf : s.heap.get? f = some of) (hfc : of.cls = .type "function")
    (hQ : ∀ h', h'.get? bk = some (bookObj bd f [] 0) → Heap.SameBut bk s.heap h' → Q .none { s with heap := h' }) :
    wpAny (model PR w) A (call (.builtin "collections.defaultdict.__init__") [.ref bk, .ref f]) Q E s := by
  have L0 : Looks (model PR w) s.heap (typeOf (.ref bk)) (.ref 108) := (Looks.ld hb).andThen .now
  have L1 := bk_isDD X
  have L2 : Looks (model PR w) s.heap (typeOf (.ref f)) (.type "function") := (Looks.ld hf).andThen (by rw [hfc]; exact .now)
  have L3 : Looks (model PR w) s.heap (typeLookup (.type "function") "__call__") (some (.builtin "function.__call__")) := Looks.of_pure fn_call
  refine call_slot (.inl di_kind) di_split di_plain di_entry (di_args _ _) L0 L1 ?_
  obtain ⟨hh, g, d, tk, os⟩ := s
  dsimp only at L0 L1 L2 L3 X hQ hb hf
  unfold Builtin.«collections.defaultdict.__init__» specialOf
  repeat lk
  refine wpAny_updatePart hb ?_
  have hb2 := Heap.get?_update_self (fun o : Obj => ({ cls := o.cls, dict := o.dict, data := o.data, slots := (o.slots ++ Array.replicate (0 + 1 - o.slots.size) none).setIfInBounds 0 [Value.ref f].head? } : Obj)) hb rfl
  have same : Heap.SameBut bk hh (hh.update bk fun o : Obj => ({ cls := o.cls, dict := o.dict, data := o.data, slots := (o.slots ++ Array.replicate (0 + 1 - o.slots.size) none).setIfInBounds 0 [Value.ref f].head? } : Obj)) := Heap.SameBut.update ..
  generalize (hh.update bk fun o : Obj => ({ cls := o.cls, dict := o.dict, data := o.data, slots := (o.slots ++ Array.replicate (0 + 1 - o.slots.size) none).setIfInBounds 0 [Value.ref f].head? } : Obj)) = h1 at hb2 same
  have hb3 : h1.get? bk = some (bookObj bd f [] 0) := hb2
  have X1 : (KK w.params).In h1 := fun b o e => by
    exact same.extBut b o (hX b o e) (X b o e)
  have M0 : Looks (model PR w) h1 (typeOf (.ref bk)) (.ref 108) := (Looks.ld hb3).andThen .now
  have M1 := bk_notOrd X1
  refine wpAny_bind (wpAny_holding (wpAny_runValue (codeAny_builtin di2_entry ?_)))
  rw [Around.under_plainId di2_plain _]
  unfold Builtin.«dict.__init__» Builtin.Dict.selfAndRest Builtin.Dict.updateCommon Builtin.Dict.addKeywords
  repeat lk
  exact hQ h1 hb3 same
end
theorem book_made {w : World} {A : Around} {s : Shared} {f : Addr} {Q : Value → Shared → Prop} {E : Value → Shared → Prop} {of : Obj} (X : (KK w.params).In s.heap) (hf : s.heap.get? f = some of) (hfc : of.cls = .type "function")
  (hQ : ∀ (h' : Heap) (bk bd : Addr), Ext s.heap h' → s.heap.objs.size ≤ bd → bd < bk → h'.get? bk = some (bookObj bd f [] 0) → h'.get? bd = some (dictOf [] 0) → Q (.ref bk) ⟨h', s.gens, s.drawn, s.toks, s.os⟩) :
  wpAny (model PR w) A (call (.ref 108) [.ref f]) Q E s := by
  have e108 := X 108 (o_108 w.params) (by kernel_rfl)
  have L1 := bc_call X
  have L2 := bc_made X
  obtain ⟨hp, g, d, tk, os⟩ := s
  dsimp only at e108 L1 L2 X hQ hf
  refine wpAny_call (codeAny_of_tree ?_)
  show wpAny _ _ (callAny (.ref 108) _) _ _ _
  refine nd_load e108 ?_
  show wpAny _ _ (callAny.viaDunder (.ref 108) _) _ _ _
  unfold callAny.viaDunder
  refine wpAny_bind (L1.at ?_)
  dsimp only
  rw [tc_bind]
  refine wpAny_bind (wpAny_pure (wpAny_bind (wpAny_pure ?_)))
  refine wpAny_pure (a := Fin.again (.call (.builtin "type.__call__") ⟨.ref 108 :: [.ref f], []⟩)) (And.intro rfl ?_)
  refine codeAny_call_builtin_at (Code.quiet_builtin _ (by decide +kernel)) entry_typeCall ((bc_chkc X _).here ?_)
  unfold Builtin.«type.__call__»
  have hm := bc_mro X
  repeat (first | (with_reducible refine wpAny_bind (dict_new X ?_)) | (with_reducible refine dict_new X ?_) | lk)
  dsimp only
  have k2 : Ext hp ((hp.push { cls := .type "dict", data := .dict #[] }).push { cls := .ref 108, dict := some hp.objs.size, data := .dict #[] }) := fun b o e => Heap.get?_push_of_some _ (Heap.get?_push_of_some _ e)
  have e1 : ((hp.push { cls := .type "dict", data := .dict #[] }).push { cls := .ref 108, dict := some hp.objs.size, data := .dict #[] }).get? hp.objs.size = some (dictOf [] 0) := Heap.get?_push_of_some _ (Heap.get?_push_size _ rfl)
  have e2 : ((hp.push { cls := .type "dict", data := .dict #[] }).push { cls := .ref 108, dict := some hp.objs.size, data := .dict #[] }).get? (hp.objs.size + 1) = some { cls := .ref 108, dict := some hp.objs.size, data := .dict #[] } := by
    rw [← Heap.size_push hp { cls := .type "dict", data := .dict #[] }]
    exact Heap.get?_push_size _ rfl
  generalize ((hp.push { cls := .type "dict", data := .dict #[] }).push { cls := .ref 108, dict := some hp.objs.size, data := .dict #[] }) = h2 at k2 e1 e2
  have X2 : (KK w.params).In h2 := X.keeps k2
  have hX : ∀ b o, (KK w.params).lookup b = some o → b ≠ hp.objs.size + 1 := fun b o e => by
    have := Heap.lt_size (X b o e)
    exact Nat.ne_of_lt (Nat.lt_succ_of_lt this)
  obtain ⟨n, hn⟩ : ∃ n, n = hp.objs.size + 1 := ⟨_, rfl⟩
  rw [← hn] at e2 hX ⊢
  have t1 : Looks (model PR w) h2 (typeOf (.ref n)) (.ref 108) := (Looks.ld e2).andThen .now
  have s1 := bd_self X2
  have i1 := bd_init X2
  have b1 : Looks (model PR w) h2 (bindSpecial (.builtin "collections.defaultdict.__init__") (.ref n)) (.builtin "collections.defaultdict.__init__", [.ref n]) := Looks.of_pure (di_bind _)
  refine wpAny_load e2 (wpAny_pure ?_)
  repeat (first | ((with_reducible show wpAny _ _ (call (Value.builtin _) _) _ _ _); refine dd_init (s := ⟨h2, g, d, tk, os⟩) X2 hX e2 (k2 _ _ hf) hfc (fun h3 hb3 same => ?_)) | lk)
  have n1 : hp.objs.size ≠ n := by (first | lia | omega)
  exact hQ h3 n hp.objs.size (fun b o e => same.extBut b o (by rw [hn]; exact Nat.ne_of_lt (Nat.lt_succ_of_lt (Heap.lt_size e))) (k2 _ _ e)) (Nat.le_refl _) (hn ▸ Nat.lt_succ_self _) hb3 (same.extBut _ _ n1 e1)
end
section
section
variable {w : World} {A : Around} {E : Value → Shared → Prop} {s : Shared} {B : Heap} {L f : Addr} {m : Str → Option Value} {news : List (Addr × Obj)} {of : Obj}
theorem book_made_K {Q : Value → Shared → Prop} (F : Fr B L s.heap m) (X : (KK w.params).In B) (N : News B L s.heap news) (hf : (f, of) ∈ news) (hfc : of.cls = .type "function")
    (hQ : ∀ h' bk bd, Fr B L h' m → News B L h' ((bk, bookObj bd f [] 0) :: (bd, dictOf [] 0) :: news) → (∀ q ∈ news, q.1 < bd) → @LT.lt Nat instLTNat bd bk → Q (.ref bk) ⟨h', s.gens, s.drawn, s.toks, s.os⟩) :
    wpAny (model PR w) A (call (.ref 108) [.ref f]) Q E s := by
  refine book_made (X.keeps F.keep) (N _ hf).1 hfc fun h' bk bd e l1 l2 b1 b2 => ?_
  have hLs : L < s.heap.objs.size := F.ns.lt
  have fresh : ∀ b, s.heap.objs.size ≤ b → B.get? b = none := fun b hb => Heap.get?_none_of_le (Nat.le_trans (Nat.le_trans F.above (Nat.le_of_lt hLs)) hb)
  have l3 : s.heap.objs.size ≤ bk := Nat.le_trans l1 (Nat.le_of_lt l2)
  refine hQ h' bk bd (F.keeps e) (fun q hq => ?_) (fun q hq => Nat.lt_of_lt_of_le (Heap.lt_size (N q hq).1) l1) l2
  rcases List.mem_cons.mp hq with rfl | hq
  · exact ⟨b1, Nat.ne_of_gt (Nat.lt_of_lt_of_le hLs l3), fresh _ l3⟩
  rcases List.mem_cons.mp hq with rfl | hq
  · exact ⟨b2, Nat.ne_of_gt (Nat.lt_of_lt_of_le hLs l1), fresh _ l1⟩
  · exact ⟨e _ _ (N q hq).1, (N q hq).2⟩
end
theorem mapOf_three {prog : Program} {w : World} {h : Heap} {wd qa qm bk : Addr} {ow : Obj} (e : h.get? wd = some ow) (dz : ow.IsDictOf (strKind prog w) [("asked", .ref qa), ("made", .ref qm), ("book", .ref bk)]) : h.MapOf (strKind prog w) wd (wdf qa qm bk) := by
  obtain ⟨es, ep, x, d, k, p, _⟩ := dz
  refine ⟨ow, es, ep, e, x, d, k, fun y => ?_⟩
  have := p.find y
  unfold findBy
  rw [← Array.find?_toList, this]
  by_cases h1 : y = "asked"
  · subst h1; rfl
  by_cases h2 : y = "made"
  · subst h2; rfl
  by_cases h3 : y = "book"
  · subst h3; rfl
  unfold wdf valueAt
  simp [h1, h2, h3, Ne.symm h1, Ne.symm h2, Ne.symm h3]
theorem world_new {w : World} {B h : Heap} {L : Addr} {wd qa qm bk bd f c cw : Addr} {qual : Str} {pm ct : Value} {oc ow ol : Obj} {ps vs : Array Value} {t : Tok} (N : News B L h [(bk, bookObj bd f [] 0), (bd, dictOf [] 0), (f, facObj cw qual pm c ct), (c, oc), (qm, listOf #[] 0), (qa, listOf #[] 0), (wd, ow), (cw, ol), (303, tabObj ps)])
    (dz : ow.IsDictOf (strKind PR w) [("asked", .ref qa), ("made", .ref qm), ("book", .ref bk)]) (dw : ol.data = .cell (some (.ref wd))) (dc : oc.data = .fields vs) (vc : vs[1]? = some (.str qual t))
    (a0 : @LT.lt Nat instLTNat 303 cw) (a1 : @LT.lt Nat instLTNat L cw) (a2 : @LT.lt Nat instLTNat cw wd) (a3 : @LT.lt Nat instLTNat wd qa) (a4 : @LT.lt Nat instLTNat qa qm) (a5 : @LT.lt Nat instLTNat qm c) (a6 : @LT.lt Nat instLTNat c f) (a7 : @LT.lt Nat instLTNat f bd) (a8 : @LT.lt Nat instLTNat bd bk) :
    Apart (over h qa qm bk) qa qm bk ∧ (∃ na nm nb, h.get? qa = some (listOf #[] na) ∧ h.get? qm = some (listOf #[] nm) ∧ h.get? bk = some (bookObj bd f [] nb) ∧ h.get? bd = some (dictOf [] 0)) ∧
      ∀ Bn : Heap, (∀ b o, @LT.lt Nat instLTNat L b → b ≠ qa → b ≠ qm → b ≠ bk → h.get? b = some o → Bn.get? b = some o) → WorldAt w Bn wd qa qm bk bd f false := by
  have zb := (N _ (.head _)).1
  have zd := (N _ (.tail _ (.head _))).1
  have zf := (N _ (.tail _ (.tail _ (.head _)))).1
  have zc := (N _ (.tail _ (.tail _ (.tail _ (.head _))))).1
  have zm := (N _ (.tail _ (.tail _ (.tail _ (.tail _ (.head _)))))).1
  have za := (N _ (.tail _ (.tail _ (.tail _ (.tail _ (.tail _ (.head _))))))).1
  have zw := (N _ (.tail _ (.tail _ (.tail _ (.tail _ (.tail _ (.tail _ (.head _)))))))).1
  have zl := (N _ (.tail _ (.tail _ (.tail _ (.tail _ (.tail _ (.tail _ (.tail _ (.head _))))))))).1
  dsimp only at zb zd zf zc zm za zw zl
  have ne : ∀ {a b : Addr}, @LT.lt Nat instLTNat a b → a ≠ b := fun l => Nat.ne_of_lt l
  have bkf : @LT.lt Nat instLTNat f bk := Nat.lt_trans a7 a8
  have bkc : @LT.lt Nat instLTNat c bk := Nat.lt_trans a6 bkf
  have bkm : @LT.lt Nat instLTNat qm bk := Nat.lt_trans a5 bkc
  have bka : @LT.lt Nat instLTNat qa bk := Nat.lt_trans a4 bkm
  have bkw : @LT.lt Nat instLTNat wd bk := Nat.lt_trans a3 bka
  have b2 : @LT.lt Nat instLTNat cw bk := Nat.lt_trans a2 bkw
  have mf : @LT.lt Nat instLTNat qm f := Nat.lt_trans a5 a6
  have md : @LT.lt Nat instLTNat qm bd := Nat.lt_trans mf a7
  have cqa : @LT.lt Nat instLTNat cw qa := Nat.lt_trans a2 a3
  have lwd : @LT.lt Nat instLTNat L wd := Nat.lt_trans a1 a2
  have lqm : @LT.lt Nat instLTNat L qm := Nat.lt_trans (Nat.lt_trans lwd a3) a4
  refine ⟨⟨ne a4, ne bka, ne bkm, hideAll_none _ (.head _), hideAll_none _ (.tail _ (.head _)), hideAll_none _ (.tail _ (.tail _ (.head _))), ?_, ?_⟩, ⟨_, _, _, za, zm, zb, zd⟩, fun Bn g => ?_⟩
  rotate_left 2
  · have gw := g _ _ lwd (ne a3) (ne (Nat.lt_trans a3 a4)) (ne bkw) zw
    have gl := g _ _ a1 (ne cqa) (ne (Nat.lt_trans cqa a4)) (ne b2) zl
    have gf := g _ _ (Nat.lt_trans lqm mf) (Ne.symm (ne (Nat.lt_trans a4 mf))) (Ne.symm (ne mf)) (ne bkf) zf
    have gc := g _ _ (Nat.lt_trans lqm a5) (Ne.symm (ne (Nat.lt_trans a4 a5))) (Ne.symm (ne a5)) (ne bkc) zc
    have gd := g _ _ (Nat.lt_trans lqm md) (Ne.symm (ne (Nat.lt_trans a4 md))) (Ne.symm (ne md)) (ne a8) zd
    exact ⟨mapOf_three gw dz, ⟨cw, qual, pm, c, ct, gf, ⟨_, gl, dw⟩, ⟨_, _, _, _, rfl, gc, dc, vc⟩⟩, gd⟩
  · refine beq_eq_false_iff_ne.mpr fun q => ?_
    have : sysModules < 303 := by decide
    rw [q] at b2
    exact absurd (Nat.lt_trans a0 b2) (Nat.not_lt.mpr (Nat.le_of_lt this))
  · refine beq_eq_false_iff_ne.mpr fun q => ?_
    have : bk = 108 := by injection q
    rw [this] at b2
    exact absurd (Nat.lt_trans a0 b2) (by decide)
local macro_rules | `(tactic| walk_at "call ref") => `(tactic| (k_here; (with_reducible show wpAny _ _ (call (Value.ref 108) _) _ _ _); (refine book_made_K (by k_asm) (by k_asm) (by k_asm) (by k_mem) rfl ?_); intro h' bk' bd' F' N' l1 l2; (try dsimp only at N'); (try k_lt l1); (try k_lt2 l2)))
set_option maxHeartbeats 8000000 in
theorem spec_world : ∀ {w : World} {mg mb : Str → Option Value} {p : Program} {loose : List Str} {mean : ExcName → Option Value} {A : Around} {s : Shared} {Q : Value → Shared → Prop} {E : Value → Shared → Prop} {B : Heap}
  (hB : ∀ b o, B.get? b = some o → s.heap.get? b = some o) (hz : B.objs.size ≤ s.heap.objs.size) (hW : s.heap.get? 303 = some (tabObj #[]) ∧ B.get? 303 = none)
  (X : (KK w.params).In B) (T : Top p loose mean mg mb B) (hroom : A.depth + 20 < recursionLimit) (hh : A.handled = none)
  (hQ : ∀ h' tk wd qa qm bk bd lf ps, (∀ b o, B.get? b = some o → h'.get? b = some o) → h'.get? 303 = some (tabObj ps) → Apart (over h' qa qm bk) qa qm bk → (∃ na nm nb, h'.get? qa = some (listOf #[] na) ∧ h'.get? qm = some (listOf #[] nm) ∧ h'.get? bk = some (bookObj bd lf [] nb) ∧ h'.get? bd = some (dictOf [] 0)) →
    (∀ Bn : Heap, (∀ b o, @LT.lt Nat instLTNat s.heap.objs.size b → b ≠ qa → b ≠ qm → b ≠ bk → h'.get? b = some o → Bn.get? b = some o) → WorldAt w Bn wd qa qm bk bd lf false) →
    @LT.lt Nat instLTNat s.heap.objs.size qa → @LT.lt Nat instLTNat s.heap.objs.size qm → @LT.lt Nat instLTNat s.heap.objs.size bd → @LT.lt Nat instLTNat bd bk → Q (.ref wd) ⟨h', s.gens, s.drawn, tk, s.os⟩),
  wpAny (model PySem.Challenge.rw_in0022_01.row.toRowW.prog w) A (call (.ref 308) []) Q E s := by
  k_fill
  intro w mg mb p loose mean A s Q E B hB hz hW X T hroom hh hQ
  have hsl : sizeLine = 16777216 := by decide
  have hC : CodeHd B 307 303 := codeHd_of_K X (by kernel_rfl)
  refine wpAny_call (enterBc (W := [(303, tabObj #[])]) hB hz (fun q hq => by rw [List.mem_singleton.mp hq]; exact hW) X (topRead_of T) (by k_is) (by k_is) (by (first | lia | omega)) (BindsTo.of_eq rfl) (by rfl) (by decide +kernel) (fun h₁ L' tk cells hL F N Y => ?_) rfl rfl rfl)
  have hL1 : L' < L' + 1 := Nat.lt_succ_self _
  k_cells Y
  (try simp only [List.cons_append, List.nil_append] at N)
  (try dsimp only)
  have T1 := topRead_of T
  rename_i oW d1
  have F' : Fr B L' h₁ (fun _ => none) := F
  have d1' : oW.data = Data.cell none := d1
  have l303 : @LT.lt Nat instLTNat 303 L' := hL ▸ Heap.lt_size hW.1
  have l304 : @LT.lt Nat instLTNat 303 (L' + 1) := Nat.lt_succ_of_lt l303
  clear F d1
  k_steps
  rename News B L' _ _ => Nz
  rename Fr B L' _ _ => Fz
  rename (Obj.IsDictOf _ _ _) => dz
  rename (_ = Data.fields _) => dcz
  rename (_[1]? = some _) => vcz
  rename (_ = Data.cell (some _)) => dwz
  obtain ⟨Ap, C, W⟩ := world_new Nz dz dwz dcz vcz (by (first | lia | omega)) (by (first | lia | omega)) (by (first | lia | omega)) (by (first | lia | omega)) (by (first | lia | omega)) (by (first | lia | omega)) (by (first | lia | omega)) (by (first | lia | omega)) (by (first | lia | omega))
  refine hQ _ _ _ _ _ _ _ _ _ Fz.keep (Nz _ (.tail _ (.tail _ (.tail _ (.tail _ (.tail _ (.tail _ (.tail _ (.tail _ (.head _)))))))))).1 Ap C (hL ▸ W) ?_ ?_ ?_ ?_ <;> (first | lia | omega)
end
section
local macro_rules | `(tactic| walk_at "setAttr ref") => `(tactic| (k_here; (refine set_frozen_K (by k_asm) (by k_asm) (by k_asm) (by k_mem) (by k_updF) ?_); intro h' tk' tf' F' N'; (try dsimp only at N')))
set_option maxHeartbeats 8000000 in
theorem spec_freeze : ∀ {w : World} {mg mb : Str → Option Value} {p : Program} {loose : List Str} {mean : ExcName → Option Value} {A : Around} {s : Shared} {Q : Value → Shared → Prop} {E : Value → Shared → Prop} {B : Heap} {bk bd lf : Addr} {es : List DictEntry} {nb : Nat}
  (hB : ∀ b o, B.get? b = some o → s.heap.get? b = some o) (hz : B.objs.size ≤ s.heap.objs.size)
  (hW : ∀ q ∈ [((100 : Addr), tabObj #[]), (bd, dictOf [] 0), (bk, bookObj bd lf es nb)], s.heap.get? q.1 = some q.2 ∧ B.get? q.1 = none)
  (n1 : @LT.lt Nat instLTNat 100 bd) (n2 : @LT.lt Nat instLTNat bd bk)
  (X : (KK w.params).In B) (T : Top p loose mean mg mb B) (hroom : A.depth + 20 < recursionLimit) (hh : A.handled = none)
  (hQ : ∀ h' tk tf fl cs qual pm c' ctv ps, (∀ b o, B.get? b = some o → h'.get? b = some o) → h'.get? 100 = some (tabObj ps) → h'.get? bk = some (bookObj bd lf es nb) → h'.get? bd = some (frozenDict w.params tf fl 1) →
    h'.get? fl = some (frzObj cs qual pm c' ctv) → h'.IsCell cs (some (.ref bk)) → h'.CodeRec (.ref c') qual → @LE.le Nat instLENat s.heap.objs.size fl → @LE.le Nat instLENat s.heap.objs.size cs → @LE.le Nat instLENat s.heap.objs.size c' → Q .none ⟨h', s.gens, s.drawn, tk, s.os⟩),
  wpAny (model PySem.Challenge.rw_in0022_01.row.toRowW.prog w) A (call (.ref 105) [.ref bk]) Q E s := by
  k_fill
  intro w mg mb p loose mean A s Q E B bk bd lf es nb hB hz hW n1 n2 X T hroom hh hQ
  have hsl : sizeLine = 16777216 := by decide
  have hC : CodeHd B 104 100 := codeHd_of_K X (by kernel_rfl)
  refine wpAny_call (enterBc hB hz hW X (topRead_of T) (by k_is) (by k_is) (by (first | lia | omega)) (BindsTo.of_eq rfl) (by rfl) (by decide +kernel) (fun h₁ L' tk cells hL F N Y => ?_) rfl rfl rfl)
  have hL1 : L' < L' + 1 := Nat.lt_succ_self _
  k_cells Y
  (try simp only [List.cons_append, List.nil_append] at N)
  (try dsimp only)
  have T1 := topRead_of T
  rename_i oW d1
  have F' : Fr B L' h₁ (fun _ => none) := F
  have d1' : oW.data = Data.cell (some (.ref bk)) := d1
  have lb : @LT.lt Nat instLTNat bk L' := hL ▸ Heap.lt_size (hW _ (.tail _ (.tail _ (.head _)))).1
  clear F d1
  k_steps
  rename News B L' _ _ => Nz
  rename Fr B L' _ _ => Fz
  rename (_ = Data.fields _) => dcz
  rename (_[1]? = some _) => vcz
  exact hQ _ _ _ _ _ _ _ _ _ _ Fz.keep (Nz _ (.tail _ (.tail _ (.tail _ (.head _))))).1 (Nz _ (.tail _ (.tail _ (.tail _ (.tail _ (.tail _ (.head _))))))).1 (Nz _ (.tail _ (.tail _ (.tail _ (.tail _ (.head _)))))).1
    (Nz _ (.head _)).1 ⟨_, (Nz _ (.tail _ (.tail _ (.head _)))).1, d1'⟩ ⟨_, _, _, _, rfl, (Nz _ (.tail _ (.head _))).1, dcz, vcz⟩ (by (first | lia | omega)) (by (first | lia | omega)) (by (first | lia | omega))
end
section
section
variable {w : World} {A : Around} {E : Value → Shared → Prop} {s : Shared} {B : Heap} {L bk bd lf : Addr} {es : List DictEntry} {nb : Nat} {m : Str → Option Value} {mg mb : Str → Option Value} {p : Program} {loose : List Str} {mean : ExcName → Option Value}
theorem freeze_K {Q : Value → Shared → Prop} (F : Fr B L s.heap m) (N : News B L s.heap [((100 : Addr), tabObj #[]), (bd, dictOf [] 0), (bk, bookObj bd lf es nb)]) (n1 : @LT.lt Nat instLTNat 100 bd) (n2 : @LT.lt Nat instLTNat bd bk)
    (X : (KK w.params).In B) (T : Top p loose mean mg mb B) (hroom : A.depth + 20 < recursionLimit) (hh : A.handled = none)
    (hQ : ∀ h' tk tf fl cs qual pm c' ctv ps, Fr B L h' m → News B L h' [((100 : Addr), tabObj ps), (bd, frozenDict w.params tf fl 1), (bk, bookObj bd lf es nb)] →
      h'.get? fl = some (frzObj cs qual pm c' ctv) → h'.IsCell cs (some (.ref bk)) → h'.CodeRec (.ref c') qual → @LE.le Nat instLENat s.heap.objs.size fl → @LE.le Nat instLENat s.heap.objs.size cs → @LE.le Nat instLENat s.heap.objs.size c' → Q .none ⟨h', s.gens, s.drawn, tk, s.os⟩) :
    wpAny (model PR w) A (call (.ref 105) [.ref bk]) Q E s := by
  have z1 := N _ (.head _)
  have z2 := N _ (.tail _ (.head _))
  have z3 := N _ (.tail _ (.tail _ (.head _)))
  have up : ∀ b o, B.get? b = some o → (hideAll s.heap [100, bd, bk]).get? b = some o := fun b o e => by
    refine hideAll_get _ (F.keep b o e) fun q => ?_
    rcases List.mem_cons.mp q with rfl | q
    · rw [z1.2.2] at e; cases e
    rcases List.mem_cons.mp q with rfl | q
    · rw [z2.2.2] at e; cases e
    rcases List.mem_cons.mp q with rfl | q
    · rw [z3.2.2] at e; cases e
    · cases q
  refine spec_freeze (B := hideAll s.heap [100, bd, bk]) (fun b o e => of_hideAll _ e) (Nat.le_of_eq (hideAll_size _ _)) (fun q hq => ⟨(N q hq).1, ?_⟩) n1 n2 (X.keeps up) (T.keeps up) hroom hh fun h' tk tf fl cs qual pm c' ctv ps k e1 e2 e3 e4 e5 e6 x1 x2 x3 => ?_
  · refine hideAll_none _ ?_
    rcases List.mem_cons.mp hq with rfl | hq
    · exact .head _
    rcases List.mem_cons.mp hq with rfl | hq
    · exact .tail _ (.head _)
    rcases List.mem_cons.mp hq with rfl | hq
    · exact .tail _ (.tail _ (.head _))
    · cases hq
  · refine hQ h' tk tf fl cs qual pm c' ctv ps ⟨?_, fun b o e => k _ _ (up b o e), F.above⟩ (fun q hq => ?_) e4 e5 e6 x1 x2 x3
    · obtain ⟨o, es, ep, q1, r⟩ := F.ns
      refine ⟨o, es, ep, k _ _ (hideAll_get _ q1 fun q => ?_), r⟩
      rcases List.mem_cons.mp q with q | q
      · exact z1.2.1 q.symm
      rcases List.mem_cons.mp q with q | q
      · exact z2.2.1 q.symm
      rcases List.mem_cons.mp q with q | q
      · exact z3.2.1 q.symm
      · cases q
    · rcases List.mem_cons.mp hq with rfl | hq
      · exact ⟨e1, z1.2⟩
      rcases List.mem_cons.mp hq with rfl | hq
      · exact ⟨e3, z2.2⟩
      rcases List.mem_cons.mp hq with rfl | hq
      · exact ⟨e2, z3.2⟩
      · cases hq
theorem gm_freeze {pl : Sem Bool} {Q : Value × List Value → Shared → Prop} (F : Fr B L s.heap m) (X : (KK w.params).In B) (N : News B L s.heap [((100 : Addr), tabObj #[]), (bd, dictOf [] 0), (bk, bookObj bd lf es nb)]) (hq : Q (.ref 105, [.ref bk]) s) :
    wpAny (model PR w) A (getMethod (.ref bk) "freeze" pl) Q E s :=
  gm_plain (X.keeps F.keep) (N _ (.tail _ (.tail _ (.head _)))).1 (N _ (.tail _ (.head _))).1 (g := .ref 105) (by kernel_rfl) (looks_typeIn (X.keeps F.keep) (show typeIn (KK w.params) (.ref 105) = some (.type "function") by kernel_rfl)) (by decide) rfl hq
end
local macro_rules | `(tactic| walk_at "subscriptTail") => `(tactic| (k_here; (refine sub_world (by k_asm) (by assumption) ?_; first | refine world_asked (by k_asm) (by assumption) ?_ | refine world_made (by k_asm) (by assumption) ?_ | refine world_book (by k_asm) (by assumption) ?_)))
local macro_rules | `(tactic| walk_at "getMethod ref") => `(tactic| (k_here; (with_reducible show wpAny _ _ (getMethod (Value.ref _) (Str.ofString "freeze") _) _ _ _); refine gm_freeze (by k_asm) (by k_asm) (by assumption) ?_; dsimp only))
set_option maxHeartbeats 8000000 in
theorem spec_frozen : ∀ {w : World} {mg mb : Str → Option Value} {p : Program} {loose : List Str} {mean : ExcName → Option Value} {A : Around} {s : Shared} {Q : Value → Shared → Prop} {E : Value → Shared → Prop} {B : Heap} {wd qa qm bk bd lf : Addr} {es : List DictEntry} {nb : Nat}
  (hB : ∀ b o, B.get? b = some o → s.heap.get? b = some o) (hz : B.objs.size ≤ s.heap.objs.size)
  (hW : ∀ q ∈ [((100 : Addr), tabObj #[]), (bd, dictOf [] 0), (bk, bookObj bd lf es nb)], s.heap.get? q.1 = some q.2 ∧ B.get? q.1 = none)
  (n1 : @LT.lt Nat instLTNat 100 bd) (n2 : @LT.lt Nat instLTNat bd bk) (hw : B.MapOf (strKind PR w) wd (wdf qa qm bk))
  (X : (KK w.params).In B) (T : Top p loose mean mg mb B) (hroom : A.depth + 30 < recursionLimit) (hh : A.handled = none)
  (hQ : ∀ h' tk tf fl cs qual pm c' ctv ps, (∀ b o, B.get? b = some o → h'.get? b = some o) → h'.get? 100 = some (tabObj ps) → h'.get? bk = some (bookObj bd lf es nb) → h'.get? bd = some (frozenDict w.params tf fl 1) →
    h'.get? fl = some (frzObj cs qual pm c' ctv) → h'.IsCell cs (some (.ref bk)) → h'.CodeRec (.ref c') qual → @LE.le Nat instLENat s.heap.objs.size fl → @LE.le Nat instLENat s.heap.objs.size cs → @LE.le Nat instLENat s.heap.objs.size c' → Q (.bool true) ⟨h', s.gens, s.drawn, tk, s.os⟩),
  wpAny (model PySem.Challenge.rw_in0022_01.row.toRowW.prog w) A (call (.ref 320) [.ref wd]) Q E s := by
  k_fill
  intro w mg mb p loose mean A s Q E B wd qa qm bk bd lf es nb hB hz hW n1 n2 hw X T hroom hh hQ
  have hsl : sizeLine = 16777216 := by decide
  refine wpAny_call (enterB hB hz hW X (topRead_of T) (by k_is) (by k_is) (by (first | lia | omega)) (BindsTo.of_eq rfl) (locs rfl) (fun h₁ L' hL F N => ?_) rfl rfl rfl (by decide))
  (try dsimp only)
  have T1 := topRead_of T
  k_steps
  refine freeze_K (by k_asm) N n1 n2 X T (by show A.depth + 1 + 20 < recursionLimit; (first | lia | omega)) hh fun h' tk' tf' fl' cs' qual' pm' c' ctv' ps' F' N' e4 e5 e6 x1 x2 x3 => ?_
  have x0 : L' ≤ h₁.objs.size := Nat.le_of_lt F.ns.lt
  rw [hL] at x0
  clear F N
  k_steps
  exact hQ _ _ _ _ _ _ _ _ _ _ F'.keep (N' _ (.head _)).1 (N' _ (.tail _ (.tail _ (.head _)))).1 (N' _ (.tail _ (.head _))).1 e4 e5 e6 (Nat.le_trans x0 x1) (Nat.le_trans x0 x2) (Nat.le_trans x0 x3)
end
section
theorem led_all {G h : Heap} {L : Addr} {m : Str → Option Value} (F : Fr G L h m) (xs : List Addr) :
    ∃ tl, News G L h tl ∧ (∀ q ∈ tl, q.1 ∉ xs) ∧ ∀ b o, h.get? b = some o → b ≠ L → b ∉ xs → G.get? b = some o ∨ (b, o) ∈ tl := by
  refine ⟨(List.range h.objs.size).filterMap fun b => if b = L ∨ b ∈ xs ∨ (G.get? b).isSome then none else (h.get? b).map fun o => (b, o), fun q hq => ?_, fun q hq => ?_, fun b o e hL hx => ?_⟩
  · obtain ⟨b, hb, e⟩ := List.mem_filterMap.mp hq
    split at e
    · cases e
    · rename_i hc
      obtain ⟨o, e1, rfl⟩ := Option.map_eq_some_iff.mp e
      refine ⟨e1, fun q => hc (.inl q), ?_⟩
      cases z : G.get? b with
      | none => rfl
      | some o' => exact absurd (.inr (.inr (by rw [z]; rfl))) hc
  · obtain ⟨b, hb, e⟩ := List.mem_filterMap.mp hq
    split at e
    · cases e
    · rename_i hc
      obtain ⟨o, e1, rfl⟩ := Option.map_eq_some_iff.mp e
      exact fun z => hc (.inr (.inl z))
  · cases z : G.get? b with
    | some o' => left; have := F.keep _ _ z; rw [e] at this; exact this.symm
    | none =>
      right
      refine List.mem_filterMap.mpr ⟨b, List.mem_range.mpr (Heap.lt_size e), ?_⟩
      rw [if_neg (by rintro (q | q | q); exact hL q; exact hx q; rw [z] at q; cases q), e]
      rfl
local macro_rules | `(tactic| walk_at "mine upto") => `(tactic| repeat (first | (k_unfold; (try dsimp only)) | ((fail_if_success (with_reducible show wpAny _ _ (call (Value.ref 308) _) _ _ _)); first | walk1 | (dsimp only; walk1))))
local macro_rules | `(tactic| walk_at "mine store") => `(tactic| repeat (first | (k_unfold; (try dsimp only)) | ((fail_if_success (with_reducible show wpAny _ _ (execs (Stmt.Assign _ _ _ :: _) _) _ _ _)); first | walk1 | (dsimp only; walk1))))
theorem law_made {w : World} {mg mb : Str → Option Value} {p : Program} {loose : List Str} {mean : ExcName → Option Value} {A : Around} {s : Shared} {G : Heap} {L : Addr} {m : Str → Option Value} {Q : Value → Shared → Prop} {E : Value → Shared → Prop}
    (X : (KK w.params).In G) (T : Top p loose mean mg mb G) (hroom : A.depth + 20 < recursionLimit) (hh : A.handled = none) (F : Fr G L s.heap m) (N : News G L s.heap [((100 : Addr), tabObj #[]), ((303 : Addr), tabObj #[])])
    (h : ∀ h' tk wd qa qm bk bd lf na nm nb tl ps, Fr G L h' m → News G L h' ((qa, listOf #[] na) :: (qm, listOf #[] nm) :: (bk, bookObj bd lf [] nb) :: tl) → (∀ q ∈ tl, q.1 ∉ [qa, qm, bk]) → (303, tabObj ps) ∈ tl → (100, tabObj #[]) ∈ tl → (bd, dictOf [] 0) ∈ tl →
      Apart (over h' qa qm bk) qa qm bk → @LT.lt Nat instLTNat 100 bd → @LT.lt Nat instLTNat bd bk → (∀ Bn : Heap, (∀ q ∈ tl, Bn.get? q.1 = some q.2) → WorldAt w Bn wd qa qm bk bd lf false) → Q (.ref wd) ⟨h', s.gens, s.drawn, tk, s.os⟩) :
    wpAny (model PR w) A (call (.ref 308) []) Q E s := by
  have z0 := N _ (.head _)
  have z3 := N _ (.tail _ (.head _))
  have hLs : L < s.heap.objs.size := F.ns.lt
  have up : ∀ b o, G.get? b = some o → (hideAll s.heap [303]).get? b = some o := fun b o e => by
    refine hideAll_get _ (F.keep b o e) fun q => ?_
    rw [List.mem_singleton.mp q, z3.2.2] at e; cases e
  refine spec_world (B := hideAll s.heap [303]) (fun b o e => of_hideAll _ e) (Nat.le_of_eq (hideAll_size _ _)) ⟨z3.1, hideAll_none _ (.head _)⟩ (X.keeps up) (T.keeps up) hroom hh fun h' tk wd qa qm bk bd lf ps k e3 Ap C W l1 l2 l3 l4 => ?_
  obtain ⟨na, nm, nb, ea, em, eb, ed⟩ := C
  have keep : ∀ b o, b ≠ 303 → s.heap.get? b = some o → h'.get? b = some o := fun b o hb e => k _ _ (hideAll_get _ e fun q => hb (List.mem_singleton.mp q))
  have F2 : Fr G L h' m := ⟨by
    obtain ⟨o, es, ep, q1, r⟩ := F.ns
    exact ⟨o, es, ep, keep _ _ (Ne.symm z3.2.1) q1, r⟩, fun b o e => k _ _ (up b o e), F.above⟩
  obtain ⟨tl, N2, off, all⟩ := led_all F2 [qa, qm, bk]
  have gt : ∀ {b : Addr}, @LT.lt Nat instLTNat s.heap.objs.size b → b ≠ L ∧ G.get? b = none := fun hb =>
    ⟨fun q => absurd hLs (by rw [← q]; exact Nat.not_lt.mpr (Nat.le_of_lt hb)), Heap.get?_none_of_le (Nat.le_trans F.above (Nat.le_of_lt (Nat.lt_trans hLs hb)))⟩
  have l5 : @LT.lt Nat instLTNat s.heap.objs.size bk := Nat.lt_trans l3 l4
  have old : ∀ {b : Addr} {o : Obj}, s.heap.get? b = some o → b ∉ [qa, qm, bk] := fun {b o} e q => by
    have hb : b < s.heap.objs.size := Heap.lt_size e
    rcases List.mem_cons.mp q with rfl | q
    · exact absurd hb (Nat.not_lt.mpr (Nat.le_of_lt l1))
    rcases List.mem_cons.mp q with rfl | q
    · exact absurd hb (Nat.not_lt.mpr (Nat.le_of_lt l2))
    rcases List.mem_cons.mp q with rfl | q
    · exact absurd hb (Nat.not_lt.mpr (Nat.le_of_lt l5))
    · cases q
  have m3 : (303, tabObj ps) ∈ tl := (all _ _ e3 z3.2.1 (old z3.1)).elim (fun q => by rw [z3.2.2] at q; cases q) id
  have m0 : (100, tabObj #[]) ∈ tl := (all _ _ (keep _ _ (by decide) z0.1) z0.2.1 (old z0.1)).elim (fun q => by rw [z0.2.2] at q; cases q) id
  have md : (bd, dictOf [] 0) ∈ tl := (all _ _ ed (gt l3).1 (fun q => by
    rcases List.mem_cons.mp q with rfl | q
    · rw [ea] at ed; simp at ed
    rcases List.mem_cons.mp q with rfl | q
    · rw [em] at ed; simp at ed
    rcases List.mem_cons.mp q with rfl | q
    · rw [eb] at ed; cases ed
    · cases q)).elim (fun q => by rw [(gt l3).2] at q; cases q) id
  refine h h' tk wd qa qm bk bd lf na nm nb tl ps F2 (fun q hq => ?_) off m3 m0 md Ap (Nat.lt_trans (Heap.lt_size z0.1) l3) l4 fun Bn hB => W Bn fun b o l h1 h2 h3 e => ?_
  · rcases List.mem_cons.mp hq with rfl | hq
    · exact ⟨ea, gt l1⟩
    rcases List.mem_cons.mp hq with rfl | hq
    · exact ⟨em, gt l2⟩
    rcases List.mem_cons.mp hq with rfl | hq
    · exact ⟨eb, gt l5⟩
    · exact N2 q hq
  · rcases all b o e (gt l).1 (by simp [h1, h2, h3]) with q | q
    · rw [(gt l).2] at q; cases q
    · exact hB _ q
set_option maxHeartbeats 8000000 in
theorem law_a : ∀ {w : World} {mg mb : Str → Option Value} {p : Program} {loose : List Str} {mean : ExcName → Option Value} {A : Around} {s : Shared} {G : Heap} {L sl fa : Addr} {cd : Value} {R : Flow → Shared → Prop} {E : Value → Shared → Prop}
  (X : (KK w.params).In G) (T : Top p loose mean mg mb G) (hroom : A.depth + 400 < recursionLimit) (hh : A.handled = none)
  (F : Fr G L s.heap (fun y => if y = "script" then some (.ref sl) else none)) (N : News G L s.heap [((100 : Addr), tabObj #[]), ((303 : Addr), tabObj #[])])
  (h : ∀ h' tk wd qa qm bk bd lf na nm nb tl ps, Fr G L h' (fun y => if y = "world" then some (.ref wd) else if y = "script" then some (.ref sl) else none) → News G L h' ((qa, listOf #[] na) :: (qm, listOf #[] nm) :: (bk, bookObj bd lf [] nb) :: tl) → (∀ q ∈ tl, q.1 ∉ [qa, qm, bk]) → (303, tabObj ps) ∈ tl → (100, tabObj #[]) ∈ tl → (bd, dictOf [] 0) ∈ tl →
      Apart (over h' qa qm bk) qa qm bk → @LT.lt Nat instLTNat 100 bd → @LT.lt Nat instLTNat bd bk → (∀ Bn : Heap, (∀ q ∈ tl, Bn.get? q.1 = some q.2) → WorldAt w Bn wd qa qm bk bd lf false) →
      wpAny (model PySem.Challenge.rw_in0022_01.row.toRowW.prog w) (A.deeper (envOf "law" s21.1 L fa cd)) (execs (b21.1.drop 1) (envOf "law" s21.1 L fa cd)) R E ⟨h', s.gens, s.drawn, tk, s.os⟩),
  wpAny (model PySem.Challenge.rw_in0022_01.row.toRowW.prog w) (A.deeper (envOf "law" s21.1 L fa cd)) (execs b21.1 (envOf "law" s21.1 L fa cd)) R E s := by
  k_fill
  intro w mg mb p loose mean A s G L sl fa cd R E X T hroom hh F N h
  have hsl : sizeLine = 16777216 := by decide
  have T1 := topRead_of T
  walk_at "mine upto"
  refine law_made X T (by show A.depth + 1 + 20 < recursionLimit; (first | lia | omega)) hh F N fun h' tk wd qa qm bk bd lf na nm nb tl ps F' N' off m3 m0 md Ap n1 n2 W => ?_
  clear F N
  walk_at "mine store"
  exact h _ _ _ _ _ _ _ _ _ _ _ _ _ (by assumption) (by assumption) off m3 m0 md Ap.over n1 n2 W
end
section
theorem allLt_mem {d : Addr} {l : List (Addr × Obj)} : AllLt d l → ∀ p ∈ l, p.1 < d := by
  induction l with
  | nil => intro _ p hp; cases hp
  | cons q r ih =>
    intro h p hp
    rcases List.mem_cons.mp hp with rfl | hp
    · exact h.1
    · exact ih h.2 p hp
local macro_rules | `(tactic| walk_at "mine for") => `(tactic| repeat (first | (k_unfold; (try dsimp only)) | ((fail_if_success (with_reducible show wpAny _ _ (execs (Stmt.For _ _ _ _ _ :: _) _) _ _ _)); first | walk1 | (dsimp only; walk1))))
local macro_rules | `(tactic| walk_at "mine store") => `(tactic| repeat (first | (k_unfold; (try dsimp only)) | ((fail_if_success (with_reducible show wpAny _ _ (execs (Stmt.Assign _ _ _ :: _) _) _ _ _)); first | walk1 | (dsimp only; walk1))))
set_option maxHeartbeats 8000000 in
theorem law_b : ∀ {w : World} {mg mb : Str → Option Value} {p : Program} {loose : List Str} {mean : ExcName → Option Value} {A : Around} {s : Shared} {G : Heap} {L sl fa : Addr} {cd : Value} {R : Flow → Shared → Prop} {E : Value → Shared → Prop} {m : Str → Option Value} {tl : List (Addr × Obj)} {vs : List Value} {ns : List Int}
  (X : (KK w.params).In G) (T : Top p loose mean mg mb G) (hroom : A.depth + 400 < recursionLimit) (hh : A.handled = none) (hl : G.IsList sl vs.toArray) (hi : IntsAre vs ns) (hn : ns.length ≤ 63)
  (F : Fr G L s.heap m) (N : News G L s.heap tl) (m1 : m "script" = some (.ref sl))
  (h : ∀ h' tk nl ws nums hf t, Fr G L h' (fun y => if y = "half" then some (.int ((hf : Nat) : Int) t) else if y = "numbers" then some (.ref nl) else m y) → News G L h' ((nl, listOf ws.toArray 0) :: tl) → (∀ q ∈ tl, q.1 < nl) → IntsAre ws nums → nums.length ≤ 10 →
    wpAny (model PySem.Challenge.rw_in0022_01.row.toRowW.prog w) (A.deeper (envOf "law" s21.1 L fa cd)) (execs (b21.1.drop 3) (envOf "law" s21.1 L fa cd)) R E ⟨h', s.gens, s.drawn, tk, s.os⟩),
  wpAny (model PySem.Challenge.rw_in0022_01.row.toRowW.prog w) (A.deeper (envOf "law" s21.1 L fa cd)) (execs (b21.1.drop 1) (envOf "law" s21.1 L fa cd)) R E s := by
  k_fill
  intro w mg mb p loose mean A s G L sl fa cd R E m tl vs ns X T hroom hh hl hi hn F N m1 h
  have hsl : sizeLine = 16777216 := by decide
  have T1 := topRead_of T
  rw [← fr_eq m1] at F
  walk_at "mine for"
  rename Fr G L _ _ => Fz
  rename News G L _ _ => Nz
  rename (_ ∧ _ ∧ _ ∧ _ ∧ AllLt _ tl) => lz
  rename (IntsAre _ ([4153, 54, 11601] ++ List.take 4 ns ++ [36, 55, 12347])) => iz
  have hlen : (List.take 4 ns).length ≤ 4 := List.length_take_le 4 ns
  have hlen2 : ([4153, 54, 11601] ++ List.take 4 ns ++ [36, 55, 12347]).length ≤ 10 := by simp only [List.length_append, List.length_cons, List.length_nil]; (first | lia | omega)
  have hd : ((1 + 1 + 1 + (List.take 4 ns).length + (1 + 1 + 1) : Nat) : Int).fdiv 2 = (((6 + (List.take 4 ns).length) / 2 : Nat) : Int) := by rw [Int.fdiv_eq_ediv_of_nonneg _ (by decide)]; (first | lia | omega)
  simp only [fr_pt m1, hd] at Fz
  exact h _ _ _ _ _ _ _ Fz (fun q hq => by
    rcases List.mem_cons.mp hq with rfl | hq
    · exact Nz _ (.head _)
    · exact Nz _ (.tail _ (.tail _ (.tail _ (.tail _ (.tail _ hq)))))) (allLt_mem lz.2.2.2.2) iz hlen2
end
section
open PySem PySem.W PySem.Calls PyProof.Rows LCg
noncomputable def RLEnd (h₀ : Heap) (L I : Addr) (oI : Obj) (J : (Str → Option Value) → Heap → Prop) (s₁ : Shared) (Q : Flow → Shared → Prop) (f : Flow) (s₂ : Shared) : Prop :=
  match f with
  | .ret v => Q (.ret v) s₂
  | .brk => Q .next s₂
  | _ => ∃ h' tk' m', s₂ = { s₁ with heap := h', toks := tk' } ∧ Fr h₀ L h' m' ∧ h'.get? I = some oI ∧ J m' h'
section
variable {prog : Program} {w : World} {A : Around} {E : Value → Shared → Prop} {s : Shared} {h₀ : Heap} {env : Env}
theorem range_loop {x : Str} {px : Pos} {body : List Stmt} {r : Addr} {a b : Int} {t u v : Tok} {n : Nat} {m₀ : Str → Option Value} {Q : Flow → Shared → Prop} (J : Addr → Nat → (Str → Option Value) → Heap → Prop)
    (hh : A.handled = none) (hr : IsRange s.heap r a b 1 t u v) (hsm : Builtin.Range.small a b 1 = true) (hn : Builtin.Range.rangeSize a b 1 = ((n : Nat) : Int)) (hx : env.kindOf x = some .local) (hp : (env.scope.kind == .class || (env.scope.kind == .module && env.locals != env.globals)) = false)
    (F : Fr h₀ env.locals s.heap m₀) (hj : ∀ h, (∀ b o, s.heap.get? b = some o → h.get? b = some o) → J s.heap.objs.size 0 m₀ h)
    (stable : ∀ I i m h h', J I i m h → (∀ b o, b ≠ I → b ≠ env.locals → h.get? b = some o → h'.get? b = some o) → J I i m h')
    (turn : ∀ i t m₁ h tk I oI (E' : Value → Shared → Prop), i < n → J I i m₁ h → h.get? I = some oI → (∃ vs, oI.data = .fields vs) → h₀.get? I = none → I ≠ env.locals → Fr h₀ env.locals h (fun y => if y = x then some (.int (a + (i : Int)) t) else m₁ y) →
      wpAny (model prog w) A (execs body env) (RLEnd h₀ env.locals I oI (J I (i + 1)) { s with heap := h, toks := tk } Q) E' { s with heap := h, toks := tk })
    (done : ∀ m₁ h tk I, J I n m₁ h → Fr h₀ env.locals h m₁ → Q .next { s with heap := h, toks := tk }) :
    wpAny (model prog w) A (pyIter (.ref r)) (fun it s₂ => codeAny (model prog w) A (.forLoop (.Name x px) it body [] env) (fun r s' => match r with | .ok f => Q f s' | .error e => cameBackBy (model prog w) A env E e s') s₂) E s := by
  refine wpAny_pyIter_range hr hsm ?_
  have W : Walks prog w A s.heap.objs.size [s.heap.objs.size] [s.heap.objs.size] n (fun i v => ∃ t, v = .int (a + (i : Int)) t) (fun i h => IsRangeIter h s.heap.objs.size (a + (i : Nat) * 1) ((n : Int) - (i : Nat)) 1) := range_walks hh a n
  have hI₀ : h₀.get? s.heap.objs.size = none := next_is_new F
  have hIL : env.locals ≠ s.heap.objs.size := Nat.ne_of_lt F.ns.lt
  have up : ∀ c' o, s.heap.get? c' = some o → (s.heap.push { cls := .type "range_iterator", data := .fields #[rawInt a, rawInt (Builtin.Range.rangeSize a b 1), rawInt 1] }).get? c' = some o := fun c' o e => Heap.get?_push_of_some _ e
  refine codeAny_forLoop_any (fun k s' => ∃ h' tk i m', s' = { s with heap := h', toks := tk } ∧ i ≤ n ∧ k = n + 1 - i ∧ IsRangeIter h' s.heap.objs.size (a + (i : Nat) * 1) ((n : Int) - (i : Nat)) 1 ∧ Fr h₀ env.locals h' m' ∧ J s.heap.objs.size i m' h') ?_ (n + 1)
    ⟨_, s.toks, 0, m₀, rfl, Nat.zero_le _, rfl, by show IsRangeIter _ _ _ _ _; rw [hn]; simpa using Heap.get?_push_size _ rfl, F.keeps up, hj _ up⟩
  rintro k s' ⟨h', tk, i, m', rfl, hi, rfl, hit, F', hJ⟩
  by_cases hlt' : i < n
  · refine W.item i _ _ _ hlt' hit fun v h₂ tk₂ hv hst₂ hk₂ => ?_
    obtain ⟨tv, rfl⟩ := hv
    have F₂ := fr_but F' hk₂ hIL hI₀
    refine wpAny_pure ?_
    refine wpAny_assign_Name (wpAny_storeName_local hx F₂.ns (fun h₃ hn₃ hs₃ => ?_) hp)
    have F₃ := F₂.set hn₃ hs₃
    obtain ⟨oI, hst₂', hoI, hback⟩ : ∃ oI, h₂.get? s.heap.objs.size = some oI ∧ (∃ vs, oI.data = .fields vs) ∧ ∀ h : Heap, h.get? s.heap.objs.size = some oI → IsRangeIter h s.heap.objs.size (a + ((i + 1 : Nat) : Int) * 1) ((n : Int) - ((i + 1 : Nat) : Int)) 1 := ⟨_, hst₂, ⟨_, rfl⟩, fun _ e => e⟩
    have hJ' := stable _ _ _ _ h₃ hJ fun b o h1 h2 e => hs₃.extBut _ _ h2 (hk₂ b o (fun q => h1 (List.mem_singleton.mp q)) e)
    refine wpAny_mono (turn i tv m' h₃ _ _ oI _ hlt' hJ' (hs₃.extBut _ _ (Ne.symm hIL) hst₂') hoI hI₀ (Ne.symm hIL) F₃) (fun f s₃ z => ?_) fun _ _ e => e
    have fin : (∃ h' tk' m', s₃ = { s with heap := h', toks := tk' } ∧ Fr h₀ env.locals h' m' ∧ h'.get? s.heap.objs.size = some oI ∧ J s.heap.objs.size (i + 1) m' h') → ∃ q, q < n + 1 - i ∧ ∃ h' tk i m', s₃ = { s with heap := h', toks := tk } ∧ i ≤ n ∧ q = n + 1 - i ∧ IsRangeIter h' s.heap.objs.size (a + (i : Nat) * 1) ((n : Int) - (i : Nat)) 1 ∧ Fr h₀ env.locals h' m' ∧ J s.heap.objs.size i m' h' := by
      rintro ⟨h', tk', m', rfl, F', eI, j⟩
      exact ⟨n + 1 - (i + 1), by (first | lia | omega), h', tk', i + 1, m', rfl, hlt', rfl, hback _ eI, F', j⟩
    cases f with
    | ret v => exact z
    | brk => exact z
    | next => exact fin z
    | cont => exact fin z
  · obtain rfl : i = n := Nat.le_antisymm hi (Nat.not_lt.mp hlt')
    refine W.done _ _ _ hit fun h₂ tk₂ hk₂ => wpAny_execs_nil ?_
    exact done m' h₂ tk₂ _ (stable _ _ _ _ _ hJ fun b o h1 h2 e => hk₂ b o (fun q => h1 (List.mem_singleton.mp q)) e) (fr_but F' hk₂ hIL hI₀)
end
end
section
noncomputable def LawSt (w : World) (G : Heap) (L wd qa qm bk bd lf nl : Addr) (ws : List Value) (I : Addr) (fz : Bool) (n : Nat) (h : Heap) : Prop :=
  ∃ (B : Heap) (ms : List Value) (es : List DictEntry) (Bk Dm : List (Str × Nat)), (∀ b o, G.get? b = some o → B.get? b = some o) ∧ (B.get? L = none ∧ B.get? I = none) ∧ ((qa ≠ L ∧ qm ≠ L ∧ bk ≠ L) ∧ qa ≠ I ∧ qm ≠ I ∧ bk ≠ I) ∧
    Apart B qa qm bk ∧ Cells B h qa qm bk bd lf [] ms es ∧ WorldAt w B wd qa qm bk bd lf fz ∧ (EntsAre w es Bk ∧ GoodBk Bk ∧ KeysOk Bk) ∧ (MadeAre B ms Dm ∧ (fz = false → Dm = Bk)) ∧ (ms.length ≤ n ∧ es.length ≤ n) ∧
    B.get? nl = some (listOf ws.toArray 0) ∧ (∃ ps, B.get? 303 = some (tabObj ps)) ∧ ∃ ps, B.get? 100 = some (tabObj ps) ∧ (fz = false → ps = #[])
theorem mL5 {a b c d e : Addr} : d ∈ [a, b, c, d, e] := .tail _ (.tail _ (.tail _ (.head _)))
theorem mI5 {a b c d e : Addr} : e ∈ [a, b, c, d, e] := .tail _ (.tail _ (.tail _ (.tail _ (.head _))))
theorem nin5 {a b c d e x : Addr} (h1 : x ≠ a) (h2 : x ≠ b) (h3 : x ≠ c) (h4 : x ≠ d) (h5 : x ≠ e) : x ∉ [a, b, c, d, e] := by simp [h1, h2, h3, h4, h5]
theorem nin3 {a b c x : Addr} (h1 : x ≠ a) (h2 : x ≠ b) (h3 : x ≠ c) : x ∉ [a, b, c] := by simp [h1, h2, h3]
theorem Apart.five {B h : Heap} {qa qm bk L I : Addr} (Ap : Apart B qa qm bk) : Apart (hideAll h [qa, qm, bk, L, I]) qa qm bk :=
  ⟨Ap.am, Ap.ab, Ap.mb, hideAll_none _ (.head _), hideAll_none _ (.tail _ (.head _)), hideAll_none _ (.tail _ (.tail _ (.head _))), Ap.sys, Ap.cls⟩
theorem apart_of {B : Heap} {x y : Addr} {o : Obj} (e1 : B.get? x = none) (e2 : B.get? y = some o) : x ≠ y := fun q => by rw [q, e2] at e1; cases e1
theorem other_of {h : Heap} {x y : Addr} {o o' : Obj} (e1 : h.get? x = some o) (e2 : h.get? y = some o') (n : o ≠ o') : x ≠ y := fun q => by rw [q, e2] at e1; exact n (Option.some.inj e1).symm
theorem off_five {B : Heap} {qa qm bk L I b : Addr} {o : Obj} (Ap : Apart B qa qm bk) (bL : B.get? L = none) (bI : B.get? I = none) (e : B.get? b = some o) : b ∉ [qa, qm, bk, L, I] :=
  nin5 (Ne.symm (apart_of Ap.a e)) (Ne.symm (apart_of Ap.m e)) (Ne.symm (apart_of Ap.b e)) (Ne.symm (apart_of bL e)) (Ne.symm (apart_of bI e))
section
variable {w : World} {A : Around} {E : Value → Shared → Prop} {s : Shared} {G : Heap} {L wd qa qm bk bd lf nl I : Addr} {ws : List Value} {oI : Obj} {m : Str → Option Value} {mg mb : Str → Option Value} {p : Program} {loose : List Str} {mean : ExcName → Option Value} {fz : Bool} {n : Nat}
theorem LawSt.keeps {h h' : Heap} (S : LawSt w G L wd qa qm bk bd lf nl ws I fz n h) (k : ∀ b o, b ≠ I → b ≠ L → h.get? b = some o → h'.get? b = some o) : LawSt w G L wd qa qm bk bd lf nl ws I fz n h' := by
  obtain ⟨B, ms, es, Bk, Dm, g, ⟨bL, bI⟩, ⟨⟨a1, a2, a3⟩, a4, a5, a6⟩, Ap, C, r⟩ := S
  refine ⟨B, ms, es, Bk, Dm, g, ⟨bL, bI⟩, ⟨⟨a1, a2, a3⟩, a4, a5, a6⟩, Ap, ⟨fun b o e => k b o ?_ ?_ (C.keep b o e), C.a.imp fun n e => k _ _ a4 a1 e, C.m.imp fun n e => k _ _ a5 a2 e, C.b.imp fun n e => k _ _ a6 a3 e⟩, r⟩
  · rintro rfl; rw [bI] at e; cases e
  · rintro rfl; rw [bL] at e; cases e
theorem asked_turn {Q : Value → Shared → Prop} (X : (KK w.params).In G) (T : TopRead p loose mg mb G) (hroom : A.depth + 310 < recursionLimit) (hh : A.handled = none) (hu : A.units + 100 < cLine) (F : Fr G L s.heap m) (hI : s.heap.get? I = some oI) (hoI : ∃ vs, oI.data = .fields vs) (hIL : I ≠ L)
    (S : LawSt w G L wd qa qm bk bd lf nl ws I fz n s.heap) (hn : n ≤ 90000) (x : Nat) (hx : x < 16384) (t : Tok)
    (h : ∀ h' tk, Fr G L h' m → h'.get? I = some oI → LawSt w G L wd qa qm bk bd lf nl ws I fz (n + 259) h' → Q (.bool true) ⟨h', s.gens, s.drawn, tk, s.os⟩) :
    wpAny (model PR w) A (call (.ref 313) [.ref wd, .int (x : Int) t, .bool fz]) Q E s := by
  obtain ⟨B, ms, es, Bk, Dm, g, ⟨bL, bI⟩, ⟨⟨a1, a2, a3⟩, a4, a5, a6⟩, Ap, C, W, ⟨He, Hg, Hk⟩, ⟨Hm, hD⟩, ⟨l1, l2⟩, hnl, ht, h100⟩ := S
  have k0 := Ap.keeps C.keep
  refine spec_asked (B0 := over s.heap qa qm bk) (X.keeps fun b o e => k0 b o (g b o e)) (T.keeps fun b o e => k0 b o (g b o e)) hroom hh hu Ap.over C.over (W.keeps k0) He Hg Hk (Hm.keep fun a t n t' d q => k0 _ _ q) hD (by (first | lia | omega)) (by (first | lia | omega)) x hx t fun h' tk es' nms D C' M' E' G' K' L' => ?_
  have nsL : ∃ o es ep, s.heap.get? L = some o ∧ o.data = .dict es ep := by obtain ⟨o, es, ep, e, d, _⟩ := F.ns; exact ⟨o, es, ep, e, d⟩
  obtain ⟨oL, eL, pL, gL, dL⟩ := nsL
  have eL' := C'.keep _ _ (over_get gL (Ne.symm a1) (Ne.symm a2) (Ne.symm a3))
  have eI' := C'.keep _ _ (over_get hI (Ne.symm a4) (Ne.symm a5) (Ne.symm a6))
  have F' : Fr G L h' m := ⟨by
    obtain ⟨o, es, ep, q1, r⟩ := F.ns
    exact ⟨o, es, ep, C'.keep _ _ (over_get q1 (Ne.symm a1) (Ne.symm a2) (Ne.symm a3)), r⟩, fun b o e => C'.keep _ _ (k0 b o (g b o e)), F.above⟩
  have up : ∀ b o, B.get? b = some o → (hideAll h' [qa, qm, bk, L, I]).get? b = some o := fun b o e => hideAll_get _ (C'.keep _ _ (k0 b o e)) (off_five Ap bL bI e)
  refine h h' tk F' eI' ⟨hideAll h' [qa, qm, bk, L, I], ms ++ nms, es', bkAfter fz Bk D, Dm ++ D, fun b o e => up b o (g b o e), ⟨hideAll_none _ mL5, hideAll_none _ mI5⟩, ⟨⟨a1, a2, a3⟩, a4, a5, a6⟩,
    Ap.five, ⟨fun b o e => of_hideAll _ e, C'.a, C'.m, C'.b⟩, W.keeps up, ⟨E', ?_, ?_⟩, ⟨(Hm.keep fun a t n t' d q => up _ _ q).app (M'.keep fun a t n t' d q => hideAll_get _ q fun z => ?_), fun q => ?_⟩, ⟨?_, ?_⟩, up _ _ hnl, ht.imp fun _ q => up _ _ q, h100.imp fun _ q => ⟨up _ _ q.1, q.2⟩⟩
  · unfold bkAfter; split
    · exact Hg
    · exact Hg.app G'
  · unfold bkAfter; split
    · exact Hk
    · exact Hk.app K'
  · obtain ⟨na, ea⟩ := C'.a
    obtain ⟨nm, em⟩ := C'.m
    obtain ⟨nb, eb⟩ := C'.b
    obtain ⟨vs, dI⟩ := hoI
    exact nin5 (other_of q ea fun z => by simp at z) (other_of q em fun z => by simp at z) (other_of q eb fun z => by simp at z) (other_of q eL' fun z => by rw [← z] at dL; cases dL) (other_of q eI' fun z => by rw [← z] at dI; cases dI) z
  · unfold bkAfter; rw [q, hD q]; simp
  · rw [List.length_append, M'.length]; (first | lia | omega)
  · rw [E'.length]
    have := He.length
    unfold bkAfter; split
    · (first | lia | omega)
    · rw [List.length_append]; (first | lia | omega)
theorem frozen_turn {Q : Value → Shared → Prop} (X : (KK w.params).In G) (T : Top p loose mean mg mb G) (hroom : A.depth + 30 < recursionLimit) (hh : A.handled = none) (F : Fr G L s.heap m) (hI : s.heap.get? I = some oI) (hIL : I ≠ L)
    (n1 : @LT.lt Nat instLTNat 100 bd) (n2 : @LT.lt Nat instLTNat bd bk) (gd : G.get? bd = none) (g0 : G.get? 100 = none)
    (S : LawSt w G L wd qa qm bk bd lf nl ws I false n s.heap)
    (h : ∀ h' tk, Fr G L h' m → h'.get? I = some oI → LawSt w G L wd qa qm bk bd lf nl ws I true n h' → Q (.bool true) ⟨h', s.gens, s.drawn, tk, s.os⟩) :
    wpAny (model PR w) A (call (.ref 320) [.ref wd]) Q E s := by
  obtain ⟨B, ms, es, Bk, Dm, g, ⟨bL, bI⟩, ⟨⟨a1, a2, a3⟩, a4, a5, a6⟩, Ap, C, W, ⟨He, Hg, Hk⟩, ⟨Hm, hD⟩, ⟨l1, l2⟩, hnl, ht, ps0, h100, hps⟩ := S
  rw [hps rfl] at h100
  have hbd : B.get? bd = some (dictOf [] 0) := W.dict
  obtain ⟨na, ea⟩ := C.a
  obtain ⟨nm, em⟩ := C.m
  obtain ⟨nb, eb⟩ := C.b
  have bkn : B.get? bk = none := Ap.b
  have c1 : (qa ≠ bd ∧ qm ≠ bd) ∧ L ≠ bd ∧ I ≠ bd := ⟨⟨apart_of Ap.a hbd, apart_of Ap.m hbd⟩, apart_of bL hbd, apart_of bI hbd⟩
  have c2 : (qa ≠ 100 ∧ qm ≠ 100) ∧ L ≠ 100 ∧ I ≠ 100 := ⟨⟨apart_of Ap.a h100, apart_of Ap.m h100⟩, apart_of bL h100, apart_of bI h100⟩
  have k3 : ∀ b o, B.get? b = some o → b ≠ 100 → b ≠ bd → (hideAll s.heap [100, bd, bk]).get? b = some o := fun b o e x1 x2 => hideAll_get _ (C.keep b o e) (nin3 x1 x2 (Ne.symm (apart_of bkn e)))
  have k1 : ∀ b o, G.get? b = some o → (hideAll s.heap [100, bd, bk]).get? b = some o := fun b o e => k3 b o (g b o e) (Ne.symm (apart_of g0 e)) (Ne.symm (apart_of gd e))
  have kk : ∀ b o, s.heap.get? b = some o → b ≠ 100 → b ≠ bd → b ≠ bk → (hideAll s.heap [100, bd, bk]).get? b = some o := fun b o e x1 x2 x3 => hideAll_get _ e (nin3 x1 x2 x3)
  have hw1 : (hideAll s.heap [100, bd, bk]).MapOf (strKind PR w) wd (wdf qa qm bk) := by
    obtain ⟨o, es, ep, e1, x, d, kz, f⟩ := W.map
    refine ⟨o, es, ep, k3 _ _ e1 (fun q => ?_) (fun q => ?_), x, d, kz, f⟩
    · rw [q, h100] at e1; cases e1; cases d
    · rw [q, hbd] at e1; cases e1
      have := f "asked"
      have d' : (dictOf [] 0).data = .dict es ep := d
      simp only [Data.dict.injEq] at d'
      obtain ⟨d1, d2⟩ := d'
      rw [← d1] at this
      cases this
  refine spec_frozen (B := hideAll s.heap [100, bd, bk]) (lf := lf) (es := es) (nb := nb) (fun b o e => of_hideAll _ e) (Nat.le_of_eq (hideAll_size _ _)) (fun q hq => ?_) n1 n2 hw1 (X.keeps k1) (T.keeps k1) hroom hh fun h' tk tf fl cs qual pm c' ctv ps k e1 e2 e3 e4 e5 e6 x1 x2 x3 => ?_
  · rcases List.mem_cons.mp hq with rfl | hq
    · exact ⟨C.keep _ _ h100, hideAll_none _ (.head _)⟩
    rcases List.mem_cons.mp hq with rfl | hq
    · exact ⟨C.keep _ _ hbd, hideAll_none _ (.tail _ (.head _))⟩
    rcases List.mem_cons.mp hq with rfl | hq
    · exact ⟨eb, hideAll_none _ (.tail _ (.tail _ (.head _)))⟩
    · cases hq
  · have ea' := k _ _ (kk _ _ ea c2.1.1 c1.1.1 Ap.ab)
    have em' := k _ _ (kk _ _ em c2.1.2 c1.1.2 Ap.mb)
    have eI' := k _ _ (kk _ _ hI c2.2.2 c1.2.2 (Ne.symm a6))
    have F' : Fr G L h' m := ⟨by
      obtain ⟨o, es, ep, q1, r⟩ := F.ns
      exact ⟨o, es, ep, k _ _ (kk _ _ q1 c2.2.1 c1.2.1 (Ne.symm a3)), r⟩, fun b o e => k _ _ (k1 b o e), F.above⟩
    have old : ∀ {b : Addr}, (∃ o, s.heap.get? b = some o) → b < s.heap.objs.size := fun ⟨o, e⟩ => Heap.lt_size e
    have la := old ⟨_, ea⟩
    have lm := old ⟨_, em⟩
    have lb := old ⟨_, eb⟩
    have lI := old ⟨_, hI⟩
    have lL : L < s.heap.objs.size := F.ns.lt
    have no : ∀ {b z : Addr}, @LE.le Nat instLENat s.heap.objs.size b → z < s.heap.objs.size → b ≠ z := fun l hz q => absurd hz (by rw [← q]; exact Nat.not_lt.mpr l)
    have new : ∀ {b : Addr} {o : Obj}, @LE.le Nat instLENat s.heap.objs.size b → h'.get? b = some o → (hideAll h' [qa, qm, bk, L, I]).get? b = some o := fun l e => hideAll_get _ e (nin5 (no l la) (no l lm) (no l lb) (no l lL) (no l lI))
    have off : ∀ {b : Addr} {o : Obj}, B.get? b = some o → b ∉ [qa, qm, bk, L, I] := fun e => off_five Ap bL bI e
    have up : ∀ b o, B.get? b = some o → b ≠ 100 → b ≠ bd → (hideAll h' [qa, qm, bk, L, I]).get? b = some o := fun b o e y1 y2 => hideAll_get _ (k _ _ (k3 b o e y1 y2)) (off e)
    have n0 : ∀ {b : Addr} {o : Obj}, B.get? b = some o → o ≠ tabObj #[] → b ≠ 100 := fun e z q => by rw [q, h100] at e; exact z (Option.some.inj e).symm
    have nd : ∀ {b : Addr} {o : Obj}, B.get? b = some o → o ≠ dictOf [] 0 → b ≠ bd := fun e z q => by rw [q, hbd] at e; exact z (Option.some.inj e).symm
    have d0 : (tabObj #[]).data = .fields #[] := rfl
    have d1 : (dictOf [] 0).data = .dict (#[] : Array DictEntry) 0 := rfl
    have hbd' : (hideAll h' [qa, qm, bk, L, I]).get? bd = some (frozenDict w.params tf fl 1) := hideAll_get _ e3 (off hbd)
    have W' : WorldAt w (hideAll h' [qa, qm, bk, L, I]) wd qa qm bk bd lf true := by
      refine ⟨?_, ?_, ⟨tf, fl, 1, cs, qual, pm, c', ctv, hbd', new x1 e4, ?_, ?_⟩⟩
      · obtain ⟨o, es, ep, q1, x, d, kz, f⟩ := W.map
        refine ⟨o, es, ep, up _ _ q1 (n0 q1 fun z => ?_) (nd q1 fun z => ?_), x, d, kz, f⟩
        · rw [z] at d; cases d
        · rw [z] at d
          have := f "asked"
          rw [d1] at d
          simp only [Data.dict.injEq] at d
          rw [← d.1] at this
          cases this
      · obtain ⟨cw, qual, pm, c2, ctv, q1, ⟨oc, q2, q3⟩, c3, oc3, vs, t3, q4, q5, q6, q7⟩ := W.fac
        cases q4
        refine ⟨cw, qual, pm, c2, ctv, up _ _ q1 (n0 q1 fun z => ?_) (nd q1 fun z => ?_), ⟨oc, up _ _ q2 (n0 q2 fun z => ?_) (nd q2 fun z => ?_), q3⟩, c2, oc3, vs, t3, rfl, up _ _ q5 (n0 q5 fun z => ?_) (nd q5 fun z => ?_), q6, q7⟩
        · cases congrArg Obj.data z
        · cases congrArg Obj.data z
        · rw [z] at q3; cases q3
        · rw [z] at q3; cases q3
        · rw [z, d0] at q6; cases q6; cases q7
        · rw [z] at q6; cases q6
      · obtain ⟨oc, q1, q2⟩ := e5
        exact ⟨oc, new x2 q1, q2⟩
      · obtain ⟨c3, oc3, vs, t3, q4, q5, q6⟩ := e6
        cases q4
        exact ⟨c', oc3, vs, t3, rfl, new x3 q5, q6⟩
    refine h h' tk F' eI' ⟨hideAll h' [qa, qm, bk, L, I], ms, es, Bk, Dm, fun b o e => up b o (g b o e) (Ne.symm (apart_of g0 e)) (Ne.symm (apart_of gd e)), ⟨hideAll_none _ mL5, hideAll_none _ mI5⟩, ⟨⟨a1, a2, a3⟩, a4, a5, a6⟩,
      Ap.five, ⟨fun b o e => of_hideAll _ e, ⟨_, ea'⟩, ⟨_, em'⟩, ⟨_, e2⟩⟩, W', ⟨He, Hg, Hk⟩, ⟨Hm.keep fun a t n t' d q => up _ _ q (n0 q fun z => ?_) (nd q fun z => ?_), fun q => nomatch q⟩, ⟨l1, l2⟩, up _ _ hnl (n0 hnl fun z => ?_) (nd hnl fun z => ?_), ?_, ps, hideAll_get _ e1 (off h100), fun q => nomatch q⟩
    · cases congrArg Obj.data z
    · cases congrArg Obj.data z
    · cases congrArg Obj.data z
    · cases congrArg Obj.data z
    · obtain ⟨ps3, q⟩ := ht
      refine ⟨ps3, up _ _ q (by decide) (nd q fun z => ?_)⟩
      cases congrArg Obj.data z
end
end
section
noncomputable def LawJ (w : World) (G : Heap) (L wd qa qm bk bd lf nl : Addr) (ws : List Value) (hf : Nat) (th : Tok) (I : Addr) (i : Nat) (m : Str → Option Value) (h : Heap) : Prop :=
  (m "world" = some (.ref wd) ∧ m "numbers" = some (.ref nl) ∧ m "half" = some (.int ((hf : Nat) : Int) th)) ∧ LawSt w G L wd qa qm bk bd lf nl ws I (decide (hf < i)) (259 * i) h
noncomputable def forB (s : Stmt) : List Stmt := match s with | .For _ _ b _ _ => b | _ => []
@[reducible] noncomputable def lB : {x : List Stmt // x = forB (b21.1.getD 3 (.Pass default))} := ⟨_ :: _, rfl⟩
local macro_rules | `(tactic| walk_at "mine upto") => `(tactic| repeat' (first | (k_unfold; (try dsimp only)) | ((fail_if_success (with_reducible show wpAny _ _ (exec (Stmt.For _ _ _ _ _) _) _ _ _)); (fail_if_success (with_reducible show wpAny _ _ (pyIter _) _ _ _)); (fail_if_success (with_reducible show wpAny _ _ (call (Value.ref 320) _) _ _ _)); (fail_if_success (with_reducible show wpAny _ _ (call (Value.ref 313) _) _ _ _)); first | walk1 | (dsimp only; walk1))))
set_option maxHeartbeats 8000000 in
theorem law_turn : ∀ {w : World} {mg mb : Str → Option Value} {p : Program} {loose : List Str} {mean : ExcName → Option Value} {A : Around} {s : Shared} {G : Heap} {L fa : Addr} {cd : Value} {R : Flow → Shared → Prop} {E : Value → Shared → Prop} {m : Str → Option Value} {wd qa qm bk bd lf nl I : Addr} {ws : List Value} {nums : List Int} {hf i : Nat} {th t : Tok} {oI : Obj}
  (X : (KK w.params).In G) (T : Top p loose mean mg mb G) (hroom : A.depth + 400 < recursionLimit) (hh : A.handled = none) (hu : A.units + 200 < cLine) (hi : IntsAre ws nums) (hlen : nums.length ≤ 10)
  (n1 : @LT.lt Nat instLTNat 100 bd) (n2 : @LT.lt Nat instLTNat bd bk) (gd : G.get? bd = none) (g0 : G.get? 100 = none) (gn : G.get? nl = none) (hin : i < nums.length)
  (m1 : m "world" = some (.ref wd)) (m2 : m "numbers" = some (.ref nl)) (m3 : m "half" = some (.int ((hf : Nat) : Int) th))
  (S : LawSt w G L wd qa qm bk bd lf nl ws I (decide (hf < i)) (259 * i) s.heap) (eI : s.heap.get? I = some oI) (hoI : ∃ vs, oI.data = .fields vs) (hIL : I ≠ L)
  (F : Fr G L s.heap (fun y => if y = "k" then some (.int (0 + (i : Int)) t) else m y)) (N : News G L s.heap [(nl, listOf ws.toArray 0)])
  (h : ∀ h' tk m', Fr G L h' m' → m' "world" = some (.ref wd) → m' "numbers" = some (.ref nl) → m' "half" = some (.int ((hf : Nat) : Int) th) → h'.get? I = some oI → LawSt w G L wd qa qm bk bd lf nl ws I (decide (hf < i + 1)) (259 * (i + 1)) h' → R .next ⟨h', s.gens, s.drawn, tk, s.os⟩),
  wpAny (model PySem.Challenge.rw_in0022_01.row.toRowW.prog w) (A.deeper (envOf "law" s21.1 L fa cd)) (execs lB.1 (envOf "law" s21.1 L fa cd)) R E s := by
  k_fill
  intro w mg mb p loose mean A s G L fa cd R E m wd qa qm bk bd lf nl I ws nums hf i th t oI X T hroom hh hu hi hlen n1 n2 gd g0 gn hin m1 m2 m3 S eI hoI hIL F N h
  obtain ⟨hp, gs, dr, tk0, os⟩ := s
  dsimp only at S eI F N h
  have hsl : sizeLine = 16777216 := by decide
  have T1 := topRead_of T
  rw [← fr_eq m1, ← fr_eq m2, ← fr_eq m3] at F
  have hi0 : (i : Int) ≥ 0 := Int.natCast_nonneg _
  have hf0 : (hf : Int) ≥ 0 := Int.natCast_nonneg _
  rw [Int.zero_add] at F
  have hin' : (i : Int) < (nums.length : Int) := Int.ofNat_lt.mpr hin
  obtain ⟨x, hx, hlt⟩ : ∃ x : Nat, (nums.getD (↑i : Int).toNat 0).fmod 16384 = (x : Int) ∧ x < 16384 := by
    have z1 := Int.fmod_nonneg_of_pos (nums.getD (↑i : Int).toNat 0) (show (0 : Int) < 16384 by decide)
    have z2 := Int.fmod_lt_of_pos (nums.getD (↑i : Int).toNat 0) (show (0 : Int) < 16384 by decide)
    exact ⟨((nums.getD (↑i : Int).toNat 0).fmod 16384).toNat, by (first | lia | omega), by (first | lia | omega)⟩
  walk_at "mine upto"
  · rename (i : Int) = (hf : Int) => hq
    have hq' : i = hf := by (first | lia | omega)
    subst hq'
    have e1 : decide (i < i) = false := by simp
    rw [e1] at S
    refine frozen_turn (s := ⟨hp, gs, dr, _, os⟩) X T (by show A.depth + 1 + 30 < recursionLimit; (first | lia | omega)) hh F eI hIL n1 n2 gd g0 S fun h2 tk2 F2 eI2 S2 => ?_
    have N2 : News G L h2 [(nl, listOf ws.toArray 0)] := fun q hq => by
      have z := N q hq
      rw [List.mem_singleton.mp hq] at z ⊢
      obtain ⟨B, ms, es, Bk, Dm, g, a, b, Ap, C, W, c, d, e, hnl, _⟩ := S2
      exact ⟨C.keep _ _ hnl, z.2⟩
    clear F N
    try dsimp only
    walk_at "mine upto"
    rw [hx]
    have e3 : decide ((i : Int) ≤ (i : Int)) = true := by simp
    rw [e3]
    refine asked_turn (A := A.deeper (envOf "law" s21.1 L fa cd)) (s := ⟨h2, gs, dr, _, os⟩) X T1 (by show A.depth + 1 + 310 < recursionLimit; (first | lia | omega)) hh (by show A.units + 3 + 100 < cLine; (first | lia | omega)) F2 eI2 hoI hIL S2 (by (first | lia | omega)) x hlt _ fun h3 tk3 F3 eI3 S3 => ?_
    clear F2 N2
    try dsimp only
    walk_at "mine upto"
    have e4 : decide (i < i + 1) = true := by simp
    refine h _ _ _ F3 (by rfl) (by rfl) (by rfl) eI3 ?_
    rw [e4, show 259 * (i + 1) = 259 * i + 259 by (first | lia | omega)]
    exact S3
  · rename (i : Int) ≠ (hf : Int) => hq
    rw [hx]
    have e1 : decide ((hf : Int) ≤ (i : Int)) = decide (hf < i) := by rw [decide_eq_decide]; (first | lia | omega)
    have e2 : decide (hf < i) = decide (hf < i + 1) := by rw [decide_eq_decide]; (first | lia | omega)
    rw [e1]
    refine asked_turn (A := A.deeper (envOf "law" s21.1 L fa cd)) (s := ⟨hp, gs, dr, _, os⟩) X T1 (by show A.depth + 1 + 310 < recursionLimit; (first | lia | omega)) hh (by show A.units + 3 + 100 < cLine; (first | lia | omega)) F eI hoI hIL S (by (first | lia | omega)) x hlt _ fun h2 tk2 F2 eI2 S2 => ?_
    clear F N
    try dsimp only
    walk_at "mine upto"
    refine h _ _ _ F2 (by rfl) (by rfl) (by rfl) eI2 ?_
    rw [← e2, show 259 * (i + 1) = 259 * i + 259 by (first | lia | omega)]
    exact S2
end
section
local macro_rules | `(tactic| walk_at "mine upto") => `(tactic| repeat' (first | (k_unfold; (try dsimp only)) | ((fail_if_success (with_reducible show wpAny _ _ (exec (Stmt.For _ _ _ _ _) _) _ _ _)); (fail_if_success (with_reducible show wpAny _ _ (pyIter _) _ _ _)); first | walk1 | (dsimp only; walk1))))
set_option maxHeartbeats 8000000 in
theorem law_c : ∀ {w : World} {mg mb : Str → Option Value} {p : Program} {loose : List Str} {mean : ExcName → Option Value} {A : Around} {s : Shared} {G : Heap} {L fa : Addr} {cd : Value} {R : Flow → Shared → Prop} {E : Value → Shared → Prop} {m : Str → Option Value} {wd qa qm bk bd lf nl : Addr} {ws : List Value} {nums : List Int} {hf : Nat} {th : Tok} {tl : List (Addr × Obj)}
  (X : (KK w.params).In G) (T : Top p loose mean mg mb G) (hroom : A.depth + 400 < recursionLimit) (hh : A.handled = none) (hu : A.units + 200 < cLine) (hi : IntsAre ws nums) (hlen : nums.length ≤ 10)
  (n1 : @LT.lt Nat instLTNat 100 bd) (n2 : @LT.lt Nat instLTNat bd bk) (gd : G.get? bd = none) (g0 : G.get? 100 = none) (gn : G.get? nl = none)
  (m1 : m "world" = some (.ref wd)) (m2 : m "numbers" = some (.ref nl)) (m3 : m "half" = some (.int ((hf : Nat) : Int) th))
  (F : Fr G L s.heap m) (N : News G L s.heap ((nl, listOf ws.toArray 0) :: tl))
  (S : ∀ (I : Addr) (h : Heap), (∀ b o, G.get? b = some o → h.get? b = some o) → (∀ q ∈ (nl, listOf ws.toArray 0) :: tl, h.get? q.1 = some q.2 ∧ q.1 ≠ I) → I ≠ L → G.get? I = none → LawSt w G L wd qa qm bk bd lf nl ws I false 0 h)
  (h : ∀ h' tk, (∀ b o, G.get? b = some o → h'.get? b = some o) → GrownAt 100 h' → GrownAt 303 h' → R (.ret (.bool true)) ⟨h', s.gens, s.drawn, tk, s.os⟩),
  wpAny (model PySem.Challenge.rw_in0022_01.row.toRowW.prog w) (A.deeper (envOf "law" s21.1 L fa cd)) (execs (b21.1.drop 3) (envOf "law" s21.1 L fa cd)) R E s := by
  k_fill
  intro w mg mb p loose mean A s G L fa cd R E m wd qa qm bk bd lf nl ws nums hf th tl X T hroom hh hu hi hlen n1 n2 gd g0 gn m1 m2 m3 F N S h
  obtain ⟨hp, gs, dr, tk0, os⟩ := s
  dsimp only at F N h
  have hsl : sizeLine = 16777216 := by decide
  have T1 := topRead_of T
  rw [← fr_eq m1, ← fr_eq m2, ← fr_eq m3] at F
  walk_at "mine upto"
  refine wpAny_For ?_
  walk_at "mine upto"
  rename IsRange _ _ _ _ _ _ _ _ => hr
  rename Fr G L _ _ => Fa
  rename News G L _ _ => Na
  refine range_loop (LawJ w G L wd qa qm bk bd lf nl ws hf th) hh hr (small_one (by (first | lia | omega)) (by (first | lia | omega)) (by (first | lia | omega)) (by (first | lia | omega))) (n := nums.length) (by rw [rangeSize_nat]; (first | lia | omega)) (by rfl) (by rfl) Fa ?hj ?st ?turn ?done
  case hj =>
    intro h k
    refine ⟨⟨by rfl, by rfl, by rfl⟩, ?_⟩
    have e0 : decide (hf < 0) = false := by simp
    rw [e0]
    exact S _ h (fun b o e => k _ _ (Fa.keep b o e)) (fun q hq => ⟨k _ _ (Na _ hq).1, Nat.ne_of_lt (Heap.lt_size (Na _ hq).1)⟩) (Nat.ne_of_gt Fa.ns.lt) (next_is_new Fa)
  case st =>
    intro I i m h h' j k
    exact ⟨j.1, j.2.keeps k⟩
  case turn =>
    intro i t m₁ h₁ tk I oI E' hin j eI hoI gI hIL F₁
    have N₁ : News G L h₁ [(nl, listOf ws.toArray 0)] := fun q hq => by
      rw [List.mem_singleton.mp hq]
      obtain ⟨B, ms, es, Bk, Dm, g, a, b, Ap, C, W, c, d, e, hnl, _⟩ := j.2
      exact ⟨C.keep _ _ hnl, (Na _ (by first | exact .head _ | exact .tail _ (.head _))).2⟩
    exact law_turn (s := ⟨h₁, gs, dr, tk, os⟩) (E := E') X T hroom hh hu hi hlen n1 n2 gd g0 gn hin j.1.1 j.1.2.1 j.1.2.2 j.2 eI hoI hIL F₁ N₁ fun h' tk m' F' e1 e2 e3 eI' S' => ⟨h', tk, m', rfl, F', eI', ⟨e1, e2, e3⟩, S'⟩
  case done =>
    intro m₁ h₁ tk I j F₁
    clear Fa Na
    try dsimp only
    k_steps
    obtain ⟨B, ms, es, Bk, Dm, g, a, b, Ap, C, W, c, d, e, hnl, ⟨ps3, h3⟩, ps1, h1, _⟩ := j.2
    exact h _ _ F₁.keep ⟨_, C.keep _ _ h1⟩ ⟨_, C.keep _ _ h3⟩
end
section
section
variable {w : World} {A : Around} {s : Shared} {G h₀ h : Heap} {L sl fa wd qa qm bk bd lf nl I : Addr} {cd : Value} {R : Flow → Shared → Prop} {E : Value → Shared → Prop} {mg mb : Str → Option Value} {p : Program} {loose : List Str} {mean : ExcName → Option Value} {ws vs : List Value} {ns : List Int} {na nm nb : Nat} {tl : List (Addr × Obj)} {ps : Array Value} {m : Str → Option Value}
theorem lawst_init (F : Fr G L h₀ m) (N : News G L h₀ ((nl, listOf ws.toArray 0) :: (qa, listOf #[] na) :: (qm, listOf #[] nm) :: (bk, bookObj bd lf [] nb) :: tl)) (off : ∀ q ∈ tl, q.1 ∉ [qa, qm, bk]) (m3 : (303, tabObj ps) ∈ tl) (m0 : (100, tabObj #[]) ∈ tl)
    (Ap : ∃ B, Apart B qa qm bk) (W : ∀ Bn : Heap, (∀ q ∈ tl, Bn.get? q.1 = some q.2) → WorldAt w Bn wd qa qm bk bd lf false) (lt : ∀ q ∈ (qa, listOf #[] na) :: (qm, listOf #[] nm) :: (bk, bookObj bd lf [] nb) :: tl, q.1 < nl)
    (hG : ∀ b o, G.get? b = some o → h.get? b = some o) (hq : ∀ q ∈ (nl, listOf ws.toArray 0) :: (qa, listOf #[] na) :: (qm, listOf #[] nm) :: (bk, bookObj bd lf [] nb) :: tl, h.get? q.1 = some q.2 ∧ q.1 ≠ I) (hIL : I ≠ L) (gI : G.get? I = none) :
    LawSt w G L wd qa qm bk bd lf nl ws I false 0 h := by
  obtain ⟨B0, Ap⟩ := Ap
  have gL : G.get? L = none := Heap.get?_none_of_le F.above
  have za : h.get? qa = some (listOf #[] na) ∧ qa ≠ I := hq _ (.tail _ (.head _))
  have zm := hq _ (.tail _ (.tail _ (.head _)))
  have zb := hq _ (.tail _ (.tail _ (.tail _ (.head _))))
  have zn := hq _ (.head _)
  have ya := (N _ (.tail _ (.head _))).2
  have ym := (N _ (.tail _ (.tail _ (.head _)))).2
  have yb := (N _ (.tail _ (.tail _ (.tail _ (.head _))))).2
  have yn := (N _ (.head _)).2
  dsimp only at zm zb zn ya ym yb yn
  have up : ∀ {b : Addr} {o : Obj}, h.get? b = some o → b ≠ qa → b ≠ qm → b ≠ bk → b ≠ L → b ≠ I → (hideAll h [qa, qm, bk, L, I]).get? b = some o := fun e h1 h2 h3 h4 h5 => hideAll_get _ e (by simp [h1, h2, h3, h4, h5])
  have upt : ∀ q ∈ tl, (hideAll h [qa, qm, bk, L, I]).get? q.1 = some q.2 := fun q hm => by
    have o := off q hm
    simp only [List.mem_cons, List.not_mem_nil, or_false, not_or] at o
    have z := hq q (.tail _ (.tail _ (.tail _ (.tail _ hm))))
    exact up z.1 o.1 o.2.1 o.2.2 (N q (.tail _ (.tail _ (.tail _ (.tail _ hm))))).2.1 z.2
  have no : ∀ {b c : Addr} {o : Obj}, G.get? b = none → G.get? c = some o → c ≠ b := fun e1 e2 q => by rw [q, e1] at e2; cases e2
  have c1 : ∀ b o, G.get? b = some o → (hideAll h [qa, qm, bk, L, I]).get? b = some o := fun b o e => up (hG b o e) (no ya.2 e) (no ym.2 e) (no yb.2 e) (no gL e) (no gI e)
  have c2 : Apart (hideAll h [qa, qm, bk, L, I]) qa qm bk := ⟨Ap.am, Ap.ab, Ap.mb, hideAll_none _ (by simp), hideAll_none _ (by simp), hideAll_none _ (by simp), Ap.sys, Ap.cls⟩
  have c3 : Cells (hideAll h [qa, qm, bk, L, I]) h qa qm bk bd lf [] [] [] := ⟨fun b o e => of_hideAll _ e, ⟨_, za.1⟩, ⟨_, zm.1⟩, ⟨_, zb.1⟩⟩
  have c4 := W _ upt
  have c5 : EntsAre w [] [] ∧ GoodBk [] ∧ KeysOk [] := ⟨.nil, List.forall_mem_nil _, List.forall_mem_nil _⟩
  have l1 : nl ≠ qa := Nat.ne_of_gt (lt _ (.head _))
  have l2 : nl ≠ qm := Nat.ne_of_gt (lt _ (.tail _ (.head _)))
  have l3 : nl ≠ bk := Nat.ne_of_gt (lt _ (.tail _ (.tail _ (.head _))))
  have c6 := up zn.1 l1 l2 l3 yn.1 zn.2
  have c9 : (hideAll h [qa, qm, bk, L, I]).get? L = none ∧ (hideAll h [qa, qm, bk, L, I]).get? I = none := ⟨hideAll_none _ (by simp), hideAll_none _ (by simp)⟩
  clear up
  generalize hideAll h [qa, qm, bk, L, I] = B at c1 c2 c3 c4 c6 c9 upt
  have c7 : B.get? 303 = some (tabObj ps) := upt _ m3
  have c8 : B.get? 100 = some (tabObj #[]) := upt _ m0
  exact ⟨B, [], [], [], [], c1, c9, ⟨⟨ya.1, ym.1, yb.1⟩, za.2, zm.2, zb.2⟩, c2, c3, c4, c5, ⟨.nil, fun _ => rfl⟩, ⟨Nat.le_refl _, Nat.le_refl _⟩, c6, ⟨_, c7⟩, _, c8, fun _ => rfl⟩
theorem law_body (X : (KK w.params).In G) (T : Top p loose mean mg mb G) (hroom : A.depth + 400 < recursionLimit) (hh : A.handled = none) (hu : A.units + 200 < cLine) (hl : G.IsList sl vs.toArray) (hi : IntsAre vs ns) (hn : ns.length ≤ 63)
    (F : Fr G L s.heap (fun y => if y = "script" then some (.ref sl) else none)) (N : News G L s.heap [((100 : Addr), tabObj #[]), ((303 : Addr), tabObj #[])])
    (h : ∀ h' tk, (∀ b o, G.get? b = some o → h'.get? b = some o) → GrownAt 100 h' → GrownAt 303 h' → R (.ret (.bool true)) ⟨h', s.gens, s.drawn, tk, s.os⟩) :
    wpAny (model PR w) (A.deeper (envOf "law" s21.1 L fa cd)) (execs b21.1 (envOf "law" s21.1 L fa cd)) R E s := by
  have g0 := (N _ (.head _)).2.2
  refine law_a X T hroom hh F N fun h1 tk1 wd qa qm bk bd lf na nm nb tl ps F1 N1 off m3 m0 md Ap n1 n2 W => ?_
  have gd := (N1 _ (.tail _ (.tail _ (.tail _ md)))).2.2
  refine law_b (s := ⟨h1, s.gens, s.drawn, tk1, s.os⟩) X T hroom hh hl hi hn F1 N1 (by rfl) fun h2 tk2 nl ws nums hf t F2 N2 lt hi2 hlen => ?_
  have gn := (N2 _ (.head _)).2.2
  exact law_c (s := ⟨h2, s.gens, s.drawn, tk2, s.os⟩) X T hroom hh hu hi2 hlen n1 n2 gd g0 gn (by rfl) (by rfl) (by rfl) F2 N2 (fun I h hG hq hIL gI => lawst_init F2 N2 off m3 m0 ⟨_, Ap⟩ W lt hG hq hIL gI) h
end
end
section
theorem lookup_one (k : Str) (v : Value) : (fun x => List.lookup x [(k, v)].reverse) = fun y => if y = k then some v else none := by
  funext y
  show List.lookup y [(k, v)] = _
  rw [List.lookup_cons]
  by_cases e : y = k
  · subst e; simp
  · rw [beq_eq_false_iff_ne.mpr e]; simp [e]
set_option maxHeartbeats 8000000 in
theorem law_walk : WalkO Q0 loose0 (XL Q0 []) hook0.says rw0.toRowW dLaw [] (fun f vs => PySem.call f vs) := by
  k_fill
  intro w s₀ s₁ mg mb G Y fa o pm cd doc dV kV ho hd hcd hD hmg hg args vals as hpre hlay hrd hwl hlo
  have KX : (KK w.params).In s₁.heap := km_in_of (show (kmHook KK KA KA_eq [100, 303]).says w s₁.heap from Y)
  have hT8 : ∀ P ∈ [100, 303], s₁.heap.get? P = some (tabObj #[]) := km_tabs_of (show (kmHook KK KA KA_eq [100, 303]).says w s₁.heap from Y)
  have X := (Ground.X G).1
  have V := (Ground.X G).2
  refine Ground.open G ?_
  intro T B D TE TW
  try (refine guard_noD D (by decide +kernel) ?_; clear D)
  have hT9 : TabsAt [((104 : Addr), (100 : Addr)), ((307 : Addr), (303 : Addr))] s₁.heap := List.forall_mem_cons.mpr ⟨⟨codeHd_of_K KX (by kernel_rfl), hT8 100 (by simp)⟩, List.forall_mem_cons.mpr ⟨⟨codeHd_of_K KX (by kernel_rfl), hT8 303 (by simp)⟩, fun _ h => nomatch h⟩⟩
  clear hmg
  wrow_args hpre hlay hrd hwl hlo
  all_goals (first | refine callC_kw (enter_call ?_) | refine enter_call ?_)
  w_top on
  refine kn_post hT9 (fun _ _ => rfl) ?_
  w_call any ho hd hcd hD T F
  clear hd
  rename News _ _ _ _ => N
  rename (IntsAre _ _) => hI
  rename (Heap.IsList _ _ _) => hL
  have X' := ghost_K hT9 KX (by kernel_rfl)
  have T' := ghost_top hT9 T
  have N' := ghost_news hT9 F N
  have F' := ghost_fr hT9 F
  have hL' := ghost_list hT9 hL
  refine law_body (A := callerA) X' T' (by decide) rfl (by decide) hL' hI ?hn ?hF N' ?_
  case hn => (first | lia | omega)
  case hF =>
    have F2 := F'
    rw [lookup_one] at F2
    exact F2
  intro h' tk k g1 g2
  refine ⟨⟨.inl ⟨.bool true, .bool true, [], rfl, fun _ => rfl, ?r1, ?r2, ?r3⟩, k, rfl, hg⟩, g1, g2, trivial⟩
  case r1 => exact .bool true
  case r2 => kernel_rfl
  case r3 => exact unshared_nil
theorem holds0 : PySem.Challenge.rw_in0022_01.Holds := head0 law_walk
end
end
end Mine
theorem PySem.Challenge.cw_in0022_01_holds : PySem.Challenge.rw_in0022_01.Holds :=
  Mine.holds0
