import PyProof.Rows.All
import Wide.All
import OpenK.AllK
import Wide.FinOn
import PySem.Challenge.RW_ll0046_01
open PySem PySem.W PyProof.Rows
set_option Elab.async false
set_option maxRecDepth 100000
set_option maxHeartbeats 0
set_option linter.unusedVariables false
set_option compiler.extract_closed false
namespace Mine
section
open PySem.Calls

noncomputable abbrev pw : Program := PySem.Challenge.pw_ll0046_01
noncomputable def nth : List Stmt → Nat → Stmt
  | [], _ => .Pass default
  | a :: _, 0 => a
  | _ :: r, n + 1 => nth r n
noncomputable def st (i : Nat) : Stmt := nth pw.main.body i
noncomputable def cb : Stmt → List Stmt
  | .ClassDef _ _ _ b _ _ _ _ _ _ _ => b
  | _ => []
noncomputable def sc (i j : Nat) : Stmt := nth (cb (st i)) j
noncomputable abbrev zs (x : String) : Str := Str.ofString x
noncomputable def en (P : Params) (x : String) (t : Nat) (v : Value) : DictEntry := ⟨PyData.keyHash P (Str.ofString x), .str (Str.ofString x) t, v⟩
noncomputable def fd (x : Stmt) (qual : Str) (glob : Addr) (dfl kwd doc pm : Value) (an : Option Addr) (code ct : Value) (blt : Addr) : FuncData := match x with
  | .FunctionDef n a b _ _ _ sc _ _ _ => ⟨n, qual, a, .stmts b, sc, glob, [], dfl, kwd, doc, pm, an, code, ct, blt⟩
  | _ => default
noncomputable def o0_0 (P : Params) : Obj := ⟨(.type "dict"), none, (.dict #[en P "__name__" 1 (.str (zs "builtins") 160), en P "__doc__" 2 (.builtin "builtins.__doc__:str#opaque"), en P "__package__" 3 (.builtin "builtins.__package__:str#opaque"), en P "__loader__" 4 (.builtin "builtins.__loader__:shared#opaque"), en P "__spec__" 5 (.builtin "builtins.__spec__#opaque"), en P "__build_class__" 6 (.builtin "__build_class__"), en P "__import__" 7 (.builtin "__import__"), en P "abs" 8 (.builtin "abs"), en P "all" 9 (.builtin "all"), en P "any" 10 (.builtin "any"), en P "ascii" 11 (.builtin "ascii"), en P "bin" 12 (.builtin "bin"), en P "breakpoint" 13 (.builtin "breakpoint"), en P "callable" 14 (.builtin "callable"), en P "chr" 15 (.builtin "chr"), en P "compile" 16 (.builtin "compile"), en P "delattr" 17 (.builtin "delattr"), en P "dir" 18 (.builtin "dir"), en P "divmod" 19 (.builtin "divmod"), en P "eval" 20 (.builtin "eval"), en P "exec" 21 (.builtin "exec"), en P "format" 22 (.builtin "format"), en P "getattr" 23 (.builtin "getattr"), en P "globals" 24 (.builtin "globals"), en P "hasattr" 25 (.builtin "hasattr"), en P "hash" 26 (.builtin "hash"), en P "hex" 27 (.builtin "hex"), en P "id" 28 (.builtin "id"), en P "input" 29 (.builtin "input"), en P "isinstance" 30 (.builtin "isinstance"), en P "issubclass" 31 (.builtin "issubclass"), en P "iter" 32 (.builtin "iter"), en P "aiter" 33 (.builtin "aiter"), en P "len" 34 (.builtin "len"), en P "locals" 35 (.builtin "locals"), en P "max" 36 (.builtin "max"), en P "min" 37 (.builtin "min"), en P "next" 38 (.builtin "next"), en P "anext" 39 (.builtin "anext"), en P "oct" 40 (.builtin "oct"), en P "ord" 41 (.builtin "ord"), en P "pow" 42 (.builtin "pow"), en P "print" 43 (.builtin "print"), en P "repr" 44 (.builtin "repr"), en P "round" 45 (.builtin "round"), en P "setattr" 46 (.builtin "setattr"), en P "sorted" 47 (.builtin "sorted"), en P "sum" 48 (.builtin "sum"), en P "vars" 49 (.builtin "vars"), en P "None" 50 .none, en P "Ellipsis" 51 .ellipsis, en P "NotImplemented" 52 .notImplemented, en P "False" 53 (.bool false), en P "True" 54 (.bool true), en P "bool" 55 (.type "bool"), en P "memoryview" 56 (.type "memoryview"), en P "bytearray" 57 (.type "bytearray"), en P "bytes" 58 (.type "bytes"), en P "classmethod" 59 (.type "classmethod"), en P "complex" 60 (.type "complex"), en P "dict" 61 (.type "dict"), en P "enumerate" 62 (.type "enumerate"), en P "filter" 63 (.type "filter"), en P "float" 64 (.type "float"), en P "frozenset" 65 (.type "frozenset"), en P "property" 66 (.type "property"), en P "int" 67 (.type "int"), en P "list" 68 (.type "list"), en P "map" 69 (.type "map"), en P "object" 70 (.type "object"), en P "range" 71 (.type "range"), en P "reversed" 72 (.type "reversed"), en P "set" 73 (.type "set"), en P "slice" 74 (.type "slice"), en P "staticmethod" 75 (.type "staticmethod"), en P "str" 76 (.type "str"), en P "super" 77 (.type "super"), en P "tuple" 78 (.type "tuple"), en P "type" 79 (.type "type"), en P "zip" 80 (.type "zip"), en P "__debug__" 81 (.bool true), en P "BaseException" 82 (.type "BaseException"), en P "BaseExceptionGroup" 83 (.type "BaseExceptionGroup"), en P "Exception" 84 (.type "Exception"), en P "GeneratorExit" 85 (.type "GeneratorExit"), en P "KeyboardInterrupt" 86 (.type "KeyboardInterrupt"), en P "SystemExit" 87 (.type "SystemExit"), en P "ArithmeticError" 88 (.type "ArithmeticError"), en P "AssertionError" 89 (.type "AssertionError"), en P "AttributeError" 90 (.type "AttributeError"), en P "BufferError" 91 (.type "BufferError"), en P "EOFError" 92 (.type "EOFError"), en P "ImportError" 93 (.type "ImportError"), en P "LookupError" 94 (.type "LookupError"), en P "MemoryError" 95 (.type "MemoryError"), en P "NameError" 96 (.type "NameError"), en P "OSError" 97 (.type "OSError"), en P "ReferenceError" 98 (.type "ReferenceError"), en P "RuntimeError" 99 (.type "RuntimeError"), en P "StopAsyncIteration" 100 (.type "StopAsyncIteration"), en P "StopIteration" 101 (.type "StopIteration"), en P "SyntaxError" 102 (.type "SyntaxError"), en P "SystemError" 103 (.type "SystemError"), en P "TypeError" 104 (.type "TypeError"), en P "ValueError" 105 (.type "ValueError"), en P "Warning" 106 (.type "Warning"), en P "FloatingPointError" 107 (.type "FloatingPointError"), en P "OverflowError" 108 (.type "OverflowError"), en P "ZeroDivisionError" 109 (.type "ZeroDivisionError"), en P "BytesWarning" 110 (.type "BytesWarning"), en P "DeprecationWarning" 111 (.type "DeprecationWarning"), en P "EncodingWarning" 112 (.type "EncodingWarning"), en P "FutureWarning" 113 (.type "FutureWarning"), en P "ImportWarning" 114 (.type "ImportWarning"), en P "PendingDeprecationWarning" 115 (.type "PendingDeprecationWarning"), en P "ResourceWarning" 116 (.type "ResourceWarning"), en P "RuntimeWarning" 117 (.type "RuntimeWarning"), en P "SyntaxWarning" 118 (.type "SyntaxWarning"), en P "UnicodeWarning" 119 (.type "UnicodeWarning"), en P "UserWarning" 120 (.type "UserWarning"), en P "BlockingIOError" 121 (.type "BlockingIOError"), en P "ChildProcessError" 122 (.type "ChildProcessError"), en P "ConnectionError" 123 (.type "ConnectionError"), en P "FileExistsError" 124 (.type "FileExistsError"), en P "FileNotFoundError" 125 (.type "FileNotFoundError"), en P "InterruptedError" 126 (.type "InterruptedError"), en P "IsADirectoryError" 127 (.type "IsADirectoryError"), en P "NotADirectoryError" 128 (.type "NotADirectoryError"), en P "PermissionError" 129 (.type "PermissionError"), en P "ProcessLookupError" 130 (.type "ProcessLookupError"), en P "TimeoutError" 131 (.type "TimeoutError"), en P "IndentationError" 132 (.type "IndentationError"), en P "_IncompleteInputError" 133 (.type "_IncompleteInputError"), en P "IndexError" 134 (.type "IndexError"), en P "KeyError" 135 (.type "KeyError"), en P "ModuleNotFoundError" 136 (.type "ModuleNotFoundError"), en P "NotImplementedError" 137 (.type "NotImplementedError"), en P "PythonFinalizationError" 138 (.type "PythonFinalizationError"), en P "RecursionError" 139 (.type "RecursionError"), en P "UnboundLocalError" 140 (.type "UnboundLocalError"), en P "UnicodeError" 141 (.type "UnicodeError"), en P "BrokenPipeError" 142 (.type "BrokenPipeError"), en P "ConnectionAbortedError" 143 (.type "ConnectionAbortedError"), en P "ConnectionRefusedError" 144 (.type "ConnectionRefusedError"), en P "ConnectionResetError" 145 (.type "ConnectionResetError"), en P "TabError" 146 (.type "TabError"), en P "UnicodeDecodeError" 147 (.type "UnicodeDecodeError"), en P "UnicodeEncodeError" 148 (.type "UnicodeEncodeError"), en P "UnicodeTranslateError" 149 (.type "UnicodeTranslateError"), en P "ExceptionGroup" 150 (.type "ExceptionGroup"), en P "EnvironmentError" 151 (.type "OSError"), en P "IOError" 152 (.type "OSError"), en P "open" 153 (.builtin "open"), en P "quit" 154 (.builtin "builtins.quit#opaque"), en P "exit" 155 (.builtin "builtins.exit#opaque"), en P "copyright" 156 (.builtin "builtins.copyright#opaque"), en P "credits" 157 (.builtin "builtins.credits#opaque"), en P "license" 158 (.builtin "builtins.license#opaque"), en P "help" 159 (.builtin "builtins.help#opaque")] 159), #[]⟩
noncomputable def o1_0 (P : Params) : Obj := ⟨(.type "dict"), none, (.dict #[en P "builtins" 162 (.ref 4), en P "__main__" 163 (.ref 5)] 2), #[]⟩
noncomputable def o2_0 (P : Params) : Obj := ⟨.none, none, (.dict #[] 0), #[]⟩
noncomputable def o3_0 (P : Params) : Obj := ⟨(.type "dict"), none, (.dict #[en P "__name__" 165 (.str (zs "__main__") 164), en P "__doc__" 166 .none, en P "__package__" 167 .none, en P "__loader__" 168 (.builtin "__main__.__loader__#opaque"), en P "__spec__" 169 .none, en P "__annotations__" 170 (.ref 6), en P "__builtins__" 171 (.ref 4), en P "__file__" 173 (.str (zs "/claim/cut.py") 172), en P "__cached__" 174 .none] 9), #[]⟩
noncomputable def o4_0 (P : Params) : Obj := ⟨(.type "module"), (some 0), .plain, #[]⟩
noncomputable def o5_0 (P : Params) : Obj := ⟨(.type "module"), (some 3), .plain, #[]⟩
noncomputable def o6_0 (P : Params) : Obj := ⟨(.type "dict"), none, (.dict #[] 0), #[]⟩
noncomputable def o7_0 (P : Params) : Obj := ⟨(.type "tuple"), none, (.seq #[] 0), #[]⟩
noncomputable def o8_0 (P : Params) : Obj := ⟨.none, none, (.fields #[]), #[]⟩
noncomputable def o9_0 (P : Params) : Obj := ⟨(.type "code"), none, (.fields #[(.str (zs "<module>") 176), (.str (zs "<module>") 177), (.str (zs "/claim/cut.py") 178), (.int 1 0), (.int 0 0), (.int 0 0), (.int 0 0), (.int 0 0), (.ref 7), (.bool false), (.int 175 0), (.ref 8), .none, .none, .none, .none, (.int 179 0), (.int 1 0), (.str (zs "/claim/cut.py") 180)]), #[]⟩
noncomputable def o10_0 (P : Params) : Obj := ⟨(.type "frame"), none, .plain, #[some (.ref 9), some (.ref 3), some (.ref 3), none, some (.str (zs "__main__") 164), none, some (.ref 0)]⟩
noncomputable def o11_0 (P : Params) : Obj := ⟨(.type "tuple"), none, (.seq #[] 0), #[]⟩
noncomputable def o12_0 (P : Params) : Obj := ⟨.none, none, (.fields #[]), #[]⟩
noncomputable def o13_0 (P : Params) : Obj := ⟨(.type "code"), none, (.fields #[(.str (zs "<module>") 182), (.str (zs "<module>") 183), (.str (zs "/claim/cut.py") 184), (.int 1 0), (.int 0 0), (.int 0 0), (.int 0 0), (.int 0 0), (.ref 11), (.bool false), (.int 181 0), (.ref 12), .none, .none, .none, .none, (.int 185 0), (.int 1 0), (.str (zs "/claim/cut.py") 186)]), #[]⟩
noncomputable def o14_0 (P : Params) : Obj := ⟨(.type "frame"), none, .plain, #[some (.ref 13), some (.ref 3), some (.ref 3), none, some (.str (zs "__main__") 164), none, some (.ref 0)]⟩
noncomputable def T0 (P : Params) : BT := (.node (o0_0 P) (.node (o1_0 P) (.node (o3_0 P) (.node (o7_0 P) .nil .nil) (.node (o11_0 P) .nil .nil)) (.node (o5_0 P) (.node (o9_0 P) .nil .nil) (.node (o13_0 P) .nil .nil))) (.node (o2_0 P) (.node (o4_0 P) (.node (o8_0 P) .nil .nil) (.node (o12_0 P) .nil .nil)) (.node (o6_0 P) (.node (o10_0 P) .nil .nil) (.node (o14_0 P) .nil .nil))))
-- boundary 0: objects 15 toks 187 steps so far 0 pos { line := 0, col := 0, endLine := 0, endCol := 0 } life { } drawn { } gens 0
noncomputable def o3_6 (P : Params) : Obj := ⟨(.type "dict"), none, (.dict #[en P "__name__" 165 (.str (zs "pdfminer.ascii85") 258), en P "__doc__" 166 .none, en P "__package__" 167 .none, en P "__loader__" 168 (.builtin "__main__.__loader__#opaque"), en P "__spec__" 169 .none, en P "__annotations__" 170 (.ref 6), en P "__builtins__" 171 (.ref 4), en P "__file__" 173 (.str (zs "/claim/cut.py") 172), en P "__cached__" 174 .none, en P "_wall" 193 (.ref 21), en P "Signs" 249 (.ref 58), en P "cast" 257 (.ref 69), en P "bws_re" 268 (.ref 71)] 13), #[]⟩
noncomputable def o12_6 (P : Params) : Obj := ⟨.none, none, (.fields #[(.int 1 0), (.int 0 0), (.ref 20), (.int 5 0), (.int 0 0), (.ref 27), (.int 18 0), (.int 0 0), (.ref 68)]), #[]⟩
noncomputable def o15_6 (P : Params) : Obj := ⟨(.type "tuple"), none, (.seq #[] 0), #[]⟩
noncomputable def o16_6 (P : Params) : Obj := ⟨.none, none, (.fields #[]), #[]⟩
noncomputable def o17_6 (P : Params) : Obj := ⟨(.type "tuple"), none, (.seq #[(.str (zs "k") 190)] 0), #[]⟩
noncomputable def o18_6 (P : Params) : Obj := ⟨(.type "tuple"), none, (.seq #[] 0), #[]⟩
noncomputable def o19_6 (P : Params) : Obj := ⟨.none, none, (.func (fd (st 0) (zs "_wall") 0 .none .none .none .none none .none .none 0)), #[]⟩
noncomputable def o20_6 (P : Params) : Obj := ⟨(.type "code"), none, (.fields #[(.str (zs "_wall") 187), (.str (zs "_wall") 188), (.str (zs "/claim/cut.py") 189), (.int 1 0), (.int 1 0), (.int 0 0), (.int 0 0), (.int 3 0), (.ref 15), (.bool true), (.int 181 0), (.ref 16), .none, (.ref 17), (.ref 18), (.ref 19), (.int 191 0), (.int 1 0), (.str (zs "/claim/cut.py") 192)]), #[]⟩
noncomputable def o21_6 (P : Params) : Obj := ⟨(.type "function"), none, (.func (fd (st 0) (zs "_wall") 3 .none .none .none (.str (zs "__main__") 164) none (.ref 20) .none 0)), #[]⟩
noncomputable def o22_6 (P : Params) : Obj := ⟨(.type "tuple"), none, (.seq #[] 0), #[]⟩
noncomputable def o23_6 (P : Params) : Obj := ⟨(.type "builtin_function_or_method"), none, (.fields #[(.builtin "type.__prepare__"), (.type "type")]), #[]⟩
noncomputable def o24_6 (P : Params) : Obj := ⟨(.type "dict"), none, (.dict #[en P "__module__" 203 (.str (zs "pdfminer.stand_ins") 194), en P "__qualname__" 205 (.str (zs "Signs") 204), en P "__firstlineno__" 207 (.int 5 206), en P "__init__" 216 (.ref 36), en P "search" 225 (.ref 43), en P "match" 233 (.ref 50), en P "sub" 239 (.ref 55), en P "__static_attributes__" 242 (.ref 56)] 8), #[]⟩
noncomputable def o25_6 (P : Params) : Obj := ⟨(.type "tuple"), none, (.seq #[] 0), #[]⟩
noncomputable def o26_6 (P : Params) : Obj := ⟨.none, none, (.fields #[(.int 7 0), (.int 4 0), (.ref 35), (.int 10 0), (.int 4 0), (.ref 42), (.int 13 0), (.int 4 0), (.ref 49), (.int 16 0), (.int 4 0), (.ref 54)]), #[]⟩
noncomputable def o27_6 (P : Params) : Obj := ⟨(.type "code"), none, (.fields #[(.str (zs "Signs") 198), (.str (zs "Signs") 199), (.str (zs "/claim/cut.py") 200), (.int 5 0), (.int 0 0), (.int 0 0), (.int 0 0), (.int 0 0), (.ref 25), (.bool false), (.int 181 0), (.ref 26), .none, .none, .none, .none, (.int 201 0), (.int 5 0), (.str (zs "/claim/cut.py") 202)]), #[]⟩
noncomputable def o28_6 (P : Params) : Obj := ⟨(.type "frame"), none, .plain, #[some (.ref 27), some (.ref 3), some (.ref 24), none, some (.str (zs "pdfminer.stand_ins") 194), none, some (.ref 0)]⟩
noncomputable def o29_6 (P : Params) : Obj := ⟨(.type "tuple"), none, (.seq #[(.bool true)] 0), #[]⟩
noncomputable def o30_6 (P : Params) : Obj := ⟨(.type "tuple"), none, (.seq #[] 0), #[]⟩
noncomputable def o31_6 (P : Params) : Obj := ⟨.none, none, (.fields #[]), #[]⟩
noncomputable def o32_6 (P : Params) : Obj := ⟨(.type "tuple"), none, (.seq #[(.str (zs "self") 211), (.str (zs "octets") 212), (.str (zs "among") 213)] 0), #[]⟩
noncomputable def o33_6 (P : Params) : Obj := ⟨(.type "tuple"), none, (.seq #[] 0), #[]⟩
noncomputable def o34_6 (P : Params) : Obj := ⟨.none, none, (.func (fd (sc 2 0) (zs "Signs.__init__") 0 .none .none .none .none none .none .none 0)), #[]⟩
noncomputable def o35_6 (P : Params) : Obj := ⟨(.type "code"), none, (.fields #[(.str (zs "__init__") 208), (.str (zs "Signs.__init__") 209), (.str (zs "/claim/cut.py") 210), (.int 7 0), (.int 3 0), (.int 0 0), (.int 0 0), (.int 3 0), (.ref 30), (.bool true), (.int 181 0), (.ref 31), .none, (.ref 32), (.ref 33), (.ref 34), (.int 214 0), (.int 7 0), (.str (zs "/claim/cut.py") 215)]), #[]⟩
noncomputable def o36_6 (P : Params) : Obj := ⟨(.type "function"), none, (.func (fd (sc 2 0) (zs "Signs.__init__") 3 (.ref 29) .none .none (.str (zs "pdfminer.stand_ins") 194) none (.ref 35) .none 0)), #[]⟩
noncomputable def o37_6 (P : Params) : Obj := ⟨(.type "tuple"), none, (.seq #[] 0), #[]⟩
noncomputable def o38_6 (P : Params) : Obj := ⟨.none, none, (.fields #[]), #[]⟩
noncomputable def o39_6 (P : Params) : Obj := ⟨(.type "tuple"), none, (.seq #[(.str (zs "self") 220), (.str (zs "text") 221), (.str (zs "place") 222)] 0), #[]⟩
noncomputable def o40_6 (P : Params) : Obj := ⟨(.type "tuple"), none, (.seq #[] 0), #[]⟩
noncomputable def o41_6 (P : Params) : Obj := ⟨.none, none, (.func (fd (sc 2 1) (zs "Signs.search") 0 .none .none .none .none none .none .none 0)), #[]⟩
noncomputable def o42_6 (P : Params) : Obj := ⟨(.type "code"), none, (.fields #[(.str (zs "search") 217), (.str (zs "Signs.search") 218), (.str (zs "/claim/cut.py") 219), (.int 10 0), (.int 3 0), (.int 0 0), (.int 0 0), (.int 3 0), (.ref 37), (.bool true), (.int 181 0), (.ref 38), .none, (.ref 39), (.ref 40), (.ref 41), (.int 223 0), (.int 10 0), (.str (zs "/claim/cut.py") 224)]), #[]⟩
noncomputable def o43_6 (P : Params) : Obj := ⟨(.type "function"), none, (.func (fd (sc 2 1) (zs "Signs.search") 3 .none .none .none (.str (zs "pdfminer.stand_ins") 194) none (.ref 42) .none 0)), #[]⟩
noncomputable def o44_6 (P : Params) : Obj := ⟨(.type "tuple"), none, (.seq #[] 0), #[]⟩
noncomputable def o45_6 (P : Params) : Obj := ⟨.none, none, (.fields #[]), #[]⟩
noncomputable def o46_6 (P : Params) : Obj := ⟨(.type "tuple"), none, (.seq #[(.str (zs "self") 229), (.str (zs "text") 230)] 0), #[]⟩
noncomputable def o47_6 (P : Params) : Obj := ⟨(.type "tuple"), none, (.seq #[] 0), #[]⟩
noncomputable def o48_6 (P : Params) : Obj := ⟨.none, none, (.func (fd (sc 2 2) (zs "Signs.match") 0 .none .none .none .none none .none .none 0)), #[]⟩
noncomputable def o49_6 (P : Params) : Obj := ⟨(.type "code"), none, (.fields #[(.str (zs "match") 226), (.str (zs "Signs.match") 227), (.str (zs "/claim/cut.py") 228), (.int 13 0), (.int 2 0), (.int 0 0), (.int 0 0), (.int 3 0), (.ref 44), (.bool true), (.int 181 0), (.ref 45), .none, (.ref 46), (.ref 47), (.ref 48), (.int 231 0), (.int 13 0), (.str (zs "/claim/cut.py") 232)]), #[]⟩
noncomputable def o50_6 (P : Params) : Obj := ⟨(.type "function"), none, (.func (fd (sc 2 2) (zs "Signs.match") 3 .none .none .none (.str (zs "pdfminer.stand_ins") 194) none (.ref 49) .none 0)), #[]⟩
noncomputable def o51_6 (P : Params) : Obj := ⟨(.type "tuple"), none, (.seq #[] 0), #[]⟩
noncomputable def o52_6 (P : Params) : Obj := ⟨.none, none, (.fields #[]), #[]⟩
noncomputable def o53_6 (P : Params) : Obj := ⟨.none, none, (.func (fd (sc 2 3) (zs "Signs.sub") 0 .none .none .none .none none .none .none 0)), #[]⟩
noncomputable def o54_6 (P : Params) : Obj := ⟨(.type "code"), none, (.fields #[(.str (zs "sub") 234), (.str (zs "Signs.sub") 235), (.str (zs "/claim/cut.py") 236), (.int 16 0), (.int 3 0), (.int 0 0), (.int 0 0), (.int 3 0), (.ref 51), (.bool true), (.int 181 0), (.ref 52), .none, .none, .none, (.ref 53), (.int 237 0), (.int 16 0), (.str (zs "/claim/cut.py") 238)]), #[]⟩
noncomputable def o55_6 (P : Params) : Obj := ⟨(.type "function"), none, (.func (fd (sc 2 3) (zs "Signs.sub") 3 .none .none .none (.str (zs "pdfminer.stand_ins") 194) none (.ref 54) .none 0)), #[]⟩
noncomputable def o56_6 (P : Params) : Obj := ⟨(.type "tuple"), none, (.seq #[(.str (zs "among") 240), (.str (zs "octets") 241)] 0), #[]⟩
noncomputable def o57_6 (P : Params) : Obj := ⟨(.type "dict"), none, (.dict #[en P "__module__" 203 (.str (zs "pdfminer.stand_ins") 194), en P "__firstlineno__" 207 (.int 5 206), en P "__init__" 216 (.ref 36), en P "search" 225 (.ref 43), en P "match" 233 (.ref 50), en P "sub" 239 (.ref 55), en P "__static_attributes__" 242 (.ref 56), en P "__dict__" 244 (.ref 59), en P "__weakref__" 246 (.ref 60), en P "__doc__" 247 .none] 4), #[]⟩
noncomputable def o58_6 (P : Params) : Obj := ⟨(.type "type"), none, (.cls ⟨(zs "Signs"), [(.type "object")], [(.ref 58), (.type "object")], 57, (zs "Signs"), true, [], [], false, none, false⟩), #[none, none, some (.str (zs "Signs") 196), some (.str (zs "Signs") 204), some (.builtin "object.__new__"), some (.bool true)]⟩
noncomputable def o59_6 (P : Params) : Obj := ⟨(.type "getset_descriptor"), none, (.fields #[(.str (zs "__dict__") 243), (.ref 58), (.builtin "function.__dict__"), (.builtin "function.__dict__#set")]), #[]⟩
noncomputable def o60_6 (P : Params) : Obj := ⟨(.type "getset_descriptor"), none, (.fields #[(.str (zs "__weakref__") 245), (.ref 58), (.builtin "ExceptionGroup.__weakref__"), .none]), #[]⟩
noncomputable def o61_6 (P : Params) : Obj := ⟨(.type "super"), none, (.fields #[(.ref 58), (.ref 58), (.ref 58)]), #[]⟩
noncomputable def o62_6 (P : Params) : Obj := ⟨(.type "builtin_function_or_method"), none, (.fields #[(.builtin "object.__init_subclass__"), (.ref 58)]), #[]⟩
noncomputable def o63_6 (P : Params) : Obj := ⟨(.type "tuple"), none, (.seq #[] 0), #[]⟩
noncomputable def o64_6 (P : Params) : Obj := ⟨.none, none, (.fields #[]), #[]⟩
noncomputable def o65_6 (P : Params) : Obj := ⟨(.type "tuple"), none, (.seq #[(.str (zs "kind") 253), (.str (zs "value") 254)] 0), #[]⟩
noncomputable def o66_6 (P : Params) : Obj := ⟨(.type "tuple"), none, (.seq #[] 0), #[]⟩
noncomputable def o67_6 (P : Params) : Obj := ⟨.none, none, (.func (fd (st 3) (zs "cast") 0 .none .none .none .none none .none .none 0)), #[]⟩
noncomputable def o68_6 (P : Params) : Obj := ⟨(.type "code"), none, (.fields #[(.str (zs "cast") 250), (.str (zs "cast") 251), (.str (zs "/claim/cut.py") 252), (.int 18 0), (.int 2 0), (.int 0 0), (.int 0 0), (.int 3 0), (.ref 63), (.bool true), (.int 181 0), (.ref 64), .none, (.ref 65), (.ref 66), (.ref 67), (.int 255 0), (.int 18 0), (.str (zs "/claim/cut.py") 256)]), #[]⟩
noncomputable def o69_6 (P : Params) : Obj := ⟨(.type "function"), none, (.func (fd (st 3) (zs "cast") 3 .none .none .none (.str (zs "pdfminer.stand_ins") 194) none (.ref 68) .none 0)), #[]⟩
noncomputable def o70_6 (P : Params) : Obj := ⟨(.type "dict"), none, (.dict #[en P "octets" 265 (.bytes #[32, 9, 10, 13, 11, 12] 260), en P "among" 267 (.bool true)] 2), #[]⟩
noncomputable def o71_6 (P : Params) : Obj := ⟨(.ref 58), (some 70), .plain, #[]⟩
noncomputable def o72_6 (P : Params) : Obj := ⟨(.type "frame"), none, (.dict #[en P "self" 261 (.ref 71), en P "octets" 262 (.bytes #[32, 9, 10, 13, 11, 12] 260), en P "among" 263 (.bool true)] 3), #[]⟩
noncomputable def o73_6 (P : Params) : Obj := ⟨(.type "tuple"), none, (.seq #[(.bytes #[32, 9, 10, 13, 11, 12] 260), (.bool true)] 0), #[]⟩
noncomputable def o74_6 (P : Params) : Obj := ⟨(.type "tuple_iterator"), none, (.fields #[.none, (.int 2 0)]), #[]⟩
noncomputable def o75_6 (P : Params) : Obj := ⟨(.type "tuple"), none, (.seq #[] 0), #[]⟩
noncomputable def o76_6 (P : Params) : Obj := ⟨(.type "StopIteration"), none, (.fields #[(.ref 75), .none, .none, .none, (.bool false), .none]), #[]⟩
noncomputable def T6 (P : Params) : BT := (.node (o0_0 P) (.node (o1_0 P) (.node (o3_6 P) (.node (o7_0 P) (.node (o15_6 P) (.node (o31_6 P) (.node (o63_6 P) .nil .nil) .nil) (.node (o47_6 P) .nil .nil)) (.node (o23_6 P) (.node (o39_6 P) (.node (o71_6 P) .nil .nil) .nil) (.node (o55_6 P) .nil .nil))) (.node (o11_0 P) (.node (o19_6 P) (.node (o35_6 P) (.node (o67_6 P) .nil .nil) .nil) (.node (o51_6 P) .nil .nil)) (.node (o27_6 P) (.node (o43_6 P) (.node (o75_6 P) .nil .nil) .nil) (.node (o59_6 P) .nil .nil)))) (.node (o5_0 P) (.node (o9_0 P) (.node (o17_6 P) (.node (o33_6 P) (.node (o65_6 P) .nil .nil) .nil) (.node (o49_6 P) .nil .nil)) (.node (o25_6 P) (.node (o41_6 P) (.node (o73_6 P) .nil .nil) .nil) (.node (o57_6 P) .nil .nil))) (.node (o13_0 P) (.node (o21_6 P) (.node (o37_6 P) (.node (o69_6 P) .nil .nil) .nil) (.node (o53_6 P) .nil .nil)) (.node (o29_6 P) (.node (o45_6 P) .nil .nil) (.node (o61_6 P) .nil .nil))))) (.node (o2_0 P) (.node (o4_0 P) (.node (o8_0 P) (.node (o16_6 P) (.node (o32_6 P) (.node (o64_6 P) .nil .nil) .nil) (.node (o48_6 P) .nil .nil)) (.node (o24_6 P) (.node (o40_6 P) (.node (o72_6 P) .nil .nil) .nil) (.node (o56_6 P) .nil .nil))) (.node (o12_6 P) (.node (o20_6 P) (.node (o36_6 P) (.node (o68_6 P) .nil .nil) .nil) (.node (o52_6 P) .nil .nil)) (.node (o28_6 P) (.node (o44_6 P) (.node (o76_6 P) .nil .nil) .nil) (.node (o60_6 P) .nil .nil)))) (.node (o6_0 P) (.node (o10_0 P) (.node (o18_6 P) (.node (o34_6 P) (.node (o66_6 P) .nil .nil) .nil) (.node (o50_6 P) .nil .nil)) (.node (o26_6 P) (.node (o42_6 P) (.node (o74_6 P) .nil .nil) .nil) (.node (o58_6 P) .nil .nil))) (.node (o14_0 P) (.node (o22_6 P) (.node (o38_6 P) (.node (o70_6 P) .nil .nil) .nil) (.node (o54_6 P) .nil .nil)) (.node (o30_6 P) (.node (o46_6 P) .nil .nil) (.node (o62_6 P) .nil .nil))))))
-- boundary 6: objects 77 toks 269 steps so far 579 pos { line := 21, col := 0, endLine := 21, endCol := 6 } life { } drawn { } gens 0
noncomputable def o2_28 (P : Params) : Obj := ⟨.none, none, (.dict #[en P "type.__subclasses__.Exception.0" 347 (.int 127 0), en P "type.__subclasses__.Exception.n" 348 (.int 1 0), en P "type.__subclasses__.TypeError.0" 383 (.int 152 0), en P "type.__subclasses__.TypeError.n" 384 (.int 1 0), en P "type.__subclasses__.NotImplementedError.0" 433 (.int 188 0), en P "type.__subclasses__.NotImplementedError.n" 434 (.int 1 0), en P "type.__subclasses__.KeyError.0" 451 (.int 200 0), en P "type.__subclasses__.KeyError.n" 452 (.int 1 0), en P "type.__subclasses__.EOFError.0" 469 (.int 212 0), en P "type.__subclasses__.EOFError.n" 470 (.int 1 0)] 10), #[]⟩
noncomputable def o3_28 (P : Params) : Obj := ⟨(.type "dict"), none, (.dict #[en P "__name__" 165 (.str (zs "pdfminer.ccitt") 473), en P "__doc__" 166 .none, en P "__package__" 167 .none, en P "__loader__" 168 (.builtin "__main__.__loader__#opaque"), en P "__spec__" 169 .none, en P "__annotations__" 170 (.ref 6), en P "__builtins__" 171 (.ref 4), en P "__file__" 173 (.str (zs "/claim/cut.py") 172), en P "__cached__" 174 .none, en P "_wall" 193 (.ref 21), en P "Signs" 249 (.ref 58), en P "cast" 257 (.ref 69), en P "bws_re" 268 (.ref 71), en P "Error" 288 (.ref 86), en P "_ascii_buffer" 296 (.ref 96), en P "_hex_value" 303 (.ref 103), en P "a2b_hex" 316 (.ref 110), en P "unhexlify" 317 (.ref 110), en P "asciihexdecode" 327 (.ref 117), en P "STRICT" 328 (.bool false), en P "PSException" 350 (.ref 127), en P "PDFException" 368 (.ref 140), en P "PDFTypeError" 386 (.ref 152), en P "PDFValueError" 402 (.ref 164), en P "PDFObjectNotFound" 418 (.ref 176), en P "PDFNotImplementedError" 436 (.ref 188), en P "PDFKeyError" 454 (.ref 200), en P "PDFEOFError" 472 (.ref 212), en P "get_bytes" 481 (.ref 221), en P "BitParser" 551 (.ref 262)] 30), #[]⟩
noncomputable def o12_28 (P : Params) : Obj := ⟨.none, none, (.fields #[(.int 1 0), (.int 0 0), (.ref 20), (.int 5 0), (.int 0 0), (.ref 27), (.int 18 0), (.int 0 0), (.ref 68), (.int 23 0), (.int 0 0), (.ref 82), (.int 25 0), (.int 0 0), (.ref 95), (.int 36 0), (.int 0 0), (.ref 102), (.int 44 0), (.int 0 0), (.ref 109), (.int 61 0), (.int 0 0), (.ref 116), (.int 71 0), (.int 0 0), (.ref 123), (.int 74 0), (.int 0 0), (.ref 136), (.int 76 0), (.int 0 0), (.ref 148), (.int 78 0), (.int 0 0), (.ref 160), (.int 80 0), (.int 0 0), (.ref 172), (.int 82 0), (.int 0 0), (.ref 184), (.int 84 0), (.int 0 0), (.ref 196), (.int 86 0), (.int 0 0), (.ref 208), (.int 89 0), (.int 0 0), (.ref 220), (.int 91 0), (.int 0 0), (.ref 227)]), #[]⟩
noncomputable def o77_28 (P : Params) : Obj := ⟨(.type "tuple"), none, (.seq #[(.type "ValueError")] 0), #[]⟩
noncomputable def o78_28 (P : Params) : Obj := ⟨(.type "builtin_function_or_method"), none, (.fields #[(.builtin "type.__prepare__"), (.type "type")]), #[]⟩
noncomputable def o79_28 (P : Params) : Obj := ⟨(.type "dict"), none, (.dict #[en P "__module__" 278 (.str (zs "binascii") 269), en P "__qualname__" 280 (.str (zs "Error") 279), en P "__firstlineno__" 282 (.int 23 281), en P "__static_attributes__" 283 (.ref 84)] 4), #[]⟩
noncomputable def o80_28 (P : Params) : Obj := ⟨(.type "tuple"), none, (.seq #[] 0), #[]⟩
noncomputable def o81_28 (P : Params) : Obj := ⟨.none, none, (.fields #[]), #[]⟩
noncomputable def o82_28 (P : Params) : Obj := ⟨(.type "code"), none, (.fields #[(.str (zs "Error") 273), (.str (zs "Error") 274), (.str (zs "/claim/cut.py") 275), (.int 23 0), (.int 0 0), (.int 0 0), (.int 0 0), (.int 0 0), (.ref 80), (.bool false), (.int 181 0), (.ref 81), .none, .none, .none, .none, (.int 276 0), (.int 23 0), (.str (zs "/claim/cut.py") 277)]), #[]⟩
noncomputable def o83_28 (P : Params) : Obj := ⟨(.type "frame"), none, .plain, #[some (.ref 82), some (.ref 3), some (.ref 79), none, some (.str (zs "binascii") 269), none, some (.ref 0)]⟩
noncomputable def o84_28 (P : Params) : Obj := ⟨(.type "tuple"), none, (.seq #[] 0), #[]⟩
noncomputable def o85_28 (P : Params) : Obj := ⟨(.type "dict"), none, (.dict #[en P "__module__" 278 (.str (zs "binascii") 269), en P "__firstlineno__" 282 (.int 23 281), en P "__static_attributes__" 283 (.ref 84), en P "__weakref__" 285 (.ref 87), en P "__doc__" 286 .none] 3), #[]⟩
noncomputable def o86_28 (P : Params) : Obj := ⟨(.type "type"), none, (.cls ⟨(zs "Error"), [(.type "ValueError")], [(.ref 86), (.type "ValueError"), (.type "Exception"), (.type "BaseException"), (.type "object")], 85, (zs "Error"), true, [], [], false, none, false⟩), #[some (.ref 77), none, some (.str (zs "Error") 271), some (.str (zs "Error") 279), some (.builtin "ValueError.__new__"), some (.bool true)]⟩
noncomputable def o87_28 (P : Params) : Obj := ⟨(.type "getset_descriptor"), none, (.fields #[(.str (zs "__weakref__") 284), (.ref 86), (.builtin "ExceptionGroup.__weakref__"), .none]), #[]⟩
noncomputable def o88_28 (P : Params) : Obj := ⟨(.type "super"), none, (.fields #[(.ref 86), (.ref 86), (.ref 86)]), #[]⟩
noncomputable def o89_28 (P : Params) : Obj := ⟨(.type "builtin_function_or_method"), none, (.fields #[(.builtin "object.__init_subclass__"), (.ref 86)]), #[]⟩
noncomputable def o90_28 (P : Params) : Obj := ⟨(.type "tuple"), none, (.seq #[] 0), #[]⟩
noncomputable def o91_28 (P : Params) : Obj := ⟨.none, none, (.fields #[]), #[]⟩
noncomputable def o92_28 (P : Params) : Obj := ⟨(.type "tuple"), none, (.seq #[(.str (zs "data") 292), (.str (zs "t") 293)] 0), #[]⟩
noncomputable def o93_28 (P : Params) : Obj := ⟨(.type "tuple"), none, (.seq #[] 0), #[]⟩
noncomputable def o94_28 (P : Params) : Obj := ⟨.none, none, (.func (fd (st 8) (zs "_ascii_buffer") 0 .none .none .none .none none .none .none 0)), #[]⟩
noncomputable def o95_28 (P : Params) : Obj := ⟨(.type "code"), none, (.fields #[(.str (zs "_ascii_buffer") 289), (.str (zs "_ascii_buffer") 290), (.str (zs "/claim/cut.py") 291), (.int 25 0), (.int 1 0), (.int 0 0), (.int 0 0), (.int 3 0), (.ref 90), (.bool true), (.int 181 0), (.ref 91), .none, (.ref 92), (.ref 93), (.ref 94), (.int 294 0), (.int 25 0), (.str (zs "/claim/cut.py") 295)]), #[]⟩
noncomputable def o96_28 (P : Params) : Obj := ⟨(.type "function"), none, (.func (fd (st 8) (zs "_ascii_buffer") 3 .none .none .none (.str (zs "binascii") 269) none (.ref 95) .none 0)), #[]⟩
noncomputable def o97_28 (P : Params) : Obj := ⟨(.type "tuple"), none, (.seq #[] 0), #[]⟩
noncomputable def o98_28 (P : Params) : Obj := ⟨.none, none, (.fields #[]), #[]⟩
noncomputable def o99_28 (P : Params) : Obj := ⟨(.type "tuple"), none, (.seq #[(.str (zs "c") 300)] 0), #[]⟩
noncomputable def o100_28 (P : Params) : Obj := ⟨(.type "tuple"), none, (.seq #[] 0), #[]⟩
noncomputable def o101_28 (P : Params) : Obj := ⟨.none, none, (.func (fd (st 9) (zs "_hex_value") 0 .none .none .none .none none .none .none 0)), #[]⟩
noncomputable def o102_28 (P : Params) : Obj := ⟨(.type "code"), none, (.fields #[(.str (zs "_hex_value") 297), (.str (zs "_hex_value") 298), (.str (zs "/claim/cut.py") 299), (.int 36 0), (.int 1 0), (.int 0 0), (.int 0 0), (.int 3 0), (.ref 97), (.bool true), (.int 181 0), (.ref 98), .none, (.ref 99), (.ref 100), (.ref 101), (.int 301 0), (.int 36 0), (.str (zs "/claim/cut.py") 302)]), #[]⟩
noncomputable def o103_28 (P : Params) : Obj := ⟨(.type "function"), none, (.func (fd (st 9) (zs "_hex_value") 3 .none .none .none (.str (zs "binascii") 269) none (.ref 102) .none 0)), #[]⟩
noncomputable def o104_28 (P : Params) : Obj := ⟨(.type "tuple"), none, (.seq #[] 0), #[]⟩
noncomputable def o105_28 (P : Params) : Obj := ⟨.none, none, (.fields #[]), #[]⟩
noncomputable def o106_28 (P : Params) : Obj := ⟨(.type "tuple"), none, (.seq #[(.str (zs "hexstr") 307), (.str (zs "argbuf") 308), (.str (zs "arglen") 309), (.str (zs "out") 310), (.str (zs "i") 311), (.str (zs "top") 312), (.str (zs "bot") 313)] 0), #[]⟩
noncomputable def o107_28 (P : Params) : Obj := ⟨(.type "tuple"), none, (.seq #[] 0), #[]⟩
noncomputable def o108_28 (P : Params) : Obj := ⟨.none, none, (.func (fd (st 10) (zs "a2b_hex") 0 .none .none .none .none none .none .none 0)), #[]⟩
noncomputable def o109_28 (P : Params) : Obj := ⟨(.type "code"), none, (.fields #[(.str (zs "a2b_hex") 304), (.str (zs "a2b_hex") 305), (.str (zs "/claim/cut.py") 306), (.int 44 0), (.int 1 0), (.int 1 0), (.int 0 0), (.int 3 0), (.ref 104), (.bool true), (.int 181 0), (.ref 105), .none, (.ref 106), (.ref 107), (.ref 108), (.int 314 0), (.int 44 0), (.str (zs "/claim/cut.py") 315)]), #[]⟩
noncomputable def o110_28 (P : Params) : Obj := ⟨(.type "function"), none, (.func (fd (st 10) (zs "a2b_hex") 3 .none .none .none (.str (zs "binascii") 269) none (.ref 109) .none 0)), #[]⟩
noncomputable def o111_28 (P : Params) : Obj := ⟨(.type "tuple"), none, (.seq #[] 0), #[]⟩
noncomputable def o112_28 (P : Params) : Obj := ⟨.none, none, (.fields #[]), #[]⟩
noncomputable def o113_28 (P : Params) : Obj := ⟨(.type "tuple"), none, (.seq #[(.str (zs "data") 323), (.str (zs "idx") 324)] 0), #[]⟩
noncomputable def o114_28 (P : Params) : Obj := ⟨(.type "tuple"), none, (.seq #[] 0), #[]⟩
noncomputable def o115_28 (P : Params) : Obj := ⟨.none, none, (.func (fd (st 13) (zs "asciihexdecode") 0 .none .none .none .none none .none .none 0)), #[]⟩
noncomputable def o116_28 (P : Params) : Obj := ⟨(.type "code"), none, (.fields #[(.str (zs "asciihexdecode") 320), (.str (zs "asciihexdecode") 321), (.str (zs "/claim/cut.py") 322), (.int 61 0), (.int 1 0), (.int 0 0), (.int 0 0), (.int 3 0), (.ref 111), (.bool true), (.int 181 0), (.ref 112), .none, (.ref 113), (.ref 114), (.ref 115), (.int 325 0), (.int 61 0), (.str (zs "/claim/cut.py") 326)]), #[]⟩
noncomputable def o117_28 (P : Params) : Obj := ⟨(.type "function"), none, (.func (fd (st 13) (zs "asciihexdecode") 3 .none .none .none (.str (zs "pdfminer.ascii85") 318) none (.ref 116) .none 0)), #[]⟩
noncomputable def o118_28 (P : Params) : Obj := ⟨(.type "tuple"), none, (.seq #[(.type "Exception")] 0), #[]⟩
noncomputable def o119_28 (P : Params) : Obj := ⟨(.type "builtin_function_or_method"), none, (.fields #[(.builtin "type.__prepare__"), (.type "type")]), #[]⟩
noncomputable def o120_28 (P : Params) : Obj := ⟨(.type "dict"), none, (.dict #[en P "__module__" 338 (.str (zs "pdfminer.psexceptions") 329), en P "__qualname__" 340 (.str (zs "PSException") 339), en P "__firstlineno__" 342 (.int 71 341), en P "__static_attributes__" 343 (.ref 125)] 4), #[]⟩
noncomputable def o121_28 (P : Params) : Obj := ⟨(.type "tuple"), none, (.seq #[] 0), #[]⟩
noncomputable def o122_28 (P : Params) : Obj := ⟨.none, none, (.fields #[]), #[]⟩
noncomputable def o123_28 (P : Params) : Obj := ⟨(.type "code"), none, (.fields #[(.str (zs "PSException") 333), (.str (zs "PSException") 334), (.str (zs "/claim/cut.py") 335), (.int 71 0), (.int 0 0), (.int 0 0), (.int 0 0), (.int 0 0), (.ref 121), (.bool false), (.int 181 0), (.ref 122), .none, .none, .none, .none, (.int 336 0), (.int 71 0), (.str (zs "/claim/cut.py") 337)]), #[]⟩
noncomputable def o124_28 (P : Params) : Obj := ⟨(.type "frame"), none, .plain, #[some (.ref 123), some (.ref 3), some (.ref 120), none, some (.str (zs "pdfminer.psexceptions") 329), none, some (.ref 0)]⟩
noncomputable def o125_28 (P : Params) : Obj := ⟨(.type "tuple"), none, (.seq #[] 0), #[]⟩
noncomputable def o126_28 (P : Params) : Obj := ⟨(.type "dict"), none, (.dict #[en P "__module__" 338 (.str (zs "pdfminer.psexceptions") 329), en P "__firstlineno__" 342 (.int 71 341), en P "__static_attributes__" 343 (.ref 125), en P "__weakref__" 345 (.ref 128), en P "__doc__" 346 .none] 3), #[]⟩
noncomputable def o127_28 (P : Params) : Obj := ⟨(.type "type"), none, (.cls ⟨(zs "PSException"), [(.type "Exception")], [(.ref 127), (.type "Exception"), (.type "BaseException"), (.type "object")], 126, (zs "PSException"), true, [], [(.ref 140)], false, none, false⟩), #[some (.ref 118), none, some (.str (zs "PSException") 331), some (.str (zs "PSException") 339), some (.builtin "Exception.__new__"), some (.bool true)]⟩
noncomputable def o128_28 (P : Params) : Obj := ⟨(.type "getset_descriptor"), none, (.fields #[(.str (zs "__weakref__") 344), (.ref 127), (.builtin "ExceptionGroup.__weakref__"), .none]), #[]⟩
noncomputable def o129_28 (P : Params) : Obj := ⟨(.type "super"), none, (.fields #[(.ref 127), (.ref 127), (.ref 127)]), #[]⟩
noncomputable def o130_28 (P : Params) : Obj := ⟨(.type "builtin_function_or_method"), none, (.fields #[(.builtin "object.__init_subclass__"), (.ref 127)]), #[]⟩
noncomputable def o131_28 (P : Params) : Obj := ⟨(.type "tuple"), none, (.seq #[(.ref 127)] 0), #[]⟩
noncomputable def o132_28 (P : Params) : Obj := ⟨(.type "builtin_function_or_method"), none, (.fields #[(.builtin "type.__prepare__"), (.type "type")]), #[]⟩
noncomputable def o133_28 (P : Params) : Obj := ⟨(.type "dict"), none, (.dict #[en P "__module__" 360 (.str (zs "pdfminer.pdfexceptions") 351), en P "__qualname__" 362 (.str (zs "PDFException") 361), en P "__firstlineno__" 364 (.int 74 363), en P "__static_attributes__" 365 (.ref 138)] 4), #[]⟩
noncomputable def o134_28 (P : Params) : Obj := ⟨(.type "tuple"), none, (.seq #[] 0), #[]⟩
noncomputable def o135_28 (P : Params) : Obj := ⟨.none, none, (.fields #[]), #[]⟩
noncomputable def o136_28 (P : Params) : Obj := ⟨(.type "code"), none, (.fields #[(.str (zs "PDFException") 355), (.str (zs "PDFException") 356), (.str (zs "/claim/cut.py") 357), (.int 74 0), (.int 0 0), (.int 0 0), (.int 0 0), (.int 0 0), (.ref 134), (.bool false), (.int 181 0), (.ref 135), .none, .none, .none, .none, (.int 358 0), (.int 74 0), (.str (zs "/claim/cut.py") 359)]), #[]⟩
noncomputable def o137_28 (P : Params) : Obj := ⟨(.type "frame"), none, .plain, #[some (.ref 136), some (.ref 3), some (.ref 133), none, some (.str (zs "pdfminer.pdfexceptions") 351), none, some (.ref 0)]⟩
noncomputable def o138_28 (P : Params) : Obj := ⟨(.type "tuple"), none, (.seq #[] 0), #[]⟩
noncomputable def o139_28 (P : Params) : Obj := ⟨(.type "dict"), none, (.dict #[en P "__module__" 360 (.str (zs "pdfminer.pdfexceptions") 351), en P "__firstlineno__" 364 (.int 74 363), en P "__static_attributes__" 365 (.ref 138), en P "__doc__" 366 .none] 2), #[]⟩
noncomputable def o140_28 (P : Params) : Obj := ⟨(.type "type"), none, (.cls ⟨(zs "PDFException"), [(.ref 127)], [(.ref 140), (.ref 127), (.type "Exception"), (.type "BaseException"), (.type "object")], 139, (zs "PDFException"), true, [], [(.ref 152), (.ref 164), (.ref 176), (.ref 188), (.ref 200), (.ref 212)], false, none, false⟩), #[some (.ref 131), none, some (.str (zs "PDFException") 353), some (.str (zs "PDFException") 361), some (.builtin "Exception.__new__"), some (.bool true)]⟩
noncomputable def o141_28 (P : Params) : Obj := ⟨(.type "super"), none, (.fields #[(.ref 140), (.ref 140), (.ref 140)]), #[]⟩
noncomputable def o142_28 (P : Params) : Obj := ⟨(.type "builtin_function_or_method"), none, (.fields #[(.builtin "object.__init_subclass__"), (.ref 140)]), #[]⟩
noncomputable def o143_28 (P : Params) : Obj := ⟨(.type "tuple"), none, (.seq #[(.ref 140), (.type "TypeError")] 0), #[]⟩
noncomputable def o144_28 (P : Params) : Obj := ⟨(.type "builtin_function_or_method"), none, (.fields #[(.builtin "type.__prepare__"), (.type "type")]), #[]⟩
noncomputable def o145_28 (P : Params) : Obj := ⟨(.type "dict"), none, (.dict #[en P "__module__" 376 (.str (zs "pdfminer.pdfexceptions") 351), en P "__qualname__" 378 (.str (zs "PDFTypeError") 377), en P "__firstlineno__" 380 (.int 76 379), en P "__static_attributes__" 381 (.ref 150)] 4), #[]⟩
noncomputable def o146_28 (P : Params) : Obj := ⟨(.type "tuple"), none, (.seq #[] 0), #[]⟩
noncomputable def o147_28 (P : Params) : Obj := ⟨.none, none, (.fields #[]), #[]⟩
noncomputable def o148_28 (P : Params) : Obj := ⟨(.type "code"), none, (.fields #[(.str (zs "PDFTypeError") 371), (.str (zs "PDFTypeError") 372), (.str (zs "/claim/cut.py") 373), (.int 76 0), (.int 0 0), (.int 0 0), (.int 0 0), (.int 0 0), (.ref 146), (.bool false), (.int 181 0), (.ref 147), .none, .none, .none, .none, (.int 374 0), (.int 76 0), (.str (zs "/claim/cut.py") 375)]), #[]⟩
noncomputable def o149_28 (P : Params) : Obj := ⟨(.type "frame"), none, .plain, #[some (.ref 148), some (.ref 3), some (.ref 145), none, some (.str (zs "pdfminer.pdfexceptions") 351), none, some (.ref 0)]⟩
noncomputable def o150_28 (P : Params) : Obj := ⟨(.type "tuple"), none, (.seq #[] 0), #[]⟩
noncomputable def o151_28 (P : Params) : Obj := ⟨(.type "dict"), none, (.dict #[en P "__module__" 376 (.str (zs "pdfminer.pdfexceptions") 351), en P "__firstlineno__" 380 (.int 76 379), en P "__static_attributes__" 381 (.ref 150), en P "__doc__" 382 .none] 2), #[]⟩
noncomputable def o152_28 (P : Params) : Obj := ⟨(.type "type"), none, (.cls ⟨(zs "PDFTypeError"), [(.ref 140), (.type "TypeError")], [(.ref 152), (.ref 140), (.ref 127), (.type "TypeError"), (.type "Exception"), (.type "BaseException"), (.type "object")], 151, (zs "PDFTypeError"), true, [], [], false, none, false⟩), #[some (.ref 143), none, some (.str (zs "PDFTypeError") 369), some (.str (zs "PDFTypeError") 377), some (.builtin "Exception.__new__"), some (.bool true)]⟩
noncomputable def o153_28 (P : Params) : Obj := ⟨(.type "super"), none, (.fields #[(.ref 152), (.ref 152), (.ref 152)]), #[]⟩
noncomputable def o154_28 (P : Params) : Obj := ⟨(.type "builtin_function_or_method"), none, (.fields #[(.builtin "object.__init_subclass__"), (.ref 152)]), #[]⟩
noncomputable def o155_28 (P : Params) : Obj := ⟨(.type "tuple"), none, (.seq #[(.ref 140), (.type "ValueError")] 0), #[]⟩
noncomputable def o156_28 (P : Params) : Obj := ⟨(.type "builtin_function_or_method"), none, (.fields #[(.builtin "type.__prepare__"), (.type "type")]), #[]⟩
noncomputable def o157_28 (P : Params) : Obj := ⟨(.type "dict"), none, (.dict #[en P "__module__" 394 (.str (zs "pdfminer.pdfexceptions") 351), en P "__qualname__" 396 (.str (zs "PDFValueError") 395), en P "__firstlineno__" 398 (.int 78 397), en P "__static_attributes__" 399 (.ref 162)] 4), #[]⟩
noncomputable def o158_28 (P : Params) : Obj := ⟨(.type "tuple"), none, (.seq #[] 0), #[]⟩
noncomputable def o159_28 (P : Params) : Obj := ⟨.none, none, (.fields #[]), #[]⟩
noncomputable def o160_28 (P : Params) : Obj := ⟨(.type "code"), none, (.fields #[(.str (zs "PDFValueError") 389), (.str (zs "PDFValueError") 390), (.str (zs "/claim/cut.py") 391), (.int 78 0), (.int 0 0), (.int 0 0), (.int 0 0), (.int 0 0), (.ref 158), (.bool false), (.int 181 0), (.ref 159), .none, .none, .none, .none, (.int 392 0), (.int 78 0), (.str (zs "/claim/cut.py") 393)]), #[]⟩
noncomputable def o161_28 (P : Params) : Obj := ⟨(.type "frame"), none, .plain, #[some (.ref 160), some (.ref 3), some (.ref 157), none, some (.str (zs "pdfminer.pdfexceptions") 351), none, some (.ref 0)]⟩
noncomputable def o162_28 (P : Params) : Obj := ⟨(.type "tuple"), none, (.seq #[] 0), #[]⟩
noncomputable def o163_28 (P : Params) : Obj := ⟨(.type "dict"), none, (.dict #[en P "__module__" 394 (.str (zs "pdfminer.pdfexceptions") 351), en P "__firstlineno__" 398 (.int 78 397), en P "__static_attributes__" 399 (.ref 162), en P "__doc__" 400 .none] 2), #[]⟩
noncomputable def o164_28 (P : Params) : Obj := ⟨(.type "type"), none, (.cls ⟨(zs "PDFValueError"), [(.ref 140), (.type "ValueError")], [(.ref 164), (.ref 140), (.ref 127), (.type "ValueError"), (.type "Exception"), (.type "BaseException"), (.type "object")], 163, (zs "PDFValueError"), true, [], [], false, none, false⟩), #[some (.ref 155), none, some (.str (zs "PDFValueError") 387), some (.str (zs "PDFValueError") 395), some (.builtin "Exception.__new__"), some (.bool true)]⟩
noncomputable def o165_28 (P : Params) : Obj := ⟨(.type "super"), none, (.fields #[(.ref 164), (.ref 164), (.ref 164)]), #[]⟩
noncomputable def o166_28 (P : Params) : Obj := ⟨(.type "builtin_function_or_method"), none, (.fields #[(.builtin "object.__init_subclass__"), (.ref 164)]), #[]⟩
noncomputable def o167_28 (P : Params) : Obj := ⟨(.type "tuple"), none, (.seq #[(.ref 140)] 0), #[]⟩
noncomputable def o168_28 (P : Params) : Obj := ⟨(.type "builtin_function_or_method"), none, (.fields #[(.builtin "type.__prepare__"), (.type "type")]), #[]⟩
noncomputable def o169_28 (P : Params) : Obj := ⟨(.type "dict"), none, (.dict #[en P "__module__" 410 (.str (zs "pdfminer.pdfexceptions") 351), en P "__qualname__" 412 (.str (zs "PDFObjectNotFound") 411), en P "__firstlineno__" 414 (.int 80 413), en P "__static_attributes__" 415 (.ref 174)] 4), #[]⟩
noncomputable def o170_28 (P : Params) : Obj := ⟨(.type "tuple"), none, (.seq #[] 0), #[]⟩
noncomputable def o171_28 (P : Params) : Obj := ⟨.none, none, (.fields #[]), #[]⟩
noncomputable def o172_28 (P : Params) : Obj := ⟨(.type "code"), none, (.fields #[(.str (zs "PDFObjectNotFound") 405), (.str (zs "PDFObjectNotFound") 406), (.str (zs "/claim/cut.py") 407), (.int 80 0), (.int 0 0), (.int 0 0), (.int 0 0), (.int 0 0), (.ref 170), (.bool false), (.int 181 0), (.ref 171), .none, .none, .none, .none, (.int 408 0), (.int 80 0), (.str (zs "/claim/cut.py") 409)]), #[]⟩
noncomputable def o173_28 (P : Params) : Obj := ⟨(.type "frame"), none, .plain, #[some (.ref 172), some (.ref 3), some (.ref 169), none, some (.str (zs "pdfminer.pdfexceptions") 351), none, some (.ref 0)]⟩
noncomputable def o174_28 (P : Params) : Obj := ⟨(.type "tuple"), none, (.seq #[] 0), #[]⟩
noncomputable def o175_28 (P : Params) : Obj := ⟨(.type "dict"), none, (.dict #[en P "__module__" 410 (.str (zs "pdfminer.pdfexceptions") 351), en P "__firstlineno__" 414 (.int 80 413), en P "__static_attributes__" 415 (.ref 174), en P "__doc__" 416 .none] 2), #[]⟩
noncomputable def o176_28 (P : Params) : Obj := ⟨(.type "type"), none, (.cls ⟨(zs "PDFObjectNotFound"), [(.ref 140)], [(.ref 176), (.ref 140), (.ref 127), (.type "Exception"), (.type "BaseException"), (.type "object")], 175, (zs "PDFObjectNotFound"), true, [], [], false, none, false⟩), #[some (.ref 167), none, some (.str (zs "PDFObjectNotFound") 403), some (.str (zs "PDFObjectNotFound") 411), some (.builtin "Exception.__new__"), some (.bool true)]⟩
noncomputable def o177_28 (P : Params) : Obj := ⟨(.type "super"), none, (.fields #[(.ref 176), (.ref 176), (.ref 176)]), #[]⟩
noncomputable def o178_28 (P : Params) : Obj := ⟨(.type "builtin_function_or_method"), none, (.fields #[(.builtin "object.__init_subclass__"), (.ref 176)]), #[]⟩
noncomputable def o179_28 (P : Params) : Obj := ⟨(.type "tuple"), none, (.seq #[(.ref 140), (.type "NotImplementedError")] 0), #[]⟩
noncomputable def o180_28 (P : Params) : Obj := ⟨(.type "builtin_function_or_method"), none, (.fields #[(.builtin "type.__prepare__"), (.type "type")]), #[]⟩
noncomputable def o181_28 (P : Params) : Obj := ⟨(.type "dict"), none, (.dict #[en P "__module__" 426 (.str (zs "pdfminer.pdfexceptions") 351), en P "__qualname__" 428 (.str (zs "PDFNotImplementedError") 427), en P "__firstlineno__" 430 (.int 82 429), en P "__static_attributes__" 431 (.ref 186)] 4), #[]⟩
noncomputable def o182_28 (P : Params) : Obj := ⟨(.type "tuple"), none, (.seq #[] 0), #[]⟩
noncomputable def o183_28 (P : Params) : Obj := ⟨.none, none, (.fields #[]), #[]⟩
noncomputable def o184_28 (P : Params) : Obj := ⟨(.type "code"), none, (.fields #[(.str (zs "PDFNotImplementedError") 421), (.str (zs "PDFNotImplementedError") 422), (.str (zs "/claim/cut.py") 423), (.int 82 0), (.int 0 0), (.int 0 0), (.int 0 0), (.int 0 0), (.ref 182), (.bool false), (.int 181 0), (.ref 183), .none, .none, .none, .none, (.int 424 0), (.int 82 0), (.str (zs "/claim/cut.py") 425)]), #[]⟩
noncomputable def o185_28 (P : Params) : Obj := ⟨(.type "frame"), none, .plain, #[some (.ref 184), some (.ref 3), some (.ref 181), none, some (.str (zs "pdfminer.pdfexceptions") 351), none, some (.ref 0)]⟩
noncomputable def o186_28 (P : Params) : Obj := ⟨(.type "tuple"), none, (.seq #[] 0), #[]⟩
noncomputable def o187_28 (P : Params) : Obj := ⟨(.type "dict"), none, (.dict #[en P "__module__" 426 (.str (zs "pdfminer.pdfexceptions") 351), en P "__firstlineno__" 430 (.int 82 429), en P "__static_attributes__" 431 (.ref 186), en P "__doc__" 432 .none] 2), #[]⟩
noncomputable def o188_28 (P : Params) : Obj := ⟨(.type "type"), none, (.cls ⟨(zs "PDFNotImplementedError"), [(.ref 140), (.type "NotImplementedError")], [(.ref 188), (.ref 140), (.ref 127), (.type "NotImplementedError"), (.type "RuntimeError"), (.type "Exception"), (.type "BaseException"), (.type "object")], 187, (zs "PDFNotImplementedError"), true, [], [], false, none, false⟩), #[some (.ref 179), none, some (.str (zs "PDFNotImplementedError") 419), some (.str (zs "PDFNotImplementedError") 427), some (.builtin "Exception.__new__"), some (.bool true)]⟩
noncomputable def o189_28 (P : Params) : Obj := ⟨(.type "super"), none, (.fields #[(.ref 188), (.ref 188), (.ref 188)]), #[]⟩
noncomputable def o190_28 (P : Params) : Obj := ⟨(.type "builtin_function_or_method"), none, (.fields #[(.builtin "object.__init_subclass__"), (.ref 188)]), #[]⟩
noncomputable def o191_28 (P : Params) : Obj := ⟨(.type "tuple"), none, (.seq #[(.ref 140), (.type "KeyError")] 0), #[]⟩
noncomputable def o192_28 (P : Params) : Obj := ⟨(.type "builtin_function_or_method"), none, (.fields #[(.builtin "type.__prepare__"), (.type "type")]), #[]⟩
noncomputable def o193_28 (P : Params) : Obj := ⟨(.type "dict"), none, (.dict #[en P "__module__" 444 (.str (zs "pdfminer.pdfexceptions") 351), en P "__qualname__" 446 (.str (zs "PDFKeyError") 445), en P "__firstlineno__" 448 (.int 84 447), en P "__static_attributes__" 449 (.ref 198)] 4), #[]⟩
noncomputable def o194_28 (P : Params) : Obj := ⟨(.type "tuple"), none, (.seq #[] 0), #[]⟩
noncomputable def o195_28 (P : Params) : Obj := ⟨.none, none, (.fields #[]), #[]⟩
noncomputable def o196_28 (P : Params) : Obj := ⟨(.type "code"), none, (.fields #[(.str (zs "PDFKeyError") 439), (.str (zs "PDFKeyError") 440), (.str (zs "/claim/cut.py") 441), (.int 84 0), (.int 0 0), (.int 0 0), (.int 0 0), (.int 0 0), (.ref 194), (.bool false), (.int 181 0), (.ref 195), .none, .none, .none, .none, (.int 442 0), (.int 84 0), (.str (zs "/claim/cut.py") 443)]), #[]⟩
noncomputable def o197_28 (P : Params) : Obj := ⟨(.type "frame"), none, .plain, #[some (.ref 196), some (.ref 3), some (.ref 193), none, some (.str (zs "pdfminer.pdfexceptions") 351), none, some (.ref 0)]⟩
noncomputable def o198_28 (P : Params) : Obj := ⟨(.type "tuple"), none, (.seq #[] 0), #[]⟩
noncomputable def o199_28 (P : Params) : Obj := ⟨(.type "dict"), none, (.dict #[en P "__module__" 444 (.str (zs "pdfminer.pdfexceptions") 351), en P "__firstlineno__" 448 (.int 84 447), en P "__static_attributes__" 449 (.ref 198), en P "__doc__" 450 .none] 2), #[]⟩
noncomputable def o200_28 (P : Params) : Obj := ⟨(.type "type"), none, (.cls ⟨(zs "PDFKeyError"), [(.ref 140), (.type "KeyError")], [(.ref 200), (.ref 140), (.ref 127), (.type "KeyError"), (.type "LookupError"), (.type "Exception"), (.type "BaseException"), (.type "object")], 199, (zs "PDFKeyError"), true, [], [], false, none, false⟩), #[some (.ref 191), none, some (.str (zs "PDFKeyError") 437), some (.str (zs "PDFKeyError") 445), some (.builtin "Exception.__new__"), some (.bool true)]⟩
noncomputable def o201_28 (P : Params) : Obj := ⟨(.type "super"), none, (.fields #[(.ref 200), (.ref 200), (.ref 200)]), #[]⟩
noncomputable def o202_28 (P : Params) : Obj := ⟨(.type "builtin_function_or_method"), none, (.fields #[(.builtin "object.__init_subclass__"), (.ref 200)]), #[]⟩
noncomputable def o203_28 (P : Params) : Obj := ⟨(.type "tuple"), none, (.seq #[(.ref 140), (.type "EOFError")] 0), #[]⟩
noncomputable def o204_28 (P : Params) : Obj := ⟨(.type "builtin_function_or_method"), none, (.fields #[(.builtin "type.__prepare__"), (.type "type")]), #[]⟩
noncomputable def o205_28 (P : Params) : Obj := ⟨(.type "dict"), none, (.dict #[en P "__module__" 462 (.str (zs "pdfminer.pdfexceptions") 351), en P "__qualname__" 464 (.str (zs "PDFEOFError") 463), en P "__firstlineno__" 466 (.int 86 465), en P "__static_attributes__" 467 (.ref 210)] 4), #[]⟩
noncomputable def o206_28 (P : Params) : Obj := ⟨(.type "tuple"), none, (.seq #[] 0), #[]⟩
noncomputable def o207_28 (P : Params) : Obj := ⟨.none, none, (.fields #[]), #[]⟩
noncomputable def o208_28 (P : Params) : Obj := ⟨(.type "code"), none, (.fields #[(.str (zs "PDFEOFError") 457), (.str (zs "PDFEOFError") 458), (.str (zs "/claim/cut.py") 459), (.int 86 0), (.int 0 0), (.int 0 0), (.int 0 0), (.int 0 0), (.ref 206), (.bool false), (.int 181 0), (.ref 207), .none, .none, .none, .none, (.int 460 0), (.int 86 0), (.str (zs "/claim/cut.py") 461)]), #[]⟩
noncomputable def o209_28 (P : Params) : Obj := ⟨(.type "frame"), none, .plain, #[some (.ref 208), some (.ref 3), some (.ref 205), none, some (.str (zs "pdfminer.pdfexceptions") 351), none, some (.ref 0)]⟩
noncomputable def o210_28 (P : Params) : Obj := ⟨(.type "tuple"), none, (.seq #[] 0), #[]⟩
noncomputable def o211_28 (P : Params) : Obj := ⟨(.type "dict"), none, (.dict #[en P "__module__" 462 (.str (zs "pdfminer.pdfexceptions") 351), en P "__firstlineno__" 466 (.int 86 465), en P "__static_attributes__" 467 (.ref 210), en P "__doc__" 468 .none] 2), #[]⟩
noncomputable def o212_28 (P : Params) : Obj := ⟨(.type "type"), none, (.cls ⟨(zs "PDFEOFError"), [(.ref 140), (.type "EOFError")], [(.ref 212), (.ref 140), (.ref 127), (.type "EOFError"), (.type "Exception"), (.type "BaseException"), (.type "object")], 211, (zs "PDFEOFError"), true, [], [], false, none, false⟩), #[some (.ref 203), none, some (.str (zs "PDFEOFError") 455), some (.str (zs "PDFEOFError") 463), some (.builtin "Exception.__new__"), some (.bool true)]⟩
noncomputable def o213_28 (P : Params) : Obj := ⟨(.type "super"), none, (.fields #[(.ref 212), (.ref 212), (.ref 212)]), #[]⟩
noncomputable def o214_28 (P : Params) : Obj := ⟨(.type "builtin_function_or_method"), none, (.fields #[(.builtin "object.__init_subclass__"), (.ref 212)]), #[]⟩
noncomputable def o215_28 (P : Params) : Obj := ⟨(.type "tuple"), none, (.seq #[] 0), #[]⟩
noncomputable def o216_28 (P : Params) : Obj := ⟨.none, none, (.fields #[]), #[]⟩
noncomputable def o217_28 (P : Params) : Obj := ⟨(.type "tuple"), none, (.seq #[(.str (zs "data") 478)] 0), #[]⟩
noncomputable def o218_28 (P : Params) : Obj := ⟨(.type "tuple"), none, (.seq #[] 0), #[]⟩
noncomputable def o219_28 (P : Params) : Obj := ⟨.none, none, (.func (fd (st 26) (zs "get_bytes") 0 .none .none .none .none none .none .none 0)), #[]⟩
noncomputable def o220_28 (P : Params) : Obj := ⟨(.type "code"), none, (.fields #[(.str (zs "get_bytes") 475), (.str (zs "get_bytes") 476), (.str (zs "/claim/cut.py") 477), (.int 89 0), (.int 1 0), (.int 0 0), (.int 0 0), (.int 35 0), (.ref 215), (.bool true), (.int 181 0), (.ref 216), .none, (.ref 217), (.ref 218), (.ref 219), (.int 479 0), (.int 89 0), (.str (zs "/claim/cut.py") 480)]), #[]⟩
noncomputable def o221_28 (P : Params) : Obj := ⟨(.type "function"), none, (.func (fd (st 26) (zs "get_bytes") 3 .none .none .none (.str (zs "pdfminer.ccitt") 473) none (.ref 220) .none 0)), #[]⟩
noncomputable def o222_28 (P : Params) : Obj := ⟨(.type "tuple"), none, (.seq #[] 0), #[]⟩
noncomputable def o223_28 (P : Params) : Obj := ⟨(.type "builtin_function_or_method"), none, (.fields #[(.builtin "type.__prepare__"), (.type "type")]), #[]⟩
noncomputable def o224_28 (P : Params) : Obj := ⟨(.type "dict"), none, (.dict #[en P "__module__" 489 (.str (zs "pdfminer.ccitt") 473), en P "__qualname__" 491 (.str (zs "BitParser") 490), en P "__firstlineno__" 493 (.int 91 492), en P "__init__" 500 (.ref 235), en P "add" 522 (.ref 244), en P "feedbytes" 532 (.ref 252), en P "_parse_bit" 541 (.ref 259), en P "__static_attributes__" 544 (.ref 260)] 8), #[]⟩
noncomputable def o225_28 (P : Params) : Obj := ⟨(.type "tuple"), none, (.seq #[] 0), #[]⟩
noncomputable def o226_28 (P : Params) : Obj := ⟨.none, none, (.fields #[(.int 93 0), (.int 4 0), (.ref 234), (.int 97 0), (.int 4 0), (.ref 241), (.int 100 0), (.int 4 0), (.ref 251), (.int 105 0), (.int 4 0), (.ref 258)]), #[]⟩
noncomputable def o227_28 (P : Params) : Obj := ⟨(.type "code"), none, (.fields #[(.str (zs "BitParser") 484), (.str (zs "BitParser") 485), (.str (zs "/claim/cut.py") 486), (.int 91 0), (.int 0 0), (.int 0 0), (.int 0 0), (.int 0 0), (.ref 225), (.bool false), (.int 181 0), (.ref 226), .none, .none, .none, .none, (.int 487 0), (.int 91 0), (.str (zs "/claim/cut.py") 488)]), #[]⟩
noncomputable def o228_28 (P : Params) : Obj := ⟨(.type "frame"), none, .plain, #[some (.ref 227), some (.ref 3), some (.ref 224), none, some (.str (zs "pdfminer.ccitt") 473), none, some (.ref 0)]⟩
noncomputable def o229_28 (P : Params) : Obj := ⟨(.type "tuple"), none, (.seq #[] 0), #[]⟩
noncomputable def o230_28 (P : Params) : Obj := ⟨.none, none, (.fields #[]), #[]⟩
noncomputable def o231_28 (P : Params) : Obj := ⟨(.type "tuple"), none, (.seq #[(.str (zs "self") 497)] 0), #[]⟩
noncomputable def o232_28 (P : Params) : Obj := ⟨(.type "tuple"), none, (.seq #[] 0), #[]⟩
noncomputable def o233_28 (P : Params) : Obj := ⟨.none, none, (.func (fd (sc 27 0) (zs "BitParser.__init__") 0 .none .none .none .none none .none .none 0)), #[]⟩
noncomputable def o234_28 (P : Params) : Obj := ⟨(.type "code"), none, (.fields #[(.str (zs "__init__") 494), (.str (zs "BitParser.__init__") 495), (.str (zs "/claim/cut.py") 496), (.int 93 0), (.int 1 0), (.int 0 0), (.int 0 0), (.int 3 0), (.ref 229), (.bool true), (.int 181 0), (.ref 230), .none, (.ref 231), (.ref 232), (.ref 233), (.int 498 0), (.int 93 0), (.str (zs "/claim/cut.py") 499)]), #[]⟩
noncomputable def o235_28 (P : Params) : Obj := ⟨(.type "function"), none, (.func (fd (sc 27 0) (zs "BitParser.__init__") 3 .none .none .none (.str (zs "pdfminer.ccitt") 473) none (.ref 234) .none 0)), #[]⟩
noncomputable def o236_28 (P : Params) : Obj := ⟨(.type "tuple"), none, (.seq #[] 0), #[]⟩
noncomputable def o237_28 (P : Params) : Obj := ⟨.none, none, (.fields #[]), #[]⟩
noncomputable def o238_28 (P : Params) : Obj := ⟨(.type "tuple"), none, (.seq #[(.str (zs "cls") 504), (.str (zs "root") 505), (.str (zs "v") 506), (.str (zs "bits") 507)] 0), #[]⟩
noncomputable def o239_28 (P : Params) : Obj := ⟨(.type "tuple"), none, (.seq #[] 0), #[]⟩
noncomputable def o240_28 (P : Params) : Obj := ⟨.none, none, (.func (fd (sc 27 1) (zs "BitParser.add") 0 .none .none .none .none none .none .none 0)), #[]⟩
noncomputable def o241_28 (P : Params) : Obj := ⟨(.type "code"), none, (.fields #[(.str (zs "add") 501), (.str (zs "BitParser.add") 502), (.str (zs "/claim/cut.py") 503), (.int 96 0), (.int 4 0), (.int 0 0), (.int 0 0), (.int 3 0), (.ref 236), (.bool true), (.int 181 0), (.ref 237), .none, (.ref 238), (.ref 239), (.ref 240), (.int 508 0), (.int 96 0), (.str (zs "/claim/cut.py") 509)]), #[]⟩
noncomputable def o242_28 (P : Params) : Obj := ⟨(.type "function"), none, (.func (fd (sc 27 1) (zs "BitParser.add") 3 .none .none .none (.str (zs "pdfminer.ccitt") 473) (some 245) (.ref 241) .none 0)), #[]⟩
noncomputable def o243_28 (P : Params) : Obj := ⟨(.type "dict"), none, (.dict #[en P "__module__" 511 (.str (zs "pdfminer.ccitt") 473), en P "__name__" 514 (.str (zs "add") 513), en P "__qualname__" 517 (.str (zs "BitParser.add") 516), en P "__doc__" 519 .none, en P "__annotations__" 521 (.ref 245)] 5), #[]⟩
noncomputable def o244_28 (P : Params) : Obj := ⟨(.type "classmethod"), (some 243), (.fields #[(.ref 242), (.bool false)]), #[]⟩
noncomputable def o245_28 (P : Params) : Obj := ⟨(.type "dict"), none, (.dict #[] 0), #[]⟩
noncomputable def o246_28 (P : Params) : Obj := ⟨(.type "tuple"), none, (.seq #[] 0), #[]⟩
noncomputable def o247_28 (P : Params) : Obj := ⟨.none, none, (.fields #[]), #[]⟩
noncomputable def o248_28 (P : Params) : Obj := ⟨(.type "tuple"), none, (.seq #[(.str (zs "self") 526), (.str (zs "data") 527), (.str (zs "byte") 528), (.str (zs "m") 529)] 0), #[]⟩
noncomputable def o249_28 (P : Params) : Obj := ⟨(.type "tuple"), none, (.seq #[] 0), #[]⟩
noncomputable def o250_28 (P : Params) : Obj := ⟨.none, none, (.func (fd (sc 27 2) (zs "BitParser.feedbytes") 0 .none .none .none .none none .none .none 0)), #[]⟩
noncomputable def o251_28 (P : Params) : Obj := ⟨(.type "code"), none, (.fields #[(.str (zs "feedbytes") 523), (.str (zs "BitParser.feedbytes") 524), (.str (zs "/claim/cut.py") 525), (.int 100 0), (.int 2 0), (.int 0 0), (.int 0 0), (.int 3 0), (.ref 246), (.bool true), (.int 181 0), (.ref 247), .none, (.ref 248), (.ref 249), (.ref 250), (.int 530 0), (.int 100 0), (.str (zs "/claim/cut.py") 531)]), #[]⟩
noncomputable def o252_28 (P : Params) : Obj := ⟨(.type "function"), none, (.func (fd (sc 27 2) (zs "BitParser.feedbytes") 3 .none .none .none (.str (zs "pdfminer.ccitt") 473) none (.ref 251) .none 0)), #[]⟩
noncomputable def o253_28 (P : Params) : Obj := ⟨(.type "tuple"), none, (.seq #[] 0), #[]⟩
noncomputable def o254_28 (P : Params) : Obj := ⟨.none, none, (.fields #[]), #[]⟩
noncomputable def o255_28 (P : Params) : Obj := ⟨(.type "tuple"), none, (.seq #[(.str (zs "self") 536), (.str (zs "x") 537), (.str (zs "v") 538)] 0), #[]⟩
noncomputable def o256_28 (P : Params) : Obj := ⟨(.type "tuple"), none, (.seq #[] 0), #[]⟩
noncomputable def o257_28 (P : Params) : Obj := ⟨.none, none, (.func (fd (sc 27 3) (zs "BitParser._parse_bit") 0 .none .none .none .none none .none .none 0)), #[]⟩
noncomputable def o258_28 (P : Params) : Obj := ⟨(.type "code"), none, (.fields #[(.str (zs "_parse_bit") 533), (.str (zs "BitParser._parse_bit") 534), (.str (zs "/claim/cut.py") 535), (.int 105 0), (.int 2 0), (.int 0 0), (.int 0 0), (.int 3 0), (.ref 253), (.bool true), (.int 181 0), (.ref 254), .none, (.ref 255), (.ref 256), (.ref 257), (.int 539 0), (.int 105 0), (.str (zs "/claim/cut.py") 540)]), #[]⟩
noncomputable def o259_28 (P : Params) : Obj := ⟨(.type "function"), none, (.func (fd (sc 27 3) (zs "BitParser._parse_bit") 3 .none .none .none (.str (zs "pdfminer.ccitt") 473) none (.ref 258) .none 0)), #[]⟩
noncomputable def o260_28 (P : Params) : Obj := ⟨(.type "tuple"), none, (.seq #[(.str (zs "_pos") 542), (.str (zs "_state") 543)] 0), #[]⟩
noncomputable def o261_28 (P : Params) : Obj := ⟨(.type "dict"), none, (.dict #[en P "__module__" 489 (.str (zs "pdfminer.ccitt") 473), en P "__firstlineno__" 493 (.int 91 492), en P "__init__" 500 (.ref 235), en P "add" 522 (.ref 244), en P "feedbytes" 532 (.ref 252), en P "_parse_bit" 541 (.ref 259), en P "__static_attributes__" 544 (.ref 260), en P "__dict__" 546 (.ref 263), en P "__weakref__" 548 (.ref 264), en P "__doc__" 549 .none] 4), #[]⟩
noncomputable def o262_28 (P : Params) : Obj := ⟨(.type "type"), none, (.cls ⟨(zs "BitParser"), [(.type "object")], [(.ref 262), (.type "object")], 261, (zs "BitParser"), true, [], [], false, none, false⟩), #[none, none, some (.str (zs "BitParser") 482), some (.str (zs "BitParser") 490), some (.builtin "object.__new__"), some (.bool true)]⟩
noncomputable def o263_28 (P : Params) : Obj := ⟨(.type "getset_descriptor"), none, (.fields #[(.str (zs "__dict__") 545), (.ref 262), (.builtin "function.__dict__"), (.builtin "function.__dict__#set")]), #[]⟩
noncomputable def o264_28 (P : Params) : Obj := ⟨(.type "getset_descriptor"), none, (.fields #[(.str (zs "__weakref__") 547), (.ref 262), (.builtin "ExceptionGroup.__weakref__"), .none]), #[]⟩
noncomputable def o265_28 (P : Params) : Obj := ⟨(.type "super"), none, (.fields #[(.ref 262), (.ref 262), (.ref 262)]), #[]⟩
noncomputable def o266_28 (P : Params) : Obj := ⟨(.type "builtin_function_or_method"), none, (.fields #[(.builtin "object.__init_subclass__"), (.ref 262)]), #[]⟩
noncomputable def T28 (P : Params) : BT := (.node (o0_0 P) (.node (o1_0 P) (.node (o3_28 P) (.node (o7_0 P) (.node (o15_6 P) (.node (o31_6 P) (.node (o63_6 P) (.node (o127_28 P) (.node (o255_28 P) .nil .nil) .nil) (.node (o191_28 P) .nil .nil)) (.node (o95_28 P) (.node (o159_28 P) .nil .nil) (.node (o223_28 P) .nil .nil))) (.node (o47_6 P) (.node (o79_28 P) (.node (o143_28 P) .nil .nil) (.node (o207_28 P) .nil .nil)) (.node (o111_28 P) (.node (o175_28 P) .nil .nil) (.node (o239_28 P) .nil .nil)))) (.node (o23_6 P) (.node (o39_6 P) (.node (o71_6 P) (.node (o135_28 P) (.node (o263_28 P) .nil .nil) .nil) (.node (o199_28 P) .nil .nil)) (.node (o103_28 P) (.node (o167_28 P) .nil .nil) (.node (o231_28 P) .nil .nil))) (.node (o55_6 P) (.node (o87_28 P) (.node (o151_28 P) .nil .nil) (.node (o215_28 P) .nil .nil)) (.node (o119_28 P) (.node (o183_28 P) .nil .nil) (.node (o247_28 P) .nil .nil))))) (.node (o11_0 P) (.node (o19_6 P) (.node (o35_6 P) (.node (o67_6 P) (.node (o131_28 P) (.node (o259_28 P) .nil .nil) .nil) (.node (o195_28 P) .nil .nil)) (.node (o99_28 P) (.node (o163_28 P) .nil .nil) (.node (o227_28 P) .nil .nil))) (.node (o51_6 P) (.node (o83_28 P) (.node (o147_28 P) .nil .nil) (.node (o211_28 P) .nil .nil)) (.node (o115_28 P) (.node (o179_28 P) .nil .nil) (.node (o243_28 P) .nil .nil)))) (.node (o27_6 P) (.node (o43_6 P) (.node (o75_6 P) (.node (o139_28 P) .nil .nil) (.node (o203_28 P) .nil .nil)) (.node (o107_28 P) (.node (o171_28 P) .nil .nil) (.node (o235_28 P) .nil .nil))) (.node (o59_6 P) (.node (o91_28 P) (.node (o155_28 P) .nil .nil) (.node (o219_28 P) .nil .nil)) (.node (o123_28 P) (.node (o187_28 P) .nil .nil) (.node (o251_28 P) .nil .nil)))))) (.node (o5_0 P) (.node (o9_0 P) (.node (o17_6 P) (.node (o33_6 P) (.node (o65_6 P) (.node (o129_28 P) (.node (o257_28 P) .nil .nil) .nil) (.node (o193_28 P) .nil .nil)) (.node (o97_28 P) (.node (o161_28 P) .nil .nil) (.node (o225_28 P) .nil .nil))) (.node (o49_6 P) (.node (o81_28 P) (.node (o145_28 P) .nil .nil) (.node (o209_28 P) .nil .nil)) (.node (o113_28 P) (.node (o177_28 P) .nil .nil) (.node (o241_28 P) .nil .nil)))) (.node (o25_6 P) (.node (o41_6 P) (.node (o73_6 P) (.node (o137_28 P) (.node (o265_28 P) .nil .nil) .nil) (.node (o201_28 P) .nil .nil)) (.node (o105_28 P) (.node (o169_28 P) .nil .nil) (.node (o233_28 P) .nil .nil))) (.node (o57_6 P) (.node (o89_28 P) (.node (o153_28 P) .nil .nil) (.node (o217_28 P) .nil .nil)) (.node (o121_28 P) (.node (o185_28 P) .nil .nil) (.node (o249_28 P) .nil .nil))))) (.node (o13_0 P) (.node (o21_6 P) (.node (o37_6 P) (.node (o69_6 P) (.node (o133_28 P) (.node (o261_28 P) .nil .nil) .nil) (.node (o197_28 P) .nil .nil)) (.node (o101_28 P) (.node (o165_28 P) .nil .nil) (.node (o229_28 P) .nil .nil))) (.node (o53_6 P) (.node (o85_28 P) (.node (o149_28 P) .nil .nil) (.node (o213_28 P) .nil .nil)) (.node (o117_28 P) (.node (o181_28 P) .nil .nil) (.node (o245_28 P) .nil .nil)))) (.node (o29_6 P) (.node (o45_6 P) (.node (o77_28 P) (.node (o141_28 P) .nil .nil) (.node (o205_28 P) .nil .nil)) (.node (o109_28 P) (.node (o173_28 P) .nil .nil) (.node (o237_28 P) .nil .nil))) (.node (o61_6 P) (.node (o93_28 P) (.node (o157_28 P) .nil .nil) (.node (o221_28 P) .nil .nil)) (.node (o125_28 P) (.node (o189_28 P) .nil .nil) (.node (o253_28 P) .nil .nil))))))) (.node (o2_28 P) (.node (o4_0 P) (.node (o8_0 P) (.node (o16_6 P) (.node (o32_6 P) (.node (o64_6 P) (.node (o128_28 P) (.node (o256_28 P) .nil .nil) .nil) (.node (o192_28 P) .nil .nil)) (.node (o96_28 P) (.node (o160_28 P) .nil .nil) (.node (o224_28 P) .nil .nil))) (.node (o48_6 P) (.node (o80_28 P) (.node (o144_28 P) .nil .nil) (.node (o208_28 P) .nil .nil)) (.node (o112_28 P) (.node (o176_28 P) .nil .nil) (.node (o240_28 P) .nil .nil)))) (.node (o24_6 P) (.node (o40_6 P) (.node (o72_6 P) (.node (o136_28 P) (.node (o264_28 P) .nil .nil) .nil) (.node (o200_28 P) .nil .nil)) (.node (o104_28 P) (.node (o168_28 P) .nil .nil) (.node (o232_28 P) .nil .nil))) (.node (o56_6 P) (.node (o88_28 P) (.node (o152_28 P) .nil .nil) (.node (o216_28 P) .nil .nil)) (.node (o120_28 P) (.node (o184_28 P) .nil .nil) (.node (o248_28 P) .nil .nil))))) (.node (o12_28 P) (.node (o20_6 P) (.node (o36_6 P) (.node (o68_6 P) (.node (o132_28 P) (.node (o260_28 P) .nil .nil) .nil) (.node (o196_28 P) .nil .nil)) (.node (o100_28 P) (.node (o164_28 P) .nil .nil) (.node (o228_28 P) .nil .nil))) (.node (o52_6 P) (.node (o84_28 P) (.node (o148_28 P) .nil .nil) (.node (o212_28 P) .nil .nil)) (.node (o116_28 P) (.node (o180_28 P) .nil .nil) (.node (o244_28 P) .nil .nil)))) (.node (o28_6 P) (.node (o44_6 P) (.node (o76_6 P) (.node (o140_28 P) .nil .nil) (.node (o204_28 P) .nil .nil)) (.node (o108_28 P) (.node (o172_28 P) .nil .nil) (.node (o236_28 P) .nil .nil))) (.node (o60_6 P) (.node (o92_28 P) (.node (o156_28 P) .nil .nil) (.node (o220_28 P) .nil .nil)) (.node (o124_28 P) (.node (o188_28 P) .nil .nil) (.node (o252_28 P) .nil .nil)))))) (.node (o6_0 P) (.node (o10_0 P) (.node (o18_6 P) (.node (o34_6 P) (.node (o66_6 P) (.node (o130_28 P) (.node (o258_28 P) .nil .nil) .nil) (.node (o194_28 P) .nil .nil)) (.node (o98_28 P) (.node (o162_28 P) .nil .nil) (.node (o226_28 P) .nil .nil))) (.node (o50_6 P) (.node (o82_28 P) (.node (o146_28 P) .nil .nil) (.node (o210_28 P) .nil .nil)) (.node (o114_28 P) (.node (o178_28 P) .nil .nil) (.node (o242_28 P) .nil .nil)))) (.node (o26_6 P) (.node (o42_6 P) (.node (o74_6 P) (.node (o138_28 P) (.node (o266_28 P) .nil .nil) .nil) (.node (o202_28 P) .nil .nil)) (.node (o106_28 P) (.node (o170_28 P) .nil .nil) (.node (o234_28 P) .nil .nil))) (.node (o58_6 P) (.node (o90_28 P) (.node (o154_28 P) .nil .nil) (.node (o218_28 P) .nil .nil)) (.node (o122_28 P) (.node (o186_28 P) .nil .nil) (.node (o250_28 P) .nil .nil))))) (.node (o14_0 P) (.node (o22_6 P) (.node (o38_6 P) (.node (o70_6 P) (.node (o134_28 P) (.node (o262_28 P) .nil .nil) .nil) (.node (o198_28 P) .nil .nil)) (.node (o102_28 P) (.node (o166_28 P) .nil .nil) (.node (o230_28 P) .nil .nil))) (.node (o54_6 P) (.node (o86_28 P) (.node (o150_28 P) .nil .nil) (.node (o214_28 P) .nil .nil)) (.node (o118_28 P) (.node (o182_28 P) .nil .nil) (.node (o246_28 P) .nil .nil)))) (.node (o30_6 P) (.node (o46_6 P) (.node (o78_28 P) (.node (o142_28 P) .nil .nil) (.node (o206_28 P) .nil .nil)) (.node (o110_28 P) (.node (o174_28 P) .nil .nil) (.node (o238_28 P) .nil .nil))) (.node (o62_6 P) (.node (o94_28 P) (.node (o158_28 P) .nil .nil) (.node (o222_28 P) .nil .nil)) (.node (o126_28 P) (.node (o190_28 P) .nil .nil) (.node (o254_28 P) .nil .nil))))))))
-- boundary 28: objects 267 toks 552 steps so far 3262 pos { line := 91, col := 0, endLine := 112, endCol := 41 } life { } drawn { } gens 0
noncomputable def o2_41 (P : Params) : Obj := ⟨.none, none, (.dict #[en P "type.__subclasses__.Exception.0" 347 (.int 127 0), en P "type.__subclasses__.Exception.n" 348 (.int 1 0), en P "type.__subclasses__.TypeError.0" 383 (.int 152 0), en P "type.__subclasses__.TypeError.n" 384 (.int 1 0), en P "type.__subclasses__.NotImplementedError.0" 433 (.int 188 0), en P "type.__subclasses__.NotImplementedError.n" 434 (.int 1 0), en P "type.__subclasses__.KeyError.0" 451 (.int 200 0), en P "type.__subclasses__.KeyError.n" 452 (.int 1 0), en P "type.__subclasses__.EOFError.0" 469 (.int 212 0), en P "type.__subclasses__.EOFError.n" 470 (.int 1 0), en P "type.__subclasses__.OSError.0" 1194 (.int 810 0), en P "type.__subclasses__.OSError.n" 1195 (.int 1 0)] 12), #[]⟩
noncomputable def o3_41 (P : Params) : Obj := ⟨(.type "dict"), none, (.dict #[en P "__name__" 165 (.str (zs "io") 1158), en P "__doc__" 166 .none, en P "__package__" 167 .none, en P "__loader__" 168 (.builtin "__main__.__loader__#opaque"), en P "__spec__" 169 .none, en P "__annotations__" 170 (.ref 6), en P "__builtins__" 171 (.ref 4), en P "__file__" 173 (.str (zs "/claim/cut.py") 172), en P "__cached__" 174 .none, en P "_wall" 193 (.ref 21), en P "Signs" 249 (.ref 58), en P "cast" 257 (.ref 69), en P "bws_re" 268 (.ref 71), en P "Error" 288 (.ref 86), en P "_ascii_buffer" 296 (.ref 96), en P "_hex_value" 303 (.ref 103), en P "a2b_hex" 316 (.ref 110), en P "unhexlify" 317 (.ref 110), en P "asciihexdecode" 327 (.ref 117), en P "STRICT" 328 (.bool false), en P "PSException" 350 (.ref 127), en P "PDFException" 368 (.ref 140), en P "PDFTypeError" 386 (.ref 152), en P "PDFValueError" 402 (.ref 164), en P "PDFObjectNotFound" 418 (.ref 176), en P "PDFNotImplementedError" 436 (.ref 188), en P "PDFKeyError" 454 (.ref 200), en P "PDFEOFError" 472 (.ref 212), en P "get_bytes" 481 (.ref 221), en P "BitParser" 551 (.ref 262), en P "CCITTG4Parser" 1025 (.ref 693), en P "CCITTFaxDecoder" 1066 (.ref 725), en P "ccittfaxdecode" 1079 (.ref 734), en P "CorruptDataError" 1097 (.ref 744), en P "LZWDecoder" 1157 (.ref 782), en P "_whence" 1167 (.ref 793), en P "_index" 1175 (.ref 800), en P "UnsupportedOperation" 1197 (.ref 810), en P "IOBase" 1229 (.ref 830), en P "BufferedIOBase" 1247 (.ref 845), en P "TextIOBase" 1265 (.ref 857)] 41), #[]⟩
noncomputable def o12_41 (P : Params) : Obj := ⟨.none, none, (.fields #[(.int 1 0), (.int 0 0), (.ref 20), (.int 5 0), (.int 0 0), (.ref 27), (.int 18 0), (.int 0 0), (.ref 68), (.int 23 0), (.int 0 0), (.ref 82), (.int 25 0), (.int 0 0), (.ref 95), (.int 36 0), (.int 0 0), (.ref 102), (.int 44 0), (.int 0 0), (.ref 109), (.int 61 0), (.int 0 0), (.ref 116), (.int 71 0), (.int 0 0), (.ref 123), (.int 74 0), (.int 0 0), (.ref 136), (.int 76 0), (.int 0 0), (.ref 148), (.int 78 0), (.int 0 0), (.ref 160), (.int 80 0), (.int 0 0), (.ref 172), (.int 82 0), (.int 0 0), (.ref 184), (.int 84 0), (.int 0 0), (.ref 196), (.int 86 0), (.int 0 0), (.ref 208), (.int 89 0), (.int 0 0), (.ref 220), (.int 91 0), (.int 0 0), (.ref 227), (.int 113 0), (.int 0 0), (.ref 272), (.int 304 0), (.int 0 0), (.ref 701), (.int 322 0), (.int 0 0), (.ref 733), (.int 334 0), (.int 0 0), (.ref 740), (.int 336 0), (.int 0 0), (.ref 752), (.int 407 0), (.int 0 0), (.ref 792), (.int 412 0), (.int 0 0), (.ref 799), (.int 419 0), (.int 0 0), (.ref 806), (.int 421 0), (.int 0 0), (.ref 819), (.int 428 0), (.int 0 0), (.ref 841), (.int 430 0), (.int 0 0), (.ref 853)]), #[]⟩
noncomputable def o140_41 (P : Params) : Obj := ⟨(.type "type"), none, (.cls ⟨(zs "PDFException"), [(.ref 127)], [(.ref 140), (.ref 127), (.type "Exception"), (.type "BaseException"), (.type "object")], 139, (zs "PDFException"), true, [], [(.ref 152), (.ref 164), (.ref 176), (.ref 188), (.ref 200), (.ref 212), (.ref 539), (.ref 744)], false, none, false⟩), #[some (.ref 131), none, some (.str (zs "PDFException") 353), some (.str (zs "PDFException") 361), some (.builtin "Exception.__new__"), some (.bool true)]⟩
noncomputable def o262_41 (P : Params) : Obj := ⟨(.type "type"), none, (.cls ⟨(zs "BitParser"), [(.type "object")], [(.ref 262), (.type "object")], 261, (zs "BitParser"), true, [], [(.ref 693)], false, none, false⟩), #[none, none, some (.str (zs "BitParser") 482), some (.str (zs "BitParser") 490), some (.builtin "object.__new__"), some (.bool true)]⟩
noncomputable def o267_41 (P : Params) : Obj := ⟨(.type "tuple"), none, (.seq #[(.ref 262)] 0), #[]⟩
noncomputable def o268_41 (P : Params) : Obj := ⟨(.type "builtin_function_or_method"), none, (.fields #[(.builtin "type.__prepare__"), (.type "type")]), #[]⟩
noncomputable def o269_41 (P : Params) : Obj := ⟨(.type "dict"), none, (.dict #[en P "__module__" 559 (.str (zs "pdfminer.ccitt") 473), en P "__qualname__" 561 (.str (zs "CCITTG4Parser") 560), en P "__firstlineno__" 563 (.int 113 562), en P "MODE" 585 (.ref 307), en P "WHITE" 690 (.ref 411), en P "BLACK" 795 (.ref 515), en P "UNCOMPRESSED" 810 (.ref 529), en P "CCITTException" 826 (.ref 539), en P "EOFB" 842 (.ref 551), en P "InvalidData" 858 (.ref 563), en P "ByteSkip" 874 (.ref 575), en P "__init__" 883 (.ref 585), en P "feedbytes" 893 (.ref 592), en P "_parse_mode" 901 (.ref 599), en P "_parse_horiz1" 909 (.ref 606), en P "_parse_horiz2" 917 (.ref 613), en P "_parse_uncompressed" 925 (.ref 620), en P "_get_bits" 932 (.ref 627), en P "_get_refline" 940 (.ref 634), en P "reset" 947 (.ref 641), en P "output_line" 956 (.ref 648), en P "_reset_line" 963 (.ref 655), en P "_flush_line" 970 (.ref 662), en P "_do_vertical" 981 (.ref 669), en P "_do_pass" 990 (.ref 676), en P "_do_horizontal" 1001 (.ref 683), en P "_do_uncompressed" 1010 (.ref 690), en P "__static_attributes__" 1022 (.ref 691)] 28), #[]⟩
noncomputable def o270_41 (P : Params) : Obj := ⟨(.type "tuple"), none, (.seq #[] 0), #[]⟩
noncomputable def o271_41 (P : Params) : Obj := ⟨.none, none, (.fields #[(.int 119 0), (.int 4 0), (.ref 535), (.int 122 0), (.int 4 0), (.ref 547), (.int 125 0), (.int 4 0), (.ref 559), (.int 128 0), (.int 4 0), (.ref 571), (.int 131 0), (.int 4 0), (.ref 584), (.int 137 0), (.int 4 0), (.ref 591), (.int 148 0), (.int 4 0), (.ref 598), (.int 172 0), (.int 4 0), (.ref 605), (.int 185 0), (.int 4 0), (.ref 612), (.int 200 0), (.int 4 0), (.ref 619), (.int 212 0), (.int 4 0), (.ref 626), (.int 215 0), (.int 4 0), (.ref 633), (.int 218 0), (.int 4 0), (.ref 640), (.int 225 0), (.int 4 0), (.ref 647), (.int 228 0), (.int 4 0), (.ref 654), (.int 234 0), (.int 4 0), (.ref 661), (.int 242 0), (.int 4 0), (.ref 668), (.int 263 0), (.int 4 0), (.ref 675), (.int 283 0), (.int 4 0), (.ref 682), (.int 299 0), (.int 4 0), (.ref 689)]), #[]⟩
noncomputable def o272_41 (P : Params) : Obj := ⟨(.type "code"), none, (.fields #[(.str (zs "CCITTG4Parser") 554), (.str (zs "CCITTG4Parser") 555), (.str (zs "/claim/cut.py") 556), (.int 113 0), (.int 0 0), (.int 0 0), (.int 0 0), (.int 0 0), (.ref 270), (.bool false), (.int 181 0), (.ref 271), .none, .none, .none, .none, (.int 557 0), (.int 113 0), (.str (zs "/claim/cut.py") 558)]), #[]⟩
noncomputable def o273_41 (P : Params) : Obj := ⟨(.type "frame"), none, .plain, #[some (.ref 272), some (.ref 3), some (.ref 269), none, some (.str (zs "pdfminer.ccitt") 473), none, some (.ref 0)]⟩
noncomputable def o274_41 (P : Params) : Obj := ⟨(.type "list"), none, (.seq #[.none, (.str (zs "e") 564)] 0), #[]⟩
noncomputable def o275_41 (P : Params) : Obj := ⟨(.type "list"), none, (.seq #[(.ref 274), .none] 0), #[]⟩
noncomputable def o276_41 (P : Params) : Obj := ⟨(.type "list"), none, (.seq #[(.ref 275), .none] 0), #[]⟩
noncomputable def o277_41 (P : Params) : Obj := ⟨(.type "list"), none, (.seq #[(.ref 276), .none] 0), #[]⟩
noncomputable def o278_41 (P : Params) : Obj := ⟨(.type "list"), none, (.seq #[(.ref 277), .none] 0), #[]⟩
noncomputable def o279_41 (P : Params) : Obj := ⟨(.type "list"), none, (.seq #[(.ref 278), .none] 0), #[]⟩
noncomputable def o280_41 (P : Params) : Obj := ⟨(.type "list"), none, (.seq #[(.ref 279), .none] 0), #[]⟩
noncomputable def o281_41 (P : Params) : Obj := ⟨(.type "list"), none, (.seq #[(.ref 280), .none] 0), #[]⟩
noncomputable def o282_41 (P : Params) : Obj := ⟨(.type "list"), none, (.seq #[(.ref 281), .none] 0), #[]⟩
noncomputable def o283_41 (P : Params) : Obj := ⟨(.type "list"), none, (.seq #[(.ref 282), .none] 0), #[]⟩
noncomputable def o284_41 (P : Params) : Obj := ⟨(.type "list"), none, (.seq #[(.ref 283), .none] 0), #[]⟩
noncomputable def o285_41 (P : Params) : Obj := ⟨(.type "list"), none, (.seq #[(.ref 284), .none] 0), #[]⟩
noncomputable def o286_41 (P : Params) : Obj := ⟨(.type "list"), none, (.seq #[.none, (.ref 285)] 0), #[]⟩
noncomputable def o287_41 (P : Params) : Obj := ⟨(.type "list"), none, (.seq #[(.ref 286), .none] 0), #[]⟩
noncomputable def o288_41 (P : Params) : Obj := ⟨(.type "list"), none, (.seq #[(.ref 287), .none] 0), #[]⟩
noncomputable def o289_41 (P : Params) : Obj := ⟨(.type "list"), none, (.seq #[(.ref 288), .none] 0), #[]⟩
noncomputable def o290_41 (P : Params) : Obj := ⟨(.type "list"), none, (.seq #[(.ref 289), .none] 0), #[]⟩
noncomputable def o291_41 (P : Params) : Obj := ⟨(.type "list"), none, (.seq #[(.str (zs "x1") 565), (.str (zs "x2") 566)] 0), #[]⟩
noncomputable def o292_41 (P : Params) : Obj := ⟨(.type "list"), none, (.seq #[(.str (zs "x3") 567), (.str (zs "x4") 568)] 0), #[]⟩
noncomputable def o293_41 (P : Params) : Obj := ⟨(.type "list"), none, (.seq #[(.ref 291), (.ref 292)] 0), #[]⟩
noncomputable def o294_41 (P : Params) : Obj := ⟨(.type "list"), none, (.seq #[(.str (zs "x5") 569), (.str (zs "x6") 570)] 0), #[]⟩
noncomputable def o295_41 (P : Params) : Obj := ⟨(.type "list"), none, (.seq #[(.str (zs "x7") 571), (.str (zs "u") 572)] 0), #[]⟩
noncomputable def o296_41 (P : Params) : Obj := ⟨(.type "list"), none, (.seq #[(.ref 294), (.ref 295)] 0), #[]⟩
noncomputable def o297_41 (P : Params) : Obj := ⟨(.type "list"), none, (.seq #[(.ref 293), (.ref 296)] 0), #[]⟩
noncomputable def o298_41 (P : Params) : Obj := ⟨(.type "list"), none, (.seq #[(.ref 290), (.ref 297)] 0), #[]⟩
noncomputable def o299_41 (P : Params) : Obj := ⟨(.type "list"), none, (.seq #[(.int (-3) 574), (.int 3 575)] 0), #[]⟩
noncomputable def o300_41 (P : Params) : Obj := ⟨(.type "list"), none, (.seq #[(.ref 298), (.ref 299)] 0), #[]⟩
noncomputable def o301_41 (P : Params) : Obj := ⟨(.type "list"), none, (.seq #[(.int (-2) 577), (.int 2 578)] 0), #[]⟩
noncomputable def o302_41 (P : Params) : Obj := ⟨(.type "list"), none, (.seq #[(.ref 300), (.ref 301)] 0), #[]⟩
noncomputable def o303_41 (P : Params) : Obj := ⟨(.type "list"), none, (.seq #[(.ref 302), (.str (zs "p") 579)] 0), #[]⟩
noncomputable def o304_41 (P : Params) : Obj := ⟨(.type "list"), none, (.seq #[(.ref 303), (.str (zs "h") 580)] 0), #[]⟩
noncomputable def o305_41 (P : Params) : Obj := ⟨(.type "list"), none, (.seq #[(.int (-1) 582), (.int 1 583)] 0), #[]⟩
noncomputable def o306_41 (P : Params) : Obj := ⟨(.type "list"), none, (.seq #[(.ref 304), (.ref 305)] 0), #[]⟩
noncomputable def o307_41 (P : Params) : Obj := ⟨(.type "list"), none, (.seq #[(.ref 306), (.int 0 584)] 0), #[]⟩
noncomputable def o308_41 (P : Params) : Obj := ⟨(.type "list"), none, (.seq #[(.int 1984 587), (.int 2048 588)] 0), #[]⟩
noncomputable def o309_41 (P : Params) : Obj := ⟨(.type "list"), none, (.seq #[(.int 1792 586), (.ref 308)] 0), #[]⟩
noncomputable def o310_41 (P : Params) : Obj := ⟨(.type "list"), none, (.seq #[(.int 2112 589), (.int 2176 590)] 0), #[]⟩
noncomputable def o311_41 (P : Params) : Obj := ⟨(.type "list"), none, (.seq #[(.int 2240 591), (.int 2304 592)] 0), #[]⟩
noncomputable def o312_41 (P : Params) : Obj := ⟨(.type "list"), none, (.seq #[(.ref 310), (.ref 311)] 0), #[]⟩
noncomputable def o313_41 (P : Params) : Obj := ⟨(.type "list"), none, (.seq #[(.ref 309), (.ref 312)] 0), #[]⟩
noncomputable def o314_41 (P : Params) : Obj := ⟨(.type "list"), none, (.seq #[(.int 1856 593), (.int 1920 594)] 0), #[]⟩
noncomputable def o315_41 (P : Params) : Obj := ⟨(.type "list"), none, (.seq #[(.int 2368 595), (.int 2432 596)] 0), #[]⟩
noncomputable def o316_41 (P : Params) : Obj := ⟨(.type "list"), none, (.seq #[(.int 2496 597), (.int 2560 598)] 0), #[]⟩
noncomputable def o317_41 (P : Params) : Obj := ⟨(.type "list"), none, (.seq #[(.ref 315), (.ref 316)] 0), #[]⟩
noncomputable def o318_41 (P : Params) : Obj := ⟨(.type "list"), none, (.seq #[(.ref 314), (.ref 317)] 0), #[]⟩
noncomputable def o319_41 (P : Params) : Obj := ⟨(.type "list"), none, (.seq #[(.ref 313), (.ref 318)] 0), #[]⟩
noncomputable def o320_41 (P : Params) : Obj := ⟨(.type "list"), none, (.seq #[.none, (.ref 319)] 0), #[]⟩
noncomputable def o321_41 (P : Params) : Obj := ⟨(.type "list"), none, (.seq #[(.int 29 599), (.int 30 600)] 0), #[]⟩
noncomputable def o322_41 (P : Params) : Obj := ⟨(.type "list"), none, (.seq #[(.ref 320), (.ref 321)] 0), #[]⟩
noncomputable def o323_41 (P : Params) : Obj := ⟨(.type "list"), none, (.seq #[(.int 45 601), (.int 46 602)] 0), #[]⟩
noncomputable def o324_41 (P : Params) : Obj := ⟨(.type "list"), none, (.seq #[(.ref 323), (.int 22 603)] 0), #[]⟩
noncomputable def o325_41 (P : Params) : Obj := ⟨(.type "list"), none, (.seq #[(.ref 322), (.ref 324)] 0), #[]⟩
noncomputable def o326_41 (P : Params) : Obj := ⟨(.type "list"), none, (.seq #[(.int 47 605), (.int 48 606)] 0), #[]⟩
noncomputable def o327_41 (P : Params) : Obj := ⟨(.type "list"), none, (.seq #[(.int 23 604), (.ref 326)] 0), #[]⟩
noncomputable def o328_41 (P : Params) : Obj := ⟨(.type "list"), none, (.seq #[(.ref 327), (.int 13 607)] 0), #[]⟩
noncomputable def o329_41 (P : Params) : Obj := ⟨(.type "list"), none, (.seq #[(.ref 325), (.ref 328)] 0), #[]⟩
noncomputable def o330_41 (P : Params) : Obj := ⟨(.type "list"), none, (.seq #[(.int 33 609), (.int 34 610)] 0), #[]⟩
noncomputable def o331_41 (P : Params) : Obj := ⟨(.type "list"), none, (.seq #[(.int 20 608), (.ref 330)] 0), #[]⟩
noncomputable def o332_41 (P : Params) : Obj := ⟨(.type "list"), none, (.seq #[(.int 35 611), (.int 36 612)] 0), #[]⟩
noncomputable def o333_41 (P : Params) : Obj := ⟨(.type "list"), none, (.seq #[(.int 37 613), (.int 38 614)] 0), #[]⟩
noncomputable def o334_41 (P : Params) : Obj := ⟨(.type "list"), none, (.seq #[(.ref 332), (.ref 333)] 0), #[]⟩
noncomputable def o335_41 (P : Params) : Obj := ⟨(.type "list"), none, (.seq #[(.ref 331), (.ref 334)] 0), #[]⟩
noncomputable def o336_41 (P : Params) : Obj := ⟨(.type "list"), none, (.seq #[(.int 31 616), (.int 32 617)] 0), #[]⟩
noncomputable def o337_41 (P : Params) : Obj := ⟨(.type "list"), none, (.seq #[(.int 19 615), (.ref 336)] 0), #[]⟩
noncomputable def o338_41 (P : Params) : Obj := ⟨(.type "list"), none, (.seq #[(.ref 337), (.int 1 618)] 0), #[]⟩
noncomputable def o339_41 (P : Params) : Obj := ⟨(.type "list"), none, (.seq #[(.ref 335), (.ref 338)] 0), #[]⟩
noncomputable def o340_41 (P : Params) : Obj := ⟨(.type "list"), none, (.seq #[(.ref 329), (.ref 339)] 0), #[]⟩
noncomputable def o341_41 (P : Params) : Obj := ⟨(.type "list"), none, (.seq #[(.int 53 620), (.int 54 621)] 0), #[]⟩
noncomputable def o342_41 (P : Params) : Obj := ⟨(.type "list"), none, (.seq #[(.ref 341), (.int 26 622)] 0), #[]⟩
noncomputable def o343_41 (P : Params) : Obj := ⟨(.type "list"), none, (.seq #[(.int 12 619), (.ref 342)] 0), #[]⟩
noncomputable def o344_41 (P : Params) : Obj := ⟨(.type "list"), none, (.seq #[(.int 39 623), (.int 40 624)] 0), #[]⟩
noncomputable def o345_41 (P : Params) : Obj := ⟨(.type "list"), none, (.seq #[(.int 41 625), (.int 42 626)] 0), #[]⟩
noncomputable def o346_41 (P : Params) : Obj := ⟨(.type "list"), none, (.seq #[(.ref 344), (.ref 345)] 0), #[]⟩
noncomputable def o347_41 (P : Params) : Obj := ⟨(.type "list"), none, (.seq #[(.int 43 627), (.int 44 628)] 0), #[]⟩
noncomputable def o348_41 (P : Params) : Obj := ⟨(.type "list"), none, (.seq #[(.ref 347), (.int 21 629)] 0), #[]⟩
noncomputable def o349_41 (P : Params) : Obj := ⟨(.type "list"), none, (.seq #[(.ref 346), (.ref 348)] 0), #[]⟩
noncomputable def o350_41 (P : Params) : Obj := ⟨(.type "list"), none, (.seq #[(.ref 343), (.ref 349)] 0), #[]⟩
noncomputable def o351_41 (P : Params) : Obj := ⟨(.type "list"), none, (.seq #[(.int 61 631), (.int 62 632)] 0), #[]⟩
noncomputable def o352_41 (P : Params) : Obj := ⟨(.type "list"), none, (.seq #[(.int 28 630), (.ref 351)] 0), #[]⟩
noncomputable def o353_41 (P : Params) : Obj := ⟨(.type "list"), none, (.seq #[(.int 63 633), (.int 0 634)] 0), #[]⟩
noncomputable def o354_41 (P : Params) : Obj := ⟨(.type "list"), none, (.seq #[(.int 320 635), (.int 384 636)] 0), #[]⟩
noncomputable def o355_41 (P : Params) : Obj := ⟨(.type "list"), none, (.seq #[(.ref 353), (.ref 354)] 0), #[]⟩
noncomputable def o356_41 (P : Params) : Obj := ⟨(.type "list"), none, (.seq #[(.ref 352), (.ref 355)] 0), #[]⟩
noncomputable def o357_41 (P : Params) : Obj := ⟨(.type "list"), none, (.seq #[(.ref 356), (.int 10 637)] 0), #[]⟩
noncomputable def o358_41 (P : Params) : Obj := ⟨(.type "list"), none, (.seq #[(.ref 350), (.ref 357)] 0), #[]⟩
noncomputable def o359_41 (P : Params) : Obj := ⟨(.type "list"), none, (.seq #[(.ref 340), (.ref 358)] 0), #[]⟩
noncomputable def o360_41 (P : Params) : Obj := ⟨(.type "list"), none, (.seq #[(.int 59 640), (.int 60 641)] 0), #[]⟩
noncomputable def o361_41 (P : Params) : Obj := ⟨(.type "list"), none, (.seq #[(.int 27 639), (.ref 360)] 0), #[]⟩
noncomputable def o362_41 (P : Params) : Obj := ⟨(.type "list"), none, (.seq #[(.int 1472 642), (.int 1536 643)] 0), #[]⟩
noncomputable def o363_41 (P : Params) : Obj := ⟨(.type "list"), none, (.seq #[(.int 1600 644), (.int 1728 645)] 0), #[]⟩
noncomputable def o364_41 (P : Params) : Obj := ⟨(.type "list"), none, (.seq #[(.ref 362), (.ref 363)] 0), #[]⟩
noncomputable def o365_41 (P : Params) : Obj := ⟨(.type "list"), none, (.seq #[(.ref 364), (.int 18 646)] 0), #[]⟩
noncomputable def o366_41 (P : Params) : Obj := ⟨(.type "list"), none, (.seq #[(.ref 361), (.ref 365)] 0), #[]⟩
noncomputable def o367_41 (P : Params) : Obj := ⟨(.type "list"), none, (.seq #[(.int 11 638), (.ref 366)] 0), #[]⟩
noncomputable def o368_41 (P : Params) : Obj := ⟨(.type "list"), none, (.seq #[(.int 49 648), (.int 50 649)] 0), #[]⟩
noncomputable def o369_41 (P : Params) : Obj := ⟨(.type "list"), none, (.seq #[(.int 24 647), (.ref 368)] 0), #[]⟩
noncomputable def o370_41 (P : Params) : Obj := ⟨(.type "list"), none, (.seq #[(.int 51 650), (.int 52 651)] 0), #[]⟩
noncomputable def o371_41 (P : Params) : Obj := ⟨(.type "list"), none, (.seq #[(.ref 370), (.int 25 652)] 0), #[]⟩
noncomputable def o372_41 (P : Params) : Obj := ⟨(.type "list"), none, (.seq #[(.ref 369), (.ref 371)] 0), #[]⟩
noncomputable def o373_41 (P : Params) : Obj := ⟨(.type "list"), none, (.seq #[(.int 55 653), (.int 56 654)] 0), #[]⟩
noncomputable def o374_41 (P : Params) : Obj := ⟨(.type "list"), none, (.seq #[(.int 57 655), (.int 58 656)] 0), #[]⟩
noncomputable def o375_41 (P : Params) : Obj := ⟨(.type "list"), none, (.seq #[(.ref 373), (.ref 374)] 0), #[]⟩
noncomputable def o376_41 (P : Params) : Obj := ⟨(.type "list"), none, (.seq #[(.ref 375), (.int 192 657)] 0), #[]⟩
noncomputable def o377_41 (P : Params) : Obj := ⟨(.type "list"), none, (.seq #[(.ref 372), (.ref 376)] 0), #[]⟩
noncomputable def o378_41 (P : Params) : Obj := ⟨(.type "list"), none, (.seq #[(.ref 367), (.ref 377)] 0), #[]⟩
noncomputable def o379_41 (P : Params) : Obj := ⟨(.type "list"), none, (.seq #[(.int 448 659), (.int 512 660)] 0), #[]⟩
noncomputable def o380_41 (P : Params) : Obj := ⟨(.type "list"), none, (.seq #[(.int 704 661), (.int 768 662)] 0), #[]⟩
noncomputable def o381_41 (P : Params) : Obj := ⟨(.type "list"), none, (.seq #[(.ref 380), (.int 640 663)] 0), #[]⟩
noncomputable def o382_41 (P : Params) : Obj := ⟨(.type "list"), none, (.seq #[(.ref 379), (.ref 381)] 0), #[]⟩
noncomputable def o383_41 (P : Params) : Obj := ⟨(.type "list"), none, (.seq #[(.int 1664 658), (.ref 382)] 0), #[]⟩
noncomputable def o384_41 (P : Params) : Obj := ⟨(.type "list"), none, (.seq #[(.int 832 665), (.int 896 666)] 0), #[]⟩
noncomputable def o385_41 (P : Params) : Obj := ⟨(.type "list"), none, (.seq #[(.int 576 664), (.ref 384)] 0), #[]⟩
noncomputable def o386_41 (P : Params) : Obj := ⟨(.type "list"), none, (.seq #[(.int 960 667), (.int 1024 668)] 0), #[]⟩
noncomputable def o387_41 (P : Params) : Obj := ⟨(.type "list"), none, (.seq #[(.int 1088 669), (.int 1152 670)] 0), #[]⟩
noncomputable def o388_41 (P : Params) : Obj := ⟨(.type "list"), none, (.seq #[(.ref 386), (.ref 387)] 0), #[]⟩
noncomputable def o389_41 (P : Params) : Obj := ⟨(.type "list"), none, (.seq #[(.ref 385), (.ref 388)] 0), #[]⟩
noncomputable def o390_41 (P : Params) : Obj := ⟨(.type "list"), none, (.seq #[(.int 1216 671), (.int 1280 672)] 0), #[]⟩
noncomputable def o391_41 (P : Params) : Obj := ⟨(.type "list"), none, (.seq #[(.int 1344 673), (.int 1408 674)] 0), #[]⟩
noncomputable def o392_41 (P : Params) : Obj := ⟨(.type "list"), none, (.seq #[(.ref 390), (.ref 391)] 0), #[]⟩
noncomputable def o393_41 (P : Params) : Obj := ⟨(.type "list"), none, (.seq #[(.ref 392), (.int 256 675)] 0), #[]⟩
noncomputable def o394_41 (P : Params) : Obj := ⟨(.type "list"), none, (.seq #[(.ref 389), (.ref 393)] 0), #[]⟩
noncomputable def o395_41 (P : Params) : Obj := ⟨(.type "list"), none, (.seq #[(.ref 383), (.ref 394)] 0), #[]⟩
noncomputable def o396_41 (P : Params) : Obj := ⟨(.type "list"), none, (.seq #[(.ref 395), (.int 2 676)] 0), #[]⟩
noncomputable def o397_41 (P : Params) : Obj := ⟨(.type "list"), none, (.seq #[(.ref 378), (.ref 396)] 0), #[]⟩
noncomputable def o398_41 (P : Params) : Obj := ⟨(.type "list"), none, (.seq #[(.ref 359), (.ref 397)] 0), #[]⟩
noncomputable def o399_41 (P : Params) : Obj := ⟨(.type "list"), none, (.seq #[(.int 128 678), (.int 8 679)] 0), #[]⟩
noncomputable def o400_41 (P : Params) : Obj := ⟨(.type "list"), none, (.seq #[(.int 3 677), (.ref 399)] 0), #[]⟩
noncomputable def o401_41 (P : Params) : Obj := ⟨(.type "list"), none, (.seq #[(.int 16 681), (.int 17 682)] 0), #[]⟩
noncomputable def o402_41 (P : Params) : Obj := ⟨(.type "list"), none, (.seq #[(.int 9 680), (.ref 401)] 0), #[]⟩
noncomputable def o403_41 (P : Params) : Obj := ⟨(.type "list"), none, (.seq #[(.ref 402), (.int 4 683)] 0), #[]⟩
noncomputable def o404_41 (P : Params) : Obj := ⟨(.type "list"), none, (.seq #[(.ref 400), (.ref 403)] 0), #[]⟩
noncomputable def o405_41 (P : Params) : Obj := ⟨(.type "list"), none, (.seq #[(.int 14 685), (.int 15 686)] 0), #[]⟩
noncomputable def o406_41 (P : Params) : Obj := ⟨(.type "list"), none, (.seq #[(.ref 405), (.int 64 687)] 0), #[]⟩
noncomputable def o407_41 (P : Params) : Obj := ⟨(.type "list"), none, (.seq #[(.int 5 684), (.ref 406)] 0), #[]⟩
noncomputable def o408_41 (P : Params) : Obj := ⟨(.type "list"), none, (.seq #[(.int 6 688), (.int 7 689)] 0), #[]⟩
noncomputable def o409_41 (P : Params) : Obj := ⟨(.type "list"), none, (.seq #[(.ref 407), (.ref 408)] 0), #[]⟩
noncomputable def o410_41 (P : Params) : Obj := ⟨(.type "list"), none, (.seq #[(.ref 404), (.ref 409)] 0), #[]⟩
noncomputable def o411_41 (P : Params) : Obj := ⟨(.type "list"), none, (.seq #[(.ref 398), (.ref 410)] 0), #[]⟩
noncomputable def o412_41 (P : Params) : Obj := ⟨(.type "list"), none, (.seq #[(.int 1984 692), (.int 2048 693)] 0), #[]⟩
noncomputable def o413_41 (P : Params) : Obj := ⟨(.type "list"), none, (.seq #[(.int 1792 691), (.ref 412)] 0), #[]⟩
noncomputable def o414_41 (P : Params) : Obj := ⟨(.type "list"), none, (.seq #[(.int 2112 694), (.int 2176 695)] 0), #[]⟩
noncomputable def o415_41 (P : Params) : Obj := ⟨(.type "list"), none, (.seq #[(.int 2240 696), (.int 2304 697)] 0), #[]⟩
noncomputable def o416_41 (P : Params) : Obj := ⟨(.type "list"), none, (.seq #[(.ref 414), (.ref 415)] 0), #[]⟩
noncomputable def o417_41 (P : Params) : Obj := ⟨(.type "list"), none, (.seq #[(.ref 413), (.ref 416)] 0), #[]⟩
noncomputable def o418_41 (P : Params) : Obj := ⟨(.type "list"), none, (.seq #[(.int 1856 698), (.int 1920 699)] 0), #[]⟩
noncomputable def o419_41 (P : Params) : Obj := ⟨(.type "list"), none, (.seq #[(.int 2368 700), (.int 2432 701)] 0), #[]⟩
noncomputable def o420_41 (P : Params) : Obj := ⟨(.type "list"), none, (.seq #[(.int 2496 702), (.int 2560 703)] 0), #[]⟩
noncomputable def o421_41 (P : Params) : Obj := ⟨(.type "list"), none, (.seq #[(.ref 419), (.ref 420)] 0), #[]⟩
noncomputable def o422_41 (P : Params) : Obj := ⟨(.type "list"), none, (.seq #[(.ref 418), (.ref 421)] 0), #[]⟩
noncomputable def o423_41 (P : Params) : Obj := ⟨(.type "list"), none, (.seq #[(.ref 417), (.ref 422)] 0), #[]⟩
noncomputable def o424_41 (P : Params) : Obj := ⟨(.type "list"), none, (.seq #[.none, (.ref 423)] 0), #[]⟩
noncomputable def o425_41 (P : Params) : Obj := ⟨(.type "list"), none, (.seq #[(.int 640 706), (.int 704 707)] 0), #[]⟩
noncomputable def o426_41 (P : Params) : Obj := ⟨(.type "list"), none, (.seq #[(.int 52 705), (.ref 425)] 0), #[]⟩
noncomputable def o427_41 (P : Params) : Obj := ⟨(.type "list"), none, (.seq #[(.int 768 708), (.int 832 709)] 0), #[]⟩
noncomputable def o428_41 (P : Params) : Obj := ⟨(.type "list"), none, (.seq #[(.ref 427), (.int 55 710)] 0), #[]⟩
noncomputable def o429_41 (P : Params) : Obj := ⟨(.type "list"), none, (.seq #[(.ref 426), (.ref 428)] 0), #[]⟩
noncomputable def o430_41 (P : Params) : Obj := ⟨(.type "list"), none, (.seq #[(.int 18 704), (.ref 429)] 0), #[]⟩
noncomputable def o431_41 (P : Params) : Obj := ⟨(.type "list"), none, (.seq #[(.int 1280 712), (.int 1344 713)] 0), #[]⟩
noncomputable def o432_41 (P : Params) : Obj := ⟨(.type "list"), none, (.seq #[(.int 56 711), (.ref 431)] 0), #[]⟩
noncomputable def o433_41 (P : Params) : Obj := ⟨(.type "list"), none, (.seq #[(.int 1408 714), (.int 1472 715)] 0), #[]⟩
noncomputable def o434_41 (P : Params) : Obj := ⟨(.type "list"), none, (.seq #[(.ref 433), (.int 59 716)] 0), #[]⟩
noncomputable def o435_41 (P : Params) : Obj := ⟨(.type "list"), none, (.seq #[(.ref 432), (.ref 434)] 0), #[]⟩
noncomputable def o436_41 (P : Params) : Obj := ⟨(.type "list"), none, (.seq #[(.int 1536 718), (.int 1600 719)] 0), #[]⟩
noncomputable def o437_41 (P : Params) : Obj := ⟨(.type "list"), none, (.seq #[(.int 60 717), (.ref 436)] 0), #[]⟩
noncomputable def o438_41 (P : Params) : Obj := ⟨(.type "list"), none, (.seq #[(.ref 437), (.int 24 720)] 0), #[]⟩
noncomputable def o439_41 (P : Params) : Obj := ⟨(.type "list"), none, (.seq #[(.ref 435), (.ref 438)] 0), #[]⟩
noncomputable def o440_41 (P : Params) : Obj := ⟨(.type "list"), none, (.seq #[(.ref 430), (.ref 439)] 0), #[]⟩
noncomputable def o441_41 (P : Params) : Obj := ⟨(.type "list"), none, (.seq #[(.int 1664 722), (.int 1728 723)] 0), #[]⟩
noncomputable def o442_41 (P : Params) : Obj := ⟨(.type "list"), none, (.seq #[(.ref 441), (.int 320 724)] 0), #[]⟩
noncomputable def o443_41 (P : Params) : Obj := ⟨(.type "list"), none, (.seq #[(.int 25 721), (.ref 442)] 0), #[]⟩
noncomputable def o444_41 (P : Params) : Obj := ⟨(.type "list"), none, (.seq #[(.int 384 725), (.int 448 726)] 0), #[]⟩
noncomputable def o445_41 (P : Params) : Obj := ⟨(.type "list"), none, (.seq #[(.int 512 727), (.int 576 728)] 0), #[]⟩
noncomputable def o446_41 (P : Params) : Obj := ⟨(.type "list"), none, (.seq #[(.ref 445), (.int 53 729)] 0), #[]⟩
noncomputable def o447_41 (P : Params) : Obj := ⟨(.type "list"), none, (.seq #[(.ref 444), (.ref 446)] 0), #[]⟩
noncomputable def o448_41 (P : Params) : Obj := ⟨(.type "list"), none, (.seq #[(.ref 443), (.ref 447)] 0), #[]⟩
noncomputable def o449_41 (P : Params) : Obj := ⟨(.type "list"), none, (.seq #[(.int 896 731), (.int 960 732)] 0), #[]⟩
noncomputable def o450_41 (P : Params) : Obj := ⟨(.type "list"), none, (.seq #[(.int 54 730), (.ref 449)] 0), #[]⟩
noncomputable def o451_41 (P : Params) : Obj := ⟨(.type "list"), none, (.seq #[(.int 1024 733), (.int 1088 734)] 0), #[]⟩
noncomputable def o452_41 (P : Params) : Obj := ⟨(.type "list"), none, (.seq #[(.int 1152 735), (.int 1216 736)] 0), #[]⟩
noncomputable def o453_41 (P : Params) : Obj := ⟨(.type "list"), none, (.seq #[(.ref 451), (.ref 452)] 0), #[]⟩
noncomputable def o454_41 (P : Params) : Obj := ⟨(.type "list"), none, (.seq #[(.ref 450), (.ref 453)] 0), #[]⟩
noncomputable def o455_41 (P : Params) : Obj := ⟨(.type "list"), none, (.seq #[(.ref 454), (.int 64 737)] 0), #[]⟩
noncomputable def o456_41 (P : Params) : Obj := ⟨(.type "list"), none, (.seq #[(.ref 448), (.ref 455)] 0), #[]⟩
noncomputable def o457_41 (P : Params) : Obj := ⟨(.type "list"), none, (.seq #[(.ref 440), (.ref 456)] 0), #[]⟩
noncomputable def o458_41 (P : Params) : Obj := ⟨(.type "list"), none, (.seq #[(.ref 424), (.ref 457)] 0), #[]⟩
noncomputable def o459_41 (P : Params) : Obj := ⟨(.type "list"), none, (.seq #[(.int 50 740), (.int 51 741)] 0), #[]⟩
noncomputable def o460_41 (P : Params) : Obj := ⟨(.type "list"), none, (.seq #[(.int 23 739), (.ref 459)] 0), #[]⟩
noncomputable def o461_41 (P : Params) : Obj := ⟨(.type "list"), none, (.seq #[(.int 44 742), (.int 45 743)] 0), #[]⟩
noncomputable def o462_41 (P : Params) : Obj := ⟨(.type "list"), none, (.seq #[(.int 46 744), (.int 47 745)] 0), #[]⟩
noncomputable def o463_41 (P : Params) : Obj := ⟨(.type "list"), none, (.seq #[(.ref 461), (.ref 462)] 0), #[]⟩
noncomputable def o464_41 (P : Params) : Obj := ⟨(.type "list"), none, (.seq #[(.ref 460), (.ref 463)] 0), #[]⟩
noncomputable def o465_41 (P : Params) : Obj := ⟨(.type "list"), none, (.seq #[(.int 57 746), (.int 58 747)] 0), #[]⟩
noncomputable def o466_41 (P : Params) : Obj := ⟨(.type "list"), none, (.seq #[(.int 61 748), (.int 256 749)] 0), #[]⟩
noncomputable def o467_41 (P : Params) : Obj := ⟨(.type "list"), none, (.seq #[(.ref 465), (.ref 466)] 0), #[]⟩
noncomputable def o468_41 (P : Params) : Obj := ⟨(.type "list"), none, (.seq #[(.ref 467), (.int 16 750)] 0), #[]⟩
noncomputable def o469_41 (P : Params) : Obj := ⟨(.type "list"), none, (.seq #[(.ref 464), (.ref 468)] 0), #[]⟩
noncomputable def o470_41 (P : Params) : Obj := ⟨(.type "list"), none, (.seq #[(.int 13 738), (.ref 469)] 0), #[]⟩
noncomputable def o471_41 (P : Params) : Obj := ⟨(.type "list"), none, (.seq #[(.int 48 752), (.int 49 753)] 0), #[]⟩
noncomputable def o472_41 (P : Params) : Obj := ⟨(.type "list"), none, (.seq #[(.int 62 754), (.int 63 755)] 0), #[]⟩
noncomputable def o473_41 (P : Params) : Obj := ⟨(.type "list"), none, (.seq #[(.ref 471), (.ref 472)] 0), #[]⟩
noncomputable def o474_41 (P : Params) : Obj := ⟨(.type "list"), none, (.seq #[(.int 17 751), (.ref 473)] 0), #[]⟩
noncomputable def o475_41 (P : Params) : Obj := ⟨(.type "list"), none, (.seq #[(.int 30 756), (.int 31 757)] 0), #[]⟩
noncomputable def o476_41 (P : Params) : Obj := ⟨(.type "list"), none, (.seq #[(.int 32 758), (.int 33 759)] 0), #[]⟩
noncomputable def o477_41 (P : Params) : Obj := ⟨(.type "list"), none, (.seq #[(.ref 475), (.ref 476)] 0), #[]⟩
noncomputable def o478_41 (P : Params) : Obj := ⟨(.type "list"), none, (.seq #[(.int 40 760), (.int 41 761)] 0), #[]⟩
noncomputable def o479_41 (P : Params) : Obj := ⟨(.type "list"), none, (.seq #[(.ref 478), (.int 22 762)] 0), #[]⟩
noncomputable def o480_41 (P : Params) : Obj := ⟨(.type "list"), none, (.seq #[(.ref 477), (.ref 479)] 0), #[]⟩
noncomputable def o481_41 (P : Params) : Obj := ⟨(.type "list"), none, (.seq #[(.ref 474), (.ref 480)] 0), #[]⟩
noncomputable def o482_41 (P : Params) : Obj := ⟨(.type "list"), none, (.seq #[(.ref 481), (.int 14 763)] 0), #[]⟩
noncomputable def o483_41 (P : Params) : Obj := ⟨(.type "list"), none, (.seq #[(.ref 470), (.ref 482)] 0), #[]⟩
noncomputable def o484_41 (P : Params) : Obj := ⟨(.type "list"), none, (.seq #[(.ref 458), (.ref 483)] 0), #[]⟩
noncomputable def o485_41 (P : Params) : Obj := ⟨(.type "list"), none, (.seq #[(.int 10 764), (.int 11 765)] 0), #[]⟩
noncomputable def o486_41 (P : Params) : Obj := ⟨(.type "list"), none, (.seq #[(.int 128 767), (.int 192 768)] 0), #[]⟩
noncomputable def o487_41 (P : Params) : Obj := ⟨(.type "list"), none, (.seq #[(.int 26 769), (.int 27 770)] 0), #[]⟩
noncomputable def o488_41 (P : Params) : Obj := ⟨(.type "list"), none, (.seq #[(.ref 486), (.ref 487)] 0), #[]⟩
noncomputable def o489_41 (P : Params) : Obj := ⟨(.type "list"), none, (.seq #[(.int 28 771), (.int 29 772)] 0), #[]⟩
noncomputable def o490_41 (P : Params) : Obj := ⟨(.type "list"), none, (.seq #[(.ref 489), (.int 19 773)] 0), #[]⟩
noncomputable def o491_41 (P : Params) : Obj := ⟨(.type "list"), none, (.seq #[(.ref 488), (.ref 490)] 0), #[]⟩
noncomputable def o492_41 (P : Params) : Obj := ⟨(.type "list"), none, (.seq #[(.int 15 766), (.ref 491)] 0), #[]⟩
noncomputable def o493_41 (P : Params) : Obj := ⟨(.type "list"), none, (.seq #[(.int 34 775), (.int 35 776)] 0), #[]⟩
noncomputable def o494_41 (P : Params) : Obj := ⟨(.type "list"), none, (.seq #[(.int 20 774), (.ref 493)] 0), #[]⟩
noncomputable def o495_41 (P : Params) : Obj := ⟨(.type "list"), none, (.seq #[(.int 36 777), (.int 37 778)] 0), #[]⟩
noncomputable def o496_41 (P : Params) : Obj := ⟨(.type "list"), none, (.seq #[(.int 38 779), (.int 39 780)] 0), #[]⟩
noncomputable def o497_41 (P : Params) : Obj := ⟨(.type "list"), none, (.seq #[(.ref 495), (.ref 496)] 0), #[]⟩
noncomputable def o498_41 (P : Params) : Obj := ⟨(.type "list"), none, (.seq #[(.ref 494), (.ref 497)] 0), #[]⟩
noncomputable def o499_41 (P : Params) : Obj := ⟨(.type "list"), none, (.seq #[(.int 42 782), (.int 43 783)] 0), #[]⟩
noncomputable def o500_41 (P : Params) : Obj := ⟨(.type "list"), none, (.seq #[(.int 21 781), (.ref 499)] 0), #[]⟩
noncomputable def o501_41 (P : Params) : Obj := ⟨(.type "list"), none, (.seq #[(.ref 500), (.int 0 784)] 0), #[]⟩
noncomputable def o502_41 (P : Params) : Obj := ⟨(.type "list"), none, (.seq #[(.ref 498), (.ref 501)] 0), #[]⟩
noncomputable def o503_41 (P : Params) : Obj := ⟨(.type "list"), none, (.seq #[(.ref 492), (.ref 502)] 0), #[]⟩
noncomputable def o504_41 (P : Params) : Obj := ⟨(.type "list"), none, (.seq #[(.ref 503), (.int 12 785)] 0), #[]⟩
noncomputable def o505_41 (P : Params) : Obj := ⟨(.type "list"), none, (.seq #[(.ref 485), (.ref 504)] 0), #[]⟩
noncomputable def o506_41 (P : Params) : Obj := ⟨(.type "list"), none, (.seq #[(.ref 484), (.ref 505)] 0), #[]⟩
noncomputable def o507_41 (P : Params) : Obj := ⟨(.type "list"), none, (.seq #[(.int 9 786), (.int 8 787)] 0), #[]⟩
noncomputable def o508_41 (P : Params) : Obj := ⟨(.type "list"), none, (.seq #[(.ref 507), (.int 7 788)] 0), #[]⟩
noncomputable def o509_41 (P : Params) : Obj := ⟨(.type "list"), none, (.seq #[(.ref 506), (.ref 508)] 0), #[]⟩
noncomputable def o510_41 (P : Params) : Obj := ⟨(.type "list"), none, (.seq #[(.int 6 789), (.int 5 790)] 0), #[]⟩
noncomputable def o511_41 (P : Params) : Obj := ⟨(.type "list"), none, (.seq #[(.ref 509), (.ref 510)] 0), #[]⟩
noncomputable def o512_41 (P : Params) : Obj := ⟨(.type "list"), none, (.seq #[(.int 1 791), (.int 4 792)] 0), #[]⟩
noncomputable def o513_41 (P : Params) : Obj := ⟨(.type "list"), none, (.seq #[(.ref 511), (.ref 512)] 0), #[]⟩
noncomputable def o514_41 (P : Params) : Obj := ⟨(.type "list"), none, (.seq #[(.int 3 793), (.int 2 794)] 0), #[]⟩
noncomputable def o515_41 (P : Params) : Obj := ⟨(.type "list"), none, (.seq #[(.ref 513), (.ref 514)] 0), #[]⟩
noncomputable def o516_41 (P : Params) : Obj := ⟨(.type "list"), none, (.seq #[(.str (zs "T10000") 796), (.str (zs "T00000") 797)] 0), #[]⟩
noncomputable def o517_41 (P : Params) : Obj := ⟨(.type "list"), none, (.seq #[.none, (.ref 516)] 0), #[]⟩
noncomputable def o518_41 (P : Params) : Obj := ⟨(.type "list"), none, (.seq #[(.str (zs "T1000") 798), (.str (zs "T0000") 799)] 0), #[]⟩
noncomputable def o519_41 (P : Params) : Obj := ⟨(.type "list"), none, (.seq #[(.ref 517), (.ref 518)] 0), #[]⟩
noncomputable def o520_41 (P : Params) : Obj := ⟨(.type "list"), none, (.seq #[(.str (zs "T100") 800), (.str (zs "T000") 801)] 0), #[]⟩
noncomputable def o521_41 (P : Params) : Obj := ⟨(.type "list"), none, (.seq #[(.ref 519), (.ref 520)] 0), #[]⟩
noncomputable def o522_41 (P : Params) : Obj := ⟨(.type "list"), none, (.seq #[(.str (zs "T10") 802), (.str (zs "T00") 803)] 0), #[]⟩
noncomputable def o523_41 (P : Params) : Obj := ⟨(.type "list"), none, (.seq #[(.ref 521), (.ref 522)] 0), #[]⟩
noncomputable def o524_41 (P : Params) : Obj := ⟨(.type "list"), none, (.seq #[(.ref 523), (.str (zs "00000") 804)] 0), #[]⟩
noncomputable def o525_41 (P : Params) : Obj := ⟨(.type "list"), none, (.seq #[(.ref 524), (.str (zs "00001") 805)] 0), #[]⟩
noncomputable def o526_41 (P : Params) : Obj := ⟨(.type "list"), none, (.seq #[(.ref 525), (.str (zs "0001") 806)] 0), #[]⟩
noncomputable def o527_41 (P : Params) : Obj := ⟨(.type "list"), none, (.seq #[(.ref 526), (.str (zs "001") 807)] 0), #[]⟩
noncomputable def o528_41 (P : Params) : Obj := ⟨(.type "list"), none, (.seq #[(.ref 527), (.str (zs "01") 808)] 0), #[]⟩
noncomputable def o529_41 (P : Params) : Obj := ⟨(.type "list"), none, (.seq #[(.ref 528), (.str (zs "1") 809)] 0), #[]⟩
noncomputable def o530_41 (P : Params) : Obj := ⟨(.type "tuple"), none, (.seq #[(.ref 140)] 0), #[]⟩
noncomputable def o531_41 (P : Params) : Obj := ⟨(.type "builtin_function_or_method"), none, (.fields #[(.builtin "type.__prepare__"), (.type "type")]), #[]⟩
noncomputable def o532_41 (P : Params) : Obj := ⟨(.type "dict"), none, (.dict #[en P "__module__" 818 (.str (zs "pdfminer.ccitt") 473), en P "__qualname__" 820 (.str (zs "CCITTG4Parser.CCITTException") 819), en P "__firstlineno__" 822 (.int 119 821), en P "__static_attributes__" 823 (.ref 537)] 4), #[]⟩
noncomputable def o533_41 (P : Params) : Obj := ⟨(.type "tuple"), none, (.seq #[] 0), #[]⟩
noncomputable def o534_41 (P : Params) : Obj := ⟨.none, none, (.fields #[]), #[]⟩
noncomputable def o535_41 (P : Params) : Obj := ⟨(.type "code"), none, (.fields #[(.str (zs "CCITTException") 813), (.str (zs "CCITTG4Parser.CCITTException") 814), (.str (zs "/claim/cut.py") 815), (.int 119 0), (.int 0 0), (.int 0 0), (.int 0 0), (.int 0 0), (.ref 533), (.bool false), (.int 181 0), (.ref 534), .none, .none, .none, .none, (.int 816 0), (.int 119 0), (.str (zs "/claim/cut.py") 817)]), #[]⟩
noncomputable def o536_41 (P : Params) : Obj := ⟨(.type "frame"), none, .plain, #[some (.ref 535), some (.ref 3), some (.ref 532), none, some (.str (zs "pdfminer.ccitt") 473), none, some (.ref 0)]⟩
noncomputable def o537_41 (P : Params) : Obj := ⟨(.type "tuple"), none, (.seq #[] 0), #[]⟩
noncomputable def o538_41 (P : Params) : Obj := ⟨(.type "dict"), none, (.dict #[en P "__module__" 818 (.str (zs "pdfminer.ccitt") 473), en P "__firstlineno__" 822 (.int 119 821), en P "__static_attributes__" 823 (.ref 537), en P "__doc__" 824 .none] 2), #[]⟩
noncomputable def o539_41 (P : Params) : Obj := ⟨(.type "type"), none, (.cls ⟨(zs "CCITTException"), [(.ref 140)], [(.ref 539), (.ref 140), (.ref 127), (.type "Exception"), (.type "BaseException"), (.type "object")], 538, (zs "CCITTG4Parser.CCITTException"), true, [], [(.ref 551), (.ref 563), (.ref 575)], false, none, false⟩), #[some (.ref 530), none, some (.str (zs "CCITTException") 811), some (.str (zs "CCITTG4Parser.CCITTException") 819), some (.builtin "Exception.__new__"), some (.bool true)]⟩
noncomputable def o540_41 (P : Params) : Obj := ⟨(.type "super"), none, (.fields #[(.ref 539), (.ref 539), (.ref 539)]), #[]⟩
noncomputable def o541_41 (P : Params) : Obj := ⟨(.type "builtin_function_or_method"), none, (.fields #[(.builtin "object.__init_subclass__"), (.ref 539)]), #[]⟩
noncomputable def o542_41 (P : Params) : Obj := ⟨(.type "tuple"), none, (.seq #[(.ref 539)] 0), #[]⟩
noncomputable def o543_41 (P : Params) : Obj := ⟨(.type "builtin_function_or_method"), none, (.fields #[(.builtin "type.__prepare__"), (.type "type")]), #[]⟩
noncomputable def o544_41 (P : Params) : Obj := ⟨(.type "dict"), none, (.dict #[en P "__module__" 834 (.str (zs "pdfminer.ccitt") 473), en P "__qualname__" 836 (.str (zs "CCITTG4Parser.EOFB") 835), en P "__firstlineno__" 838 (.int 122 837), en P "__static_attributes__" 839 (.ref 549)] 4), #[]⟩
noncomputable def o545_41 (P : Params) : Obj := ⟨(.type "tuple"), none, (.seq #[] 0), #[]⟩
noncomputable def o546_41 (P : Params) : Obj := ⟨.none, none, (.fields #[]), #[]⟩
noncomputable def o547_41 (P : Params) : Obj := ⟨(.type "code"), none, (.fields #[(.str (zs "EOFB") 829), (.str (zs "CCITTG4Parser.EOFB") 830), (.str (zs "/claim/cut.py") 831), (.int 122 0), (.int 0 0), (.int 0 0), (.int 0 0), (.int 0 0), (.ref 545), (.bool false), (.int 181 0), (.ref 546), .none, .none, .none, .none, (.int 832 0), (.int 122 0), (.str (zs "/claim/cut.py") 833)]), #[]⟩
noncomputable def o548_41 (P : Params) : Obj := ⟨(.type "frame"), none, .plain, #[some (.ref 547), some (.ref 3), some (.ref 544), none, some (.str (zs "pdfminer.ccitt") 473), none, some (.ref 0)]⟩
noncomputable def o549_41 (P : Params) : Obj := ⟨(.type "tuple"), none, (.seq #[] 0), #[]⟩
noncomputable def o550_41 (P : Params) : Obj := ⟨(.type "dict"), none, (.dict #[en P "__module__" 834 (.str (zs "pdfminer.ccitt") 473), en P "__firstlineno__" 838 (.int 122 837), en P "__static_attributes__" 839 (.ref 549), en P "__doc__" 840 .none] 2), #[]⟩
noncomputable def o551_41 (P : Params) : Obj := ⟨(.type "type"), none, (.cls ⟨(zs "EOFB"), [(.ref 539)], [(.ref 551), (.ref 539), (.ref 140), (.ref 127), (.type "Exception"), (.type "BaseException"), (.type "object")], 550, (zs "CCITTG4Parser.EOFB"), true, [], [], false, none, false⟩), #[some (.ref 542), none, some (.str (zs "EOFB") 827), some (.str (zs "CCITTG4Parser.EOFB") 835), some (.builtin "Exception.__new__"), some (.bool true)]⟩
noncomputable def o552_41 (P : Params) : Obj := ⟨(.type "super"), none, (.fields #[(.ref 551), (.ref 551), (.ref 551)]), #[]⟩
noncomputable def o553_41 (P : Params) : Obj := ⟨(.type "builtin_function_or_method"), none, (.fields #[(.builtin "object.__init_subclass__"), (.ref 551)]), #[]⟩
noncomputable def o554_41 (P : Params) : Obj := ⟨(.type "tuple"), none, (.seq #[(.ref 539)] 0), #[]⟩
noncomputable def o555_41 (P : Params) : Obj := ⟨(.type "builtin_function_or_method"), none, (.fields #[(.builtin "type.__prepare__"), (.type "type")]), #[]⟩
noncomputable def o556_41 (P : Params) : Obj := ⟨(.type "dict"), none, (.dict #[en P "__module__" 850 (.str (zs "pdfminer.ccitt") 473), en P "__qualname__" 852 (.str (zs "CCITTG4Parser.InvalidData") 851), en P "__firstlineno__" 854 (.int 125 853), en P "__static_attributes__" 855 (.ref 561)] 4), #[]⟩
noncomputable def o557_41 (P : Params) : Obj := ⟨(.type "tuple"), none, (.seq #[] 0), #[]⟩
noncomputable def o558_41 (P : Params) : Obj := ⟨.none, none, (.fields #[]), #[]⟩
noncomputable def o559_41 (P : Params) : Obj := ⟨(.type "code"), none, (.fields #[(.str (zs "InvalidData") 845), (.str (zs "CCITTG4Parser.InvalidData") 846), (.str (zs "/claim/cut.py") 847), (.int 125 0), (.int 0 0), (.int 0 0), (.int 0 0), (.int 0 0), (.ref 557), (.bool false), (.int 181 0), (.ref 558), .none, .none, .none, .none, (.int 848 0), (.int 125 0), (.str (zs "/claim/cut.py") 849)]), #[]⟩
noncomputable def o560_41 (P : Params) : Obj := ⟨(.type "frame"), none, .plain, #[some (.ref 559), some (.ref 3), some (.ref 556), none, some (.str (zs "pdfminer.ccitt") 473), none, some (.ref 0)]⟩
noncomputable def o561_41 (P : Params) : Obj := ⟨(.type "tuple"), none, (.seq #[] 0), #[]⟩
noncomputable def o562_41 (P : Params) : Obj := ⟨(.type "dict"), none, (.dict #[en P "__module__" 850 (.str (zs "pdfminer.ccitt") 473), en P "__firstlineno__" 854 (.int 125 853), en P "__static_attributes__" 855 (.ref 561), en P "__doc__" 856 .none] 2), #[]⟩
noncomputable def o563_41 (P : Params) : Obj := ⟨(.type "type"), none, (.cls ⟨(zs "InvalidData"), [(.ref 539)], [(.ref 563), (.ref 539), (.ref 140), (.ref 127), (.type "Exception"), (.type "BaseException"), (.type "object")], 562, (zs "CCITTG4Parser.InvalidData"), true, [], [], false, none, false⟩), #[some (.ref 554), none, some (.str (zs "InvalidData") 843), some (.str (zs "CCITTG4Parser.InvalidData") 851), some (.builtin "Exception.__new__"), some (.bool true)]⟩
noncomputable def o564_41 (P : Params) : Obj := ⟨(.type "super"), none, (.fields #[(.ref 563), (.ref 563), (.ref 563)]), #[]⟩
noncomputable def o565_41 (P : Params) : Obj := ⟨(.type "builtin_function_or_method"), none, (.fields #[(.builtin "object.__init_subclass__"), (.ref 563)]), #[]⟩
noncomputable def o566_41 (P : Params) : Obj := ⟨(.type "tuple"), none, (.seq #[(.ref 539)] 0), #[]⟩
noncomputable def o567_41 (P : Params) : Obj := ⟨(.type "builtin_function_or_method"), none, (.fields #[(.builtin "type.__prepare__"), (.type "type")]), #[]⟩
noncomputable def o568_41 (P : Params) : Obj := ⟨(.type "dict"), none, (.dict #[en P "__module__" 866 (.str (zs "pdfminer.ccitt") 473), en P "__qualname__" 868 (.str (zs "CCITTG4Parser.ByteSkip") 867), en P "__firstlineno__" 870 (.int 128 869), en P "__static_attributes__" 871 (.ref 573)] 4), #[]⟩
noncomputable def o569_41 (P : Params) : Obj := ⟨(.type "tuple"), none, (.seq #[] 0), #[]⟩
noncomputable def o570_41 (P : Params) : Obj := ⟨.none, none, (.fields #[]), #[]⟩
noncomputable def o571_41 (P : Params) : Obj := ⟨(.type "code"), none, (.fields #[(.str (zs "ByteSkip") 861), (.str (zs "CCITTG4Parser.ByteSkip") 862), (.str (zs "/claim/cut.py") 863), (.int 128 0), (.int 0 0), (.int 0 0), (.int 0 0), (.int 0 0), (.ref 569), (.bool false), (.int 181 0), (.ref 570), .none, .none, .none, .none, (.int 864 0), (.int 128 0), (.str (zs "/claim/cut.py") 865)]), #[]⟩
noncomputable def o572_41 (P : Params) : Obj := ⟨(.type "frame"), none, .plain, #[some (.ref 571), some (.ref 3), some (.ref 568), none, some (.str (zs "pdfminer.ccitt") 473), none, some (.ref 0)]⟩
noncomputable def o573_41 (P : Params) : Obj := ⟨(.type "tuple"), none, (.seq #[] 0), #[]⟩
noncomputable def o574_41 (P : Params) : Obj := ⟨(.type "dict"), none, (.dict #[en P "__module__" 866 (.str (zs "pdfminer.ccitt") 473), en P "__firstlineno__" 870 (.int 128 869), en P "__static_attributes__" 871 (.ref 573), en P "__doc__" 872 .none] 2), #[]⟩
noncomputable def o575_41 (P : Params) : Obj := ⟨(.type "type"), none, (.cls ⟨(zs "ByteSkip"), [(.ref 539)], [(.ref 575), (.ref 539), (.ref 140), (.ref 127), (.type "Exception"), (.type "BaseException"), (.type "object")], 574, (zs "CCITTG4Parser.ByteSkip"), true, [], [], false, none, false⟩), #[some (.ref 566), none, some (.str (zs "ByteSkip") 859), some (.str (zs "CCITTG4Parser.ByteSkip") 867), some (.builtin "Exception.__new__"), some (.bool true)]⟩
noncomputable def o576_41 (P : Params) : Obj := ⟨(.type "super"), none, (.fields #[(.ref 575), (.ref 575), (.ref 575)]), #[]⟩
noncomputable def o577_41 (P : Params) : Obj := ⟨(.type "builtin_function_or_method"), none, (.fields #[(.builtin "object.__init_subclass__"), (.ref 575)]), #[]⟩
noncomputable def o578_41 (P : Params) : Obj := ⟨(.type "tuple"), none, (.seq #[(.bool false)] 0), #[]⟩
noncomputable def o579_41 (P : Params) : Obj := ⟨(.type "tuple"), none, (.seq #[] 0), #[]⟩
noncomputable def o580_41 (P : Params) : Obj := ⟨.none, none, (.fields #[]), #[]⟩
noncomputable def o581_41 (P : Params) : Obj := ⟨(.type "tuple"), none, (.seq #[(.str (zs "self") 878), (.str (zs "width") 879), (.str (zs "bytealign") 880)] 0), #[]⟩
noncomputable def o582_41 (P : Params) : Obj := ⟨(.type "tuple"), none, (.seq #[] 0), #[]⟩
noncomputable def o583_41 (P : Params) : Obj := ⟨.none, none, (.func (fd (sc 28 8) (zs "CCITTG4Parser.__init__") 0 .none .none .none .none none .none .none 0)), #[]⟩
noncomputable def o584_41 (P : Params) : Obj := ⟨(.type "code"), none, (.fields #[(.str (zs "__init__") 875), (.str (zs "CCITTG4Parser.__init__") 876), (.str (zs "/claim/cut.py") 877), (.int 131 0), (.int 3 0), (.int 0 0), (.int 0 0), (.int 3 0), (.ref 579), (.bool true), (.int 181 0), (.ref 580), .none, (.ref 581), (.ref 582), (.ref 583), (.int 881 0), (.int 131 0), (.str (zs "/claim/cut.py") 882)]), #[]⟩
noncomputable def o585_41 (P : Params) : Obj := ⟨(.type "function"), none, (.func (fd (sc 28 8) (zs "CCITTG4Parser.__init__") 3 (.ref 578) .none .none (.str (zs "pdfminer.ccitt") 473) none (.ref 584) .none 0)), #[]⟩
noncomputable def o586_41 (P : Params) : Obj := ⟨(.type "tuple"), none, (.seq #[] 0), #[]⟩
noncomputable def o587_41 (P : Params) : Obj := ⟨.none, none, (.fields #[]), #[]⟩
noncomputable def o588_41 (P : Params) : Obj := ⟨(.type "tuple"), none, (.seq #[(.str (zs "self") 887), (.str (zs "data") 888), (.str (zs "byte") 889), (.str (zs "m") 890)] 0), #[]⟩
noncomputable def o589_41 (P : Params) : Obj := ⟨(.type "tuple"), none, (.seq #[] 0), #[]⟩
noncomputable def o590_41 (P : Params) : Obj := ⟨.none, none, (.func (fd (sc 28 9) (zs "CCITTG4Parser.feedbytes") 0 .none .none .none .none none .none .none 0)), #[]⟩
noncomputable def o591_41 (P : Params) : Obj := ⟨(.type "code"), none, (.fields #[(.str (zs "feedbytes") 884), (.str (zs "CCITTG4Parser.feedbytes") 885), (.str (zs "/claim/cut.py") 886), (.int 137 0), (.int 2 0), (.int 0 0), (.int 0 0), (.int 3 0), (.ref 586), (.bool true), (.int 181 0), (.ref 587), .none, (.ref 588), (.ref 589), (.ref 590), (.int 891 0), (.int 137 0), (.str (zs "/claim/cut.py") 892)]), #[]⟩
noncomputable def o592_41 (P : Params) : Obj := ⟨(.type "function"), none, (.func (fd (sc 28 9) (zs "CCITTG4Parser.feedbytes") 3 .none .none .none (.str (zs "pdfminer.ccitt") 473) none (.ref 591) .none 0)), #[]⟩
noncomputable def o593_41 (P : Params) : Obj := ⟨(.type "tuple"), none, (.seq #[] 0), #[]⟩
noncomputable def o594_41 (P : Params) : Obj := ⟨.none, none, (.fields #[]), #[]⟩
noncomputable def o595_41 (P : Params) : Obj := ⟨(.type "tuple"), none, (.seq #[(.str (zs "self") 897), (.str (zs "mode") 898)] 0), #[]⟩
noncomputable def o596_41 (P : Params) : Obj := ⟨(.type "tuple"), none, (.seq #[] 0), #[]⟩
noncomputable def o597_41 (P : Params) : Obj := ⟨.none, none, (.func (fd (sc 28 10) (zs "CCITTG4Parser._parse_mode") 0 .none .none .none .none none .none .none 0)), #[]⟩
noncomputable def o598_41 (P : Params) : Obj := ⟨(.type "code"), none, (.fields #[(.str (zs "_parse_mode") 894), (.str (zs "CCITTG4Parser._parse_mode") 895), (.str (zs "/claim/cut.py") 896), (.int 148 0), (.int 2 0), (.int 0 0), (.int 0 0), (.int 3 0), (.ref 593), (.bool true), (.int 181 0), (.ref 594), .none, (.ref 595), (.ref 596), (.ref 597), (.int 899 0), (.int 148 0), (.str (zs "/claim/cut.py") 900)]), #[]⟩
noncomputable def o599_41 (P : Params) : Obj := ⟨(.type "function"), none, (.func (fd (sc 28 10) (zs "CCITTG4Parser._parse_mode") 3 .none .none .none (.str (zs "pdfminer.ccitt") 473) none (.ref 598) .none 0)), #[]⟩
noncomputable def o600_41 (P : Params) : Obj := ⟨(.type "tuple"), none, (.seq #[] 0), #[]⟩
noncomputable def o601_41 (P : Params) : Obj := ⟨.none, none, (.fields #[]), #[]⟩
noncomputable def o602_41 (P : Params) : Obj := ⟨(.type "tuple"), none, (.seq #[(.str (zs "self") 905), (.str (zs "n") 906)] 0), #[]⟩
noncomputable def o603_41 (P : Params) : Obj := ⟨(.type "tuple"), none, (.seq #[] 0), #[]⟩
noncomputable def o604_41 (P : Params) : Obj := ⟨.none, none, (.func (fd (sc 28 11) (zs "CCITTG4Parser._parse_horiz1") 0 .none .none .none .none none .none .none 0)), #[]⟩
noncomputable def o605_41 (P : Params) : Obj := ⟨(.type "code"), none, (.fields #[(.str (zs "_parse_horiz1") 902), (.str (zs "CCITTG4Parser._parse_horiz1") 903), (.str (zs "/claim/cut.py") 904), (.int 172 0), (.int 2 0), (.int 0 0), (.int 0 0), (.int 3 0), (.ref 600), (.bool true), (.int 181 0), (.ref 601), .none, (.ref 602), (.ref 603), (.ref 604), (.int 907 0), (.int 172 0), (.str (zs "/claim/cut.py") 908)]), #[]⟩
noncomputable def o606_41 (P : Params) : Obj := ⟨(.type "function"), none, (.func (fd (sc 28 11) (zs "CCITTG4Parser._parse_horiz1") 3 .none .none .none (.str (zs "pdfminer.ccitt") 473) none (.ref 605) .none 0)), #[]⟩
noncomputable def o607_41 (P : Params) : Obj := ⟨(.type "tuple"), none, (.seq #[] 0), #[]⟩
noncomputable def o608_41 (P : Params) : Obj := ⟨.none, none, (.fields #[]), #[]⟩
noncomputable def o609_41 (P : Params) : Obj := ⟨(.type "tuple"), none, (.seq #[(.str (zs "self") 913), (.str (zs "n") 914)] 0), #[]⟩
noncomputable def o610_41 (P : Params) : Obj := ⟨(.type "tuple"), none, (.seq #[] 0), #[]⟩
noncomputable def o611_41 (P : Params) : Obj := ⟨.none, none, (.func (fd (sc 28 12) (zs "CCITTG4Parser._parse_horiz2") 0 .none .none .none .none none .none .none 0)), #[]⟩
noncomputable def o612_41 (P : Params) : Obj := ⟨(.type "code"), none, (.fields #[(.str (zs "_parse_horiz2") 910), (.str (zs "CCITTG4Parser._parse_horiz2") 911), (.str (zs "/claim/cut.py") 912), (.int 185 0), (.int 2 0), (.int 0 0), (.int 0 0), (.int 3 0), (.ref 607), (.bool true), (.int 181 0), (.ref 608), .none, (.ref 609), (.ref 610), (.ref 611), (.int 915 0), (.int 185 0), (.str (zs "/claim/cut.py") 916)]), #[]⟩
noncomputable def o613_41 (P : Params) : Obj := ⟨(.type "function"), none, (.func (fd (sc 28 12) (zs "CCITTG4Parser._parse_horiz2") 3 .none .none .none (.str (zs "pdfminer.ccitt") 473) none (.ref 612) .none 0)), #[]⟩
noncomputable def o614_41 (P : Params) : Obj := ⟨(.type "tuple"), none, (.seq #[] 0), #[]⟩
noncomputable def o615_41 (P : Params) : Obj := ⟨.none, none, (.fields #[]), #[]⟩
noncomputable def o616_41 (P : Params) : Obj := ⟨(.type "tuple"), none, (.seq #[(.str (zs "self") 921), (.str (zs "bits") 922)] 0), #[]⟩
noncomputable def o617_41 (P : Params) : Obj := ⟨(.type "tuple"), none, (.seq #[] 0), #[]⟩
noncomputable def o618_41 (P : Params) : Obj := ⟨.none, none, (.func (fd (sc 28 13) (zs "CCITTG4Parser._parse_uncompressed") 0 .none .none .none .none none .none .none 0)), #[]⟩
noncomputable def o619_41 (P : Params) : Obj := ⟨(.type "code"), none, (.fields #[(.str (zs "_parse_uncompressed") 918), (.str (zs "CCITTG4Parser._parse_uncompressed") 919), (.str (zs "/claim/cut.py") 920), (.int 200 0), (.int 2 0), (.int 0 0), (.int 0 0), (.int 3 0), (.ref 614), (.bool true), (.int 181 0), (.ref 615), .none, (.ref 616), (.ref 617), (.ref 618), (.int 923 0), (.int 200 0), (.str (zs "/claim/cut.py") 924)]), #[]⟩
noncomputable def o620_41 (P : Params) : Obj := ⟨(.type "function"), none, (.func (fd (sc 28 13) (zs "CCITTG4Parser._parse_uncompressed") 3 .none .none .none (.str (zs "pdfminer.ccitt") 473) none (.ref 619) .none 0)), #[]⟩
noncomputable def o621_41 (P : Params) : Obj := ⟨(.type "tuple"), none, (.seq #[] 0), #[]⟩
noncomputable def o622_41 (P : Params) : Obj := ⟨.none, none, (.fields #[]), #[]⟩
noncomputable def o623_41 (P : Params) : Obj := ⟨(.type "tuple"), none, (.seq #[(.str (zs "self") 929)] 0), #[]⟩
noncomputable def o624_41 (P : Params) : Obj := ⟨(.type "tuple"), none, (.seq #[] 0), #[]⟩
noncomputable def o625_41 (P : Params) : Obj := ⟨.none, none, (.func (fd (sc 28 14) (zs "CCITTG4Parser._get_bits") 0 .none .none .none .none none .none .none 0)), #[]⟩
noncomputable def o626_41 (P : Params) : Obj := ⟨(.type "code"), none, (.fields #[(.str (zs "_get_bits") 926), (.str (zs "CCITTG4Parser._get_bits") 927), (.str (zs "/claim/cut.py") 928), (.int 212 0), (.int 1 0), (.int 0 0), (.int 0 0), (.int 3 0), (.ref 621), (.bool true), (.int 181 0), (.ref 622), .none, (.ref 623), (.ref 624), (.ref 625), (.int 930 0), (.int 212 0), (.str (zs "/claim/cut.py") 931)]), #[]⟩
noncomputable def o627_41 (P : Params) : Obj := ⟨(.type "function"), none, (.func (fd (sc 28 14) (zs "CCITTG4Parser._get_bits") 3 .none .none .none (.str (zs "pdfminer.ccitt") 473) none (.ref 626) .none 0)), #[]⟩
noncomputable def o628_41 (P : Params) : Obj := ⟨(.type "tuple"), none, (.seq #[] 0), #[]⟩
noncomputable def o629_41 (P : Params) : Obj := ⟨.none, none, (.fields #[]), #[]⟩
noncomputable def o630_41 (P : Params) : Obj := ⟨(.type "tuple"), none, (.seq #[(.str (zs "self") 936), (.str (zs "i") 937)] 0), #[]⟩
noncomputable def o631_41 (P : Params) : Obj := ⟨(.type "tuple"), none, (.seq #[] 0), #[]⟩
noncomputable def o632_41 (P : Params) : Obj := ⟨.none, none, (.func (fd (sc 28 15) (zs "CCITTG4Parser._get_refline") 0 .none .none .none .none none .none .none 0)), #[]⟩
noncomputable def o633_41 (P : Params) : Obj := ⟨(.type "code"), none, (.fields #[(.str (zs "_get_refline") 933), (.str (zs "CCITTG4Parser._get_refline") 934), (.str (zs "/claim/cut.py") 935), (.int 215 0), (.int 2 0), (.int 0 0), (.int 0 0), (.int 3 0), (.ref 628), (.bool true), (.int 181 0), (.ref 629), .none, (.ref 630), (.ref 631), (.ref 632), (.int 938 0), (.int 215 0), (.str (zs "/claim/cut.py") 939)]), #[]⟩
noncomputable def o634_41 (P : Params) : Obj := ⟨(.type "function"), none, (.func (fd (sc 28 15) (zs "CCITTG4Parser._get_refline") 3 .none .none .none (.str (zs "pdfminer.ccitt") 473) none (.ref 633) .none 0)), #[]⟩
noncomputable def o635_41 (P : Params) : Obj := ⟨(.type "tuple"), none, (.seq #[] 0), #[]⟩
noncomputable def o636_41 (P : Params) : Obj := ⟨.none, none, (.fields #[]), #[]⟩
noncomputable def o637_41 (P : Params) : Obj := ⟨(.type "tuple"), none, (.seq #[(.str (zs "self") 944)] 0), #[]⟩
noncomputable def o638_41 (P : Params) : Obj := ⟨(.type "tuple"), none, (.seq #[] 0), #[]⟩
noncomputable def o639_41 (P : Params) : Obj := ⟨.none, none, (.func (fd (sc 28 16) (zs "CCITTG4Parser.reset") 0 .none .none .none .none none .none .none 0)), #[]⟩
noncomputable def o640_41 (P : Params) : Obj := ⟨(.type "code"), none, (.fields #[(.str (zs "reset") 941), (.str (zs "CCITTG4Parser.reset") 942), (.str (zs "/claim/cut.py") 943), (.int 218 0), (.int 1 0), (.int 0 0), (.int 0 0), (.int 3 0), (.ref 635), (.bool true), (.int 181 0), (.ref 636), .none, (.ref 637), (.ref 638), (.ref 639), (.int 945 0), (.int 218 0), (.str (zs "/claim/cut.py") 946)]), #[]⟩
noncomputable def o641_41 (P : Params) : Obj := ⟨(.type "function"), none, (.func (fd (sc 28 16) (zs "CCITTG4Parser.reset") 3 .none .none .none (.str (zs "pdfminer.ccitt") 473) none (.ref 640) .none 0)), #[]⟩
noncomputable def o642_41 (P : Params) : Obj := ⟨(.type "tuple"), none, (.seq #[] 0), #[]⟩
noncomputable def o643_41 (P : Params) : Obj := ⟨.none, none, (.fields #[]), #[]⟩
noncomputable def o644_41 (P : Params) : Obj := ⟨(.type "tuple"), none, (.seq #[(.str (zs "self") 951), (.str (zs "y") 952), (.str (zs "bits") 953)] 0), #[]⟩
noncomputable def o645_41 (P : Params) : Obj := ⟨(.type "tuple"), none, (.seq #[] 0), #[]⟩
noncomputable def o646_41 (P : Params) : Obj := ⟨.none, none, (.func (fd (sc 28 17) (zs "CCITTG4Parser.output_line") 0 .none .none .none .none none .none .none 0)), #[]⟩
noncomputable def o647_41 (P : Params) : Obj := ⟨(.type "code"), none, (.fields #[(.str (zs "output_line") 948), (.str (zs "CCITTG4Parser.output_line") 949), (.str (zs "/claim/cut.py") 950), (.int 225 0), (.int 3 0), (.int 0 0), (.int 0 0), (.int 3 0), (.ref 642), (.bool true), (.int 181 0), (.ref 643), .none, (.ref 644), (.ref 645), (.ref 646), (.int 954 0), (.int 225 0), (.str (zs "/claim/cut.py") 955)]), #[]⟩
noncomputable def o648_41 (P : Params) : Obj := ⟨(.type "function"), none, (.func (fd (sc 28 17) (zs "CCITTG4Parser.output_line") 3 .none .none .none (.str (zs "pdfminer.ccitt") 473) none (.ref 647) .none 0)), #[]⟩
noncomputable def o649_41 (P : Params) : Obj := ⟨(.type "tuple"), none, (.seq #[] 0), #[]⟩
noncomputable def o650_41 (P : Params) : Obj := ⟨.none, none, (.fields #[]), #[]⟩
noncomputable def o651_41 (P : Params) : Obj := ⟨(.type "tuple"), none, (.seq #[(.str (zs "self") 960)] 0), #[]⟩
noncomputable def o652_41 (P : Params) : Obj := ⟨(.type "tuple"), none, (.seq #[] 0), #[]⟩
noncomputable def o653_41 (P : Params) : Obj := ⟨.none, none, (.func (fd (sc 28 18) (zs "CCITTG4Parser._reset_line") 0 .none .none .none .none none .none .none 0)), #[]⟩
noncomputable def o654_41 (P : Params) : Obj := ⟨(.type "code"), none, (.fields #[(.str (zs "_reset_line") 957), (.str (zs "CCITTG4Parser._reset_line") 958), (.str (zs "/claim/cut.py") 959), (.int 228 0), (.int 1 0), (.int 0 0), (.int 0 0), (.int 3 0), (.ref 649), (.bool true), (.int 181 0), (.ref 650), .none, (.ref 651), (.ref 652), (.ref 653), (.int 961 0), (.int 228 0), (.str (zs "/claim/cut.py") 962)]), #[]⟩
noncomputable def o655_41 (P : Params) : Obj := ⟨(.type "function"), none, (.func (fd (sc 28 18) (zs "CCITTG4Parser._reset_line") 3 .none .none .none (.str (zs "pdfminer.ccitt") 473) none (.ref 654) .none 0)), #[]⟩
noncomputable def o656_41 (P : Params) : Obj := ⟨(.type "tuple"), none, (.seq #[] 0), #[]⟩
noncomputable def o657_41 (P : Params) : Obj := ⟨.none, none, (.fields #[]), #[]⟩
noncomputable def o658_41 (P : Params) : Obj := ⟨(.type "tuple"), none, (.seq #[(.str (zs "self") 967)] 0), #[]⟩
noncomputable def o659_41 (P : Params) : Obj := ⟨(.type "tuple"), none, (.seq #[] 0), #[]⟩
noncomputable def o660_41 (P : Params) : Obj := ⟨.none, none, (.func (fd (sc 28 19) (zs "CCITTG4Parser._flush_line") 0 .none .none .none .none none .none .none 0)), #[]⟩
noncomputable def o661_41 (P : Params) : Obj := ⟨(.type "code"), none, (.fields #[(.str (zs "_flush_line") 964), (.str (zs "CCITTG4Parser._flush_line") 965), (.str (zs "/claim/cut.py") 966), (.int 234 0), (.int 1 0), (.int 0 0), (.int 0 0), (.int 3 0), (.ref 656), (.bool true), (.int 181 0), (.ref 657), .none, (.ref 658), (.ref 659), (.ref 660), (.int 968 0), (.int 234 0), (.str (zs "/claim/cut.py") 969)]), #[]⟩
noncomputable def o662_41 (P : Params) : Obj := ⟨(.type "function"), none, (.func (fd (sc 28 19) (zs "CCITTG4Parser._flush_line") 3 .none .none .none (.str (zs "pdfminer.ccitt") 473) none (.ref 661) .none 0)), #[]⟩
noncomputable def o663_41 (P : Params) : Obj := ⟨(.type "tuple"), none, (.seq #[] 0), #[]⟩
noncomputable def o664_41 (P : Params) : Obj := ⟨.none, none, (.fields #[]), #[]⟩
noncomputable def o665_41 (P : Params) : Obj := ⟨(.type "tuple"), none, (.seq #[(.str (zs "self") 974), (.str (zs "dx") 975), (.str (zs "x1") 976), (.str (zs "x0") 977), (.str (zs "x") 978)] 0), #[]⟩
noncomputable def o666_41 (P : Params) : Obj := ⟨(.type "tuple"), none, (.seq #[] 0), #[]⟩
noncomputable def o667_41 (P : Params) : Obj := ⟨.none, none, (.func (fd (sc 28 20) (zs "CCITTG4Parser._do_vertical") 0 .none .none .none .none none .none .none 0)), #[]⟩
noncomputable def o668_41 (P : Params) : Obj := ⟨(.type "code"), none, (.fields #[(.str (zs "_do_vertical") 971), (.str (zs "CCITTG4Parser._do_vertical") 972), (.str (zs "/claim/cut.py") 973), (.int 242 0), (.int 2 0), (.int 0 0), (.int 0 0), (.int 3 0), (.ref 663), (.bool true), (.int 181 0), (.ref 664), .none, (.ref 665), (.ref 666), (.ref 667), (.int 979 0), (.int 242 0), (.str (zs "/claim/cut.py") 980)]), #[]⟩
noncomputable def o669_41 (P : Params) : Obj := ⟨(.type "function"), none, (.func (fd (sc 28 20) (zs "CCITTG4Parser._do_vertical") 3 .none .none .none (.str (zs "pdfminer.ccitt") 473) none (.ref 668) .none 0)), #[]⟩
noncomputable def o670_41 (P : Params) : Obj := ⟨(.type "tuple"), none, (.seq #[] 0), #[]⟩
noncomputable def o671_41 (P : Params) : Obj := ⟨.none, none, (.fields #[]), #[]⟩
noncomputable def o672_41 (P : Params) : Obj := ⟨(.type "tuple"), none, (.seq #[(.str (zs "self") 985), (.str (zs "x1") 986), (.str (zs "x") 987)] 0), #[]⟩
noncomputable def o673_41 (P : Params) : Obj := ⟨(.type "tuple"), none, (.seq #[] 0), #[]⟩
noncomputable def o674_41 (P : Params) : Obj := ⟨.none, none, (.func (fd (sc 28 21) (zs "CCITTG4Parser._do_pass") 0 .none .none .none .none none .none .none 0)), #[]⟩
noncomputable def o675_41 (P : Params) : Obj := ⟨(.type "code"), none, (.fields #[(.str (zs "_do_pass") 982), (.str (zs "CCITTG4Parser._do_pass") 983), (.str (zs "/claim/cut.py") 984), (.int 263 0), (.int 1 0), (.int 0 0), (.int 0 0), (.int 3 0), (.ref 670), (.bool true), (.int 181 0), (.ref 671), .none, (.ref 672), (.ref 673), (.ref 674), (.int 988 0), (.int 263 0), (.str (zs "/claim/cut.py") 989)]), #[]⟩
noncomputable def o676_41 (P : Params) : Obj := ⟨(.type "function"), none, (.func (fd (sc 28 21) (zs "CCITTG4Parser._do_pass") 3 .none .none .none (.str (zs "pdfminer.ccitt") 473) none (.ref 675) .none 0)), #[]⟩
noncomputable def o677_41 (P : Params) : Obj := ⟨(.type "tuple"), none, (.seq #[] 0), #[]⟩
noncomputable def o678_41 (P : Params) : Obj := ⟨.none, none, (.fields #[]), #[]⟩
noncomputable def o679_41 (P : Params) : Obj := ⟨(.type "tuple"), none, (.seq #[(.str (zs "self") 994), (.str (zs "n1") 995), (.str (zs "n2") 996), (.str (zs "x") 997), (.str (zs "_") 998)] 0), #[]⟩
noncomputable def o680_41 (P : Params) : Obj := ⟨(.type "tuple"), none, (.seq #[] 0), #[]⟩
noncomputable def o681_41 (P : Params) : Obj := ⟨.none, none, (.func (fd (sc 28 22) (zs "CCITTG4Parser._do_horizontal") 0 .none .none .none .none none .none .none 0)), #[]⟩
noncomputable def o682_41 (P : Params) : Obj := ⟨(.type "code"), none, (.fields #[(.str (zs "_do_horizontal") 991), (.str (zs "CCITTG4Parser._do_horizontal") 992), (.str (zs "/claim/cut.py") 993), (.int 283 0), (.int 3 0), (.int 0 0), (.int 0 0), (.int 3 0), (.ref 677), (.bool true), (.int 181 0), (.ref 678), .none, (.ref 679), (.ref 680), (.ref 681), (.int 999 0), (.int 283 0), (.str (zs "/claim/cut.py") 1000)]), #[]⟩
noncomputable def o683_41 (P : Params) : Obj := ⟨(.type "function"), none, (.func (fd (sc 28 22) (zs "CCITTG4Parser._do_horizontal") 3 .none .none .none (.str (zs "pdfminer.ccitt") 473) none (.ref 682) .none 0)), #[]⟩
noncomputable def o684_41 (P : Params) : Obj := ⟨(.type "tuple"), none, (.seq #[] 0), #[]⟩
noncomputable def o685_41 (P : Params) : Obj := ⟨.none, none, (.fields #[]), #[]⟩
noncomputable def o686_41 (P : Params) : Obj := ⟨(.type "tuple"), none, (.seq #[(.str (zs "self") 1005), (.str (zs "bits") 1006), (.str (zs "c") 1007)] 0), #[]⟩
noncomputable def o687_41 (P : Params) : Obj := ⟨(.type "tuple"), none, (.seq #[] 0), #[]⟩
noncomputable def o688_41 (P : Params) : Obj := ⟨.none, none, (.func (fd (sc 28 23) (zs "CCITTG4Parser._do_uncompressed") 0 .none .none .none .none none .none .none 0)), #[]⟩
noncomputable def o689_41 (P : Params) : Obj := ⟨(.type "code"), none, (.fields #[(.str (zs "_do_uncompressed") 1002), (.str (zs "CCITTG4Parser._do_uncompressed") 1003), (.str (zs "/claim/cut.py") 1004), (.int 299 0), (.int 2 0), (.int 0 0), (.int 0 0), (.int 3 0), (.ref 684), (.bool true), (.int 181 0), (.ref 685), .none, (.ref 686), (.ref 687), (.ref 688), (.int 1008 0), (.int 299 0), (.str (zs "/claim/cut.py") 1009)]), #[]⟩
noncomputable def o690_41 (P : Params) : Obj := ⟨(.type "function"), none, (.func (fd (sc 28 23) (zs "CCITTG4Parser._do_uncompressed") 3 .none .none .none (.str (zs "pdfminer.ccitt") 473) none (.ref 689) .none 0)), #[]⟩
noncomputable def o691_41 (P : Params) : Obj := ⟨(.type "tuple"), none, (.seq #[(.str (zs "_accept") 1011), (.str (zs "_color") 1012), (.str (zs "_curline") 1013), (.str (zs "_curpos") 1014), (.str (zs "_n1") 1015), (.str (zs "_n2") 1016), (.str (zs "_refline") 1017), (.str (zs "_state") 1018), (.str (zs "_y") 1019), (.str (zs "bytealign") 1020), (.str (zs "width") 1021)] 0), #[]⟩
noncomputable def o692_41 (P : Params) : Obj := ⟨(.type "dict"), none, (.dict #[en P "__module__" 559 (.str (zs "pdfminer.ccitt") 473), en P "__firstlineno__" 563 (.int 113 562), en P "MODE" 585 (.ref 307), en P "WHITE" 690 (.ref 411), en P "BLACK" 795 (.ref 515), en P "UNCOMPRESSED" 810 (.ref 529), en P "CCITTException" 826 (.ref 539), en P "EOFB" 842 (.ref 551), en P "InvalidData" 858 (.ref 563), en P "ByteSkip" 874 (.ref 575), en P "__init__" 883 (.ref 585), en P "feedbytes" 893 (.ref 592), en P "_parse_mode" 901 (.ref 599), en P "_parse_horiz1" 909 (.ref 606), en P "_parse_horiz2" 917 (.ref 613), en P "_parse_uncompressed" 925 (.ref 620), en P "_get_bits" 932 (.ref 627), en P "_get_refline" 940 (.ref 634), en P "reset" 947 (.ref 641), en P "output_line" 956 (.ref 648), en P "_reset_line" 963 (.ref 655), en P "_flush_line" 970 (.ref 662), en P "_do_vertical" 981 (.ref 669), en P "_do_pass" 990 (.ref 676), en P "_do_horizontal" 1001 (.ref 683), en P "_do_uncompressed" 1010 (.ref 690), en P "__static_attributes__" 1022 (.ref 691), en P "__doc__" 1023 .none] 2), #[]⟩
noncomputable def o693_41 (P : Params) : Obj := ⟨(.type "type"), none, (.cls ⟨(zs "CCITTG4Parser"), [(.ref 262)], [(.ref 693), (.ref 262), (.type "object")], 692, (zs "CCITTG4Parser"), true, [], [(.ref 725)], false, none, false⟩), #[some (.ref 267), none, some (.str (zs "CCITTG4Parser") 552), some (.str (zs "CCITTG4Parser") 560), some (.builtin "object.__new__"), some (.bool true)]⟩
noncomputable def o694_41 (P : Params) : Obj := ⟨(.type "super"), none, (.fields #[(.ref 693), (.ref 693), (.ref 693)]), #[]⟩
noncomputable def o695_41 (P : Params) : Obj := ⟨(.type "builtin_function_or_method"), none, (.fields #[(.builtin "object.__init_subclass__"), (.ref 693)]), #[]⟩
noncomputable def o696_41 (P : Params) : Obj := ⟨(.type "tuple"), none, (.seq #[(.ref 693)] 0), #[]⟩
noncomputable def o697_41 (P : Params) : Obj := ⟨(.type "builtin_function_or_method"), none, (.fields #[(.builtin "type.__prepare__"), (.type "type")]), #[]⟩
noncomputable def o698_41 (P : Params) : Obj := ⟨(.type "dict"), none, (.dict #[en P "__module__" 1033 (.str (zs "pdfminer.ccitt") 473), en P "__qualname__" 1035 (.str (zs "CCITTFaxDecoder") 1034), en P "__firstlineno__" 1037 (.int 304 1036), en P "__init__" 1047 (.ref 710), en P "close" 1054 (.ref 717), en P "output_line" 1060 (.ref 722), en P "__static_attributes__" 1063 (.ref 723)] 7), #[]⟩
noncomputable def o699_41 (P : Params) : Obj := ⟨(.type "tuple"), none, (.seq #[] 0), #[]⟩
noncomputable def o700_41 (P : Params) : Obj := ⟨.none, none, (.fields #[(.int 306 0), (.int 4 0), (.ref 709), (.int 311 0), (.int 4 0), (.ref 716), (.int 314 0), (.int 4 0), (.ref 721)]), #[]⟩
noncomputable def o701_41 (P : Params) : Obj := ⟨(.type "code"), none, (.fields #[(.str (zs "CCITTFaxDecoder") 1028), (.str (zs "CCITTFaxDecoder") 1029), (.str (zs "/claim/cut.py") 1030), (.int 304 0), (.int 0 0), (.int 0 0), (.int 0 0), (.int 0 0), (.ref 699), (.bool false), (.int 181 0), (.ref 700), .none, .none, .none, .none, (.int 1031 0), (.int 304 0), (.str (zs "/claim/cut.py") 1032)]), #[]⟩
noncomputable def o702_41 (P : Params) : Obj := ⟨(.type "frame"), none, .plain, #[some (.ref 701), some (.ref 3), some (.ref 698), none, some (.str (zs "pdfminer.ccitt") 473), none, some (.ref 0)]⟩
noncomputable def o703_41 (P : Params) : Obj := ⟨(.type "tuple"), none, (.seq #[(.bool false), (.bool false)] 0), #[]⟩
noncomputable def o704_41 (P : Params) : Obj := ⟨(.type "tuple"), none, (.seq #[] 0), #[]⟩
noncomputable def o705_41 (P : Params) : Obj := ⟨.none, none, (.fields #[]), #[]⟩
noncomputable def o706_41 (P : Params) : Obj := ⟨(.type "tuple"), none, (.seq #[(.str (zs "self") 1041), (.str (zs "width") 1042), (.str (zs "bytealign") 1043), (.str (zs "reversed") 1044)] 0), #[]⟩
noncomputable def o707_41 (P : Params) : Obj := ⟨(.type "tuple"), none, (.seq #[] 0), #[]⟩
noncomputable def o708_41 (P : Params) : Obj := ⟨.none, none, (.func (fd (sc 29 0) (zs "CCITTFaxDecoder.__init__") 0 .none .none .none .none none .none .none 0)), #[]⟩
noncomputable def o709_41 (P : Params) : Obj := ⟨(.type "code"), none, (.fields #[(.str (zs "__init__") 1038), (.str (zs "CCITTFaxDecoder.__init__") 1039), (.str (zs "/claim/cut.py") 1040), (.int 306 0), (.int 4 0), (.int 0 0), (.int 0 0), (.int 3 0), (.ref 704), (.bool true), (.int 181 0), (.ref 705), .none, (.ref 706), (.ref 707), (.ref 708), (.int 1045 0), (.int 306 0), (.str (zs "/claim/cut.py") 1046)]), #[]⟩
noncomputable def o710_41 (P : Params) : Obj := ⟨(.type "function"), none, (.func (fd (sc 29 0) (zs "CCITTFaxDecoder.__init__") 3 (.ref 703) .none .none (.str (zs "pdfminer.ccitt") 473) none (.ref 709) .none 0)), #[]⟩
noncomputable def o711_41 (P : Params) : Obj := ⟨(.type "tuple"), none, (.seq #[] 0), #[]⟩
noncomputable def o712_41 (P : Params) : Obj := ⟨.none, none, (.fields #[]), #[]⟩
noncomputable def o713_41 (P : Params) : Obj := ⟨(.type "tuple"), none, (.seq #[(.str (zs "self") 1051)] 0), #[]⟩
noncomputable def o714_41 (P : Params) : Obj := ⟨(.type "tuple"), none, (.seq #[] 0), #[]⟩
noncomputable def o715_41 (P : Params) : Obj := ⟨.none, none, (.func (fd (sc 29 1) (zs "CCITTFaxDecoder.close") 0 .none .none .none .none none .none .none 0)), #[]⟩
noncomputable def o716_41 (P : Params) : Obj := ⟨(.type "code"), none, (.fields #[(.str (zs "close") 1048), (.str (zs "CCITTFaxDecoder.close") 1049), (.str (zs "/claim/cut.py") 1050), (.int 311 0), (.int 1 0), (.int 0 0), (.int 0 0), (.int 3 0), (.ref 711), (.bool true), (.int 181 0), (.ref 712), .none, (.ref 713), (.ref 714), (.ref 715), (.int 1052 0), (.int 311 0), (.str (zs "/claim/cut.py") 1053)]), #[]⟩
noncomputable def o717_41 (P : Params) : Obj := ⟨(.type "function"), none, (.func (fd (sc 29 1) (zs "CCITTFaxDecoder.close") 3 .none .none .none (.str (zs "pdfminer.ccitt") 473) none (.ref 716) .none 0)), #[]⟩
noncomputable def o718_41 (P : Params) : Obj := ⟨(.type "tuple"), none, (.seq #[] 0), #[]⟩
noncomputable def o719_41 (P : Params) : Obj := ⟨.none, none, (.fields #[]), #[]⟩
noncomputable def o720_41 (P : Params) : Obj := ⟨.none, none, (.func (fd (sc 29 2) (zs "CCITTFaxDecoder.output_line") 0 .none .none .none .none none .none .none 0)), #[]⟩
noncomputable def o721_41 (P : Params) : Obj := ⟨(.type "code"), none, (.fields #[(.str (zs "output_line") 1055), (.str (zs "CCITTFaxDecoder.output_line") 1056), (.str (zs "/claim/cut.py") 1057), (.int 314 0), (.int 3 0), (.int 0 0), (.int 0 0), (.int 3 0), (.ref 718), (.bool true), (.int 181 0), (.ref 719), .none, .none, .none, (.ref 720), (.int 1058 0), (.int 314 0), (.str (zs "/claim/cut.py") 1059)]), #[]⟩
noncomputable def o722_41 (P : Params) : Obj := ⟨(.type "function"), none, (.func (fd (sc 29 2) (zs "CCITTFaxDecoder.output_line") 3 .none .none .none (.str (zs "pdfminer.ccitt") 473) none (.ref 721) .none 0)), #[]⟩
noncomputable def o723_41 (P : Params) : Obj := ⟨(.type "tuple"), none, (.seq #[(.str (zs "_buf") 1061), (.str (zs "reversed") 1062)] 0), #[]⟩
noncomputable def o724_41 (P : Params) : Obj := ⟨(.type "dict"), none, (.dict #[en P "__module__" 1033 (.str (zs "pdfminer.ccitt") 473), en P "__firstlineno__" 1037 (.int 304 1036), en P "__init__" 1047 (.ref 710), en P "close" 1054 (.ref 717), en P "output_line" 1060 (.ref 722), en P "__static_attributes__" 1063 (.ref 723), en P "__doc__" 1064 .none] 2), #[]⟩
noncomputable def o725_41 (P : Params) : Obj := ⟨(.type "type"), none, (.cls ⟨(zs "CCITTFaxDecoder"), [(.ref 693)], [(.ref 725), (.ref 693), (.ref 262), (.type "object")], 724, (zs "CCITTFaxDecoder"), true, [], [], false, none, false⟩), #[some (.ref 696), none, some (.str (zs "CCITTFaxDecoder") 1026), some (.str (zs "CCITTFaxDecoder") 1034), some (.builtin "object.__new__"), some (.bool true)]⟩
noncomputable def o726_41 (P : Params) : Obj := ⟨(.type "super"), none, (.fields #[(.ref 725), (.ref 725), (.ref 725)]), #[]⟩
noncomputable def o727_41 (P : Params) : Obj := ⟨(.type "builtin_function_or_method"), none, (.fields #[(.builtin "object.__init_subclass__"), (.ref 725)]), #[]⟩
noncomputable def o728_41 (P : Params) : Obj := ⟨(.type "tuple"), none, (.seq #[] 0), #[]⟩
noncomputable def o729_41 (P : Params) : Obj := ⟨.none, none, (.fields #[]), #[]⟩
noncomputable def o730_41 (P : Params) : Obj := ⟨(.type "tuple"), none, (.seq #[(.str (zs "data") 1070), (.str (zs "params") 1071), (.str (zs "K") 1072), (.str (zs "cols") 1073), (.str (zs "bytealign") 1074), (.str (zs "reversed") 1075), (.str (zs "parser") 1076)] 0), #[]⟩
noncomputable def o731_41 (P : Params) : Obj := ⟨(.type "tuple"), none, (.seq #[] 0), #[]⟩
noncomputable def o732_41 (P : Params) : Obj := ⟨.none, none, (.func (fd (st 30) (zs "ccittfaxdecode") 0 .none .none .none .none none .none .none 0)), #[]⟩
noncomputable def o733_41 (P : Params) : Obj := ⟨(.type "code"), none, (.fields #[(.str (zs "ccittfaxdecode") 1067), (.str (zs "ccittfaxdecode") 1068), (.str (zs "/claim/cut.py") 1069), (.int 322 0), (.int 2 0), (.int 0 0), (.int 0 0), (.int 3 0), (.ref 728), (.bool true), (.int 181 0), (.ref 729), .none, (.ref 730), (.ref 731), (.ref 732), (.int 1077 0), (.int 322 0), (.str (zs "/claim/cut.py") 1078)]), #[]⟩
noncomputable def o734_41 (P : Params) : Obj := ⟨(.type "function"), none, (.func (fd (st 30) (zs "ccittfaxdecode") 3 .none .none .none (.str (zs "pdfminer.ccitt") 473) none (.ref 733) .none 0)), #[]⟩
noncomputable def o735_41 (P : Params) : Obj := ⟨(.type "tuple"), none, (.seq #[(.ref 140)] 0), #[]⟩
noncomputable def o736_41 (P : Params) : Obj := ⟨(.type "builtin_function_or_method"), none, (.fields #[(.builtin "type.__prepare__"), (.type "type")]), #[]⟩
noncomputable def o737_41 (P : Params) : Obj := ⟨(.type "dict"), none, (.dict #[en P "__module__" 1089 (.str (zs "pdfminer.lzw") 1080), en P "__qualname__" 1091 (.str (zs "CorruptDataError") 1090), en P "__firstlineno__" 1093 (.int 334 1092), en P "__static_attributes__" 1094 (.ref 742)] 4), #[]⟩
noncomputable def o738_41 (P : Params) : Obj := ⟨(.type "tuple"), none, (.seq #[] 0), #[]⟩
noncomputable def o739_41 (P : Params) : Obj := ⟨.none, none, (.fields #[]), #[]⟩
noncomputable def o740_41 (P : Params) : Obj := ⟨(.type "code"), none, (.fields #[(.str (zs "CorruptDataError") 1084), (.str (zs "CorruptDataError") 1085), (.str (zs "/claim/cut.py") 1086), (.int 334 0), (.int 0 0), (.int 0 0), (.int 0 0), (.int 0 0), (.ref 738), (.bool false), (.int 181 0), (.ref 739), .none, .none, .none, .none, (.int 1087 0), (.int 334 0), (.str (zs "/claim/cut.py") 1088)]), #[]⟩
noncomputable def o741_41 (P : Params) : Obj := ⟨(.type "frame"), none, .plain, #[some (.ref 740), some (.ref 3), some (.ref 737), none, some (.str (zs "pdfminer.lzw") 1080), none, some (.ref 0)]⟩
noncomputable def o742_41 (P : Params) : Obj := ⟨(.type "tuple"), none, (.seq #[] 0), #[]⟩
noncomputable def o743_41 (P : Params) : Obj := ⟨(.type "dict"), none, (.dict #[en P "__module__" 1089 (.str (zs "pdfminer.lzw") 1080), en P "__firstlineno__" 1093 (.int 334 1092), en P "__static_attributes__" 1094 (.ref 742), en P "__doc__" 1095 .none] 2), #[]⟩
noncomputable def o744_41 (P : Params) : Obj := ⟨(.type "type"), none, (.cls ⟨(zs "CorruptDataError"), [(.ref 140)], [(.ref 744), (.ref 140), (.ref 127), (.type "Exception"), (.type "BaseException"), (.type "object")], 743, (zs "CorruptDataError"), true, [], [], false, none, false⟩), #[some (.ref 735), none, some (.str (zs "CorruptDataError") 1082), some (.str (zs "CorruptDataError") 1090), some (.builtin "Exception.__new__"), some (.bool true)]⟩
noncomputable def o745_41 (P : Params) : Obj := ⟨(.type "super"), none, (.fields #[(.ref 744), (.ref 744), (.ref 744)]), #[]⟩
noncomputable def o746_41 (P : Params) : Obj := ⟨(.type "builtin_function_or_method"), none, (.fields #[(.builtin "object.__init_subclass__"), (.ref 744)]), #[]⟩
noncomputable def o747_41 (P : Params) : Obj := ⟨(.type "tuple"), none, (.seq #[] 0), #[]⟩
noncomputable def o748_41 (P : Params) : Obj := ⟨(.type "builtin_function_or_method"), none, (.fields #[(.builtin "type.__prepare__"), (.type "type")]), #[]⟩
noncomputable def o749_41 (P : Params) : Obj := ⟨(.type "dict"), none, (.dict #[en P "__module__" 1105 (.str (zs "pdfminer.lzw") 1080), en P "__qualname__" 1107 (.str (zs "LZWDecoder") 1106), en P "__firstlineno__" 1109 (.int 336 1108), en P "__init__" 1117 (.ref 760), en P "readbits" 1128 (.ref 767), en P "feed" 1134 (.ref 772), en P "run" 1143 (.ref 779), en P "__static_attributes__" 1150 (.ref 780)] 8), #[]⟩
noncomputable def o750_41 (P : Params) : Obj := ⟨(.type "tuple"), none, (.seq #[] 0), #[]⟩
noncomputable def o751_41 (P : Params) : Obj := ⟨.none, none, (.fields #[(.int 338 0), (.int 4 0), (.ref 759), (.int 346 0), (.int 4 0), (.ref 766), (.int 364 0), (.int 4 0), (.ref 771), (.int 395 0), (.int 4 0), (.ref 778)]), #[]⟩
noncomputable def o752_41 (P : Params) : Obj := ⟨(.type "code"), none, (.fields #[(.str (zs "LZWDecoder") 1100), (.str (zs "LZWDecoder") 1101), (.str (zs "/claim/cut.py") 1102), (.int 336 0), (.int 0 0), (.int 0 0), (.int 0 0), (.int 0 0), (.ref 750), (.bool false), (.int 181 0), (.ref 751), .none, .none, .none, .none, (.int 1103 0), (.int 336 0), (.str (zs "/claim/cut.py") 1104)]), #[]⟩
noncomputable def o753_41 (P : Params) : Obj := ⟨(.type "frame"), none, .plain, #[some (.ref 752), some (.ref 3), some (.ref 749), none, some (.str (zs "pdfminer.lzw") 1080), none, some (.ref 0)]⟩
noncomputable def o754_41 (P : Params) : Obj := ⟨(.type "tuple"), none, (.seq #[] 0), #[]⟩
noncomputable def o755_41 (P : Params) : Obj := ⟨.none, none, (.fields #[]), #[]⟩
noncomputable def o756_41 (P : Params) : Obj := ⟨(.type "tuple"), none, (.seq #[(.str (zs "self") 1113), (.str (zs "fp") 1114)] 0), #[]⟩
noncomputable def o757_41 (P : Params) : Obj := ⟨(.type "tuple"), none, (.seq #[] 0), #[]⟩
noncomputable def o758_41 (P : Params) : Obj := ⟨.none, none, (.func (fd (sc 33 0) (zs "LZWDecoder.__init__") 0 .none .none .none .none none .none .none 0)), #[]⟩
noncomputable def o759_41 (P : Params) : Obj := ⟨(.type "code"), none, (.fields #[(.str (zs "__init__") 1110), (.str (zs "LZWDecoder.__init__") 1111), (.str (zs "/claim/cut.py") 1112), (.int 338 0), (.int 2 0), (.int 0 0), (.int 0 0), (.int 3 0), (.ref 754), (.bool true), (.int 181 0), (.ref 755), .none, (.ref 756), (.ref 757), (.ref 758), (.int 1115 0), (.int 338 0), (.str (zs "/claim/cut.py") 1116)]), #[]⟩
noncomputable def o760_41 (P : Params) : Obj := ⟨(.type "function"), none, (.func (fd (sc 33 0) (zs "LZWDecoder.__init__") 3 .none .none .none (.str (zs "pdfminer.lzw") 1080) none (.ref 759) .none 0)), #[]⟩
noncomputable def o761_41 (P : Params) : Obj := ⟨(.type "tuple"), none, (.seq #[] 0), #[]⟩
noncomputable def o762_41 (P : Params) : Obj := ⟨.none, none, (.fields #[]), #[]⟩
noncomputable def o763_41 (P : Params) : Obj := ⟨(.type "tuple"), none, (.seq #[(.str (zs "self") 1121), (.str (zs "bits") 1122), (.str (zs "v") 1123), (.str (zs "r") 1124), (.str (zs "x") 1125)] 0), #[]⟩
noncomputable def o764_41 (P : Params) : Obj := ⟨(.type "tuple"), none, (.seq #[] 0), #[]⟩
noncomputable def o765_41 (P : Params) : Obj := ⟨.none, none, (.func (fd (sc 33 1) (zs "LZWDecoder.readbits") 0 .none .none .none .none none .none .none 0)), #[]⟩
noncomputable def o766_41 (P : Params) : Obj := ⟨(.type "code"), none, (.fields #[(.str (zs "readbits") 1118), (.str (zs "LZWDecoder.readbits") 1119), (.str (zs "/claim/cut.py") 1120), (.int 346 0), (.int 2 0), (.int 0 0), (.int 0 0), (.int 3 0), (.ref 761), (.bool true), (.int 181 0), (.ref 762), .none, (.ref 763), (.ref 764), (.ref 765), (.int 1126 0), (.int 346 0), (.str (zs "/claim/cut.py") 1127)]), #[]⟩
noncomputable def o767_41 (P : Params) : Obj := ⟨(.type "function"), none, (.func (fd (sc 33 1) (zs "LZWDecoder.readbits") 3 .none .none .none (.str (zs "pdfminer.lzw") 1080) none (.ref 766) .none 0)), #[]⟩
noncomputable def o768_41 (P : Params) : Obj := ⟨(.type "tuple"), none, (.seq #[] 0), #[]⟩
noncomputable def o769_41 (P : Params) : Obj := ⟨.none, none, (.fields #[]), #[]⟩
noncomputable def o770_41 (P : Params) : Obj := ⟨.none, none, (.func (fd (sc 33 2) (zs "LZWDecoder.feed") 0 .none .none .none .none none .none .none 0)), #[]⟩
noncomputable def o771_41 (P : Params) : Obj := ⟨(.type "code"), none, (.fields #[(.str (zs "feed") 1129), (.str (zs "LZWDecoder.feed") 1130), (.str (zs "/claim/cut.py") 1131), (.int 364 0), (.int 2 0), (.int 0 0), (.int 0 0), (.int 3 0), (.ref 768), (.bool true), (.int 181 0), (.ref 769), .none, .none, .none, (.ref 770), (.int 1132 0), (.int 364 0), (.str (zs "/claim/cut.py") 1133)]), #[]⟩
noncomputable def o772_41 (P : Params) : Obj := ⟨(.type "function"), none, (.func (fd (sc 33 2) (zs "LZWDecoder.feed") 3 .none .none .none (.str (zs "pdfminer.lzw") 1080) none (.ref 771) .none 0)), #[]⟩
noncomputable def o773_41 (P : Params) : Obj := ⟨(.type "tuple"), none, (.seq #[] 0), #[]⟩
noncomputable def o774_41 (P : Params) : Obj := ⟨.none, none, (.fields #[]), #[]⟩
noncomputable def o775_41 (P : Params) : Obj := ⟨(.type "tuple"), none, (.seq #[(.str (zs "self") 1138), (.str (zs "code") 1139), (.str (zs "x") 1140)] 0), #[]⟩
noncomputable def o776_41 (P : Params) : Obj := ⟨(.type "tuple"), none, (.seq #[] 0), #[]⟩
noncomputable def o777_41 (P : Params) : Obj := ⟨.none, none, (.func (fd (sc 33 3) (zs "LZWDecoder.run") 0 .none .none .none .none none .none .none 0)), #[]⟩
noncomputable def o778_41 (P : Params) : Obj := ⟨(.type "code"), none, (.fields #[(.str (zs "run") 1135), (.str (zs "LZWDecoder.run") 1136), (.str (zs "/claim/cut.py") 1137), (.int 395 0), (.int 1 0), (.int 0 0), (.int 0 0), (.int 35 0), (.ref 773), (.bool true), (.int 181 0), (.ref 774), .none, (.ref 775), (.ref 776), (.ref 777), (.int 1141 0), (.int 395 0), (.str (zs "/claim/cut.py") 1142)]), #[]⟩
noncomputable def o779_41 (P : Params) : Obj := ⟨(.type "function"), none, (.func (fd (sc 33 3) (zs "LZWDecoder.run") 3 .none .none .none (.str (zs "pdfminer.lzw") 1080) none (.ref 778) .none 0)), #[]⟩
noncomputable def o780_41 (P : Params) : Obj := ⟨(.type "tuple"), none, (.seq #[(.str (zs "bpos") 1144), (.str (zs "buff") 1145), (.str (zs "fp") 1146), (.str (zs "nbits") 1147), (.str (zs "prevbuf") 1148), (.str (zs "table") 1149)] 0), #[]⟩
noncomputable def o781_41 (P : Params) : Obj := ⟨(.type "dict"), none, (.dict #[en P "__module__" 1105 (.str (zs "pdfminer.lzw") 1080), en P "__firstlineno__" 1109 (.int 336 1108), en P "__init__" 1117 (.ref 760), en P "readbits" 1128 (.ref 767), en P "feed" 1134 (.ref 772), en P "run" 1143 (.ref 779), en P "__static_attributes__" 1150 (.ref 780), en P "__dict__" 1152 (.ref 783), en P "__weakref__" 1154 (.ref 784), en P "__doc__" 1155 .none] 4), #[]⟩
noncomputable def o782_41 (P : Params) : Obj := ⟨(.type "type"), none, (.cls ⟨(zs "LZWDecoder"), [(.type "object")], [(.ref 782), (.type "object")], 781, (zs "LZWDecoder"), true, [], [], false, none, false⟩), #[none, none, some (.str (zs "LZWDecoder") 1098), some (.str (zs "LZWDecoder") 1106), some (.builtin "object.__new__"), some (.bool true)]⟩
noncomputable def o783_41 (P : Params) : Obj := ⟨(.type "getset_descriptor"), none, (.fields #[(.str (zs "__dict__") 1151), (.ref 782), (.builtin "function.__dict__"), (.builtin "function.__dict__#set")]), #[]⟩
noncomputable def o784_41 (P : Params) : Obj := ⟨(.type "getset_descriptor"), none, (.fields #[(.str (zs "__weakref__") 1153), (.ref 782), (.builtin "ExceptionGroup.__weakref__"), .none]), #[]⟩
noncomputable def o785_41 (P : Params) : Obj := ⟨(.type "super"), none, (.fields #[(.ref 782), (.ref 782), (.ref 782)]), #[]⟩
noncomputable def o786_41 (P : Params) : Obj := ⟨(.type "builtin_function_or_method"), none, (.fields #[(.builtin "object.__init_subclass__"), (.ref 782)]), #[]⟩
noncomputable def o787_41 (P : Params) : Obj := ⟨(.type "tuple"), none, (.seq #[] 0), #[]⟩
noncomputable def o788_41 (P : Params) : Obj := ⟨.none, none, (.fields #[]), #[]⟩
noncomputable def o789_41 (P : Params) : Obj := ⟨(.type "tuple"), none, (.seq #[(.str (zs "n") 1163), (.str (zs "what") 1164)] 0), #[]⟩
noncomputable def o790_41 (P : Params) : Obj := ⟨(.type "tuple"), none, (.seq #[] 0), #[]⟩
noncomputable def o791_41 (P : Params) : Obj := ⟨.none, none, (.func (fd (st 35) (zs "_whence") 0 .none .none .none .none none .none .none 0)), #[]⟩
noncomputable def o792_41 (P : Params) : Obj := ⟨(.type "code"), none, (.fields #[(.str (zs "_whence") 1160), (.str (zs "_whence") 1161), (.str (zs "/claim/cut.py") 1162), (.int 407 0), (.int 2 0), (.int 0 0), (.int 0 0), (.int 3 0), (.ref 787), (.bool true), (.int 181 0), (.ref 788), .none, (.ref 789), (.ref 790), (.ref 791), (.int 1165 0), (.int 407 0), (.str (zs "/claim/cut.py") 1166)]), #[]⟩
noncomputable def o793_41 (P : Params) : Obj := ⟨(.type "function"), none, (.func (fd (st 35) (zs "_whence") 3 .none .none .none (.str (zs "io") 1158) none (.ref 792) .none 0)), #[]⟩
noncomputable def o794_41 (P : Params) : Obj := ⟨(.type "tuple"), none, (.seq #[] 0), #[]⟩
noncomputable def o795_41 (P : Params) : Obj := ⟨.none, none, (.fields #[]), #[]⟩
noncomputable def o796_41 (P : Params) : Obj := ⟨(.type "tuple"), none, (.seq #[(.str (zs "n") 1171), (.str (zs "what") 1172)] 0), #[]⟩
noncomputable def o797_41 (P : Params) : Obj := ⟨(.type "tuple"), none, (.seq #[] 0), #[]⟩
noncomputable def o798_41 (P : Params) : Obj := ⟨.none, none, (.func (fd (st 36) (zs "_index") 0 .none .none .none .none none .none .none 0)), #[]⟩
noncomputable def o799_41 (P : Params) : Obj := ⟨(.type "code"), none, (.fields #[(.str (zs "_index") 1168), (.str (zs "_index") 1169), (.str (zs "/claim/cut.py") 1170), (.int 412 0), (.int 2 0), (.int 0 0), (.int 0 0), (.int 3 0), (.ref 794), (.bool true), (.int 181 0), (.ref 795), .none, (.ref 796), (.ref 797), (.ref 798), (.int 1173 0), (.int 412 0), (.str (zs "/claim/cut.py") 1174)]), #[]⟩
noncomputable def o800_41 (P : Params) : Obj := ⟨(.type "function"), none, (.func (fd (st 36) (zs "_index") 3 .none .none .none (.str (zs "io") 1158) none (.ref 799) .none 0)), #[]⟩
noncomputable def o801_41 (P : Params) : Obj := ⟨(.type "tuple"), none, (.seq #[(.type "OSError"), (.type "ValueError")] 0), #[]⟩
noncomputable def o802_41 (P : Params) : Obj := ⟨(.type "builtin_function_or_method"), none, (.fields #[(.builtin "type.__prepare__"), (.type "type")]), #[]⟩
noncomputable def o803_41 (P : Params) : Obj := ⟨(.type "dict"), none, (.dict #[en P "__module__" 1183 (.str (zs "io") 1188), en P "__qualname__" 1185 (.str (zs "UnsupportedOperation") 1184), en P "__firstlineno__" 1187 (.int 419 1186), en P "__static_attributes__" 1190 (.ref 808)] 4), #[]⟩
noncomputable def o804_41 (P : Params) : Obj := ⟨(.type "tuple"), none, (.seq #[] 0), #[]⟩
noncomputable def o805_41 (P : Params) : Obj := ⟨.none, none, (.fields #[]), #[]⟩
noncomputable def o806_41 (P : Params) : Obj := ⟨(.type "code"), none, (.fields #[(.str (zs "UnsupportedOperation") 1178), (.str (zs "UnsupportedOperation") 1179), (.str (zs "/claim/cut.py") 1180), (.int 419 0), (.int 0 0), (.int 0 0), (.int 0 0), (.int 0 0), (.ref 804), (.bool false), (.int 181 0), (.ref 805), .none, .none, .none, .none, (.int 1181 0), (.int 419 0), (.str (zs "/claim/cut.py") 1182)]), #[]⟩
noncomputable def o807_41 (P : Params) : Obj := ⟨(.type "frame"), none, .plain, #[some (.ref 806), some (.ref 3), some (.ref 803), none, some (.str (zs "io") 1158), none, some (.ref 0)]⟩
noncomputable def o808_41 (P : Params) : Obj := ⟨(.type "tuple"), none, (.seq #[] 0), #[]⟩
noncomputable def o809_41 (P : Params) : Obj := ⟨(.type "dict"), none, (.dict #[en P "__module__" 1183 (.str (zs "io") 1188), en P "__firstlineno__" 1187 (.int 419 1186), en P "__static_attributes__" 1190 (.ref 808), en P "__weakref__" 1192 (.ref 811), en P "__doc__" 1193 .none] 3), #[]⟩
noncomputable def o810_41 (P : Params) : Obj := ⟨(.type "type"), none, (.cls ⟨(zs "UnsupportedOperation"), [(.type "OSError"), (.type "ValueError")], [(.ref 810), (.type "OSError"), (.type "ValueError"), (.type "Exception"), (.type "BaseException"), (.type "object")], 809, (zs "UnsupportedOperation"), true, [], [], false, none, false⟩), #[some (.ref 801), none, some (.str (zs "UnsupportedOperation") 1176), some (.str (zs "UnsupportedOperation") 1184), some (.builtin "OSError.__new__"), some (.bool true)]⟩
noncomputable def o811_41 (P : Params) : Obj := ⟨(.type "getset_descriptor"), none, (.fields #[(.str (zs "__weakref__") 1191), (.ref 810), (.builtin "ExceptionGroup.__weakref__"), .none]), #[]⟩
noncomputable def o812_41 (P : Params) : Obj := ⟨(.type "super"), none, (.fields #[(.ref 810), (.ref 810), (.ref 810)]), #[]⟩
noncomputable def o813_41 (P : Params) : Obj := ⟨(.type "builtin_function_or_method"), none, (.fields #[(.builtin "object.__init_subclass__"), (.ref 810)]), #[]⟩
noncomputable def o814_41 (P : Params) : Obj := ⟨(.type "tuple"), none, (.seq #[] 0), #[]⟩
noncomputable def o815_41 (P : Params) : Obj := ⟨(.type "builtin_function_or_method"), none, (.fields #[(.builtin "type.__prepare__"), (.type "type")]), #[]⟩
noncomputable def o816_41 (P : Params) : Obj := ⟨(.type "dict"), none, (.dict #[en P "__module__" 1205 (.str (zs "io") 1210), en P "__qualname__" 1207 (.str (zs "IOBase") 1206), en P "__firstlineno__" 1209 (.int 421 1208), en P "__new__" 1220 (.ref 827), en P "__static_attributes__" 1221 (.ref 828)] 5), #[]⟩
noncomputable def o817_41 (P : Params) : Obj := ⟨(.type "tuple"), none, (.seq #[] 0), #[]⟩
noncomputable def o818_41 (P : Params) : Obj := ⟨.none, none, (.fields #[(.int 424 0), (.int 4 0), (.ref 826)]), #[]⟩
noncomputable def o819_41 (P : Params) : Obj := ⟨(.type "code"), none, (.fields #[(.str (zs "IOBase") 1200), (.str (zs "IOBase") 1201), (.str (zs "/claim/cut.py") 1202), (.int 421 0), (.int 0 0), (.int 0 0), (.int 0 0), (.int 0 0), (.ref 817), (.bool false), (.int 181 0), (.ref 818), .none, .none, .none, .none, (.int 1203 0), (.int 421 0), (.str (zs "/claim/cut.py") 1204)]), #[]⟩
noncomputable def o820_41 (P : Params) : Obj := ⟨(.type "frame"), none, .plain, #[some (.ref 819), some (.ref 3), some (.ref 816), none, some (.str (zs "io") 1158), none, some (.ref 0)]⟩
noncomputable def o821_41 (P : Params) : Obj := ⟨(.type "tuple"), none, (.seq #[] 0), #[]⟩
noncomputable def o822_41 (P : Params) : Obj := ⟨.none, none, (.fields #[]), #[]⟩
noncomputable def o823_41 (P : Params) : Obj := ⟨(.type "tuple"), none, (.seq #[(.str (zs "cls") 1215), (.str (zs "args") 1216), (.str (zs "kwargs") 1217)] 0), #[]⟩
noncomputable def o824_41 (P : Params) : Obj := ⟨(.type "tuple"), none, (.seq #[] 0), #[]⟩
noncomputable def o825_41 (P : Params) : Obj := ⟨.none, none, (.func (fd (sc 38 1) (zs "IOBase.__new__") 0 .none .none .none .none none .none .none 0)), #[]⟩
noncomputable def o826_41 (P : Params) : Obj := ⟨(.type "code"), none, (.fields #[(.str (zs "__new__") 1212), (.str (zs "IOBase.__new__") 1213), (.str (zs "/claim/cut.py") 1214), (.int 424 0), (.int 1 0), (.int 1 0), (.int 0 0), (.int 15 0), (.ref 821), (.bool true), (.int 181 0), (.ref 822), .none, (.ref 823), (.ref 824), (.ref 825), (.int 1218 0), (.int 424 0), (.str (zs "/claim/cut.py") 1219)]), #[]⟩
noncomputable def o827_41 (P : Params) : Obj := ⟨(.type "function"), none, (.func (fd (sc 38 1) (zs "IOBase.__new__") 3 .none .none .none (.str (zs "io") 1158) none (.ref 826) .none 0)), #[]⟩
noncomputable def o828_41 (P : Params) : Obj := ⟨(.type "tuple"), none, (.seq #[] 0), #[]⟩
noncomputable def o829_41 (P : Params) : Obj := ⟨(.type "dict"), none, (.dict #[en P "__module__" 1205 (.str (zs "io") 1210), en P "__firstlineno__" 1209 (.int 421 1208), en P "__new__" 1220 (.ref 831), en P "__static_attributes__" 1221 (.ref 828), en P "__dict__" 1224 (.ref 832), en P "__weakref__" 1226 (.ref 833), en P "__doc__" 1227 .none] 4), #[]⟩
noncomputable def o830_41 (P : Params) : Obj := ⟨(.type "type"), none, (.cls ⟨(zs "IOBase"), [(.type "object")], [(.ref 830), (.type "object")], 829, (zs "IOBase"), true, [], [(.ref 845), (.ref 857)], false, none, false⟩), #[none, none, some (.str (zs "IOBase") 1198), some (.str (zs "IOBase") 1206), some .none, some (.bool true)]⟩
noncomputable def o831_41 (P : Params) : Obj := ⟨(.type "staticmethod"), none, (.fields #[(.ref 827)]), #[]⟩
noncomputable def o832_41 (P : Params) : Obj := ⟨(.type "getset_descriptor"), none, (.fields #[(.str (zs "__dict__") 1223), (.ref 830), (.builtin "function.__dict__"), (.builtin "function.__dict__#set")]), #[]⟩
noncomputable def o833_41 (P : Params) : Obj := ⟨(.type "getset_descriptor"), none, (.fields #[(.str (zs "__weakref__") 1225), (.ref 830), (.builtin "ExceptionGroup.__weakref__"), .none]), #[]⟩
noncomputable def o834_41 (P : Params) : Obj := ⟨(.type "super"), none, (.fields #[(.ref 830), (.ref 830), (.ref 830)]), #[]⟩
noncomputable def o835_41 (P : Params) : Obj := ⟨(.type "builtin_function_or_method"), none, (.fields #[(.builtin "object.__init_subclass__"), (.ref 830)]), #[]⟩
noncomputable def o836_41 (P : Params) : Obj := ⟨(.type "tuple"), none, (.seq #[(.ref 830)] 0), #[]⟩
noncomputable def o837_41 (P : Params) : Obj := ⟨(.type "builtin_function_or_method"), none, (.fields #[(.builtin "type.__prepare__"), (.type "type")]), #[]⟩
noncomputable def o838_41 (P : Params) : Obj := ⟨(.type "dict"), none, (.dict #[en P "__module__" 1237 (.str (zs "io") 1242), en P "__qualname__" 1239 (.str (zs "BufferedIOBase") 1238), en P "__firstlineno__" 1241 (.int 428 1240), en P "__static_attributes__" 1244 (.ref 843)] 4), #[]⟩
noncomputable def o839_41 (P : Params) : Obj := ⟨(.type "tuple"), none, (.seq #[] 0), #[]⟩
noncomputable def o840_41 (P : Params) : Obj := ⟨.none, none, (.fields #[]), #[]⟩
noncomputable def o841_41 (P : Params) : Obj := ⟨(.type "code"), none, (.fields #[(.str (zs "BufferedIOBase") 1232), (.str (zs "BufferedIOBase") 1233), (.str (zs "/claim/cut.py") 1234), (.int 428 0), (.int 0 0), (.int 0 0), (.int 0 0), (.int 0 0), (.ref 839), (.bool false), (.int 181 0), (.ref 840), .none, .none, .none, .none, (.int 1235 0), (.int 428 0), (.str (zs "/claim/cut.py") 1236)]), #[]⟩
noncomputable def o842_41 (P : Params) : Obj := ⟨(.type "frame"), none, .plain, #[some (.ref 841), some (.ref 3), some (.ref 838), none, some (.str (zs "io") 1158), none, some (.ref 0)]⟩
noncomputable def o843_41 (P : Params) : Obj := ⟨(.type "tuple"), none, (.seq #[] 0), #[]⟩
noncomputable def o844_41 (P : Params) : Obj := ⟨(.type "dict"), none, (.dict #[en P "__module__" 1237 (.str (zs "io") 1242), en P "__firstlineno__" 1241 (.int 428 1240), en P "__static_attributes__" 1244 (.ref 843), en P "__doc__" 1245 .none] 2), #[]⟩
noncomputable def o845_41 (P : Params) : Obj := ⟨(.type "type"), none, (.cls ⟨(zs "BufferedIOBase"), [(.ref 830)], [(.ref 845), (.ref 830), (.type "object")], 844, (zs "BufferedIOBase"), true, [], [], false, none, false⟩), #[some (.ref 836), none, some (.str (zs "BufferedIOBase") 1230), some (.str (zs "BufferedIOBase") 1238), some .none, some (.bool true)]⟩
noncomputable def o846_41 (P : Params) : Obj := ⟨(.type "super"), none, (.fields #[(.ref 845), (.ref 845), (.ref 845)]), #[]⟩
noncomputable def o847_41 (P : Params) : Obj := ⟨(.type "builtin_function_or_method"), none, (.fields #[(.builtin "object.__init_subclass__"), (.ref 845)]), #[]⟩
noncomputable def o848_41 (P : Params) : Obj := ⟨(.type "tuple"), none, (.seq #[(.ref 830)] 0), #[]⟩
noncomputable def o849_41 (P : Params) : Obj := ⟨(.type "builtin_function_or_method"), none, (.fields #[(.builtin "type.__prepare__"), (.type "type")]), #[]⟩
noncomputable def o850_41 (P : Params) : Obj := ⟨(.type "dict"), none, (.dict #[en P "__module__" 1255 (.str (zs "io") 1260), en P "__qualname__" 1257 (.str (zs "TextIOBase") 1256), en P "__firstlineno__" 1259 (.int 430 1258), en P "__static_attributes__" 1262 (.ref 855)] 4), #[]⟩
noncomputable def o851_41 (P : Params) : Obj := ⟨(.type "tuple"), none, (.seq #[] 0), #[]⟩
noncomputable def o852_41 (P : Params) : Obj := ⟨.none, none, (.fields #[]), #[]⟩
noncomputable def o853_41 (P : Params) : Obj := ⟨(.type "code"), none, (.fields #[(.str (zs "TextIOBase") 1250), (.str (zs "TextIOBase") 1251), (.str (zs "/claim/cut.py") 1252), (.int 430 0), (.int 0 0), (.int 0 0), (.int 0 0), (.int 0 0), (.ref 851), (.bool false), (.int 181 0), (.ref 852), .none, .none, .none, .none, (.int 1253 0), (.int 430 0), (.str (zs "/claim/cut.py") 1254)]), #[]⟩
noncomputable def o854_41 (P : Params) : Obj := ⟨(.type "frame"), none, .plain, #[some (.ref 853), some (.ref 3), some (.ref 850), none, some (.str (zs "io") 1158), none, some (.ref 0)]⟩
noncomputable def o855_41 (P : Params) : Obj := ⟨(.type "tuple"), none, (.seq #[] 0), #[]⟩
noncomputable def o856_41 (P : Params) : Obj := ⟨(.type "dict"), none, (.dict #[en P "__module__" 1255 (.str (zs "io") 1260), en P "__firstlineno__" 1259 (.int 430 1258), en P "__static_attributes__" 1262 (.ref 855), en P "__doc__" 1263 .none] 2), #[]⟩
noncomputable def o857_41 (P : Params) : Obj := ⟨(.type "type"), none, (.cls ⟨(zs "TextIOBase"), [(.ref 830)], [(.ref 857), (.ref 830), (.type "object")], 856, (zs "TextIOBase"), true, [], [], false, none, false⟩), #[some (.ref 848), none, some (.str (zs "TextIOBase") 1248), some (.str (zs "TextIOBase") 1256), some .none, some (.bool true)]⟩
noncomputable def o858_41 (P : Params) : Obj := ⟨(.type "super"), none, (.fields #[(.ref 857), (.ref 857), (.ref 857)]), #[]⟩
noncomputable def o859_41 (P : Params) : Obj := ⟨(.type "builtin_function_or_method"), none, (.fields #[(.builtin "object.__init_subclass__"), (.ref 857)]), #[]⟩
noncomputable def T41 (P : Params) : BT := (.node (o0_0 P) (.node (o1_0 P) (.node (o3_41 P) (.node (o7_0 P) (.node (o15_6 P) (.node (o31_6 P) (.node (o63_6 P) (.node (o127_28 P) (.node (o255_28 P) (.node (o511_41 P) .nil .nil) (.node (o767_41 P) .nil .nil)) (.node (o383_41 P) (.node (o639_41 P) .nil .nil) .nil)) (.node (o191_28 P) (.node (o319_41 P) (.node (o575_41 P) .nil .nil) (.node (o831_41 P) .nil .nil)) (.node (o447_41 P) (.node (o703_41 P) .nil .nil) .nil))) (.node (o95_28 P) (.node (o159_28 P) (.node (o287_41 P) (.node (o543_41 P) .nil .nil) (.node (o799_41 P) .nil .nil)) (.node (o415_41 P) (.node (o671_41 P) .nil .nil) .nil)) (.node (o223_28 P) (.node (o351_41 P) (.node (o607_41 P) .nil .nil) .nil) (.node (o479_41 P) (.node (o735_41 P) .nil .nil) .nil)))) (.node (o47_6 P) (.node (o79_28 P) (.node (o143_28 P) (.node (o271_41 P) (.node (o527_41 P) .nil .nil) (.node (o783_41 P) .nil .nil)) (.node (o399_41 P) (.node (o655_41 P) .nil .nil) .nil)) (.node (o207_28 P) (.node (o335_41 P) (.node (o591_41 P) .nil .nil) (.node (o847_41 P) .nil .nil)) (.node (o463_41 P) (.node (o719_41 P) .nil .nil) .nil))) (.node (o111_28 P) (.node (o175_28 P) (.node (o303_41 P) (.node (o559_41 P) .nil .nil) (.node (o815_41 P) .nil .nil)) (.node (o431_41 P) (.node (o687_41 P) .nil .nil) .nil)) (.node (o239_28 P) (.node (o367_41 P) (.node (o623_41 P) .nil .nil) .nil) (.node (o495_41 P) (.node (o751_41 P) .nil .nil) .nil))))) (.node (o23_6 P) (.node (o39_6 P) (.node (o71_6 P) (.node (o135_28 P) (.node (o263_28 P) (.node (o519_41 P) .nil .nil) (.node (o775_41 P) .nil .nil)) (.node (o391_41 P) (.node (o647_41 P) .nil .nil) .nil)) (.node (o199_28 P) (.node (o327_41 P) (.node (o583_41 P) .nil .nil) (.node (o839_41 P) .nil .nil)) (.node (o455_41 P) (.node (o711_41 P) .nil .nil) .nil))) (.node (o103_28 P) (.node (o167_28 P) (.node (o295_41 P) (.node (o551_41 P) .nil .nil) (.node (o807_41 P) .nil .nil)) (.node (o423_41 P) (.node (o679_41 P) .nil .nil) .nil)) (.node (o231_28 P) (.node (o359_41 P) (.node (o615_41 P) .nil .nil) .nil) (.node (o487_41 P) (.node (o743_41 P) .nil .nil) .nil)))) (.node (o55_6 P) (.node (o87_28 P) (.node (o151_28 P) (.node (o279_41 P) (.node (o535_41 P) .nil .nil) (.node (o791_41 P) .nil .nil)) (.node (o407_41 P) (.node (o663_41 P) .nil .nil) .nil)) (.node (o215_28 P) (.node (o343_41 P) (.node (o599_41 P) .nil .nil) (.node (o855_41 P) .nil .nil)) (.node (o471_41 P) (.node (o727_41 P) .nil .nil) .nil))) (.node (o119_28 P) (.node (o183_28 P) (.node (o311_41 P) (.node (o567_41 P) .nil .nil) (.node (o823_41 P) .nil .nil)) (.node (o439_41 P) (.node (o695_41 P) .nil .nil) .nil)) (.node (o247_28 P) (.node (o375_41 P) (.node (o631_41 P) .nil .nil) .nil) (.node (o503_41 P) (.node (o759_41 P) .nil .nil) .nil)))))) (.node (o11_0 P) (.node (o19_6 P) (.node (o35_6 P) (.node (o67_6 P) (.node (o131_28 P) (.node (o259_28 P) (.node (o515_41 P) .nil .nil) (.node (o771_41 P) .nil .nil)) (.node (o387_41 P) (.node (o643_41 P) .nil .nil) .nil)) (.node (o195_28 P) (.node (o323_41 P) (.node (o579_41 P) .nil .nil) (.node (o835_41 P) .nil .nil)) (.node (o451_41 P) (.node (o707_41 P) .nil .nil) .nil))) (.node (o99_28 P) (.node (o163_28 P) (.node (o291_41 P) (.node (o547_41 P) .nil .nil) (.node (o803_41 P) .nil .nil)) (.node (o419_41 P) (.node (o675_41 P) .nil .nil) .nil)) (.node (o227_28 P) (.node (o355_41 P) (.node (o611_41 P) .nil .nil) .nil) (.node (o483_41 P) (.node (o739_41 P) .nil .nil) .nil)))) (.node (o51_6 P) (.node (o83_28 P) (.node (o147_28 P) (.node (o275_41 P) (.node (o531_41 P) .nil .nil) (.node (o787_41 P) .nil .nil)) (.node (o403_41 P) (.node (o659_41 P) .nil .nil) .nil)) (.node (o211_28 P) (.node (o339_41 P) (.node (o595_41 P) .nil .nil) (.node (o851_41 P) .nil .nil)) (.node (o467_41 P) (.node (o723_41 P) .nil .nil) .nil))) (.node (o115_28 P) (.node (o179_28 P) (.node (o307_41 P) (.node (o563_41 P) .nil .nil) (.node (o819_41 P) .nil .nil)) (.node (o435_41 P) (.node (o691_41 P) .nil .nil) .nil)) (.node (o243_28 P) (.node (o371_41 P) (.node (o627_41 P) .nil .nil) .nil) (.node (o499_41 P) (.node (o755_41 P) .nil .nil) .nil))))) (.node (o27_6 P) (.node (o43_6 P) (.node (o75_6 P) (.node (o139_28 P) (.node (o267_41 P) (.node (o523_41 P) .nil .nil) (.node (o779_41 P) .nil .nil)) (.node (o395_41 P) (.node (o651_41 P) .nil .nil) .nil)) (.node (o203_28 P) (.node (o331_41 P) (.node (o587_41 P) .nil .nil) (.node (o843_41 P) .nil .nil)) (.node (o459_41 P) (.node (o715_41 P) .nil .nil) .nil))) (.node (o107_28 P) (.node (o171_28 P) (.node (o299_41 P) (.node (o555_41 P) .nil .nil) (.node (o811_41 P) .nil .nil)) (.node (o427_41 P) (.node (o683_41 P) .nil .nil) .nil)) (.node (o235_28 P) (.node (o363_41 P) (.node (o619_41 P) .nil .nil) .nil) (.node (o491_41 P) (.node (o747_41 P) .nil .nil) .nil)))) (.node (o59_6 P) (.node (o91_28 P) (.node (o155_28 P) (.node (o283_41 P) (.node (o539_41 P) .nil .nil) (.node (o795_41 P) .nil .nil)) (.node (o411_41 P) (.node (o667_41 P) .nil .nil) .nil)) (.node (o219_28 P) (.node (o347_41 P) (.node (o603_41 P) .nil .nil) (.node (o859_41 P) .nil .nil)) (.node (o475_41 P) (.node (o731_41 P) .nil .nil) .nil))) (.node (o123_28 P) (.node (o187_28 P) (.node (o315_41 P) (.node (o571_41 P) .nil .nil) (.node (o827_41 P) .nil .nil)) (.node (o443_41 P) (.node (o699_41 P) .nil .nil) .nil)) (.node (o251_28 P) (.node (o379_41 P) (.node (o635_41 P) .nil .nil) .nil) (.node (o507_41 P) (.node (o763_41 P) .nil .nil) .nil))))))) (.node (o5_0 P) (.node (o9_0 P) (.node (o17_6 P) (.node (o33_6 P) (.node (o65_6 P) (.node (o129_28 P) (.node (o257_28 P) (.node (o513_41 P) .nil .nil) (.node (o769_41 P) .nil .nil)) (.node (o385_41 P) (.node (o641_41 P) .nil .nil) .nil)) (.node (o193_28 P) (.node (o321_41 P) (.node (o577_41 P) .nil .nil) (.node (o833_41 P) .nil .nil)) (.node (o449_41 P) (.node (o705_41 P) .nil .nil) .nil))) (.node (o97_28 P) (.node (o161_28 P) (.node (o289_41 P) (.node (o545_41 P) .nil .nil) (.node (o801_41 P) .nil .nil)) (.node (o417_41 P) (.node (o673_41 P) .nil .nil) .nil)) (.node (o225_28 P) (.node (o353_41 P) (.node (o609_41 P) .nil .nil) .nil) (.node (o481_41 P) (.node (o737_41 P) .nil .nil) .nil)))) (.node (o49_6 P) (.node (o81_28 P) (.node (o145_28 P) (.node (o273_41 P) (.node (o529_41 P) .nil .nil) (.node (o785_41 P) .nil .nil)) (.node (o401_41 P) (.node (o657_41 P) .nil .nil) .nil)) (.node (o209_28 P) (.node (o337_41 P) (.node (o593_41 P) .nil .nil) (.node (o849_41 P) .nil .nil)) (.node (o465_41 P) (.node (o721_41 P) .nil .nil) .nil))) (.node (o113_28 P) (.node (o177_28 P) (.node (o305_41 P) (.node (o561_41 P) .nil .nil) (.node (o817_41 P) .nil .nil)) (.node (o433_41 P) (.node (o689_41 P) .nil .nil) .nil)) (.node (o241_28 P) (.node (o369_41 P) (.node (o625_41 P) .nil .nil) .nil) (.node (o497_41 P) (.node (o753_41 P) .nil .nil) .nil))))) (.node (o25_6 P) (.node (o41_6 P) (.node (o73_6 P) (.node (o137_28 P) (.node (o265_28 P) (.node (o521_41 P) .nil .nil) (.node (o777_41 P) .nil .nil)) (.node (o393_41 P) (.node (o649_41 P) .nil .nil) .nil)) (.node (o201_28 P) (.node (o329_41 P) (.node (o585_41 P) .nil .nil) (.node (o841_41 P) .nil .nil)) (.node (o457_41 P) (.node (o713_41 P) .nil .nil) .nil))) (.node (o105_28 P) (.node (o169_28 P) (.node (o297_41 P) (.node (o553_41 P) .nil .nil) (.node (o809_41 P) .nil .nil)) (.node (o425_41 P) (.node (o681_41 P) .nil .nil) .nil)) (.node (o233_28 P) (.node (o361_41 P) (.node (o617_41 P) .nil .nil) .nil) (.node (o489_41 P) (.node (o745_41 P) .nil .nil) .nil)))) (.node (o57_6 P) (.node (o89_28 P) (.node (o153_28 P) (.node (o281_41 P) (.node (o537_41 P) .nil .nil) (.node (o793_41 P) .nil .nil)) (.node (o409_41 P) (.node (o665_41 P) .nil .nil) .nil)) (.node (o217_28 P) (.node (o345_41 P) (.node (o601_41 P) .nil .nil) (.node (o857_41 P) .nil .nil)) (.node (o473_41 P) (.node (o729_41 P) .nil .nil) .nil))) (.node (o121_28 P) (.node (o185_28 P) (.node (o313_41 P) (.node (o569_41 P) .nil .nil) (.node (o825_41 P) .nil .nil)) (.node (o441_41 P) (.node (o697_41 P) .nil .nil) .nil)) (.node (o249_28 P) (.node (o377_41 P) (.node (o633_41 P) .nil .nil) .nil) (.node (o505_41 P) (.node (o761_41 P) .nil .nil) .nil)))))) (.node (o13_0 P) (.node (o21_6 P) (.node (o37_6 P) (.node (o69_6 P) (.node (o133_28 P) (.node (o261_28 P) (.node (o517_41 P) .nil .nil) (.node (o773_41 P) .nil .nil)) (.node (o389_41 P) (.node (o645_41 P) .nil .nil) .nil)) (.node (o197_28 P) (.node (o325_41 P) (.node (o581_41 P) .nil .nil) (.node (o837_41 P) .nil .nil)) (.node (o453_41 P) (.node (o709_41 P) .nil .nil) .nil))) (.node (o101_28 P) (.node (o165_28 P) (.node (o293_41 P) (.node (o549_41 P) .nil .nil) (.node (o805_41 P) .nil .nil)) (.node (o421_41 P) (.node (o677_41 P) .nil .nil) .nil)) (.node (o229_28 P) (.node (o357_41 P) (.node (o613_41 P) .nil .nil) .nil) (.node (o485_41 P) (.node (o741_41 P) .nil .nil) .nil)))) (.node (o53_6 P) (.node (o85_28 P) (.node (o149_28 P) (.node (o277_41 P) (.node (o533_41 P) .nil .nil) (.node (o789_41 P) .nil .nil)) (.node (o405_41 P) (.node (o661_41 P) .nil .nil) .nil)) (.node (o213_28 P) (.node (o341_41 P) (.node (o597_41 P) .nil .nil) (.node (o853_41 P) .nil .nil)) (.node (o469_41 P) (.node (o725_41 P) .nil .nil) .nil))) (.node (o117_28 P) (.node (o181_28 P) (.node (o309_41 P) (.node (o565_41 P) .nil .nil) (.node (o821_41 P) .nil .nil)) (.node (o437_41 P) (.node (o693_41 P) .nil .nil) .nil)) (.node (o245_28 P) (.node (o373_41 P) (.node (o629_41 P) .nil .nil) .nil) (.node (o501_41 P) (.node (o757_41 P) .nil .nil) .nil))))) (.node (o29_6 P) (.node (o45_6 P) (.node (o77_28 P) (.node (o141_28 P) (.node (o269_41 P) (.node (o525_41 P) .nil .nil) (.node (o781_41 P) .nil .nil)) (.node (o397_41 P) (.node (o653_41 P) .nil .nil) .nil)) (.node (o205_28 P) (.node (o333_41 P) (.node (o589_41 P) .nil .nil) (.node (o845_41 P) .nil .nil)) (.node (o461_41 P) (.node (o717_41 P) .nil .nil) .nil))) (.node (o109_28 P) (.node (o173_28 P) (.node (o301_41 P) (.node (o557_41 P) .nil .nil) (.node (o813_41 P) .nil .nil)) (.node (o429_41 P) (.node (o685_41 P) .nil .nil) .nil)) (.node (o237_28 P) (.node (o365_41 P) (.node (o621_41 P) .nil .nil) .nil) (.node (o493_41 P) (.node (o749_41 P) .nil .nil) .nil)))) (.node (o61_6 P) (.node (o93_28 P) (.node (o157_28 P) (.node (o285_41 P) (.node (o541_41 P) .nil .nil) (.node (o797_41 P) .nil .nil)) (.node (o413_41 P) (.node (o669_41 P) .nil .nil) .nil)) (.node (o221_28 P) (.node (o349_41 P) (.node (o605_41 P) .nil .nil) .nil) (.node (o477_41 P) (.node (o733_41 P) .nil .nil) .nil))) (.node (o125_28 P) (.node (o189_28 P) (.node (o317_41 P) (.node (o573_41 P) .nil .nil) (.node (o829_41 P) .nil .nil)) (.node (o445_41 P) (.node (o701_41 P) .nil .nil) .nil)) (.node (o253_28 P) (.node (o381_41 P) (.node (o637_41 P) .nil .nil) .nil) (.node (o509_41 P) (.node (o765_41 P) .nil .nil) .nil)))))))) (.node (o2_41 P) (.node (o4_0 P) (.node (o8_0 P) (.node (o16_6 P) (.node (o32_6 P) (.node (o64_6 P) (.node (o128_28 P) (.node (o256_28 P) (.node (o512_41 P) .nil .nil) (.node (o768_41 P) .nil .nil)) (.node (o384_41 P) (.node (o640_41 P) .nil .nil) .nil)) (.node (o192_28 P) (.node (o320_41 P) (.node (o576_41 P) .nil .nil) (.node (o832_41 P) .nil .nil)) (.node (o448_41 P) (.node (o704_41 P) .nil .nil) .nil))) (.node (o96_28 P) (.node (o160_28 P) (.node (o288_41 P) (.node (o544_41 P) .nil .nil) (.node (o800_41 P) .nil .nil)) (.node (o416_41 P) (.node (o672_41 P) .nil .nil) .nil)) (.node (o224_28 P) (.node (o352_41 P) (.node (o608_41 P) .nil .nil) .nil) (.node (o480_41 P) (.node (o736_41 P) .nil .nil) .nil)))) (.node (o48_6 P) (.node (o80_28 P) (.node (o144_28 P) (.node (o272_41 P) (.node (o528_41 P) .nil .nil) (.node (o784_41 P) .nil .nil)) (.node (o400_41 P) (.node (o656_41 P) .nil .nil) .nil)) (.node (o208_28 P) (.node (o336_41 P) (.node (o592_41 P) .nil .nil) (.node (o848_41 P) .nil .nil)) (.node (o464_41 P) (.node (o720_41 P) .nil .nil) .nil))) (.node (o112_28 P) (.node (o176_28 P) (.node (o304_41 P) (.node (o560_41 P) .nil .nil) (.node (o816_41 P) .nil .nil)) (.node (o432_41 P) (.node (o688_41 P) .nil .nil) .nil)) (.node (o240_28 P) (.node (o368_41 P) (.node (o624_41 P) .nil .nil) .nil) (.node (o496_41 P) (.node (o752_41 P) .nil .nil) .nil))))) (.node (o24_6 P) (.node (o40_6 P) (.node (o72_6 P) (.node (o136_28 P) (.node (o264_28 P) (.node (o520_41 P) .nil .nil) (.node (o776_41 P) .nil .nil)) (.node (o392_41 P) (.node (o648_41 P) .nil .nil) .nil)) (.node (o200_28 P) (.node (o328_41 P) (.node (o584_41 P) .nil .nil) (.node (o840_41 P) .nil .nil)) (.node (o456_41 P) (.node (o712_41 P) .nil .nil) .nil))) (.node (o104_28 P) (.node (o168_28 P) (.node (o296_41 P) (.node (o552_41 P) .nil .nil) (.node (o808_41 P) .nil .nil)) (.node (o424_41 P) (.node (o680_41 P) .nil .nil) .nil)) (.node (o232_28 P) (.node (o360_41 P) (.node (o616_41 P) .nil .nil) .nil) (.node (o488_41 P) (.node (o744_41 P) .nil .nil) .nil)))) (.node (o56_6 P) (.node (o88_28 P) (.node (o152_28 P) (.node (o280_41 P) (.node (o536_41 P) .nil .nil) (.node (o792_41 P) .nil .nil)) (.node (o408_41 P) (.node (o664_41 P) .nil .nil) .nil)) (.node (o216_28 P) (.node (o344_41 P) (.node (o600_41 P) .nil .nil) (.node (o856_41 P) .nil .nil)) (.node (o472_41 P) (.node (o728_41 P) .nil .nil) .nil))) (.node (o120_28 P) (.node (o184_28 P) (.node (o312_41 P) (.node (o568_41 P) .nil .nil) (.node (o824_41 P) .nil .nil)) (.node (o440_41 P) (.node (o696_41 P) .nil .nil) .nil)) (.node (o248_28 P) (.node (o376_41 P) (.node (o632_41 P) .nil .nil) .nil) (.node (o504_41 P) (.node (o760_41 P) .nil .nil) .nil)))))) (.node (o12_41 P) (.node (o20_6 P) (.node (o36_6 P) (.node (o68_6 P) (.node (o132_28 P) (.node (o260_28 P) (.node (o516_41 P) .nil .nil) (.node (o772_41 P) .nil .nil)) (.node (o388_41 P) (.node (o644_41 P) .nil .nil) .nil)) (.node (o196_28 P) (.node (o324_41 P) (.node (o580_41 P) .nil .nil) (.node (o836_41 P) .nil .nil)) (.node (o452_41 P) (.node (o708_41 P) .nil .nil) .nil))) (.node (o100_28 P) (.node (o164_28 P) (.node (o292_41 P) (.node (o548_41 P) .nil .nil) (.node (o804_41 P) .nil .nil)) (.node (o420_41 P) (.node (o676_41 P) .nil .nil) .nil)) (.node (o228_28 P) (.node (o356_41 P) (.node (o612_41 P) .nil .nil) .nil) (.node (o484_41 P) (.node (o740_41 P) .nil .nil) .nil)))) (.node (o52_6 P) (.node (o84_28 P) (.node (o148_28 P) (.node (o276_41 P) (.node (o532_41 P) .nil .nil) (.node (o788_41 P) .nil .nil)) (.node (o404_41 P) (.node (o660_41 P) .nil .nil) .nil)) (.node (o212_28 P) (.node (o340_41 P) (.node (o596_41 P) .nil .nil) (.node (o852_41 P) .nil .nil)) (.node (o468_41 P) (.node (o724_41 P) .nil .nil) .nil))) (.node (o116_28 P) (.node (o180_28 P) (.node (o308_41 P) (.node (o564_41 P) .nil .nil) (.node (o820_41 P) .nil .nil)) (.node (o436_41 P) (.node (o692_41 P) .nil .nil) .nil)) (.node (o244_28 P) (.node (o372_41 P) (.node (o628_41 P) .nil .nil) .nil) (.node (o500_41 P) (.node (o756_41 P) .nil .nil) .nil))))) (.node (o28_6 P) (.node (o44_6 P) (.node (o76_6 P) (.node (o140_41 P) (.node (o268_41 P) (.node (o524_41 P) .nil .nil) (.node (o780_41 P) .nil .nil)) (.node (o396_41 P) (.node (o652_41 P) .nil .nil) .nil)) (.node (o204_28 P) (.node (o332_41 P) (.node (o588_41 P) .nil .nil) (.node (o844_41 P) .nil .nil)) (.node (o460_41 P) (.node (o716_41 P) .nil .nil) .nil))) (.node (o108_28 P) (.node (o172_28 P) (.node (o300_41 P) (.node (o556_41 P) .nil .nil) (.node (o812_41 P) .nil .nil)) (.node (o428_41 P) (.node (o684_41 P) .nil .nil) .nil)) (.node (o236_28 P) (.node (o364_41 P) (.node (o620_41 P) .nil .nil) .nil) (.node (o492_41 P) (.node (o748_41 P) .nil .nil) .nil)))) (.node (o60_6 P) (.node (o92_28 P) (.node (o156_28 P) (.node (o284_41 P) (.node (o540_41 P) .nil .nil) (.node (o796_41 P) .nil .nil)) (.node (o412_41 P) (.node (o668_41 P) .nil .nil) .nil)) (.node (o220_28 P) (.node (o348_41 P) (.node (o604_41 P) .nil .nil) .nil) (.node (o476_41 P) (.node (o732_41 P) .nil .nil) .nil))) (.node (o124_28 P) (.node (o188_28 P) (.node (o316_41 P) (.node (o572_41 P) .nil .nil) (.node (o828_41 P) .nil .nil)) (.node (o444_41 P) (.node (o700_41 P) .nil .nil) .nil)) (.node (o252_28 P) (.node (o380_41 P) (.node (o636_41 P) .nil .nil) .nil) (.node (o508_41 P) (.node (o764_41 P) .nil .nil) .nil))))))) (.node (o6_0 P) (.node (o10_0 P) (.node (o18_6 P) (.node (o34_6 P) (.node (o66_6 P) (.node (o130_28 P) (.node (o258_28 P) (.node (o514_41 P) .nil .nil) (.node (o770_41 P) .nil .nil)) (.node (o386_41 P) (.node (o642_41 P) .nil .nil) .nil)) (.node (o194_28 P) (.node (o322_41 P) (.node (o578_41 P) .nil .nil) (.node (o834_41 P) .nil .nil)) (.node (o450_41 P) (.node (o706_41 P) .nil .nil) .nil))) (.node (o98_28 P) (.node (o162_28 P) (.node (o290_41 P) (.node (o546_41 P) .nil .nil) (.node (o802_41 P) .nil .nil)) (.node (o418_41 P) (.node (o674_41 P) .nil .nil) .nil)) (.node (o226_28 P) (.node (o354_41 P) (.node (o610_41 P) .nil .nil) .nil) (.node (o482_41 P) (.node (o738_41 P) .nil .nil) .nil)))) (.node (o50_6 P) (.node (o82_28 P) (.node (o146_28 P) (.node (o274_41 P) (.node (o530_41 P) .nil .nil) (.node (o786_41 P) .nil .nil)) (.node (o402_41 P) (.node (o658_41 P) .nil .nil) .nil)) (.node (o210_28 P) (.node (o338_41 P) (.node (o594_41 P) .nil .nil) (.node (o850_41 P) .nil .nil)) (.node (o466_41 P) (.node (o722_41 P) .nil .nil) .nil))) (.node (o114_28 P) (.node (o178_28 P) (.node (o306_41 P) (.node (o562_41 P) .nil .nil) (.node (o818_41 P) .nil .nil)) (.node (o434_41 P) (.node (o690_41 P) .nil .nil) .nil)) (.node (o242_28 P) (.node (o370_41 P) (.node (o626_41 P) .nil .nil) .nil) (.node (o498_41 P) (.node (o754_41 P) .nil .nil) .nil))))) (.node (o26_6 P) (.node (o42_6 P) (.node (o74_6 P) (.node (o138_28 P) (.node (o266_28 P) (.node (o522_41 P) .nil .nil) (.node (o778_41 P) .nil .nil)) (.node (o394_41 P) (.node (o650_41 P) .nil .nil) .nil)) (.node (o202_28 P) (.node (o330_41 P) (.node (o586_41 P) .nil .nil) (.node (o842_41 P) .nil .nil)) (.node (o458_41 P) (.node (o714_41 P) .nil .nil) .nil))) (.node (o106_28 P) (.node (o170_28 P) (.node (o298_41 P) (.node (o554_41 P) .nil .nil) (.node (o810_41 P) .nil .nil)) (.node (o426_41 P) (.node (o682_41 P) .nil .nil) .nil)) (.node (o234_28 P) (.node (o362_41 P) (.node (o618_41 P) .nil .nil) .nil) (.node (o490_41 P) (.node (o746_41 P) .nil .nil) .nil)))) (.node (o58_6 P) (.node (o90_28 P) (.node (o154_28 P) (.node (o282_41 P) (.node (o538_41 P) .nil .nil) (.node (o794_41 P) .nil .nil)) (.node (o410_41 P) (.node (o666_41 P) .nil .nil) .nil)) (.node (o218_28 P) (.node (o346_41 P) (.node (o602_41 P) .nil .nil) (.node (o858_41 P) .nil .nil)) (.node (o474_41 P) (.node (o730_41 P) .nil .nil) .nil))) (.node (o122_28 P) (.node (o186_28 P) (.node (o314_41 P) (.node (o570_41 P) .nil .nil) (.node (o826_41 P) .nil .nil)) (.node (o442_41 P) (.node (o698_41 P) .nil .nil) .nil)) (.node (o250_28 P) (.node (o378_41 P) (.node (o634_41 P) .nil .nil) .nil) (.node (o506_41 P) (.node (o762_41 P) .nil .nil) .nil)))))) (.node (o14_0 P) (.node (o22_6 P) (.node (o38_6 P) (.node (o70_6 P) (.node (o134_28 P) (.node (o262_41 P) (.node (o518_41 P) .nil .nil) (.node (o774_41 P) .nil .nil)) (.node (o390_41 P) (.node (o646_41 P) .nil .nil) .nil)) (.node (o198_28 P) (.node (o326_41 P) (.node (o582_41 P) .nil .nil) (.node (o838_41 P) .nil .nil)) (.node (o454_41 P) (.node (o710_41 P) .nil .nil) .nil))) (.node (o102_28 P) (.node (o166_28 P) (.node (o294_41 P) (.node (o550_41 P) .nil .nil) (.node (o806_41 P) .nil .nil)) (.node (o422_41 P) (.node (o678_41 P) .nil .nil) .nil)) (.node (o230_28 P) (.node (o358_41 P) (.node (o614_41 P) .nil .nil) .nil) (.node (o486_41 P) (.node (o742_41 P) .nil .nil) .nil)))) (.node (o54_6 P) (.node (o86_28 P) (.node (o150_28 P) (.node (o278_41 P) (.node (o534_41 P) .nil .nil) (.node (o790_41 P) .nil .nil)) (.node (o406_41 P) (.node (o662_41 P) .nil .nil) .nil)) (.node (o214_28 P) (.node (o342_41 P) (.node (o598_41 P) .nil .nil) (.node (o854_41 P) .nil .nil)) (.node (o470_41 P) (.node (o726_41 P) .nil .nil) .nil))) (.node (o118_28 P) (.node (o182_28 P) (.node (o310_41 P) (.node (o566_41 P) .nil .nil) (.node (o822_41 P) .nil .nil)) (.node (o438_41 P) (.node (o694_41 P) .nil .nil) .nil)) (.node (o246_28 P) (.node (o374_41 P) (.node (o630_41 P) .nil .nil) .nil) (.node (o502_41 P) (.node (o758_41 P) .nil .nil) .nil))))) (.node (o30_6 P) (.node (o46_6 P) (.node (o78_28 P) (.node (o142_28 P) (.node (o270_41 P) (.node (o526_41 P) .nil .nil) (.node (o782_41 P) .nil .nil)) (.node (o398_41 P) (.node (o654_41 P) .nil .nil) .nil)) (.node (o206_28 P) (.node (o334_41 P) (.node (o590_41 P) .nil .nil) (.node (o846_41 P) .nil .nil)) (.node (o462_41 P) (.node (o718_41 P) .nil .nil) .nil))) (.node (o110_28 P) (.node (o174_28 P) (.node (o302_41 P) (.node (o558_41 P) .nil .nil) (.node (o814_41 P) .nil .nil)) (.node (o430_41 P) (.node (o686_41 P) .nil .nil) .nil)) (.node (o238_28 P) (.node (o366_41 P) (.node (o622_41 P) .nil .nil) .nil) (.node (o494_41 P) (.node (o750_41 P) .nil .nil) .nil)))) (.node (o62_6 P) (.node (o94_28 P) (.node (o158_28 P) (.node (o286_41 P) (.node (o542_41 P) .nil .nil) (.node (o798_41 P) .nil .nil)) (.node (o414_41 P) (.node (o670_41 P) .nil .nil) .nil)) (.node (o222_28 P) (.node (o350_41 P) (.node (o606_41 P) .nil .nil) .nil) (.node (o478_41 P) (.node (o734_41 P) .nil .nil) .nil))) (.node (o126_28 P) (.node (o190_28 P) (.node (o318_41 P) (.node (o574_41 P) .nil .nil) (.node (o830_41 P) .nil .nil)) (.node (o446_41 P) (.node (o702_41 P) .nil .nil) .nil)) (.node (o254_28 P) (.node (o382_41 P) (.node (o638_41 P) .nil .nil) .nil) (.node (o510_41 P) (.node (o766_41 P) .nil .nil) .nil)))))))))
-- boundary 41: objects 860 toks 1266 steps so far 7654 pos { line := 430, col := 0, endLine := 431, endCol := 21 } life { } drawn { } gens 0
noncomputable def o3_52 (P : Params) : Obj := ⟨(.type "dict"), none, (.dict #[en P "__name__" 165 (.str (zs "pdfminer.runlength") 1938), en P "__doc__" 166 .none, en P "__package__" 167 .none, en P "__loader__" 168 (.builtin "__main__.__loader__#opaque"), en P "__spec__" 169 .none, en P "__annotations__" 170 (.ref 6), en P "__builtins__" 171 (.ref 4), en P "__file__" 173 (.str (zs "/claim/cut.py") 172), en P "__cached__" 174 .none, en P "_wall" 193 (.ref 21), en P "Signs" 249 (.ref 58), en P "cast" 257 (.ref 69), en P "bws_re" 268 (.ref 71), en P "Error" 288 (.ref 86), en P "_ascii_buffer" 296 (.ref 96), en P "_hex_value" 303 (.ref 103), en P "a2b_hex" 316 (.ref 110), en P "unhexlify" 317 (.ref 110), en P "asciihexdecode" 327 (.ref 117), en P "STRICT" 328 (.bool false), en P "PSException" 350 (.ref 127), en P "PDFException" 368 (.ref 140), en P "PDFTypeError" 386 (.ref 152), en P "PDFValueError" 402 (.ref 164), en P "PDFObjectNotFound" 418 (.ref 176), en P "PDFNotImplementedError" 436 (.ref 188), en P "PDFKeyError" 454 (.ref 200), en P "PDFEOFError" 472 (.ref 212), en P "get_bytes" 481 (.ref 221), en P "BitParser" 551 (.ref 262), en P "CCITTG4Parser" 1025 (.ref 693), en P "CCITTFaxDecoder" 1066 (.ref 725), en P "ccittfaxdecode" 1079 (.ref 734), en P "CorruptDataError" 1097 (.ref 744), en P "LZWDecoder" 1157 (.ref 782), en P "_whence" 1167 (.ref 793), en P "_index" 1175 (.ref 800), en P "UnsupportedOperation" 1197 (.ref 810), en P "IOBase" 1229 (.ref 830), en P "BufferedIOBase" 1247 (.ref 845), en P "TextIOBase" 1265 (.ref 857), en P "BytesIO" 1527 (.ref 1087), en P "StringIO" 1814 (.ref 1334), en P "lzwdecode" 1825 (.ref 1343), en P "PSObject" 1847 (.ref 1353), en P "PSLiteral" 1889 (.ref 1388), en P "PSSymbolTable" 1928 (.ref 1414), en P "PSLiteralTable" 1935 (.ref 1420), en P "LIT" 1937 (.ref 1423)] 49), #[]⟩
noncomputable def o12_52 (P : Params) : Obj := ⟨.none, none, (.fields #[(.int 1 0), (.int 0 0), (.ref 20), (.int 5 0), (.int 0 0), (.ref 27), (.int 18 0), (.int 0 0), (.ref 68), (.int 23 0), (.int 0 0), (.ref 82), (.int 25 0), (.int 0 0), (.ref 95), (.int 36 0), (.int 0 0), (.ref 102), (.int 44 0), (.int 0 0), (.ref 109), (.int 61 0), (.int 0 0), (.ref 116), (.int 71 0), (.int 0 0), (.ref 123), (.int 74 0), (.int 0 0), (.ref 136), (.int 76 0), (.int 0 0), (.ref 148), (.int 78 0), (.int 0 0), (.ref 160), (.int 80 0), (.int 0 0), (.ref 172), (.int 82 0), (.int 0 0), (.ref 184), (.int 84 0), (.int 0 0), (.ref 196), (.int 86 0), (.int 0 0), (.ref 208), (.int 89 0), (.int 0 0), (.ref 220), (.int 91 0), (.int 0 0), (.ref 227), (.int 113 0), (.int 0 0), (.ref 272), (.int 304 0), (.int 0 0), (.ref 701), (.int 322 0), (.int 0 0), (.ref 733), (.int 334 0), (.int 0 0), (.ref 740), (.int 336 0), (.int 0 0), (.ref 752), (.int 407 0), (.int 0 0), (.ref 792), (.int 412 0), (.int 0 0), (.ref 799), (.int 419 0), (.int 0 0), (.ref 806), (.int 421 0), (.int 0 0), (.ref 819), (.int 428 0), (.int 0 0), (.ref 841), (.int 430 0), (.int 0 0), (.ref 853), (.int 432 0), (.int 0 0), (.ref 865), (.int 602 0), (.int 0 0), (.ref 1095), (.int 808 0), (.int 0 0), (.ref 1342), (.int 813 0), (.int 0 0), (.ref 1349), (.int 815 0), (.int 0 0), (.ref 1363), (.int 826 0), (.int 0 0), (.ref 1396)]), #[]⟩
noncomputable def o845_52 (P : Params) : Obj := ⟨(.type "type"), none, (.cls ⟨(zs "BufferedIOBase"), [(.ref 830)], [(.ref 845), (.ref 830), (.type "object")], 844, (zs "BufferedIOBase"), true, [], [(.ref 1087)], false, none, false⟩), #[some (.ref 836), none, some (.str (zs "BufferedIOBase") 1230), some (.str (zs "BufferedIOBase") 1238), some .none, some (.bool true)]⟩
noncomputable def o857_52 (P : Params) : Obj := ⟨(.type "type"), none, (.cls ⟨(zs "TextIOBase"), [(.ref 830)], [(.ref 857), (.ref 830), (.type "object")], 856, (zs "TextIOBase"), true, [], [(.ref 1334)], false, none, false⟩), #[some (.ref 848), none, some (.str (zs "TextIOBase") 1248), some (.str (zs "TextIOBase") 1256), some .none, some (.bool true)]⟩
noncomputable def o860_52 (P : Params) : Obj := ⟨(.type "tuple"), none, (.seq #[(.ref 845)] 0), #[]⟩
noncomputable def o861_52 (P : Params) : Obj := ⟨(.type "builtin_function_or_method"), none, (.fields #[(.builtin "type.__prepare__"), (.type "type")]), #[]⟩
noncomputable def o862_52 (P : Params) : Obj := ⟨(.type "dict"), none, (.dict #[en P "__module__" 1273 (.str (zs "_io") 1278), en P "__qualname__" 1275 (.str (zs "BytesIO") 1274), en P "__firstlineno__" 1277 (.int 432 1276), en P "__init__" 1287 (.ref 874), en P "_BytesIO__check" 1294 (.ref 881), en P "_BytesIO__line" 1305 (.ref 888), en P "closed" 1313 (.ref 896), en P "close" 1320 (.ref 903), en P "__enter__" 1327 (.ref 910), en P "__exit__" 1335 (.ref 917), en P "readable" 1342 (.ref 924), en P "writable" 1349 (.ref 931), en P "seekable" 1356 (.ref 938), en P "isatty" 1363 (.ref 945), en P "flush" 1370 (.ref 952), en P "fileno" 1377 (.ref 959), en P "detach" 1384 (.ref 966), en P "getvalue" 1391 (.ref 973), en P "getbuffer" 1398 (.ref 980), en P "tell" 1405 (.ref 987), en P "seek" 1415 (.ref 995), en P "truncate" 1423 (.ref 1003), en P "read" 1435 (.ref 1011), en P "read1" 1445 (.ref 1019), en P "readinto" 1455 (.ref 1026), en P "readinto1" 1463 (.ref 1033), en P "readline" 1473 (.ref 1041), en P "readlines" 1481 (.ref 1049), en P "__iter__" 1488 (.ref 1056), en P "__next__" 1496 (.ref 1063), en P "write" 1506 (.ref 1070), en P "writelines" 1514 (.ref 1077), en P "__repr__" 1521 (.ref 1084), en P "__static_attributes__" 1524 (.ref 1085)] 34), #[]⟩
noncomputable def o863_52 (P : Params) : Obj := ⟨(.type "tuple"), none, (.seq #[] 0), #[]⟩
noncomputable def o864_52 (P : Params) : Obj := ⟨.none, none, (.fields #[(.int 435 0), (.int 4 0), (.ref 873), (.int 441 0), (.int 4 0), (.ref 880), (.int 445 0), (.int 4 0), (.ref 887), (.int 459 0), (.int 4 0), (.ref 894), (.int 462 0), (.int 4 0), (.ref 902), (.int 465 0), (.int 4 0), (.ref 909), (.int 469 0), (.int 4 0), (.ref 916), (.int 472 0), (.int 4 0), (.ref 923), (.int 476 0), (.int 4 0), (.ref 930), (.int 480 0), (.int 4 0), (.ref 937), (.int 484 0), (.int 4 0), (.ref 944), (.int 488 0), (.int 4 0), (.ref 951), (.int 491 0), (.int 4 0), (.ref 958), (.int 494 0), (.int 4 0), (.ref 965), (.int 497 0), (.int 4 0), (.ref 972), (.int 500 0), (.int 4 0), (.ref 979), (.int 503 0), (.int 4 0), (.ref 986), (.int 507 0), (.int 4 0), (.ref 994), (.int 524 0), (.int 4 0), (.ref 1002), (.int 527 0), (.int 4 0), (.ref 1010), (.int 541 0), (.int 4 0), (.ref 1018), (.int 544 0), (.int 4 0), (.ref 1025), (.int 558 0), (.int 4 0), (.ref 1032), (.int 561 0), (.int 4 0), (.ref 1040), (.int 568 0), (.int 4 0), (.ref 1048), (.int 571 0), (.int 4 0), (.ref 1055), (.int 574 0), (.int 4 0), (.ref 1062), (.int 581 0), (.int 4 0), (.ref 1069), (.int 597 0), (.int 4 0), (.ref 1076), (.int 600 0), (.int 4 0), (.ref 1083)]), #[]⟩
noncomputable def o865_52 (P : Params) : Obj := ⟨(.type "code"), none, (.fields #[(.str (zs "BytesIO") 1268), (.str (zs "BytesIO") 1269), (.str (zs "/claim/cut.py") 1270), (.int 432 0), (.int 0 0), (.int 0 0), (.int 0 0), (.int 0 0), (.ref 863), (.bool false), (.int 181 0), (.ref 864), .none, .none, .none, .none, (.int 1271 0), (.int 432 0), (.str (zs "/claim/cut.py") 1272)]), #[]⟩
noncomputable def o866_52 (P : Params) : Obj := ⟨(.type "frame"), none, .plain, #[some (.ref 865), some (.ref 3), some (.ref 862), none, some (.str (zs "io") 1158), none, some (.ref 0)]⟩
noncomputable def o867_52 (P : Params) : Obj := ⟨(.type "tuple"), none, (.seq #[.none] 0), #[]⟩
noncomputable def o868_52 (P : Params) : Obj := ⟨(.type "tuple"), none, (.seq #[] 0), #[]⟩
noncomputable def o869_52 (P : Params) : Obj := ⟨.none, none, (.fields #[]), #[]⟩
noncomputable def o870_52 (P : Params) : Obj := ⟨(.type "tuple"), none, (.seq #[(.str (zs "self") 1283), (.str (zs "initial_bytes") 1284)] 0), #[]⟩
noncomputable def o871_52 (P : Params) : Obj := ⟨(.type "tuple"), none, (.seq #[] 0), #[]⟩
noncomputable def o872_52 (P : Params) : Obj := ⟨.none, none, (.func (fd (sc 41 1) (zs "BytesIO.__init__") 0 .none .none .none .none none .none .none 0)), #[]⟩
noncomputable def o873_52 (P : Params) : Obj := ⟨(.type "code"), none, (.fields #[(.str (zs "__init__") 1280), (.str (zs "BytesIO.__init__") 1281), (.str (zs "/claim/cut.py") 1282), (.int 435 0), (.int 2 0), (.int 0 0), (.int 0 0), (.int 3 0), (.ref 868), (.bool true), (.int 181 0), (.ref 869), .none, (.ref 870), (.ref 871), (.ref 872), (.int 1285 0), (.int 435 0), (.str (zs "/claim/cut.py") 1286)]), #[]⟩
noncomputable def o874_52 (P : Params) : Obj := ⟨(.type "function"), none, (.func (fd (sc 41 1) (zs "BytesIO.__init__") 3 (.ref 867) .none .none (.str (zs "io") 1158) none (.ref 873) .none 0)), #[]⟩
noncomputable def o875_52 (P : Params) : Obj := ⟨(.type "tuple"), none, (.seq #[] 0), #[]⟩
noncomputable def o876_52 (P : Params) : Obj := ⟨.none, none, (.fields #[]), #[]⟩
noncomputable def o877_52 (P : Params) : Obj := ⟨(.type "tuple"), none, (.seq #[(.str (zs "self") 1291)] 0), #[]⟩
noncomputable def o878_52 (P : Params) : Obj := ⟨(.type "tuple"), none, (.seq #[] 0), #[]⟩
noncomputable def o879_52 (P : Params) : Obj := ⟨.none, none, (.func (fd (sc 41 2) (zs "BytesIO.__check") 0 .none .none .none .none none .none .none 0)), #[]⟩
noncomputable def o880_52 (P : Params) : Obj := ⟨(.type "code"), none, (.fields #[(.str (zs "__check") 1288), (.str (zs "BytesIO.__check") 1289), (.str (zs "/claim/cut.py") 1290), (.int 441 0), (.int 1 0), (.int 0 0), (.int 0 0), (.int 3 0), (.ref 875), (.bool true), (.int 181 0), (.ref 876), .none, (.ref 877), (.ref 878), (.ref 879), (.int 1292 0), (.int 441 0), (.str (zs "/claim/cut.py") 1293)]), #[]⟩
noncomputable def o881_52 (P : Params) : Obj := ⟨(.type "function"), none, (.func (fd (sc 41 2) (zs "BytesIO.__check") 3 .none .none .none (.str (zs "io") 1158) none (.ref 880) .none 0)), #[]⟩
noncomputable def o882_52 (P : Params) : Obj := ⟨(.type "tuple"), none, (.seq #[] 0), #[]⟩
noncomputable def o883_52 (P : Params) : Obj := ⟨.none, none, (.fields #[]), #[]⟩
noncomputable def o884_52 (P : Params) : Obj := ⟨(.type "tuple"), none, (.seq #[(.str (zs "self") 1298), (.str (zs "limit") 1299), (.str (zs "start") 1300), (.str (zs "stop") 1301), (.str (zs "i") 1302)] 0), #[]⟩
noncomputable def o885_52 (P : Params) : Obj := ⟨(.type "tuple"), none, (.seq #[] 0), #[]⟩
noncomputable def o886_52 (P : Params) : Obj := ⟨.none, none, (.func (fd (sc 41 3) (zs "BytesIO.__line") 0 .none .none .none .none none .none .none 0)), #[]⟩
noncomputable def o887_52 (P : Params) : Obj := ⟨(.type "code"), none, (.fields #[(.str (zs "__line") 1295), (.str (zs "BytesIO.__line") 1296), (.str (zs "/claim/cut.py") 1297), (.int 445 0), (.int 2 0), (.int 0 0), (.int 0 0), (.int 3 0), (.ref 882), (.bool true), (.int 181 0), (.ref 883), .none, (.ref 884), (.ref 885), (.ref 886), (.int 1303 0), (.int 445 0), (.str (zs "/claim/cut.py") 1304)]), #[]⟩
noncomputable def o888_52 (P : Params) : Obj := ⟨(.type "function"), none, (.func (fd (sc 41 3) (zs "BytesIO.__line") 3 .none .none .none (.str (zs "io") 1158) none (.ref 887) .none 0)), #[]⟩
noncomputable def o889_52 (P : Params) : Obj := ⟨(.type "tuple"), none, (.seq #[] 0), #[]⟩
noncomputable def o890_52 (P : Params) : Obj := ⟨.none, none, (.fields #[]), #[]⟩
noncomputable def o891_52 (P : Params) : Obj := ⟨(.type "tuple"), none, (.seq #[(.str (zs "self") 1309)] 0), #[]⟩
noncomputable def o892_52 (P : Params) : Obj := ⟨(.type "tuple"), none, (.seq #[] 0), #[]⟩
noncomputable def o893_52 (P : Params) : Obj := ⟨.none, none, (.func (fd (sc 41 4) (zs "BytesIO.closed") 0 .none .none .none .none none .none .none 0)), #[]⟩
noncomputable def o894_52 (P : Params) : Obj := ⟨(.type "code"), none, (.fields #[(.str (zs "closed") 1306), (.str (zs "BytesIO.closed") 1307), (.str (zs "/claim/cut.py") 1308), (.int 458 0), (.int 1 0), (.int 0 0), (.int 0 0), (.int 3 0), (.ref 889), (.bool true), (.int 181 0), (.ref 890), .none, (.ref 891), (.ref 892), (.ref 893), (.int 1310 0), (.int 458 0), (.str (zs "/claim/cut.py") 1311)]), #[]⟩
noncomputable def o895_52 (P : Params) : Obj := ⟨(.type "function"), none, (.func (fd (sc 41 4) (zs "BytesIO.closed") 3 .none .none .none (.str (zs "io") 1158) none (.ref 894) .none 0)), #[]⟩
noncomputable def o896_52 (P : Params) : Obj := ⟨(.type "property"), none, (.fields #[(.ref 895), .none, .none, .none, (.str (zs "closed") 1313), (.bool false)]), #[]⟩
noncomputable def o897_52 (P : Params) : Obj := ⟨(.type "tuple"), none, (.seq #[] 0), #[]⟩
noncomputable def o898_52 (P : Params) : Obj := ⟨.none, none, (.fields #[]), #[]⟩
noncomputable def o899_52 (P : Params) : Obj := ⟨(.type "tuple"), none, (.seq #[(.str (zs "self") 1317)] 0), #[]⟩
noncomputable def o900_52 (P : Params) : Obj := ⟨(.type "tuple"), none, (.seq #[] 0), #[]⟩
noncomputable def o901_52 (P : Params) : Obj := ⟨.none, none, (.func (fd (sc 41 5) (zs "BytesIO.close") 0 .none .none .none .none none .none .none 0)), #[]⟩
noncomputable def o902_52 (P : Params) : Obj := ⟨(.type "code"), none, (.fields #[(.str (zs "close") 1314), (.str (zs "BytesIO.close") 1315), (.str (zs "/claim/cut.py") 1316), (.int 462 0), (.int 1 0), (.int 0 0), (.int 0 0), (.int 3 0), (.ref 897), (.bool true), (.int 181 0), (.ref 898), .none, (.ref 899), (.ref 900), (.ref 901), (.int 1318 0), (.int 462 0), (.str (zs "/claim/cut.py") 1319)]), #[]⟩
noncomputable def o903_52 (P : Params) : Obj := ⟨(.type "function"), none, (.func (fd (sc 41 5) (zs "BytesIO.close") 3 .none .none .none (.str (zs "io") 1158) none (.ref 902) .none 0)), #[]⟩
noncomputable def o904_52 (P : Params) : Obj := ⟨(.type "tuple"), none, (.seq #[] 0), #[]⟩
noncomputable def o905_52 (P : Params) : Obj := ⟨.none, none, (.fields #[]), #[]⟩
noncomputable def o906_52 (P : Params) : Obj := ⟨(.type "tuple"), none, (.seq #[(.str (zs "self") 1324)] 0), #[]⟩
noncomputable def o907_52 (P : Params) : Obj := ⟨(.type "tuple"), none, (.seq #[] 0), #[]⟩
noncomputable def o908_52 (P : Params) : Obj := ⟨.none, none, (.func (fd (sc 41 6) (zs "BytesIO.__enter__") 0 .none .none .none .none none .none .none 0)), #[]⟩
noncomputable def o909_52 (P : Params) : Obj := ⟨(.type "code"), none, (.fields #[(.str (zs "__enter__") 1321), (.str (zs "BytesIO.__enter__") 1322), (.str (zs "/claim/cut.py") 1323), (.int 465 0), (.int 1 0), (.int 0 0), (.int 0 0), (.int 3 0), (.ref 904), (.bool true), (.int 181 0), (.ref 905), .none, (.ref 906), (.ref 907), (.ref 908), (.int 1325 0), (.int 465 0), (.str (zs "/claim/cut.py") 1326)]), #[]⟩
noncomputable def o910_52 (P : Params) : Obj := ⟨(.type "function"), none, (.func (fd (sc 41 6) (zs "BytesIO.__enter__") 3 .none .none .none (.str (zs "io") 1158) none (.ref 909) .none 0)), #[]⟩
noncomputable def o911_52 (P : Params) : Obj := ⟨(.type "tuple"), none, (.seq #[] 0), #[]⟩
noncomputable def o912_52 (P : Params) : Obj := ⟨.none, none, (.fields #[]), #[]⟩
noncomputable def o913_52 (P : Params) : Obj := ⟨(.type "tuple"), none, (.seq #[(.str (zs "self") 1331), (.str (zs "args") 1332)] 0), #[]⟩
noncomputable def o914_52 (P : Params) : Obj := ⟨(.type "tuple"), none, (.seq #[] 0), #[]⟩
noncomputable def o915_52 (P : Params) : Obj := ⟨.none, none, (.func (fd (sc 41 7) (zs "BytesIO.__exit__") 0 .none .none .none .none none .none .none 0)), #[]⟩
noncomputable def o916_52 (P : Params) : Obj := ⟨(.type "code"), none, (.fields #[(.str (zs "__exit__") 1328), (.str (zs "BytesIO.__exit__") 1329), (.str (zs "/claim/cut.py") 1330), (.int 469 0), (.int 1 0), (.int 0 0), (.int 0 0), (.int 7 0), (.ref 911), (.bool true), (.int 181 0), (.ref 912), .none, (.ref 913), (.ref 914), (.ref 915), (.int 1333 0), (.int 469 0), (.str (zs "/claim/cut.py") 1334)]), #[]⟩
noncomputable def o917_52 (P : Params) : Obj := ⟨(.type "function"), none, (.func (fd (sc 41 7) (zs "BytesIO.__exit__") 3 .none .none .none (.str (zs "io") 1158) none (.ref 916) .none 0)), #[]⟩
noncomputable def o918_52 (P : Params) : Obj := ⟨(.type "tuple"), none, (.seq #[] 0), #[]⟩
noncomputable def o919_52 (P : Params) : Obj := ⟨.none, none, (.fields #[]), #[]⟩
noncomputable def o920_52 (P : Params) : Obj := ⟨(.type "tuple"), none, (.seq #[(.str (zs "self") 1339)] 0), #[]⟩
noncomputable def o921_52 (P : Params) : Obj := ⟨(.type "tuple"), none, (.seq #[] 0), #[]⟩
noncomputable def o922_52 (P : Params) : Obj := ⟨.none, none, (.func (fd (sc 41 8) (zs "BytesIO.readable") 0 .none .none .none .none none .none .none 0)), #[]⟩
noncomputable def o923_52 (P : Params) : Obj := ⟨(.type "code"), none, (.fields #[(.str (zs "readable") 1336), (.str (zs "BytesIO.readable") 1337), (.str (zs "/claim/cut.py") 1338), (.int 472 0), (.int 1 0), (.int 0 0), (.int 0 0), (.int 3 0), (.ref 918), (.bool true), (.int 181 0), (.ref 919), .none, (.ref 920), (.ref 921), (.ref 922), (.int 1340 0), (.int 472 0), (.str (zs "/claim/cut.py") 1341)]), #[]⟩
noncomputable def o924_52 (P : Params) : Obj := ⟨(.type "function"), none, (.func (fd (sc 41 8) (zs "BytesIO.readable") 3 .none .none .none (.str (zs "io") 1158) none (.ref 923) .none 0)), #[]⟩
noncomputable def o925_52 (P : Params) : Obj := ⟨(.type "tuple"), none, (.seq #[] 0), #[]⟩
noncomputable def o926_52 (P : Params) : Obj := ⟨.none, none, (.fields #[]), #[]⟩
noncomputable def o927_52 (P : Params) : Obj := ⟨(.type "tuple"), none, (.seq #[(.str (zs "self") 1346)] 0), #[]⟩
noncomputable def o928_52 (P : Params) : Obj := ⟨(.type "tuple"), none, (.seq #[] 0), #[]⟩
noncomputable def o929_52 (P : Params) : Obj := ⟨.none, none, (.func (fd (sc 41 9) (zs "BytesIO.writable") 0 .none .none .none .none none .none .none 0)), #[]⟩
noncomputable def o930_52 (P : Params) : Obj := ⟨(.type "code"), none, (.fields #[(.str (zs "writable") 1343), (.str (zs "BytesIO.writable") 1344), (.str (zs "/claim/cut.py") 1345), (.int 476 0), (.int 1 0), (.int 0 0), (.int 0 0), (.int 3 0), (.ref 925), (.bool true), (.int 181 0), (.ref 926), .none, (.ref 927), (.ref 928), (.ref 929), (.int 1347 0), (.int 476 0), (.str (zs "/claim/cut.py") 1348)]), #[]⟩
noncomputable def o931_52 (P : Params) : Obj := ⟨(.type "function"), none, (.func (fd (sc 41 9) (zs "BytesIO.writable") 3 .none .none .none (.str (zs "io") 1158) none (.ref 930) .none 0)), #[]⟩
noncomputable def o932_52 (P : Params) : Obj := ⟨(.type "tuple"), none, (.seq #[] 0), #[]⟩
noncomputable def o933_52 (P : Params) : Obj := ⟨.none, none, (.fields #[]), #[]⟩
noncomputable def o934_52 (P : Params) : Obj := ⟨(.type "tuple"), none, (.seq #[(.str (zs "self") 1353)] 0), #[]⟩
noncomputable def o935_52 (P : Params) : Obj := ⟨(.type "tuple"), none, (.seq #[] 0), #[]⟩
noncomputable def o936_52 (P : Params) : Obj := ⟨.none, none, (.func (fd (sc 41 10) (zs "BytesIO.seekable") 0 .none .none .none .none none .none .none 0)), #[]⟩
noncomputable def o937_52 (P : Params) : Obj := ⟨(.type "code"), none, (.fields #[(.str (zs "seekable") 1350), (.str (zs "BytesIO.seekable") 1351), (.str (zs "/claim/cut.py") 1352), (.int 480 0), (.int 1 0), (.int 0 0), (.int 0 0), (.int 3 0), (.ref 932), (.bool true), (.int 181 0), (.ref 933), .none, (.ref 934), (.ref 935), (.ref 936), (.int 1354 0), (.int 480 0), (.str (zs "/claim/cut.py") 1355)]), #[]⟩
noncomputable def o938_52 (P : Params) : Obj := ⟨(.type "function"), none, (.func (fd (sc 41 10) (zs "BytesIO.seekable") 3 .none .none .none (.str (zs "io") 1158) none (.ref 937) .none 0)), #[]⟩
noncomputable def o939_52 (P : Params) : Obj := ⟨(.type "tuple"), none, (.seq #[] 0), #[]⟩
noncomputable def o940_52 (P : Params) : Obj := ⟨.none, none, (.fields #[]), #[]⟩
noncomputable def o941_52 (P : Params) : Obj := ⟨(.type "tuple"), none, (.seq #[(.str (zs "self") 1360)] 0), #[]⟩
noncomputable def o942_52 (P : Params) : Obj := ⟨(.type "tuple"), none, (.seq #[] 0), #[]⟩
noncomputable def o943_52 (P : Params) : Obj := ⟨.none, none, (.func (fd (sc 41 11) (zs "BytesIO.isatty") 0 .none .none .none .none none .none .none 0)), #[]⟩
noncomputable def o944_52 (P : Params) : Obj := ⟨(.type "code"), none, (.fields #[(.str (zs "isatty") 1357), (.str (zs "BytesIO.isatty") 1358), (.str (zs "/claim/cut.py") 1359), (.int 484 0), (.int 1 0), (.int 0 0), (.int 0 0), (.int 3 0), (.ref 939), (.bool true), (.int 181 0), (.ref 940), .none, (.ref 941), (.ref 942), (.ref 943), (.int 1361 0), (.int 484 0), (.str (zs "/claim/cut.py") 1362)]), #[]⟩
noncomputable def o945_52 (P : Params) : Obj := ⟨(.type "function"), none, (.func (fd (sc 41 11) (zs "BytesIO.isatty") 3 .none .none .none (.str (zs "io") 1158) none (.ref 944) .none 0)), #[]⟩
noncomputable def o946_52 (P : Params) : Obj := ⟨(.type "tuple"), none, (.seq #[] 0), #[]⟩
noncomputable def o947_52 (P : Params) : Obj := ⟨.none, none, (.fields #[]), #[]⟩
noncomputable def o948_52 (P : Params) : Obj := ⟨(.type "tuple"), none, (.seq #[(.str (zs "self") 1367)] 0), #[]⟩
noncomputable def o949_52 (P : Params) : Obj := ⟨(.type "tuple"), none, (.seq #[] 0), #[]⟩
noncomputable def o950_52 (P : Params) : Obj := ⟨.none, none, (.func (fd (sc 41 12) (zs "BytesIO.flush") 0 .none .none .none .none none .none .none 0)), #[]⟩
noncomputable def o951_52 (P : Params) : Obj := ⟨(.type "code"), none, (.fields #[(.str (zs "flush") 1364), (.str (zs "BytesIO.flush") 1365), (.str (zs "/claim/cut.py") 1366), (.int 488 0), (.int 1 0), (.int 0 0), (.int 0 0), (.int 3 0), (.ref 946), (.bool true), (.int 181 0), (.ref 947), .none, (.ref 948), (.ref 949), (.ref 950), (.int 1368 0), (.int 488 0), (.str (zs "/claim/cut.py") 1369)]), #[]⟩
noncomputable def o952_52 (P : Params) : Obj := ⟨(.type "function"), none, (.func (fd (sc 41 12) (zs "BytesIO.flush") 3 .none .none .none (.str (zs "io") 1158) none (.ref 951) .none 0)), #[]⟩
noncomputable def o953_52 (P : Params) : Obj := ⟨(.type "tuple"), none, (.seq #[] 0), #[]⟩
noncomputable def o954_52 (P : Params) : Obj := ⟨.none, none, (.fields #[]), #[]⟩
noncomputable def o955_52 (P : Params) : Obj := ⟨(.type "tuple"), none, (.seq #[(.str (zs "self") 1374)] 0), #[]⟩
noncomputable def o956_52 (P : Params) : Obj := ⟨(.type "tuple"), none, (.seq #[] 0), #[]⟩
noncomputable def o957_52 (P : Params) : Obj := ⟨.none, none, (.func (fd (sc 41 13) (zs "BytesIO.fileno") 0 .none .none .none .none none .none .none 0)), #[]⟩
noncomputable def o958_52 (P : Params) : Obj := ⟨(.type "code"), none, (.fields #[(.str (zs "fileno") 1371), (.str (zs "BytesIO.fileno") 1372), (.str (zs "/claim/cut.py") 1373), (.int 491 0), (.int 1 0), (.int 0 0), (.int 0 0), (.int 3 0), (.ref 953), (.bool true), (.int 181 0), (.ref 954), .none, (.ref 955), (.ref 956), (.ref 957), (.int 1375 0), (.int 491 0), (.str (zs "/claim/cut.py") 1376)]), #[]⟩
noncomputable def o959_52 (P : Params) : Obj := ⟨(.type "function"), none, (.func (fd (sc 41 13) (zs "BytesIO.fileno") 3 .none .none .none (.str (zs "io") 1158) none (.ref 958) .none 0)), #[]⟩
noncomputable def o960_52 (P : Params) : Obj := ⟨(.type "tuple"), none, (.seq #[] 0), #[]⟩
noncomputable def o961_52 (P : Params) : Obj := ⟨.none, none, (.fields #[]), #[]⟩
noncomputable def o962_52 (P : Params) : Obj := ⟨(.type "tuple"), none, (.seq #[(.str (zs "self") 1381)] 0), #[]⟩
noncomputable def o963_52 (P : Params) : Obj := ⟨(.type "tuple"), none, (.seq #[] 0), #[]⟩
noncomputable def o964_52 (P : Params) : Obj := ⟨.none, none, (.func (fd (sc 41 14) (zs "BytesIO.detach") 0 .none .none .none .none none .none .none 0)), #[]⟩
noncomputable def o965_52 (P : Params) : Obj := ⟨(.type "code"), none, (.fields #[(.str (zs "detach") 1378), (.str (zs "BytesIO.detach") 1379), (.str (zs "/claim/cut.py") 1380), (.int 494 0), (.int 1 0), (.int 0 0), (.int 0 0), (.int 3 0), (.ref 960), (.bool true), (.int 181 0), (.ref 961), .none, (.ref 962), (.ref 963), (.ref 964), (.int 1382 0), (.int 494 0), (.str (zs "/claim/cut.py") 1383)]), #[]⟩
noncomputable def o966_52 (P : Params) : Obj := ⟨(.type "function"), none, (.func (fd (sc 41 14) (zs "BytesIO.detach") 3 .none .none .none (.str (zs "io") 1158) none (.ref 965) .none 0)), #[]⟩
noncomputable def o967_52 (P : Params) : Obj := ⟨(.type "tuple"), none, (.seq #[] 0), #[]⟩
noncomputable def o968_52 (P : Params) : Obj := ⟨.none, none, (.fields #[]), #[]⟩
noncomputable def o969_52 (P : Params) : Obj := ⟨(.type "tuple"), none, (.seq #[(.str (zs "self") 1388)] 0), #[]⟩
noncomputable def o970_52 (P : Params) : Obj := ⟨(.type "tuple"), none, (.seq #[] 0), #[]⟩
noncomputable def o971_52 (P : Params) : Obj := ⟨.none, none, (.func (fd (sc 41 15) (zs "BytesIO.getvalue") 0 .none .none .none .none none .none .none 0)), #[]⟩
noncomputable def o972_52 (P : Params) : Obj := ⟨(.type "code"), none, (.fields #[(.str (zs "getvalue") 1385), (.str (zs "BytesIO.getvalue") 1386), (.str (zs "/claim/cut.py") 1387), (.int 497 0), (.int 1 0), (.int 0 0), (.int 0 0), (.int 3 0), (.ref 967), (.bool true), (.int 181 0), (.ref 968), .none, (.ref 969), (.ref 970), (.ref 971), (.int 1389 0), (.int 497 0), (.str (zs "/claim/cut.py") 1390)]), #[]⟩
noncomputable def o973_52 (P : Params) : Obj := ⟨(.type "function"), none, (.func (fd (sc 41 15) (zs "BytesIO.getvalue") 3 .none .none .none (.str (zs "io") 1158) none (.ref 972) .none 0)), #[]⟩
noncomputable def o974_52 (P : Params) : Obj := ⟨(.type "tuple"), none, (.seq #[] 0), #[]⟩
noncomputable def o975_52 (P : Params) : Obj := ⟨.none, none, (.fields #[]), #[]⟩
noncomputable def o976_52 (P : Params) : Obj := ⟨(.type "tuple"), none, (.seq #[(.str (zs "self") 1395)] 0), #[]⟩
noncomputable def o977_52 (P : Params) : Obj := ⟨(.type "tuple"), none, (.seq #[] 0), #[]⟩
noncomputable def o978_52 (P : Params) : Obj := ⟨.none, none, (.func (fd (sc 41 16) (zs "BytesIO.getbuffer") 0 .none .none .none .none none .none .none 0)), #[]⟩
noncomputable def o979_52 (P : Params) : Obj := ⟨(.type "code"), none, (.fields #[(.str (zs "getbuffer") 1392), (.str (zs "BytesIO.getbuffer") 1393), (.str (zs "/claim/cut.py") 1394), (.int 500 0), (.int 1 0), (.int 0 0), (.int 0 0), (.int 3 0), (.ref 974), (.bool true), (.int 181 0), (.ref 975), .none, (.ref 976), (.ref 977), (.ref 978), (.int 1396 0), (.int 500 0), (.str (zs "/claim/cut.py") 1397)]), #[]⟩
noncomputable def o980_52 (P : Params) : Obj := ⟨(.type "function"), none, (.func (fd (sc 41 16) (zs "BytesIO.getbuffer") 3 .none .none .none (.str (zs "io") 1158) none (.ref 979) .none 0)), #[]⟩
noncomputable def o981_52 (P : Params) : Obj := ⟨(.type "tuple"), none, (.seq #[] 0), #[]⟩
noncomputable def o982_52 (P : Params) : Obj := ⟨.none, none, (.fields #[]), #[]⟩
noncomputable def o983_52 (P : Params) : Obj := ⟨(.type "tuple"), none, (.seq #[(.str (zs "self") 1402)] 0), #[]⟩
noncomputable def o984_52 (P : Params) : Obj := ⟨(.type "tuple"), none, (.seq #[] 0), #[]⟩
noncomputable def o985_52 (P : Params) : Obj := ⟨.none, none, (.func (fd (sc 41 17) (zs "BytesIO.tell") 0 .none .none .none .none none .none .none 0)), #[]⟩
noncomputable def o986_52 (P : Params) : Obj := ⟨(.type "code"), none, (.fields #[(.str (zs "tell") 1399), (.str (zs "BytesIO.tell") 1400), (.str (zs "/claim/cut.py") 1401), (.int 503 0), (.int 1 0), (.int 0 0), (.int 0 0), (.int 3 0), (.ref 981), (.bool true), (.int 181 0), (.ref 982), .none, (.ref 983), (.ref 984), (.ref 985), (.int 1403 0), (.int 503 0), (.str (zs "/claim/cut.py") 1404)]), #[]⟩
noncomputable def o987_52 (P : Params) : Obj := ⟨(.type "function"), none, (.func (fd (sc 41 17) (zs "BytesIO.tell") 3 .none .none .none (.str (zs "io") 1158) none (.ref 986) .none 0)), #[]⟩
noncomputable def o988_52 (P : Params) : Obj := ⟨(.type "tuple"), none, (.seq #[(.int 0 1406)] 0), #[]⟩
noncomputable def o989_52 (P : Params) : Obj := ⟨(.type "tuple"), none, (.seq #[] 0), #[]⟩
noncomputable def o990_52 (P : Params) : Obj := ⟨.none, none, (.fields #[]), #[]⟩
noncomputable def o991_52 (P : Params) : Obj := ⟨(.type "tuple"), none, (.seq #[(.str (zs "self") 1410), (.str (zs "pos") 1411), (.str (zs "whence") 1412)] 0), #[]⟩
noncomputable def o992_52 (P : Params) : Obj := ⟨(.type "tuple"), none, (.seq #[] 0), #[]⟩
noncomputable def o993_52 (P : Params) : Obj := ⟨.none, none, (.func (fd (sc 41 18) (zs "BytesIO.seek") 0 .none .none .none .none none .none .none 0)), #[]⟩
noncomputable def o994_52 (P : Params) : Obj := ⟨(.type "code"), none, (.fields #[(.str (zs "seek") 1407), (.str (zs "BytesIO.seek") 1408), (.str (zs "/claim/cut.py") 1409), (.int 507 0), (.int 3 0), (.int 3 0), (.int 0 0), (.int 3 0), (.ref 989), (.bool true), (.int 181 0), (.ref 990), .none, (.ref 991), (.ref 992), (.ref 993), (.int 1413 0), (.int 507 0), (.str (zs "/claim/cut.py") 1414)]), #[]⟩
noncomputable def o995_52 (P : Params) : Obj := ⟨(.type "function"), none, (.func (fd (sc 41 18) (zs "BytesIO.seek") 3 (.ref 988) .none .none (.str (zs "io") 1158) none (.ref 994) .none 0)), #[]⟩
noncomputable def o996_52 (P : Params) : Obj := ⟨(.type "tuple"), none, (.seq #[.none] 0), #[]⟩
noncomputable def o997_52 (P : Params) : Obj := ⟨(.type "tuple"), none, (.seq #[] 0), #[]⟩
noncomputable def o998_52 (P : Params) : Obj := ⟨.none, none, (.fields #[]), #[]⟩
noncomputable def o999_52 (P : Params) : Obj := ⟨(.type "tuple"), none, (.seq #[(.str (zs "self") 1419), (.str (zs "size") 1420)] 0), #[]⟩
noncomputable def o1000_52 (P : Params) : Obj := ⟨(.type "tuple"), none, (.seq #[] 0), #[]⟩
noncomputable def o1001_52 (P : Params) : Obj := ⟨.none, none, (.func (fd (sc 41 19) (zs "BytesIO.truncate") 0 .none .none .none .none none .none .none 0)), #[]⟩
noncomputable def o1002_52 (P : Params) : Obj := ⟨(.type "code"), none, (.fields #[(.str (zs "truncate") 1416), (.str (zs "BytesIO.truncate") 1417), (.str (zs "/claim/cut.py") 1418), (.int 524 0), (.int 2 0), (.int 2 0), (.int 0 0), (.int 3 0), (.ref 997), (.bool true), (.int 181 0), (.ref 998), .none, (.ref 999), (.ref 1000), (.ref 1001), (.int 1421 0), (.int 524 0), (.str (zs "/claim/cut.py") 1422)]), #[]⟩
noncomputable def o1003_52 (P : Params) : Obj := ⟨(.type "function"), none, (.func (fd (sc 41 19) (zs "BytesIO.truncate") 3 (.ref 996) .none .none (.str (zs "io") 1158) none (.ref 1002) .none 0)), #[]⟩
noncomputable def o1004_52 (P : Params) : Obj := ⟨(.type "tuple"), none, (.seq #[(.int (-1) 1425)] 0), #[]⟩
noncomputable def o1005_52 (P : Params) : Obj := ⟨(.type "tuple"), none, (.seq #[] 0), #[]⟩
noncomputable def o1006_52 (P : Params) : Obj := ⟨.none, none, (.fields #[]), #[]⟩
noncomputable def o1007_52 (P : Params) : Obj := ⟨(.type "tuple"), none, (.seq #[(.str (zs "self") 1429), (.str (zs "size") 1430), (.str (zs "start") 1431), (.str (zs "stop") 1432)] 0), #[]⟩
noncomputable def o1008_52 (P : Params) : Obj := ⟨(.type "tuple"), none, (.seq #[] 0), #[]⟩
noncomputable def o1009_52 (P : Params) : Obj := ⟨.none, none, (.func (fd (sc 41 20) (zs "BytesIO.read") 0 .none .none .none .none none .none .none 0)), #[]⟩
noncomputable def o1010_52 (P : Params) : Obj := ⟨(.type "code"), none, (.fields #[(.str (zs "read") 1426), (.str (zs "BytesIO.read") 1427), (.str (zs "/claim/cut.py") 1428), (.int 527 0), (.int 2 0), (.int 2 0), (.int 0 0), (.int 3 0), (.ref 1005), (.bool true), (.int 181 0), (.ref 1006), .none, (.ref 1007), (.ref 1008), (.ref 1009), (.int 1433 0), (.int 527 0), (.str (zs "/claim/cut.py") 1434)]), #[]⟩
noncomputable def o1011_52 (P : Params) : Obj := ⟨(.type "function"), none, (.func (fd (sc 41 20) (zs "BytesIO.read") 3 (.ref 1004) .none .none (.str (zs "io") 1158) none (.ref 1010) .none 0)), #[]⟩
noncomputable def o1012_52 (P : Params) : Obj := ⟨(.type "tuple"), none, (.seq #[(.int (-1) 1437)] 0), #[]⟩
noncomputable def o1013_52 (P : Params) : Obj := ⟨(.type "tuple"), none, (.seq #[] 0), #[]⟩
noncomputable def o1014_52 (P : Params) : Obj := ⟨.none, none, (.fields #[]), #[]⟩
noncomputable def o1015_52 (P : Params) : Obj := ⟨(.type "tuple"), none, (.seq #[(.str (zs "self") 1441), (.str (zs "size") 1442)] 0), #[]⟩
noncomputable def o1016_52 (P : Params) : Obj := ⟨(.type "tuple"), none, (.seq #[] 0), #[]⟩
noncomputable def o1017_52 (P : Params) : Obj := ⟨.none, none, (.func (fd (sc 41 21) (zs "BytesIO.read1") 0 .none .none .none .none none .none .none 0)), #[]⟩
noncomputable def o1018_52 (P : Params) : Obj := ⟨(.type "code"), none, (.fields #[(.str (zs "read1") 1438), (.str (zs "BytesIO.read1") 1439), (.str (zs "/claim/cut.py") 1440), (.int 541 0), (.int 2 0), (.int 2 0), (.int 0 0), (.int 3 0), (.ref 1013), (.bool true), (.int 181 0), (.ref 1014), .none, (.ref 1015), (.ref 1016), (.ref 1017), (.int 1443 0), (.int 541 0), (.str (zs "/claim/cut.py") 1444)]), #[]⟩
noncomputable def o1019_52 (P : Params) : Obj := ⟨(.type "function"), none, (.func (fd (sc 41 21) (zs "BytesIO.read1") 3 (.ref 1012) .none .none (.str (zs "io") 1158) none (.ref 1018) .none 0)), #[]⟩
noncomputable def o1020_52 (P : Params) : Obj := ⟨(.type "tuple"), none, (.seq #[] 0), #[]⟩
noncomputable def o1021_52 (P : Params) : Obj := ⟨.none, none, (.fields #[]), #[]⟩
noncomputable def o1022_52 (P : Params) : Obj := ⟨(.type "tuple"), none, (.seq #[(.str (zs "self") 1449), (.str (zs "buffer") 1450), (.str (zs "start") 1451), (.str (zs "n") 1452)] 0), #[]⟩
noncomputable def o1023_52 (P : Params) : Obj := ⟨(.type "tuple"), none, (.seq #[] 0), #[]⟩
noncomputable def o1024_52 (P : Params) : Obj := ⟨.none, none, (.func (fd (sc 41 22) (zs "BytesIO.readinto") 0 .none .none .none .none none .none .none 0)), #[]⟩
noncomputable def o1025_52 (P : Params) : Obj := ⟨(.type "code"), none, (.fields #[(.str (zs "readinto") 1446), (.str (zs "BytesIO.readinto") 1447), (.str (zs "/claim/cut.py") 1448), (.int 544 0), (.int 2 0), (.int 2 0), (.int 0 0), (.int 3 0), (.ref 1020), (.bool true), (.int 181 0), (.ref 1021), .none, (.ref 1022), (.ref 1023), (.ref 1024), (.int 1453 0), (.int 544 0), (.str (zs "/claim/cut.py") 1454)]), #[]⟩
noncomputable def o1026_52 (P : Params) : Obj := ⟨(.type "function"), none, (.func (fd (sc 41 22) (zs "BytesIO.readinto") 3 .none .none .none (.str (zs "io") 1158) none (.ref 1025) .none 0)), #[]⟩
noncomputable def o1027_52 (P : Params) : Obj := ⟨(.type "tuple"), none, (.seq #[] 0), #[]⟩
noncomputable def o1028_52 (P : Params) : Obj := ⟨.none, none, (.fields #[]), #[]⟩
noncomputable def o1029_52 (P : Params) : Obj := ⟨(.type "tuple"), none, (.seq #[(.str (zs "self") 1459), (.str (zs "buffer") 1460)] 0), #[]⟩
noncomputable def o1030_52 (P : Params) : Obj := ⟨(.type "tuple"), none, (.seq #[] 0), #[]⟩
noncomputable def o1031_52 (P : Params) : Obj := ⟨.none, none, (.func (fd (sc 41 23) (zs "BytesIO.readinto1") 0 .none .none .none .none none .none .none 0)), #[]⟩
noncomputable def o1032_52 (P : Params) : Obj := ⟨(.type "code"), none, (.fields #[(.str (zs "readinto1") 1456), (.str (zs "BytesIO.readinto1") 1457), (.str (zs "/claim/cut.py") 1458), (.int 558 0), (.int 2 0), (.int 2 0), (.int 0 0), (.int 3 0), (.ref 1027), (.bool true), (.int 181 0), (.ref 1028), .none, (.ref 1029), (.ref 1030), (.ref 1031), (.int 1461 0), (.int 558 0), (.str (zs "/claim/cut.py") 1462)]), #[]⟩
noncomputable def o1033_52 (P : Params) : Obj := ⟨(.type "function"), none, (.func (fd (sc 41 23) (zs "BytesIO.readinto1") 3 .none .none .none (.str (zs "io") 1158) none (.ref 1032) .none 0)), #[]⟩
noncomputable def o1034_52 (P : Params) : Obj := ⟨(.type "tuple"), none, (.seq #[(.int (-1) 1465)] 0), #[]⟩
noncomputable def o1035_52 (P : Params) : Obj := ⟨(.type "tuple"), none, (.seq #[] 0), #[]⟩
noncomputable def o1036_52 (P : Params) : Obj := ⟨.none, none, (.fields #[]), #[]⟩
noncomputable def o1037_52 (P : Params) : Obj := ⟨(.type "tuple"), none, (.seq #[(.str (zs "self") 1469), (.str (zs "size") 1470)] 0), #[]⟩
noncomputable def o1038_52 (P : Params) : Obj := ⟨(.type "tuple"), none, (.seq #[] 0), #[]⟩
noncomputable def o1039_52 (P : Params) : Obj := ⟨.none, none, (.func (fd (sc 41 24) (zs "BytesIO.readline") 0 .none .none .none .none none .none .none 0)), #[]⟩
noncomputable def o1040_52 (P : Params) : Obj := ⟨(.type "code"), none, (.fields #[(.str (zs "readline") 1466), (.str (zs "BytesIO.readline") 1467), (.str (zs "/claim/cut.py") 1468), (.int 561 0), (.int 2 0), (.int 2 0), (.int 0 0), (.int 3 0), (.ref 1035), (.bool true), (.int 181 0), (.ref 1036), .none, (.ref 1037), (.ref 1038), (.ref 1039), (.int 1471 0), (.int 561 0), (.str (zs "/claim/cut.py") 1472)]), #[]⟩
noncomputable def o1041_52 (P : Params) : Obj := ⟨(.type "function"), none, (.func (fd (sc 41 24) (zs "BytesIO.readline") 3 (.ref 1034) .none .none (.str (zs "io") 1158) none (.ref 1040) .none 0)), #[]⟩
noncomputable def o1042_52 (P : Params) : Obj := ⟨(.type "tuple"), none, (.seq #[.none] 0), #[]⟩
noncomputable def o1043_52 (P : Params) : Obj := ⟨(.type "tuple"), none, (.seq #[] 0), #[]⟩
noncomputable def o1044_52 (P : Params) : Obj := ⟨.none, none, (.fields #[]), #[]⟩
noncomputable def o1045_52 (P : Params) : Obj := ⟨(.type "tuple"), none, (.seq #[(.str (zs "self") 1477), (.str (zs "size") 1478)] 0), #[]⟩
noncomputable def o1046_52 (P : Params) : Obj := ⟨(.type "tuple"), none, (.seq #[] 0), #[]⟩
noncomputable def o1047_52 (P : Params) : Obj := ⟨.none, none, (.func (fd (sc 41 25) (zs "BytesIO.readlines") 0 .none .none .none .none none .none .none 0)), #[]⟩
noncomputable def o1048_52 (P : Params) : Obj := ⟨(.type "code"), none, (.fields #[(.str (zs "readlines") 1474), (.str (zs "BytesIO.readlines") 1475), (.str (zs "/claim/cut.py") 1476), (.int 568 0), (.int 2 0), (.int 2 0), (.int 0 0), (.int 3 0), (.ref 1043), (.bool true), (.int 181 0), (.ref 1044), .none, (.ref 1045), (.ref 1046), (.ref 1047), (.int 1479 0), (.int 568 0), (.str (zs "/claim/cut.py") 1480)]), #[]⟩
noncomputable def o1049_52 (P : Params) : Obj := ⟨(.type "function"), none, (.func (fd (sc 41 25) (zs "BytesIO.readlines") 3 (.ref 1042) .none .none (.str (zs "io") 1158) none (.ref 1048) .none 0)), #[]⟩
noncomputable def o1050_52 (P : Params) : Obj := ⟨(.type "tuple"), none, (.seq #[] 0), #[]⟩
noncomputable def o1051_52 (P : Params) : Obj := ⟨.none, none, (.fields #[]), #[]⟩
noncomputable def o1052_52 (P : Params) : Obj := ⟨(.type "tuple"), none, (.seq #[(.str (zs "self") 1485)] 0), #[]⟩
noncomputable def o1053_52 (P : Params) : Obj := ⟨(.type "tuple"), none, (.seq #[] 0), #[]⟩
noncomputable def o1054_52 (P : Params) : Obj := ⟨.none, none, (.func (fd (sc 41 26) (zs "BytesIO.__iter__") 0 .none .none .none .none none .none .none 0)), #[]⟩
noncomputable def o1055_52 (P : Params) : Obj := ⟨(.type "code"), none, (.fields #[(.str (zs "__iter__") 1482), (.str (zs "BytesIO.__iter__") 1483), (.str (zs "/claim/cut.py") 1484), (.int 571 0), (.int 1 0), (.int 0 0), (.int 0 0), (.int 3 0), (.ref 1050), (.bool true), (.int 181 0), (.ref 1051), .none, (.ref 1052), (.ref 1053), (.ref 1054), (.int 1486 0), (.int 571 0), (.str (zs "/claim/cut.py") 1487)]), #[]⟩
noncomputable def o1056_52 (P : Params) : Obj := ⟨(.type "function"), none, (.func (fd (sc 41 26) (zs "BytesIO.__iter__") 3 .none .none .none (.str (zs "io") 1158) none (.ref 1055) .none 0)), #[]⟩
noncomputable def o1057_52 (P : Params) : Obj := ⟨(.type "tuple"), none, (.seq #[] 0), #[]⟩
noncomputable def o1058_52 (P : Params) : Obj := ⟨.none, none, (.fields #[]), #[]⟩
noncomputable def o1059_52 (P : Params) : Obj := ⟨(.type "tuple"), none, (.seq #[(.str (zs "self") 1492), (.str (zs "line") 1493)] 0), #[]⟩
noncomputable def o1060_52 (P : Params) : Obj := ⟨(.type "tuple"), none, (.seq #[] 0), #[]⟩
noncomputable def o1061_52 (P : Params) : Obj := ⟨.none, none, (.func (fd (sc 41 27) (zs "BytesIO.__next__") 0 .none .none .none .none none .none .none 0)), #[]⟩
noncomputable def o1062_52 (P : Params) : Obj := ⟨(.type "code"), none, (.fields #[(.str (zs "__next__") 1489), (.str (zs "BytesIO.__next__") 1490), (.str (zs "/claim/cut.py") 1491), (.int 574 0), (.int 1 0), (.int 0 0), (.int 0 0), (.int 3 0), (.ref 1057), (.bool true), (.int 181 0), (.ref 1058), .none, (.ref 1059), (.ref 1060), (.ref 1061), (.int 1494 0), (.int 574 0), (.str (zs "/claim/cut.py") 1495)]), #[]⟩
noncomputable def o1063_52 (P : Params) : Obj := ⟨(.type "function"), none, (.func (fd (sc 41 27) (zs "BytesIO.__next__") 3 .none .none .none (.str (zs "io") 1158) none (.ref 1062) .none 0)), #[]⟩
noncomputable def o1064_52 (P : Params) : Obj := ⟨(.type "tuple"), none, (.seq #[] 0), #[]⟩
noncomputable def o1065_52 (P : Params) : Obj := ⟨.none, none, (.fields #[]), #[]⟩
noncomputable def o1066_52 (P : Params) : Obj := ⟨(.type "tuple"), none, (.seq #[(.str (zs "self") 1500), (.str (zs "b") 1501), (.str (zs "n") 1502), (.str (zs "start") 1503)] 0), #[]⟩
noncomputable def o1067_52 (P : Params) : Obj := ⟨(.type "tuple"), none, (.seq #[] 0), #[]⟩
noncomputable def o1068_52 (P : Params) : Obj := ⟨.none, none, (.func (fd (sc 41 28) (zs "BytesIO.write") 0 .none .none .none .none none .none .none 0)), #[]⟩
noncomputable def o1069_52 (P : Params) : Obj := ⟨(.type "code"), none, (.fields #[(.str (zs "write") 1497), (.str (zs "BytesIO.write") 1498), (.str (zs "/claim/cut.py") 1499), (.int 581 0), (.int 2 0), (.int 2 0), (.int 0 0), (.int 3 0), (.ref 1064), (.bool true), (.int 181 0), (.ref 1065), .none, (.ref 1066), (.ref 1067), (.ref 1068), (.int 1504 0), (.int 581 0), (.str (zs "/claim/cut.py") 1505)]), #[]⟩
noncomputable def o1070_52 (P : Params) : Obj := ⟨(.type "function"), none, (.func (fd (sc 41 28) (zs "BytesIO.write") 3 .none .none .none (.str (zs "io") 1158) none (.ref 1069) .none 0)), #[]⟩
noncomputable def o1071_52 (P : Params) : Obj := ⟨(.type "tuple"), none, (.seq #[] 0), #[]⟩
noncomputable def o1072_52 (P : Params) : Obj := ⟨.none, none, (.fields #[]), #[]⟩
noncomputable def o1073_52 (P : Params) : Obj := ⟨(.type "tuple"), none, (.seq #[(.str (zs "self") 1510), (.str (zs "lines") 1511)] 0), #[]⟩
noncomputable def o1074_52 (P : Params) : Obj := ⟨(.type "tuple"), none, (.seq #[] 0), #[]⟩
noncomputable def o1075_52 (P : Params) : Obj := ⟨.none, none, (.func (fd (sc 41 29) (zs "BytesIO.writelines") 0 .none .none .none .none none .none .none 0)), #[]⟩
noncomputable def o1076_52 (P : Params) : Obj := ⟨(.type "code"), none, (.fields #[(.str (zs "writelines") 1507), (.str (zs "BytesIO.writelines") 1508), (.str (zs "/claim/cut.py") 1509), (.int 597 0), (.int 2 0), (.int 2 0), (.int 0 0), (.int 3 0), (.ref 1071), (.bool true), (.int 181 0), (.ref 1072), .none, (.ref 1073), (.ref 1074), (.ref 1075), (.int 1512 0), (.int 597 0), (.str (zs "/claim/cut.py") 1513)]), #[]⟩
noncomputable def o1077_52 (P : Params) : Obj := ⟨(.type "function"), none, (.func (fd (sc 41 29) (zs "BytesIO.writelines") 3 .none .none .none (.str (zs "io") 1158) none (.ref 1076) .none 0)), #[]⟩
noncomputable def o1078_52 (P : Params) : Obj := ⟨(.type "tuple"), none, (.seq #[] 0), #[]⟩
noncomputable def o1079_52 (P : Params) : Obj := ⟨.none, none, (.fields #[]), #[]⟩
noncomputable def o1080_52 (P : Params) : Obj := ⟨(.type "tuple"), none, (.seq #[(.str (zs "self") 1518)] 0), #[]⟩
noncomputable def o1081_52 (P : Params) : Obj := ⟨(.type "tuple"), none, (.seq #[] 0), #[]⟩
noncomputable def o1082_52 (P : Params) : Obj := ⟨.none, none, (.func (fd (sc 41 30) (zs "BytesIO.__repr__") 0 .none .none .none .none none .none .none 0)), #[]⟩
noncomputable def o1083_52 (P : Params) : Obj := ⟨(.type "code"), none, (.fields #[(.str (zs "__repr__") 1515), (.str (zs "BytesIO.__repr__") 1516), (.str (zs "/claim/cut.py") 1517), (.int 600 0), (.int 1 0), (.int 0 0), (.int 0 0), (.int 3 0), (.ref 1078), (.bool true), (.int 181 0), (.ref 1079), .none, (.ref 1080), (.ref 1081), (.ref 1082), (.int 1519 0), (.int 600 0), (.str (zs "/claim/cut.py") 1520)]), #[]⟩
noncomputable def o1084_52 (P : Params) : Obj := ⟨(.type "function"), none, (.func (fd (sc 41 30) (zs "BytesIO.__repr__") 3 .none .none .none (.str (zs "io") 1158) none (.ref 1083) .none 0)), #[]⟩
noncomputable def o1085_52 (P : Params) : Obj := ⟨(.type "tuple"), none, (.seq #[(.str (zs "__buf") 1522), (.str (zs "__pos") 1523)] 0), #[]⟩
noncomputable def o1086_52 (P : Params) : Obj := ⟨(.type "dict"), none, (.dict #[en P "__module__" 1273 (.str (zs "_io") 1278), en P "__firstlineno__" 1277 (.int 432 1276), en P "__init__" 1287 (.ref 874), en P "_BytesIO__check" 1294 (.ref 881), en P "_BytesIO__line" 1305 (.ref 888), en P "closed" 1313 (.ref 896), en P "close" 1320 (.ref 903), en P "__enter__" 1327 (.ref 910), en P "__exit__" 1335 (.ref 917), en P "readable" 1342 (.ref 924), en P "writable" 1349 (.ref 931), en P "seekable" 1356 (.ref 938), en P "isatty" 1363 (.ref 945), en P "flush" 1370 (.ref 952), en P "fileno" 1377 (.ref 959), en P "detach" 1384 (.ref 966), en P "getvalue" 1391 (.ref 973), en P "getbuffer" 1398 (.ref 980), en P "tell" 1405 (.ref 987), en P "seek" 1415 (.ref 995), en P "truncate" 1423 (.ref 1003), en P "read" 1435 (.ref 1011), en P "read1" 1445 (.ref 1019), en P "readinto" 1455 (.ref 1026), en P "readinto1" 1463 (.ref 1033), en P "readline" 1473 (.ref 1041), en P "readlines" 1481 (.ref 1049), en P "__iter__" 1488 (.ref 1056), en P "__next__" 1496 (.ref 1063), en P "write" 1506 (.ref 1070), en P "writelines" 1514 (.ref 1077), en P "__repr__" 1521 (.ref 1084), en P "__static_attributes__" 1524 (.ref 1085), en P "__doc__" 1525 .none] 2), #[]⟩
noncomputable def o1087_52 (P : Params) : Obj := ⟨(.type "type"), none, (.cls ⟨(zs "BytesIO"), [(.ref 845)], [(.ref 1087), (.ref 845), (.ref 830), (.type "object")], 1086, (zs "BytesIO"), true, [], [], false, none, false⟩), #[some (.ref 860), none, some (.str (zs "BytesIO") 1266), some (.str (zs "BytesIO") 1274), some .none, some (.bool true)]⟩
noncomputable def o1088_52 (P : Params) : Obj := ⟨(.type "super"), none, (.fields #[(.ref 1087), (.ref 1087), (.ref 1087)]), #[]⟩
noncomputable def o1089_52 (P : Params) : Obj := ⟨(.type "builtin_function_or_method"), none, (.fields #[(.builtin "object.__init_subclass__"), (.ref 1087)]), #[]⟩
noncomputable def o1090_52 (P : Params) : Obj := ⟨(.type "tuple"), none, (.seq #[(.ref 857)] 0), #[]⟩
noncomputable def o1091_52 (P : Params) : Obj := ⟨(.type "builtin_function_or_method"), none, (.fields #[(.builtin "type.__prepare__"), (.type "type")]), #[]⟩
noncomputable def o1092_52 (P : Params) : Obj := ⟨(.type "dict"), none, (.dict #[en P "__module__" 1535 (.str (zs "_io") 1540), en P "__qualname__" 1537 (.str (zs "StringIO") 1536), en P "__firstlineno__" 1539 (.int 602 1538), en P "__init__" 1552 (.ref 1104), en P "_StringIO__translated" 1561 (.ref 1111), en P "_StringIO__check" 1568 (.ref 1118), en P "_StringIO__check_dot" 1575 (.ref 1125), en P "_StringIO__line" 1590 (.ref 1132), en P "closed" 1598 (.ref 1140), en P "line_buffering" 1606 (.ref 1148), en P "newlines" 1614 (.ref 1156), en P "encoding" 1622 (.ref 1164), en P "errors" 1630 (.ref 1172), en P "close" 1637 (.ref 1179), en P "__enter__" 1644 (.ref 1186), en P "__exit__" 1652 (.ref 1193), en P "readable" 1659 (.ref 1200), en P "writable" 1666 (.ref 1207), en P "seekable" 1673 (.ref 1214), en P "isatty" 1680 (.ref 1221), en P "flush" 1687 (.ref 1228), en P "fileno" 1694 (.ref 1235), en P "detach" 1701 (.ref 1242), en P "getvalue" 1708 (.ref 1249), en P "tell" 1715 (.ref 1256), en P "seek" 1725 (.ref 1264), en P "truncate" 1733 (.ref 1272), en P "read" 1745 (.ref 1280), en P "readline" 1755 (.ref 1288), en P "readlines" 1765 (.ref 1296), en P "__iter__" 1772 (.ref 1303), en P "__next__" 1780 (.ref 1310), en P "write" 1792 (.ref 1317), en P "writelines" 1800 (.ref 1324), en P "__repr__" 1807 (.ref 1331), en P "__static_attributes__" 1811 (.ref 1332)] 36), #[]⟩
noncomputable def o1093_52 (P : Params) : Obj := ⟨(.type "tuple"), none, (.seq #[] 0), #[]⟩
noncomputable def o1094_52 (P : Params) : Obj := ⟨.none, none, (.fields #[(.int 605 0), (.int 4 0), (.ref 1103), (.int 618 0), (.int 4 0), (.ref 1110), (.int 626 0), (.int 4 0), (.ref 1117), (.int 630 0), (.int 4 0), (.ref 1124), (.int 634 0), (.int 4 0), (.ref 1131), (.int 667 0), (.int 4 0), (.ref 1138), (.int 671 0), (.int 4 0), (.ref 1146), (.int 675 0), (.int 4 0), (.ref 1154), (.int 679 0), (.int 4 0), (.ref 1162), (.int 683 0), (.int 4 0), (.ref 1170), (.int 686 0), (.int 4 0), (.ref 1178), (.int 689 0), (.int 4 0), (.ref 1185), (.int 693 0), (.int 4 0), (.ref 1192), (.int 696 0), (.int 4 0), (.ref 1199), (.int 700 0), (.int 4 0), (.ref 1206), (.int 704 0), (.int 4 0), (.ref 1213), (.int 708 0), (.int 4 0), (.ref 1220), (.int 712 0), (.int 4 0), (.ref 1227), (.int 715 0), (.int 4 0), (.ref 1234), (.int 718 0), (.int 4 0), (.ref 1241), (.int 721 0), (.int 4 0), (.ref 1248), (.int 724 0), (.int 4 0), (.ref 1255), (.int 728 0), (.int 4 0), (.ref 1263), (.int 745 0), (.int 4 0), (.ref 1271), (.int 748 0), (.int 4 0), (.ref 1279), (.int 762 0), (.int 4 0), (.ref 1287), (.int 769 0), (.int 4 0), (.ref 1295), (.int 772 0), (.int 4 0), (.ref 1302), (.int 776 0), (.int 4 0), (.ref 1309), (.int 783 0), (.int 4 0), (.ref 1316), (.int 802 0), (.int 4 0), (.ref 1323), (.int 805 0), (.int 4 0), (.ref 1330)]), #[]⟩
noncomputable def o1095_52 (P : Params) : Obj := ⟨(.type "code"), none, (.fields #[(.str (zs "StringIO") 1530), (.str (zs "StringIO") 1531), (.str (zs "/claim/cut.py") 1532), (.int 602 0), (.int 0 0), (.int 0 0), (.int 0 0), (.int 0 0), (.ref 1093), (.bool false), (.int 181 0), (.ref 1094), .none, .none, .none, .none, (.int 1533 0), (.int 602 0), (.str (zs "/claim/cut.py") 1534)]), #[]⟩
noncomputable def o1096_52 (P : Params) : Obj := ⟨(.type "frame"), none, .plain, #[some (.ref 1095), some (.ref 3), some (.ref 1092), none, some (.str (zs "io") 1158), none, some (.ref 0)]⟩
noncomputable def o1097_52 (P : Params) : Obj := ⟨(.type "tuple"), none, (.seq #[(.str (zs "") 1542), (.str (zs "\n") 1543)] 0), #[]⟩
noncomputable def o1098_52 (P : Params) : Obj := ⟨(.type "tuple"), none, (.seq #[] 0), #[]⟩
noncomputable def o1099_52 (P : Params) : Obj := ⟨.none, none, (.fields #[]), #[]⟩
noncomputable def o1100_52 (P : Params) : Obj := ⟨(.type "tuple"), none, (.seq #[(.str (zs "self") 1547), (.str (zs "initial_value") 1548), (.str (zs "newline") 1549)] 0), #[]⟩
noncomputable def o1101_52 (P : Params) : Obj := ⟨(.type "tuple"), none, (.seq #[] 0), #[]⟩
noncomputable def o1102_52 (P : Params) : Obj := ⟨.none, none, (.func (fd (sc 42 1) (zs "StringIO.__init__") 0 .none .none .none .none none .none .none 0)), #[]⟩
noncomputable def o1103_52 (P : Params) : Obj := ⟨(.type "code"), none, (.fields #[(.str (zs "__init__") 1544), (.str (zs "StringIO.__init__") 1545), (.str (zs "/claim/cut.py") 1546), (.int 605 0), (.int 3 0), (.int 0 0), (.int 0 0), (.int 3 0), (.ref 1098), (.bool true), (.int 181 0), (.ref 1099), .none, (.ref 1100), (.ref 1101), (.ref 1102), (.int 1550 0), (.int 605 0), (.str (zs "/claim/cut.py") 1551)]), #[]⟩
noncomputable def o1104_52 (P : Params) : Obj := ⟨(.type "function"), none, (.func (fd (sc 42 1) (zs "StringIO.__init__") 3 (.ref 1097) .none .none (.str (zs "io") 1158) none (.ref 1103) .none 0)), #[]⟩
noncomputable def o1105_52 (P : Params) : Obj := ⟨(.type "tuple"), none, (.seq #[] 0), #[]⟩
noncomputable def o1106_52 (P : Params) : Obj := ⟨.none, none, (.fields #[]), #[]⟩
noncomputable def o1107_52 (P : Params) : Obj := ⟨(.type "tuple"), none, (.seq #[(.str (zs "self") 1556), (.str (zs "s") 1557), (.str (zs "newline") 1558)] 0), #[]⟩
noncomputable def o1108_52 (P : Params) : Obj := ⟨(.type "tuple"), none, (.seq #[] 0), #[]⟩
noncomputable def o1109_52 (P : Params) : Obj := ⟨.none, none, (.func (fd (sc 42 2) (zs "StringIO.__translated") 0 .none .none .none .none none .none .none 0)), #[]⟩
noncomputable def o1110_52 (P : Params) : Obj := ⟨(.type "code"), none, (.fields #[(.str (zs "__translated") 1553), (.str (zs "StringIO.__translated") 1554), (.str (zs "/claim/cut.py") 1555), (.int 618 0), (.int 2 0), (.int 0 0), (.int 0 0), (.int 3 0), (.ref 1105), (.bool true), (.int 181 0), (.ref 1106), .none, (.ref 1107), (.ref 1108), (.ref 1109), (.int 1559 0), (.int 618 0), (.str (zs "/claim/cut.py") 1560)]), #[]⟩
noncomputable def o1111_52 (P : Params) : Obj := ⟨(.type "function"), none, (.func (fd (sc 42 2) (zs "StringIO.__translated") 3 .none .none .none (.str (zs "io") 1158) none (.ref 1110) .none 0)), #[]⟩
noncomputable def o1112_52 (P : Params) : Obj := ⟨(.type "tuple"), none, (.seq #[] 0), #[]⟩
noncomputable def o1113_52 (P : Params) : Obj := ⟨.none, none, (.fields #[]), #[]⟩
noncomputable def o1114_52 (P : Params) : Obj := ⟨(.type "tuple"), none, (.seq #[(.str (zs "self") 1565)] 0), #[]⟩
noncomputable def o1115_52 (P : Params) : Obj := ⟨(.type "tuple"), none, (.seq #[] 0), #[]⟩
noncomputable def o1116_52 (P : Params) : Obj := ⟨.none, none, (.func (fd (sc 42 3) (zs "StringIO.__check") 0 .none .none .none .none none .none .none 0)), #[]⟩
noncomputable def o1117_52 (P : Params) : Obj := ⟨(.type "code"), none, (.fields #[(.str (zs "__check") 1562), (.str (zs "StringIO.__check") 1563), (.str (zs "/claim/cut.py") 1564), (.int 626 0), (.int 1 0), (.int 0 0), (.int 0 0), (.int 3 0), (.ref 1112), (.bool true), (.int 181 0), (.ref 1113), .none, (.ref 1114), (.ref 1115), (.ref 1116), (.int 1566 0), (.int 626 0), (.str (zs "/claim/cut.py") 1567)]), #[]⟩
noncomputable def o1118_52 (P : Params) : Obj := ⟨(.type "function"), none, (.func (fd (sc 42 3) (zs "StringIO.__check") 3 .none .none .none (.str (zs "io") 1158) none (.ref 1117) .none 0)), #[]⟩
noncomputable def o1119_52 (P : Params) : Obj := ⟨(.type "tuple"), none, (.seq #[] 0), #[]⟩
noncomputable def o1120_52 (P : Params) : Obj := ⟨.none, none, (.fields #[]), #[]⟩
noncomputable def o1121_52 (P : Params) : Obj := ⟨(.type "tuple"), none, (.seq #[(.str (zs "self") 1572)] 0), #[]⟩
noncomputable def o1122_52 (P : Params) : Obj := ⟨(.type "tuple"), none, (.seq #[] 0), #[]⟩
noncomputable def o1123_52 (P : Params) : Obj := ⟨.none, none, (.func (fd (sc 42 4) (zs "StringIO.__check_dot") 0 .none .none .none .none none .none .none 0)), #[]⟩
noncomputable def o1124_52 (P : Params) : Obj := ⟨(.type "code"), none, (.fields #[(.str (zs "__check_dot") 1569), (.str (zs "StringIO.__check_dot") 1570), (.str (zs "/claim/cut.py") 1571), (.int 630 0), (.int 1 0), (.int 0 0), (.int 0 0), (.int 3 0), (.ref 1119), (.bool true), (.int 181 0), (.ref 1120), .none, (.ref 1121), (.ref 1122), (.ref 1123), (.int 1573 0), (.int 630 0), (.str (zs "/claim/cut.py") 1574)]), #[]⟩
noncomputable def o1125_52 (P : Params) : Obj := ⟨(.type "function"), none, (.func (fd (sc 42 4) (zs "StringIO.__check_dot") 3 .none .none .none (.str (zs "io") 1158) none (.ref 1124) .none 0)), #[]⟩
noncomputable def o1126_52 (P : Params) : Obj := ⟨(.type "tuple"), none, (.seq #[] 0), #[]⟩
noncomputable def o1127_52 (P : Params) : Obj := ⟨.none, none, (.fields #[]), #[]⟩
noncomputable def o1128_52 (P : Params) : Obj := ⟨(.type "tuple"), none, (.seq #[(.str (zs "self") 1579), (.str (zs "limit") 1580), (.str (zs "start") 1581), (.str (zs "stop") 1582), (.str (zs "cut") 1583), (.str (zs "newline") 1584), (.str (zs "i") 1585), (.str (zs "j") 1586), (.str (zs "end") 1587)] 0), #[]⟩
noncomputable def o1129_52 (P : Params) : Obj := ⟨(.type "tuple"), none, (.seq #[] 0), #[]⟩
noncomputable def o1130_52 (P : Params) : Obj := ⟨.none, none, (.func (fd (sc 42 5) (zs "StringIO.__line") 0 .none .none .none .none none .none .none 0)), #[]⟩
noncomputable def o1131_52 (P : Params) : Obj := ⟨(.type "code"), none, (.fields #[(.str (zs "__line") 1576), (.str (zs "StringIO.__line") 1577), (.str (zs "/claim/cut.py") 1578), (.int 634 0), (.int 2 0), (.int 0 0), (.int 0 0), (.int 3 0), (.ref 1126), (.bool true), (.int 181 0), (.ref 1127), .none, (.ref 1128), (.ref 1129), (.ref 1130), (.int 1588 0), (.int 634 0), (.str (zs "/claim/cut.py") 1589)]), #[]⟩
noncomputable def o1132_52 (P : Params) : Obj := ⟨(.type "function"), none, (.func (fd (sc 42 5) (zs "StringIO.__line") 3 .none .none .none (.str (zs "io") 1158) none (.ref 1131) .none 0)), #[]⟩
noncomputable def o1133_52 (P : Params) : Obj := ⟨(.type "tuple"), none, (.seq #[] 0), #[]⟩
noncomputable def o1134_52 (P : Params) : Obj := ⟨.none, none, (.fields #[]), #[]⟩
noncomputable def o1135_52 (P : Params) : Obj := ⟨(.type "tuple"), none, (.seq #[(.str (zs "self") 1594)] 0), #[]⟩
noncomputable def o1136_52 (P : Params) : Obj := ⟨(.type "tuple"), none, (.seq #[] 0), #[]⟩
noncomputable def o1137_52 (P : Params) : Obj := ⟨.none, none, (.func (fd (sc 42 6) (zs "StringIO.closed") 0 .none .none .none .none none .none .none 0)), #[]⟩
noncomputable def o1138_52 (P : Params) : Obj := ⟨(.type "code"), none, (.fields #[(.str (zs "closed") 1591), (.str (zs "StringIO.closed") 1592), (.str (zs "/claim/cut.py") 1593), (.int 666 0), (.int 1 0), (.int 0 0), (.int 0 0), (.int 3 0), (.ref 1133), (.bool true), (.int 181 0), (.ref 1134), .none, (.ref 1135), (.ref 1136), (.ref 1137), (.int 1595 0), (.int 666 0), (.str (zs "/claim/cut.py") 1596)]), #[]⟩
noncomputable def o1139_52 (P : Params) : Obj := ⟨(.type "function"), none, (.func (fd (sc 42 6) (zs "StringIO.closed") 3 .none .none .none (.str (zs "io") 1158) none (.ref 1138) .none 0)), #[]⟩
noncomputable def o1140_52 (P : Params) : Obj := ⟨(.type "property"), none, (.fields #[(.ref 1139), .none, .none, .none, (.str (zs "closed") 1598), (.bool false)]), #[]⟩
noncomputable def o1141_52 (P : Params) : Obj := ⟨(.type "tuple"), none, (.seq #[] 0), #[]⟩
noncomputable def o1142_52 (P : Params) : Obj := ⟨.none, none, (.fields #[]), #[]⟩
noncomputable def o1143_52 (P : Params) : Obj := ⟨(.type "tuple"), none, (.seq #[(.str (zs "self") 1602)] 0), #[]⟩
noncomputable def o1144_52 (P : Params) : Obj := ⟨(.type "tuple"), none, (.seq #[] 0), #[]⟩
noncomputable def o1145_52 (P : Params) : Obj := ⟨.none, none, (.func (fd (sc 42 7) (zs "StringIO.line_buffering") 0 .none .none .none .none none .none .none 0)), #[]⟩
noncomputable def o1146_52 (P : Params) : Obj := ⟨(.type "code"), none, (.fields #[(.str (zs "line_buffering") 1599), (.str (zs "StringIO.line_buffering") 1600), (.str (zs "/claim/cut.py") 1601), (.int 670 0), (.int 1 0), (.int 0 0), (.int 0 0), (.int 3 0), (.ref 1141), (.bool true), (.int 181 0), (.ref 1142), .none, (.ref 1143), (.ref 1144), (.ref 1145), (.int 1603 0), (.int 670 0), (.str (zs "/claim/cut.py") 1604)]), #[]⟩
noncomputable def o1147_52 (P : Params) : Obj := ⟨(.type "function"), none, (.func (fd (sc 42 7) (zs "StringIO.line_buffering") 3 .none .none .none (.str (zs "io") 1158) none (.ref 1146) .none 0)), #[]⟩
noncomputable def o1148_52 (P : Params) : Obj := ⟨(.type "property"), none, (.fields #[(.ref 1147), .none, .none, .none, (.str (zs "line_buffering") 1606), (.bool false)]), #[]⟩
noncomputable def o1149_52 (P : Params) : Obj := ⟨(.type "tuple"), none, (.seq #[] 0), #[]⟩
noncomputable def o1150_52 (P : Params) : Obj := ⟨.none, none, (.fields #[]), #[]⟩
noncomputable def o1151_52 (P : Params) : Obj := ⟨(.type "tuple"), none, (.seq #[(.str (zs "self") 1610)] 0), #[]⟩
noncomputable def o1152_52 (P : Params) : Obj := ⟨(.type "tuple"), none, (.seq #[] 0), #[]⟩
noncomputable def o1153_52 (P : Params) : Obj := ⟨.none, none, (.func (fd (sc 42 8) (zs "StringIO.newlines") 0 .none .none .none .none none .none .none 0)), #[]⟩
noncomputable def o1154_52 (P : Params) : Obj := ⟨(.type "code"), none, (.fields #[(.str (zs "newlines") 1607), (.str (zs "StringIO.newlines") 1608), (.str (zs "/claim/cut.py") 1609), (.int 674 0), (.int 1 0), (.int 0 0), (.int 0 0), (.int 3 0), (.ref 1149), (.bool true), (.int 181 0), (.ref 1150), .none, (.ref 1151), (.ref 1152), (.ref 1153), (.int 1611 0), (.int 674 0), (.str (zs "/claim/cut.py") 1612)]), #[]⟩
noncomputable def o1155_52 (P : Params) : Obj := ⟨(.type "function"), none, (.func (fd (sc 42 8) (zs "StringIO.newlines") 3 .none .none .none (.str (zs "io") 1158) none (.ref 1154) .none 0)), #[]⟩
noncomputable def o1156_52 (P : Params) : Obj := ⟨(.type "property"), none, (.fields #[(.ref 1155), .none, .none, .none, (.str (zs "newlines") 1614), (.bool false)]), #[]⟩
noncomputable def o1157_52 (P : Params) : Obj := ⟨(.type "tuple"), none, (.seq #[] 0), #[]⟩
noncomputable def o1158_52 (P : Params) : Obj := ⟨.none, none, (.fields #[]), #[]⟩
noncomputable def o1159_52 (P : Params) : Obj := ⟨(.type "tuple"), none, (.seq #[(.str (zs "self") 1618)] 0), #[]⟩
noncomputable def o1160_52 (P : Params) : Obj := ⟨(.type "tuple"), none, (.seq #[] 0), #[]⟩
noncomputable def o1161_52 (P : Params) : Obj := ⟨.none, none, (.func (fd (sc 42 9) (zs "StringIO.encoding") 0 .none .none .none .none none .none .none 0)), #[]⟩
noncomputable def o1162_52 (P : Params) : Obj := ⟨(.type "code"), none, (.fields #[(.str (zs "encoding") 1615), (.str (zs "StringIO.encoding") 1616), (.str (zs "/claim/cut.py") 1617), (.int 678 0), (.int 1 0), (.int 0 0), (.int 0 0), (.int 3 0), (.ref 1157), (.bool true), (.int 181 0), (.ref 1158), .none, (.ref 1159), (.ref 1160), (.ref 1161), (.int 1619 0), (.int 678 0), (.str (zs "/claim/cut.py") 1620)]), #[]⟩
noncomputable def o1163_52 (P : Params) : Obj := ⟨(.type "function"), none, (.func (fd (sc 42 9) (zs "StringIO.encoding") 3 .none .none .none (.str (zs "io") 1158) none (.ref 1162) .none 0)), #[]⟩
noncomputable def o1164_52 (P : Params) : Obj := ⟨(.type "property"), none, (.fields #[(.ref 1163), .none, .none, .none, (.str (zs "encoding") 1622), (.bool false)]), #[]⟩
noncomputable def o1165_52 (P : Params) : Obj := ⟨(.type "tuple"), none, (.seq #[] 0), #[]⟩
noncomputable def o1166_52 (P : Params) : Obj := ⟨.none, none, (.fields #[]), #[]⟩
noncomputable def o1167_52 (P : Params) : Obj := ⟨(.type "tuple"), none, (.seq #[(.str (zs "self") 1626)] 0), #[]⟩
noncomputable def o1168_52 (P : Params) : Obj := ⟨(.type "tuple"), none, (.seq #[] 0), #[]⟩
noncomputable def o1169_52 (P : Params) : Obj := ⟨.none, none, (.func (fd (sc 42 10) (zs "StringIO.errors") 0 .none .none .none .none none .none .none 0)), #[]⟩
noncomputable def o1170_52 (P : Params) : Obj := ⟨(.type "code"), none, (.fields #[(.str (zs "errors") 1623), (.str (zs "StringIO.errors") 1624), (.str (zs "/claim/cut.py") 1625), (.int 682 0), (.int 1 0), (.int 0 0), (.int 0 0), (.int 3 0), (.ref 1165), (.bool true), (.int 181 0), (.ref 1166), .none, (.ref 1167), (.ref 1168), (.ref 1169), (.int 1627 0), (.int 682 0), (.str (zs "/claim/cut.py") 1628)]), #[]⟩
noncomputable def o1171_52 (P : Params) : Obj := ⟨(.type "function"), none, (.func (fd (sc 42 10) (zs "StringIO.errors") 3 .none .none .none (.str (zs "io") 1158) none (.ref 1170) .none 0)), #[]⟩
noncomputable def o1172_52 (P : Params) : Obj := ⟨(.type "property"), none, (.fields #[(.ref 1171), .none, .none, .none, (.str (zs "errors") 1630), (.bool false)]), #[]⟩
noncomputable def o1173_52 (P : Params) : Obj := ⟨(.type "tuple"), none, (.seq #[] 0), #[]⟩
noncomputable def o1174_52 (P : Params) : Obj := ⟨.none, none, (.fields #[]), #[]⟩
noncomputable def o1175_52 (P : Params) : Obj := ⟨(.type "tuple"), none, (.seq #[(.str (zs "self") 1634)] 0), #[]⟩
noncomputable def o1176_52 (P : Params) : Obj := ⟨(.type "tuple"), none, (.seq #[] 0), #[]⟩
noncomputable def o1177_52 (P : Params) : Obj := ⟨.none, none, (.func (fd (sc 42 11) (zs "StringIO.close") 0 .none .none .none .none none .none .none 0)), #[]⟩
noncomputable def o1178_52 (P : Params) : Obj := ⟨(.type "code"), none, (.fields #[(.str (zs "close") 1631), (.str (zs "StringIO.close") 1632), (.str (zs "/claim/cut.py") 1633), (.int 686 0), (.int 1 0), (.int 0 0), (.int 0 0), (.int 3 0), (.ref 1173), (.bool true), (.int 181 0), (.ref 1174), .none, (.ref 1175), (.ref 1176), (.ref 1177), (.int 1635 0), (.int 686 0), (.str (zs "/claim/cut.py") 1636)]), #[]⟩
noncomputable def o1179_52 (P : Params) : Obj := ⟨(.type "function"), none, (.func (fd (sc 42 11) (zs "StringIO.close") 3 .none .none .none (.str (zs "io") 1158) none (.ref 1178) .none 0)), #[]⟩
noncomputable def o1180_52 (P : Params) : Obj := ⟨(.type "tuple"), none, (.seq #[] 0), #[]⟩
noncomputable def o1181_52 (P : Params) : Obj := ⟨.none, none, (.fields #[]), #[]⟩
noncomputable def o1182_52 (P : Params) : Obj := ⟨(.type "tuple"), none, (.seq #[(.str (zs "self") 1641)] 0), #[]⟩
noncomputable def o1183_52 (P : Params) : Obj := ⟨(.type "tuple"), none, (.seq #[] 0), #[]⟩
noncomputable def o1184_52 (P : Params) : Obj := ⟨.none, none, (.func (fd (sc 42 12) (zs "StringIO.__enter__") 0 .none .none .none .none none .none .none 0)), #[]⟩
noncomputable def o1185_52 (P : Params) : Obj := ⟨(.type "code"), none, (.fields #[(.str (zs "__enter__") 1638), (.str (zs "StringIO.__enter__") 1639), (.str (zs "/claim/cut.py") 1640), (.int 689 0), (.int 1 0), (.int 0 0), (.int 0 0), (.int 3 0), (.ref 1180), (.bool true), (.int 181 0), (.ref 1181), .none, (.ref 1182), (.ref 1183), (.ref 1184), (.int 1642 0), (.int 689 0), (.str (zs "/claim/cut.py") 1643)]), #[]⟩
noncomputable def o1186_52 (P : Params) : Obj := ⟨(.type "function"), none, (.func (fd (sc 42 12) (zs "StringIO.__enter__") 3 .none .none .none (.str (zs "io") 1158) none (.ref 1185) .none 0)), #[]⟩
noncomputable def o1187_52 (P : Params) : Obj := ⟨(.type "tuple"), none, (.seq #[] 0), #[]⟩
noncomputable def o1188_52 (P : Params) : Obj := ⟨.none, none, (.fields #[]), #[]⟩
noncomputable def o1189_52 (P : Params) : Obj := ⟨(.type "tuple"), none, (.seq #[(.str (zs "self") 1648), (.str (zs "args") 1649)] 0), #[]⟩
noncomputable def o1190_52 (P : Params) : Obj := ⟨(.type "tuple"), none, (.seq #[] 0), #[]⟩
noncomputable def o1191_52 (P : Params) : Obj := ⟨.none, none, (.func (fd (sc 42 13) (zs "StringIO.__exit__") 0 .none .none .none .none none .none .none 0)), #[]⟩
noncomputable def o1192_52 (P : Params) : Obj := ⟨(.type "code"), none, (.fields #[(.str (zs "__exit__") 1645), (.str (zs "StringIO.__exit__") 1646), (.str (zs "/claim/cut.py") 1647), (.int 693 0), (.int 1 0), (.int 0 0), (.int 0 0), (.int 7 0), (.ref 1187), (.bool true), (.int 181 0), (.ref 1188), .none, (.ref 1189), (.ref 1190), (.ref 1191), (.int 1650 0), (.int 693 0), (.str (zs "/claim/cut.py") 1651)]), #[]⟩
noncomputable def o1193_52 (P : Params) : Obj := ⟨(.type "function"), none, (.func (fd (sc 42 13) (zs "StringIO.__exit__") 3 .none .none .none (.str (zs "io") 1158) none (.ref 1192) .none 0)), #[]⟩
noncomputable def o1194_52 (P : Params) : Obj := ⟨(.type "tuple"), none, (.seq #[] 0), #[]⟩
noncomputable def o1195_52 (P : Params) : Obj := ⟨.none, none, (.fields #[]), #[]⟩
noncomputable def o1196_52 (P : Params) : Obj := ⟨(.type "tuple"), none, (.seq #[(.str (zs "self") 1656)] 0), #[]⟩
noncomputable def o1197_52 (P : Params) : Obj := ⟨(.type "tuple"), none, (.seq #[] 0), #[]⟩
noncomputable def o1198_52 (P : Params) : Obj := ⟨.none, none, (.func (fd (sc 42 14) (zs "StringIO.readable") 0 .none .none .none .none none .none .none 0)), #[]⟩
noncomputable def o1199_52 (P : Params) : Obj := ⟨(.type "code"), none, (.fields #[(.str (zs "readable") 1653), (.str (zs "StringIO.readable") 1654), (.str (zs "/claim/cut.py") 1655), (.int 696 0), (.int 1 0), (.int 0 0), (.int 0 0), (.int 3 0), (.ref 1194), (.bool true), (.int 181 0), (.ref 1195), .none, (.ref 1196), (.ref 1197), (.ref 1198), (.int 1657 0), (.int 696 0), (.str (zs "/claim/cut.py") 1658)]), #[]⟩
noncomputable def o1200_52 (P : Params) : Obj := ⟨(.type "function"), none, (.func (fd (sc 42 14) (zs "StringIO.readable") 3 .none .none .none (.str (zs "io") 1158) none (.ref 1199) .none 0)), #[]⟩
noncomputable def o1201_52 (P : Params) : Obj := ⟨(.type "tuple"), none, (.seq #[] 0), #[]⟩
noncomputable def o1202_52 (P : Params) : Obj := ⟨.none, none, (.fields #[]), #[]⟩
noncomputable def o1203_52 (P : Params) : Obj := ⟨(.type "tuple"), none, (.seq #[(.str (zs "self") 1663)] 0), #[]⟩
noncomputable def o1204_52 (P : Params) : Obj := ⟨(.type "tuple"), none, (.seq #[] 0), #[]⟩
noncomputable def o1205_52 (P : Params) : Obj := ⟨.none, none, (.func (fd (sc 42 15) (zs "StringIO.writable") 0 .none .none .none .none none .none .none 0)), #[]⟩
noncomputable def o1206_52 (P : Params) : Obj := ⟨(.type "code"), none, (.fields #[(.str (zs "writable") 1660), (.str (zs "StringIO.writable") 1661), (.str (zs "/claim/cut.py") 1662), (.int 700 0), (.int 1 0), (.int 0 0), (.int 0 0), (.int 3 0), (.ref 1201), (.bool true), (.int 181 0), (.ref 1202), .none, (.ref 1203), (.ref 1204), (.ref 1205), (.int 1664 0), (.int 700 0), (.str (zs "/claim/cut.py") 1665)]), #[]⟩
noncomputable def o1207_52 (P : Params) : Obj := ⟨(.type "function"), none, (.func (fd (sc 42 15) (zs "StringIO.writable") 3 .none .none .none (.str (zs "io") 1158) none (.ref 1206) .none 0)), #[]⟩
noncomputable def o1208_52 (P : Params) : Obj := ⟨(.type "tuple"), none, (.seq #[] 0), #[]⟩
noncomputable def o1209_52 (P : Params) : Obj := ⟨.none, none, (.fields #[]), #[]⟩
noncomputable def o1210_52 (P : Params) : Obj := ⟨(.type "tuple"), none, (.seq #[(.str (zs "self") 1670)] 0), #[]⟩
noncomputable def o1211_52 (P : Params) : Obj := ⟨(.type "tuple"), none, (.seq #[] 0), #[]⟩
noncomputable def o1212_52 (P : Params) : Obj := ⟨.none, none, (.func (fd (sc 42 16) (zs "StringIO.seekable") 0 .none .none .none .none none .none .none 0)), #[]⟩
noncomputable def o1213_52 (P : Params) : Obj := ⟨(.type "code"), none, (.fields #[(.str (zs "seekable") 1667), (.str (zs "StringIO.seekable") 1668), (.str (zs "/claim/cut.py") 1669), (.int 704 0), (.int 1 0), (.int 0 0), (.int 0 0), (.int 3 0), (.ref 1208), (.bool true), (.int 181 0), (.ref 1209), .none, (.ref 1210), (.ref 1211), (.ref 1212), (.int 1671 0), (.int 704 0), (.str (zs "/claim/cut.py") 1672)]), #[]⟩
noncomputable def o1214_52 (P : Params) : Obj := ⟨(.type "function"), none, (.func (fd (sc 42 16) (zs "StringIO.seekable") 3 .none .none .none (.str (zs "io") 1158) none (.ref 1213) .none 0)), #[]⟩
noncomputable def o1215_52 (P : Params) : Obj := ⟨(.type "tuple"), none, (.seq #[] 0), #[]⟩
noncomputable def o1216_52 (P : Params) : Obj := ⟨.none, none, (.fields #[]), #[]⟩
noncomputable def o1217_52 (P : Params) : Obj := ⟨(.type "tuple"), none, (.seq #[(.str (zs "self") 1677)] 0), #[]⟩
noncomputable def o1218_52 (P : Params) : Obj := ⟨(.type "tuple"), none, (.seq #[] 0), #[]⟩
noncomputable def o1219_52 (P : Params) : Obj := ⟨.none, none, (.func (fd (sc 42 17) (zs "StringIO.isatty") 0 .none .none .none .none none .none .none 0)), #[]⟩
noncomputable def o1220_52 (P : Params) : Obj := ⟨(.type "code"), none, (.fields #[(.str (zs "isatty") 1674), (.str (zs "StringIO.isatty") 1675), (.str (zs "/claim/cut.py") 1676), (.int 708 0), (.int 1 0), (.int 0 0), (.int 0 0), (.int 3 0), (.ref 1215), (.bool true), (.int 181 0), (.ref 1216), .none, (.ref 1217), (.ref 1218), (.ref 1219), (.int 1678 0), (.int 708 0), (.str (zs "/claim/cut.py") 1679)]), #[]⟩
noncomputable def o1221_52 (P : Params) : Obj := ⟨(.type "function"), none, (.func (fd (sc 42 17) (zs "StringIO.isatty") 3 .none .none .none (.str (zs "io") 1158) none (.ref 1220) .none 0)), #[]⟩
noncomputable def o1222_52 (P : Params) : Obj := ⟨(.type "tuple"), none, (.seq #[] 0), #[]⟩
noncomputable def o1223_52 (P : Params) : Obj := ⟨.none, none, (.fields #[]), #[]⟩
noncomputable def o1224_52 (P : Params) : Obj := ⟨(.type "tuple"), none, (.seq #[(.str (zs "self") 1684)] 0), #[]⟩
noncomputable def o1225_52 (P : Params) : Obj := ⟨(.type "tuple"), none, (.seq #[] 0), #[]⟩
noncomputable def o1226_52 (P : Params) : Obj := ⟨.none, none, (.func (fd (sc 42 18) (zs "StringIO.flush") 0 .none .none .none .none none .none .none 0)), #[]⟩
noncomputable def o1227_52 (P : Params) : Obj := ⟨(.type "code"), none, (.fields #[(.str (zs "flush") 1681), (.str (zs "StringIO.flush") 1682), (.str (zs "/claim/cut.py") 1683), (.int 712 0), (.int 1 0), (.int 0 0), (.int 0 0), (.int 3 0), (.ref 1222), (.bool true), (.int 181 0), (.ref 1223), .none, (.ref 1224), (.ref 1225), (.ref 1226), (.int 1685 0), (.int 712 0), (.str (zs "/claim/cut.py") 1686)]), #[]⟩
noncomputable def o1228_52 (P : Params) : Obj := ⟨(.type "function"), none, (.func (fd (sc 42 18) (zs "StringIO.flush") 3 .none .none .none (.str (zs "io") 1158) none (.ref 1227) .none 0)), #[]⟩
noncomputable def o1229_52 (P : Params) : Obj := ⟨(.type "tuple"), none, (.seq #[] 0), #[]⟩
noncomputable def o1230_52 (P : Params) : Obj := ⟨.none, none, (.fields #[]), #[]⟩
noncomputable def o1231_52 (P : Params) : Obj := ⟨(.type "tuple"), none, (.seq #[(.str (zs "self") 1691)] 0), #[]⟩
noncomputable def o1232_52 (P : Params) : Obj := ⟨(.type "tuple"), none, (.seq #[] 0), #[]⟩
noncomputable def o1233_52 (P : Params) : Obj := ⟨.none, none, (.func (fd (sc 42 19) (zs "StringIO.fileno") 0 .none .none .none .none none .none .none 0)), #[]⟩
noncomputable def o1234_52 (P : Params) : Obj := ⟨(.type "code"), none, (.fields #[(.str (zs "fileno") 1688), (.str (zs "StringIO.fileno") 1689), (.str (zs "/claim/cut.py") 1690), (.int 715 0), (.int 1 0), (.int 0 0), (.int 0 0), (.int 3 0), (.ref 1229), (.bool true), (.int 181 0), (.ref 1230), .none, (.ref 1231), (.ref 1232), (.ref 1233), (.int 1692 0), (.int 715 0), (.str (zs "/claim/cut.py") 1693)]), #[]⟩
noncomputable def o1235_52 (P : Params) : Obj := ⟨(.type "function"), none, (.func (fd (sc 42 19) (zs "StringIO.fileno") 3 .none .none .none (.str (zs "io") 1158) none (.ref 1234) .none 0)), #[]⟩
noncomputable def o1236_52 (P : Params) : Obj := ⟨(.type "tuple"), none, (.seq #[] 0), #[]⟩
noncomputable def o1237_52 (P : Params) : Obj := ⟨.none, none, (.fields #[]), #[]⟩
noncomputable def o1238_52 (P : Params) : Obj := ⟨(.type "tuple"), none, (.seq #[(.str (zs "self") 1698)] 0), #[]⟩
noncomputable def o1239_52 (P : Params) : Obj := ⟨(.type "tuple"), none, (.seq #[] 0), #[]⟩
noncomputable def o1240_52 (P : Params) : Obj := ⟨.none, none, (.func (fd (sc 42 20) (zs "StringIO.detach") 0 .none .none .none .none none .none .none 0)), #[]⟩
noncomputable def o1241_52 (P : Params) : Obj := ⟨(.type "code"), none, (.fields #[(.str (zs "detach") 1695), (.str (zs "StringIO.detach") 1696), (.str (zs "/claim/cut.py") 1697), (.int 718 0), (.int 1 0), (.int 0 0), (.int 0 0), (.int 3 0), (.ref 1236), (.bool true), (.int 181 0), (.ref 1237), .none, (.ref 1238), (.ref 1239), (.ref 1240), (.int 1699 0), (.int 718 0), (.str (zs "/claim/cut.py") 1700)]), #[]⟩
noncomputable def o1242_52 (P : Params) : Obj := ⟨(.type "function"), none, (.func (fd (sc 42 20) (zs "StringIO.detach") 3 .none .none .none (.str (zs "io") 1158) none (.ref 1241) .none 0)), #[]⟩
noncomputable def o1243_52 (P : Params) : Obj := ⟨(.type "tuple"), none, (.seq #[] 0), #[]⟩
noncomputable def o1244_52 (P : Params) : Obj := ⟨.none, none, (.fields #[]), #[]⟩
noncomputable def o1245_52 (P : Params) : Obj := ⟨(.type "tuple"), none, (.seq #[(.str (zs "self") 1705)] 0), #[]⟩
noncomputable def o1246_52 (P : Params) : Obj := ⟨(.type "tuple"), none, (.seq #[] 0), #[]⟩
noncomputable def o1247_52 (P : Params) : Obj := ⟨.none, none, (.func (fd (sc 42 21) (zs "StringIO.getvalue") 0 .none .none .none .none none .none .none 0)), #[]⟩
noncomputable def o1248_52 (P : Params) : Obj := ⟨(.type "code"), none, (.fields #[(.str (zs "getvalue") 1702), (.str (zs "StringIO.getvalue") 1703), (.str (zs "/claim/cut.py") 1704), (.int 721 0), (.int 1 0), (.int 0 0), (.int 0 0), (.int 3 0), (.ref 1243), (.bool true), (.int 181 0), (.ref 1244), .none, (.ref 1245), (.ref 1246), (.ref 1247), (.int 1706 0), (.int 721 0), (.str (zs "/claim/cut.py") 1707)]), #[]⟩
noncomputable def o1249_52 (P : Params) : Obj := ⟨(.type "function"), none, (.func (fd (sc 42 21) (zs "StringIO.getvalue") 3 .none .none .none (.str (zs "io") 1158) none (.ref 1248) .none 0)), #[]⟩
noncomputable def o1250_52 (P : Params) : Obj := ⟨(.type "tuple"), none, (.seq #[] 0), #[]⟩
noncomputable def o1251_52 (P : Params) : Obj := ⟨.none, none, (.fields #[]), #[]⟩
noncomputable def o1252_52 (P : Params) : Obj := ⟨(.type "tuple"), none, (.seq #[(.str (zs "self") 1712)] 0), #[]⟩
noncomputable def o1253_52 (P : Params) : Obj := ⟨(.type "tuple"), none, (.seq #[] 0), #[]⟩
noncomputable def o1254_52 (P : Params) : Obj := ⟨.none, none, (.func (fd (sc 42 22) (zs "StringIO.tell") 0 .none .none .none .none none .none .none 0)), #[]⟩
noncomputable def o1255_52 (P : Params) : Obj := ⟨(.type "code"), none, (.fields #[(.str (zs "tell") 1709), (.str (zs "StringIO.tell") 1710), (.str (zs "/claim/cut.py") 1711), (.int 724 0), (.int 1 0), (.int 0 0), (.int 0 0), (.int 3 0), (.ref 1250), (.bool true), (.int 181 0), (.ref 1251), .none, (.ref 1252), (.ref 1253), (.ref 1254), (.int 1713 0), (.int 724 0), (.str (zs "/claim/cut.py") 1714)]), #[]⟩
noncomputable def o1256_52 (P : Params) : Obj := ⟨(.type "function"), none, (.func (fd (sc 42 22) (zs "StringIO.tell") 3 .none .none .none (.str (zs "io") 1158) none (.ref 1255) .none 0)), #[]⟩
noncomputable def o1257_52 (P : Params) : Obj := ⟨(.type "tuple"), none, (.seq #[(.int 0 1716)] 0), #[]⟩
noncomputable def o1258_52 (P : Params) : Obj := ⟨(.type "tuple"), none, (.seq #[] 0), #[]⟩
noncomputable def o1259_52 (P : Params) : Obj := ⟨.none, none, (.fields #[]), #[]⟩
noncomputable def o1260_52 (P : Params) : Obj := ⟨(.type "tuple"), none, (.seq #[(.str (zs "self") 1720), (.str (zs "pos") 1721), (.str (zs "whence") 1722)] 0), #[]⟩
noncomputable def o1261_52 (P : Params) : Obj := ⟨(.type "tuple"), none, (.seq #[] 0), #[]⟩
noncomputable def o1262_52 (P : Params) : Obj := ⟨.none, none, (.func (fd (sc 42 23) (zs "StringIO.seek") 0 .none .none .none .none none .none .none 0)), #[]⟩
noncomputable def o1263_52 (P : Params) : Obj := ⟨(.type "code"), none, (.fields #[(.str (zs "seek") 1717), (.str (zs "StringIO.seek") 1718), (.str (zs "/claim/cut.py") 1719), (.int 728 0), (.int 3 0), (.int 3 0), (.int 0 0), (.int 3 0), (.ref 1258), (.bool true), (.int 181 0), (.ref 1259), .none, (.ref 1260), (.ref 1261), (.ref 1262), (.int 1723 0), (.int 728 0), (.str (zs "/claim/cut.py") 1724)]), #[]⟩
noncomputable def o1264_52 (P : Params) : Obj := ⟨(.type "function"), none, (.func (fd (sc 42 23) (zs "StringIO.seek") 3 (.ref 1257) .none .none (.str (zs "io") 1158) none (.ref 1263) .none 0)), #[]⟩
noncomputable def o1265_52 (P : Params) : Obj := ⟨(.type "tuple"), none, (.seq #[.none] 0), #[]⟩
noncomputable def o1266_52 (P : Params) : Obj := ⟨(.type "tuple"), none, (.seq #[] 0), #[]⟩
noncomputable def o1267_52 (P : Params) : Obj := ⟨.none, none, (.fields #[]), #[]⟩
noncomputable def o1268_52 (P : Params) : Obj := ⟨(.type "tuple"), none, (.seq #[(.str (zs "self") 1729), (.str (zs "pos") 1730)] 0), #[]⟩
noncomputable def o1269_52 (P : Params) : Obj := ⟨(.type "tuple"), none, (.seq #[] 0), #[]⟩
noncomputable def o1270_52 (P : Params) : Obj := ⟨.none, none, (.func (fd (sc 42 24) (zs "StringIO.truncate") 0 .none .none .none .none none .none .none 0)), #[]⟩
noncomputable def o1271_52 (P : Params) : Obj := ⟨(.type "code"), none, (.fields #[(.str (zs "truncate") 1726), (.str (zs "StringIO.truncate") 1727), (.str (zs "/claim/cut.py") 1728), (.int 745 0), (.int 2 0), (.int 2 0), (.int 0 0), (.int 3 0), (.ref 1266), (.bool true), (.int 181 0), (.ref 1267), .none, (.ref 1268), (.ref 1269), (.ref 1270), (.int 1731 0), (.int 745 0), (.str (zs "/claim/cut.py") 1732)]), #[]⟩
noncomputable def o1272_52 (P : Params) : Obj := ⟨(.type "function"), none, (.func (fd (sc 42 24) (zs "StringIO.truncate") 3 (.ref 1265) .none .none (.str (zs "io") 1158) none (.ref 1271) .none 0)), #[]⟩
noncomputable def o1273_52 (P : Params) : Obj := ⟨(.type "tuple"), none, (.seq #[(.int (-1) 1735)] 0), #[]⟩
noncomputable def o1274_52 (P : Params) : Obj := ⟨(.type "tuple"), none, (.seq #[] 0), #[]⟩
noncomputable def o1275_52 (P : Params) : Obj := ⟨.none, none, (.fields #[]), #[]⟩
noncomputable def o1276_52 (P : Params) : Obj := ⟨(.type "tuple"), none, (.seq #[(.str (zs "self") 1739), (.str (zs "size") 1740), (.str (zs "start") 1741), (.str (zs "stop") 1742)] 0), #[]⟩
noncomputable def o1277_52 (P : Params) : Obj := ⟨(.type "tuple"), none, (.seq #[] 0), #[]⟩
noncomputable def o1278_52 (P : Params) : Obj := ⟨.none, none, (.func (fd (sc 42 25) (zs "StringIO.read") 0 .none .none .none .none none .none .none 0)), #[]⟩
noncomputable def o1279_52 (P : Params) : Obj := ⟨(.type "code"), none, (.fields #[(.str (zs "read") 1736), (.str (zs "StringIO.read") 1737), (.str (zs "/claim/cut.py") 1738), (.int 748 0), (.int 2 0), (.int 2 0), (.int 0 0), (.int 3 0), (.ref 1274), (.bool true), (.int 181 0), (.ref 1275), .none, (.ref 1276), (.ref 1277), (.ref 1278), (.int 1743 0), (.int 748 0), (.str (zs "/claim/cut.py") 1744)]), #[]⟩
noncomputable def o1280_52 (P : Params) : Obj := ⟨(.type "function"), none, (.func (fd (sc 42 25) (zs "StringIO.read") 3 (.ref 1273) .none .none (.str (zs "io") 1158) none (.ref 1279) .none 0)), #[]⟩
noncomputable def o1281_52 (P : Params) : Obj := ⟨(.type "tuple"), none, (.seq #[(.int (-1) 1747)] 0), #[]⟩
noncomputable def o1282_52 (P : Params) : Obj := ⟨(.type "tuple"), none, (.seq #[] 0), #[]⟩
noncomputable def o1283_52 (P : Params) : Obj := ⟨.none, none, (.fields #[]), #[]⟩
noncomputable def o1284_52 (P : Params) : Obj := ⟨(.type "tuple"), none, (.seq #[(.str (zs "self") 1751), (.str (zs "size") 1752)] 0), #[]⟩
noncomputable def o1285_52 (P : Params) : Obj := ⟨(.type "tuple"), none, (.seq #[] 0), #[]⟩
noncomputable def o1286_52 (P : Params) : Obj := ⟨.none, none, (.func (fd (sc 42 26) (zs "StringIO.readline") 0 .none .none .none .none none .none .none 0)), #[]⟩
noncomputable def o1287_52 (P : Params) : Obj := ⟨(.type "code"), none, (.fields #[(.str (zs "readline") 1748), (.str (zs "StringIO.readline") 1749), (.str (zs "/claim/cut.py") 1750), (.int 762 0), (.int 2 0), (.int 2 0), (.int 0 0), (.int 3 0), (.ref 1282), (.bool true), (.int 181 0), (.ref 1283), .none, (.ref 1284), (.ref 1285), (.ref 1286), (.int 1753 0), (.int 762 0), (.str (zs "/claim/cut.py") 1754)]), #[]⟩
noncomputable def o1288_52 (P : Params) : Obj := ⟨(.type "function"), none, (.func (fd (sc 42 26) (zs "StringIO.readline") 3 (.ref 1281) .none .none (.str (zs "io") 1158) none (.ref 1287) .none 0)), #[]⟩
noncomputable def o1289_52 (P : Params) : Obj := ⟨(.type "tuple"), none, (.seq #[(.int (-1) 1757)] 0), #[]⟩
noncomputable def o1290_52 (P : Params) : Obj := ⟨(.type "tuple"), none, (.seq #[] 0), #[]⟩
noncomputable def o1291_52 (P : Params) : Obj := ⟨.none, none, (.fields #[]), #[]⟩
noncomputable def o1292_52 (P : Params) : Obj := ⟨(.type "tuple"), none, (.seq #[(.str (zs "self") 1761), (.str (zs "hint") 1762)] 0), #[]⟩
noncomputable def o1293_52 (P : Params) : Obj := ⟨(.type "tuple"), none, (.seq #[] 0), #[]⟩
noncomputable def o1294_52 (P : Params) : Obj := ⟨.none, none, (.func (fd (sc 42 27) (zs "StringIO.readlines") 0 .none .none .none .none none .none .none 0)), #[]⟩
noncomputable def o1295_52 (P : Params) : Obj := ⟨(.type "code"), none, (.fields #[(.str (zs "readlines") 1758), (.str (zs "StringIO.readlines") 1759), (.str (zs "/claim/cut.py") 1760), (.int 769 0), (.int 2 0), (.int 2 0), (.int 0 0), (.int 3 0), (.ref 1290), (.bool true), (.int 181 0), (.ref 1291), .none, (.ref 1292), (.ref 1293), (.ref 1294), (.int 1763 0), (.int 769 0), (.str (zs "/claim/cut.py") 1764)]), #[]⟩
noncomputable def o1296_52 (P : Params) : Obj := ⟨(.type "function"), none, (.func (fd (sc 42 27) (zs "StringIO.readlines") 3 (.ref 1289) .none .none (.str (zs "io") 1158) none (.ref 1295) .none 0)), #[]⟩
noncomputable def o1297_52 (P : Params) : Obj := ⟨(.type "tuple"), none, (.seq #[] 0), #[]⟩
noncomputable def o1298_52 (P : Params) : Obj := ⟨.none, none, (.fields #[]), #[]⟩
noncomputable def o1299_52 (P : Params) : Obj := ⟨(.type "tuple"), none, (.seq #[(.str (zs "self") 1769)] 0), #[]⟩
noncomputable def o1300_52 (P : Params) : Obj := ⟨(.type "tuple"), none, (.seq #[] 0), #[]⟩
noncomputable def o1301_52 (P : Params) : Obj := ⟨.none, none, (.func (fd (sc 42 28) (zs "StringIO.__iter__") 0 .none .none .none .none none .none .none 0)), #[]⟩
noncomputable def o1302_52 (P : Params) : Obj := ⟨(.type "code"), none, (.fields #[(.str (zs "__iter__") 1766), (.str (zs "StringIO.__iter__") 1767), (.str (zs "/claim/cut.py") 1768), (.int 772 0), (.int 1 0), (.int 0 0), (.int 0 0), (.int 3 0), (.ref 1297), (.bool true), (.int 181 0), (.ref 1298), .none, (.ref 1299), (.ref 1300), (.ref 1301), (.int 1770 0), (.int 772 0), (.str (zs "/claim/cut.py") 1771)]), #[]⟩
noncomputable def o1303_52 (P : Params) : Obj := ⟨(.type "function"), none, (.func (fd (sc 42 28) (zs "StringIO.__iter__") 3 .none .none .none (.str (zs "io") 1158) none (.ref 1302) .none 0)), #[]⟩
noncomputable def o1304_52 (P : Params) : Obj := ⟨(.type "tuple"), none, (.seq #[] 0), #[]⟩
noncomputable def o1305_52 (P : Params) : Obj := ⟨.none, none, (.fields #[]), #[]⟩
noncomputable def o1306_52 (P : Params) : Obj := ⟨(.type "tuple"), none, (.seq #[(.str (zs "self") 1776), (.str (zs "line") 1777)] 0), #[]⟩
noncomputable def o1307_52 (P : Params) : Obj := ⟨(.type "tuple"), none, (.seq #[] 0), #[]⟩
noncomputable def o1308_52 (P : Params) : Obj := ⟨.none, none, (.func (fd (sc 42 29) (zs "StringIO.__next__") 0 .none .none .none .none none .none .none 0)), #[]⟩
noncomputable def o1309_52 (P : Params) : Obj := ⟨(.type "code"), none, (.fields #[(.str (zs "__next__") 1773), (.str (zs "StringIO.__next__") 1774), (.str (zs "/claim/cut.py") 1775), (.int 776 0), (.int 1 0), (.int 0 0), (.int 0 0), (.int 3 0), (.ref 1304), (.bool true), (.int 181 0), (.ref 1305), .none, (.ref 1306), (.ref 1307), (.ref 1308), (.int 1778 0), (.int 776 0), (.str (zs "/claim/cut.py") 1779)]), #[]⟩
noncomputable def o1310_52 (P : Params) : Obj := ⟨(.type "function"), none, (.func (fd (sc 42 29) (zs "StringIO.__next__") 3 .none .none .none (.str (zs "io") 1158) none (.ref 1309) .none 0)), #[]⟩
noncomputable def o1311_52 (P : Params) : Obj := ⟨(.type "tuple"), none, (.seq #[] 0), #[]⟩
noncomputable def o1312_52 (P : Params) : Obj := ⟨.none, none, (.fields #[]), #[]⟩
noncomputable def o1313_52 (P : Params) : Obj := ⟨(.type "tuple"), none, (.seq #[(.str (zs "self") 1784), (.str (zs "s") 1785), (.str (zs "n") 1786), (.str (zs "m") 1787), (.str (zs "start") 1788), (.str (zs "buf") 1789)] 0), #[]⟩
noncomputable def o1314_52 (P : Params) : Obj := ⟨(.type "tuple"), none, (.seq #[] 0), #[]⟩
noncomputable def o1315_52 (P : Params) : Obj := ⟨.none, none, (.func (fd (sc 42 30) (zs "StringIO.write") 0 .none .none .none .none none .none .none 0)), #[]⟩
noncomputable def o1316_52 (P : Params) : Obj := ⟨(.type "code"), none, (.fields #[(.str (zs "write") 1781), (.str (zs "StringIO.write") 1782), (.str (zs "/claim/cut.py") 1783), (.int 783 0), (.int 2 0), (.int 2 0), (.int 0 0), (.int 3 0), (.ref 1311), (.bool true), (.int 181 0), (.ref 1312), .none, (.ref 1313), (.ref 1314), (.ref 1315), (.int 1790 0), (.int 783 0), (.str (zs "/claim/cut.py") 1791)]), #[]⟩
noncomputable def o1317_52 (P : Params) : Obj := ⟨(.type "function"), none, (.func (fd (sc 42 30) (zs "StringIO.write") 3 .none .none .none (.str (zs "io") 1158) none (.ref 1316) .none 0)), #[]⟩
noncomputable def o1318_52 (P : Params) : Obj := ⟨(.type "tuple"), none, (.seq #[] 0), #[]⟩
noncomputable def o1319_52 (P : Params) : Obj := ⟨.none, none, (.fields #[]), #[]⟩
noncomputable def o1320_52 (P : Params) : Obj := ⟨(.type "tuple"), none, (.seq #[(.str (zs "self") 1796), (.str (zs "lines") 1797)] 0), #[]⟩
noncomputable def o1321_52 (P : Params) : Obj := ⟨(.type "tuple"), none, (.seq #[] 0), #[]⟩
noncomputable def o1322_52 (P : Params) : Obj := ⟨.none, none, (.func (fd (sc 42 31) (zs "StringIO.writelines") 0 .none .none .none .none none .none .none 0)), #[]⟩
noncomputable def o1323_52 (P : Params) : Obj := ⟨(.type "code"), none, (.fields #[(.str (zs "writelines") 1793), (.str (zs "StringIO.writelines") 1794), (.str (zs "/claim/cut.py") 1795), (.int 802 0), (.int 2 0), (.int 2 0), (.int 0 0), (.int 3 0), (.ref 1318), (.bool true), (.int 181 0), (.ref 1319), .none, (.ref 1320), (.ref 1321), (.ref 1322), (.int 1798 0), (.int 802 0), (.str (zs "/claim/cut.py") 1799)]), #[]⟩
noncomputable def o1324_52 (P : Params) : Obj := ⟨(.type "function"), none, (.func (fd (sc 42 31) (zs "StringIO.writelines") 3 .none .none .none (.str (zs "io") 1158) none (.ref 1323) .none 0)), #[]⟩
noncomputable def o1325_52 (P : Params) : Obj := ⟨(.type "tuple"), none, (.seq #[] 0), #[]⟩
noncomputable def o1326_52 (P : Params) : Obj := ⟨.none, none, (.fields #[]), #[]⟩
noncomputable def o1327_52 (P : Params) : Obj := ⟨(.type "tuple"), none, (.seq #[(.str (zs "self") 1804)] 0), #[]⟩
noncomputable def o1328_52 (P : Params) : Obj := ⟨(.type "tuple"), none, (.seq #[] 0), #[]⟩
noncomputable def o1329_52 (P : Params) : Obj := ⟨.none, none, (.func (fd (sc 42 32) (zs "StringIO.__repr__") 0 .none .none .none .none none .none .none 0)), #[]⟩
noncomputable def o1330_52 (P : Params) : Obj := ⟨(.type "code"), none, (.fields #[(.str (zs "__repr__") 1801), (.str (zs "StringIO.__repr__") 1802), (.str (zs "/claim/cut.py") 1803), (.int 805 0), (.int 1 0), (.int 0 0), (.int 0 0), (.int 3 0), (.ref 1325), (.bool true), (.int 181 0), (.ref 1326), .none, (.ref 1327), (.ref 1328), (.ref 1329), (.int 1805 0), (.int 805 0), (.str (zs "/claim/cut.py") 1806)]), #[]⟩
noncomputable def o1331_52 (P : Params) : Obj := ⟨(.type "function"), none, (.func (fd (sc 42 32) (zs "StringIO.__repr__") 3 .none .none .none (.str (zs "io") 1158) none (.ref 1330) .none 0)), #[]⟩
noncomputable def o1332_52 (P : Params) : Obj := ⟨(.type "tuple"), none, (.seq #[(.str (zs "__buf") 1808), (.str (zs "__newline") 1809), (.str (zs "__pos") 1810)] 0), #[]⟩
noncomputable def o1333_52 (P : Params) : Obj := ⟨(.type "dict"), none, (.dict #[en P "__module__" 1535 (.str (zs "_io") 1540), en P "__firstlineno__" 1539 (.int 602 1538), en P "__init__" 1552 (.ref 1104), en P "_StringIO__translated" 1561 (.ref 1111), en P "_StringIO__check" 1568 (.ref 1118), en P "_StringIO__check_dot" 1575 (.ref 1125), en P "_StringIO__line" 1590 (.ref 1132), en P "closed" 1598 (.ref 1140), en P "line_buffering" 1606 (.ref 1148), en P "newlines" 1614 (.ref 1156), en P "encoding" 1622 (.ref 1164), en P "errors" 1630 (.ref 1172), en P "close" 1637 (.ref 1179), en P "__enter__" 1644 (.ref 1186), en P "__exit__" 1652 (.ref 1193), en P "readable" 1659 (.ref 1200), en P "writable" 1666 (.ref 1207), en P "seekable" 1673 (.ref 1214), en P "isatty" 1680 (.ref 1221), en P "flush" 1687 (.ref 1228), en P "fileno" 1694 (.ref 1235), en P "detach" 1701 (.ref 1242), en P "getvalue" 1708 (.ref 1249), en P "tell" 1715 (.ref 1256), en P "seek" 1725 (.ref 1264), en P "truncate" 1733 (.ref 1272), en P "read" 1745 (.ref 1280), en P "readline" 1755 (.ref 1288), en P "readlines" 1765 (.ref 1296), en P "__iter__" 1772 (.ref 1303), en P "__next__" 1780 (.ref 1310), en P "write" 1792 (.ref 1317), en P "writelines" 1800 (.ref 1324), en P "__repr__" 1807 (.ref 1331), en P "__static_attributes__" 1811 (.ref 1332), en P "__doc__" 1812 .none] 2), #[]⟩
noncomputable def o1334_52 (P : Params) : Obj := ⟨(.type "type"), none, (.cls ⟨(zs "StringIO"), [(.ref 857)], [(.ref 1334), (.ref 857), (.ref 830), (.type "object")], 1333, (zs "StringIO"), true, [], [], false, none, false⟩), #[some (.ref 1090), none, some (.str (zs "StringIO") 1528), some (.str (zs "StringIO") 1536), some .none, some (.bool true)]⟩
noncomputable def o1335_52 (P : Params) : Obj := ⟨(.type "super"), none, (.fields #[(.ref 1334), (.ref 1334), (.ref 1334)]), #[]⟩
noncomputable def o1336_52 (P : Params) : Obj := ⟨(.type "builtin_function_or_method"), none, (.fields #[(.builtin "object.__init_subclass__"), (.ref 1334)]), #[]⟩
noncomputable def o1337_52 (P : Params) : Obj := ⟨(.type "tuple"), none, (.seq #[] 0), #[]⟩
noncomputable def o1338_52 (P : Params) : Obj := ⟨.none, none, (.fields #[]), #[]⟩
noncomputable def o1339_52 (P : Params) : Obj := ⟨(.type "tuple"), none, (.seq #[(.str (zs "data") 1820), (.str (zs "fp") 1821), (.str (zs "s") 1822)] 0), #[]⟩
noncomputable def o1340_52 (P : Params) : Obj := ⟨(.type "tuple"), none, (.seq #[] 0), #[]⟩
noncomputable def o1341_52 (P : Params) : Obj := ⟨.none, none, (.func (fd (st 44) (zs "lzwdecode") 0 .none .none .none .none none .none .none 0)), #[]⟩
noncomputable def o1342_52 (P : Params) : Obj := ⟨(.type "code"), none, (.fields #[(.str (zs "lzwdecode") 1817), (.str (zs "lzwdecode") 1818), (.str (zs "/claim/cut.py") 1819), (.int 808 0), (.int 1 0), (.int 0 0), (.int 0 0), (.int 3 0), (.ref 1337), (.bool true), (.int 181 0), (.ref 1338), .none, (.ref 1339), (.ref 1340), (.ref 1341), (.int 1823 0), (.int 808 0), (.str (zs "/claim/cut.py") 1824)]), #[]⟩
noncomputable def o1343_52 (P : Params) : Obj := ⟨(.type "function"), none, (.func (fd (st 44) (zs "lzwdecode") 3 .none .none .none (.str (zs "pdfminer.lzw") 1815) none (.ref 1342) .none 0)), #[]⟩
noncomputable def o1344_52 (P : Params) : Obj := ⟨(.type "tuple"), none, (.seq #[] 0), #[]⟩
noncomputable def o1345_52 (P : Params) : Obj := ⟨(.type "builtin_function_or_method"), none, (.fields #[(.builtin "type.__prepare__"), (.type "type")]), #[]⟩
noncomputable def o1346_52 (P : Params) : Obj := ⟨(.type "dict"), none, (.dict #[en P "__module__" 1835 (.str (zs "pdfminer.psparser") 1826), en P "__qualname__" 1837 (.str (zs "PSObject") 1836), en P "__firstlineno__" 1839 (.int 813 1838), en P "__static_attributes__" 1840 (.ref 1351)] 4), #[]⟩
noncomputable def o1347_52 (P : Params) : Obj := ⟨(.type "tuple"), none, (.seq #[] 0), #[]⟩
noncomputable def o1348_52 (P : Params) : Obj := ⟨.none, none, (.fields #[]), #[]⟩
noncomputable def o1349_52 (P : Params) : Obj := ⟨(.type "code"), none, (.fields #[(.str (zs "PSObject") 1830), (.str (zs "PSObject") 1831), (.str (zs "/claim/cut.py") 1832), (.int 813 0), (.int 0 0), (.int 0 0), (.int 0 0), (.int 0 0), (.ref 1347), (.bool false), (.int 181 0), (.ref 1348), .none, .none, .none, .none, (.int 1833 0), (.int 813 0), (.str (zs "/claim/cut.py") 1834)]), #[]⟩
noncomputable def o1350_52 (P : Params) : Obj := ⟨(.type "frame"), none, .plain, #[some (.ref 1349), some (.ref 3), some (.ref 1346), none, some (.str (zs "pdfminer.psparser") 1826), none, some (.ref 0)]⟩
noncomputable def o1351_52 (P : Params) : Obj := ⟨(.type "tuple"), none, (.seq #[] 0), #[]⟩
noncomputable def o1352_52 (P : Params) : Obj := ⟨(.type "dict"), none, (.dict #[en P "__module__" 1835 (.str (zs "pdfminer.psparser") 1826), en P "__firstlineno__" 1839 (.int 813 1838), en P "__static_attributes__" 1840 (.ref 1351), en P "__dict__" 1842 (.ref 1354), en P "__weakref__" 1844 (.ref 1355), en P "__doc__" 1845 .none] 4), #[]⟩
noncomputable def o1353_52 (P : Params) : Obj := ⟨(.type "type"), none, (.cls ⟨(zs "PSObject"), [(.type "object")], [(.ref 1353), (.type "object")], 1352, (zs "PSObject"), true, [], [(.ref 1388)], false, none, false⟩), #[none, none, some (.str (zs "PSObject") 1828), some (.str (zs "PSObject") 1836), some (.builtin "object.__new__"), some (.bool true)]⟩
noncomputable def o1354_52 (P : Params) : Obj := ⟨(.type "getset_descriptor"), none, (.fields #[(.str (zs "__dict__") 1841), (.ref 1353), (.builtin "function.__dict__"), (.builtin "function.__dict__#set")]), #[]⟩
noncomputable def o1355_52 (P : Params) : Obj := ⟨(.type "getset_descriptor"), none, (.fields #[(.str (zs "__weakref__") 1843), (.ref 1353), (.builtin "ExceptionGroup.__weakref__"), .none]), #[]⟩
noncomputable def o1356_52 (P : Params) : Obj := ⟨(.type "super"), none, (.fields #[(.ref 1353), (.ref 1353), (.ref 1353)]), #[]⟩
noncomputable def o1357_52 (P : Params) : Obj := ⟨(.type "builtin_function_or_method"), none, (.fields #[(.builtin "object.__init_subclass__"), (.ref 1353)]), #[]⟩
noncomputable def o1358_52 (P : Params) : Obj := ⟨(.type "tuple"), none, (.seq #[(.ref 1353)] 0), #[]⟩
noncomputable def o1359_52 (P : Params) : Obj := ⟨(.type "builtin_function_or_method"), none, (.fields #[(.builtin "type.__prepare__"), (.type "type")]), #[]⟩
noncomputable def o1360_52 (P : Params) : Obj := ⟨(.type "dict"), none, (.dict #[en P "__module__" 1855 (.str (zs "pdfminer.psparser") 1826), en P "__qualname__" 1857 (.str (zs "PSLiteral") 1856), en P "__firstlineno__" 1859 (.int 815 1858), en P "__init__" 1867 (.ref 1371), en P "__eq__" 1875 (.ref 1378), en P "__repr__" 1883 (.ref 1385), en P "__static_attributes__" 1885 (.ref 1386)] 7), #[]⟩
noncomputable def o1361_52 (P : Params) : Obj := ⟨(.type "tuple"), none, (.seq #[] 0), #[]⟩
noncomputable def o1362_52 (P : Params) : Obj := ⟨.none, none, (.fields #[(.int 817 0), (.int 4 0), (.ref 1370), (.int 820 0), (.int 4 0), (.ref 1377), (.int 823 0), (.int 4 0), (.ref 1384)]), #[]⟩
noncomputable def o1363_52 (P : Params) : Obj := ⟨(.type "code"), none, (.fields #[(.str (zs "PSLiteral") 1850), (.str (zs "PSLiteral") 1851), (.str (zs "/claim/cut.py") 1852), (.int 815 0), (.int 0 0), (.int 0 0), (.int 0 0), (.int 0 0), (.ref 1361), (.bool false), (.int 181 0), (.ref 1362), .none, .none, .none, .none, (.int 1853 0), (.int 815 0), (.str (zs "/claim/cut.py") 1854)]), #[]⟩
noncomputable def o1364_52 (P : Params) : Obj := ⟨(.type "frame"), none, .plain, #[some (.ref 1363), some (.ref 3), some (.ref 1360), none, some (.str (zs "pdfminer.psparser") 1826), none, some (.ref 0)]⟩
noncomputable def o1365_52 (P : Params) : Obj := ⟨(.type "tuple"), none, (.seq #[] 0), #[]⟩
noncomputable def o1366_52 (P : Params) : Obj := ⟨.none, none, (.fields #[]), #[]⟩
noncomputable def o1367_52 (P : Params) : Obj := ⟨(.type "tuple"), none, (.seq #[(.str (zs "self") 1863), (.str (zs "name") 1864)] 0), #[]⟩
noncomputable def o1368_52 (P : Params) : Obj := ⟨(.type "tuple"), none, (.seq #[] 0), #[]⟩
noncomputable def o1369_52 (P : Params) : Obj := ⟨.none, none, (.func (fd (sc 47 0) (zs "PSLiteral.__init__") 0 .none .none .none .none none .none .none 0)), #[]⟩
noncomputable def o1370_52 (P : Params) : Obj := ⟨(.type "code"), none, (.fields #[(.str (zs "__init__") 1860), (.str (zs "PSLiteral.__init__") 1861), (.str (zs "/claim/cut.py") 1862), (.int 817 0), (.int 2 0), (.int 0 0), (.int 0 0), (.int 3 0), (.ref 1365), (.bool true), (.int 181 0), (.ref 1366), .none, (.ref 1367), (.ref 1368), (.ref 1369), (.int 1865 0), (.int 817 0), (.str (zs "/claim/cut.py") 1866)]), #[]⟩
noncomputable def o1371_52 (P : Params) : Obj := ⟨(.type "function"), none, (.func (fd (sc 47 0) (zs "PSLiteral.__init__") 3 .none .none .none (.str (zs "pdfminer.psparser") 1826) none (.ref 1370) .none 0)), #[]⟩
noncomputable def o1372_52 (P : Params) : Obj := ⟨(.type "tuple"), none, (.seq #[] 0), #[]⟩
noncomputable def o1373_52 (P : Params) : Obj := ⟨.none, none, (.fields #[]), #[]⟩
noncomputable def o1374_52 (P : Params) : Obj := ⟨(.type "tuple"), none, (.seq #[(.str (zs "self") 1871), (.str (zs "other") 1872)] 0), #[]⟩
noncomputable def o1375_52 (P : Params) : Obj := ⟨(.type "tuple"), none, (.seq #[] 0), #[]⟩
noncomputable def o1376_52 (P : Params) : Obj := ⟨.none, none, (.func (fd (sc 47 1) (zs "PSLiteral.__eq__") 0 .none .none .none .none none .none .none 0)), #[]⟩
noncomputable def o1377_52 (P : Params) : Obj := ⟨(.type "code"), none, (.fields #[(.str (zs "__eq__") 1868), (.str (zs "PSLiteral.__eq__") 1869), (.str (zs "/claim/cut.py") 1870), (.int 820 0), (.int 2 0), (.int 0 0), (.int 0 0), (.int 3 0), (.ref 1372), (.bool true), (.int 181 0), (.ref 1373), .none, (.ref 1374), (.ref 1375), (.ref 1376), (.int 1873 0), (.int 820 0), (.str (zs "/claim/cut.py") 1874)]), #[]⟩
noncomputable def o1378_52 (P : Params) : Obj := ⟨(.type "function"), none, (.func (fd (sc 47 1) (zs "PSLiteral.__eq__") 3 .none .none .none (.str (zs "pdfminer.psparser") 1826) none (.ref 1377) .none 0)), #[]⟩
noncomputable def o1379_52 (P : Params) : Obj := ⟨(.type "tuple"), none, (.seq #[] 0), #[]⟩
noncomputable def o1380_52 (P : Params) : Obj := ⟨.none, none, (.fields #[]), #[]⟩
noncomputable def o1381_52 (P : Params) : Obj := ⟨(.type "tuple"), none, (.seq #[(.str (zs "self") 1879), (.str (zs "name") 1880)] 0), #[]⟩
noncomputable def o1382_52 (P : Params) : Obj := ⟨(.type "tuple"), none, (.seq #[] 0), #[]⟩
noncomputable def o1383_52 (P : Params) : Obj := ⟨.none, none, (.func (fd (sc 47 2) (zs "PSLiteral.__repr__") 0 .none .none .none .none none .none .none 0)), #[]⟩
noncomputable def o1384_52 (P : Params) : Obj := ⟨(.type "code"), none, (.fields #[(.str (zs "__repr__") 1876), (.str (zs "PSLiteral.__repr__") 1877), (.str (zs "/claim/cut.py") 1878), (.int 823 0), (.int 1 0), (.int 0 0), (.int 0 0), (.int 3 0), (.ref 1379), (.bool true), (.int 181 0), (.ref 1380), .none, (.ref 1381), (.ref 1382), (.ref 1383), (.int 1881 0), (.int 823 0), (.str (zs "/claim/cut.py") 1882)]), #[]⟩
noncomputable def o1385_52 (P : Params) : Obj := ⟨(.type "function"), none, (.func (fd (sc 47 2) (zs "PSLiteral.__repr__") 3 .none .none .none (.str (zs "pdfminer.psparser") 1826) none (.ref 1384) .none 0)), #[]⟩
noncomputable def o1386_52 (P : Params) : Obj := ⟨(.type "tuple"), none, (.seq #[(.str (zs "name") 1884)] 0), #[]⟩
noncomputable def o1387_52 (P : Params) : Obj := ⟨(.type "dict"), none, (.dict #[en P "__module__" 1855 (.str (zs "pdfminer.psparser") 1826), en P "__firstlineno__" 1859 (.int 815 1858), en P "__init__" 1867 (.ref 1371), en P "__eq__" 1875 (.ref 1378), en P "__repr__" 1883 (.ref 1385), en P "__static_attributes__" 1885 (.ref 1386), en P "__doc__" 1886 .none, en P "__hash__" 1887 .none] 3), #[]⟩
noncomputable def o1388_52 (P : Params) : Obj := ⟨(.type "type"), none, (.cls ⟨(zs "PSLiteral"), [(.ref 1353)], [(.ref 1388), (.ref 1353), (.type "object")], 1387, (zs "PSLiteral"), true, [], [], false, none, false⟩), #[some (.ref 1358), none, some (.str (zs "PSLiteral") 1848), some (.str (zs "PSLiteral") 1856), some (.builtin "object.__new__"), some (.bool true)]⟩
noncomputable def o1389_52 (P : Params) : Obj := ⟨(.type "super"), none, (.fields #[(.ref 1388), (.ref 1388), (.ref 1388)]), #[]⟩
noncomputable def o1390_52 (P : Params) : Obj := ⟨(.type "builtin_function_or_method"), none, (.fields #[(.builtin "object.__init_subclass__"), (.ref 1388)]), #[]⟩
noncomputable def o1391_52 (P : Params) : Obj := ⟨(.type "tuple"), none, (.seq #[] 0), #[]⟩
noncomputable def o1392_52 (P : Params) : Obj := ⟨(.type "builtin_function_or_method"), none, (.fields #[(.builtin "type.__prepare__"), (.type "type")]), #[]⟩
noncomputable def o1393_52 (P : Params) : Obj := ⟨(.type "dict"), none, (.dict #[en P "__module__" 1897 (.str (zs "pdfminer.psparser") 1826), en P "__qualname__" 1899 (.str (zs "PSSymbolTable") 1898), en P "__firstlineno__" 1901 (.int 826 1900), en P "__init__" 1909 (.ref 1404), en P "intern" 1918 (.ref 1411), en P "__static_attributes__" 1921 (.ref 1412)] 6), #[]⟩
noncomputable def o1394_52 (P : Params) : Obj := ⟨(.type "tuple"), none, (.seq #[] 0), #[]⟩
noncomputable def o1395_52 (P : Params) : Obj := ⟨.none, none, (.fields #[(.int 828 0), (.int 4 0), (.ref 1403), (.int 832 0), (.int 4 0), (.ref 1410)]), #[]⟩
noncomputable def o1396_52 (P : Params) : Obj := ⟨(.type "code"), none, (.fields #[(.str (zs "PSSymbolTable") 1892), (.str (zs "PSSymbolTable") 1893), (.str (zs "/claim/cut.py") 1894), (.int 826 0), (.int 0 0), (.int 0 0), (.int 0 0), (.int 0 0), (.ref 1394), (.bool false), (.int 181 0), (.ref 1395), .none, .none, .none, .none, (.int 1895 0), (.int 826 0), (.str (zs "/claim/cut.py") 1896)]), #[]⟩
noncomputable def o1397_52 (P : Params) : Obj := ⟨(.type "frame"), none, .plain, #[some (.ref 1396), some (.ref 3), some (.ref 1393), none, some (.str (zs "pdfminer.psparser") 1826), none, some (.ref 0)]⟩
noncomputable def o1398_52 (P : Params) : Obj := ⟨(.type "tuple"), none, (.seq #[] 0), #[]⟩
noncomputable def o1399_52 (P : Params) : Obj := ⟨.none, none, (.fields #[]), #[]⟩
noncomputable def o1400_52 (P : Params) : Obj := ⟨(.type "tuple"), none, (.seq #[(.str (zs "self") 1905), (.str (zs "klass") 1906)] 0), #[]⟩
noncomputable def o1401_52 (P : Params) : Obj := ⟨(.type "tuple"), none, (.seq #[] 0), #[]⟩
noncomputable def o1402_52 (P : Params) : Obj := ⟨.none, none, (.func (fd (sc 48 0) (zs "PSSymbolTable.__init__") 0 .none .none .none .none none .none .none 0)), #[]⟩
noncomputable def o1403_52 (P : Params) : Obj := ⟨(.type "code"), none, (.fields #[(.str (zs "__init__") 1902), (.str (zs "PSSymbolTable.__init__") 1903), (.str (zs "/claim/cut.py") 1904), (.int 828 0), (.int 2 0), (.int 0 0), (.int 0 0), (.int 3 0), (.ref 1398), (.bool true), (.int 181 0), (.ref 1399), .none, (.ref 1400), (.ref 1401), (.ref 1402), (.int 1907 0), (.int 828 0), (.str (zs "/claim/cut.py") 1908)]), #[]⟩
noncomputable def o1404_52 (P : Params) : Obj := ⟨(.type "function"), none, (.func (fd (sc 48 0) (zs "PSSymbolTable.__init__") 3 .none .none .none (.str (zs "pdfminer.psparser") 1826) none (.ref 1403) .none 0)), #[]⟩
noncomputable def o1405_52 (P : Params) : Obj := ⟨(.type "tuple"), none, (.seq #[] 0), #[]⟩
noncomputable def o1406_52 (P : Params) : Obj := ⟨.none, none, (.fields #[]), #[]⟩
noncomputable def o1407_52 (P : Params) : Obj := ⟨(.type "tuple"), none, (.seq #[(.str (zs "self") 1913), (.str (zs "name") 1914), (.str (zs "lit") 1915)] 0), #[]⟩
noncomputable def o1408_52 (P : Params) : Obj := ⟨(.type "tuple"), none, (.seq #[] 0), #[]⟩
noncomputable def o1409_52 (P : Params) : Obj := ⟨.none, none, (.func (fd (sc 48 1) (zs "PSSymbolTable.intern") 0 .none .none .none .none none .none .none 0)), #[]⟩
noncomputable def o1410_52 (P : Params) : Obj := ⟨(.type "code"), none, (.fields #[(.str (zs "intern") 1910), (.str (zs "PSSymbolTable.intern") 1911), (.str (zs "/claim/cut.py") 1912), (.int 832 0), (.int 2 0), (.int 0 0), (.int 0 0), (.int 3 0), (.ref 1405), (.bool true), (.int 181 0), (.ref 1406), .none, (.ref 1407), (.ref 1408), (.ref 1409), (.int 1916 0), (.int 832 0), (.str (zs "/claim/cut.py") 1917)]), #[]⟩
noncomputable def o1411_52 (P : Params) : Obj := ⟨(.type "function"), none, (.func (fd (sc 48 1) (zs "PSSymbolTable.intern") 3 .none .none .none (.str (zs "pdfminer.psparser") 1826) none (.ref 1410) .none 0)), #[]⟩
noncomputable def o1412_52 (P : Params) : Obj := ⟨(.type "tuple"), none, (.seq #[(.str (zs "dict") 1919), (.str (zs "klass") 1920)] 0), #[]⟩
noncomputable def o1413_52 (P : Params) : Obj := ⟨(.type "dict"), none, (.dict #[en P "__module__" 1897 (.str (zs "pdfminer.psparser") 1826), en P "__firstlineno__" 1901 (.int 826 1900), en P "__init__" 1909 (.ref 1404), en P "intern" 1918 (.ref 1411), en P "__static_attributes__" 1921 (.ref 1412), en P "__dict__" 1923 (.ref 1415), en P "__weakref__" 1925 (.ref 1416), en P "__doc__" 1926 .none] 4), #[]⟩
noncomputable def o1414_52 (P : Params) : Obj := ⟨(.type "type"), none, (.cls ⟨(zs "PSSymbolTable"), [(.type "object")], [(.ref 1414), (.type "object")], 1413, (zs "PSSymbolTable"), true, [], [], false, none, false⟩), #[none, none, some (.str (zs "PSSymbolTable") 1890), some (.str (zs "PSSymbolTable") 1898), some (.builtin "object.__new__"), some (.bool true)]⟩
noncomputable def o1415_52 (P : Params) : Obj := ⟨(.type "getset_descriptor"), none, (.fields #[(.str (zs "__dict__") 1922), (.ref 1414), (.builtin "function.__dict__"), (.builtin "function.__dict__#set")]), #[]⟩
noncomputable def o1416_52 (P : Params) : Obj := ⟨(.type "getset_descriptor"), none, (.fields #[(.str (zs "__weakref__") 1924), (.ref 1414), (.builtin "ExceptionGroup.__weakref__"), .none]), #[]⟩
noncomputable def o1417_52 (P : Params) : Obj := ⟨(.type "super"), none, (.fields #[(.ref 1414), (.ref 1414), (.ref 1414)]), #[]⟩
noncomputable def o1418_52 (P : Params) : Obj := ⟨(.type "builtin_function_or_method"), none, (.fields #[(.builtin "object.__init_subclass__"), (.ref 1414)]), #[]⟩
noncomputable def o1419_52 (P : Params) : Obj := ⟨(.type "dict"), none, (.dict #[en P "dict" 1932 (.ref 1422), en P "klass" 1934 (.ref 1388)] 2), #[]⟩
noncomputable def o1420_52 (P : Params) : Obj := ⟨(.ref 1414), (some 1419), .plain, #[]⟩
noncomputable def o1421_52 (P : Params) : Obj := ⟨(.type "frame"), none, (.dict #[en P "self" 1929 (.ref 1420), en P "klass" 1930 (.ref 1388)] 2), #[]⟩
noncomputable def o1422_52 (P : Params) : Obj := ⟨(.type "dict"), none, (.dict #[] 0), #[]⟩
noncomputable def o1423_52 (P : Params) : Obj := ⟨(.type "method"), none, (.fields #[(.ref 1411), (.ref 1420)]), #[]⟩
noncomputable def T52 (P : Params) : BT := (.node (o0_0 P) (.node (o1_0 P) (.node (o3_52 P) (.node (o7_0 P) (.node (o15_6 P) (.node (o31_6 P) (.node (o63_6 P) (.node (o127_28 P) (.node (o255_28 P) (.node (o511_41 P) (.node (o1023_52 P) .nil .nil) .nil) (.node (o767_41 P) (.node (o1279_52 P) .nil .nil) .nil)) (.node (o383_41 P) (.node (o639_41 P) (.node (o1151_52 P) .nil .nil) .nil) (.node (o895_52 P) (.node (o1407_52 P) .nil .nil) .nil))) (.node (o191_28 P) (.node (o319_41 P) (.node (o575_41 P) (.node (o1087_52 P) .nil .nil) .nil) (.node (o831_41 P) (.node (o1343_52 P) .nil .nil) .nil)) (.node (o447_41 P) (.node (o703_41 P) (.node (o1215_52 P) .nil .nil) .nil) (.node (o959_52 P) .nil .nil)))) (.node (o95_28 P) (.node (o159_28 P) (.node (o287_41 P) (.node (o543_41 P) (.node (o1055_52 P) .nil .nil) .nil) (.node (o799_41 P) (.node (o1311_52 P) .nil .nil) .nil)) (.node (o415_41 P) (.node (o671_41 P) (.node (o1183_52 P) .nil .nil) .nil) (.node (o927_52 P) .nil .nil))) (.node (o223_28 P) (.node (o351_41 P) (.node (o607_41 P) (.node (o1119_52 P) .nil .nil) .nil) (.node (o863_52 P) (.node (o1375_52 P) .nil .nil) .nil)) (.node (o479_41 P) (.node (o735_41 P) (.node (o1247_52 P) .nil .nil) .nil) (.node (o991_52 P) .nil .nil))))) (.node (o47_6 P) (.node (o79_28 P) (.node (o143_28 P) (.node (o271_41 P) (.node (o527_41 P) (.node (o1039_52 P) .nil .nil) .nil) (.node (o783_41 P) (.node (o1295_52 P) .nil .nil) .nil)) (.node (o399_41 P) (.node (o655_41 P) (.node (o1167_52 P) .nil .nil) .nil) (.node (o911_52 P) (.node (o1423_52 P) .nil .nil) .nil))) (.node (o207_28 P) (.node (o335_41 P) (.node (o591_41 P) (.node (o1103_52 P) .nil .nil) .nil) (.node (o847_41 P) (.node (o1359_52 P) .nil .nil) .nil)) (.node (o463_41 P) (.node (o719_41 P) (.node (o1231_52 P) .nil .nil) .nil) (.node (o975_52 P) .nil .nil)))) (.node (o111_28 P) (.node (o175_28 P) (.node (o303_41 P) (.node (o559_41 P) (.node (o1071_52 P) .nil .nil) .nil) (.node (o815_41 P) (.node (o1327_52 P) .nil .nil) .nil)) (.node (o431_41 P) (.node (o687_41 P) (.node (o1199_52 P) .nil .nil) .nil) (.node (o943_52 P) .nil .nil))) (.node (o239_28 P) (.node (o367_41 P) (.node (o623_41 P) (.node (o1135_52 P) .nil .nil) .nil) (.node (o879_52 P) (.node (o1391_52 P) .nil .nil) .nil)) (.node (o495_41 P) (.node (o751_41 P) (.node (o1263_52 P) .nil .nil) .nil) (.node (o1007_52 P) .nil .nil)))))) (.node (o23_6 P) (.node (o39_6 P) (.node (o71_6 P) (.node (o135_28 P) (.node (o263_28 P) (.node (o519_41 P) (.node (o1031_52 P) .nil .nil) .nil) (.node (o775_41 P) (.node (o1287_52 P) .nil .nil) .nil)) (.node (o391_41 P) (.node (o647_41 P) (.node (o1159_52 P) .nil .nil) .nil) (.node (o903_52 P) (.node (o1415_52 P) .nil .nil) .nil))) (.node (o199_28 P) (.node (o327_41 P) (.node (o583_41 P) (.node (o1095_52 P) .nil .nil) .nil) (.node (o839_41 P) (.node (o1351_52 P) .nil .nil) .nil)) (.node (o455_41 P) (.node (o711_41 P) (.node (o1223_52 P) .nil .nil) .nil) (.node (o967_52 P) .nil .nil)))) (.node (o103_28 P) (.node (o167_28 P) (.node (o295_41 P) (.node (o551_41 P) (.node (o1063_52 P) .nil .nil) .nil) (.node (o807_41 P) (.node (o1319_52 P) .nil .nil) .nil)) (.node (o423_41 P) (.node (o679_41 P) (.node (o1191_52 P) .nil .nil) .nil) (.node (o935_52 P) .nil .nil))) (.node (o231_28 P) (.node (o359_41 P) (.node (o615_41 P) (.node (o1127_52 P) .nil .nil) .nil) (.node (o871_52 P) (.node (o1383_52 P) .nil .nil) .nil)) (.node (o487_41 P) (.node (o743_41 P) (.node (o1255_52 P) .nil .nil) .nil) (.node (o999_52 P) .nil .nil))))) (.node (o55_6 P) (.node (o87_28 P) (.node (o151_28 P) (.node (o279_41 P) (.node (o535_41 P) (.node (o1047_52 P) .nil .nil) .nil) (.node (o791_41 P) (.node (o1303_52 P) .nil .nil) .nil)) (.node (o407_41 P) (.node (o663_41 P) (.node (o1175_52 P) .nil .nil) .nil) (.node (o919_52 P) .nil .nil))) (.node (o215_28 P) (.node (o343_41 P) (.node (o599_41 P) (.node (o1111_52 P) .nil .nil) .nil) (.node (o855_41 P) (.node (o1367_52 P) .nil .nil) .nil)) (.node (o471_41 P) (.node (o727_41 P) (.node (o1239_52 P) .nil .nil) .nil) (.node (o983_52 P) .nil .nil)))) (.node (o119_28 P) (.node (o183_28 P) (.node (o311_41 P) (.node (o567_41 P) (.node (o1079_52 P) .nil .nil) .nil) (.node (o823_41 P) (.node (o1335_52 P) .nil .nil) .nil)) (.node (o439_41 P) (.node (o695_41 P) (.node (o1207_52 P) .nil .nil) .nil) (.node (o951_52 P) .nil .nil))) (.node (o247_28 P) (.node (o375_41 P) (.node (o631_41 P) (.node (o1143_52 P) .nil .nil) .nil) (.node (o887_52 P) (.node (o1399_52 P) .nil .nil) .nil)) (.node (o503_41 P) (.node (o759_41 P) (.node (o1271_52 P) .nil .nil) .nil) (.node (o1015_52 P) .nil .nil))))))) (.node (o11_0 P) (.node (o19_6 P) (.node (o35_6 P) (.node (o67_6 P) (.node (o131_28 P) (.node (o259_28 P) (.node (o515_41 P) (.node (o1027_52 P) .nil .nil) .nil) (.node (o771_41 P) (.node (o1283_52 P) .nil .nil) .nil)) (.node (o387_41 P) (.node (o643_41 P) (.node (o1155_52 P) .nil .nil) .nil) (.node (o899_52 P) (.node (o1411_52 P) .nil .nil) .nil))) (.node (o195_28 P) (.node (o323_41 P) (.node (o579_41 P) (.node (o1091_52 P) .nil .nil) .nil) (.node (o835_41 P) (.node (o1347_52 P) .nil .nil) .nil)) (.node (o451_41 P) (.node (o707_41 P) (.node (o1219_52 P) .nil .nil) .nil) (.node (o963_52 P) .nil .nil)))) (.node (o99_28 P) (.node (o163_28 P) (.node (o291_41 P) (.node (o547_41 P) (.node (o1059_52 P) .nil .nil) .nil) (.node (o803_41 P) (.node (o1315_52 P) .nil .nil) .nil)) (.node (o419_41 P) (.node (o675_41 P) (.node (o1187_52 P) .nil .nil) .nil) (.node (o931_52 P) .nil .nil))) (.node (o227_28 P) (.node (o355_41 P) (.node (o611_41 P) (.node (o1123_52 P) .nil .nil) .nil) (.node (o867_52 P) (.node (o1379_52 P) .nil .nil) .nil)) (.node (o483_41 P) (.node (o739_41 P) (.node (o1251_52 P) .nil .nil) .nil) (.node (o995_52 P) .nil .nil))))) (.node (o51_6 P) (.node (o83_28 P) (.node (o147_28 P) (.node (o275_41 P) (.node (o531_41 P) (.node (o1043_52 P) .nil .nil) .nil) (.node (o787_41 P) (.node (o1299_52 P) .nil .nil) .nil)) (.node (o403_41 P) (.node (o659_41 P) (.node (o1171_52 P) .nil .nil) .nil) (.node (o915_52 P) .nil .nil))) (.node (o211_28 P) (.node (o339_41 P) (.node (o595_41 P) (.node (o1107_52 P) .nil .nil) .nil) (.node (o851_41 P) (.node (o1363_52 P) .nil .nil) .nil)) (.node (o467_41 P) (.node (o723_41 P) (.node (o1235_52 P) .nil .nil) .nil) (.node (o979_52 P) .nil .nil)))) (.node (o115_28 P) (.node (o179_28 P) (.node (o307_41 P) (.node (o563_41 P) (.node (o1075_52 P) .nil .nil) .nil) (.node (o819_41 P) (.node (o1331_52 P) .nil .nil) .nil)) (.node (o435_41 P) (.node (o691_41 P) (.node (o1203_52 P) .nil .nil) .nil) (.node (o947_52 P) .nil .nil))) (.node (o243_28 P) (.node (o371_41 P) (.node (o627_41 P) (.node (o1139_52 P) .nil .nil) .nil) (.node (o883_52 P) (.node (o1395_52 P) .nil .nil) .nil)) (.node (o499_41 P) (.node (o755_41 P) (.node (o1267_52 P) .nil .nil) .nil) (.node (o1011_52 P) .nil .nil)))))) (.node (o27_6 P) (.node (o43_6 P) (.node (o75_6 P) (.node (o139_28 P) (.node (o267_41 P) (.node (o523_41 P) (.node (o1035_52 P) .nil .nil) .nil) (.node (o779_41 P) (.node (o1291_52 P) .nil .nil) .nil)) (.node (o395_41 P) (.node (o651_41 P) (.node (o1163_52 P) .nil .nil) .nil) (.node (o907_52 P) (.node (o1419_52 P) .nil .nil) .nil))) (.node (o203_28 P) (.node (o331_41 P) (.node (o587_41 P) (.node (o1099_52 P) .nil .nil) .nil) (.node (o843_41 P) (.node (o1355_52 P) .nil .nil) .nil)) (.node (o459_41 P) (.node (o715_41 P) (.node (o1227_52 P) .nil .nil) .nil) (.node (o971_52 P) .nil .nil)))) (.node (o107_28 P) (.node (o171_28 P) (.node (o299_41 P) (.node (o555_41 P) (.node (o1067_52 P) .nil .nil) .nil) (.node (o811_41 P) (.node (o1323_52 P) .nil .nil) .nil)) (.node (o427_41 P) (.node (o683_41 P) (.node (o1195_52 P) .nil .nil) .nil) (.node (o939_52 P) .nil .nil))) (.node (o235_28 P) (.node (o363_41 P) (.node (o619_41 P) (.node (o1131_52 P) .nil .nil) .nil) (.node (o875_52 P) (.node (o1387_52 P) .nil .nil) .nil)) (.node (o491_41 P) (.node (o747_41 P) (.node (o1259_52 P) .nil .nil) .nil) (.node (o1003_52 P) .nil .nil))))) (.node (o59_6 P) (.node (o91_28 P) (.node (o155_28 P) (.node (o283_41 P) (.node (o539_41 P) (.node (o1051_52 P) .nil .nil) .nil) (.node (o795_41 P) (.node (o1307_52 P) .nil .nil) .nil)) (.node (o411_41 P) (.node (o667_41 P) (.node (o1179_52 P) .nil .nil) .nil) (.node (o923_52 P) .nil .nil))) (.node (o219_28 P) (.node (o347_41 P) (.node (o603_41 P) (.node (o1115_52 P) .nil .nil) .nil) (.node (o859_41 P) (.node (o1371_52 P) .nil .nil) .nil)) (.node (o475_41 P) (.node (o731_41 P) (.node (o1243_52 P) .nil .nil) .nil) (.node (o987_52 P) .nil .nil)))) (.node (o123_28 P) (.node (o187_28 P) (.node (o315_41 P) (.node (o571_41 P) (.node (o1083_52 P) .nil .nil) .nil) (.node (o827_41 P) (.node (o1339_52 P) .nil .nil) .nil)) (.node (o443_41 P) (.node (o699_41 P) (.node (o1211_52 P) .nil .nil) .nil) (.node (o955_52 P) .nil .nil))) (.node (o251_28 P) (.node (o379_41 P) (.node (o635_41 P) (.node (o1147_52 P) .nil .nil) .nil) (.node (o891_52 P) (.node (o1403_52 P) .nil .nil) .nil)) (.node (o507_41 P) (.node (o763_41 P) (.node (o1275_52 P) .nil .nil) .nil) (.node (o1019_52 P) .nil .nil)))))))) (.node (o5_0 P) (.node (o9_0 P) (.node (o17_6 P) (.node (o33_6 P) (.node (o65_6 P) (.node (o129_28 P) (.node (o257_28 P) (.node (o513_41 P) (.node (o1025_52 P) .nil .nil) .nil) (.node (o769_41 P) (.node (o1281_52 P) .nil .nil) .nil)) (.node (o385_41 P) (.node (o641_41 P) (.node (o1153_52 P) .nil .nil) .nil) (.node (o897_52 P) (.node (o1409_52 P) .nil .nil) .nil))) (.node (o193_28 P) (.node (o321_41 P) (.node (o577_41 P) (.node (o1089_52 P) .nil .nil) .nil) (.node (o833_41 P) (.node (o1345_52 P) .nil .nil) .nil)) (.node (o449_41 P) (.node (o705_41 P) (.node (o1217_52 P) .nil .nil) .nil) (.node (o961_52 P) .nil .nil)))) (.node (o97_28 P) (.node (o161_28 P) (.node (o289_41 P) (.node (o545_41 P) (.node (o1057_52 P) .nil .nil) .nil) (.node (o801_41 P) (.node (o1313_52 P) .nil .nil) .nil)) (.node (o417_41 P) (.node (o673_41 P) (.node (o1185_52 P) .nil .nil) .nil) (.node (o929_52 P) .nil .nil))) (.node (o225_28 P) (.node (o353_41 P) (.node (o609_41 P) (.node (o1121_52 P) .nil .nil) .nil) (.node (o865_52 P) (.node (o1377_52 P) .nil .nil) .nil)) (.node (o481_41 P) (.node (o737_41 P) (.node (o1249_52 P) .nil .nil) .nil) (.node (o993_52 P) .nil .nil))))) (.node (o49_6 P) (.node (o81_28 P) (.node (o145_28 P) (.node (o273_41 P) (.node (o529_41 P) (.node (o1041_52 P) .nil .nil) .nil) (.node (o785_41 P) (.node (o1297_52 P) .nil .nil) .nil)) (.node (o401_41 P) (.node (o657_41 P) (.node (o1169_52 P) .nil .nil) .nil) (.node (o913_52 P) .nil .nil))) (.node (o209_28 P) (.node (o337_41 P) (.node (o593_41 P) (.node (o1105_52 P) .nil .nil) .nil) (.node (o849_41 P) (.node (o1361_52 P) .nil .nil) .nil)) (.node (o465_41 P) (.node (o721_41 P) (.node (o1233_52 P) .nil .nil) .nil) (.node (o977_52 P) .nil .nil)))) (.node (o113_28 P) (.node (o177_28 P) (.node (o305_41 P) (.node (o561_41 P) (.node (o1073_52 P) .nil .nil) .nil) (.node (o817_41 P) (.node (o1329_52 P) .nil .nil) .nil)) (.node (o433_41 P) (.node (o689_41 P) (.node (o1201_52 P) .nil .nil) .nil) (.node (o945_52 P) .nil .nil))) (.node (o241_28 P) (.node (o369_41 P) (.node (o625_41 P) (.node (o1137_52 P) .nil .nil) .nil) (.node (o881_52 P) (.node (o1393_52 P) .nil .nil) .nil)) (.node (o497_41 P) (.node (o753_41 P) (.node (o1265_52 P) .nil .nil) .nil) (.node (o1009_52 P) .nil .nil)))))) (.node (o25_6 P) (.node (o41_6 P) (.node (o73_6 P) (.node (o137_28 P) (.node (o265_28 P) (.node (o521_41 P) (.node (o1033_52 P) .nil .nil) .nil) (.node (o777_41 P) (.node (o1289_52 P) .nil .nil) .nil)) (.node (o393_41 P) (.node (o649_41 P) (.node (o1161_52 P) .nil .nil) .nil) (.node (o905_52 P) (.node (o1417_52 P) .nil .nil) .nil))) (.node (o201_28 P) (.node (o329_41 P) (.node (o585_41 P) (.node (o1097_52 P) .nil .nil) .nil) (.node (o841_41 P) (.node (o1353_52 P) .nil .nil) .nil)) (.node (o457_41 P) (.node (o713_41 P) (.node (o1225_52 P) .nil .nil) .nil) (.node (o969_52 P) .nil .nil)))) (.node (o105_28 P) (.node (o169_28 P) (.node (o297_41 P) (.node (o553_41 P) (.node (o1065_52 P) .nil .nil) .nil) (.node (o809_41 P) (.node (o1321_52 P) .nil .nil) .nil)) (.node (o425_41 P) (.node (o681_41 P) (.node (o1193_52 P) .nil .nil) .nil) (.node (o937_52 P) .nil .nil))) (.node (o233_28 P) (.node (o361_41 P) (.node (o617_41 P) (.node (o1129_52 P) .nil .nil) .nil) (.node (o873_52 P) (.node (o1385_52 P) .nil .nil) .nil)) (.node (o489_41 P) (.node (o745_41 P) (.node (o1257_52 P) .nil .nil) .nil) (.node (o1001_52 P) .nil .nil))))) (.node (o57_6 P) (.node (o89_28 P) (.node (o153_28 P) (.node (o281_41 P) (.node (o537_41 P) (.node (o1049_52 P) .nil .nil) .nil) (.node (o793_41 P) (.node (o1305_52 P) .nil .nil) .nil)) (.node (o409_41 P) (.node (o665_41 P) (.node (o1177_52 P) .nil .nil) .nil) (.node (o921_52 P) .nil .nil))) (.node (o217_28 P) (.node (o345_41 P) (.node (o601_41 P) (.node (o1113_52 P) .nil .nil) .nil) (.node (o857_52 P) (.node (o1369_52 P) .nil .nil) .nil)) (.node (o473_41 P) (.node (o729_41 P) (.node (o1241_52 P) .nil .nil) .nil) (.node (o985_52 P) .nil .nil)))) (.node (o121_28 P) (.node (o185_28 P) (.node (o313_41 P) (.node (o569_41 P) (.node (o1081_52 P) .nil .nil) .nil) (.node (o825_41 P) (.node (o1337_52 P) .nil .nil) .nil)) (.node (o441_41 P) (.node (o697_41 P) (.node (o1209_52 P) .nil .nil) .nil) (.node (o953_52 P) .nil .nil))) (.node (o249_28 P) (.node (o377_41 P) (.node (o633_41 P) (.node (o1145_52 P) .nil .nil) .nil) (.node (o889_52 P) (.node (o1401_52 P) .nil .nil) .nil)) (.node (o505_41 P) (.node (o761_41 P) (.node (o1273_52 P) .nil .nil) .nil) (.node (o1017_52 P) .nil .nil))))))) (.node (o13_0 P) (.node (o21_6 P) (.node (o37_6 P) (.node (o69_6 P) (.node (o133_28 P) (.node (o261_28 P) (.node (o517_41 P) (.node (o1029_52 P) .nil .nil) .nil) (.node (o773_41 P) (.node (o1285_52 P) .nil .nil) .nil)) (.node (o389_41 P) (.node (o645_41 P) (.node (o1157_52 P) .nil .nil) .nil) (.node (o901_52 P) (.node (o1413_52 P) .nil .nil) .nil))) (.node (o197_28 P) (.node (o325_41 P) (.node (o581_41 P) (.node (o1093_52 P) .nil .nil) .nil) (.node (o837_41 P) (.node (o1349_52 P) .nil .nil) .nil)) (.node (o453_41 P) (.node (o709_41 P) (.node (o1221_52 P) .nil .nil) .nil) (.node (o965_52 P) .nil .nil)))) (.node (o101_28 P) (.node (o165_28 P) (.node (o293_41 P) (.node (o549_41 P) (.node (o1061_52 P) .nil .nil) .nil) (.node (o805_41 P) (.node (o1317_52 P) .nil .nil) .nil)) (.node (o421_41 P) (.node (o677_41 P) (.node (o1189_52 P) .nil .nil) .nil) (.node (o933_52 P) .nil .nil))) (.node (o229_28 P) (.node (o357_41 P) (.node (o613_41 P) (.node (o1125_52 P) .nil .nil) .nil) (.node (o869_52 P) (.node (o1381_52 P) .nil .nil) .nil)) (.node (o485_41 P) (.node (o741_41 P) (.node (o1253_52 P) .nil .nil) .nil) (.node (o997_52 P) .nil .nil))))) (.node (o53_6 P) (.node (o85_28 P) (.node (o149_28 P) (.node (o277_41 P) (.node (o533_41 P) (.node (o1045_52 P) .nil .nil) .nil) (.node (o789_41 P) (.node (o1301_52 P) .nil .nil) .nil)) (.node (o405_41 P) (.node (o661_41 P) (.node (o1173_52 P) .nil .nil) .nil) (.node (o917_52 P) .nil .nil))) (.node (o213_28 P) (.node (o341_41 P) (.node (o597_41 P) (.node (o1109_52 P) .nil .nil) .nil) (.node (o853_41 P) (.node (o1365_52 P) .nil .nil) .nil)) (.node (o469_41 P) (.node (o725_41 P) (.node (o1237_52 P) .nil .nil) .nil) (.node (o981_52 P) .nil .nil)))) (.node (o117_28 P) (.node (o181_28 P) (.node (o309_41 P) (.node (o565_41 P) (.node (o1077_52 P) .nil .nil) .nil) (.node (o821_41 P) (.node (o1333_52 P) .nil .nil) .nil)) (.node (o437_41 P) (.node (o693_41 P) (.node (o1205_52 P) .nil .nil) .nil) (.node (o949_52 P) .nil .nil))) (.node (o245_28 P) (.node (o373_41 P) (.node (o629_41 P) (.node (o1141_52 P) .nil .nil) .nil) (.node (o885_52 P) (.node (o1397_52 P) .nil .nil) .nil)) (.node (o501_41 P) (.node (o757_41 P) (.node (o1269_52 P) .nil .nil) .nil) (.node (o1013_52 P) .nil .nil)))))) (.node (o29_6 P) (.node (o45_6 P) (.node (o77_28 P) (.node (o141_28 P) (.node (o269_41 P) (.node (o525_41 P) (.node (o1037_52 P) .nil .nil) .nil) (.node (o781_41 P) (.node (o1293_52 P) .nil .nil) .nil)) (.node (o397_41 P) (.node (o653_41 P) (.node (o1165_52 P) .nil .nil) .nil) (.node (o909_52 P) (.node (o1421_52 P) .nil .nil) .nil))) (.node (o205_28 P) (.node (o333_41 P) (.node (o589_41 P) (.node (o1101_52 P) .nil .nil) .nil) (.node (o845_52 P) (.node (o1357_52 P) .nil .nil) .nil)) (.node (o461_41 P) (.node (o717_41 P) (.node (o1229_52 P) .nil .nil) .nil) (.node (o973_52 P) .nil .nil)))) (.node (o109_28 P) (.node (o173_28 P) (.node (o301_41 P) (.node (o557_41 P) (.node (o1069_52 P) .nil .nil) .nil) (.node (o813_41 P) (.node (o1325_52 P) .nil .nil) .nil)) (.node (o429_41 P) (.node (o685_41 P) (.node (o1197_52 P) .nil .nil) .nil) (.node (o941_52 P) .nil .nil))) (.node (o237_28 P) (.node (o365_41 P) (.node (o621_41 P) (.node (o1133_52 P) .nil .nil) .nil) (.node (o877_52 P) (.node (o1389_52 P) .nil .nil) .nil)) (.node (o493_41 P) (.node (o749_41 P) (.node (o1261_52 P) .nil .nil) .nil) (.node (o1005_52 P) .nil .nil))))) (.node (o61_6 P) (.node (o93_28 P) (.node (o157_28 P) (.node (o285_41 P) (.node (o541_41 P) (.node (o1053_52 P) .nil .nil) .nil) (.node (o797_41 P) (.node (o1309_52 P) .nil .nil) .nil)) (.node (o413_41 P) (.node (o669_41 P) (.node (o1181_52 P) .nil .nil) .nil) (.node (o925_52 P) .nil .nil))) (.node (o221_28 P) (.node (o349_41 P) (.node (o605_41 P) (.node (o1117_52 P) .nil .nil) .nil) (.node (o861_52 P) (.node (o1373_52 P) .nil .nil) .nil)) (.node (o477_41 P) (.node (o733_41 P) (.node (o1245_52 P) .nil .nil) .nil) (.node (o989_52 P) .nil .nil)))) (.node (o125_28 P) (.node (o189_28 P) (.node (o317_41 P) (.node (o573_41 P) (.node (o1085_52 P) .nil .nil) .nil) (.node (o829_41 P) (.node (o1341_52 P) .nil .nil) .nil)) (.node (o445_41 P) (.node (o701_41 P) (.node (o1213_52 P) .nil .nil) .nil) (.node (o957_52 P) .nil .nil))) (.node (o253_28 P) (.node (o381_41 P) (.node (o637_41 P) (.node (o1149_52 P) .nil .nil) .nil) (.node (o893_52 P) (.node (o1405_52 P) .nil .nil) .nil)) (.node (o509_41 P) (.node (o765_41 P) (.node (o1277_52 P) .nil .nil) .nil) (.node (o1021_52 P) .nil .nil))))))))) (.node (o2_41 P) (.node (o4_0 P) (.node (o8_0 P) (.node (o16_6 P) (.node (o32_6 P) (.node (o64_6 P) (.node (o128_28 P) (.node (o256_28 P) (.node (o512_41 P) (.node (o1024_52 P) .nil .nil) .nil) (.node (o768_41 P) (.node (o1280_52 P) .nil .nil) .nil)) (.node (o384_41 P) (.node (o640_41 P) (.node (o1152_52 P) .nil .nil) .nil) (.node (o896_52 P) (.node (o1408_52 P) .nil .nil) .nil))) (.node (o192_28 P) (.node (o320_41 P) (.node (o576_41 P) (.node (o1088_52 P) .nil .nil) .nil) (.node (o832_41 P) (.node (o1344_52 P) .nil .nil) .nil)) (.node (o448_41 P) (.node (o704_41 P) (.node (o1216_52 P) .nil .nil) .nil) (.node (o960_52 P) .nil .nil)))) (.node (o96_28 P) (.node (o160_28 P) (.node (o288_41 P) (.node (o544_41 P) (.node (o1056_52 P) .nil .nil) .nil) (.node (o800_41 P) (.node (o1312_52 P) .nil .nil) .nil)) (.node (o416_41 P) (.node (o672_41 P) (.node (o1184_52 P) .nil .nil) .nil) (.node (o928_52 P) .nil .nil))) (.node (o224_28 P) (.node (o352_41 P) (.node (o608_41 P) (.node (o1120_52 P) .nil .nil) .nil) (.node (o864_52 P) (.node (o1376_52 P) .nil .nil) .nil)) (.node (o480_41 P) (.node (o736_41 P) (.node (o1248_52 P) .nil .nil) .nil) (.node (o992_52 P) .nil .nil))))) (.node (o48_6 P) (.node (o80_28 P) (.node (o144_28 P) (.node (o272_41 P) (.node (o528_41 P) (.node (o1040_52 P) .nil .nil) .nil) (.node (o784_41 P) (.node (o1296_52 P) .nil .nil) .nil)) (.node (o400_41 P) (.node (o656_41 P) (.node (o1168_52 P) .nil .nil) .nil) (.node (o912_52 P) .nil .nil))) (.node (o208_28 P) (.node (o336_41 P) (.node (o592_41 P) (.node (o1104_52 P) .nil .nil) .nil) (.node (o848_41 P) (.node (o1360_52 P) .nil .nil) .nil)) (.node (o464_41 P) (.node (o720_41 P) (.node (o1232_52 P) .nil .nil) .nil) (.node (o976_52 P) .nil .nil)))) (.node (o112_28 P) (.node (o176_28 P) (.node (o304_41 P) (.node (o560_41 P) (.node (o1072_52 P) .nil .nil) .nil) (.node (o816_41 P) (.node (o1328_52 P) .nil .nil) .nil)) (.node (o432_41 P) (.node (o688_41 P) (.node (o1200_52 P) .nil .nil) .nil) (.node (o944_52 P) .nil .nil))) (.node (o240_28 P) (.node (o368_41 P) (.node (o624_41 P) (.node (o1136_52 P) .nil .nil) .nil) (.node (o880_52 P) (.node (o1392_52 P) .nil .nil) .nil)) (.node (o496_41 P) (.node (o752_41 P) (.node (o1264_52 P) .nil .nil) .nil) (.node (o1008_52 P) .nil .nil)))))) (.node (o24_6 P) (.node (o40_6 P) (.node (o72_6 P) (.node (o136_28 P) (.node (o264_28 P) (.node (o520_41 P) (.node (o1032_52 P) .nil .nil) .nil) (.node (o776_41 P) (.node (o1288_52 P) .nil .nil) .nil)) (.node (o392_41 P) (.node (o648_41 P) (.node (o1160_52 P) .nil .nil) .nil) (.node (o904_52 P) (.node (o1416_52 P) .nil .nil) .nil))) (.node (o200_28 P) (.node (o328_41 P) (.node (o584_41 P) (.node (o1096_52 P) .nil .nil) .nil) (.node (o840_41 P) (.node (o1352_52 P) .nil .nil) .nil)) (.node (o456_41 P) (.node (o712_41 P) (.node (o1224_52 P) .nil .nil) .nil) (.node (o968_52 P) .nil .nil)))) (.node (o104_28 P) (.node (o168_28 P) (.node (o296_41 P) (.node (o552_41 P) (.node (o1064_52 P) .nil .nil) .nil) (.node (o808_41 P) (.node (o1320_52 P) .nil .nil) .nil)) (.node (o424_41 P) (.node (o680_41 P) (.node (o1192_52 P) .nil .nil) .nil) (.node (o936_52 P) .nil .nil))) (.node (o232_28 P) (.node (o360_41 P) (.node (o616_41 P) (.node (o1128_52 P) .nil .nil) .nil) (.node (o872_52 P) (.node (o1384_52 P) .nil .nil) .nil)) (.node (o488_41 P) (.node (o744_41 P) (.node (o1256_52 P) .nil .nil) .nil) (.node (o1000_52 P) .nil .nil))))) (.node (o56_6 P) (.node (o88_28 P) (.node (o152_28 P) (.node (o280_41 P) (.node (o536_41 P) (.node (o1048_52 P) .nil .nil) .nil) (.node (o792_41 P) (.node (o1304_52 P) .nil .nil) .nil)) (.node (o408_41 P) (.node (o664_41 P) (.node (o1176_52 P) .nil .nil) .nil) (.node (o920_52 P) .nil .nil))) (.node (o216_28 P) (.node (o344_41 P) (.node (o600_41 P) (.node (o1112_52 P) .nil .nil) .nil) (.node (o856_41 P) (.node (o1368_52 P) .nil .nil) .nil)) (.node (o472_41 P) (.node (o728_41 P) (.node (o1240_52 P) .nil .nil) .nil) (.node (o984_52 P) .nil .nil)))) (.node (o120_28 P) (.node (o184_28 P) (.node (o312_41 P) (.node (o568_41 P) (.node (o1080_52 P) .nil .nil) .nil) (.node (o824_41 P) (.node (o1336_52 P) .nil .nil) .nil)) (.node (o440_41 P) (.node (o696_41 P) (.node (o1208_52 P) .nil .nil) .nil) (.node (o952_52 P) .nil .nil))) (.node (o248_28 P) (.node (o376_41 P) (.node (o632_41 P) (.node (o1144_52 P) .nil .nil) .nil) (.node (o888_52 P) (.node (o1400_52 P) .nil .nil) .nil)) (.node (o504_41 P) (.node (o760_41 P) (.node (o1272_52 P) .nil .nil) .nil) (.node (o1016_52 P) .nil .nil))))))) (.node (o12_52 P) (.node (o20_6 P) (.node (o36_6 P) (.node (o68_6 P) (.node (o132_28 P) (.node (o260_28 P) (.node (o516_41 P) (.node (o1028_52 P) .nil .nil) .nil) (.node (o772_41 P) (.node (o1284_52 P) .nil .nil) .nil)) (.node (o388_41 P) (.node (o644_41 P) (.node (o1156_52 P) .nil .nil) .nil) (.node (o900_52 P) (.node (o1412_52 P) .nil .nil) .nil))) (.node (o196_28 P) (.node (o324_41 P) (.node (o580_41 P) (.node (o1092_52 P) .nil .nil) .nil) (.node (o836_41 P) (.node (o1348_52 P) .nil .nil) .nil)) (.node (o452_41 P) (.node (o708_41 P) (.node (o1220_52 P) .nil .nil) .nil) (.node (o964_52 P) .nil .nil)))) (.node (o100_28 P) (.node (o164_28 P) (.node (o292_41 P) (.node (o548_41 P) (.node (o1060_52 P) .nil .nil) .nil) (.node (o804_41 P) (.node (o1316_52 P) .nil .nil) .nil)) (.node (o420_41 P) (.node (o676_41 P) (.node (o1188_52 P) .nil .nil) .nil) (.node (o932_52 P) .nil .nil))) (.node (o228_28 P) (.node (o356_41 P) (.node (o612_41 P) (.node (o1124_52 P) .nil .nil) .nil) (.node (o868_52 P) (.node (o1380_52 P) .nil .nil) .nil)) (.node (o484_41 P) (.node (o740_41 P) (.node (o1252_52 P) .nil .nil) .nil) (.node (o996_52 P) .nil .nil))))) (.node (o52_6 P) (.node (o84_28 P) (.node (o148_28 P) (.node (o276_41 P) (.node (o532_41 P) (.node (o1044_52 P) .nil .nil) .nil) (.node (o788_41 P) (.node (o1300_52 P) .nil .nil) .nil)) (.node (o404_41 P) (.node (o660_41 P) (.node (o1172_52 P) .nil .nil) .nil) (.node (o916_52 P) .nil .nil))) (.node (o212_28 P) (.node (o340_41 P) (.node (o596_41 P) (.node (o1108_52 P) .nil .nil) .nil) (.node (o852_41 P) (.node (o1364_52 P) .nil .nil) .nil)) (.node (o468_41 P) (.node (o724_41 P) (.node (o1236_52 P) .nil .nil) .nil) (.node (o980_52 P) .nil .nil)))) (.node (o116_28 P) (.node (o180_28 P) (.node (o308_41 P) (.node (o564_41 P) (.node (o1076_52 P) .nil .nil) .nil) (.node (o820_41 P) (.node (o1332_52 P) .nil .nil) .nil)) (.node (o436_41 P) (.node (o692_41 P) (.node (o1204_52 P) .nil .nil) .nil) (.node (o948_52 P) .nil .nil))) (.node (o244_28 P) (.node (o372_41 P) (.node (o628_41 P) (.node (o1140_52 P) .nil .nil) .nil) (.node (o884_52 P) (.node (o1396_52 P) .nil .nil) .nil)) (.node (o500_41 P) (.node (o756_41 P) (.node (o1268_52 P) .nil .nil) .nil) (.node (o1012_52 P) .nil .nil)))))) (.node (o28_6 P) (.node (o44_6 P) (.node (o76_6 P) (.node (o140_41 P) (.node (o268_41 P) (.node (o524_41 P) (.node (o1036_52 P) .nil .nil) .nil) (.node (o780_41 P) (.node (o1292_52 P) .nil .nil) .nil)) (.node (o396_41 P) (.node (o652_41 P) (.node (o1164_52 P) .nil .nil) .nil) (.node (o908_52 P) (.node (o1420_52 P) .nil .nil) .nil))) (.node (o204_28 P) (.node (o332_41 P) (.node (o588_41 P) (.node (o1100_52 P) .nil .nil) .nil) (.node (o844_41 P) (.node (o1356_52 P) .nil .nil) .nil)) (.node (o460_41 P) (.node (o716_41 P) (.node (o1228_52 P) .nil .nil) .nil) (.node (o972_52 P) .nil .nil)))) (.node (o108_28 P) (.node (o172_28 P) (.node (o300_41 P) (.node (o556_41 P) (.node (o1068_52 P) .nil .nil) .nil) (.node (o812_41 P) (.node (o1324_52 P) .nil .nil) .nil)) (.node (o428_41 P) (.node (o684_41 P) (.node (o1196_52 P) .nil .nil) .nil) (.node (o940_52 P) .nil .nil))) (.node (o236_28 P) (.node (o364_41 P) (.node (o620_41 P) (.node (o1132_52 P) .nil .nil) .nil) (.node (o876_52 P) (.node (o1388_52 P) .nil .nil) .nil)) (.node (o492_41 P) (.node (o748_41 P) (.node (o1260_52 P) .nil .nil) .nil) (.node (o1004_52 P) .nil .nil))))) (.node (o60_6 P) (.node (o92_28 P) (.node (o156_28 P) (.node (o284_41 P) (.node (o540_41 P) (.node (o1052_52 P) .nil .nil) .nil) (.node (o796_41 P) (.node (o1308_52 P) .nil .nil) .nil)) (.node (o412_41 P) (.node (o668_41 P) (.node (o1180_52 P) .nil .nil) .nil) (.node (o924_52 P) .nil .nil))) (.node (o220_28 P) (.node (o348_41 P) (.node (o604_41 P) (.node (o1116_52 P) .nil .nil) .nil) (.node (o860_52 P) (.node (o1372_52 P) .nil .nil) .nil)) (.node (o476_41 P) (.node (o732_41 P) (.node (o1244_52 P) .nil .nil) .nil) (.node (o988_52 P) .nil .nil)))) (.node (o124_28 P) (.node (o188_28 P) (.node (o316_41 P) (.node (o572_41 P) (.node (o1084_52 P) .nil .nil) .nil) (.node (o828_41 P) (.node (o1340_52 P) .nil .nil) .nil)) (.node (o444_41 P) (.node (o700_41 P) (.node (o1212_52 P) .nil .nil) .nil) (.node (o956_52 P) .nil .nil))) (.node (o252_28 P) (.node (o380_41 P) (.node (o636_41 P) (.node (o1148_52 P) .nil .nil) .nil) (.node (o892_52 P) (.node (o1404_52 P) .nil .nil) .nil)) (.node (o508_41 P) (.node (o764_41 P) (.node (o1276_52 P) .nil .nil) .nil) (.node (o1020_52 P) .nil .nil)))))))) (.node (o6_0 P) (.node (o10_0 P) (.node (o18_6 P) (.node (o34_6 P) (.node (o66_6 P) (.node (o130_28 P) (.node (o258_28 P) (.node (o514_41 P) (.node (o1026_52 P) .nil .nil) .nil) (.node (o770_41 P) (.node (o1282_52 P) .nil .nil) .nil)) (.node (o386_41 P) (.node (o642_41 P) (.node (o1154_52 P) .nil .nil) .nil) (.node (o898_52 P) (.node (o1410_52 P) .nil .nil) .nil))) (.node (o194_28 P) (.node (o322_41 P) (.node (o578_41 P) (.node (o1090_52 P) .nil .nil) .nil) (.node (o834_41 P) (.node (o1346_52 P) .nil .nil) .nil)) (.node (o450_41 P) (.node (o706_41 P) (.node (o1218_52 P) .nil .nil) .nil) (.node (o962_52 P) .nil .nil)))) (.node (o98_28 P) (.node (o162_28 P) (.node (o290_41 P) (.node (o546_41 P) (.node (o1058_52 P) .nil .nil) .nil) (.node (o802_41 P) (.node (o1314_52 P) .nil .nil) .nil)) (.node (o418_41 P) (.node (o674_41 P) (.node (o1186_52 P) .nil .nil) .nil) (.node (o930_52 P) .nil .nil))) (.node (o226_28 P) (.node (o354_41 P) (.node (o610_41 P) (.node (o1122_52 P) .nil .nil) .nil) (.node (o866_52 P) (.node (o1378_52 P) .nil .nil) .nil)) (.node (o482_41 P) (.node (o738_41 P) (.node (o1250_52 P) .nil .nil) .nil) (.node (o994_52 P) .nil .nil))))) (.node (o50_6 P) (.node (o82_28 P) (.node (o146_28 P) (.node (o274_41 P) (.node (o530_41 P) (.node (o1042_52 P) .nil .nil) .nil) (.node (o786_41 P) (.node (o1298_52 P) .nil .nil) .nil)) (.node (o402_41 P) (.node (o658_41 P) (.node (o1170_52 P) .nil .nil) .nil) (.node (o914_52 P) .nil .nil))) (.node (o210_28 P) (.node (o338_41 P) (.node (o594_41 P) (.node (o1106_52 P) .nil .nil) .nil) (.node (o850_41 P) (.node (o1362_52 P) .nil .nil) .nil)) (.node (o466_41 P) (.node (o722_41 P) (.node (o1234_52 P) .nil .nil) .nil) (.node (o978_52 P) .nil .nil)))) (.node (o114_28 P) (.node (o178_28 P) (.node (o306_41 P) (.node (o562_41 P) (.node (o1074_52 P) .nil .nil) .nil) (.node (o818_41 P) (.node (o1330_52 P) .nil .nil) .nil)) (.node (o434_41 P) (.node (o690_41 P) (.node (o1202_52 P) .nil .nil) .nil) (.node (o946_52 P) .nil .nil))) (.node (o242_28 P) (.node (o370_41 P) (.node (o626_41 P) (.node (o1138_52 P) .nil .nil) .nil) (.node (o882_52 P) (.node (o1394_52 P) .nil .nil) .nil)) (.node (o498_41 P) (.node (o754_41 P) (.node (o1266_52 P) .nil .nil) .nil) (.node (o1010_52 P) .nil .nil)))))) (.node (o26_6 P) (.node (o42_6 P) (.node (o74_6 P) (.node (o138_28 P) (.node (o266_28 P) (.node (o522_41 P) (.node (o1034_52 P) .nil .nil) .nil) (.node (o778_41 P) (.node (o1290_52 P) .nil .nil) .nil)) (.node (o394_41 P) (.node (o650_41 P) (.node (o1162_52 P) .nil .nil) .nil) (.node (o906_52 P) (.node (o1418_52 P) .nil .nil) .nil))) (.node (o202_28 P) (.node (o330_41 P) (.node (o586_41 P) (.node (o1098_52 P) .nil .nil) .nil) (.node (o842_41 P) (.node (o1354_52 P) .nil .nil) .nil)) (.node (o458_41 P) (.node (o714_41 P) (.node (o1226_52 P) .nil .nil) .nil) (.node (o970_52 P) .nil .nil)))) (.node (o106_28 P) (.node (o170_28 P) (.node (o298_41 P) (.node (o554_41 P) (.node (o1066_52 P) .nil .nil) .nil) (.node (o810_41 P) (.node (o1322_52 P) .nil .nil) .nil)) (.node (o426_41 P) (.node (o682_41 P) (.node (o1194_52 P) .nil .nil) .nil) (.node (o938_52 P) .nil .nil))) (.node (o234_28 P) (.node (o362_41 P) (.node (o618_41 P) (.node (o1130_52 P) .nil .nil) .nil) (.node (o874_52 P) (.node (o1386_52 P) .nil .nil) .nil)) (.node (o490_41 P) (.node (o746_41 P) (.node (o1258_52 P) .nil .nil) .nil) (.node (o1002_52 P) .nil .nil))))) (.node (o58_6 P) (.node (o90_28 P) (.node (o154_28 P) (.node (o282_41 P) (.node (o538_41 P) (.node (o1050_52 P) .nil .nil) .nil) (.node (o794_41 P) (.node (o1306_52 P) .nil .nil) .nil)) (.node (o410_41 P) (.node (o666_41 P) (.node (o1178_52 P) .nil .nil) .nil) (.node (o922_52 P) .nil .nil))) (.node (o218_28 P) (.node (o346_41 P) (.node (o602_41 P) (.node (o1114_52 P) .nil .nil) .nil) (.node (o858_41 P) (.node (o1370_52 P) .nil .nil) .nil)) (.node (o474_41 P) (.node (o730_41 P) (.node (o1242_52 P) .nil .nil) .nil) (.node (o986_52 P) .nil .nil)))) (.node (o122_28 P) (.node (o186_28 P) (.node (o314_41 P) (.node (o570_41 P) (.node (o1082_52 P) .nil .nil) .nil) (.node (o826_41 P) (.node (o1338_52 P) .nil .nil) .nil)) (.node (o442_41 P) (.node (o698_41 P) (.node (o1210_52 P) .nil .nil) .nil) (.node (o954_52 P) .nil .nil))) (.node (o250_28 P) (.node (o378_41 P) (.node (o634_41 P) (.node (o1146_52 P) .nil .nil) .nil) (.node (o890_52 P) (.node (o1402_52 P) .nil .nil) .nil)) (.node (o506_41 P) (.node (o762_41 P) (.node (o1274_52 P) .nil .nil) .nil) (.node (o1018_52 P) .nil .nil))))))) (.node (o14_0 P) (.node (o22_6 P) (.node (o38_6 P) (.node (o70_6 P) (.node (o134_28 P) (.node (o262_41 P) (.node (o518_41 P) (.node (o1030_52 P) .nil .nil) .nil) (.node (o774_41 P) (.node (o1286_52 P) .nil .nil) .nil)) (.node (o390_41 P) (.node (o646_41 P) (.node (o1158_52 P) .nil .nil) .nil) (.node (o902_52 P) (.node (o1414_52 P) .nil .nil) .nil))) (.node (o198_28 P) (.node (o326_41 P) (.node (o582_41 P) (.node (o1094_52 P) .nil .nil) .nil) (.node (o838_41 P) (.node (o1350_52 P) .nil .nil) .nil)) (.node (o454_41 P) (.node (o710_41 P) (.node (o1222_52 P) .nil .nil) .nil) (.node (o966_52 P) .nil .nil)))) (.node (o102_28 P) (.node (o166_28 P) (.node (o294_41 P) (.node (o550_41 P) (.node (o1062_52 P) .nil .nil) .nil) (.node (o806_41 P) (.node (o1318_52 P) .nil .nil) .nil)) (.node (o422_41 P) (.node (o678_41 P) (.node (o1190_52 P) .nil .nil) .nil) (.node (o934_52 P) .nil .nil))) (.node (o230_28 P) (.node (o358_41 P) (.node (o614_41 P) (.node (o1126_52 P) .nil .nil) .nil) (.node (o870_52 P) (.node (o1382_52 P) .nil .nil) .nil)) (.node (o486_41 P) (.node (o742_41 P) (.node (o1254_52 P) .nil .nil) .nil) (.node (o998_52 P) .nil .nil))))) (.node (o54_6 P) (.node (o86_28 P) (.node (o150_28 P) (.node (o278_41 P) (.node (o534_41 P) (.node (o1046_52 P) .nil .nil) .nil) (.node (o790_41 P) (.node (o1302_52 P) .nil .nil) .nil)) (.node (o406_41 P) (.node (o662_41 P) (.node (o1174_52 P) .nil .nil) .nil) (.node (o918_52 P) .nil .nil))) (.node (o214_28 P) (.node (o342_41 P) (.node (o598_41 P) (.node (o1110_52 P) .nil .nil) .nil) (.node (o854_41 P) (.node (o1366_52 P) .nil .nil) .nil)) (.node (o470_41 P) (.node (o726_41 P) (.node (o1238_52 P) .nil .nil) .nil) (.node (o982_52 P) .nil .nil)))) (.node (o118_28 P) (.node (o182_28 P) (.node (o310_41 P) (.node (o566_41 P) (.node (o1078_52 P) .nil .nil) .nil) (.node (o822_41 P) (.node (o1334_52 P) .nil .nil) .nil)) (.node (o438_41 P) (.node (o694_41 P) (.node (o1206_52 P) .nil .nil) .nil) (.node (o950_52 P) .nil .nil))) (.node (o246_28 P) (.node (o374_41 P) (.node (o630_41 P) (.node (o1142_52 P) .nil .nil) .nil) (.node (o886_52 P) (.node (o1398_52 P) .nil .nil) .nil)) (.node (o502_41 P) (.node (o758_41 P) (.node (o1270_52 P) .nil .nil) .nil) (.node (o1014_52 P) .nil .nil)))))) (.node (o30_6 P) (.node (o46_6 P) (.node (o78_28 P) (.node (o142_28 P) (.node (o270_41 P) (.node (o526_41 P) (.node (o1038_52 P) .nil .nil) .nil) (.node (o782_41 P) (.node (o1294_52 P) .nil .nil) .nil)) (.node (o398_41 P) (.node (o654_41 P) (.node (o1166_52 P) .nil .nil) .nil) (.node (o910_52 P) (.node (o1422_52 P) .nil .nil) .nil))) (.node (o206_28 P) (.node (o334_41 P) (.node (o590_41 P) (.node (o1102_52 P) .nil .nil) .nil) (.node (o846_41 P) (.node (o1358_52 P) .nil .nil) .nil)) (.node (o462_41 P) (.node (o718_41 P) (.node (o1230_52 P) .nil .nil) .nil) (.node (o974_52 P) .nil .nil)))) (.node (o110_28 P) (.node (o174_28 P) (.node (o302_41 P) (.node (o558_41 P) (.node (o1070_52 P) .nil .nil) .nil) (.node (o814_41 P) (.node (o1326_52 P) .nil .nil) .nil)) (.node (o430_41 P) (.node (o686_41 P) (.node (o1198_52 P) .nil .nil) .nil) (.node (o942_52 P) .nil .nil))) (.node (o238_28 P) (.node (o366_41 P) (.node (o622_41 P) (.node (o1134_52 P) .nil .nil) .nil) (.node (o878_52 P) (.node (o1390_52 P) .nil .nil) .nil)) (.node (o494_41 P) (.node (o750_41 P) (.node (o1262_52 P) .nil .nil) .nil) (.node (o1006_52 P) .nil .nil))))) (.node (o62_6 P) (.node (o94_28 P) (.node (o158_28 P) (.node (o286_41 P) (.node (o542_41 P) (.node (o1054_52 P) .nil .nil) .nil) (.node (o798_41 P) (.node (o1310_52 P) .nil .nil) .nil)) (.node (o414_41 P) (.node (o670_41 P) (.node (o1182_52 P) .nil .nil) .nil) (.node (o926_52 P) .nil .nil))) (.node (o222_28 P) (.node (o350_41 P) (.node (o606_41 P) (.node (o1118_52 P) .nil .nil) .nil) (.node (o862_52 P) (.node (o1374_52 P) .nil .nil) .nil)) (.node (o478_41 P) (.node (o734_41 P) (.node (o1246_52 P) .nil .nil) .nil) (.node (o990_52 P) .nil .nil)))) (.node (o126_28 P) (.node (o190_28 P) (.node (o318_41 P) (.node (o574_41 P) (.node (o1086_52 P) .nil .nil) .nil) (.node (o830_41 P) (.node (o1342_52 P) .nil .nil) .nil)) (.node (o446_41 P) (.node (o702_41 P) (.node (o1214_52 P) .nil .nil) .nil) (.node (o958_52 P) .nil .nil))) (.node (o254_28 P) (.node (o382_41 P) (.node (o638_41 P) (.node (o1150_52 P) .nil .nil) .nil) (.node (o894_52 P) (.node (o1406_52 P) .nil .nil) .nil)) (.node (o510_41 P) (.node (o766_41 P) (.node (o1278_52 P) .nil .nil) .nil) (.node (o1022_52 P) .nil .nil))))))))))
-- boundary 52: objects 1424 toks 1940 steps so far 11500 pos { line := 840, col := 0, endLine := 840, endCol := 8 } life { } drawn { } gens 0
noncomputable def o3_76 (P : Params) : Obj := ⟨(.type "dict"), none, (.dict #[en P "__name__" 165 (.str (zs "law_ll0046_01") 2283), en P "__doc__" 166 .none, en P "__package__" 167 .none, en P "__loader__" 168 (.builtin "__main__.__loader__#opaque"), en P "__spec__" 169 .none, en P "__annotations__" 170 (.ref 6), en P "__builtins__" 171 (.ref 4), en P "__file__" 173 (.str (zs "/claim/cut.py") 172), en P "__cached__" 174 .none, en P "_wall" 193 (.ref 21), en P "Signs" 249 (.ref 58), en P "cast" 257 (.ref 69), en P "bws_re" 268 (.ref 71), en P "Error" 288 (.ref 86), en P "_ascii_buffer" 296 (.ref 96), en P "_hex_value" 303 (.ref 103), en P "a2b_hex" 316 (.ref 110), en P "unhexlify" 317 (.ref 110), en P "asciihexdecode" 327 (.ref 117), en P "STRICT" 328 (.bool false), en P "PSException" 350 (.ref 127), en P "PDFException" 368 (.ref 140), en P "PDFTypeError" 386 (.ref 152), en P "PDFValueError" 402 (.ref 164), en P "PDFObjectNotFound" 418 (.ref 176), en P "PDFNotImplementedError" 436 (.ref 188), en P "PDFKeyError" 454 (.ref 200), en P "PDFEOFError" 472 (.ref 212), en P "get_bytes" 481 (.ref 221), en P "BitParser" 551 (.ref 262), en P "CCITTG4Parser" 1025 (.ref 693), en P "CCITTFaxDecoder" 1066 (.ref 725), en P "ccittfaxdecode" 1079 (.ref 734), en P "CorruptDataError" 1097 (.ref 744), en P "LZWDecoder" 1157 (.ref 782), en P "_whence" 1167 (.ref 793), en P "_index" 1175 (.ref 800), en P "UnsupportedOperation" 1197 (.ref 810), en P "IOBase" 1229 (.ref 830), en P "BufferedIOBase" 1247 (.ref 845), en P "TextIOBase" 1265 (.ref 857), en P "BytesIO" 1527 (.ref 1087), en P "StringIO" 1814 (.ref 1334), en P "lzwdecode" 1825 (.ref 1343), en P "PSObject" 1847 (.ref 1353), en P "PSLiteral" 1889 (.ref 1388), en P "PSSymbolTable" 1928 (.ref 1414), en P "PSLiteralTable" 1935 (.ref 1420), en P "LIT" 1937 (.ref 1423), en P "rldecode" 1950 (.ref 1430), en P "paeth_predictor" 1965 (.ref 1437), en P "apply_tiff_predictor" 1983 (.ref 1444), en P "apply_png_predictor" 2013 (.ref 1451), en P "LITERAL_CRYPT" 2021 (.ref 1453), en P "LITERALS_LZW_DECODE" 2032 (.ref 1461), en P "LITERALS_ASCIIHEX_DECODE" 2043 (.ref 1468), en P "LITERALS_RUNLENGTH_DECODE" 2054 (.ref 1475), en P "LITERALS_CCITTFAX_DECODE" 2065 (.ref 1482), en P "LITERALS_DCT_DECODE" 2076 (.ref 1489), en P "LITERALS_JBIG2_DECODE" 2082 (.ref 1493), en P "LITERALS_JPX_DECODE" 2088 (.ref 1497), en P "PDFObject" 2104 (.ref 1507), en P "PDFObjRef" 2146 (.ref 1541), en P "resolve1" 2154 (.ref 1551), en P "int_value" 2161 (.ref 1558), en P "PDFStream" 2282 (.ref 1646), en P "_law_digits" 2286 (.bytes #[48, 49, 50, 51, 52, 53, 54, 55, 56, 57, 97, 98, 99, 100, 101, 102, 48, 49, 50, 51, 52, 53, 54, 55, 56, 57, 65, 66, 67, 68, 69, 70] 2285), en P "_law_octet" 2294 (.ref 1655), en P "_law_values" 2304 (.ref 1662), en P "law" 2310 (.ref 1667)] 70), #[]⟩
noncomputable def o12_76 (P : Params) : Obj := ⟨.none, none, (.fields #[(.int 1 0), (.int 0 0), (.ref 20), (.int 5 0), (.int 0 0), (.ref 27), (.int 18 0), (.int 0 0), (.ref 68), (.int 23 0), (.int 0 0), (.ref 82), (.int 25 0), (.int 0 0), (.ref 95), (.int 36 0), (.int 0 0), (.ref 102), (.int 44 0), (.int 0 0), (.ref 109), (.int 61 0), (.int 0 0), (.ref 116), (.int 71 0), (.int 0 0), (.ref 123), (.int 74 0), (.int 0 0), (.ref 136), (.int 76 0), (.int 0 0), (.ref 148), (.int 78 0), (.int 0 0), (.ref 160), (.int 80 0), (.int 0 0), (.ref 172), (.int 82 0), (.int 0 0), (.ref 184), (.int 84 0), (.int 0 0), (.ref 196), (.int 86 0), (.int 0 0), (.ref 208), (.int 89 0), (.int 0 0), (.ref 220), (.int 91 0), (.int 0 0), (.ref 227), (.int 113 0), (.int 0 0), (.ref 272), (.int 304 0), (.int 0 0), (.ref 701), (.int 322 0), (.int 0 0), (.ref 733), (.int 334 0), (.int 0 0), (.ref 740), (.int 336 0), (.int 0 0), (.ref 752), (.int 407 0), (.int 0 0), (.ref 792), (.int 412 0), (.int 0 0), (.ref 799), (.int 419 0), (.int 0 0), (.ref 806), (.int 421 0), (.int 0 0), (.ref 819), (.int 428 0), (.int 0 0), (.ref 841), (.int 430 0), (.int 0 0), (.ref 853), (.int 432 0), (.int 0 0), (.ref 865), (.int 602 0), (.int 0 0), (.ref 1095), (.int 808 0), (.int 0 0), (.ref 1342), (.int 813 0), (.int 0 0), (.ref 1349), (.int 815 0), (.int 0 0), (.ref 1363), (.int 826 0), (.int 0 0), (.ref 1396), (.int 841 0), (.int 0 0), (.ref 1429), (.int 855 0), (.int 0 0), (.ref 1436), (.int 866 0), (.int 0 0), (.ref 1443), (.int 883 0), (.int 0 0), (.ref 1450), (.int 938 0), (.int 0 0), (.ref 1503), (.int 940 0), (.int 0 0), (.ref 1515), (.int 957 0), (.int 0 0), (.ref 1550), (.int 961 0), (.int 0 0), (.ref 1557), (.int 968 0), (.int 0 0), (.ref 1564), (.int 1084 0), (.int 0 0), (.ref 1654), (.int 1093 0), (.int 0 0), (.ref 1661), (.int 1104 0), (.int 0 0), (.ref 1666)]), #[]⟩
noncomputable def o1353_76 (P : Params) : Obj := ⟨(.type "type"), none, (.cls ⟨(zs "PSObject"), [(.type "object")], [(.ref 1353), (.type "object")], 1352, (zs "PSObject"), true, [], [(.ref 1388), (.ref 1507)], false, none, false⟩), #[none, none, some (.str (zs "PSObject") 1828), some (.str (zs "PSObject") 1836), some (.builtin "object.__new__"), some (.bool true)]⟩
noncomputable def o1424_76 (P : Params) : Obj := ⟨(.type "tuple"), none, (.seq #[] 0), #[]⟩
noncomputable def o1425_76 (P : Params) : Obj := ⟨.none, none, (.fields #[]), #[]⟩
noncomputable def o1426_76 (P : Params) : Obj := ⟨(.type "tuple"), none, (.seq #[(.str (zs "data") 1943), (.str (zs "decoded_array") 1944), (.str (zs "length") 1945), (.str (zs "run") 1946)] 0), #[]⟩
noncomputable def o1427_76 (P : Params) : Obj := ⟨(.type "tuple"), none, (.seq #[(.str (zs "data_iter") 1947)] 0), #[]⟩
noncomputable def o1428_76 (P : Params) : Obj := ⟨.none, none, (.func (fd (st 52) (zs "rldecode") 0 .none .none .none .none none .none .none 0)), #[]⟩
noncomputable def o1429_76 (P : Params) : Obj := ⟨(.type "code"), none, (.fields #[(.str (zs "rldecode") 1940), (.str (zs "rldecode") 1941), (.str (zs "/claim/cut.py") 1942), (.int 841 0), (.int 1 0), (.int 0 0), (.int 0 0), (.int 3 0), (.ref 1424), (.bool true), (.int 181 0), (.ref 1425), .none, (.ref 1426), (.ref 1427), (.ref 1428), (.int 1948 0), (.int 841 0), (.str (zs "/claim/cut.py") 1949)]), #[]⟩
noncomputable def o1430_76 (P : Params) : Obj := ⟨(.type "function"), none, (.func (fd (st 52) (zs "rldecode") 3 .none .none .none (.str (zs "pdfminer.runlength") 1938) none (.ref 1429) .none 0)), #[]⟩
noncomputable def o1431_76 (P : Params) : Obj := ⟨(.type "tuple"), none, (.seq #[] 0), #[]⟩
noncomputable def o1432_76 (P : Params) : Obj := ⟨.none, none, (.fields #[]), #[]⟩
noncomputable def o1433_76 (P : Params) : Obj := ⟨(.type "tuple"), none, (.seq #[(.str (zs "left") 1956), (.str (zs "above") 1957), (.str (zs "upper_left") 1958), (.str (zs "p") 1959), (.str (zs "pa") 1960), (.str (zs "pb") 1961), (.str (zs "pc") 1962)] 0), #[]⟩
noncomputable def o1434_76 (P : Params) : Obj := ⟨(.type "tuple"), none, (.seq #[] 0), #[]⟩
noncomputable def o1435_76 (P : Params) : Obj := ⟨.none, none, (.func (fd (st 54) (zs "paeth_predictor") 0 .none .none .none .none none .none .none 0)), #[]⟩
noncomputable def o1436_76 (P : Params) : Obj := ⟨(.type "code"), none, (.fields #[(.str (zs "paeth_predictor") 1953), (.str (zs "paeth_predictor") 1954), (.str (zs "/claim/cut.py") 1955), (.int 855 0), (.int 3 0), (.int 0 0), (.int 0 0), (.int 3 0), (.ref 1431), (.bool true), (.int 181 0), (.ref 1432), .none, (.ref 1433), (.ref 1434), (.ref 1435), (.int 1963 0), (.int 855 0), (.str (zs "/claim/cut.py") 1964)]), #[]⟩
noncomputable def o1437_76 (P : Params) : Obj := ⟨(.type "function"), none, (.func (fd (st 54) (zs "paeth_predictor") 3 .none .none .none (.str (zs "pdfminer.utils") 1951) none (.ref 1436) .none 0)), #[]⟩
noncomputable def o1438_76 (P : Params) : Obj := ⟨(.type "tuple"), none, (.seq #[] 0), #[]⟩
noncomputable def o1439_76 (P : Params) : Obj := ⟨.none, none, (.fields #[]), #[]⟩
noncomputable def o1440_76 (P : Params) : Obj := ⟨(.type "tuple"), none, (.seq #[(.str (zs "colors") 1969), (.str (zs "columns") 1970), (.str (zs "bitspercomponent") 1971), (.str (zs "data") 1972), (.str (zs "error_msg") 1973), (.str (zs "bpp") 1974), (.str (zs "nbytes") 1975), (.str (zs "buf") 1976), (.str (zs "scanline_i") 1977), (.str (zs "raw") 1978), (.str (zs "i") 1979), (.str (zs "new_value") 1980)] 0), #[]⟩
noncomputable def o1441_76 (P : Params) : Obj := ⟨(.type "tuple"), none, (.seq #[] 0), #[]⟩
noncomputable def o1442_76 (P : Params) : Obj := ⟨.none, none, (.func (fd (st 55) (zs "apply_tiff_predictor") 0 .none .none .none .none none .none .none 0)), #[]⟩
noncomputable def o1443_76 (P : Params) : Obj := ⟨(.type "code"), none, (.fields #[(.str (zs "apply_tiff_predictor") 1966), (.str (zs "apply_tiff_predictor") 1967), (.str (zs "/claim/cut.py") 1968), (.int 866 0), (.int 4 0), (.int 0 0), (.int 0 0), (.int 3 0), (.ref 1438), (.bool true), (.int 181 0), (.ref 1439), .none, (.ref 1440), (.ref 1441), (.ref 1442), (.int 1981 0), (.int 866 0), (.str (zs "/claim/cut.py") 1982)]), #[]⟩
noncomputable def o1444_76 (P : Params) : Obj := ⟨(.type "function"), none, (.func (fd (st 55) (zs "apply_tiff_predictor") 3 .none .none .none (.str (zs "pdfminer.utils") 1951) none (.ref 1443) .none 0)), #[]⟩
noncomputable def o1445_76 (P : Params) : Obj := ⟨(.type "tuple"), none, (.seq #[] 0), #[]⟩
noncomputable def o1446_76 (P : Params) : Obj := ⟨.none, none, (.fields #[]), #[]⟩
noncomputable def o1447_76 (P : Params) : Obj := ⟨(.type "tuple"), none, (.seq #[(.str (zs "pred") 1987), (.str (zs "colors") 1988), (.str (zs "columns") 1989), (.str (zs "bitspercomponent") 1990), (.str (zs "data") 1991), (.str (zs "msg") 1992), (.str (zs "nbytes") 1993), (.str (zs "bpp") 1994), (.str (zs "buf") 1995), (.str (zs "line_above") 1996), (.str (zs "scanline_i") 1997), (.str (zs "filter_type") 1998), (.str (zs "line_encoded") 1999), (.str (zs "raw") 2000), (.str (zs "j") 2001), (.str (zs "sub_x") 2002), (.str (zs "raw_x_bpp") 2003), (.str (zs "raw_x") 2004), (.str (zs "up_x") 2005), (.str (zs "prior_x") 2006), (.str (zs "average_x") 2007), (.str (zs "paeth_x") 2008), (.str (zs "prior_x_bpp") 2009), (.str (zs "paeth") 2010)] 0), #[]⟩
noncomputable def o1448_76 (P : Params) : Obj := ⟨(.type "tuple"), none, (.seq #[] 0), #[]⟩
noncomputable def o1449_76 (P : Params) : Obj := ⟨.none, none, (.func (fd (st 56) (zs "apply_png_predictor") 0 .none .none .none .none none .none .none 0)), #[]⟩
noncomputable def o1450_76 (P : Params) : Obj := ⟨(.type "code"), none, (.fields #[(.str (zs "apply_png_predictor") 1984), (.str (zs "apply_png_predictor") 1985), (.str (zs "/claim/cut.py") 1986), (.int 883 0), (.int 5 0), (.int 0 0), (.int 0 0), (.int 3 0), (.ref 1445), (.bool true), (.int 181 0), (.ref 1446), .none, (.ref 1447), (.ref 1448), (.ref 1449), (.int 2011 0), (.int 883 0), (.str (zs "/claim/cut.py") 2012)]), #[]⟩
noncomputable def o1451_76 (P : Params) : Obj := ⟨(.type "function"), none, (.func (fd (st 56) (zs "apply_png_predictor") 3 .none .none .none (.str (zs "pdfminer.utils") 1951) none (.ref 1450) .none 0)), #[]⟩
noncomputable def o1452_76 (P : Params) : Obj := ⟨(.type "dict"), none, (.dict #[en P "name" 2020 (.str (zs "Crypt") 2016)] 1), #[]⟩
noncomputable def o1453_76 (P : Params) : Obj := ⟨(.ref 1388), (some 1452), .plain, #[]⟩
noncomputable def o1454_76 (P : Params) : Obj := ⟨(.type "frame"), none, (.dict #[en P "self" 2017 (.ref 1453), en P "name" 2018 (.str (zs "Crypt") 2016)] 2), #[]⟩
noncomputable def o1455_76 (P : Params) : Obj := ⟨(.type "dict"), none, (.dict #[en P "name" 2026 (.str (zs "LZWDecode") 2022)] 1), #[]⟩
noncomputable def o1456_76 (P : Params) : Obj := ⟨(.ref 1388), (some 1455), .plain, #[]⟩
noncomputable def o1457_76 (P : Params) : Obj := ⟨(.type "frame"), none, (.dict #[en P "self" 2023 (.ref 1456), en P "name" 2024 (.str (zs "LZWDecode") 2022)] 2), #[]⟩
noncomputable def o1458_76 (P : Params) : Obj := ⟨(.type "dict"), none, (.dict #[en P "name" 2031 (.str (zs "LZW") 2027)] 1), #[]⟩
noncomputable def o1459_76 (P : Params) : Obj := ⟨(.ref 1388), (some 1458), .plain, #[]⟩
noncomputable def o1460_76 (P : Params) : Obj := ⟨(.type "frame"), none, (.dict #[en P "self" 2028 (.ref 1459), en P "name" 2029 (.str (zs "LZW") 2027)] 2), #[]⟩
noncomputable def o1461_76 (P : Params) : Obj := ⟨(.type "tuple"), none, (.seq #[(.ref 1456), (.ref 1459)] 0), #[]⟩
noncomputable def o1462_76 (P : Params) : Obj := ⟨(.type "dict"), none, (.dict #[en P "name" 2037 (.str (zs "ASCIIHexDecode") 2033)] 1), #[]⟩
noncomputable def o1463_76 (P : Params) : Obj := ⟨(.ref 1388), (some 1462), .plain, #[]⟩
noncomputable def o1464_76 (P : Params) : Obj := ⟨(.type "frame"), none, (.dict #[en P "self" 2034 (.ref 1463), en P "name" 2035 (.str (zs "ASCIIHexDecode") 2033)] 2), #[]⟩
noncomputable def o1465_76 (P : Params) : Obj := ⟨(.type "dict"), none, (.dict #[en P "name" 2042 (.str (zs "AHx") 2038)] 1), #[]⟩
noncomputable def o1466_76 (P : Params) : Obj := ⟨(.ref 1388), (some 1465), .plain, #[]⟩
noncomputable def o1467_76 (P : Params) : Obj := ⟨(.type "frame"), none, (.dict #[en P "self" 2039 (.ref 1466), en P "name" 2040 (.str (zs "AHx") 2038)] 2), #[]⟩
noncomputable def o1468_76 (P : Params) : Obj := ⟨(.type "tuple"), none, (.seq #[(.ref 1463), (.ref 1466)] 0), #[]⟩
noncomputable def o1469_76 (P : Params) : Obj := ⟨(.type "dict"), none, (.dict #[en P "name" 2048 (.str (zs "RunLengthDecode") 2044)] 1), #[]⟩
noncomputable def o1470_76 (P : Params) : Obj := ⟨(.ref 1388), (some 1469), .plain, #[]⟩
noncomputable def o1471_76 (P : Params) : Obj := ⟨(.type "frame"), none, (.dict #[en P "self" 2045 (.ref 1470), en P "name" 2046 (.str (zs "RunLengthDecode") 2044)] 2), #[]⟩
noncomputable def o1472_76 (P : Params) : Obj := ⟨(.type "dict"), none, (.dict #[en P "name" 2053 (.str (zs "RL") 2049)] 1), #[]⟩
noncomputable def o1473_76 (P : Params) : Obj := ⟨(.ref 1388), (some 1472), .plain, #[]⟩
noncomputable def o1474_76 (P : Params) : Obj := ⟨(.type "frame"), none, (.dict #[en P "self" 2050 (.ref 1473), en P "name" 2051 (.str (zs "RL") 2049)] 2), #[]⟩
noncomputable def o1475_76 (P : Params) : Obj := ⟨(.type "tuple"), none, (.seq #[(.ref 1470), (.ref 1473)] 0), #[]⟩
noncomputable def o1476_76 (P : Params) : Obj := ⟨(.type "dict"), none, (.dict #[en P "name" 2059 (.str (zs "CCITTFaxDecode") 2055)] 1), #[]⟩
noncomputable def o1477_76 (P : Params) : Obj := ⟨(.ref 1388), (some 1476), .plain, #[]⟩
noncomputable def o1478_76 (P : Params) : Obj := ⟨(.type "frame"), none, (.dict #[en P "self" 2056 (.ref 1477), en P "name" 2057 (.str (zs "CCITTFaxDecode") 2055)] 2), #[]⟩
noncomputable def o1479_76 (P : Params) : Obj := ⟨(.type "dict"), none, (.dict #[en P "name" 2064 (.str (zs "CCF") 2060)] 1), #[]⟩
noncomputable def o1480_76 (P : Params) : Obj := ⟨(.ref 1388), (some 1479), .plain, #[]⟩
noncomputable def o1481_76 (P : Params) : Obj := ⟨(.type "frame"), none, (.dict #[en P "self" 2061 (.ref 1480), en P "name" 2062 (.str (zs "CCF") 2060)] 2), #[]⟩
noncomputable def o1482_76 (P : Params) : Obj := ⟨(.type "tuple"), none, (.seq #[(.ref 1477), (.ref 1480)] 0), #[]⟩
noncomputable def o1483_76 (P : Params) : Obj := ⟨(.type "dict"), none, (.dict #[en P "name" 2070 (.str (zs "DCTDecode") 2066)] 1), #[]⟩
noncomputable def o1484_76 (P : Params) : Obj := ⟨(.ref 1388), (some 1483), .plain, #[]⟩
noncomputable def o1485_76 (P : Params) : Obj := ⟨(.type "frame"), none, (.dict #[en P "self" 2067 (.ref 1484), en P "name" 2068 (.str (zs "DCTDecode") 2066)] 2), #[]⟩
noncomputable def o1486_76 (P : Params) : Obj := ⟨(.type "dict"), none, (.dict #[en P "name" 2075 (.str (zs "DCT") 2071)] 1), #[]⟩
noncomputable def o1487_76 (P : Params) : Obj := ⟨(.ref 1388), (some 1486), .plain, #[]⟩
noncomputable def o1488_76 (P : Params) : Obj := ⟨(.type "frame"), none, (.dict #[en P "self" 2072 (.ref 1487), en P "name" 2073 (.str (zs "DCT") 2071)] 2), #[]⟩
noncomputable def o1489_76 (P : Params) : Obj := ⟨(.type "tuple"), none, (.seq #[(.ref 1484), (.ref 1487)] 0), #[]⟩
noncomputable def o1490_76 (P : Params) : Obj := ⟨(.type "dict"), none, (.dict #[en P "name" 2081 (.str (zs "JBIG2Decode") 2077)] 1), #[]⟩
noncomputable def o1491_76 (P : Params) : Obj := ⟨(.ref 1388), (some 1490), .plain, #[]⟩
noncomputable def o1492_76 (P : Params) : Obj := ⟨(.type "frame"), none, (.dict #[en P "self" 2078 (.ref 1491), en P "name" 2079 (.str (zs "JBIG2Decode") 2077)] 2), #[]⟩
noncomputable def o1493_76 (P : Params) : Obj := ⟨(.type "tuple"), none, (.seq #[(.ref 1491)] 0), #[]⟩
noncomputable def o1494_76 (P : Params) : Obj := ⟨(.type "dict"), none, (.dict #[en P "name" 2087 (.str (zs "JPXDecode") 2083)] 1), #[]⟩
noncomputable def o1495_76 (P : Params) : Obj := ⟨(.ref 1388), (some 1494), .plain, #[]⟩
noncomputable def o1496_76 (P : Params) : Obj := ⟨(.type "frame"), none, (.dict #[en P "self" 2084 (.ref 1495), en P "name" 2085 (.str (zs "JPXDecode") 2083)] 2), #[]⟩
noncomputable def o1497_76 (P : Params) : Obj := ⟨(.type "tuple"), none, (.seq #[(.ref 1495)] 0), #[]⟩
noncomputable def o1498_76 (P : Params) : Obj := ⟨(.type "tuple"), none, (.seq #[(.ref 1353)] 0), #[]⟩
noncomputable def o1499_76 (P : Params) : Obj := ⟨(.type "builtin_function_or_method"), none, (.fields #[(.builtin "type.__prepare__"), (.type "type")]), #[]⟩
noncomputable def o1500_76 (P : Params) : Obj := ⟨(.type "dict"), none, (.dict #[en P "__module__" 2096 (.str (zs "pdfminer.pdftypes") 2014), en P "__qualname__" 2098 (.str (zs "PDFObject") 2097), en P "__firstlineno__" 2100 (.int 938 2099), en P "__static_attributes__" 2101 (.ref 1505)] 4), #[]⟩
noncomputable def o1501_76 (P : Params) : Obj := ⟨(.type "tuple"), none, (.seq #[] 0), #[]⟩
noncomputable def o1502_76 (P : Params) : Obj := ⟨.none, none, (.fields #[]), #[]⟩
noncomputable def o1503_76 (P : Params) : Obj := ⟨(.type "code"), none, (.fields #[(.str (zs "PDFObject") 2091), (.str (zs "PDFObject") 2092), (.str (zs "/claim/cut.py") 2093), (.int 938 0), (.int 0 0), (.int 0 0), (.int 0 0), (.int 0 0), (.ref 1501), (.bool false), (.int 181 0), (.ref 1502), .none, .none, .none, .none, (.int 2094 0), (.int 938 0), (.str (zs "/claim/cut.py") 2095)]), #[]⟩
noncomputable def o1504_76 (P : Params) : Obj := ⟨(.type "frame"), none, .plain, #[some (.ref 1503), some (.ref 3), some (.ref 1500), none, some (.str (zs "pdfminer.pdftypes") 2014), none, some (.ref 0)]⟩
noncomputable def o1505_76 (P : Params) : Obj := ⟨(.type "tuple"), none, (.seq #[] 0), #[]⟩
noncomputable def o1506_76 (P : Params) : Obj := ⟨(.type "dict"), none, (.dict #[en P "__module__" 2096 (.str (zs "pdfminer.pdftypes") 2014), en P "__firstlineno__" 2100 (.int 938 2099), en P "__static_attributes__" 2101 (.ref 1505), en P "__doc__" 2102 .none] 2), #[]⟩
noncomputable def o1507_76 (P : Params) : Obj := ⟨(.type "type"), none, (.cls ⟨(zs "PDFObject"), [(.ref 1353)], [(.ref 1507), (.ref 1353), (.type "object")], 1506, (zs "PDFObject"), true, [], [(.ref 1541), (.ref 1646)], false, none, false⟩), #[some (.ref 1498), none, some (.str (zs "PDFObject") 2089), some (.str (zs "PDFObject") 2097), some (.builtin "object.__new__"), some (.bool true)]⟩
noncomputable def o1508_76 (P : Params) : Obj := ⟨(.type "super"), none, (.fields #[(.ref 1507), (.ref 1507), (.ref 1507)]), #[]⟩
noncomputable def o1509_76 (P : Params) : Obj := ⟨(.type "builtin_function_or_method"), none, (.fields #[(.builtin "object.__init_subclass__"), (.ref 1507)]), #[]⟩
noncomputable def o1510_76 (P : Params) : Obj := ⟨(.type "tuple"), none, (.seq #[(.ref 1507)] 0), #[]⟩
noncomputable def o1511_76 (P : Params) : Obj := ⟨(.type "builtin_function_or_method"), none, (.fields #[(.builtin "type.__prepare__"), (.type "type")]), #[]⟩
noncomputable def o1512_76 (P : Params) : Obj := ⟨(.type "dict"), none, (.dict #[en P "__module__" 2112 (.str (zs "pdfminer.pdftypes") 2014), en P "__qualname__" 2114 (.str (zs "PDFObjRef") 2113), en P "__firstlineno__" 2116 (.int 940 2115), en P "__init__" 2125 (.ref 1523), en P "__repr__" 2132 (.ref 1530), en P "resolve" 2140 (.ref 1538), en P "__static_attributes__" 2143 (.ref 1539)] 7), #[]⟩
noncomputable def o1513_76 (P : Params) : Obj := ⟨(.type "tuple"), none, (.seq #[] 0), #[]⟩
noncomputable def o1514_76 (P : Params) : Obj := ⟨.none, none, (.fields #[(.int 942 0), (.int 4 0), (.ref 1522), (.int 948 0), (.int 4 0), (.ref 1529), (.int 951 0), (.int 4 0), (.ref 1537)]), #[]⟩
noncomputable def o1515_76 (P : Params) : Obj := ⟨(.type "code"), none, (.fields #[(.str (zs "PDFObjRef") 2107), (.str (zs "PDFObjRef") 2108), (.str (zs "/claim/cut.py") 2109), (.int 940 0), (.int 0 0), (.int 0 0), (.int 0 0), (.int 0 0), (.ref 1513), (.bool false), (.int 181 0), (.ref 1514), .none, .none, .none, .none, (.int 2110 0), (.int 940 0), (.str (zs "/claim/cut.py") 2111)]), #[]⟩
noncomputable def o1516_76 (P : Params) : Obj := ⟨(.type "frame"), none, .plain, #[some (.ref 1515), some (.ref 3), some (.ref 1512), none, some (.str (zs "pdfminer.pdftypes") 2014), none, some (.ref 0)]⟩
noncomputable def o1517_76 (P : Params) : Obj := ⟨(.type "tuple"), none, (.seq #[] 0), #[]⟩
noncomputable def o1518_76 (P : Params) : Obj := ⟨.none, none, (.fields #[]), #[]⟩
noncomputable def o1519_76 (P : Params) : Obj := ⟨(.type "tuple"), none, (.seq #[(.str (zs "self") 2120), (.str (zs "doc") 2121), (.str (zs "objid") 2122)] 0), #[]⟩
noncomputable def o1520_76 (P : Params) : Obj := ⟨(.type "tuple"), none, (.seq #[] 0), #[]⟩
noncomputable def o1521_76 (P : Params) : Obj := ⟨.none, none, (.func (fd (sc 67 0) (zs "PDFObjRef.__init__") 0 .none .none .none .none none .none .none 0)), #[]⟩
noncomputable def o1522_76 (P : Params) : Obj := ⟨(.type "code"), none, (.fields #[(.str (zs "__init__") 2117), (.str (zs "PDFObjRef.__init__") 2118), (.str (zs "/claim/cut.py") 2119), (.int 942 0), (.int 3 0), (.int 0 0), (.int 0 0), (.int 3 0), (.ref 1517), (.bool true), (.int 181 0), (.ref 1518), .none, (.ref 1519), (.ref 1520), (.ref 1521), (.int 2123 0), (.int 942 0), (.str (zs "/claim/cut.py") 2124)]), #[]⟩
noncomputable def o1523_76 (P : Params) : Obj := ⟨(.type "function"), none, (.func (fd (sc 67 0) (zs "PDFObjRef.__init__") 3 .none .none .none (.str (zs "pdfminer.pdftypes") 2014) none (.ref 1522) .none 0)), #[]⟩
noncomputable def o1524_76 (P : Params) : Obj := ⟨(.type "tuple"), none, (.seq #[] 0), #[]⟩
noncomputable def o1525_76 (P : Params) : Obj := ⟨.none, none, (.fields #[]), #[]⟩
noncomputable def o1526_76 (P : Params) : Obj := ⟨(.type "tuple"), none, (.seq #[(.str (zs "self") 2129)] 0), #[]⟩
noncomputable def o1527_76 (P : Params) : Obj := ⟨(.type "tuple"), none, (.seq #[] 0), #[]⟩
noncomputable def o1528_76 (P : Params) : Obj := ⟨.none, none, (.func (fd (sc 67 1) (zs "PDFObjRef.__repr__") 0 .none .none .none .none none .none .none 0)), #[]⟩
noncomputable def o1529_76 (P : Params) : Obj := ⟨(.type "code"), none, (.fields #[(.str (zs "__repr__") 2126), (.str (zs "PDFObjRef.__repr__") 2127), (.str (zs "/claim/cut.py") 2128), (.int 948 0), (.int 1 0), (.int 0 0), (.int 0 0), (.int 3 0), (.ref 1524), (.bool true), (.int 181 0), (.ref 1525), .none, (.ref 1526), (.ref 1527), (.ref 1528), (.int 2130 0), (.int 948 0), (.str (zs "/claim/cut.py") 2131)]), #[]⟩
noncomputable def o1530_76 (P : Params) : Obj := ⟨(.type "function"), none, (.func (fd (sc 67 1) (zs "PDFObjRef.__repr__") 3 .none .none .none (.str (zs "pdfminer.pdftypes") 2014) none (.ref 1529) .none 0)), #[]⟩
noncomputable def o1531_76 (P : Params) : Obj := ⟨(.type "tuple"), none, (.seq #[.none] 0), #[]⟩
noncomputable def o1532_76 (P : Params) : Obj := ⟨(.type "tuple"), none, (.seq #[] 0), #[]⟩
noncomputable def o1533_76 (P : Params) : Obj := ⟨.none, none, (.fields #[]), #[]⟩
noncomputable def o1534_76 (P : Params) : Obj := ⟨(.type "tuple"), none, (.seq #[(.str (zs "self") 2136), (.str (zs "default") 2137)] 0), #[]⟩
noncomputable def o1535_76 (P : Params) : Obj := ⟨(.type "tuple"), none, (.seq #[] 0), #[]⟩
noncomputable def o1536_76 (P : Params) : Obj := ⟨.none, none, (.func (fd (sc 67 2) (zs "PDFObjRef.resolve") 0 .none .none .none .none none .none .none 0)), #[]⟩
noncomputable def o1537_76 (P : Params) : Obj := ⟨(.type "code"), none, (.fields #[(.str (zs "resolve") 2133), (.str (zs "PDFObjRef.resolve") 2134), (.str (zs "/claim/cut.py") 2135), (.int 951 0), (.int 2 0), (.int 0 0), (.int 0 0), (.int 3 0), (.ref 1532), (.bool true), (.int 181 0), (.ref 1533), .none, (.ref 1534), (.ref 1535), (.ref 1536), (.int 2138 0), (.int 951 0), (.str (zs "/claim/cut.py") 2139)]), #[]⟩
noncomputable def o1538_76 (P : Params) : Obj := ⟨(.type "function"), none, (.func (fd (sc 67 2) (zs "PDFObjRef.resolve") 3 (.ref 1531) .none .none (.str (zs "pdfminer.pdftypes") 2014) none (.ref 1537) .none 0)), #[]⟩
noncomputable def o1539_76 (P : Params) : Obj := ⟨(.type "tuple"), none, (.seq #[(.str (zs "doc") 2141), (.str (zs "objid") 2142)] 0), #[]⟩
noncomputable def o1540_76 (P : Params) : Obj := ⟨(.type "dict"), none, (.dict #[en P "__module__" 2112 (.str (zs "pdfminer.pdftypes") 2014), en P "__firstlineno__" 2116 (.int 940 2115), en P "__init__" 2125 (.ref 1523), en P "__repr__" 2132 (.ref 1530), en P "resolve" 2140 (.ref 1538), en P "__static_attributes__" 2143 (.ref 1539), en P "__doc__" 2144 .none] 2), #[]⟩
noncomputable def o1541_76 (P : Params) : Obj := ⟨(.type "type"), none, (.cls ⟨(zs "PDFObjRef"), [(.ref 1507)], [(.ref 1541), (.ref 1507), (.ref 1353), (.type "object")], 1540, (zs "PDFObjRef"), true, [], [], false, none, false⟩), #[some (.ref 1510), none, some (.str (zs "PDFObjRef") 2105), some (.str (zs "PDFObjRef") 2113), some (.builtin "object.__new__"), some (.bool true)]⟩
noncomputable def o1542_76 (P : Params) : Obj := ⟨(.type "super"), none, (.fields #[(.ref 1541), (.ref 1541), (.ref 1541)]), #[]⟩
noncomputable def o1543_76 (P : Params) : Obj := ⟨(.type "builtin_function_or_method"), none, (.fields #[(.builtin "object.__init_subclass__"), (.ref 1541)]), #[]⟩
noncomputable def o1544_76 (P : Params) : Obj := ⟨(.type "tuple"), none, (.seq #[.none] 0), #[]⟩
noncomputable def o1545_76 (P : Params) : Obj := ⟨(.type "tuple"), none, (.seq #[] 0), #[]⟩
noncomputable def o1546_76 (P : Params) : Obj := ⟨.none, none, (.fields #[]), #[]⟩
noncomputable def o1547_76 (P : Params) : Obj := ⟨(.type "tuple"), none, (.seq #[(.str (zs "x") 2150), (.str (zs "default") 2151)] 0), #[]⟩
noncomputable def o1548_76 (P : Params) : Obj := ⟨(.type "tuple"), none, (.seq #[] 0), #[]⟩
noncomputable def o1549_76 (P : Params) : Obj := ⟨.none, none, (.func (fd (st 68) (zs "resolve1") 0 .none .none .none .none none .none .none 0)), #[]⟩
noncomputable def o1550_76 (P : Params) : Obj := ⟨(.type "code"), none, (.fields #[(.str (zs "resolve1") 2147), (.str (zs "resolve1") 2148), (.str (zs "/claim/cut.py") 2149), (.int 957 0), (.int 2 0), (.int 0 0), (.int 0 0), (.int 3 0), (.ref 1545), (.bool true), (.int 181 0), (.ref 1546), .none, (.ref 1547), (.ref 1548), (.ref 1549), (.int 2152 0), (.int 957 0), (.str (zs "/claim/cut.py") 2153)]), #[]⟩
noncomputable def o1551_76 (P : Params) : Obj := ⟨(.type "function"), none, (.func (fd (st 68) (zs "resolve1") 3 (.ref 1544) .none .none (.str (zs "pdfminer.pdftypes") 2014) none (.ref 1550) .none 0)), #[]⟩
noncomputable def o1552_76 (P : Params) : Obj := ⟨(.type "tuple"), none, (.seq #[] 0), #[]⟩
noncomputable def o1553_76 (P : Params) : Obj := ⟨.none, none, (.fields #[]), #[]⟩
noncomputable def o1554_76 (P : Params) : Obj := ⟨(.type "tuple"), none, (.seq #[(.str (zs "x") 2158)] 0), #[]⟩
noncomputable def o1555_76 (P : Params) : Obj := ⟨(.type "tuple"), none, (.seq #[] 0), #[]⟩
noncomputable def o1556_76 (P : Params) : Obj := ⟨.none, none, (.func (fd (st 69) (zs "int_value") 0 .none .none .none .none none .none .none 0)), #[]⟩
noncomputable def o1557_76 (P : Params) : Obj := ⟨(.type "code"), none, (.fields #[(.str (zs "int_value") 2155), (.str (zs "int_value") 2156), (.str (zs "/claim/cut.py") 2157), (.int 961 0), (.int 1 0), (.int 0 0), (.int 0 0), (.int 3 0), (.ref 1552), (.bool true), (.int 181 0), (.ref 1553), .none, (.ref 1554), (.ref 1555), (.ref 1556), (.int 2159 0), (.int 961 0), (.str (zs "/claim/cut.py") 2160)]), #[]⟩
noncomputable def o1558_76 (P : Params) : Obj := ⟨(.type "function"), none, (.func (fd (st 69) (zs "int_value") 3 .none .none .none (.str (zs "pdfminer.pdftypes") 2014) none (.ref 1557) .none 0)), #[]⟩
noncomputable def o1559_76 (P : Params) : Obj := ⟨(.type "tuple"), none, (.seq #[(.ref 1507)] 0), #[]⟩
noncomputable def o1560_76 (P : Params) : Obj := ⟨(.type "builtin_function_or_method"), none, (.fields #[(.builtin "type.__prepare__"), (.type "type")]), #[]⟩
noncomputable def o1561_76 (P : Params) : Obj := ⟨(.type "dict"), none, (.dict #[en P "__module__" 2169 (.str (zs "pdfminer.pdftypes") 2014), en P "__qualname__" 2171 (.str (zs "PDFStream") 2170), en P "__firstlineno__" 2173 (.int 968 2172), en P "__init__" 2183 (.ref 1573), en P "set_objid" 2192 (.ref 1580), en P "__repr__" 2199 (.ref 1587), en P "__contains__" 2207 (.ref 1594), en P "__getitem__" 2216 (.ref 1601), en P "get" 2225 (.ref 1609), en P "get_any" 2235 (.ref 1617), en P "get_filters" 2241 (.ref 1622), en P "decode" 2258 (.ref 1629), en P "get_data" 2265 (.ref 1636), en P "get_rawdata" 2272 (.ref 1643), en P "__static_attributes__" 2279 (.ref 1644)] 15), #[]⟩
noncomputable def o1562_76 (P : Params) : Obj := ⟨(.type "tuple"), none, (.seq #[] 0), #[]⟩
noncomputable def o1563_76 (P : Params) : Obj := ⟨.none, none, (.fields #[(.int 970 0), (.int 4 0), (.ref 1572), (.int 979 0), (.int 4 0), (.ref 1579), (.int 982 0), (.int 4 0), (.ref 1586), (.int 990 0), (.int 4 0), (.ref 1593), (.int 993 0), (.int 4 0), (.ref 1600), (.int 999 0), (.int 4 0), (.ref 1608), (.int 1002 0), (.int 4 0), (.ref 1616), (.int 1008 0), (.int 4 0), (.ref 1621), (.int 1023 0), (.int 4 0), (.ref 1628), (.int 1074 0), (.int 4 0), (.ref 1635), (.int 1080 0), (.int 4 0), (.ref 1642)]), #[]⟩
noncomputable def o1564_76 (P : Params) : Obj := ⟨(.type "code"), none, (.fields #[(.str (zs "PDFStream") 2164), (.str (zs "PDFStream") 2165), (.str (zs "/claim/cut.py") 2166), (.int 968 0), (.int 0 0), (.int 0 0), (.int 0 0), (.int 0 0), (.ref 1562), (.bool false), (.int 181 0), (.ref 1563), .none, .none, .none, .none, (.int 2167 0), (.int 968 0), (.str (zs "/claim/cut.py") 2168)]), #[]⟩
noncomputable def o1565_76 (P : Params) : Obj := ⟨(.type "frame"), none, .plain, #[some (.ref 1564), some (.ref 3), some (.ref 1561), none, some (.str (zs "pdfminer.pdftypes") 2014), none, some (.ref 0)]⟩
noncomputable def o1566_76 (P : Params) : Obj := ⟨(.type "tuple"), none, (.seq #[.none] 0), #[]⟩
noncomputable def o1567_76 (P : Params) : Obj := ⟨(.type "tuple"), none, (.seq #[] 0), #[]⟩
noncomputable def o1568_76 (P : Params) : Obj := ⟨.none, none, (.fields #[]), #[]⟩
noncomputable def o1569_76 (P : Params) : Obj := ⟨(.type "tuple"), none, (.seq #[(.str (zs "self") 2177), (.str (zs "attrs") 2178), (.str (zs "rawdata") 2179), (.str (zs "decipher") 2180)] 0), #[]⟩
noncomputable def o1570_76 (P : Params) : Obj := ⟨(.type "tuple"), none, (.seq #[] 0), #[]⟩
noncomputable def o1571_76 (P : Params) : Obj := ⟨.none, none, (.func (fd (sc 70 0) (zs "PDFStream.__init__") 0 .none .none .none .none none .none .none 0)), #[]⟩
noncomputable def o1572_76 (P : Params) : Obj := ⟨(.type "code"), none, (.fields #[(.str (zs "__init__") 2174), (.str (zs "PDFStream.__init__") 2175), (.str (zs "/claim/cut.py") 2176), (.int 970 0), (.int 4 0), (.int 0 0), (.int 0 0), (.int 3 0), (.ref 1567), (.bool true), (.int 181 0), (.ref 1568), .none, (.ref 1569), (.ref 1570), (.ref 1571), (.int 2181 0), (.int 970 0), (.str (zs "/claim/cut.py") 2182)]), #[]⟩
noncomputable def o1573_76 (P : Params) : Obj := ⟨(.type "function"), none, (.func (fd (sc 70 0) (zs "PDFStream.__init__") 3 (.ref 1566) .none .none (.str (zs "pdfminer.pdftypes") 2014) none (.ref 1572) .none 0)), #[]⟩
noncomputable def o1574_76 (P : Params) : Obj := ⟨(.type "tuple"), none, (.seq #[] 0), #[]⟩
noncomputable def o1575_76 (P : Params) : Obj := ⟨.none, none, (.fields #[]), #[]⟩
noncomputable def o1576_76 (P : Params) : Obj := ⟨(.type "tuple"), none, (.seq #[(.str (zs "self") 2187), (.str (zs "objid") 2188), (.str (zs "genno") 2189)] 0), #[]⟩
noncomputable def o1577_76 (P : Params) : Obj := ⟨(.type "tuple"), none, (.seq #[] 0), #[]⟩
noncomputable def o1578_76 (P : Params) : Obj := ⟨.none, none, (.func (fd (sc 70 1) (zs "PDFStream.set_objid") 0 .none .none .none .none none .none .none 0)), #[]⟩
noncomputable def o1579_76 (P : Params) : Obj := ⟨(.type "code"), none, (.fields #[(.str (zs "set_objid") 2184), (.str (zs "PDFStream.set_objid") 2185), (.str (zs "/claim/cut.py") 2186), (.int 979 0), (.int 3 0), (.int 0 0), (.int 0 0), (.int 3 0), (.ref 1574), (.bool true), (.int 181 0), (.ref 1575), .none, (.ref 1576), (.ref 1577), (.ref 1578), (.int 2190 0), (.int 979 0), (.str (zs "/claim/cut.py") 2191)]), #[]⟩
noncomputable def o1580_76 (P : Params) : Obj := ⟨(.type "function"), none, (.func (fd (sc 70 1) (zs "PDFStream.set_objid") 3 .none .none .none (.str (zs "pdfminer.pdftypes") 2014) none (.ref 1579) .none 0)), #[]⟩
noncomputable def o1581_76 (P : Params) : Obj := ⟨(.type "tuple"), none, (.seq #[] 0), #[]⟩
noncomputable def o1582_76 (P : Params) : Obj := ⟨.none, none, (.fields #[]), #[]⟩
noncomputable def o1583_76 (P : Params) : Obj := ⟨(.type "tuple"), none, (.seq #[(.str (zs "self") 2196)] 0), #[]⟩
noncomputable def o1584_76 (P : Params) : Obj := ⟨(.type "tuple"), none, (.seq #[] 0), #[]⟩
noncomputable def o1585_76 (P : Params) : Obj := ⟨.none, none, (.func (fd (sc 70 2) (zs "PDFStream.__repr__") 0 .none .none .none .none none .none .none 0)), #[]⟩
noncomputable def o1586_76 (P : Params) : Obj := ⟨(.type "code"), none, (.fields #[(.str (zs "__repr__") 2193), (.str (zs "PDFStream.__repr__") 2194), (.str (zs "/claim/cut.py") 2195), (.int 982 0), (.int 1 0), (.int 0 0), (.int 0 0), (.int 3 0), (.ref 1581), (.bool true), (.int 181 0), (.ref 1582), .none, (.ref 1583), (.ref 1584), (.ref 1585), (.int 2197 0), (.int 982 0), (.str (zs "/claim/cut.py") 2198)]), #[]⟩
noncomputable def o1587_76 (P : Params) : Obj := ⟨(.type "function"), none, (.func (fd (sc 70 2) (zs "PDFStream.__repr__") 3 .none .none .none (.str (zs "pdfminer.pdftypes") 2014) none (.ref 1586) .none 0)), #[]⟩
noncomputable def o1588_76 (P : Params) : Obj := ⟨(.type "tuple"), none, (.seq #[] 0), #[]⟩
noncomputable def o1589_76 (P : Params) : Obj := ⟨.none, none, (.fields #[]), #[]⟩
noncomputable def o1590_76 (P : Params) : Obj := ⟨(.type "tuple"), none, (.seq #[(.str (zs "self") 2203), (.str (zs "name") 2204)] 0), #[]⟩
noncomputable def o1591_76 (P : Params) : Obj := ⟨(.type "tuple"), none, (.seq #[] 0), #[]⟩
noncomputable def o1592_76 (P : Params) : Obj := ⟨.none, none, (.func (fd (sc 70 3) (zs "PDFStream.__contains__") 0 .none .none .none .none none .none .none 0)), #[]⟩
noncomputable def o1593_76 (P : Params) : Obj := ⟨(.type "code"), none, (.fields #[(.str (zs "__contains__") 2200), (.str (zs "PDFStream.__contains__") 2201), (.str (zs "/claim/cut.py") 2202), (.int 990 0), (.int 2 0), (.int 0 0), (.int 0 0), (.int 3 0), (.ref 1588), (.bool true), (.int 181 0), (.ref 1589), .none, (.ref 1590), (.ref 1591), (.ref 1592), (.int 2205 0), (.int 990 0), (.str (zs "/claim/cut.py") 2206)]), #[]⟩
noncomputable def o1594_76 (P : Params) : Obj := ⟨(.type "function"), none, (.func (fd (sc 70 3) (zs "PDFStream.__contains__") 3 .none .none .none (.str (zs "pdfminer.pdftypes") 2014) none (.ref 1593) .none 0)), #[]⟩
noncomputable def o1595_76 (P : Params) : Obj := ⟨(.type "tuple"), none, (.seq #[] 0), #[]⟩
noncomputable def o1596_76 (P : Params) : Obj := ⟨.none, none, (.fields #[]), #[]⟩
noncomputable def o1597_76 (P : Params) : Obj := ⟨(.type "tuple"), none, (.seq #[(.str (zs "self") 2211), (.str (zs "name") 2212), (.str (zs "e") 2213)] 0), #[]⟩
noncomputable def o1598_76 (P : Params) : Obj := ⟨(.type "tuple"), none, (.seq #[] 0), #[]⟩
noncomputable def o1599_76 (P : Params) : Obj := ⟨.none, none, (.func (fd (sc 70 4) (zs "PDFStream.__getitem__") 0 .none .none .none .none none .none .none 0)), #[]⟩
noncomputable def o1600_76 (P : Params) : Obj := ⟨(.type "code"), none, (.fields #[(.str (zs "__getitem__") 2208), (.str (zs "PDFStream.__getitem__") 2209), (.str (zs "/claim/cut.py") 2210), (.int 993 0), (.int 2 0), (.int 0 0), (.int 0 0), (.int 3 0), (.ref 1595), (.bool true), (.int 181 0), (.ref 1596), .none, (.ref 1597), (.ref 1598), (.ref 1599), (.int 2214 0), (.int 993 0), (.str (zs "/claim/cut.py") 2215)]), #[]⟩
noncomputable def o1601_76 (P : Params) : Obj := ⟨(.type "function"), none, (.func (fd (sc 70 4) (zs "PDFStream.__getitem__") 3 .none .none .none (.str (zs "pdfminer.pdftypes") 2014) none (.ref 1600) .none 0)), #[]⟩
noncomputable def o1602_76 (P : Params) : Obj := ⟨(.type "tuple"), none, (.seq #[.none] 0), #[]⟩
noncomputable def o1603_76 (P : Params) : Obj := ⟨(.type "tuple"), none, (.seq #[] 0), #[]⟩
noncomputable def o1604_76 (P : Params) : Obj := ⟨.none, none, (.fields #[]), #[]⟩
noncomputable def o1605_76 (P : Params) : Obj := ⟨(.type "tuple"), none, (.seq #[(.str (zs "self") 2220), (.str (zs "name") 2221), (.str (zs "default") 2222)] 0), #[]⟩
noncomputable def o1606_76 (P : Params) : Obj := ⟨(.type "tuple"), none, (.seq #[] 0), #[]⟩
noncomputable def o1607_76 (P : Params) : Obj := ⟨.none, none, (.func (fd (sc 70 5) (zs "PDFStream.get") 0 .none .none .none .none none .none .none 0)), #[]⟩
noncomputable def o1608_76 (P : Params) : Obj := ⟨(.type "code"), none, (.fields #[(.str (zs "get") 2217), (.str (zs "PDFStream.get") 2218), (.str (zs "/claim/cut.py") 2219), (.int 999 0), (.int 3 0), (.int 0 0), (.int 0 0), (.int 3 0), (.ref 1603), (.bool true), (.int 181 0), (.ref 1604), .none, (.ref 1605), (.ref 1606), (.ref 1607), (.int 2223 0), (.int 999 0), (.str (zs "/claim/cut.py") 2224)]), #[]⟩
noncomputable def o1609_76 (P : Params) : Obj := ⟨(.type "function"), none, (.func (fd (sc 70 5) (zs "PDFStream.get") 3 (.ref 1602) .none .none (.str (zs "pdfminer.pdftypes") 2014) none (.ref 1608) .none 0)), #[]⟩
noncomputable def o1610_76 (P : Params) : Obj := ⟨(.type "tuple"), none, (.seq #[.none] 0), #[]⟩
noncomputable def o1611_76 (P : Params) : Obj := ⟨(.type "tuple"), none, (.seq #[] 0), #[]⟩
noncomputable def o1612_76 (P : Params) : Obj := ⟨.none, none, (.fields #[]), #[]⟩
noncomputable def o1613_76 (P : Params) : Obj := ⟨(.type "tuple"), none, (.seq #[(.str (zs "self") 2229), (.str (zs "names") 2230), (.str (zs "default") 2231), (.str (zs "name") 2232)] 0), #[]⟩
noncomputable def o1614_76 (P : Params) : Obj := ⟨(.type "tuple"), none, (.seq #[] 0), #[]⟩
noncomputable def o1615_76 (P : Params) : Obj := ⟨.none, none, (.func (fd (sc 70 6) (zs "PDFStream.get_any") 0 .none .none .none .none none .none .none 0)), #[]⟩
noncomputable def o1616_76 (P : Params) : Obj := ⟨(.type "code"), none, (.fields #[(.str (zs "get_any") 2226), (.str (zs "PDFStream.get_any") 2227), (.str (zs "/claim/cut.py") 2228), (.int 1002 0), (.int 3 0), (.int 0 0), (.int 0 0), (.int 3 0), (.ref 1611), (.bool true), (.int 181 0), (.ref 1612), .none, (.ref 1613), (.ref 1614), (.ref 1615), (.int 2233 0), (.int 1002 0), (.str (zs "/claim/cut.py") 2234)]), #[]⟩
noncomputable def o1617_76 (P : Params) : Obj := ⟨(.type "function"), none, (.func (fd (sc 70 6) (zs "PDFStream.get_any") 3 (.ref 1610) .none .none (.str (zs "pdfminer.pdftypes") 2014) none (.ref 1616) .none 0)), #[]⟩
noncomputable def o1618_76 (P : Params) : Obj := ⟨(.type "tuple"), none, (.seq #[] 0), #[]⟩
noncomputable def o1619_76 (P : Params) : Obj := ⟨.none, none, (.fields #[]), #[]⟩
noncomputable def o1620_76 (P : Params) : Obj := ⟨.none, none, (.func (fd (sc 70 7) (zs "PDFStream.get_filters") 0 .none .none .none .none none .none .none 0)), #[]⟩
noncomputable def o1621_76 (P : Params) : Obj := ⟨(.type "code"), none, (.fields #[(.str (zs "get_filters") 2236), (.str (zs "PDFStream.get_filters") 2237), (.str (zs "/claim/cut.py") 2238), (.int 1008 0), (.int 1 0), (.int 0 0), (.int 0 0), (.int 3 0), (.ref 1618), (.bool true), (.int 181 0), (.ref 1619), .none, .none, .none, (.ref 1620), (.int 2239 0), (.int 1008 0), (.str (zs "/claim/cut.py") 2240)]), #[]⟩
noncomputable def o1622_76 (P : Params) : Obj := ⟨(.type "function"), none, (.func (fd (sc 70 7) (zs "PDFStream.get_filters") 3 .none .none .none (.str (zs "pdfminer.pdftypes") 2014) none (.ref 1621) .none 0)), #[]⟩
noncomputable def o1623_76 (P : Params) : Obj := ⟨(.type "tuple"), none, (.seq #[] 0), #[]⟩
noncomputable def o1624_76 (P : Params) : Obj := ⟨.none, none, (.fields #[]), #[]⟩
noncomputable def o1625_76 (P : Params) : Obj := ⟨(.type "tuple"), none, (.seq #[(.str (zs "self") 2245), (.str (zs "data") 2246), (.str (zs "filters") 2247), (.str (zs "f") 2248), (.str (zs "params") 2249), (.str (zs "pred") 2250), (.str (zs "colors") 2251), (.str (zs "columns") 2252), (.str (zs "raw_bits_per_component") 2253), (.str (zs "bitspercomponent") 2254), (.str (zs "error_msg") 2255)] 0), #[]⟩
noncomputable def o1626_76 (P : Params) : Obj := ⟨(.type "tuple"), none, (.seq #[] 0), #[]⟩
noncomputable def o1627_76 (P : Params) : Obj := ⟨.none, none, (.func (fd (sc 70 8) (zs "PDFStream.decode") 0 .none .none .none .none none .none .none 0)), #[]⟩
noncomputable def o1628_76 (P : Params) : Obj := ⟨(.type "code"), none, (.fields #[(.str (zs "decode") 2242), (.str (zs "PDFStream.decode") 2243), (.str (zs "/claim/cut.py") 2244), (.int 1023 0), (.int 1 0), (.int 0 0), (.int 0 0), (.int 3 0), (.ref 1623), (.bool true), (.int 181 0), (.ref 1624), .none, (.ref 1625), (.ref 1626), (.ref 1627), (.int 2256 0), (.int 1023 0), (.str (zs "/claim/cut.py") 2257)]), #[]⟩
noncomputable def o1629_76 (P : Params) : Obj := ⟨(.type "function"), none, (.func (fd (sc 70 8) (zs "PDFStream.decode") 3 .none .none .none (.str (zs "pdfminer.pdftypes") 2014) none (.ref 1628) .none 0)), #[]⟩
noncomputable def o1630_76 (P : Params) : Obj := ⟨(.type "tuple"), none, (.seq #[] 0), #[]⟩
noncomputable def o1631_76 (P : Params) : Obj := ⟨.none, none, (.fields #[]), #[]⟩
noncomputable def o1632_76 (P : Params) : Obj := ⟨(.type "tuple"), none, (.seq #[(.str (zs "self") 2262)] 0), #[]⟩
noncomputable def o1633_76 (P : Params) : Obj := ⟨(.type "tuple"), none, (.seq #[] 0), #[]⟩
noncomputable def o1634_76 (P : Params) : Obj := ⟨.none, none, (.func (fd (sc 70 9) (zs "PDFStream.get_data") 0 .none .none .none .none none .none .none 0)), #[]⟩
noncomputable def o1635_76 (P : Params) : Obj := ⟨(.type "code"), none, (.fields #[(.str (zs "get_data") 2259), (.str (zs "PDFStream.get_data") 2260), (.str (zs "/claim/cut.py") 2261), (.int 1074 0), (.int 1 0), (.int 0 0), (.int 0 0), (.int 3 0), (.ref 1630), (.bool true), (.int 181 0), (.ref 1631), .none, (.ref 1632), (.ref 1633), (.ref 1634), (.int 2263 0), (.int 1074 0), (.str (zs "/claim/cut.py") 2264)]), #[]⟩
noncomputable def o1636_76 (P : Params) : Obj := ⟨(.type "function"), none, (.func (fd (sc 70 9) (zs "PDFStream.get_data") 3 .none .none .none (.str (zs "pdfminer.pdftypes") 2014) none (.ref 1635) .none 0)), #[]⟩
noncomputable def o1637_76 (P : Params) : Obj := ⟨(.type "tuple"), none, (.seq #[] 0), #[]⟩
noncomputable def o1638_76 (P : Params) : Obj := ⟨.none, none, (.fields #[]), #[]⟩
noncomputable def o1639_76 (P : Params) : Obj := ⟨(.type "tuple"), none, (.seq #[(.str (zs "self") 2269)] 0), #[]⟩
noncomputable def o1640_76 (P : Params) : Obj := ⟨(.type "tuple"), none, (.seq #[] 0), #[]⟩
noncomputable def o1641_76 (P : Params) : Obj := ⟨.none, none, (.func (fd (sc 70 10) (zs "PDFStream.get_rawdata") 0 .none .none .none .none none .none .none 0)), #[]⟩
noncomputable def o1642_76 (P : Params) : Obj := ⟨(.type "code"), none, (.fields #[(.str (zs "get_rawdata") 2266), (.str (zs "PDFStream.get_rawdata") 2267), (.str (zs "/claim/cut.py") 2268), (.int 1080 0), (.int 1 0), (.int 0 0), (.int 0 0), (.int 3 0), (.ref 1637), (.bool true), (.int 181 0), (.ref 1638), .none, (.ref 1639), (.ref 1640), (.ref 1641), (.int 2270 0), (.int 1080 0), (.str (zs "/claim/cut.py") 2271)]), #[]⟩
noncomputable def o1643_76 (P : Params) : Obj := ⟨(.type "function"), none, (.func (fd (sc 70 10) (zs "PDFStream.get_rawdata") 3 .none .none .none (.str (zs "pdfminer.pdftypes") 2014) none (.ref 1642) .none 0)), #[]⟩
noncomputable def o1644_76 (P : Params) : Obj := ⟨(.type "tuple"), none, (.seq #[(.str (zs "attrs") 2273), (.str (zs "data") 2274), (.str (zs "decipher") 2275), (.str (zs "genno") 2276), (.str (zs "objid") 2277), (.str (zs "rawdata") 2278)] 0), #[]⟩
noncomputable def o1645_76 (P : Params) : Obj := ⟨(.type "dict"), none, (.dict #[en P "__module__" 2169 (.str (zs "pdfminer.pdftypes") 2014), en P "__firstlineno__" 2173 (.int 968 2172), en P "__init__" 2183 (.ref 1573), en P "set_objid" 2192 (.ref 1580), en P "__repr__" 2199 (.ref 1587), en P "__contains__" 2207 (.ref 1594), en P "__getitem__" 2216 (.ref 1601), en P "get" 2225 (.ref 1609), en P "get_any" 2235 (.ref 1617), en P "get_filters" 2241 (.ref 1622), en P "decode" 2258 (.ref 1629), en P "get_data" 2265 (.ref 1636), en P "get_rawdata" 2272 (.ref 1643), en P "__static_attributes__" 2279 (.ref 1644), en P "__doc__" 2280 .none] 2), #[]⟩
noncomputable def o1646_76 (P : Params) : Obj := ⟨(.type "type"), none, (.cls ⟨(zs "PDFStream"), [(.ref 1507)], [(.ref 1646), (.ref 1507), (.ref 1353), (.type "object")], 1645, (zs "PDFStream"), true, [], [], false, none, false⟩), #[some (.ref 1559), none, some (.str (zs "PDFStream") 2162), some (.str (zs "PDFStream") 2170), some (.builtin "object.__new__"), some (.bool true)]⟩
noncomputable def o1647_76 (P : Params) : Obj := ⟨(.type "super"), none, (.fields #[(.ref 1646), (.ref 1646), (.ref 1646)]), #[]⟩
noncomputable def o1648_76 (P : Params) : Obj := ⟨(.type "builtin_function_or_method"), none, (.fields #[(.builtin "object.__init_subclass__"), (.ref 1646)]), #[]⟩
noncomputable def o1649_76 (P : Params) : Obj := ⟨(.type "tuple"), none, (.seq #[] 0), #[]⟩
noncomputable def o1650_76 (P : Params) : Obj := ⟨.none, none, (.fields #[]), #[]⟩
noncomputable def o1651_76 (P : Params) : Obj := ⟨(.type "tuple"), none, (.seq #[(.str (zs "rest") 2290), (.str (zs "way") 2291)] 0), #[]⟩
noncomputable def o1652_76 (P : Params) : Obj := ⟨(.type "tuple"), none, (.seq #[] 0), #[]⟩
noncomputable def o1653_76 (P : Params) : Obj := ⟨.none, none, (.func (fd (st 73) (zs "_law_octet") 0 .none .none .none .none none .none .none 0)), #[]⟩
noncomputable def o1654_76 (P : Params) : Obj := ⟨(.type "code"), none, (.fields #[(.str (zs "_law_octet") 2287), (.str (zs "_law_octet") 2288), (.str (zs "/claim/cut.py") 2289), (.int 1084 0), (.int 1 0), (.int 0 0), (.int 0 0), (.int 3 0), (.ref 1649), (.bool true), (.int 181 0), (.ref 1650), .none, (.ref 1651), (.ref 1652), (.ref 1653), (.int 2292 0), (.int 1084 0), (.str (zs "/claim/cut.py") 2293)]), #[]⟩
noncomputable def o1655_76 (P : Params) : Obj := ⟨(.type "function"), none, (.func (fd (st 73) (zs "_law_octet") 3 .none .none .none (.str (zs "law_ll0046_01") 2283) none (.ref 1654) .none 0)), #[]⟩
noncomputable def o1656_76 (P : Params) : Obj := ⟨(.type "tuple"), none, (.seq #[] 0), #[]⟩
noncomputable def o1657_76 (P : Params) : Obj := ⟨.none, none, (.fields #[]), #[]⟩
noncomputable def o1658_76 (P : Params) : Obj := ⟨(.type "tuple"), none, (.seq #[(.str (zs "data") 2298), (.str (zs "values") 2299), (.str (zs "octet") 2300), (.str (zs "place") 2301)] 0), #[]⟩
noncomputable def o1659_76 (P : Params) : Obj := ⟨(.type "tuple"), none, (.seq #[] 0), #[]⟩
noncomputable def o1660_76 (P : Params) : Obj := ⟨.none, none, (.func (fd (st 74) (zs "_law_values") 0 .none .none .none .none none .none .none 0)), #[]⟩
noncomputable def o1661_76 (P : Params) : Obj := ⟨(.type "code"), none, (.fields #[(.str (zs "_law_values") 2295), (.str (zs "_law_values") 2296), (.str (zs "/claim/cut.py") 2297), (.int 1093 0), (.int 1 0), (.int 0 0), (.int 0 0), (.int 3 0), (.ref 1656), (.bool true), (.int 181 0), (.ref 1657), .none, (.ref 1658), (.ref 1659), (.ref 1660), (.int 2302 0), (.int 1093 0), (.str (zs "/claim/cut.py") 2303)]), #[]⟩
noncomputable def o1662_76 (P : Params) : Obj := ⟨(.type "function"), none, (.func (fd (st 74) (zs "_law_values") 3 .none .none .none (.str (zs "law_ll0046_01") 2283) none (.ref 1661) .none 0)), #[]⟩
noncomputable def o1663_76 (P : Params) : Obj := ⟨(.type "tuple"), none, (.seq #[] 0), #[]⟩
noncomputable def o1664_76 (P : Params) : Obj := ⟨.none, none, (.fields #[]), #[]⟩
noncomputable def o1665_76 (P : Params) : Obj := ⟨.none, none, (.func (fd (st 75) (zs "law") 0 .none .none .none .none none .none .none 0)), #[]⟩
noncomputable def o1666_76 (P : Params) : Obj := ⟨(.type "code"), none, (.fields #[(.str (zs "law") 2305), (.str (zs "law") 2306), (.str (zs "/claim/cut.py") 2307), (.int 1104 0), (.int 1 0), (.int 0 0), (.int 0 0), (.int 3 0), (.ref 1663), (.bool true), (.int 181 0), (.ref 1664), .none, .none, .none, (.ref 1665), (.int 2308 0), (.int 1104 0), (.str (zs "/claim/cut.py") 2309)]), #[]⟩
noncomputable def o1667_76 (P : Params) : Obj := ⟨(.type "function"), none, (.func (fd (st 75) (zs "law") 3 .none .none .none (.str (zs "law_ll0046_01") 2283) none (.ref 1666) .none 0)), #[]⟩
noncomputable def T76 (P : Params) : BT := (.node (o0_0 P) (.node (o1_0 P) (.node (o3_76 P) (.node (o7_0 P) (.node (o15_6 P) (.node (o31_6 P) (.node (o63_6 P) (.node (o127_28 P) (.node (o255_28 P) (.node (o511_41 P) (.node (o1023_52 P) .nil .nil) (.node (o1535_76 P) .nil .nil)) (.node (o767_41 P) (.node (o1279_52 P) .nil .nil) .nil)) (.node (o383_41 P) (.node (o639_41 P) (.node (o1151_52 P) .nil .nil) (.node (o1663_76 P) .nil .nil)) (.node (o895_52 P) (.node (o1407_52 P) .nil .nil) .nil))) (.node (o191_28 P) (.node (o319_41 P) (.node (o575_41 P) (.node (o1087_52 P) .nil .nil) (.node (o1599_76 P) .nil .nil)) (.node (o831_41 P) (.node (o1343_52 P) .nil .nil) .nil)) (.node (o447_41 P) (.node (o703_41 P) (.node (o1215_52 P) .nil .nil) .nil) (.node (o959_52 P) (.node (o1471_76 P) .nil .nil) .nil)))) (.node (o95_28 P) (.node (o159_28 P) (.node (o287_41 P) (.node (o543_41 P) (.node (o1055_52 P) .nil .nil) (.node (o1567_76 P) .nil .nil)) (.node (o799_41 P) (.node (o1311_52 P) .nil .nil) .nil)) (.node (o415_41 P) (.node (o671_41 P) (.node (o1183_52 P) .nil .nil) .nil) (.node (o927_52 P) (.node (o1439_76 P) .nil .nil) .nil))) (.node (o223_28 P) (.node (o351_41 P) (.node (o607_41 P) (.node (o1119_52 P) .nil .nil) (.node (o1631_76 P) .nil .nil)) (.node (o863_52 P) (.node (o1375_52 P) .nil .nil) .nil)) (.node (o479_41 P) (.node (o735_41 P) (.node (o1247_52 P) .nil .nil) .nil) (.node (o991_52 P) (.node (o1503_76 P) .nil .nil) .nil))))) (.node (o47_6 P) (.node (o79_28 P) (.node (o143_28 P) (.node (o271_41 P) (.node (o527_41 P) (.node (o1039_52 P) .nil .nil) (.node (o1551_76 P) .nil .nil)) (.node (o783_41 P) (.node (o1295_52 P) .nil .nil) .nil)) (.node (o399_41 P) (.node (o655_41 P) (.node (o1167_52 P) .nil .nil) .nil) (.node (o911_52 P) (.node (o1423_52 P) .nil .nil) .nil))) (.node (o207_28 P) (.node (o335_41 P) (.node (o591_41 P) (.node (o1103_52 P) .nil .nil) (.node (o1615_76 P) .nil .nil)) (.node (o847_41 P) (.node (o1359_52 P) .nil .nil) .nil)) (.node (o463_41 P) (.node (o719_41 P) (.node (o1231_52 P) .nil .nil) .nil) (.node (o975_52 P) (.node (o1487_76 P) .nil .nil) .nil)))) (.node (o111_28 P) (.node (o175_28 P) (.node (o303_41 P) (.node (o559_41 P) (.node (o1071_52 P) .nil .nil) (.node (o1583_76 P) .nil .nil)) (.node (o815_41 P) (.node (o1327_52 P) .nil .nil) .nil)) (.node (o431_41 P) (.node (o687_41 P) (.node (o1199_52 P) .nil .nil) .nil) (.node (o943_52 P) (.node (o1455_76 P) .nil .nil) .nil))) (.node (o239_28 P) (.node (o367_41 P) (.node (o623_41 P) (.node (o1135_52 P) .nil .nil) (.node (o1647_76 P) .nil .nil)) (.node (o879_52 P) (.node (o1391_52 P) .nil .nil) .nil)) (.node (o495_41 P) (.node (o751_41 P) (.node (o1263_52 P) .nil .nil) .nil) (.node (o1007_52 P) (.node (o1519_76 P) .nil .nil) .nil)))))) (.node (o23_6 P) (.node (o39_6 P) (.node (o71_6 P) (.node (o135_28 P) (.node (o263_28 P) (.node (o519_41 P) (.node (o1031_52 P) .nil .nil) (.node (o1543_76 P) .nil .nil)) (.node (o775_41 P) (.node (o1287_52 P) .nil .nil) .nil)) (.node (o391_41 P) (.node (o647_41 P) (.node (o1159_52 P) .nil .nil) .nil) (.node (o903_52 P) (.node (o1415_52 P) .nil .nil) .nil))) (.node (o199_28 P) (.node (o327_41 P) (.node (o583_41 P) (.node (o1095_52 P) .nil .nil) (.node (o1607_76 P) .nil .nil)) (.node (o839_41 P) (.node (o1351_52 P) .nil .nil) .nil)) (.node (o455_41 P) (.node (o711_41 P) (.node (o1223_52 P) .nil .nil) .nil) (.node (o967_52 P) (.node (o1479_76 P) .nil .nil) .nil)))) (.node (o103_28 P) (.node (o167_28 P) (.node (o295_41 P) (.node (o551_41 P) (.node (o1063_52 P) .nil .nil) (.node (o1575_76 P) .nil .nil)) (.node (o807_41 P) (.node (o1319_52 P) .nil .nil) .nil)) (.node (o423_41 P) (.node (o679_41 P) (.node (o1191_52 P) .nil .nil) .nil) (.node (o935_52 P) (.node (o1447_76 P) .nil .nil) .nil))) (.node (o231_28 P) (.node (o359_41 P) (.node (o615_41 P) (.node (o1127_52 P) .nil .nil) (.node (o1639_76 P) .nil .nil)) (.node (o871_52 P) (.node (o1383_52 P) .nil .nil) .nil)) (.node (o487_41 P) (.node (o743_41 P) (.node (o1255_52 P) .nil .nil) .nil) (.node (o999_52 P) (.node (o1511_76 P) .nil .nil) .nil))))) (.node (o55_6 P) (.node (o87_28 P) (.node (o151_28 P) (.node (o279_41 P) (.node (o535_41 P) (.node (o1047_52 P) .nil .nil) (.node (o1559_76 P) .nil .nil)) (.node (o791_41 P) (.node (o1303_52 P) .nil .nil) .nil)) (.node (o407_41 P) (.node (o663_41 P) (.node (o1175_52 P) .nil .nil) .nil) (.node (o919_52 P) (.node (o1431_76 P) .nil .nil) .nil))) (.node (o215_28 P) (.node (o343_41 P) (.node (o599_41 P) (.node (o1111_52 P) .nil .nil) (.node (o1623_76 P) .nil .nil)) (.node (o855_41 P) (.node (o1367_52 P) .nil .nil) .nil)) (.node (o471_41 P) (.node (o727_41 P) (.node (o1239_52 P) .nil .nil) .nil) (.node (o983_52 P) (.node (o1495_76 P) .nil .nil) .nil)))) (.node (o119_28 P) (.node (o183_28 P) (.node (o311_41 P) (.node (o567_41 P) (.node (o1079_52 P) .nil .nil) (.node (o1591_76 P) .nil .nil)) (.node (o823_41 P) (.node (o1335_52 P) .nil .nil) .nil)) (.node (o439_41 P) (.node (o695_41 P) (.node (o1207_52 P) .nil .nil) .nil) (.node (o951_52 P) (.node (o1463_76 P) .nil .nil) .nil))) (.node (o247_28 P) (.node (o375_41 P) (.node (o631_41 P) (.node (o1143_52 P) .nil .nil) (.node (o1655_76 P) .nil .nil)) (.node (o887_52 P) (.node (o1399_52 P) .nil .nil) .nil)) (.node (o503_41 P) (.node (o759_41 P) (.node (o1271_52 P) .nil .nil) .nil) (.node (o1015_52 P) (.node (o1527_76 P) .nil .nil) .nil))))))) (.node (o11_0 P) (.node (o19_6 P) (.node (o35_6 P) (.node (o67_6 P) (.node (o131_28 P) (.node (o259_28 P) (.node (o515_41 P) (.node (o1027_52 P) .nil .nil) (.node (o1539_76 P) .nil .nil)) (.node (o771_41 P) (.node (o1283_52 P) .nil .nil) .nil)) (.node (o387_41 P) (.node (o643_41 P) (.node (o1155_52 P) .nil .nil) (.node (o1667_76 P) .nil .nil)) (.node (o899_52 P) (.node (o1411_52 P) .nil .nil) .nil))) (.node (o195_28 P) (.node (o323_41 P) (.node (o579_41 P) (.node (o1091_52 P) .nil .nil) (.node (o1603_76 P) .nil .nil)) (.node (o835_41 P) (.node (o1347_52 P) .nil .nil) .nil)) (.node (o451_41 P) (.node (o707_41 P) (.node (o1219_52 P) .nil .nil) .nil) (.node (o963_52 P) (.node (o1475_76 P) .nil .nil) .nil)))) (.node (o99_28 P) (.node (o163_28 P) (.node (o291_41 P) (.node (o547_41 P) (.node (o1059_52 P) .nil .nil) (.node (o1571_76 P) .nil .nil)) (.node (o803_41 P) (.node (o1315_52 P) .nil .nil) .nil)) (.node (o419_41 P) (.node (o675_41 P) (.node (o1187_52 P) .nil .nil) .nil) (.node (o931_52 P) (.node (o1443_76 P) .nil .nil) .nil))) (.node (o227_28 P) (.node (o355_41 P) (.node (o611_41 P) (.node (o1123_52 P) .nil .nil) (.node (o1635_76 P) .nil .nil)) (.node (o867_52 P) (.node (o1379_52 P) .nil .nil) .nil)) (.node (o483_41 P) (.node (o739_41 P) (.node (o1251_52 P) .nil .nil) .nil) (.node (o995_52 P) (.node (o1507_76 P) .nil .nil) .nil))))) (.node (o51_6 P) (.node (o83_28 P) (.node (o147_28 P) (.node (o275_41 P) (.node (o531_41 P) (.node (o1043_52 P) .nil .nil) (.node (o1555_76 P) .nil .nil)) (.node (o787_41 P) (.node (o1299_52 P) .nil .nil) .nil)) (.node (o403_41 P) (.node (o659_41 P) (.node (o1171_52 P) .nil .nil) .nil) (.node (o915_52 P) (.node (o1427_76 P) .nil .nil) .nil))) (.node (o211_28 P) (.node (o339_41 P) (.node (o595_41 P) (.node (o1107_52 P) .nil .nil) (.node (o1619_76 P) .nil .nil)) (.node (o851_41 P) (.node (o1363_52 P) .nil .nil) .nil)) (.node (o467_41 P) (.node (o723_41 P) (.node (o1235_52 P) .nil .nil) .nil) (.node (o979_52 P) (.node (o1491_76 P) .nil .nil) .nil)))) (.node (o115_28 P) (.node (o179_28 P) (.node (o307_41 P) (.node (o563_41 P) (.node (o1075_52 P) .nil .nil) (.node (o1587_76 P) .nil .nil)) (.node (o819_41 P) (.node (o1331_52 P) .nil .nil) .nil)) (.node (o435_41 P) (.node (o691_41 P) (.node (o1203_52 P) .nil .nil) .nil) (.node (o947_52 P) (.node (o1459_76 P) .nil .nil) .nil))) (.node (o243_28 P) (.node (o371_41 P) (.node (o627_41 P) (.node (o1139_52 P) .nil .nil) (.node (o1651_76 P) .nil .nil)) (.node (o883_52 P) (.node (o1395_52 P) .nil .nil) .nil)) (.node (o499_41 P) (.node (o755_41 P) (.node (o1267_52 P) .nil .nil) .nil) (.node (o1011_52 P) (.node (o1523_76 P) .nil .nil) .nil)))))) (.node (o27_6 P) (.node (o43_6 P) (.node (o75_6 P) (.node (o139_28 P) (.node (o267_41 P) (.node (o523_41 P) (.node (o1035_52 P) .nil .nil) (.node (o1547_76 P) .nil .nil)) (.node (o779_41 P) (.node (o1291_52 P) .nil .nil) .nil)) (.node (o395_41 P) (.node (o651_41 P) (.node (o1163_52 P) .nil .nil) .nil) (.node (o907_52 P) (.node (o1419_52 P) .nil .nil) .nil))) (.node (o203_28 P) (.node (o331_41 P) (.node (o587_41 P) (.node (o1099_52 P) .nil .nil) (.node (o1611_76 P) .nil .nil)) (.node (o843_41 P) (.node (o1355_52 P) .nil .nil) .nil)) (.node (o459_41 P) (.node (o715_41 P) (.node (o1227_52 P) .nil .nil) .nil) (.node (o971_52 P) (.node (o1483_76 P) .nil .nil) .nil)))) (.node (o107_28 P) (.node (o171_28 P) (.node (o299_41 P) (.node (o555_41 P) (.node (o1067_52 P) .nil .nil) (.node (o1579_76 P) .nil .nil)) (.node (o811_41 P) (.node (o1323_52 P) .nil .nil) .nil)) (.node (o427_41 P) (.node (o683_41 P) (.node (o1195_52 P) .nil .nil) .nil) (.node (o939_52 P) (.node (o1451_76 P) .nil .nil) .nil))) (.node (o235_28 P) (.node (o363_41 P) (.node (o619_41 P) (.node (o1131_52 P) .nil .nil) (.node (o1643_76 P) .nil .nil)) (.node (o875_52 P) (.node (o1387_52 P) .nil .nil) .nil)) (.node (o491_41 P) (.node (o747_41 P) (.node (o1259_52 P) .nil .nil) .nil) (.node (o1003_52 P) (.node (o1515_76 P) .nil .nil) .nil))))) (.node (o59_6 P) (.node (o91_28 P) (.node (o155_28 P) (.node (o283_41 P) (.node (o539_41 P) (.node (o1051_52 P) .nil .nil) (.node (o1563_76 P) .nil .nil)) (.node (o795_41 P) (.node (o1307_52 P) .nil .nil) .nil)) (.node (o411_41 P) (.node (o667_41 P) (.node (o1179_52 P) .nil .nil) .nil) (.node (o923_52 P) (.node (o1435_76 P) .nil .nil) .nil))) (.node (o219_28 P) (.node (o347_41 P) (.node (o603_41 P) (.node (o1115_52 P) .nil .nil) (.node (o1627_76 P) .nil .nil)) (.node (o859_41 P) (.node (o1371_52 P) .nil .nil) .nil)) (.node (o475_41 P) (.node (o731_41 P) (.node (o1243_52 P) .nil .nil) .nil) (.node (o987_52 P) (.node (o1499_76 P) .nil .nil) .nil)))) (.node (o123_28 P) (.node (o187_28 P) (.node (o315_41 P) (.node (o571_41 P) (.node (o1083_52 P) .nil .nil) (.node (o1595_76 P) .nil .nil)) (.node (o827_41 P) (.node (o1339_52 P) .nil .nil) .nil)) (.node (o443_41 P) (.node (o699_41 P) (.node (o1211_52 P) .nil .nil) .nil) (.node (o955_52 P) (.node (o1467_76 P) .nil .nil) .nil))) (.node (o251_28 P) (.node (o379_41 P) (.node (o635_41 P) (.node (o1147_52 P) .nil .nil) (.node (o1659_76 P) .nil .nil)) (.node (o891_52 P) (.node (o1403_52 P) .nil .nil) .nil)) (.node (o507_41 P) (.node (o763_41 P) (.node (o1275_52 P) .nil .nil) .nil) (.node (o1019_52 P) (.node (o1531_76 P) .nil .nil) .nil)))))))) (.node (o5_0 P) (.node (o9_0 P) (.node (o17_6 P) (.node (o33_6 P) (.node (o65_6 P) (.node (o129_28 P) (.node (o257_28 P) (.node (o513_41 P) (.node (o1025_52 P) .nil .nil) (.node (o1537_76 P) .nil .nil)) (.node (o769_41 P) (.node (o1281_52 P) .nil .nil) .nil)) (.node (o385_41 P) (.node (o641_41 P) (.node (o1153_52 P) .nil .nil) (.node (o1665_76 P) .nil .nil)) (.node (o897_52 P) (.node (o1409_52 P) .nil .nil) .nil))) (.node (o193_28 P) (.node (o321_41 P) (.node (o577_41 P) (.node (o1089_52 P) .nil .nil) (.node (o1601_76 P) .nil .nil)) (.node (o833_41 P) (.node (o1345_52 P) .nil .nil) .nil)) (.node (o449_41 P) (.node (o705_41 P) (.node (o1217_52 P) .nil .nil) .nil) (.node (o961_52 P) (.node (o1473_76 P) .nil .nil) .nil)))) (.node (o97_28 P) (.node (o161_28 P) (.node (o289_41 P) (.node (o545_41 P) (.node (o1057_52 P) .nil .nil) (.node (o1569_76 P) .nil .nil)) (.node (o801_41 P) (.node (o1313_52 P) .nil .nil) .nil)) (.node (o417_41 P) (.node (o673_41 P) (.node (o1185_52 P) .nil .nil) .nil) (.node (o929_52 P) (.node (o1441_76 P) .nil .nil) .nil))) (.node (o225_28 P) (.node (o353_41 P) (.node (o609_41 P) (.node (o1121_52 P) .nil .nil) (.node (o1633_76 P) .nil .nil)) (.node (o865_52 P) (.node (o1377_52 P) .nil .nil) .nil)) (.node (o481_41 P) (.node (o737_41 P) (.node (o1249_52 P) .nil .nil) .nil) (.node (o993_52 P) (.node (o1505_76 P) .nil .nil) .nil))))) (.node (o49_6 P) (.node (o81_28 P) (.node (o145_28 P) (.node (o273_41 P) (.node (o529_41 P) (.node (o1041_52 P) .nil .nil) (.node (o1553_76 P) .nil .nil)) (.node (o785_41 P) (.node (o1297_52 P) .nil .nil) .nil)) (.node (o401_41 P) (.node (o657_41 P) (.node (o1169_52 P) .nil .nil) .nil) (.node (o913_52 P) (.node (o1425_76 P) .nil .nil) .nil))) (.node (o209_28 P) (.node (o337_41 P) (.node (o593_41 P) (.node (o1105_52 P) .nil .nil) (.node (o1617_76 P) .nil .nil)) (.node (o849_41 P) (.node (o1361_52 P) .nil .nil) .nil)) (.node (o465_41 P) (.node (o721_41 P) (.node (o1233_52 P) .nil .nil) .nil) (.node (o977_52 P) (.node (o1489_76 P) .nil .nil) .nil)))) (.node (o113_28 P) (.node (o177_28 P) (.node (o305_41 P) (.node (o561_41 P) (.node (o1073_52 P) .nil .nil) (.node (o1585_76 P) .nil .nil)) (.node (o817_41 P) (.node (o1329_52 P) .nil .nil) .nil)) (.node (o433_41 P) (.node (o689_41 P) (.node (o1201_52 P) .nil .nil) .nil) (.node (o945_52 P) (.node (o1457_76 P) .nil .nil) .nil))) (.node (o241_28 P) (.node (o369_41 P) (.node (o625_41 P) (.node (o1137_52 P) .nil .nil) (.node (o1649_76 P) .nil .nil)) (.node (o881_52 P) (.node (o1393_52 P) .nil .nil) .nil)) (.node (o497_41 P) (.node (o753_41 P) (.node (o1265_52 P) .nil .nil) .nil) (.node (o1009_52 P) (.node (o1521_76 P) .nil .nil) .nil)))))) (.node (o25_6 P) (.node (o41_6 P) (.node (o73_6 P) (.node (o137_28 P) (.node (o265_28 P) (.node (o521_41 P) (.node (o1033_52 P) .nil .nil) (.node (o1545_76 P) .nil .nil)) (.node (o777_41 P) (.node (o1289_52 P) .nil .nil) .nil)) (.node (o393_41 P) (.node (o649_41 P) (.node (o1161_52 P) .nil .nil) .nil) (.node (o905_52 P) (.node (o1417_52 P) .nil .nil) .nil))) (.node (o201_28 P) (.node (o329_41 P) (.node (o585_41 P) (.node (o1097_52 P) .nil .nil) (.node (o1609_76 P) .nil .nil)) (.node (o841_41 P) (.node (o1353_76 P) .nil .nil) .nil)) (.node (o457_41 P) (.node (o713_41 P) (.node (o1225_52 P) .nil .nil) .nil) (.node (o969_52 P) (.node (o1481_76 P) .nil .nil) .nil)))) (.node (o105_28 P) (.node (o169_28 P) (.node (o297_41 P) (.node (o553_41 P) (.node (o1065_52 P) .nil .nil) (.node (o1577_76 P) .nil .nil)) (.node (o809_41 P) (.node (o1321_52 P) .nil .nil) .nil)) (.node (o425_41 P) (.node (o681_41 P) (.node (o1193_52 P) .nil .nil) .nil) (.node (o937_52 P) (.node (o1449_76 P) .nil .nil) .nil))) (.node (o233_28 P) (.node (o361_41 P) (.node (o617_41 P) (.node (o1129_52 P) .nil .nil) (.node (o1641_76 P) .nil .nil)) (.node (o873_52 P) (.node (o1385_52 P) .nil .nil) .nil)) (.node (o489_41 P) (.node (o745_41 P) (.node (o1257_52 P) .nil .nil) .nil) (.node (o1001_52 P) (.node (o1513_76 P) .nil .nil) .nil))))) (.node (o57_6 P) (.node (o89_28 P) (.node (o153_28 P) (.node (o281_41 P) (.node (o537_41 P) (.node (o1049_52 P) .nil .nil) (.node (o1561_76 P) .nil .nil)) (.node (o793_41 P) (.node (o1305_52 P) .nil .nil) .nil)) (.node (o409_41 P) (.node (o665_41 P) (.node (o1177_52 P) .nil .nil) .nil) (.node (o921_52 P) (.node (o1433_76 P) .nil .nil) .nil))) (.node (o217_28 P) (.node (o345_41 P) (.node (o601_41 P) (.node (o1113_52 P) .nil .nil) (.node (o1625_76 P) .nil .nil)) (.node (o857_52 P) (.node (o1369_52 P) .nil .nil) .nil)) (.node (o473_41 P) (.node (o729_41 P) (.node (o1241_52 P) .nil .nil) .nil) (.node (o985_52 P) (.node (o1497_76 P) .nil .nil) .nil)))) (.node (o121_28 P) (.node (o185_28 P) (.node (o313_41 P) (.node (o569_41 P) (.node (o1081_52 P) .nil .nil) (.node (o1593_76 P) .nil .nil)) (.node (o825_41 P) (.node (o1337_52 P) .nil .nil) .nil)) (.node (o441_41 P) (.node (o697_41 P) (.node (o1209_52 P) .nil .nil) .nil) (.node (o953_52 P) (.node (o1465_76 P) .nil .nil) .nil))) (.node (o249_28 P) (.node (o377_41 P) (.node (o633_41 P) (.node (o1145_52 P) .nil .nil) (.node (o1657_76 P) .nil .nil)) (.node (o889_52 P) (.node (o1401_52 P) .nil .nil) .nil)) (.node (o505_41 P) (.node (o761_41 P) (.node (o1273_52 P) .nil .nil) .nil) (.node (o1017_52 P) (.node (o1529_76 P) .nil .nil) .nil))))))) (.node (o13_0 P) (.node (o21_6 P) (.node (o37_6 P) (.node (o69_6 P) (.node (o133_28 P) (.node (o261_28 P) (.node (o517_41 P) (.node (o1029_52 P) .nil .nil) (.node (o1541_76 P) .nil .nil)) (.node (o773_41 P) (.node (o1285_52 P) .nil .nil) .nil)) (.node (o389_41 P) (.node (o645_41 P) (.node (o1157_52 P) .nil .nil) .nil) (.node (o901_52 P) (.node (o1413_52 P) .nil .nil) .nil))) (.node (o197_28 P) (.node (o325_41 P) (.node (o581_41 P) (.node (o1093_52 P) .nil .nil) (.node (o1605_76 P) .nil .nil)) (.node (o837_41 P) (.node (o1349_52 P) .nil .nil) .nil)) (.node (o453_41 P) (.node (o709_41 P) (.node (o1221_52 P) .nil .nil) .nil) (.node (o965_52 P) (.node (o1477_76 P) .nil .nil) .nil)))) (.node (o101_28 P) (.node (o165_28 P) (.node (o293_41 P) (.node (o549_41 P) (.node (o1061_52 P) .nil .nil) (.node (o1573_76 P) .nil .nil)) (.node (o805_41 P) (.node (o1317_52 P) .nil .nil) .nil)) (.node (o421_41 P) (.node (o677_41 P) (.node (o1189_52 P) .nil .nil) .nil) (.node (o933_52 P) (.node (o1445_76 P) .nil .nil) .nil))) (.node (o229_28 P) (.node (o357_41 P) (.node (o613_41 P) (.node (o1125_52 P) .nil .nil) (.node (o1637_76 P) .nil .nil)) (.node (o869_52 P) (.node (o1381_52 P) .nil .nil) .nil)) (.node (o485_41 P) (.node (o741_41 P) (.node (o1253_52 P) .nil .nil) .nil) (.node (o997_52 P) (.node (o1509_76 P) .nil .nil) .nil))))) (.node (o53_6 P) (.node (o85_28 P) (.node (o149_28 P) (.node (o277_41 P) (.node (o533_41 P) (.node (o1045_52 P) .nil .nil) (.node (o1557_76 P) .nil .nil)) (.node (o789_41 P) (.node (o1301_52 P) .nil .nil) .nil)) (.node (o405_41 P) (.node (o661_41 P) (.node (o1173_52 P) .nil .nil) .nil) (.node (o917_52 P) (.node (o1429_76 P) .nil .nil) .nil))) (.node (o213_28 P) (.node (o341_41 P) (.node (o597_41 P) (.node (o1109_52 P) .nil .nil) (.node (o1621_76 P) .nil .nil)) (.node (o853_41 P) (.node (o1365_52 P) .nil .nil) .nil)) (.node (o469_41 P) (.node (o725_41 P) (.node (o1237_52 P) .nil .nil) .nil) (.node (o981_52 P) (.node (o1493_76 P) .nil .nil) .nil)))) (.node (o117_28 P) (.node (o181_28 P) (.node (o309_41 P) (.node (o565_41 P) (.node (o1077_52 P) .nil .nil) (.node (o1589_76 P) .nil .nil)) (.node (o821_41 P) (.node (o1333_52 P) .nil .nil) .nil)) (.node (o437_41 P) (.node (o693_41 P) (.node (o1205_52 P) .nil .nil) .nil) (.node (o949_52 P) (.node (o1461_76 P) .nil .nil) .nil))) (.node (o245_28 P) (.node (o373_41 P) (.node (o629_41 P) (.node (o1141_52 P) .nil .nil) (.node (o1653_76 P) .nil .nil)) (.node (o885_52 P) (.node (o1397_52 P) .nil .nil) .nil)) (.node (o501_41 P) (.node (o757_41 P) (.node (o1269_52 P) .nil .nil) .nil) (.node (o1013_52 P) (.node (o1525_76 P) .nil .nil) .nil)))))) (.node (o29_6 P) (.node (o45_6 P) (.node (o77_28 P) (.node (o141_28 P) (.node (o269_41 P) (.node (o525_41 P) (.node (o1037_52 P) .nil .nil) (.node (o1549_76 P) .nil .nil)) (.node (o781_41 P) (.node (o1293_52 P) .nil .nil) .nil)) (.node (o397_41 P) (.node (o653_41 P) (.node (o1165_52 P) .nil .nil) .nil) (.node (o909_52 P) (.node (o1421_52 P) .nil .nil) .nil))) (.node (o205_28 P) (.node (o333_41 P) (.node (o589_41 P) (.node (o1101_52 P) .nil .nil) (.node (o1613_76 P) .nil .nil)) (.node (o845_52 P) (.node (o1357_52 P) .nil .nil) .nil)) (.node (o461_41 P) (.node (o717_41 P) (.node (o1229_52 P) .nil .nil) .nil) (.node (o973_52 P) (.node (o1485_76 P) .nil .nil) .nil)))) (.node (o109_28 P) (.node (o173_28 P) (.node (o301_41 P) (.node (o557_41 P) (.node (o1069_52 P) .nil .nil) (.node (o1581_76 P) .nil .nil)) (.node (o813_41 P) (.node (o1325_52 P) .nil .nil) .nil)) (.node (o429_41 P) (.node (o685_41 P) (.node (o1197_52 P) .nil .nil) .nil) (.node (o941_52 P) (.node (o1453_76 P) .nil .nil) .nil))) (.node (o237_28 P) (.node (o365_41 P) (.node (o621_41 P) (.node (o1133_52 P) .nil .nil) (.node (o1645_76 P) .nil .nil)) (.node (o877_52 P) (.node (o1389_52 P) .nil .nil) .nil)) (.node (o493_41 P) (.node (o749_41 P) (.node (o1261_52 P) .nil .nil) .nil) (.node (o1005_52 P) (.node (o1517_76 P) .nil .nil) .nil))))) (.node (o61_6 P) (.node (o93_28 P) (.node (o157_28 P) (.node (o285_41 P) (.node (o541_41 P) (.node (o1053_52 P) .nil .nil) (.node (o1565_76 P) .nil .nil)) (.node (o797_41 P) (.node (o1309_52 P) .nil .nil) .nil)) (.node (o413_41 P) (.node (o669_41 P) (.node (o1181_52 P) .nil .nil) .nil) (.node (o925_52 P) (.node (o1437_76 P) .nil .nil) .nil))) (.node (o221_28 P) (.node (o349_41 P) (.node (o605_41 P) (.node (o1117_52 P) .nil .nil) (.node (o1629_76 P) .nil .nil)) (.node (o861_52 P) (.node (o1373_52 P) .nil .nil) .nil)) (.node (o477_41 P) (.node (o733_41 P) (.node (o1245_52 P) .nil .nil) .nil) (.node (o989_52 P) (.node (o1501_76 P) .nil .nil) .nil)))) (.node (o125_28 P) (.node (o189_28 P) (.node (o317_41 P) (.node (o573_41 P) (.node (o1085_52 P) .nil .nil) (.node (o1597_76 P) .nil .nil)) (.node (o829_41 P) (.node (o1341_52 P) .nil .nil) .nil)) (.node (o445_41 P) (.node (o701_41 P) (.node (o1213_52 P) .nil .nil) .nil) (.node (o957_52 P) (.node (o1469_76 P) .nil .nil) .nil))) (.node (o253_28 P) (.node (o381_41 P) (.node (o637_41 P) (.node (o1149_52 P) .nil .nil) (.node (o1661_76 P) .nil .nil)) (.node (o893_52 P) (.node (o1405_52 P) .nil .nil) .nil)) (.node (o509_41 P) (.node (o765_41 P) (.node (o1277_52 P) .nil .nil) .nil) (.node (o1021_52 P) (.node (o1533_76 P) .nil .nil) .nil))))))))) (.node (o2_41 P) (.node (o4_0 P) (.node (o8_0 P) (.node (o16_6 P) (.node (o32_6 P) (.node (o64_6 P) (.node (o128_28 P) (.node (o256_28 P) (.node (o512_41 P) (.node (o1024_52 P) .nil .nil) (.node (o1536_76 P) .nil .nil)) (.node (o768_41 P) (.node (o1280_52 P) .nil .nil) .nil)) (.node (o384_41 P) (.node (o640_41 P) (.node (o1152_52 P) .nil .nil) (.node (o1664_76 P) .nil .nil)) (.node (o896_52 P) (.node (o1408_52 P) .nil .nil) .nil))) (.node (o192_28 P) (.node (o320_41 P) (.node (o576_41 P) (.node (o1088_52 P) .nil .nil) (.node (o1600_76 P) .nil .nil)) (.node (o832_41 P) (.node (o1344_52 P) .nil .nil) .nil)) (.node (o448_41 P) (.node (o704_41 P) (.node (o1216_52 P) .nil .nil) .nil) (.node (o960_52 P) (.node (o1472_76 P) .nil .nil) .nil)))) (.node (o96_28 P) (.node (o160_28 P) (.node (o288_41 P) (.node (o544_41 P) (.node (o1056_52 P) .nil .nil) (.node (o1568_76 P) .nil .nil)) (.node (o800_41 P) (.node (o1312_52 P) .nil .nil) .nil)) (.node (o416_41 P) (.node (o672_41 P) (.node (o1184_52 P) .nil .nil) .nil) (.node (o928_52 P) (.node (o1440_76 P) .nil .nil) .nil))) (.node (o224_28 P) (.node (o352_41 P) (.node (o608_41 P) (.node (o1120_52 P) .nil .nil) (.node (o1632_76 P) .nil .nil)) (.node (o864_52 P) (.node (o1376_52 P) .nil .nil) .nil)) (.node (o480_41 P) (.node (o736_41 P) (.node (o1248_52 P) .nil .nil) .nil) (.node (o992_52 P) (.node (o1504_76 P) .nil .nil) .nil))))) (.node (o48_6 P) (.node (o80_28 P) (.node (o144_28 P) (.node (o272_41 P) (.node (o528_41 P) (.node (o1040_52 P) .nil .nil) (.node (o1552_76 P) .nil .nil)) (.node (o784_41 P) (.node (o1296_52 P) .nil .nil) .nil)) (.node (o400_41 P) (.node (o656_41 P) (.node (o1168_52 P) .nil .nil) .nil) (.node (o912_52 P) (.node (o1424_76 P) .nil .nil) .nil))) (.node (o208_28 P) (.node (o336_41 P) (.node (o592_41 P) (.node (o1104_52 P) .nil .nil) (.node (o1616_76 P) .nil .nil)) (.node (o848_41 P) (.node (o1360_52 P) .nil .nil) .nil)) (.node (o464_41 P) (.node (o720_41 P) (.node (o1232_52 P) .nil .nil) .nil) (.node (o976_52 P) (.node (o1488_76 P) .nil .nil) .nil)))) (.node (o112_28 P) (.node (o176_28 P) (.node (o304_41 P) (.node (o560_41 P) (.node (o1072_52 P) .nil .nil) (.node (o1584_76 P) .nil .nil)) (.node (o816_41 P) (.node (o1328_52 P) .nil .nil) .nil)) (.node (o432_41 P) (.node (o688_41 P) (.node (o1200_52 P) .nil .nil) .nil) (.node (o944_52 P) (.node (o1456_76 P) .nil .nil) .nil))) (.node (o240_28 P) (.node (o368_41 P) (.node (o624_41 P) (.node (o1136_52 P) .nil .nil) (.node (o1648_76 P) .nil .nil)) (.node (o880_52 P) (.node (o1392_52 P) .nil .nil) .nil)) (.node (o496_41 P) (.node (o752_41 P) (.node (o1264_52 P) .nil .nil) .nil) (.node (o1008_52 P) (.node (o1520_76 P) .nil .nil) .nil)))))) (.node (o24_6 P) (.node (o40_6 P) (.node (o72_6 P) (.node (o136_28 P) (.node (o264_28 P) (.node (o520_41 P) (.node (o1032_52 P) .nil .nil) (.node (o1544_76 P) .nil .nil)) (.node (o776_41 P) (.node (o1288_52 P) .nil .nil) .nil)) (.node (o392_41 P) (.node (o648_41 P) (.node (o1160_52 P) .nil .nil) .nil) (.node (o904_52 P) (.node (o1416_52 P) .nil .nil) .nil))) (.node (o200_28 P) (.node (o328_41 P) (.node (o584_41 P) (.node (o1096_52 P) .nil .nil) (.node (o1608_76 P) .nil .nil)) (.node (o840_41 P) (.node (o1352_52 P) .nil .nil) .nil)) (.node (o456_41 P) (.node (o712_41 P) (.node (o1224_52 P) .nil .nil) .nil) (.node (o968_52 P) (.node (o1480_76 P) .nil .nil) .nil)))) (.node (o104_28 P) (.node (o168_28 P) (.node (o296_41 P) (.node (o552_41 P) (.node (o1064_52 P) .nil .nil) (.node (o1576_76 P) .nil .nil)) (.node (o808_41 P) (.node (o1320_52 P) .nil .nil) .nil)) (.node (o424_41 P) (.node (o680_41 P) (.node (o1192_52 P) .nil .nil) .nil) (.node (o936_52 P) (.node (o1448_76 P) .nil .nil) .nil))) (.node (o232_28 P) (.node (o360_41 P) (.node (o616_41 P) (.node (o1128_52 P) .nil .nil) (.node (o1640_76 P) .nil .nil)) (.node (o872_52 P) (.node (o1384_52 P) .nil .nil) .nil)) (.node (o488_41 P) (.node (o744_41 P) (.node (o1256_52 P) .nil .nil) .nil) (.node (o1000_52 P) (.node (o1512_76 P) .nil .nil) .nil))))) (.node (o56_6 P) (.node (o88_28 P) (.node (o152_28 P) (.node (o280_41 P) (.node (o536_41 P) (.node (o1048_52 P) .nil .nil) (.node (o1560_76 P) .nil .nil)) (.node (o792_41 P) (.node (o1304_52 P) .nil .nil) .nil)) (.node (o408_41 P) (.node (o664_41 P) (.node (o1176_52 P) .nil .nil) .nil) (.node (o920_52 P) (.node (o1432_76 P) .nil .nil) .nil))) (.node (o216_28 P) (.node (o344_41 P) (.node (o600_41 P) (.node (o1112_52 P) .nil .nil) (.node (o1624_76 P) .nil .nil)) (.node (o856_41 P) (.node (o1368_52 P) .nil .nil) .nil)) (.node (o472_41 P) (.node (o728_41 P) (.node (o1240_52 P) .nil .nil) .nil) (.node (o984_52 P) (.node (o1496_76 P) .nil .nil) .nil)))) (.node (o120_28 P) (.node (o184_28 P) (.node (o312_41 P) (.node (o568_41 P) (.node (o1080_52 P) .nil .nil) (.node (o1592_76 P) .nil .nil)) (.node (o824_41 P) (.node (o1336_52 P) .nil .nil) .nil)) (.node (o440_41 P) (.node (o696_41 P) (.node (o1208_52 P) .nil .nil) .nil) (.node (o952_52 P) (.node (o1464_76 P) .nil .nil) .nil))) (.node (o248_28 P) (.node (o376_41 P) (.node (o632_41 P) (.node (o1144_52 P) .nil .nil) (.node (o1656_76 P) .nil .nil)) (.node (o888_52 P) (.node (o1400_52 P) .nil .nil) .nil)) (.node (o504_41 P) (.node (o760_41 P) (.node (o1272_52 P) .nil .nil) .nil) (.node (o1016_52 P) (.node (o1528_76 P) .nil .nil) .nil))))))) (.node (o12_76 P) (.node (o20_6 P) (.node (o36_6 P) (.node (o68_6 P) (.node (o132_28 P) (.node (o260_28 P) (.node (o516_41 P) (.node (o1028_52 P) .nil .nil) (.node (o1540_76 P) .nil .nil)) (.node (o772_41 P) (.node (o1284_52 P) .nil .nil) .nil)) (.node (o388_41 P) (.node (o644_41 P) (.node (o1156_52 P) .nil .nil) .nil) (.node (o900_52 P) (.node (o1412_52 P) .nil .nil) .nil))) (.node (o196_28 P) (.node (o324_41 P) (.node (o580_41 P) (.node (o1092_52 P) .nil .nil) (.node (o1604_76 P) .nil .nil)) (.node (o836_41 P) (.node (o1348_52 P) .nil .nil) .nil)) (.node (o452_41 P) (.node (o708_41 P) (.node (o1220_52 P) .nil .nil) .nil) (.node (o964_52 P) (.node (o1476_76 P) .nil .nil) .nil)))) (.node (o100_28 P) (.node (o164_28 P) (.node (o292_41 P) (.node (o548_41 P) (.node (o1060_52 P) .nil .nil) (.node (o1572_76 P) .nil .nil)) (.node (o804_41 P) (.node (o1316_52 P) .nil .nil) .nil)) (.node (o420_41 P) (.node (o676_41 P) (.node (o1188_52 P) .nil .nil) .nil) (.node (o932_52 P) (.node (o1444_76 P) .nil .nil) .nil))) (.node (o228_28 P) (.node (o356_41 P) (.node (o612_41 P) (.node (o1124_52 P) .nil .nil) (.node (o1636_76 P) .nil .nil)) (.node (o868_52 P) (.node (o1380_52 P) .nil .nil) .nil)) (.node (o484_41 P) (.node (o740_41 P) (.node (o1252_52 P) .nil .nil) .nil) (.node (o996_52 P) (.node (o1508_76 P) .nil .nil) .nil))))) (.node (o52_6 P) (.node (o84_28 P) (.node (o148_28 P) (.node (o276_41 P) (.node (o532_41 P) (.node (o1044_52 P) .nil .nil) (.node (o1556_76 P) .nil .nil)) (.node (o788_41 P) (.node (o1300_52 P) .nil .nil) .nil)) (.node (o404_41 P) (.node (o660_41 P) (.node (o1172_52 P) .nil .nil) .nil) (.node (o916_52 P) (.node (o1428_76 P) .nil .nil) .nil))) (.node (o212_28 P) (.node (o340_41 P) (.node (o596_41 P) (.node (o1108_52 P) .nil .nil) (.node (o1620_76 P) .nil .nil)) (.node (o852_41 P) (.node (o1364_52 P) .nil .nil) .nil)) (.node (o468_41 P) (.node (o724_41 P) (.node (o1236_52 P) .nil .nil) .nil) (.node (o980_52 P) (.node (o1492_76 P) .nil .nil) .nil)))) (.node (o116_28 P) (.node (o180_28 P) (.node (o308_41 P) (.node (o564_41 P) (.node (o1076_52 P) .nil .nil) (.node (o1588_76 P) .nil .nil)) (.node (o820_41 P) (.node (o1332_52 P) .nil .nil) .nil)) (.node (o436_41 P) (.node (o692_41 P) (.node (o1204_52 P) .nil .nil) .nil) (.node (o948_52 P) (.node (o1460_76 P) .nil .nil) .nil))) (.node (o244_28 P) (.node (o372_41 P) (.node (o628_41 P) (.node (o1140_52 P) .nil .nil) (.node (o1652_76 P) .nil .nil)) (.node (o884_52 P) (.node (o1396_52 P) .nil .nil) .nil)) (.node (o500_41 P) (.node (o756_41 P) (.node (o1268_52 P) .nil .nil) .nil) (.node (o1012_52 P) (.node (o1524_76 P) .nil .nil) .nil)))))) (.node (o28_6 P) (.node (o44_6 P) (.node (o76_6 P) (.node (o140_41 P) (.node (o268_41 P) (.node (o524_41 P) (.node (o1036_52 P) .nil .nil) (.node (o1548_76 P) .nil .nil)) (.node (o780_41 P) (.node (o1292_52 P) .nil .nil) .nil)) (.node (o396_41 P) (.node (o652_41 P) (.node (o1164_52 P) .nil .nil) .nil) (.node (o908_52 P) (.node (o1420_52 P) .nil .nil) .nil))) (.node (o204_28 P) (.node (o332_41 P) (.node (o588_41 P) (.node (o1100_52 P) .nil .nil) (.node (o1612_76 P) .nil .nil)) (.node (o844_41 P) (.node (o1356_52 P) .nil .nil) .nil)) (.node (o460_41 P) (.node (o716_41 P) (.node (o1228_52 P) .nil .nil) .nil) (.node (o972_52 P) (.node (o1484_76 P) .nil .nil) .nil)))) (.node (o108_28 P) (.node (o172_28 P) (.node (o300_41 P) (.node (o556_41 P) (.node (o1068_52 P) .nil .nil) (.node (o1580_76 P) .nil .nil)) (.node (o812_41 P) (.node (o1324_52 P) .nil .nil) .nil)) (.node (o428_41 P) (.node (o684_41 P) (.node (o1196_52 P) .nil .nil) .nil) (.node (o940_52 P) (.node (o1452_76 P) .nil .nil) .nil))) (.node (o236_28 P) (.node (o364_41 P) (.node (o620_41 P) (.node (o1132_52 P) .nil .nil) (.node (o1644_76 P) .nil .nil)) (.node (o876_52 P) (.node (o1388_52 P) .nil .nil) .nil)) (.node (o492_41 P) (.node (o748_41 P) (.node (o1260_52 P) .nil .nil) .nil) (.node (o1004_52 P) (.node (o1516_76 P) .nil .nil) .nil))))) (.node (o60_6 P) (.node (o92_28 P) (.node (o156_28 P) (.node (o284_41 P) (.node (o540_41 P) (.node (o1052_52 P) .nil .nil) (.node (o1564_76 P) .nil .nil)) (.node (o796_41 P) (.node (o1308_52 P) .nil .nil) .nil)) (.node (o412_41 P) (.node (o668_41 P) (.node (o1180_52 P) .nil .nil) .nil) (.node (o924_52 P) (.node (o1436_76 P) .nil .nil) .nil))) (.node (o220_28 P) (.node (o348_41 P) (.node (o604_41 P) (.node (o1116_52 P) .nil .nil) (.node (o1628_76 P) .nil .nil)) (.node (o860_52 P) (.node (o1372_52 P) .nil .nil) .nil)) (.node (o476_41 P) (.node (o732_41 P) (.node (o1244_52 P) .nil .nil) .nil) (.node (o988_52 P) (.node (o1500_76 P) .nil .nil) .nil)))) (.node (o124_28 P) (.node (o188_28 P) (.node (o316_41 P) (.node (o572_41 P) (.node (o1084_52 P) .nil .nil) (.node (o1596_76 P) .nil .nil)) (.node (o828_41 P) (.node (o1340_52 P) .nil .nil) .nil)) (.node (o444_41 P) (.node (o700_41 P) (.node (o1212_52 P) .nil .nil) .nil) (.node (o956_52 P) (.node (o1468_76 P) .nil .nil) .nil))) (.node (o252_28 P) (.node (o380_41 P) (.node (o636_41 P) (.node (o1148_52 P) .nil .nil) (.node (o1660_76 P) .nil .nil)) (.node (o892_52 P) (.node (o1404_52 P) .nil .nil) .nil)) (.node (o508_41 P) (.node (o764_41 P) (.node (o1276_52 P) .nil .nil) .nil) (.node (o1020_52 P) (.node (o1532_76 P) .nil .nil) .nil)))))))) (.node (o6_0 P) (.node (o10_0 P) (.node (o18_6 P) (.node (o34_6 P) (.node (o66_6 P) (.node (o130_28 P) (.node (o258_28 P) (.node (o514_41 P) (.node (o1026_52 P) .nil .nil) (.node (o1538_76 P) .nil .nil)) (.node (o770_41 P) (.node (o1282_52 P) .nil .nil) .nil)) (.node (o386_41 P) (.node (o642_41 P) (.node (o1154_52 P) .nil .nil) (.node (o1666_76 P) .nil .nil)) (.node (o898_52 P) (.node (o1410_52 P) .nil .nil) .nil))) (.node (o194_28 P) (.node (o322_41 P) (.node (o578_41 P) (.node (o1090_52 P) .nil .nil) (.node (o1602_76 P) .nil .nil)) (.node (o834_41 P) (.node (o1346_52 P) .nil .nil) .nil)) (.node (o450_41 P) (.node (o706_41 P) (.node (o1218_52 P) .nil .nil) .nil) (.node (o962_52 P) (.node (o1474_76 P) .nil .nil) .nil)))) (.node (o98_28 P) (.node (o162_28 P) (.node (o290_41 P) (.node (o546_41 P) (.node (o1058_52 P) .nil .nil) (.node (o1570_76 P) .nil .nil)) (.node (o802_41 P) (.node (o1314_52 P) .nil .nil) .nil)) (.node (o418_41 P) (.node (o674_41 P) (.node (o1186_52 P) .nil .nil) .nil) (.node (o930_52 P) (.node (o1442_76 P) .nil .nil) .nil))) (.node (o226_28 P) (.node (o354_41 P) (.node (o610_41 P) (.node (o1122_52 P) .nil .nil) (.node (o1634_76 P) .nil .nil)) (.node (o866_52 P) (.node (o1378_52 P) .nil .nil) .nil)) (.node (o482_41 P) (.node (o738_41 P) (.node (o1250_52 P) .nil .nil) .nil) (.node (o994_52 P) (.node (o1506_76 P) .nil .nil) .nil))))) (.node (o50_6 P) (.node (o82_28 P) (.node (o146_28 P) (.node (o274_41 P) (.node (o530_41 P) (.node (o1042_52 P) .nil .nil) (.node (o1554_76 P) .nil .nil)) (.node (o786_41 P) (.node (o1298_52 P) .nil .nil) .nil)) (.node (o402_41 P) (.node (o658_41 P) (.node (o1170_52 P) .nil .nil) .nil) (.node (o914_52 P) (.node (o1426_76 P) .nil .nil) .nil))) (.node (o210_28 P) (.node (o338_41 P) (.node (o594_41 P) (.node (o1106_52 P) .nil .nil) (.node (o1618_76 P) .nil .nil)) (.node (o850_41 P) (.node (o1362_52 P) .nil .nil) .nil)) (.node (o466_41 P) (.node (o722_41 P) (.node (o1234_52 P) .nil .nil) .nil) (.node (o978_52 P) (.node (o1490_76 P) .nil .nil) .nil)))) (.node (o114_28 P) (.node (o178_28 P) (.node (o306_41 P) (.node (o562_41 P) (.node (o1074_52 P) .nil .nil) (.node (o1586_76 P) .nil .nil)) (.node (o818_41 P) (.node (o1330_52 P) .nil .nil) .nil)) (.node (o434_41 P) (.node (o690_41 P) (.node (o1202_52 P) .nil .nil) .nil) (.node (o946_52 P) (.node (o1458_76 P) .nil .nil) .nil))) (.node (o242_28 P) (.node (o370_41 P) (.node (o626_41 P) (.node (o1138_52 P) .nil .nil) (.node (o1650_76 P) .nil .nil)) (.node (o882_52 P) (.node (o1394_52 P) .nil .nil) .nil)) (.node (o498_41 P) (.node (o754_41 P) (.node (o1266_52 P) .nil .nil) .nil) (.node (o1010_52 P) (.node (o1522_76 P) .nil .nil) .nil)))))) (.node (o26_6 P) (.node (o42_6 P) (.node (o74_6 P) (.node (o138_28 P) (.node (o266_28 P) (.node (o522_41 P) (.node (o1034_52 P) .nil .nil) (.node (o1546_76 P) .nil .nil)) (.node (o778_41 P) (.node (o1290_52 P) .nil .nil) .nil)) (.node (o394_41 P) (.node (o650_41 P) (.node (o1162_52 P) .nil .nil) .nil) (.node (o906_52 P) (.node (o1418_52 P) .nil .nil) .nil))) (.node (o202_28 P) (.node (o330_41 P) (.node (o586_41 P) (.node (o1098_52 P) .nil .nil) (.node (o1610_76 P) .nil .nil)) (.node (o842_41 P) (.node (o1354_52 P) .nil .nil) .nil)) (.node (o458_41 P) (.node (o714_41 P) (.node (o1226_52 P) .nil .nil) .nil) (.node (o970_52 P) (.node (o1482_76 P) .nil .nil) .nil)))) (.node (o106_28 P) (.node (o170_28 P) (.node (o298_41 P) (.node (o554_41 P) (.node (o1066_52 P) .nil .nil) (.node (o1578_76 P) .nil .nil)) (.node (o810_41 P) (.node (o1322_52 P) .nil .nil) .nil)) (.node (o426_41 P) (.node (o682_41 P) (.node (o1194_52 P) .nil .nil) .nil) (.node (o938_52 P) (.node (o1450_76 P) .nil .nil) .nil))) (.node (o234_28 P) (.node (o362_41 P) (.node (o618_41 P) (.node (o1130_52 P) .nil .nil) (.node (o1642_76 P) .nil .nil)) (.node (o874_52 P) (.node (o1386_52 P) .nil .nil) .nil)) (.node (o490_41 P) (.node (o746_41 P) (.node (o1258_52 P) .nil .nil) .nil) (.node (o1002_52 P) (.node (o1514_76 P) .nil .nil) .nil))))) (.node (o58_6 P) (.node (o90_28 P) (.node (o154_28 P) (.node (o282_41 P) (.node (o538_41 P) (.node (o1050_52 P) .nil .nil) (.node (o1562_76 P) .nil .nil)) (.node (o794_41 P) (.node (o1306_52 P) .nil .nil) .nil)) (.node (o410_41 P) (.node (o666_41 P) (.node (o1178_52 P) .nil .nil) .nil) (.node (o922_52 P) (.node (o1434_76 P) .nil .nil) .nil))) (.node (o218_28 P) (.node (o346_41 P) (.node (o602_41 P) (.node (o1114_52 P) .nil .nil) (.node (o1626_76 P) .nil .nil)) (.node (o858_41 P) (.node (o1370_52 P) .nil .nil) .nil)) (.node (o474_41 P) (.node (o730_41 P) (.node (o1242_52 P) .nil .nil) .nil) (.node (o986_52 P) (.node (o1498_76 P) .nil .nil) .nil)))) (.node (o122_28 P) (.node (o186_28 P) (.node (o314_41 P) (.node (o570_41 P) (.node (o1082_52 P) .nil .nil) (.node (o1594_76 P) .nil .nil)) (.node (o826_41 P) (.node (o1338_52 P) .nil .nil) .nil)) (.node (o442_41 P) (.node (o698_41 P) (.node (o1210_52 P) .nil .nil) .nil) (.node (o954_52 P) (.node (o1466_76 P) .nil .nil) .nil))) (.node (o250_28 P) (.node (o378_41 P) (.node (o634_41 P) (.node (o1146_52 P) .nil .nil) (.node (o1658_76 P) .nil .nil)) (.node (o890_52 P) (.node (o1402_52 P) .nil .nil) .nil)) (.node (o506_41 P) (.node (o762_41 P) (.node (o1274_52 P) .nil .nil) .nil) (.node (o1018_52 P) (.node (o1530_76 P) .nil .nil) .nil))))))) (.node (o14_0 P) (.node (o22_6 P) (.node (o38_6 P) (.node (o70_6 P) (.node (o134_28 P) (.node (o262_41 P) (.node (o518_41 P) (.node (o1030_52 P) .nil .nil) (.node (o1542_76 P) .nil .nil)) (.node (o774_41 P) (.node (o1286_52 P) .nil .nil) .nil)) (.node (o390_41 P) (.node (o646_41 P) (.node (o1158_52 P) .nil .nil) .nil) (.node (o902_52 P) (.node (o1414_52 P) .nil .nil) .nil))) (.node (o198_28 P) (.node (o326_41 P) (.node (o582_41 P) (.node (o1094_52 P) .nil .nil) (.node (o1606_76 P) .nil .nil)) (.node (o838_41 P) (.node (o1350_52 P) .nil .nil) .nil)) (.node (o454_41 P) (.node (o710_41 P) (.node (o1222_52 P) .nil .nil) .nil) (.node (o966_52 P) (.node (o1478_76 P) .nil .nil) .nil)))) (.node (o102_28 P) (.node (o166_28 P) (.node (o294_41 P) (.node (o550_41 P) (.node (o1062_52 P) .nil .nil) (.node (o1574_76 P) .nil .nil)) (.node (o806_41 P) (.node (o1318_52 P) .nil .nil) .nil)) (.node (o422_41 P) (.node (o678_41 P) (.node (o1190_52 P) .nil .nil) .nil) (.node (o934_52 P) (.node (o1446_76 P) .nil .nil) .nil))) (.node (o230_28 P) (.node (o358_41 P) (.node (o614_41 P) (.node (o1126_52 P) .nil .nil) (.node (o1638_76 P) .nil .nil)) (.node (o870_52 P) (.node (o1382_52 P) .nil .nil) .nil)) (.node (o486_41 P) (.node (o742_41 P) (.node (o1254_52 P) .nil .nil) .nil) (.node (o998_52 P) (.node (o1510_76 P) .nil .nil) .nil))))) (.node (o54_6 P) (.node (o86_28 P) (.node (o150_28 P) (.node (o278_41 P) (.node (o534_41 P) (.node (o1046_52 P) .nil .nil) (.node (o1558_76 P) .nil .nil)) (.node (o790_41 P) (.node (o1302_52 P) .nil .nil) .nil)) (.node (o406_41 P) (.node (o662_41 P) (.node (o1174_52 P) .nil .nil) .nil) (.node (o918_52 P) (.node (o1430_76 P) .nil .nil) .nil))) (.node (o214_28 P) (.node (o342_41 P) (.node (o598_41 P) (.node (o1110_52 P) .nil .nil) (.node (o1622_76 P) .nil .nil)) (.node (o854_41 P) (.node (o1366_52 P) .nil .nil) .nil)) (.node (o470_41 P) (.node (o726_41 P) (.node (o1238_52 P) .nil .nil) .nil) (.node (o982_52 P) (.node (o1494_76 P) .nil .nil) .nil)))) (.node (o118_28 P) (.node (o182_28 P) (.node (o310_41 P) (.node (o566_41 P) (.node (o1078_52 P) .nil .nil) (.node (o1590_76 P) .nil .nil)) (.node (o822_41 P) (.node (o1334_52 P) .nil .nil) .nil)) (.node (o438_41 P) (.node (o694_41 P) (.node (o1206_52 P) .nil .nil) .nil) (.node (o950_52 P) (.node (o1462_76 P) .nil .nil) .nil))) (.node (o246_28 P) (.node (o374_41 P) (.node (o630_41 P) (.node (o1142_52 P) .nil .nil) (.node (o1654_76 P) .nil .nil)) (.node (o886_52 P) (.node (o1398_52 P) .nil .nil) .nil)) (.node (o502_41 P) (.node (o758_41 P) (.node (o1270_52 P) .nil .nil) .nil) (.node (o1014_52 P) (.node (o1526_76 P) .nil .nil) .nil)))))) (.node (o30_6 P) (.node (o46_6 P) (.node (o78_28 P) (.node (o142_28 P) (.node (o270_41 P) (.node (o526_41 P) (.node (o1038_52 P) .nil .nil) (.node (o1550_76 P) .nil .nil)) (.node (o782_41 P) (.node (o1294_52 P) .nil .nil) .nil)) (.node (o398_41 P) (.node (o654_41 P) (.node (o1166_52 P) .nil .nil) .nil) (.node (o910_52 P) (.node (o1422_52 P) .nil .nil) .nil))) (.node (o206_28 P) (.node (o334_41 P) (.node (o590_41 P) (.node (o1102_52 P) .nil .nil) (.node (o1614_76 P) .nil .nil)) (.node (o846_41 P) (.node (o1358_52 P) .nil .nil) .nil)) (.node (o462_41 P) (.node (o718_41 P) (.node (o1230_52 P) .nil .nil) .nil) (.node (o974_52 P) (.node (o1486_76 P) .nil .nil) .nil)))) (.node (o110_28 P) (.node (o174_28 P) (.node (o302_41 P) (.node (o558_41 P) (.node (o1070_52 P) .nil .nil) (.node (o1582_76 P) .nil .nil)) (.node (o814_41 P) (.node (o1326_52 P) .nil .nil) .nil)) (.node (o430_41 P) (.node (o686_41 P) (.node (o1198_52 P) .nil .nil) .nil) (.node (o942_52 P) (.node (o1454_76 P) .nil .nil) .nil))) (.node (o238_28 P) (.node (o366_41 P) (.node (o622_41 P) (.node (o1134_52 P) .nil .nil) (.node (o1646_76 P) .nil .nil)) (.node (o878_52 P) (.node (o1390_52 P) .nil .nil) .nil)) (.node (o494_41 P) (.node (o750_41 P) (.node (o1262_52 P) .nil .nil) .nil) (.node (o1006_52 P) (.node (o1518_76 P) .nil .nil) .nil))))) (.node (o62_6 P) (.node (o94_28 P) (.node (o158_28 P) (.node (o286_41 P) (.node (o542_41 P) (.node (o1054_52 P) .nil .nil) (.node (o1566_76 P) .nil .nil)) (.node (o798_41 P) (.node (o1310_52 P) .nil .nil) .nil)) (.node (o414_41 P) (.node (o670_41 P) (.node (o1182_52 P) .nil .nil) .nil) (.node (o926_52 P) (.node (o1438_76 P) .nil .nil) .nil))) (.node (o222_28 P) (.node (o350_41 P) (.node (o606_41 P) (.node (o1118_52 P) .nil .nil) (.node (o1630_76 P) .nil .nil)) (.node (o862_52 P) (.node (o1374_52 P) .nil .nil) .nil)) (.node (o478_41 P) (.node (o734_41 P) (.node (o1246_52 P) .nil .nil) .nil) (.node (o990_52 P) (.node (o1502_76 P) .nil .nil) .nil)))) (.node (o126_28 P) (.node (o190_28 P) (.node (o318_41 P) (.node (o574_41 P) (.node (o1086_52 P) .nil .nil) (.node (o1598_76 P) .nil .nil)) (.node (o830_41 P) (.node (o1342_52 P) .nil .nil) .nil)) (.node (o446_41 P) (.node (o702_41 P) (.node (o1214_52 P) .nil .nil) .nil) (.node (o958_52 P) (.node (o1470_76 P) .nil .nil) .nil))) (.node (o254_28 P) (.node (o382_41 P) (.node (o638_41 P) (.node (o1150_52 P) .nil .nil) (.node (o1662_76 P) .nil .nil)) (.node (o894_52 P) (.node (o1406_52 P) .nil .nil) .nil)) (.node (o510_41 P) (.node (o766_41 P) (.node (o1278_52 P) .nil .nil) .nil) (.node (o1022_52 P) (.node (o1534_76 P) .nil .nil) .nil))))))))))
-- boundary 76: objects 1668 toks 2311 steps so far 14343 pos { line := 1104, col := 0, endLine := 1124, endCol := 15 } life { } drawn { } gens 0

noncomputable def env : Env := { scope := pw.main.scope, locals := mainNs, globals := mainNs, cells := [], code := .ref 13, frame := some 14 }
noncomputable abbrev bE : List Stmt := behindTheImports pw
noncomputable def cE : Code := .body bE env
noncomputable abbrev topB : List Frame := [topFrame ⟨0, 0, 0, 0⟩]
noncomputable def slice (a n : Nat) : List Stmt := (pw.main.body.drop a).take n
noncomputable def S0 (w : World) (os : OsState) : SharedT := ⟨T0 w.params, 15, {}, Array.mk [], {}, 187, os⟩
noncomputable def S6 (w : World) (os : OsState) : SharedT := ⟨T6 w.params, 77, {}, Array.mk [], {}, 269, os⟩
noncomputable def S28 (w : World) (os : OsState) : SharedT := ⟨T28 w.params, 267, {}, Array.mk [], {}, 552, os⟩
noncomputable def S41 (w : World) (os : OsState) : SharedT := ⟨T41 w.params, 860, {}, Array.mk [], {}, 1266, os⟩
noncomputable def pos0 : Pos := ⟨0, 0, 0, 0⟩
noncomputable def pos6 : Pos := ⟨21, 0, 21, 6⟩
noncomputable def pos28 : Pos := ⟨91, 0, 112, 41⟩
noncomputable def pos41 : Pos := ⟨430, 0, 431, 21⟩
noncomputable def S52 (w : World) (os : OsState) : SharedT := ⟨T52 w.params, 1424, {}, Array.mk [], {}, 1940, os⟩
noncomputable def S76 (w : World) (os : OsState) : SharedT := ⟨T76 w.params, 1668, {}, Array.mk [], {}, 2311, os⟩
noncomputable def pos52 : Pos := ⟨840, 0, 840, 8⟩
noncomputable def pos76 : Pos := ⟨1104, 0, 1124, 15⟩

theorem p0 : ∀ (w : World) (os : OsState), segRunT treeTable pw w 11 (some (.ref 6)) 1 580 (S0 w os) (piecesOf (slice 0 6) env cE pos0 topB) = some (.next, S6 w os, cE, pos6) := by
  rw [PySem.W.Fast.te10110043849684766642, PySem.W.Fast.te14364793385576792824]
  refine byRow2 "special-get-raises" ?_ ?_
  · intro w os; kernel_rfl
  · intro w os; kernel_rfl

theorem p6 : ∀ (w : World) (os : OsState), segRunT treeTable pw w 11 (some (.ref 6)) 1 2684 (S6 w os) (piecesOf (slice 6 22) env cE pos6 topB) = some (.next, S28 w os, cE, pos28) := by
  rw [PySem.W.Fast.te10110043849684766642, PySem.W.Fast.te14364793385576792824]
  intro w os; kernel_rfl

theorem p28 : ∀ (w : World) (os : OsState), segRunT treeTable pw w 11 (some (.ref 6)) 1 4393 (S28 w os) (piecesOf (slice 28 13) env cE pos28 topB) = some (.next, S41 w os, cE, pos41) := by
  rw [PySem.W.Fast.te10110043849684766642, PySem.W.Fast.te14364793385576792824]
  intro w os; kernel_rfl

theorem p41 : ∀ (w : World) (os : OsState), segRunT treeTable pw w 11 (some (.ref 6)) 1 3890 (S41 w os) (piecesOf (slice 41 11) env cE pos41 topB) = some (.next, S52 w os, cE, pos52) := by
  rw [PySem.W.Fast.te10110043849684766642, PySem.W.Fast.te14364793385576792824]
  intro w os; kernel_rfl

theorem p52 : ∀ (w : World) (os : OsState), segRunT treeTable pw w 11 (some (.ref 6)) 1 2890 (S52 w os) (piecesOf (slice 52 24) env cE pos52 topB) = some (.next, S76 w os, cE, pos76) := by
  rw [PySem.W.Fast.te10110043849684766642, PySem.W.Fast.te14364793385576792824]
  intro w os; kernel_rfl
end
section
open PySem.Calls

noncomputable abbrev fk {x : Stmt} {n : Str} {a : Arguments} {b : List Stmt} {ds : List Expr} {ret : Option Expr} {tps : List TypeParam} {sc : Scope} {ts : Option Scope} {bd : Str} {pos : Pos} (_ : x = .FunctionDef n a b ds ret tps sc ts bd pos)
    (qual : Str) (dfl kwd doc pm : Value) (an : Option Addr) (code ct : Value) : Obj := ⟨.type "function", none, .func (fnOf n qual a b sc dfl kwd doc pm an code ct), #[]⟩
noncomputable abbrev dk {x : Stmt} {n : Str} {a : Arguments} {b : List Stmt} {ds : List Expr} {ret : Option Expr} {tps : List TypeParam} {sc : Scope} {ts : Option Scope} {bd : Str} {pos : Pos} (_ : x = .FunctionDef n a b ds ret tps sc ts bd pos) : DefRec := ⟨n, a, b, sc, pos⟩
noncomputable def K (P : Params) : Frag :=
  (nat_lit 2, ⟨.none, none, (.dict #[en P "type.__subclasses__.Exception.0" 347 (.int 127 0), en P "type.__subclasses__.Exception.n" 348 (.int 1 0), en P "type.__subclasses__.TypeError.0" 383 (.int 152 0), en P "type.__subclasses__.TypeError.n" 384 (.int 1 0), en P "type.__subclasses__.NotImplementedError.0" 433 (.int 188 0), en P "type.__subclasses__.NotImplementedError.n" 434 (.int 1 0), en P "type.__subclasses__.KeyError.0" 451 (.int 200 0), en P "type.__subclasses__.KeyError.n" 452 (.int 1 0), en P "type.__subclasses__.EOFError.0" 469 (.int 212 0), en P "type.__subclasses__.EOFError.n" 470 (.int 1 0), en P "type.__subclasses__.OSError.0" 1194 (.int 810 0), en P "type.__subclasses__.OSError.n" 1195 (.int 1 0)] 12), #[]⟩) ::
  (nat_lit 3, ⟨(.type "dict"), none, (.dict #[en P "__name__" 165 (.str (zs "law_ll0046_01") 2283), en P "__doc__" 166 .none, en P "__package__" 167 .none, en P "__loader__" 168 (.builtin "__main__.__loader__#opaque"), en P "__spec__" 169 .none, en P "__annotations__" 170 (.ref 6), en P "__builtins__" 171 (.ref 4), en P "__file__" 173 (.str (zs "/claim/cut.py") 172), en P "__cached__" 174 .none, en P "_wall" 193 (.ref 21), en P "Signs" 249 (.ref 58), en P "cast" 257 (.ref 69), en P "bws_re" 268 (.ref 71), en P "Error" 288 (.ref 86), en P "_ascii_buffer" 296 (.ref 96), en P "_hex_value" 303 (.ref 103), en P "a2b_hex" 316 (.ref 110), en P "unhexlify" 317 (.ref 110), en P "asciihexdecode" 327 (.ref 117), en P "STRICT" 328 (.bool false), en P "PSException" 350 (.ref 127), en P "PDFException" 368 (.ref 140), en P "PDFTypeError" 386 (.ref 152), en P "PDFValueError" 402 (.ref 164), en P "PDFObjectNotFound" 418 (.ref 176), en P "PDFNotImplementedError" 436 (.ref 188), en P "PDFKeyError" 454 (.ref 200), en P "PDFEOFError" 472 (.ref 212), en P "get_bytes" 481 (.ref 221), en P "BitParser" 551 (.ref 262), en P "CCITTG4Parser" 1025 (.ref 693), en P "CCITTFaxDecoder" 1066 (.ref 725), en P "ccittfaxdecode" 1079 (.ref 734), en P "CorruptDataError" 1097 (.ref 744), en P "LZWDecoder" 1157 (.ref 782), en P "_whence" 1167 (.ref 793), en P "_index" 1175 (.ref 800), en P "UnsupportedOperation" 1197 (.ref 810), en P "IOBase" 1229 (.ref 830), en P "BufferedIOBase" 1247 (.ref 845), en P "TextIOBase" 1265 (.ref 857), en P "BytesIO" 1527 (.ref 1087), en P "StringIO" 1814 (.ref 1334), en P "lzwdecode" 1825 (.ref 1343), en P "PSObject" 1847 (.ref 1353), en P "PSLiteral" 1889 (.ref 1388), en P "PSSymbolTable" 1928 (.ref 1414), en P "PSLiteralTable" 1935 (.ref 1420), en P "LIT" 1937 (.ref 1423), en P "rldecode" 1950 (.ref 1430), en P "paeth_predictor" 1965 (.ref 1437), en P "apply_tiff_predictor" 1983 (.ref 1444), en P "apply_png_predictor" 2013 (.ref 1451), en P "LITERAL_CRYPT" 2021 (.ref 1453), en P "LITERALS_LZW_DECODE" 2032 (.ref 1461), en P "LITERALS_ASCIIHEX_DECODE" 2043 (.ref 1468), en P "LITERALS_RUNLENGTH_DECODE" 2054 (.ref 1475), en P "LITERALS_CCITTFAX_DECODE" 2065 (.ref 1482), en P "LITERALS_DCT_DECODE" 2076 (.ref 1489), en P "LITERALS_JBIG2_DECODE" 2082 (.ref 1493), en P "LITERALS_JPX_DECODE" 2088 (.ref 1497), en P "PDFObject" 2104 (.ref 1507), en P "PDFObjRef" 2146 (.ref 1541), en P "resolve1" 2154 (.ref 1551), en P "int_value" 2161 (.ref 1558), en P "PDFStream" 2282 (.ref 1646), en P "_law_digits" 2286 (.bytes #[48, 49, 50, 51, 52, 53, 54, 55, 56, 57, 97, 98, 99, 100, 101, 102, 48, 49, 50, 51, 52, 53, 54, 55, 56, 57, 65, 66, 67, 68, 69, 70] 2285), en P "_law_octet" 2294 (.ref 1655), en P "_law_values" 2304 (.ref 1662), en P "law" 2310 (.ref 1667)] 70), #[]⟩) ::
  (nat_lit 29, ⟨(.type "tuple"), none, (.seq #[(.bool true)] 0), #[]⟩) ::
  (nat_lit 35, ⟨(.type "code"), none, (.fields #[(.str (zs "__init__") 208), (.str (zs "Signs.__init__") 209), (.str (zs "/claim/cut.py") 210), (.int 7 0), (.int 3 0), (.int 0 0), (.int 0 0), (.int 3 0), (.ref 30), (.bool true), (.int 181 0), (.ref 31), .none, (.ref 32), (.ref 33), (.ref 34), (.int 214 0), (.int 7 0), (.str (zs "/claim/cut.py") 215)]), #[]⟩) ::
  (nat_lit 36, (fk (rfl : (sc 2 0) = .FunctionDef _ _ _ _ _ _ _ _ _ _) (zs "Signs.__init__") (.ref 29) .none .none (.str (zs "pdfminer.stand_ins") 194) none (.ref 35) .none)) ::
  (nat_lit 42, ⟨(.type "code"), none, (.fields #[(.str (zs "search") 217), (.str (zs "Signs.search") 218), (.str (zs "/claim/cut.py") 219), (.int 10 0), (.int 3 0), (.int 0 0), (.int 0 0), (.int 3 0), (.ref 37), (.bool true), (.int 181 0), (.ref 38), .none, (.ref 39), (.ref 40), (.ref 41), (.int 223 0), (.int 10 0), (.str (zs "/claim/cut.py") 224)]), #[]⟩) ::
  (nat_lit 43, (fk (rfl : (sc 2 1) = .FunctionDef _ _ _ _ _ _ _ _ _ _) (zs "Signs.search") .none .none .none (.str (zs "pdfminer.stand_ins") 194) none (.ref 42) .none)) ::
  (nat_lit 49, ⟨(.type "code"), none, (.fields #[(.str (zs "match") 226), (.str (zs "Signs.match") 227), (.str (zs "/claim/cut.py") 228), (.int 13 0), (.int 2 0), (.int 0 0), (.int 0 0), (.int 3 0), (.ref 44), (.bool true), (.int 181 0), (.ref 45), .none, (.ref 46), (.ref 47), (.ref 48), (.int 231 0), (.int 13 0), (.str (zs "/claim/cut.py") 232)]), #[]⟩) ::
  (nat_lit 50, (fk (rfl : (sc 2 2) = .FunctionDef _ _ _ _ _ _ _ _ _ _) (zs "Signs.match") .none .none .none (.str (zs "pdfminer.stand_ins") 194) none (.ref 49) .none)) ::
  (nat_lit 54, ⟨(.type "code"), none, (.fields #[(.str (zs "sub") 234), (.str (zs "Signs.sub") 235), (.str (zs "/claim/cut.py") 236), (.int 16 0), (.int 3 0), (.int 0 0), (.int 0 0), (.int 3 0), (.ref 51), (.bool true), (.int 181 0), (.ref 52), .none, .none, .none, (.ref 53), (.int 237 0), (.int 16 0), (.str (zs "/claim/cut.py") 238)]), #[]⟩) ::
  (nat_lit 55, (fk (rfl : (sc 2 3) = .FunctionDef _ _ _ _ _ _ _ _ _ _) (zs "Signs.sub") .none .none .none (.str (zs "pdfminer.stand_ins") 194) none (.ref 54) .none)) ::
  (nat_lit 56, ⟨(.type "tuple"), none, (.seq #[(.str (zs "among") 240), (.str (zs "octets") 241)] 0), #[]⟩) ::
  (nat_lit 57, ⟨(.type "dict"), none, (.dict #[en P "__module__" 203 (.str (zs "pdfminer.stand_ins") 194), en P "__firstlineno__" 207 (.int 5 206), en P "__init__" 216 (.ref 36), en P "search" 225 (.ref 43), en P "match" 233 (.ref 50), en P "sub" 239 (.ref 55), en P "__static_attributes__" 242 (.ref 56), en P "__dict__" 244 (.ref 59), en P "__weakref__" 246 (.ref 60), en P "__doc__" 247 .none] 4), #[]⟩) ::
  (nat_lit 58, ⟨(.type "type"), none, (.cls ⟨(zs "Signs"), [(.type "object")], [(.ref 58), (.type "object")], 57, (zs "Signs"), true, [], [], false, none, false⟩), #[none, none, some (.str (zs "Signs") 196), some (.str (zs "Signs") 204), some (.builtin "object.__new__"), some (.bool true)]⟩) ::
  (nat_lit 59, ⟨(.type "getset_descriptor"), none, (.fields #[(.str (zs "__dict__") 243), (.ref 58), (.builtin "function.__dict__"), (.builtin "function.__dict__#set")]), #[]⟩) ::
  (nat_lit 60, ⟨(.type "getset_descriptor"), none, (.fields #[(.str (zs "__weakref__") 245), (.ref 58), (.builtin "ExceptionGroup.__weakref__"), .none]), #[]⟩) ::
  (nat_lit 70, ⟨(.type "dict"), none, (.dict #[en P "octets" 265 (.bytes #[32, 9, 10, 13, 11, 12] 260), en P "among" 267 (.bool true)] 2), #[]⟩) ::
  (nat_lit 71, ⟨(.ref 58), (some 70), .plain, #[]⟩) ::
  (nat_lit 84, ⟨(.type "tuple"), none, (.seq #[] 0), #[]⟩) ::
  (nat_lit 85, ⟨(.type "dict"), none, (.dict #[en P "__module__" 278 (.str (zs "binascii") 269), en P "__firstlineno__" 282 (.int 23 281), en P "__static_attributes__" 283 (.ref 84), en P "__weakref__" 285 (.ref 87), en P "__doc__" 286 .none] 3), #[]⟩) ::
  (nat_lit 86, ⟨(.type "type"), none, (.cls ⟨(zs "Error"), [(.type "ValueError")], [(.ref 86), (.type "ValueError"), (.type "Exception"), (.type "BaseException"), (.type "object")], 85, (zs "Error"), true, [], [], false, none, false⟩), #[some (.ref 77), none, some (.str (zs "Error") 271), some (.str (zs "Error") 279), some (.builtin "ValueError.__new__"), some (.bool true)]⟩) ::
  (nat_lit 87, ⟨(.type "getset_descriptor"), none, (.fields #[(.str (zs "__weakref__") 284), (.ref 86), (.builtin "ExceptionGroup.__weakref__"), .none]), #[]⟩) ::
  (nat_lit 95, ⟨(.type "code"), none, (.fields #[(.str (zs "_ascii_buffer") 289), (.str (zs "_ascii_buffer") 290), (.str (zs "/claim/cut.py") 291), (.int 25 0), (.int 1 0), (.int 0 0), (.int 0 0), (.int 3 0), (.ref 90), (.bool true), (.int 181 0), (.ref 91), .none, (.ref 92), (.ref 93), (.ref 94), (.int 294 0), (.int 25 0), (.str (zs "/claim/cut.py") 295)]), #[]⟩) ::
  (nat_lit 96, (fk (rfl : (st 8) = .FunctionDef _ _ _ _ _ _ _ _ _ _) (zs "_ascii_buffer") .none .none .none (.str (zs "binascii") 269) none (.ref 95) .none)) ::
  (nat_lit 102, ⟨(.type "code"), none, (.fields #[(.str (zs "_hex_value") 297), (.str (zs "_hex_value") 298), (.str (zs "/claim/cut.py") 299), (.int 36 0), (.int 1 0), (.int 0 0), (.int 0 0), (.int 3 0), (.ref 97), (.bool true), (.int 181 0), (.ref 98), .none, (.ref 99), (.ref 100), (.ref 101), (.int 301 0), (.int 36 0), (.str (zs "/claim/cut.py") 302)]), #[]⟩) ::
  (nat_lit 103, (fk (rfl : (st 9) = .FunctionDef _ _ _ _ _ _ _ _ _ _) (zs "_hex_value") .none .none .none (.str (zs "binascii") 269) none (.ref 102) .none)) ::
  (nat_lit 109, ⟨(.type "code"), none, (.fields #[(.str (zs "a2b_hex") 304), (.str (zs "a2b_hex") 305), (.str (zs "/claim/cut.py") 306), (.int 44 0), (.int 1 0), (.int 1 0), (.int 0 0), (.int 3 0), (.ref 104), (.bool true), (.int 181 0), (.ref 105), .none, (.ref 106), (.ref 107), (.ref 108), (.int 314 0), (.int 44 0), (.str (zs "/claim/cut.py") 315)]), #[]⟩) ::
  (nat_lit 110, (fk (rfl : (st 10) = .FunctionDef _ _ _ _ _ _ _ _ _ _) (zs "a2b_hex") .none .none .none (.str (zs "binascii") 269) none (.ref 109) .none)) ::
  (nat_lit 116, ⟨(.type "code"), none, (.fields #[(.str (zs "asciihexdecode") 320), (.str (zs "asciihexdecode") 321), (.str (zs "/claim/cut.py") 322), (.int 61 0), (.int 1 0), (.int 0 0), (.int 0 0), (.int 3 0), (.ref 111), (.bool true), (.int 181 0), (.ref 112), .none, (.ref 113), (.ref 114), (.ref 115), (.int 325 0), (.int 61 0), (.str (zs "/claim/cut.py") 326)]), #[]⟩) ::
  (nat_lit 117, (fk (rfl : (st 13) = .FunctionDef _ _ _ _ _ _ _ _ _ _) (zs "asciihexdecode") .none .none .none (.str (zs "pdfminer.ascii85") 318) none (.ref 116) .none)) ::
  (nat_lit 1351, ⟨(.type "tuple"), none, (.seq #[] 0), #[]⟩) ::
  (nat_lit 1352, ⟨(.type "dict"), none, (.dict #[en P "__module__" 1835 (.str (zs "pdfminer.psparser") 1826), en P "__firstlineno__" 1839 (.int 813 1838), en P "__static_attributes__" 1840 (.ref 1351), en P "__dict__" 1842 (.ref 1354), en P "__weakref__" 1844 (.ref 1355), en P "__doc__" 1845 .none] 4), #[]⟩) ::
  (nat_lit 1353, ⟨(.type "type"), none, (.cls ⟨(zs "PSObject"), [(.type "object")], [(.ref 1353), (.type "object")], 1352, (zs "PSObject"), true, [], [(.ref 1388), (.ref 1507)], false, none, false⟩), #[none, none, some (.str (zs "PSObject") 1828), some (.str (zs "PSObject") 1836), some (.builtin "object.__new__"), some (.bool true)]⟩) ::
  (nat_lit 1354, ⟨(.type "getset_descriptor"), none, (.fields #[(.str (zs "__dict__") 1841), (.ref 1353), (.builtin "function.__dict__"), (.builtin "function.__dict__#set")]), #[]⟩) ::
  (nat_lit 1355, ⟨(.type "getset_descriptor"), none, (.fields #[(.str (zs "__weakref__") 1843), (.ref 1353), (.builtin "ExceptionGroup.__weakref__"), .none]), #[]⟩) ::
  (nat_lit 1370, ⟨(.type "code"), none, (.fields #[(.str (zs "__init__") 1860), (.str (zs "PSLiteral.__init__") 1861), (.str (zs "/claim/cut.py") 1862), (.int 817 0), (.int 2 0), (.int 0 0), (.int 0 0), (.int 3 0), (.ref 1365), (.bool true), (.int 181 0), (.ref 1366), .none, (.ref 1367), (.ref 1368), (.ref 1369), (.int 1865 0), (.int 817 0), (.str (zs "/claim/cut.py") 1866)]), #[]⟩) ::
  (nat_lit 1371, (fk (rfl : (sc 47 0) = .FunctionDef _ _ _ _ _ _ _ _ _ _) (zs "PSLiteral.__init__") .none .none .none (.str (zs "pdfminer.psparser") 1826) none (.ref 1370) .none)) ::
  (nat_lit 1377, ⟨(.type "code"), none, (.fields #[(.str (zs "__eq__") 1868), (.str (zs "PSLiteral.__eq__") 1869), (.str (zs "/claim/cut.py") 1870), (.int 820 0), (.int 2 0), (.int 0 0), (.int 0 0), (.int 3 0), (.ref 1372), (.bool true), (.int 181 0), (.ref 1373), .none, (.ref 1374), (.ref 1375), (.ref 1376), (.int 1873 0), (.int 820 0), (.str (zs "/claim/cut.py") 1874)]), #[]⟩) ::
  (nat_lit 1378, (fk (rfl : (sc 47 1) = .FunctionDef _ _ _ _ _ _ _ _ _ _) (zs "PSLiteral.__eq__") .none .none .none (.str (zs "pdfminer.psparser") 1826) none (.ref 1377) .none)) ::
  (nat_lit 1384, ⟨(.type "code"), none, (.fields #[(.str (zs "__repr__") 1876), (.str (zs "PSLiteral.__repr__") 1877), (.str (zs "/claim/cut.py") 1878), (.int 823 0), (.int 1 0), (.int 0 0), (.int 0 0), (.int 3 0), (.ref 1379), (.bool true), (.int 181 0), (.ref 1380), .none, (.ref 1381), (.ref 1382), (.ref 1383), (.int 1881 0), (.int 823 0), (.str (zs "/claim/cut.py") 1882)]), #[]⟩) ::
  (nat_lit 1385, (fk (rfl : (sc 47 2) = .FunctionDef _ _ _ _ _ _ _ _ _ _) (zs "PSLiteral.__repr__") .none .none .none (.str (zs "pdfminer.psparser") 1826) none (.ref 1384) .none)) ::
  (nat_lit 1386, ⟨(.type "tuple"), none, (.seq #[(.str (zs "name") 1884)] 0), #[]⟩) ::
  (nat_lit 1387, ⟨(.type "dict"), none, (.dict #[en P "__module__" 1855 (.str (zs "pdfminer.psparser") 1826), en P "__firstlineno__" 1859 (.int 815 1858), en P "__init__" 1867 (.ref 1371), en P "__eq__" 1875 (.ref 1378), en P "__repr__" 1883 (.ref 1385), en P "__static_attributes__" 1885 (.ref 1386), en P "__doc__" 1886 .none, en P "__hash__" 1887 .none] 3), #[]⟩) ::
  (nat_lit 1388, ⟨(.type "type"), none, (.cls ⟨(zs "PSLiteral"), [(.ref 1353)], [(.ref 1388), (.ref 1353), (.type "object")], 1387, (zs "PSLiteral"), true, [], [], false, none, false⟩), #[some (.ref 1358), none, some (.str (zs "PSLiteral") 1848), some (.str (zs "PSLiteral") 1856), some (.builtin "object.__new__"), some (.bool true)]⟩) ::
  (nat_lit 1403, ⟨(.type "code"), none, (.fields #[(.str (zs "__init__") 1902), (.str (zs "PSSymbolTable.__init__") 1903), (.str (zs "/claim/cut.py") 1904), (.int 828 0), (.int 2 0), (.int 0 0), (.int 0 0), (.int 3 0), (.ref 1398), (.bool true), (.int 181 0), (.ref 1399), .none, (.ref 1400), (.ref 1401), (.ref 1402), (.int 1907 0), (.int 828 0), (.str (zs "/claim/cut.py") 1908)]), #[]⟩) ::
  (nat_lit 1404, (fk (rfl : (sc 48 0) = .FunctionDef _ _ _ _ _ _ _ _ _ _) (zs "PSSymbolTable.__init__") .none .none .none (.str (zs "pdfminer.psparser") 1826) none (.ref 1403) .none)) ::
  (nat_lit 1410, ⟨(.type "code"), none, (.fields #[(.str (zs "intern") 1910), (.str (zs "PSSymbolTable.intern") 1911), (.str (zs "/claim/cut.py") 1912), (.int 832 0), (.int 2 0), (.int 0 0), (.int 0 0), (.int 3 0), (.ref 1405), (.bool true), (.int 181 0), (.ref 1406), .none, (.ref 1407), (.ref 1408), (.ref 1409), (.int 1916 0), (.int 832 0), (.str (zs "/claim/cut.py") 1917)]), #[]⟩) ::
  (nat_lit 1411, (fk (rfl : (sc 48 1) = .FunctionDef _ _ _ _ _ _ _ _ _ _) (zs "PSSymbolTable.intern") .none .none .none (.str (zs "pdfminer.psparser") 1826) none (.ref 1410) .none)) ::
  (nat_lit 1412, ⟨(.type "tuple"), none, (.seq #[(.str (zs "dict") 1919), (.str (zs "klass") 1920)] 0), #[]⟩) ::
  (nat_lit 1413, ⟨(.type "dict"), none, (.dict #[en P "__module__" 1897 (.str (zs "pdfminer.psparser") 1826), en P "__firstlineno__" 1901 (.int 826 1900), en P "__init__" 1909 (.ref 1404), en P "intern" 1918 (.ref 1411), en P "__static_attributes__" 1921 (.ref 1412), en P "__dict__" 1923 (.ref 1415), en P "__weakref__" 1925 (.ref 1416), en P "__doc__" 1926 .none] 4), #[]⟩) ::
  (nat_lit 1414, ⟨(.type "type"), none, (.cls ⟨(zs "PSSymbolTable"), [(.type "object")], [(.ref 1414), (.type "object")], 1413, (zs "PSSymbolTable"), true, [], [], false, none, false⟩), #[none, none, some (.str (zs "PSSymbolTable") 1890), some (.str (zs "PSSymbolTable") 1898), some (.builtin "object.__new__"), some (.bool true)]⟩) ::
  (nat_lit 1415, ⟨(.type "getset_descriptor"), none, (.fields #[(.str (zs "__dict__") 1922), (.ref 1414), (.builtin "function.__dict__"), (.builtin "function.__dict__#set")]), #[]⟩) ::
  (nat_lit 1416, ⟨(.type "getset_descriptor"), none, (.fields #[(.str (zs "__weakref__") 1924), (.ref 1414), (.builtin "ExceptionGroup.__weakref__"), .none]), #[]⟩) ::
  (nat_lit 1419, ⟨(.type "dict"), none, (.dict #[en P "dict" 1932 (.ref 1422), en P "klass" 1934 (.ref 1388)] 2), #[]⟩) ::
  (nat_lit 1420, ⟨(.ref 1414), (some 1419), .plain, #[]⟩) ::
  (nat_lit 1422, ⟨(.type "dict"), none, (.dict #[] 0), #[]⟩) ::
  (nat_lit 1423, ⟨(.type "method"), none, (.fields #[(.ref 1411), (.ref 1420)]), #[]⟩) ::
  (nat_lit 1452, ⟨(.type "dict"), none, (.dict #[en P "name" 2020 (.str (zs "Crypt") 2016)] 1), #[]⟩) ::
  (nat_lit 1453, ⟨(.ref 1388), (some 1452), .plain, #[]⟩) ::
  (nat_lit 1455, ⟨(.type "dict"), none, (.dict #[en P "name" 2026 (.str (zs "LZWDecode") 2022)] 1), #[]⟩) ::
  (nat_lit 1456, ⟨(.ref 1388), (some 1455), .plain, #[]⟩) ::
  (nat_lit 1458, ⟨(.type "dict"), none, (.dict #[en P "name" 2031 (.str (zs "LZW") 2027)] 1), #[]⟩) ::
  (nat_lit 1459, ⟨(.ref 1388), (some 1458), .plain, #[]⟩) ::
  (nat_lit 1461, ⟨(.type "tuple"), none, (.seq #[(.ref 1456), (.ref 1459)] 0), #[]⟩) ::
  (nat_lit 1462, ⟨(.type "dict"), none, (.dict #[en P "name" 2037 (.str (zs "ASCIIHexDecode") 2033)] 1), #[]⟩) ::
  (nat_lit 1463, ⟨(.ref 1388), (some 1462), .plain, #[]⟩) ::
  (nat_lit 1465, ⟨(.type "dict"), none, (.dict #[en P "name" 2042 (.str (zs "AHx") 2038)] 1), #[]⟩) ::
  (nat_lit 1466, ⟨(.ref 1388), (some 1465), .plain, #[]⟩) ::
  (nat_lit 1468, ⟨(.type "tuple"), none, (.seq #[(.ref 1463), (.ref 1466)] 0), #[]⟩) ::
  (nat_lit 1469, ⟨(.type "dict"), none, (.dict #[en P "name" 2048 (.str (zs "RunLengthDecode") 2044)] 1), #[]⟩) ::
  (nat_lit 1470, ⟨(.ref 1388), (some 1469), .plain, #[]⟩) ::
  (nat_lit 1472, ⟨(.type "dict"), none, (.dict #[en P "name" 2053 (.str (zs "RL") 2049)] 1), #[]⟩) ::
  (nat_lit 1473, ⟨(.ref 1388), (some 1472), .plain, #[]⟩) ::
  (nat_lit 1475, ⟨(.type "tuple"), none, (.seq #[(.ref 1470), (.ref 1473)] 0), #[]⟩) ::
  (nat_lit 1476, ⟨(.type "dict"), none, (.dict #[en P "name" 2059 (.str (zs "CCITTFaxDecode") 2055)] 1), #[]⟩) ::
  (nat_lit 1477, ⟨(.ref 1388), (some 1476), .plain, #[]⟩) ::
  (nat_lit 1479, ⟨(.type "dict"), none, (.dict #[en P "name" 2064 (.str (zs "CCF") 2060)] 1), #[]⟩) ::
  (nat_lit 1480, ⟨(.ref 1388), (some 1479), .plain, #[]⟩) ::
  (nat_lit 1482, ⟨(.type "tuple"), none, (.seq #[(.ref 1477), (.ref 1480)] 0), #[]⟩) ::
  (nat_lit 1483, ⟨(.type "dict"), none, (.dict #[en P "name" 2070 (.str (zs "DCTDecode") 2066)] 1), #[]⟩) ::
  (nat_lit 1484, ⟨(.ref 1388), (some 1483), .plain, #[]⟩) ::
  (nat_lit 1486, ⟨(.type "dict"), none, (.dict #[en P "name" 2075 (.str (zs "DCT") 2071)] 1), #[]⟩) ::
  (nat_lit 1487, ⟨(.ref 1388), (some 1486), .plain, #[]⟩) ::
  (nat_lit 1489, ⟨(.type "tuple"), none, (.seq #[(.ref 1484), (.ref 1487)] 0), #[]⟩) ::
  (nat_lit 1490, ⟨(.type "dict"), none, (.dict #[en P "name" 2081 (.str (zs "JBIG2Decode") 2077)] 1), #[]⟩) ::
  (nat_lit 1491, ⟨(.ref 1388), (some 1490), .plain, #[]⟩) ::
  (nat_lit 1493, ⟨(.type "tuple"), none, (.seq #[(.ref 1491)] 0), #[]⟩) ::
  (nat_lit 1494, ⟨(.type "dict"), none, (.dict #[en P "name" 2087 (.str (zs "JPXDecode") 2083)] 1), #[]⟩) ::
  (nat_lit 1495, ⟨(.ref 1388), (some 1494), .plain, #[]⟩) ::
  (nat_lit 1497, ⟨(.type "tuple"), none, (.seq #[(.ref 1495)] 0), #[]⟩) ::
  (nat_lit 1505, ⟨(.type "tuple"), none, (.seq #[] 0), #[]⟩) ::
  (nat_lit 1506, ⟨(.type "dict"), none, (.dict #[en P "__module__" 2096 (.str (zs "pdfminer.pdftypes") 2014), en P "__firstlineno__" 2100 (.int 938 2099), en P "__static_attributes__" 2101 (.ref 1505), en P "__doc__" 2102 .none] 2), #[]⟩) ::
  (nat_lit 1507, ⟨(.type "type"), none, (.cls ⟨(zs "PDFObject"), [(.ref 1353)], [(.ref 1507), (.ref 1353), (.type "object")], 1506, (zs "PDFObject"), true, [], [(.ref 1541), (.ref 1646)], false, none, false⟩), #[some (.ref 1498), none, some (.str (zs "PDFObject") 2089), some (.str (zs "PDFObject") 2097), some (.builtin "object.__new__"), some (.bool true)]⟩) ::
  (nat_lit 1522, ⟨(.type "code"), none, (.fields #[(.str (zs "__init__") 2117), (.str (zs "PDFObjRef.__init__") 2118), (.str (zs "/claim/cut.py") 2119), (.int 942 0), (.int 3 0), (.int 0 0), (.int 0 0), (.int 3 0), (.ref 1517), (.bool true), (.int 181 0), (.ref 1518), .none, (.ref 1519), (.ref 1520), (.ref 1521), (.int 2123 0), (.int 942 0), (.str (zs "/claim/cut.py") 2124)]), #[]⟩) ::
  (nat_lit 1523, (fk (rfl : (sc 67 0) = .FunctionDef _ _ _ _ _ _ _ _ _ _) (zs "PDFObjRef.__init__") .none .none .none (.str (zs "pdfminer.pdftypes") 2014) none (.ref 1522) .none)) ::
  (nat_lit 1529, ⟨(.type "code"), none, (.fields #[(.str (zs "__repr__") 2126), (.str (zs "PDFObjRef.__repr__") 2127), (.str (zs "/claim/cut.py") 2128), (.int 948 0), (.int 1 0), (.int 0 0), (.int 0 0), (.int 3 0), (.ref 1524), (.bool true), (.int 181 0), (.ref 1525), .none, (.ref 1526), (.ref 1527), (.ref 1528), (.int 2130 0), (.int 948 0), (.str (zs "/claim/cut.py") 2131)]), #[]⟩) ::
  (nat_lit 1530, (fk (rfl : (sc 67 1) = .FunctionDef _ _ _ _ _ _ _ _ _ _) (zs "PDFObjRef.__repr__") .none .none .none (.str (zs "pdfminer.pdftypes") 2014) none (.ref 1529) .none)) ::
  (nat_lit 1531, ⟨(.type "tuple"), none, (.seq #[.none] 0), #[]⟩) ::
  (nat_lit 1537, ⟨(.type "code"), none, (.fields #[(.str (zs "resolve") 2133), (.str (zs "PDFObjRef.resolve") 2134), (.str (zs "/claim/cut.py") 2135), (.int 951 0), (.int 2 0), (.int 0 0), (.int 0 0), (.int 3 0), (.ref 1532), (.bool true), (.int 181 0), (.ref 1533), .none, (.ref 1534), (.ref 1535), (.ref 1536), (.int 2138 0), (.int 951 0), (.str (zs "/claim/cut.py") 2139)]), #[]⟩) ::
  (nat_lit 1538, (fk (rfl : (sc 67 2) = .FunctionDef _ _ _ _ _ _ _ _ _ _) (zs "PDFObjRef.resolve") (.ref 1531) .none .none (.str (zs "pdfminer.pdftypes") 2014) none (.ref 1537) .none)) ::
  (nat_lit 1539, ⟨(.type "tuple"), none, (.seq #[(.str (zs "doc") 2141), (.str (zs "objid") 2142)] 0), #[]⟩) ::
  (nat_lit 1540, ⟨(.type "dict"), none, (.dict #[en P "__module__" 2112 (.str (zs "pdfminer.pdftypes") 2014), en P "__firstlineno__" 2116 (.int 940 2115), en P "__init__" 2125 (.ref 1523), en P "__repr__" 2132 (.ref 1530), en P "resolve" 2140 (.ref 1538), en P "__static_attributes__" 2143 (.ref 1539), en P "__doc__" 2144 .none] 2), #[]⟩) ::
  (nat_lit 1541, ⟨(.type "type"), none, (.cls ⟨(zs "PDFObjRef"), [(.ref 1507)], [(.ref 1541), (.ref 1507), (.ref 1353), (.type "object")], 1540, (zs "PDFObjRef"), true, [], [], false, none, false⟩), #[some (.ref 1510), none, some (.str (zs "PDFObjRef") 2105), some (.str (zs "PDFObjRef") 2113), some (.builtin "object.__new__"), some (.bool true)]⟩) ::
  (nat_lit 1544, ⟨(.type "tuple"), none, (.seq #[.none] 0), #[]⟩) ::
  (nat_lit 1550, ⟨(.type "code"), none, (.fields #[(.str (zs "resolve1") 2147), (.str (zs "resolve1") 2148), (.str (zs "/claim/cut.py") 2149), (.int 957 0), (.int 2 0), (.int 0 0), (.int 0 0), (.int 3 0), (.ref 1545), (.bool true), (.int 181 0), (.ref 1546), .none, (.ref 1547), (.ref 1548), (.ref 1549), (.int 2152 0), (.int 957 0), (.str (zs "/claim/cut.py") 2153)]), #[]⟩) ::
  (nat_lit 1551, (fk (rfl : (st 68) = .FunctionDef _ _ _ _ _ _ _ _ _ _) (zs "resolve1") (.ref 1544) .none .none (.str (zs "pdfminer.pdftypes") 2014) none (.ref 1550) .none)) ::
  (nat_lit 1566, ⟨(.type "tuple"), none, (.seq #[.none] 0), #[]⟩) ::
  (nat_lit 1572, ⟨(.type "code"), none, (.fields #[(.str (zs "__init__") 2174), (.str (zs "PDFStream.__init__") 2175), (.str (zs "/claim/cut.py") 2176), (.int 970 0), (.int 4 0), (.int 0 0), (.int 0 0), (.int 3 0), (.ref 1567), (.bool true), (.int 181 0), (.ref 1568), .none, (.ref 1569), (.ref 1570), (.ref 1571), (.int 2181 0), (.int 970 0), (.str (zs "/claim/cut.py") 2182)]), #[]⟩) ::
  (nat_lit 1573, (fk (rfl : (sc 70 0) = .FunctionDef _ _ _ _ _ _ _ _ _ _) (zs "PDFStream.__init__") (.ref 1566) .none .none (.str (zs "pdfminer.pdftypes") 2014) none (.ref 1572) .none)) ::
  (nat_lit 1579, ⟨(.type "code"), none, (.fields #[(.str (zs "set_objid") 2184), (.str (zs "PDFStream.set_objid") 2185), (.str (zs "/claim/cut.py") 2186), (.int 979 0), (.int 3 0), (.int 0 0), (.int 0 0), (.int 3 0), (.ref 1574), (.bool true), (.int 181 0), (.ref 1575), .none, (.ref 1576), (.ref 1577), (.ref 1578), (.int 2190 0), (.int 979 0), (.str (zs "/claim/cut.py") 2191)]), #[]⟩) ::
  (nat_lit 1580, (fk (rfl : (sc 70 1) = .FunctionDef _ _ _ _ _ _ _ _ _ _) (zs "PDFStream.set_objid") .none .none .none (.str (zs "pdfminer.pdftypes") 2014) none (.ref 1579) .none)) ::
  (nat_lit 1586, ⟨(.type "code"), none, (.fields #[(.str (zs "__repr__") 2193), (.str (zs "PDFStream.__repr__") 2194), (.str (zs "/claim/cut.py") 2195), (.int 982 0), (.int 1 0), (.int 0 0), (.int 0 0), (.int 3 0), (.ref 1581), (.bool true), (.int 181 0), (.ref 1582), .none, (.ref 1583), (.ref 1584), (.ref 1585), (.int 2197 0), (.int 982 0), (.str (zs "/claim/cut.py") 2198)]), #[]⟩) ::
  (nat_lit 1587, (fk (rfl : (sc 70 2) = .FunctionDef _ _ _ _ _ _ _ _ _ _) (zs "PDFStream.__repr__") .none .none .none (.str (zs "pdfminer.pdftypes") 2014) none (.ref 1586) .none)) ::
  (nat_lit 1593, ⟨(.type "code"), none, (.fields #[(.str (zs "__contains__") 2200), (.str (zs "PDFStream.__contains__") 2201), (.str (zs "/claim/cut.py") 2202), (.int 990 0), (.int 2 0), (.int 0 0), (.int 0 0), (.int 3 0), (.ref 1588), (.bool true), (.int 181 0), (.ref 1589), .none, (.ref 1590), (.ref 1591), (.ref 1592), (.int 2205 0), (.int 990 0), (.str (zs "/claim/cut.py") 2206)]), #[]⟩) ::
  (nat_lit 1594, (fk (rfl : (sc 70 3) = .FunctionDef _ _ _ _ _ _ _ _ _ _) (zs "PDFStream.__contains__") .none .none .none (.str (zs "pdfminer.pdftypes") 2014) none (.ref 1593) .none)) ::
  (nat_lit 1600, ⟨(.type "code"), none, (.fields #[(.str (zs "__getitem__") 2208), (.str (zs "PDFStream.__getitem__") 2209), (.str (zs "/claim/cut.py") 2210), (.int 993 0), (.int 2 0), (.int 0 0), (.int 0 0), (.int 3 0), (.ref 1595), (.bool true), (.int 181 0), (.ref 1596), .none, (.ref 1597), (.ref 1598), (.ref 1599), (.int 2214 0), (.int 993 0), (.str (zs "/claim/cut.py") 2215)]), #[]⟩) ::
  (nat_lit 1601, (fk (rfl : (sc 70 4) = .FunctionDef _ _ _ _ _ _ _ _ _ _) (zs "PDFStream.__getitem__") .none .none .none (.str (zs "pdfminer.pdftypes") 2014) none (.ref 1600) .none)) ::
  (nat_lit 1602, ⟨(.type "tuple"), none, (.seq #[.none] 0), #[]⟩) ::
  (nat_lit 1608, ⟨(.type "code"), none, (.fields #[(.str (zs "get") 2217), (.str (zs "PDFStream.get") 2218), (.str (zs "/claim/cut.py") 2219), (.int 999 0), (.int 3 0), (.int 0 0), (.int 0 0), (.int 3 0), (.ref 1603), (.bool true), (.int 181 0), (.ref 1604), .none, (.ref 1605), (.ref 1606), (.ref 1607), (.int 2223 0), (.int 999 0), (.str (zs "/claim/cut.py") 2224)]), #[]⟩) ::
  (nat_lit 1609, (fk (rfl : (sc 70 5) = .FunctionDef _ _ _ _ _ _ _ _ _ _) (zs "PDFStream.get") (.ref 1602) .none .none (.str (zs "pdfminer.pdftypes") 2014) none (.ref 1608) .none)) ::
  (nat_lit 1610, ⟨(.type "tuple"), none, (.seq #[.none] 0), #[]⟩) ::
  (nat_lit 1616, ⟨(.type "code"), none, (.fields #[(.str (zs "get_any") 2226), (.str (zs "PDFStream.get_any") 2227), (.str (zs "/claim/cut.py") 2228), (.int 1002 0), (.int 3 0), (.int 0 0), (.int 0 0), (.int 3 0), (.ref 1611), (.bool true), (.int 181 0), (.ref 1612), .none, (.ref 1613), (.ref 1614), (.ref 1615), (.int 2233 0), (.int 1002 0), (.str (zs "/claim/cut.py") 2234)]), #[]⟩) ::
  (nat_lit 1617, (fk (rfl : (sc 70 6) = .FunctionDef _ _ _ _ _ _ _ _ _ _) (zs "PDFStream.get_any") (.ref 1610) .none .none (.str (zs "pdfminer.pdftypes") 2014) none (.ref 1616) .none)) ::
  (nat_lit 1621, ⟨(.type "code"), none, (.fields #[(.str (zs "get_filters") 2236), (.str (zs "PDFStream.get_filters") 2237), (.str (zs "/claim/cut.py") 2238), (.int 1008 0), (.int 1 0), (.int 0 0), (.int 0 0), (.int 3 0), (.ref 1618), (.bool true), (.int 181 0), (.ref 1619), .none, .none, .none, (.ref 1620), (.int 2239 0), (.int 1008 0), (.str (zs "/claim/cut.py") 2240)]), #[]⟩) ::
  (nat_lit 1622, (fk (rfl : (sc 70 7) = .FunctionDef _ _ _ _ _ _ _ _ _ _) (zs "PDFStream.get_filters") .none .none .none (.str (zs "pdfminer.pdftypes") 2014) none (.ref 1621) .none)) ::
  (nat_lit 1628, ⟨(.type "code"), none, (.fields #[(.str (zs "decode") 2242), (.str (zs "PDFStream.decode") 2243), (.str (zs "/claim/cut.py") 2244), (.int 1023 0), (.int 1 0), (.int 0 0), (.int 0 0), (.int 3 0), (.ref 1623), (.bool true), (.int 181 0), (.ref 1624), .none, (.ref 1625), (.ref 1626), (.ref 1627), (.int 2256 0), (.int 1023 0), (.str (zs "/claim/cut.py") 2257)]), #[]⟩) ::
  (nat_lit 1629, (fk (rfl : (sc 70 8) = .FunctionDef _ _ _ _ _ _ _ _ _ _) (zs "PDFStream.decode") .none .none .none (.str (zs "pdfminer.pdftypes") 2014) none (.ref 1628) .none)) ::
  (nat_lit 1635, ⟨(.type "code"), none, (.fields #[(.str (zs "get_data") 2259), (.str (zs "PDFStream.get_data") 2260), (.str (zs "/claim/cut.py") 2261), (.int 1074 0), (.int 1 0), (.int 0 0), (.int 0 0), (.int 3 0), (.ref 1630), (.bool true), (.int 181 0), (.ref 1631), .none, (.ref 1632), (.ref 1633), (.ref 1634), (.int 2263 0), (.int 1074 0), (.str (zs "/claim/cut.py") 2264)]), #[]⟩) ::
  (nat_lit 1636, (fk (rfl : (sc 70 9) = .FunctionDef _ _ _ _ _ _ _ _ _ _) (zs "PDFStream.get_data") .none .none .none (.str (zs "pdfminer.pdftypes") 2014) none (.ref 1635) .none)) ::
  (nat_lit 1642, ⟨(.type "code"), none, (.fields #[(.str (zs "get_rawdata") 2266), (.str (zs "PDFStream.get_rawdata") 2267), (.str (zs "/claim/cut.py") 2268), (.int 1080 0), (.int 1 0), (.int 0 0), (.int 0 0), (.int 3 0), (.ref 1637), (.bool true), (.int 181 0), (.ref 1638), .none, (.ref 1639), (.ref 1640), (.ref 1641), (.int 2270 0), (.int 1080 0), (.str (zs "/claim/cut.py") 2271)]), #[]⟩) ::
  (nat_lit 1643, (fk (rfl : (sc 70 10) = .FunctionDef _ _ _ _ _ _ _ _ _ _) (zs "PDFStream.get_rawdata") .none .none .none (.str (zs "pdfminer.pdftypes") 2014) none (.ref 1642) .none)) ::
  (nat_lit 1644, ⟨(.type "tuple"), none, (.seq #[(.str (zs "attrs") 2273), (.str (zs "data") 2274), (.str (zs "decipher") 2275), (.str (zs "genno") 2276), (.str (zs "objid") 2277), (.str (zs "rawdata") 2278)] 0), #[]⟩) ::
  (nat_lit 1645, ⟨(.type "dict"), none, (.dict #[en P "__module__" 2169 (.str (zs "pdfminer.pdftypes") 2014), en P "__firstlineno__" 2173 (.int 968 2172), en P "__init__" 2183 (.ref 1573), en P "set_objid" 2192 (.ref 1580), en P "__repr__" 2199 (.ref 1587), en P "__contains__" 2207 (.ref 1594), en P "__getitem__" 2216 (.ref 1601), en P "get" 2225 (.ref 1609), en P "get_any" 2235 (.ref 1617), en P "get_filters" 2241 (.ref 1622), en P "decode" 2258 (.ref 1629), en P "get_data" 2265 (.ref 1636), en P "get_rawdata" 2272 (.ref 1643), en P "__static_attributes__" 2279 (.ref 1644), en P "__doc__" 2280 .none] 2), #[]⟩) ::
  (nat_lit 1646, ⟨(.type "type"), none, (.cls ⟨(zs "PDFStream"), [(.ref 1507)], [(.ref 1646), (.ref 1507), (.ref 1353), (.type "object")], 1645, (zs "PDFStream"), true, [], [], false, none, false⟩), #[some (.ref 1559), none, some (.str (zs "PDFStream") 2162), some (.str (zs "PDFStream") 2170), some (.builtin "object.__new__"), some (.bool true)]⟩) ::
  (nat_lit 1654, ⟨(.type "code"), none, (.fields #[(.str (zs "_law_octet") 2287), (.str (zs "_law_octet") 2288), (.str (zs "/claim/cut.py") 2289), (.int 1084 0), (.int 1 0), (.int 0 0), (.int 0 0), (.int 3 0), (.ref 1649), (.bool true), (.int 181 0), (.ref 1650), .none, (.ref 1651), (.ref 1652), (.ref 1653), (.int 2292 0), (.int 1084 0), (.str (zs "/claim/cut.py") 2293)]), #[]⟩) ::
  (nat_lit 1655, (fk (rfl : (st 73) = .FunctionDef _ _ _ _ _ _ _ _ _ _) (zs "_law_octet") .none .none .none (.str (zs "law_ll0046_01") 2283) none (.ref 1654) .none)) ::
  (nat_lit 1661, ⟨(.type "code"), none, (.fields #[(.str (zs "_law_values") 2295), (.str (zs "_law_values") 2296), (.str (zs "/claim/cut.py") 2297), (.int 1093 0), (.int 1 0), (.int 0 0), (.int 0 0), (.int 3 0), (.ref 1656), (.bool true), (.int 181 0), (.ref 1657), .none, (.ref 1658), (.ref 1659), (.ref 1660), (.int 2302 0), (.int 1093 0), (.str (zs "/claim/cut.py") 2303)]), #[]⟩) ::
  (nat_lit 1662, (fk (rfl : (st 74) = .FunctionDef _ _ _ _ _ _ _ _ _ _) (zs "_law_values") .none .none .none (.str (zs "law_ll0046_01") 2283) none (.ref 1661) .none)) ::
  (nat_lit 1666, ⟨(.type "code"), none, (.fields #[(.str (zs "law") 2305), (.str (zs "law") 2306), (.str (zs "/claim/cut.py") 2307), (.int 1104 0), (.int 1 0), (.int 0 0), (.int 0 0), (.int 3 0), (.ref 1663), (.bool true), (.int 181 0), (.ref 1664), .none, .none, .none, (.ref 1665), (.int 2308 0), (.int 1104 0), (.str (zs "/claim/cut.py") 2309)]), #[]⟩) ::
  (nat_lit 1667, (fk (rfl : (st 75) = .FunctionDef _ _ _ _ _ _ _ _ _ _) (zs "law") .none .none .none (.str (zs "law_ll0046_01") 2283) none (.ref 1666) .none)) ::
  []
noncomputable def kas : List Addr := 2 :: 3 :: 29 :: 35 :: 36 :: 42 :: 43 :: 49 :: 50 :: 54 :: 55 :: 56 :: 57 :: 58 :: 59 :: 60 :: 70 :: 71 :: 84 :: 85 :: 86 :: 87 :: 95 :: 96 :: 102 :: 103 :: 109 :: 110 :: 116 :: 117 :: 1351 :: 1352 :: 1353 :: 1354 :: 1355 :: 1370 :: 1371 :: 1377 :: 1378 :: 1384 :: 1385 :: 1386 :: 1387 :: 1388 :: 1403 :: 1404 :: 1410 :: 1411 :: 1412 :: 1413 :: 1414 :: 1415 :: 1416 :: 1419 :: 1420 :: 1422 :: 1423 :: 1452 :: 1453 :: 1455 :: 1456 :: 1458 :: 1459 :: 1461 :: 1462 :: 1463 :: 1465 :: 1466 :: 1468 :: 1469 :: 1470 :: 1472 :: 1473 :: 1475 :: 1476 :: 1477 :: 1479 :: 1480 :: 1482 :: 1483 :: 1484 :: 1486 :: 1487 :: 1489 :: 1490 :: 1491 :: 1493 :: 1494 :: 1495 :: 1497 :: 1505 :: 1506 :: 1507 :: 1522 :: 1523 :: 1529 :: 1530 :: 1531 :: 1537 :: 1538 :: 1539 :: 1540 :: 1541 :: 1544 :: 1550 :: 1551 :: 1566 :: 1572 :: 1573 :: 1579 :: 1580 :: 1586 :: 1587 :: 1593 :: 1594 :: 1600 :: 1601 :: 1602 :: 1608 :: 1609 :: 1610 :: 1616 :: 1617 :: 1621 :: 1622 :: 1628 :: 1629 :: 1635 :: 1636 :: 1642 :: 1643 :: 1644 :: 1645 :: 1646 :: 1654 :: 1655 :: 1661 :: 1662 :: 1666 :: 1667 :: []

noncomputable def loose : List Str := (zs "_wall") :: (zs "__name__") :: (zs "Signs") :: (zs "cast") :: (zs "bws_re") :: (zs "Error") :: (zs "_ascii_buffer") :: (zs "_hex_value") :: (zs "a2b_hex") :: (zs "unhexlify") :: (zs "asciihexdecode") :: (zs "STRICT") :: (zs "PSException") :: (zs "PDFException") :: (zs "PDFTypeError") :: (zs "PDFValueError") :: (zs "PDFObjectNotFound") :: (zs "PDFNotImplementedError") :: (zs "PDFKeyError") :: (zs "PDFEOFError") :: (zs "get_bytes") :: (zs "BitParser") :: (zs "CCITTG4Parser") :: (zs "CCITTFaxDecoder") :: (zs "ccittfaxdecode") :: (zs "CorruptDataError") :: (zs "LZWDecoder") :: (zs "_whence") :: (zs "_index") :: (zs "UnsupportedOperation") :: (zs "IOBase") :: (zs "BufferedIOBase") :: (zs "TextIOBase") :: (zs "BytesIO") :: (zs "StringIO") :: (zs "lzwdecode") :: (zs "PSObject") :: (zs "PSLiteral") :: (zs "PSSymbolTable") :: (zs "PSLiteralTable") :: (zs "LIT") :: (zs "rldecode") :: (zs "paeth_predictor") :: (zs "apply_tiff_predictor") :: (zs "apply_png_predictor") :: (zs "LITERAL_CRYPT") :: (zs "LITERALS_LZW_DECODE") :: (zs "LITERALS_ASCIIHEX_DECODE") :: (zs "LITERALS_RUNLENGTH_DECODE") :: (zs "LITERALS_CCITTFAX_DECODE") :: (zs "LITERALS_DCT_DECODE") :: (zs "LITERALS_JBIG2_DECODE") :: (zs "LITERALS_JPX_DECODE") :: (zs "PDFObject") :: (zs "PDFObjRef") :: (zs "resolve1") :: (zs "int_value") :: (zs "PDFStream") :: (zs "_law_digits") :: (zs "_law_octet") :: (zs "_law_values") :: []

noncomputable def q : Program := { pw with main := { pw.main with body := [st 75] } }
theorem kas_eq (P : Params) : kas = (K P).map (·.1) := by kernel_rfl
noncomputable abbrev Xt (s : Shared) : Bool := xlAt q [] s && recOk [] s
noncomputable abbrev look (w : World) (s : Shared) := ((staticsOk (importedModules pw.main.body) (boot_heap w.params) s.heap && namesBound pw s.heap && gensDone s && laidKept (boot_heap w.params) s.heap), openSeen q loose (importedModules pw.main.body) Xt true s, kas.map s.heap.get?)

theorem look76a : ∀ (w : World) (os : OsState), (staticsOk (importedModules pw.main.body) (boot_heap w.params) (S76 w os).abs.heap && namesBound pw (S76 w os).abs.heap && gensDone (S76 w os).abs && laidKept (boot_heap w.params) (S76 w os).abs.heap) = true := by
  rw [PySem.W.Fast.te5923862056798008813]
  intro w os; kernel_rfl
theorem look76b : ∀ (w : World) (os : OsState), openSeen q loose (importedModules pw.main.body) Xt true (S76 w os).abs = openGood q loose := by
  rw [PySem.W.Fast.te4187177175401517315, PySem.W.Fast.te5923862056798008813]
  intro w os; kernel_rfl
theorem look76c : ∀ (w : World) (os : OsState), kas.map (S76 w os).abs.heap.get? = (K w.params).map fun p => some p.2 := by
  intro w os; kernel_rfl
theorem look76 (w : World) (os : OsState) : look w (S76 w os).abs = (true, openGood q loose, (K w.params).map fun p => some p.2) :=
  Prod.ext (look76a w os) (Prod.ext (look76b w os) (look76c w os))
end
section
open PySem.Calls

theorem body_eq : bE = slice 0 6 ++ (slice 6 22 ++ (slice 28 13 ++ (slice 41 11 ++ (slice 52 24 ++ [])))) := by kernel_rfl
theorem fin_run (s : Shared) : topRun treeTable pw w 11 (some (.ref 6)) 2 s (restOf [] env cE pos76 topB) = some s := by
  obtain ⟨h, g, d, t, o⟩ := s
  rfl
theorem block_run (w : World) (s : Shared) : segRun treeTable pw w 11 (some (.ref 6)) 1 1 s (blockOf bE env cE pos0 topB) = some (.next, s, cE, pos0) := by
  obtain ⟨h, g, d, t, o⟩ := s
  kernel_rfl
theorem pre_run : ∀ (w : World) (os : OsState), topGo treeTable pw w 11 (some (.ref 6)) 12 ⟨boot_heap w.params, Array.mk [], boot_drawn, boot_toks, os⟩ (topStub pw) = some ((S0 w os).abs, ⟨denote treeTable cE, cE, pos0, topB⟩) := by
  rw [PySem.W.Fast.te14364793385576792824, PySem.W.Fast.te15667345088766844465, PySem.W.Fast.te11892475500146522536]
  intro w os; kernel_rfl
theorem size_ok (w : World) : ((boot_heap w.params).isNs mainGlobals && (Array.mk [] : Array GenState).size == 0, (boot_heap w.params).objs.size, (boot_heap w.params).nsMap mainGlobals "__annotations__") = (true, 11, some (.ref 6)) := by kernel_rfl
theorem opening_eq : opening pw = plainProg pw.main.scope.names := by kernel_rfl
theorem fence_eq (s : Shared) : fenceModules? pw s = some s := by kernel_rfl
theorem open_ok : ∀ w : World, (fencedOpening treeTable pw w 30000).map (fun s => (s.heap, s.gens, s.drawn, s.toks)) = some (boot_heap w.params, Array.mk [], boot_drawn, boot_toks) := boot_open opening_eq (by decide) fence_eq

theorem run_ok (w : World) (os : OsState) : ∃ s₁ : Shared, topRun treeTable pw w 11 (some (.ref 6)) 30000 ⟨boot_heap w.params, Array.mk [], boot_drawn, boot_toks, os⟩ (topStub pw) = some s₁ ∧
    look w s₁ = (true, openGood q loose, (K w.params).map fun p => some p.2) := by
  refine ⟨(S76 w os).abs, ?_, look76 w os⟩
  have k52 := piece_app (rest := []) (segRun_of (p52 w os)) (fin_run (w := w) (S76 w os).abs)
  have k41 := piece_app (segRun_of (p41 w os)) k52
  have k28 := piece_app (segRun_of (p28 w os)) k41
  have k6 := piece_app (segRun_of (p6 w os)) k28
  have k0 := piece_app (segRun_of (p0 w os)) k6
  rw [← body_eq] at k0
  have kb := piece_block (block_run w (S0 w os).abs) k0
  have kt := go_top (pre_run w os) kb
  have := topRun_mono (30000 - (12 + (1 + (580 + (2684 + (4393 + (3890 + (2890 + 2)))))))) _ _ _ _ kt
  exact this

theorem left : LeftO pw q loose Xt (fun s => kas.map s.heap.get?) (fun w => (K w.params).map fun p => some p.2) 30000 := fun w => by
  obtain ⟨⟨h, gs, d, k, os⟩, e, e'⟩ := Option.map_eq_some_iff.mp (open_ok w)
  obtain ⟨rfl, rfl, rfl, rfl⟩ : h = boot_heap w.params ∧ gs = Array.mk [] ∧ d = boot_drawn ∧ k = boot_toks := by simpa using e'
  obtain ⟨z1, z2, z3⟩ : _ ∧ _ ∧ _ := by simpa only [Prod.mk.injEq] using size_ok w
  obtain ⟨s₁, r, hl⟩ := run_ok w os
  obtain ⟨l1, l2, l3⟩ : _ ∧ _ ∧ _ := by simpa only [look, Prod.mk.injEq] using hl
  have t : topFrom treeTable pw w 30000 ⟨boot_heap w.params, Array.mk [], boot_drawn, boot_toks, os⟩ = some s₁ := by
    unfold topFrom
    dsimp only
    rw [z1, z2, z3, r]
    show (match staticsOk (importedModules pw.main.body) (boot_heap w.params) s₁.heap && namesBound pw s₁.heap && gensDone s₁ && laidKept (boot_heap w.params) s₁.heap with | true => _ | false => _) = _
    rw [l1]
  unfold openEnds
  rw [e]
  show (topFrom treeTable pw w 30000 _).map _ = _
  rw [t]
  exact congrArg some (Prod.ext l2 l3)
end
section
open PySem.Calls

abbrev row : OpenRow := PySem.Challenge.rw_ll0046_01.row
noncomputable abbrev lawD : DefRec := dk (rfl : st 75 = .FunctionDef _ _ _ _ _ _ _ _ _ _)
theorem law_ok : PySem.Challenge.rw_ll0046_01.wellSaid = true := by
  rw [PySem.W.Fast.te9446332074065402090]
  kernel_rfl
theorem law_def : defOf q row.name = some (lawD, []) := by
  unfold defOf
  rw [PySem.W.Fast.te3399658132070893891]
  kernel_rfl
theorem law_the : row.prog.theDef row.name = some (lawD.params, lawD.body, lawD.scope) := by
  rw [PySem.W.Fast.te10235530238920679567]
  kernel_rfl
theorem law_kw : kwWritten? lawD.params.kwonlyargs lawD.params.kw_defaults = some [] := by kernel_rfl
theorem promised : row.toRowW.promised := by w_witness2
theorem opens_ok : opensWell pw = true := by
  unfold opensWell
  kernel_rfl
theorem row_ok : (chainsOk q && opensWell row.prog && (frees row.toRowW && row.within.isEmpty)) = true := by
  rw [show chainsOk q = true by kernel_rfl, show opensWell row.prog = true from opens_ok]
  kernel_rfl
theorem whole : row.prog.tablesWhole = true := by kernel_rfl
theorem bare : row.prog.bare := ⟨rfl, rfl, rfl, rfl, rfl, whole⟩
theorem head (call : WalkO q loose (XL q []) (kHook K kas kas_eq).says row.toRowW lawD [] fun f vs => PySem.call f vs) : PySem.Challenge.rw_ll0046_01.Holds :=
  holds_law law_ok fun said =>
    PySem.W.holds_open (r := row) (q := q) (loose := loose) (Xt := Xt) (XP := XL q []) left (kHook K kas kas_eq).of (kHook K kas kas_eq).keeps (fun s e => xl_of s (Bool.and_eq_true_iff.mp e).1) XL.keeps law_def law_the law_kw
      (fun s e => recFacts_of (Bool.and_eq_true_iff.mp e).2) (by rfl) said row_ok bare promised call
end
section
open PySem.Builtin

-- an int in bytes
theorem gives_in {b : Array UInt8} {t u : Tok} {i : Int} (h0 : 0 ≤ i) (h1 : i < 256) :
    Gives («bytes.__contains__» ⟨[.bytes b t, .int i u], []⟩) (.val (.bool (b.contains i.toNat.toUInt8))) := by
  refine .of_wp fun M A E s Q hq => ?_
  show wpAny M A (Bytes.containsIn "bytes.__contains__" (.bytes b t) (.int i u) >>= fun r => ret (.bool r)) _ E s
  refine wpAny_bind ?_
  unfold Bytes.containsIn
  refine wpAny_bind (wpAny_attempt (wpAny_of_eq (rfl : asIndex (.int i u) = pure i) ?_))
  refine wpAny_bind (wpAny_of_eq KBy.buffer_eq ?_)
  show wpAny M A (if (decide (i < 0) || decide (i ≥ 256)) = true then _ else _) _ E s
  rw [if_neg (by simp; omega)]
  exact wpAny_pure (wpAny_pure ⟨_, rfl, hq⟩)

theorem in_bytes {prog : Program} {w : World} {A : Around} {E : Value → Shared → Prop} {s : Shared} {b : Array UInt8} {t u : Tok} {i : Int} {Q : Value → Shared → Prop}
    (h0 : 0 ≤ i) (h1 : i < 256) (h : Q (.bool (b.contains i.toNat.toUInt8)) s) : wpAny (model prog w) A (compareOp .In (.int i u) (.bytes b t)) Q E s :=
  in_gives (typeIs_bytes s b t) FB.slot_bytes_contains FB.entry_bytes_contains (FB.args_bytes_contains_2 _ _) (gives_in h0 h1) h
theorem notIn_bytes {prog : Program} {w : World} {A : Around} {E : Value → Shared → Prop} {s : Shared} {b : Array UInt8} {t u : Tok} {i : Int} {Q : Value → Shared → Prop}
    (h0 : 0 ≤ i) (h1 : i < 256) (h : Q (.bool (!b.contains i.toNat.toUInt8)) s) : wpAny (model prog w) A (compareOp .NotIn (.int i u) (.bytes b t)) Q E s :=
  notIn_gives (typeIs_bytes s b t) FB.slot_bytes_contains FB.entry_bytes_contains (FB.args_bytes_contains_2 _ _) (gives_in h0 h1) h

-- bytes.find
theorem slot_find : Slot "bytes" "find" "bytes.find" :=
  .of (owner := "bytes") (n := "find") (by rw [typeLookup_type, builtinLookup_eq_fast]; kernel_rfl) (by decide +kernel) (by decide +kernel) (by decide +kernel)
    (by first | exact .inl (by decide +kernel) | exact .inr (by decide +kernel)) (by rw [isSubtype_type]; kernel_rfl)
theorem type_find : typeOf (.builtin "bytes.find") = pure (.type "method_descriptor") := by show builtinType _ = _; rw [builtinType_eq_fast]; kernel_rfl
theorem entry_find : entryFor table "bytes.find" = some Builtin.«bytes.find» := entryFor_of_tree (by kernel_rfl)
theorem args_find (a b : Value) : argsOk "bytes.find" ⟨[a, b], []⟩ := by
  unfold argsOk; rw [signature?_of (id := "bytes.find") (n := ['d', 'n', 'i', 'f']) (o := ['s', 'e', 't', 'y', 'b']) (by kernel_rfl) FB.owner_bytes]; kernel_rfl

@[irreducible] noncomputable def findAt (b c : Array UInt8) : Int := match (if (b.size : Int) < c.size then none else Bytes.find? b c 0 b.size) with
  | some i => (i : Int)
  | none => -1

theorem window_all {b : Array UInt8} : Bytes.window b.size none none = (0, (b.size : Int)) := by
  unfold Bytes.window
  simp only [Option.getD_none]
  have h : ¬ ((b.size : Int) < 0) := by omega
  rw [if_neg h]
  simp

theorem wp_searchArgs {M : Model} {A : Around} {E : Value → Shared → Prop} {s : Shared} {b c : Array UInt8} {t u : Tok} {Q : Array UInt8 × Array UInt8 × Option (Nat × Nat) → Shared → Prop}
    (h : Q (b, c, if (b.size : Int) < c.size then none else some (0, b.size)) s) : wpAny M A (Bytes.searchArgs .bytes "find" ⟨[.bytes b t, .bytes c u], []⟩) Q E s := by
  unfold Bytes.searchArgs
  refine wpAny_bind (wpAny_of_eq (rfl : selfAndSome _ "find" 1 3 ⟨[.bytes b t, .bytes c u], []⟩ = pure (.bytes b t, [.bytes c u])) ?_)
  refine wpAny_bind (wpAny_of_eq (rfl : Bytes.bound? none = pure none) ?_)
  refine wpAny_bind (wpAny_of_eq (rfl : Bytes.bound? none = pure none) ?_)
  show wpAny M A (Bytes.buffer? _ (.bytes c u) >>= fun r => _) _ E s
  refine wpAny_bind (wpAny_of_eq KBy.buffer_eq ?_)
  refine wpAny_bind (wpAny_pure ?_)
  refine wpAny_bind (wpAny_of_eq (rfl : Bytes.payload (.bytes b t) = pure b) ?_)
  refine wpAny_pure ?_
  have e1 : ¬ ((b.size : Int) < 0) := by omega
  simp only [Option.getD_none, if_neg e1, if_neg (Int.lt_irrefl 0), Int.min_self, Int.sub_zero, Int.toNat_natCast, Int.toNat_zero]
  exact h

theorem gives_find {b c : Array UInt8} {t u : Tok} : Gives («bytes.find» ⟨[.bytes b t, .bytes c u], []⟩) (.int (findAt b c)) := by
  refine .of_wp fun M A E s Q hq => ?_
  show wpAny M A (Bytes.searchM .bytes "find" false false _) _ E s
  unfold Bytes.searchM
  refine wpAny_bind (wp_searchArgs ?_)
  unfold findAt at hq
  by_cases hc : (b.size : Int) < c.size
  · simp only [hc, if_true, Option.bind_none] at hq ⊢
    exact wpAny_bind (wpAny_rule (wpAny_bind (wpAny_mkInt (wpAny_pure ⟨_, rfl, hq⟩))))
  · simp only [hc, if_false, Option.bind_some, Bool.false_eq_true] at hq ⊢
    cases hf : Bytes.find? b c 0 b.size with
    | none =>
      simp only [hf] at hq ⊢
      exact wpAny_bind (wpAny_rule (wpAny_bind (wpAny_mkInt (wpAny_pure ⟨_, rfl, hq⟩))))
    | some i =>
      simp only [hf] at hq ⊢
      exact wpAny_bind (wpAny_mkInt (wpAny_pure ⟨_, rfl, hq⟩))

theorem find_bytes {prog : Program} {w : World} {A : Around} {E : Value → Shared → Prop} {s : Shared} {b c : Array UInt8} {t u : Tok} {Q : Value → Shared → Prop}
    (h : Q (.int (findAt b c) s.toks) { s with toks := s.toks + 1 }) : wpAny (model prog w) A (call (.builtin "bytes.find") [.bytes b t, .bytes c u]) Q E s :=
  call_gives slot_find (typeIs_bytes s b t) entry_find (args_find _ _) gives_find h
theorem meth_find {M : Model} {A : Around} {E : Value → Shared → Prop} {s : Shared} {b : Array UInt8} {t : Tok} {pl : Sem Bool} {Q : Value × List Value → Shared → Prop} (h : Q (.builtin "bytes.find", [.bytes b t]) s) :
    wpAny M A (getMethod (.bytes b t) "find" pl) Q E s := by
  with_reducible exact KBd.method_of (.bytes b t) (typeIs_bytes _ _ _) slot_find type_find KBd.noRef h

-- bytes.join
theorem slot_join : Slot "bytes" "join" "bytes.join" :=
  .of (owner := "bytes") (n := "join") (by rw [typeLookup_type, builtinLookup_eq_fast]; kernel_rfl) (by decide +kernel) (by decide +kernel) (by decide +kernel)
    (by first | exact .inl (by decide +kernel) | exact .inr (by decide +kernel)) (by rw [isSubtype_type]; kernel_rfl)
theorem type_join : typeOf (.builtin "bytes.join") = pure (.type "method_descriptor") := by show builtinType _ = _; rw [builtinType_eq_fast]; kernel_rfl
theorem entry_join : entryFor table "bytes.join" = some Builtin.«bytes.join» := entryFor_of_tree (by kernel_rfl)
theorem args_join (a b : Value) : argsOk "bytes.join" ⟨[a, b], []⟩ := by
  unfold argsOk; rw [signature?_of (id := "bytes.join") (n := ['n', 'i', 'o', 'j']) (o := ['s', 'e', 't', 'y', 'b']) (by kernel_rfl) FB.owner_bytes]; kernel_rfl
theorem meth_join {M : Model} {A : Around} {E : Value → Shared → Prop} {s : Shared} {b : Array UInt8} {t : Tok} {pl : Sem Bool} {Q : Value × List Value → Shared → Prop} (h : Q (.builtin "bytes.join", [.bytes b t]) s) :
    wpAny M A (getMethod (.bytes b t) "join" pl) Q E s := by
  with_reducible exact KBd.method_of (.bytes b t) (typeIs_bytes _ _ _) slot_join type_join KBd.noRef h

theorem wp_forIn {α β : Type} {M : Model} {A : Around} {E : Value → Shared → Prop} {Q : β → Shared → Prop} (f : α → β → Sem (ForInStep β)) (I : List α → β → Shared → Prop)
    (step : ∀ x l b s, I (x :: l) b s → wpAny M A (f x b) (fun r s' => ∃ b', r = .yield b' ∧ I l b' s') E s) (done : ∀ b s, I [] b s → Q b s) :
    ∀ (l : List α) (b : β) (s : Shared), I l b s → wpAny M A (forIn l b f) Q E s
  | [], b, s, h => by
    rw [List.forIn_nil]
    exact wpAny_pure (done b s h)
  | x :: l, b, s, h => by
    rw [List.forIn_cons]
    refine wpAny_bind (wpAny_mono (step x l b s h) (fun r s' hr => ?_) fun _ _ x => x)
    obtain ⟨b', rfl, h'⟩ := hr
    exact wp_forIn f I step done l b' s' h'

noncomputable def bytesOf : Value → Array UInt8
  | .bytes b _ => b
  | _ => #[]
noncomputable def AllBytes (vs : List Value) : Prop := ∀ v ∈ vs, ∃ b t, v = .bytes b t

theorem wp_joinLetGo {M : Model} {A : Around} {E : Value → Shared → Prop} {s : Shared} {Q : Unit → Shared → Prop} (h : Q () s) : ∀ (l : List (Value × Option Value)) (keep : List Value), (∀ p ∈ l, p.2 = none) → wpAny M A (Bytes.joinLetGo l keep) Q E s
  | [], _, _ => wpAny_pure h
  | (x, w) :: rest, keep, hl => by
    have hw : w = none := hl _ (.head _)
    subst hw
    unfold Bytes.joinLetGo
    refine wpAny_bind (wpAny_letGo ?_)
    exact wp_joinLetGo h rest keep fun p hp => hl p (.tail _ hp)

theorem joined_one (sep b : Array UInt8) : Bytes.joined sep [b] = b := by
  simp [Bytes.joined]

theorem meets_join {sep : Array UInt8} {t : Tok} {l : Addr} {items : Array Value} (hb : AllBytes items.toList) (hz : items.size ≤ 1000) (hs : (Bytes.joined sep (items.toList.map bytesOf)).size ≤ 16777216)
   (hs' : (items.toList.map bytesOf).foldl (· + ·.size) (sep.size * (items.size - 1)) ≤ 16777216) :
    Meets («bytes.join» ⟨[.bytes sep t, .ref l], []⟩) (fun _ R s => s.heap.IsList l items ∧ ∀ t' k, R (.ok (.ret (.bytes (Bytes.joined sep (items.toList.map bytesOf)) t'))) { s with toks := k }) := by
  refine .of_wp fun prog w A R s hS => ?_
  obtain ⟨⟨o, ho, hc, n, hd⟩, h⟩ := hS
  have hT : s.TypeIs (.ref l) "list" := ⟨o, ho, hc⟩
  have hit : ∀ {A : Around} {E : Value → Shared → Prop} {Q : Option (Array Value) → Shared → Prop}, Q (some items) s → wpAny (model prog w) A (seqItems? (.ref l)) Q E s := fun hq => by
    unfold seqItems?
    refine wpAny_bind (wpAny_load ho ?_)
    rw [hd]
    exact wpAny_pure hq
  show wpAny _ _ (Bytes.joinM .bytes _) _ _ s
  unfold Bytes.joinM
  refine wpAny_bind (wpAny_of_eq (rfl : selfAndOne _ ⟨[.bytes sep t, .ref l], []⟩ = pure (.bytes sep t, .ref l)) ?_)
  refine wpAny_bind ?_
  show wpAny _ _ (Bytes.joinItems (.ref l)) _ _ s
  unfold Bytes.joinItems
  refine wpAny_bind (wpAny_typeOf hT ?_)
  refine wpAny_pure ?_
  refine wpAny_bind (hit ?_)
  refine wpAny_ite ?_
  rw [if_pos (show (Bytes.Kind.bytes == Bytes.Kind.bytes) = true by decide)]
  have fin : ∀ (L : List Value), items = L.toArray → (L = [] ∨ ∃ x y r, L = x :: y :: r) → True := fun _ _ _ => trivial
  obtain ⟨L⟩ := items
  rcases L with _ | ⟨x, _ | ⟨y, r⟩⟩
  case cons.nil =>
    obtain ⟨b, u, rfl⟩ := hb x (by simp)
    show wpAny _ _ (typeOf (.bytes b u) >>= fun c => if (c == Value.type "bytes") = true then (rule "bytes.join.one-item" >>= fun _ => ret (.bytes b u)) else _) _ _ s
    refine wpAny_bind (wpAny_typeOf (typeIs_bytes s b u) ?_)
    refine wpAny_ite ?_
    rw [if_pos (show (Value.type "bytes" == Value.type "bytes") = true by decide)]
    have h2 := h u s.toks
    rw [show (List.map bytesOf (Array.mk [Value.bytes b u]).toList) = [b] from rfl, joined_one] at h2
    exact wpAny_bind (wpAny_rule (wpAny_pure ⟨_, rfl, h2⟩))
  case' nil => refine wpAny_bind ?_; clear fin; generalize (Array.mk ([] : List Value)) = items at *
  case' cons.cons => refine wpAny_bind ?_; clear fin; generalize (Array.mk (x :: y :: r)) = items at *
  all_goals
    simp only [Std.Legacy.Range.forIn_eq_forIn_range', Std.Legacy.Range.size, Nat.sub_zero, Nat.add_sub_cancel, Nat.div_one]
    refine wp_forIn _ (fun (rest : List Nat) (b : Array (Array UInt8) × List (Value × Option Value)) (s' : Shared) =>
       s' = s ∧ ∃ k, rest = List.range' k (items.size - k) ∧ k ≤ items.size ∧ b.1 = ((items.toList.take k).map bytesOf).toArray ∧ b.2 = (items.toList.take k).map (fun v => (v, none))) ?_ ?_ _ _ _ ⟨rfl, 0, by simp, by omega, by simp, by simp⟩
    · rintro x rest ⟨parts, taken⟩ s' ⟨rfl, k, hk, hle, h1, h2⟩
      dsimp only at h1 h2 ⊢
      have hlt : k < items.size := by
        rcases Nat.lt_or_ge k items.size with q | q
        · exact q
        · rw [show items.size - k = 0 by omega] at hk; cases hk
      rw [show items.size - k = (items.size - (k + 1)) + 1 by omega, List.range'_succ] at hk
      obtain ⟨rfl, rfl⟩ := List.cons.inj hk
      obtain ⟨b, u, hbu⟩ := hb items[x] (by simp)
      have hg : items.getD x Value.none = .bytes b u := by simp [Array.getD, hlt, hbu]
      refine wpAny_bind (hit ?_)
      dsimp only
      have hno : (taken.any fun y => y.1.onHeap) = false := by
        rw [h2, List.any_eq_false]
        intro y hy
        obtain ⟨v, hv, rfl⟩ := List.mem_map.mp hy
        obtain ⟨c, u', rfl⟩ := hb v (List.mem_of_mem_take hv)
        simp [Value.onHeap]
      refine wpAny_ite ?_
      rw [if_neg (by rw [hno]; decide)]
      rw [hg]
      refine wpAny_bind (wpAny_holding ?_)
      unfold Bytes.takeBufferQuiet?
      refine wpAny_bind (wpAny_attempt ?_)
      refine wpAny_of_eq (a := some (b, none)) ?_ ?_
      · unfold Bytes.takeBuffer?
        rw [KBy.special_eq KBy.look_buffer, KBy.own_buffer]
        show (Bytes.buffer? _ (.bytes b u) >>= fun r => _) = _
        rw [KBy.buffer_eq]
        rfl
      refine wpAny_pure ?_
      dsimp only
      refine wpAny_bind (hit ?_)
      dsimp only
      refine wpAny_ite ?_
      rw [if_neg (by simp)]
      refine wpAny_pure ⟨_, rfl, rfl, x + 1, by rfl, hlt, ?_, ?_⟩
      · dsimp only
        rw [h1, List.take_add_one]
        simp [hlt, hbu, bytesOf]
      · dsimp only
        rw [h2, List.take_add_one]
        simp [hlt, hbu]
    · rintro ⟨parts, taken⟩ s' ⟨rfl, k, hk, hle, h1, h2⟩
      dsimp only at h1 h2 ⊢
      have hkk : k = items.size := by
        rcases Nat.lt_or_ge k items.size with q | q
        · rw [show items.size - k = (items.size - (k + 1)) + 1 by omega, List.range'_succ] at hk; cases hk
        · omega
      subst hkk
      rw [show items.toList.take items.size = items.toList by rw [← Array.length_toList, List.take_length]] at h1 h2
      subst h1 h2
      refine wpAny_bind (wpAny_of_eq (rfl : Bytes.payload (.bytes sep t) = pure sep) ?_)
      refine wpAny_ite ?_
      rw [if_neg]
      · refine wpAny_bind (wpAny_mkBytes ?_ (by rw [sizeLine_eq]; simpa using hs))
        refine wpAny_bind (wpAny_holding (wpAny_point ?_))
        refine wpAny_bind (wp_joinLetGo ?_ _ _ ?_)
        · exact wpAny_pure ⟨_, rfl, h _ _⟩
        · intro p hp
          obtain ⟨v, _, rfl⟩ := List.mem_map.mp hp
          rfl
      · unfold Bytes.tooLong
        rw [sizeLine_eq]
        simp only [List.size_toArray, List.length_map, decide_eq_true_eq, Array.length_toList]
        simpa using hs'
theorem type_of_bytes {prog : Program} {w : World} {A : Around} {E : Value → Shared → Prop} {s : Shared} {b : Array UInt8} {t : Tok} {Q : Value → Shared → Prop} (h : Q (.type "bytes") s) :
    wpAny (model prog w) A (call (.type "type") [.bytes b t]) Q E s := by
  refine wpAny_call (codeAny_of_tree ?_)
  show wpAny _ _ (callAny (.type "type") ⟨[.bytes b t], []⟩) _ _ _
  simp only [callAny]
  refine wpAny_pure ⟨Code.quiet_builtin _ (by decide +kernel), codeAny_builtin PySem.F.entry_type_call ?_⟩
  unfold Builtin.«type.__call__»
  dsimp only
  unfold shownTypeOf
  repeat wp_step
  exact h

theorem join_bytes {prog : Program} {w : World} {A : Around} {E : Value → Shared → Prop} {s : Shared} {sep : Array UInt8} {t : Tok} {l : Addr} {items : Array Value} {Q : Value → Shared → Prop}
    (hl : s.heap.IsList l items) (hb : AllBytes items.toList) (hz : items.size ≤ 1000) (hs : (Bytes.joined sep (items.toList.map bytesOf)).size ≤ 16777216)
    (hs' : (items.toList.map bytesOf).foldl (· + ·.size) (sep.size * (items.size - 1)) ≤ 16777216)
    (h : ∀ t' k, Q (.bytes (Bytes.joined sep (items.toList.map bytesOf)) t') { s with toks := k }) :
    wpAny (model prog w) A (call (.builtin "bytes.join") [.bytes sep t, .ref l]) Q E s :=
  call_meets slot_join (typeIs_bytes _ _ _) entry_join (args_join _ _) (meets_join hb hz hs hs') ⟨hl, h⟩
end
section
open PySem.Calls PySem.Spec
section
variable {prog : Program} {w : World} {A : Around} {E : Value → Shared → Prop} {s : Shared} {h₀ : Heap} {L : Addr} {m : Str → Option Value} {env : Env}
noncomputable abbrev ByteAt (b : Array UInt8) (i : Nat) (v : Value) : Prop := ∃ c u, b[i]? = some c ∧ v = .int (c.toNat : Int) u
noncomputable def SrcB (prog : Program) (w : World) (A : Around) (h₀ : Heap) (L : Addr) (m : Str → Option Value) (env : Env) (elt : Expr) (x : Str) (scope : Scope) (cl : List (Str × Addr)) (Fin : Shared → List Value → List (Addr × Obj) → Prop) (xv : Value) (s₁ : Shared) : Prop :=
  ∃ b tb news, xv = .bytes b tb ∧ A.handled = none ∧ Fr h₀ L s₁.heap m ∧ News h₀ L s₁.heap news ∧ b.size ≤ sizeLine ∧
    ∀ s₂ : Shared, (∃ h, s₂ = { s₁ with heap := h }) → LCg.CompRest prog w A h₀ L m env elt x scope cl s₂ (fun _ => True) (ByteAt b) (Fin s₂) b.size 0 [] news
theorem SrcB.intro {elt : Expr} {x : Str} {scope : Scope} {cl : List (Str × Addr)} {Fin : Shared → List Value → List (Addr × Obj) → Prop} {b : Array UInt8} {tb : Tok} {news : List (Addr × Obj)} {s₁ : Shared}
    (hh : A.handled = none) (F : Fr h₀ L s₁.heap m) (N : News h₀ L s₁.heap news) (hsz : b.size ≤ sizeLine)
    (h : ∀ g, LCg.CompRest prog w A h₀ L m env elt x scope cl { s₁ with heap := g } (fun _ => True) (ByteAt b) (Fin { s₁ with heap := g }) b.size 0 [] news) :
    SrcB prog w A h₀ L m env elt x scope cl Fin (.bytes b tb) s₁ := ⟨b, tb, news, rfl, hh, F, N, hsz, fun _ ⟨g, e⟩ => e ▸ h g⟩
theorem bytes_st {b : Array UInt8} {t : Tok} {I : Addr} : ∀ i (h h' : Heap) (o : Obj) (nw : List (Addr × Obj)), KBw.IsBytesIter h I b t i → h.get? I = some o → h'.get? I = some o → (∀ b o, h₀.get? b = some o → h'.get? b = some o) → News h₀ L h' nw → True → KBw.IsBytesIter h' I b t i :=
  fun i h h' o nw st e e' _ _ _ => by
    obtain ⟨o', q, r⟩ := st
    rw [e] at q
    cases q
    exact ⟨o, e', r⟩

theorem ListComp_B {elt iter : Expr} {x : Str} {px : Pos} {scope : Scope} {cl : List (Str × Addr)} {pos : Pos} {Q : Value → Shared → Prop} (F₀ : Fr h₀ L s.heap m)
    (hclos : closureFor scope env = pure cl) (hcell : ∀ y ∈ scope.names, y.2 ≠ .cell) (hkind : scope.kind = .function)
    (hnames : ∀ y ∈ scope.names, y.2 = .local → scope.names.lookup y.1 = some .local) (hx : scope.names.lookup x = some .local)
    (h : wpAny (model prog w) A (eval iter env) (SrcB prog w A h₀ L m env elt x scope cl (fun s₂ => LCg.FinE h₀ L m s₂ Q)) E s)
    (hs : ∀ x, foldedSetIterable iter env x = pure x := by intro _; rfl) :
    wpAny (model prog w) A (eval (.ListComp elt [⟨.Name x px, iter, [], 0⟩] scope pos) env) Q E s := by
  rw [eval_ListComp]
  refine wpAny_comprehension_free (use := none) rfl hs hclos hkind hnames (wpAny_mono h (fun xv s₁ h₁ => ?_) fun _ _ e => e)
  obtain ⟨b, tb, news, rfl, hh, F, N, hsz, R⟩ := h₁
  refine KBw.pyIter_bytes ?_
  refine LCg.block_U (KBw.walks hh s₁.heap.objs.size b tb) hsz (fun i h st => by obtain ⟨o, e, _⟩ := st; exact ⟨o, e⟩) bytes_st hcell hkind hx ⟨_, Heap.get?_push_size _ rfl, rfl, rfl⟩ (fun b hb => ?_)
    (F.keeps fun _ _ e => Heap.get?_push_of_some _ e) (N.grown fun _ _ e => Heap.get?_push_of_some _ e) (Nat.ne_of_lt F.ns.lt) (next_is_new F) (fun p hp => Nat.ne_of_lt (Heap.lt_size (N p hp).1)) trivial (R _ ⟨_, rfl⟩) ?_
  · rw [List.mem_singleton.mp hb]
    show s₁.heap.objs.size < (s₁.heap.push _).objs.size
    rw [Heap.size_push]; exact Nat.lt_succ_self _
  · intro D C h tk m' ys news' F' N' o1 hn hC₀ hD₀ hCL hDL hCD offC fin
    refine ⟨m', hn, fun h'' hs'' => fin D h'' tk (F'.change hs'' hCL hC₀) (fun p hp => ?_) o1⟩
    refine ⟨hs''.extBut _ _ ?_ (N' p hp).1, (N' p hp).2⟩
    rcases List.mem_cons.mp hp with rfl | hp
    · exact Ne.symm hCD
    · exact offC p hp

-- each byte gives a value by a relation; the ledger stands as it stood
inductive Rows2 (R : Int → Value → Prop) : List Int → List Value → Prop
  | nil : Rows2 R [] []
  | cons {k v ks vs} : R k v → Rows2 R ks vs → Rows2 R (k :: ks) (v :: vs)
theorem Rows2.snoc {R : Int → Value → Prop} {ks : List Int} {vs : List Value} {k : Int} {v : Value} (h : Rows2 R ks vs) (x : R k v) : Rows2 R (ks ++ [k]) (vs ++ [v]) := by
  induction h with
  | nil => exact .cons x .nil
  | cons a _ ih => exact .cons a ih
noncomputable def ElB (R : Int → Value → Prop) (news : List (Addr × Obj)) (k : Int) (y : Value) (news' : List (Addr × Obj)) : Prop := news' = news ∧ R k y
theorem rest_bytes {elt : Expr} {x : Str} {scope : Scope} {cl : List (Str × Addr)} {Fin : List Value → List (Addr × Obj) → Prop} {news : List (Addr × Obj)} {b : Array UInt8} (R : Int → Value → Prop)
    (turn : ∀ k t I oI C oC D m₂ ys h tk (E' : Value → Shared → Prop), 0 ≤ k → k < 256 → LCg.NsObj oC m₂ → m₂ x = some (.int k t) → Fr h₀ L h m → News h₀ L h ((I, oI) :: (C, oC) :: (D, LCg.lst ys) :: news) → LCg.Off3 I C D news → ((@Ne Nat I C) ∧ (@Ne Nat I D) ∧ (@Ne Nat C D)) →
      wpAny (model prog w) A (eval elt (compEnvC scope cl C env)) (LCg.CompEnd h₀ L m { s with heap := h, toks := tk } I oI C oC D (LCg.lst ys) (fun _ => True) (fun y news' => ElB R news k y news')) E' { s with heap := h, toks := tk })
    (fin : ∀ ys, Rows2 R (KBw.bInts b) ys → Fin ys news) : LCg.CompRest prog w A h₀ L m env elt x scope cl s (fun _ => True) (ByteAt b) Fin b.size 0 [] news := by
  have key : ∀ (j i : Nat) (ys : List Value), i + j = b.size → Rows2 R ((KBw.bInts b).take i) ys → LCg.CompRest prog w A h₀ L m env elt x scope cl s (fun _ => True) (ByteAt b) Fin j i ys news := by
    intro j
    induction j with
    | zero =>
      intro i ys hi hy
      have e : i = (KBw.bInts b).length := by rw [KBw.ints_length]; omega
      subst e
      rw [List.take_length] at hy
      exact LCg.CompRest.zero (fin ys hy)
    | succ j ih =>
      intro i ys hi hy
      refine LCg.CompRest.succ ?_
      intro v I oI C oC D m₂ h tk E' hv hC hx F N off ne
      obtain ⟨c, t, hk, rfl⟩ := hv
      have hk' : (KBw.bInts b)[i]? = some (c.toNat : Int) := by
        unfold KBw.bInts
        rw [List.getElem?_map, Array.getElem?_toList, hk]
        rfl
      have hlt := c.toNat_lt
      refine wpAny_mono (turn _ t I oI C oC D m₂ ys h tk E' (by omega) (by omega) hC hx F N off ne) (fun y s₂ hq => ?_) fun _ _ e => e
      obtain ⟨h', tk', nw, e, F', N', off', hS, hn, hy'⟩ := hq
      rw [hn] at N' off'
      refine ⟨h', tk', news, e, F', N', off', hS, ?_⟩
      refine ih (i + 1) _ (by omega) ?_
      rw [List.take_add_one, hk']
      exact hy.snoc hy'
  exact key b.size 0 [] (by omega) (by simp only [List.take_zero]; exact .nil)
end
end
section
open PySem.Calls PySem.Spec
section
variable {prog : Program} {w : World} {A : Around} {E : Value → Shared → Prop} {s : Shared} {h₀ : Heap} {L : Addr} {m : Str → Option Value} {env : Env}
noncomputable abbrev TwoAt (i : Nat) (v : Value) : Prop := ∃ t, v = .int ((0 : Int) + (i : Int) * 2) t
noncomputable def SrcS (prog : Program) (w : World) (A : Around) (h₀ : Heap) (L : Addr) (m : Str → Option Value) (env : Env) (elt : Expr) (x : Str) (scope : Scope) (cl : List (Str × Addr)) (Fin : Shared → List Value → List (Addr × Obj) → Prop) (xv : Value) (s₁ : Shared) : Prop :=
  ∃ (r : Addr) (n : Nat) (t u v : Tok) (news : List (Addr × Obj)), xv = .ref r ∧ A.handled = none ∧ Fr h₀ L s₁.heap m ∧ News h₀ L s₁.heap news ∧ IsRange s₁.heap r 0 (2 * (n : Int)) 2 t u v ∧ (n : Nat) ≤ 40 ∧
    ∀ s₂ : Shared, (∃ h, s₂ = { s₁ with heap := h }) → LCg.CompRest prog w A h₀ L m env elt x scope cl s₂ (fun _ => True) TwoAt (Fin s₂) n 0 [] news
theorem SrcS.intro {elt : Expr} {x : Str} {scope : Scope} {cl : List (Str × Addr)} {Fin : Shared → List Value → List (Addr × Obj) → Prop} {r : Addr} {b : Int} {n : Nat} {t u v : Tok} {news : List (Addr × Obj)} {s₁ : Shared}
    (hh : A.handled = none) (F : Fr h₀ L s₁.heap m) (N : News h₀ L s₁.heap news) (hr : IsRange s₁.heap r 0 b 2 t u v) (hb : b = 2 * (n : Int)) (hn : n ≤ 40)
    (h : ∀ g, LCg.CompRest prog w A h₀ L m env elt x scope cl { s₁ with heap := g } (fun _ => True) TwoAt (Fin { s₁ with heap := g }) n 0 [] news) :
    SrcS prog w A h₀ L m env elt x scope cl Fin (.ref r) s₁ := ⟨r, n, t, u, v, news, rfl, hh, F, N, hb ▸ hr, hn, fun _ ⟨g, e⟩ => e ▸ h g⟩
theorem two_size {n : Nat} : Builtin.Range.rangeSize 0 (2 * (n : Int)) 2 = (n : Int) := by
  unfold Builtin.Range.rangeSize
  rw [if_pos (by decide)]
  split <;> omega
theorem two_small {n : Nat} (hn : n ≤ 40) : Builtin.Range.small 0 (2 * (n : Int)) 2 = true := by
  have key : ∀ k : Nat, k < 41 → Builtin.Range.small 0 (2 * (k : Int)) 2 = true := by decide +kernel
  exact key n (by omega)
theorem two_st {I : Addr} {n : Nat} : ∀ i (h h' : Heap) (o : Obj) (nw : List (Addr × Obj)), IsRangeIter h I ((0 : Int) + (i : Nat) * 2) ((n : Int) - (i : Nat)) 2 → h.get? I = some o → h'.get? I = some o → (∀ b o, h₀.get? b = some o → h'.get? b = some o) → News h₀ L h' nw → True → IsRangeIter h' I ((0 : Int) + (i : Nat) * 2) ((n : Int) - (i : Nat)) 2 :=
  fun i h h' o nw st e e' _ _ _ => by
    have st' : h.get? I = some _ := st
    show h'.get? I = some _
    rw [e', ← e]; exact st'
theorem ListComp_S {elt iter : Expr} {x : Str} {px : Pos} {scope : Scope} {cl : List (Str × Addr)} {pos : Pos} {Q : Value → Shared → Prop} (F₀ : Fr h₀ L s.heap m)
    (hclos : closureFor scope env = pure cl) (hcell : ∀ y ∈ scope.names, y.2 ≠ .cell) (hkind : scope.kind = .function)
    (hnames : ∀ y ∈ scope.names, y.2 = .local → scope.names.lookup y.1 = some .local) (hx : scope.names.lookup x = some .local)
    (h : wpAny (model prog w) A (eval iter env) (SrcS prog w A h₀ L m env elt x scope cl (fun s₂ => LCg.FinE h₀ L m s₂ Q)) E s)
    (hs : ∀ x, foldedSetIterable iter env x = pure x := by intro _; rfl) :
    wpAny (model prog w) A (eval (.ListComp elt [⟨.Name x px, iter, [], 0⟩] scope pos) env) Q E s := by
  rw [eval_ListComp]
  refine wpAny_comprehension_free (use := none) rfl hs hclos hkind hnames (wpAny_mono h (fun xv s₁ h₁ => ?_) fun _ _ e => e)
  obtain ⟨r, n, t, u, v, news, rfl, hh, F, N, hr, hn, R⟩ := h₁
  refine wpAny_pyIter_range hr (two_small hn) ?_
  refine LCg.block_U (Walks.range hh s₁.heap.objs.size 0 2 n) (Nat.le_trans hn (by rw [PySem.sizeLine_eq]; decide)) (fun i h st => ⟨_, st⟩) two_st hcell hkind hx (by show IsRangeIter _ _ _ _ _; rw [two_size]; simpa using Heap.get?_push_size _ rfl) (fun b hb => ?_)
    (F.keeps fun _ _ e => Heap.get?_push_of_some _ e) (N.grown fun _ _ e => Heap.get?_push_of_some _ e) (Nat.ne_of_lt F.ns.lt) (next_is_new F) (fun p hp => Nat.ne_of_lt (Heap.lt_size (N p hp).1)) trivial (R _ ⟨_, rfl⟩) ?_
  · rw [List.mem_singleton.mp hb]
    show s₁.heap.objs.size < (s₁.heap.push _).objs.size
    rw [Heap.size_push]; exact Nat.lt_succ_self _
  · intro D C h tk m' ys news' F' N' o1 hn hC₀ hD₀ hCL hDL hCD offC fin
    refine ⟨m', hn, fun h'' hs'' => fin D h'' tk (F'.change hs'' hCL hC₀) (fun p hp => ?_) o1⟩
    refine ⟨hs''.extBut _ _ ?_ (N' p hp).1, (N' p hp).2⟩
    rcases List.mem_cons.mp hp with rfl | hp
    · exact Ne.symm hCD
    · exact offC p hp

-- each pair gives an int; the ledger stands as it stood
noncomputable def evens (n : Nat) : List Int := (List.range n).map fun (i : Nat) => 2 * (i : Int)
theorem rest_two {elt : Expr} {x : Str} {scope : Scope} {cl : List (Str × Addr)} {Fin : List Value → List (Addr × Obj) → Prop} {news : List (Addr × Obj)} {n : Nat} (f : Int → Int)
    (turn : ∀ k t I oI C oC D m₂ ys h tk (E' : Value → Shared → Prop), 0 ≤ k → k + 2 ≤ 2 * (n : Int) → LCg.NsObj oC m₂ → m₂ x = some (.int k t) → Fr h₀ L h m → News h₀ L h ((I, oI) :: (C, oC) :: (D, LCg.lst ys) :: news) → LCg.Off3 I C D news → ((@Ne Nat I C) ∧ (@Ne Nat I D) ∧ (@Ne Nat C D)) →
      wpAny (model prog w) A (eval elt (compEnvC scope cl C env)) (LCg.CompEnd h₀ L m { s with heap := h, toks := tk } I oI C oC D (LCg.lst ys) (fun _ => True) (fun y news' => ElB (fun k y => ∃ t, y = .int (f k) t) news k y news')) E' { s with heap := h, toks := tk })
    (fin : ∀ ys, IntsAre ys ((evens n).map f) → Fin ys news) : LCg.CompRest prog w A h₀ L m env elt x scope cl s (fun _ => True) TwoAt Fin n 0 [] news := by
  have key : ∀ (j i : Nat) (ys : List Value), i + j = n → IntsAre ys ((evens i).map f) → LCg.CompRest prog w A h₀ L m env elt x scope cl s (fun _ => True) TwoAt Fin j i ys news := by
    intro j
    induction j with
    | zero =>
      intro i ys hi hy
      have e : i = n := by omega
      subst e
      exact LCg.CompRest.zero (fin ys hy)
    | succ j ih =>
      intro i ys hi hy
      refine LCg.CompRest.succ ?_
      intro v I oI C oC D m₂ h tk E' hv hC hx F N off ne
      obtain ⟨t, rfl⟩ := hv
      have hk : (0 : Int) + (i : Int) * 2 = 2 * (i : Int) := by omega
      rw [hk] at hx
      refine wpAny_mono (turn _ t I oI C oC D m₂ ys h tk E' (by omega) (by omega) hC hx F N off ne) (fun y s₂ hq => ?_) fun _ _ e => e
      obtain ⟨h', tk', nw, e, F', N', off', hS, hn', hy'⟩ := hq
      rw [hn'] at N' off'
      refine ⟨h', tk', news, e, F', N', off', hS, ?_⟩
      refine ih (i + 1) _ (by omega) ?_
      obtain ⟨t', rfl⟩ := hy'
      have e1 : (evens (i + 1)).map f = (evens i).map f ++ [f (2 * (i : Int))] := by
        unfold evens
        rw [List.range_succ, List.map_append, List.map_append]
        rfl
      rw [e1]
      exact hy.append (.cons _ _ .nil)
  exact key n 0 [] (by omega) IntsAre.nil
end
end
section
open PySem.Calls PySem.Spec
-- a goal at which the walk is to stop, and to be led on by hand
@[irreducible] noncomputable def Stop (p : Prop) : Prop := p
theorem Stop.intro {p : Prop} (h : Stop p) : p := by unfold Stop at h; exact h
theorem Stop.go {p : Prop} (h : p) : Stop p := by unfold Stop; exact h
-- an own exception is caught by a builtin base class in a frame that owns cells
theorem caught_X {prog : Program} {w : World} {A₀ : Around} {s' : Shared} {h₀ h : Heap} {outer : List Env} {L a e t : Addr} {m : Str → Option Value} {name : Str} {scope : Scope} {cd : Value} {cl : List (Str × Addr)}
    {vs : List Value} {b₀ : Stmt} {suite : List Stmt} {pos np : Pos} {rest : List ExceptHandler} {Q : Flow → Shared → Prop} {news : List (Addr × Obj)} {KF : Frag} {C : Addr} {bmB : List Value} {newId : String}
    {p : Program} {loose : List Str} {mg mb : Str → Option Value} {x y : Str} {T' : String}
    (B : Below A₀ h₀ outer h₀) (F : Fr h₀ L h m) (hsm : h.UpToSlots s'.heap) (R : RaisedK h₀ (envX name scope L a cd cl :: outer) e (.ref C) t vs news s'.heap)
    (X : KF.In h₀) (T : TopRead p loose mg mb h₀) (ey : nsIn KF mainGlobals y = some (some (.ref C))) (q : excIn KF C bmB newId = true) (ex : nsIn KF mainGlobals x = some none) (hv : bootBuiltins x = some (.type T')) (hn' : x ≠ "__name__")
    (hexc : isSubtype (.type T') (.type "BaseException") = pure true) (hnt : isSubtype (.type ((Manifest.find? T').elim "type" fun y => y.metatype)) (.type "tuple") = pure false) (hb : bmB.contains (.type T') = true)
    (hk : scope.kind = .function) (hx : (envX name scope L a cd cl).kindOf x = some .globalImplicit) (hd : (x == ("__debug__" : Str)) = false)
    (k : ∀ h', Fr h₀ L h' m → News h₀ L h' news →
      wpAny (model prog w) ((A₀.deeper (envX name scope L a cd cl)).mark (some (.ref e))) (execs (b₀ :: suite) (envX name scope L a cd cl)) Q (fun _ _ => False) { s' with heap := h' }) :
    wpAny (model prog w) (A₀.deeper (envX name scope L a cd cl)) (noteFrame (.ref e) (envX name scope L a cd cl))
      (fun _ s₂ => wpAny (model prog w) (A₀.deeper (envX name scope L a cd cl)) (setFlight (.ref e) none) (fun _ s₃ =>
        wpAny (model prog w) (A₀.deeper (envX name scope L a cd cl)) (handleBy (.ref e) (envX name scope L a cd cl) (.ExceptHandler (some (.Name x np)) none (b₀ :: suite) pos :: rest)) Q (fun _ _ => False) s₃) (fun _ _ => False) s₂) (fun _ _ => False) s' := by
  obtain ⟨⟨B', hB, hl, hfl, hnew⟩, htup⟩ := R
  have hL : B'.get? L = none := by
    obtain ⟨_, ⟨L', _, hf, hn', _⟩, _⟩ := hfl.2.2.1
    obtain rfl : L = L' := Option.some.inj hf
    exact hn'
  refine wpAny_looks_onW (Around.frames_deeper B.stack) rfl hfl fun h₄ hheld₄ hsm₄ => ?_
  refine wpAny_landsW hheld₄ fun h₅ hheld hsm₅' => ?_
  have hsm₅ := hsm₄.trans hsm₅'
  have hheld' := flyingW_base hB hheld
  have F₅ := F.of_stays hheld'.1 (hsm.trans hsm₅)
  obtain ⟨ob, hob, hobc⟩ := hheld'.there
  refine wpAny_handleBy_cons (codeAny_handlers_test (nameX_B F₅ X T ex hv hn' ?_ hk hx hd)) (by intro q; cases q)
  obtain ⟨bm, N, nm, qn, bs, hdct, sn, sub, ab, col, dd, k0, k1, k2, k3, k5, mN, hC, hN, hni, TL⟩ := ((own_of_in X T ey q).keeps F₅.keep).obj
  refine wpAny_excMatches_sub_type hC hob hobc hexc hnt ?_
  rw [TL.hasType hb]
  refine codeAny_handlers_suite ?_
  refine lands_againW hheld fun h₆ hfl₆ hsm₆ => ?_
  have hfl₆' := flyingW_base hB hfl₆
  have F₆ := F.of_stays hfl₆'.1 ((hsm.trans hsm₅).trans hsm₆)
  exact wpAny_passesOwnAt .never (k h₆ F₆ fun q hq => ⟨hfl₆.1 _ _ (hl q hq).1, (fun z => by have := (hl q hq).1; rw [z, hL] at this; cases this), (hl q hq).2⟩)
-- a bound method that stands in the fragment
theorem callWith_MK {M : Model} {A : Around} {E : Value → Shared → Prop} {s : Shared} {KF : Frag} {env : Env} {pos : Pos} {first : List Value} {Q : Value → Shared → Prop} {h₀ : Heap} {q g : Addr} {self : Value} {e : Expr} {rest : List Expr} (_X : KF.In h₀)
    (hq : KF.lookup q = some (methodObj (.ref g) self)) (hf : fnIn KF g = true) (h : wpAny M A (spliced (backTo pos (starEach (e :: rest) env))) (fun vs s₁ => KF.In s₁.heap ∧ wpAny M A (call (.ref q) (first ++ vs)) Q E s₁) E s)
    (he : starEach (e :: rest) env = (false, eval e env) :: starEach rest env := by rfl) (hplain : (backTo pos (starEach rest env)).any (·.1) = false := by rfl) :
    wpAny M A (callWith pos (.ref q) first (backTo pos (starEach (e :: rest) env)) []) Q E s := by
  rw [he] at h ⊢
  exact callWith_of (P := KF.In) (by show ((false || (backTo pos (starEach rest env)).any (·.1)) || false) = false; rw [hplain]; rfl) (fun hh X => keeps_M hf hh ⟨X _ _ hq, X⟩) (evalArgs_plain h)
theorem call_MK {prog : Program} {w : World} {A : Around} {E : Value → Shared → Prop} {s : Shared} {KF : Frag} {Q : Value → Shared → Prop} {q : Addr} {f self : Value} {pos : List Value} {kw : List (Str × Value)} (X : KF.In s.heap) (hq : KF.lookup q = some (methodObj f self))
    (h : codeAny (model prog w) A (.call f ⟨self :: pos, kw⟩) (fun r s' => match r with | .ok (.ret v) => Q v s' | .ok _ => False | .error e => E e s') s) : wpAny (model prog w) A (call (.ref q) pos kw) Q E s :=
  wpAny_call (method_call (X _ _ hq) h)
end
section
open PySem.Builtin
section
variable {prog : Program} {w : World} {A : Around} {E : Value → Shared → Prop} {s : Shared}
-- a type called with keywords
theorem callType_meetsK {T newId initId : String} {Bn Bi : Builtin} {args : List Value} {kw : List (Str × Value)} {S : PySem.Spec} {Q Q₁ : Value → Shared → Prop} (ft : TypeCalled T newId initId)
    (hct : checkTypeCall T ⟨args, kw⟩ = pure ()) (hcn : checkBuiltinCall newId ⟨.type T :: args, kw⟩ = pure ())
    (entryN : entryFor table newId = some Bn) (entryI : entryFor table initId = some Bi) (g : Meets (Bn ⟨.type T :: args, kw⟩) S)
    (h : S A.in1 (wants Q₁ E) s)
    (hnext : ∀ obj s₁, Q₁ obj s₁ → s₁.TypeIs obj T ∧ argsOk initId ⟨obj :: args, kw⟩ ∧ ∃ Si, Meets (Bi ⟨obj :: args, kw⟩) Si ∧ Si A.in1 (wants (fun r s₂ => r = .none ∧ Q obj s₂) E) s₁) :
    wpAny (model prog w) A (call (.type T) args kw) Q E s := by
  obtain ⟨c, tl, hmro⟩ := ft.mro
  have hmade := ft.made
  have hsub := ft.sub
  refine wpAny_call (codeAny_of_tree ?_)
  show wpAny _ _ (callAny (.type T) _) _ _ _
  refine wpAny_pure ⟨Code.quiet_builtin _ (by decide +kernel), codeAny_builtin F.entry_type_call ?_⟩
  rw [Around.under_plain (weight_type_call_type T args kw) (units_type_call_type T args kw)]
  have h1 := ft.notType
  have h2 := ft.canCreate
  repeat (any_goals (first | assumption | wp_step))
  refine codeAny_mono (codeAny_call_builtin ft.plain entryN (wpAny_of_eq hcn (g prog w A.in1 _ s h))) fun r s₁ hr => ?_
  cases r with
  | error e => exact hr
  | ok fl =>
    cases fl with
    | ret obj =>
      obtain ⟨hT, hok, Si, gi, hsi⟩ := hnext _ _ hr
      have hli := ft.init.lookup
      have hbi := ft.init.bind obj
      repeat (any_goals (first | assumption | wp_step))
      refine codeAny_mono (codeAny_call_builtin ft.init.plain entryI (ft.init.check _ _ _ _ _ _ _ _ hT hok (gi prog w A.in1 _ s₁ hsi))) fun r₂ s₂ hr₂ => ?_
      cases r₂ with
      | error e => exact hr₂
      | ok fl₂ =>
        cases fl₂ with
        | ret r =>
          obtain ⟨rfl, hq⟩ := hr₂
          repeat (any_goals (first | assumption | wp_step))
        | _ => exact hr₂.elim
    | _ => exact hr.elim
theorem object_init_meetsK {T newId : String} {self a : Value} {rest : List Value} {kw : List (Str × Value)} (hl : typeLookup (.type T) "__init__" = pure (some (.builtin "object.__init__")))
    (hm : Bind.madeBy (.type T) = pure (some newId)) (hne : (some newId != some "object.__new__") = true) :
    Meets (Builtin.«object.__init__» ⟨self :: a :: rest, kw⟩) (fun _ R s => s.TypeIs self T ∧ R (.ok (.ret .none)) s) := by
  refine Meets.of_wp fun prog w A R s hs => ?_
  obtain ⟨hT, hq⟩ := hs
  repeat (any_goals (first | assumption | wp_step))
  exact ⟨_, rfl, hq⟩
noncomputable abbrev kwStrict : List (Str × Value) := [(Str.ofString "strict", .bool false)]
theorem typeCall_zip_k (a b : Value) : checkTypeCall "zip" ⟨[a, b], kwStrict⟩ = pure () := by kernel_rfl
theorem newCall_zip_k (a b : Value) : checkBuiltinCall "zip.__new__" ⟨[.type "zip", a, b], kwStrict⟩ = pure () := by kernel_rfl
theorem args_object_init_k (a b c : Value) : argsOk "object.__init__" ⟨[a, b, c], kwStrict⟩ := by
  unfold argsOk; rw [signature?_of (id := "object.__init__") (n := ['_', '_', 't', 'i', 'n', 'i', '_', '_']) (o := ['t', 'c', 'e', 'j', 'b', 'o']) (by kernel_rfl) F.owner_object]; kernel_rfl
noncomputable def pushes (h : Heap) : List Obj → Heap
  | [] => h
  | o :: r => pushes (h.push o) r
theorem pushes_old {c : Addr} {x : Obj} : ∀ {l : List Obj} {h : Heap}, h.get? c = some x → (pushes h l).get? c = some x
  | [], _, e => e
  | o :: r, h, e => show (pushes (h.push o) r).get? c = some x from pushes_old (Heap.get?_push_of_some _ e)
theorem pushes_at {x : Obj} (hx : x.isFreed = false) : ∀ {l : List Obj} {h : Heap} {i : Nat}, l[i]? = some x → (pushes h l).get? (h.objs.size + i) = some x
  | o :: r, h, 0, e => by
    obtain rfl : o = x := by simpa using e
    exact show (pushes (h.push o) r).get? h.objs.size = some o from pushes_old (Heap.get?_push_size _ hx)
  | o :: r, h, i + 1, e => by
    have k := pushes_at hx (l := r) (h := h.push o) (i := i) (by simpa using e)
    rw [Heap.size_push] at k
    rw [show h.objs.size + (i + 1) = h.objs.size + 1 + i by omega]
    exact k
theorem pushes_size : ∀ {l : List Obj} {h : Heap}, (pushes h l).objs.size = h.objs.size + l.length
  | [], _ => rfl
  | o :: r, h => by
    show (pushes (h.push o) r).objs.size = _
    rw [pushes_size, Heap.size_push, List.length_cons]
    omega
-- what a zip of two lists makes: two iterators, the tuple of both, the tuple kept for its answers, itself
noncomputable abbrev zipNews (n : Nat) (l1 l2 : Addr) : List Obj := [{ cls := .type "list_iterator", data := .fields #[.ref l1, .int 0 0] }, { cls := .type "list_iterator", data := .fields #[.ref l2, .int 0 0] }, { cls := .type "tuple", data := .seq #[.ref n, .ref (n + 1)] }, { cls := .type "tuple", data := .seq #[.none, .none] },
  { cls := .type "zip", data := .fields #[.none, .bool false, .bool false, .ref (n + 2), .ref (n + 3)] }]
theorem meets_zip_new_k (l1 l2 : Addr) (xs ys : Array Value) :
    Meets (Builtin.«zip.__new__» ⟨[.type "zip", .ref l1, .ref l2], kwStrict⟩) (fun _ R s => s.heap.IsList l1 xs ∧ s.heap.IsList l2 ys ∧
      R (.ok (.ret (.ref (s.heap.objs.size + 4)))) { s with heap := pushes s.heap (zipNews s.heap.objs.size l1 l2) }) :=
  .of_wp fun prog w A R s h => by
    obtain ⟨hp, g, d, tk, os⟩ := s; obtain ⟨hl1, hl2, h⟩ := h
    have hsub := sub_zip
    have hL1 : Heap.IsList (Shared.heap ⟨hp, g, d, tk, os⟩) l1 xs := hl1
    have hL2 : Heap.IsList (Shared.heap ⟨hp.push { cls := .type "list_iterator", data := .fields #[.ref l1, .int 0 0] }, g, d, tk, os⟩) l2 ys := Heap.IsList.push hl2 _
    wp_walk using wpAny_pyIter_list hL1, wpAny_pyIter_list hL2
    refine ⟨_, rfl, ?_⟩
    simp only [pushes, zipNews, Heap.size_push] at h ⊢
    exact h
theorem call_zip_k {l1 l2 : Addr} {xs ys : Array Value} {Q : Value → Shared → Prop} (hl1 : s.heap.IsList l1 xs) (hl2 : s.heap.IsList l2 ys)
    (h : Q (.ref (s.heap.objs.size + 4)) { s with heap := pushes s.heap (zipNews s.heap.objs.size l1 l2) }) :
    wpAny (model prog w) A (call (.type "zip") [.ref l1, .ref l2] kwStrict) Q E s :=
  callType_meetsK (Q₁ := fun obj s₁ => s₁.TypeIs obj "zip" ∧ Q obj s₁) F.called_zip (typeCall_zip_k _ _) (newCall_zip_k _ _) F.entry_zip_new F.entry_object_init
    (meets_zip_new_k l1 l2 xs ys) ⟨hl1, hl2, ⟨_, pushes_at (i := 4) rfl rfl, rfl⟩, h⟩
    fun obj _ hq => ⟨hq.1, args_object_init_k obj _ _, _, object_init_meetsK F.called_zip.init.lookup F.called_zip.made (by decide), hq.1, rfl, hq.2⟩

theorem wpAny_loadIfAlive {M : Model} {a : Addr} {Q : Option Obj → Shared → Prop} (h : Q (s.heap.get? a) s) : wpAny M A (loadIfAlive a) Q E s := fun Γ p _ => by
  unfold loadIfAlive
  rw [Sem.wp_loadIfAlive]
  exact h
-- the end of a zip whose last tuple is kept
theorem zip_next_end2 {z TI TO T i1 i2 l1 : Addr} {k1 : Nat} {xs : Array Value} {Q : Fin → Shared → Prop} (hh : A.handled = none) (zi : i1 ≠ z) (zT : TI ≠ z) (zl : l1 ≠ z)
    (hz : IsZip s.heap z TI TO (rawInt T)) (hTI : IsPair s.heap TI (.ref i1) (.ref i2)) (hT : ∃ o, s.heap.get? T = some o)
    (h1 : s.heap.IsListIter i1 l1 k1) (hl1 : s.heap.IsList l1 xs) (hend : xs[k1]? = none)
    (hE : ∀ h' e, (∀ c o, c ≠ z → c ≠ i1 → s.heap.get? c = some o → h'.get? c = some o) → (∃ o, h'.get? e = some o ∧ o.cls = .type "StopIteration") → E (.ref e) { s with heap := h' }) :
    wpAny (model prog w) A (Builtin.«zip.__next__» ⟨[.ref z], []⟩) Q E s := by
  obtain ⟨oT, hT⟩ := hT
  show wpAny _ _ (field (.ref z) 2 >>= _) _ _ _
  refine wpAny_bind (wpAny_field hz rfl (x := .bool false) rfl ?_)
  show wpAny _ _ (field (.ref z) 3 >>= _) _ _ _
  refine wpAny_bind (wpAny_field hz rfl (x := .ref TI) rfl ?_)
  refine wpAny_bind (wpAny_seqItems hTI rfl ?_)
  show wpAny _ _ (Builtin.SmallTypes.ownedTupleIsFree (.ref z) >>= _) _ _ _
  refine wpAny_bind ?_
  unfold Builtin.SmallTypes.ownedTupleIsFree
  refine wpAny_bind (wpAny_field hz rfl (x := rawInt T) rfl ?_)
  show wpAny _ _ (loadIfAlive (Int.toNat (T : Int)) >>= _) _ _ _
  rw [Int.toNat_natCast]
  refine wpAny_bind (wpAny_loadIfAlive ?_)
  rw [hT]
  refine wpAny_ite ?_
  rw [if_neg (by simp)]
  refine wpAny_bind (wpAny_field hz rfl (x := .bool false) rfl ?_)
  refine wpAny_ite ?_
  rw [if_pos (by decide)]
  refine wpAny_bind (wpAny_setField_rec hz (by simp) fun h₁ hz₁ hs₁ => ?_)
  refine wpAny_pure ?_
  refine wpAny_ite ?_
  rw [if_neg (by decide)]
  refine wpAny_bind ?_
  refine wpAny_arrayLoop ?_
  show wpAny _ _ (forIn [Value.ref i1, Value.ref i2] _ _) _ _ _
  rw [List.forIn_cons]
  refine wpAny_bind (wpAny_bind (wpAny_holding ?_))
  show wpAny _ _ (Builtin.SmallTypes.nextOf (.ref i1) >>= _) _ _ _
  refine wpAny_bind (wpAny_nextOf_list_end hh (h1.extBut hs₁.extBut zi) (hl1.extBut hs₁.extBut zl) hend fun h₂ e hs₂ he => ?_)
  exact hE h₂ e (fun c o c1 c3 x => hs₂ _ _ c3 (hs₁.extBut _ _ c1 x)) he
theorem pyNext_zip_end2 {z TI TO T i1 i2 l1 : Addr} {k1 : Nat} {xs : Array Value} {Q : Option Value → Shared → Prop} (hh : A.handled = none) (zi : i1 ≠ z) (zT : TI ≠ z) (zl : l1 ≠ z)
    (hz : IsZip s.heap z TI TO (rawInt T)) (hTI : IsPair s.heap TI (.ref i1) (.ref i2)) (hT : ∃ o, s.heap.get? T = some o)
    (h1 : s.heap.IsListIter i1 l1 k1) (hl1 : s.heap.IsList l1 xs) (hend : xs[k1]? = none)
    (hQ : ∀ h', (∀ c o, c ≠ z → c ≠ i1 → s.heap.get? c = some o → h'.get? c = some o) → Q none { s with heap := h' }) : wpAny (model prog w) A (pyNext (.ref z)) Q E s := by
  have hTz : s.TypeIs (.ref z) "zip" := ⟨_, hz, rfl⟩
  unfold pyNext
  refine wpAny_bind (wpAny_attempt (wpAny_callSpecial?_slot (name := Str.ofString "__next__") hTz F.slot_zip_next
    (wpAny_call_entry F.slot_zip_next hTz F.entry_zip_next (zip_next_end2 hh zi zT zl hz hTI hT h1 hl1 hend fun h' e hk he => ?_) (F.args_zip_next_1 _))))
  obtain ⟨o, ho, hc⟩ := he
  refine wpAny_bind (wpAny_isInstance (T := "StopIteration") (b := true) ⟨o, ho, hc⟩ isSubtype_stop ?_)
  exact wpAny_pure (hQ _ hk)
end
end
section
open PySem.Builtin
theorem nolen_zip : typeLookup (.type "zip") "__len__" = pure none := by rw [typeLookup_type, builtinLookup_eq_fast]; kernel_rfl
theorem nohint_zip : typeLookup (.type "zip") "__length_hint__" = pure none := by rw [typeLookup_type, builtinLookup_eq_fast]; kernel_rfl
section
variable {prog : Program} {w : World} {A : Around} {s : Shared} {R : Result → Shared → Prop}
theorem ext_zip1 {z TI TO i1 i2 l1 l2 S : Addr} {x y a b res : Value} {c₀ : Nat} (hh : A.handled = none) (D : ZipApart z TI TO i1 i2 l1 l2)
    (hz : IsZip s.heap z TI TO .none) (hTI : IsPair s.heap TI (.ref i1) (.ref i2)) (hTO : IsPair s.heap TO a b)
    (h1 : s.heap.IsListIter i1 l1 0) (h2 : s.heap.IsListIter i2 l2 0) (hl1 : s.heap.IsList l1 #[x]) (hl2 : s.heap.IsList l2 #[y])
    (nz : S ≠ z) (nTI : S ≠ TI) (nTO : S ≠ TO) (ni1 : S ≠ i1) (ni2 : S ≠ i2) (nl1 : S ≠ l1) (nl2 : S ≠ l2)
    (hS : s.heap.get? S = some { cls := .type "list", data := .seq #[] c₀ })
    (hR : ∀ h' T c, h'.get? S = some { cls := .type "list", dict := none, data := .seq #[.ref T] c, slots := #[] } → IsPair h' T x y → s.heap.objs.size ≤ T →
      (∀ c o, c ≠ S → c ≠ z → c ≠ TO → c ≠ i1 → c ≠ i2 → s.heap.get? c = some o → h'.get? c = some o) → R (.ok (.ret res)) { s with heap := h' }) :
    wpAny (model prog w) A.in1 (Builtin.List.listExtendWith (.ref S) (.ref z) res)
      (fun fin s' => match fin with | .done f => R (.ok f) s' | .again c' => c'.quiet = true ∧ codeAny (model prog w) A c' R s') (fun e s' => R (.error e) s') s := by
  have hT : s.TypeIs (.ref z) "zip" := ⟨_, hz, rfl⟩
  unfold Builtin.List.listExtendWith
  refine wpAny_bind (wpAny_typeOf hT ?_)
  have e1 : Builtin.List.listSameRef (.ref S) (.ref z) = false := by simp [Builtin.List.listSameRef, nz]
  have e2 : (Value.type "zip" == Value.type "list") = false := by decide
  have e3 : (Value.type "zip" == Value.type "tuple") = false := by decide
  simp only [e1, e2, e3, Bool.or_false, Bool.false_eq_true, if_false]
  refine wpAny_bind (wpAny_pyIter_zip hz ?_)
  refine wpAny_bind (wpAny_holding ?_)
  unfold Builtin.List.listLengthHint
  refine wpAny_bind (wpAny_specialOf hT nolen_zip ?_)
  show wpAny _ A.in1 (specialOf (Value.ref z) (Str.ofString "__length_hint__") >>= _) _ _ _
  refine wpAny_bind (wpAny_specialOf hT nohint_zip ?_)
  refine wpAny_pure ?_
  show wpAny _ A.in1 (rule "list.extend.makes-room" >>= fun _ => Builtin.List.listTouch (.ref S) >>= fun _ =>
    again (.builtin "list.extend.loop" ⟨[.ref S, .ref z, res], []⟩)) _ _ _
  refine wpAny_bind (wpAny_rule ?_)
  refine wpAny_bind ?_
  show wpAny _ A.in1 (updateSeq S (·.push .none) >>= fun _ => updateSeq S (·.pop)) _ _ _
  refine wpAny_bind (wpAny_updateSeq hS rfl ?_)
  have hS₂ := Heap.get?_update_self (Obj.mapSeq (·.push Value.none)) hS rfl
  refine wpAny_updateSeq (hz := by seq_fits) hS₂ rfl ?_
  have hS₃ := Heap.get?_update_self (Obj.mapSeq (·.pop)) hS₂ rfl
  have oth : ∀ b o, b ≠ S → s.heap.get? b = some o → ((s.heap.update S (Obj.mapSeq (·.push Value.none))).update S (Obj.mapSeq (·.pop))).get? b = some o :=
    fun b o hb e => (Heap.get?_update_other _ _ (Ne.symm hb)).trans ((Heap.get?_update_other _ _ (Ne.symm hb)).trans e)
  have hsz : ((s.heap.update S (Obj.mapSeq (·.push Value.none))).update S (Obj.mapSeq (·.pop))).objs.size = s.heap.objs.size := by
    rw [Heap.size_update, Heap.size_update]
  generalize (s.heap.update S (Obj.mapSeq (·.push Value.none))).update S (Obj.mapSeq (·.pop)) = H at hS₃ oth hsz ⊢
  refine wpAny_pure ⟨plainId_quiet F.plain_extend_loop _, codeAny_builtin F.entry_extend_loop ?_⟩
  rw [Around.under_plainId F.plain_extend_loop _]
  show wpAny _ A.in1 (pyNext (.ref z) >>= _) _ _ _
  refine wpAny_bind (wpAny_pyNext_zip_item (xs := #[x]) (ys := #[y]) (x := x) (y := y) D (oth _ _ (Ne.symm nz) hz) (oth _ _ (Ne.symm nTI) hTI) (oth _ _ (Ne.symm nTO) hTO)
    (h1.at fun o e => oth _ _ (Ne.symm ni1) e) (h2.at fun o e => oth _ _ (Ne.symm ni2) e) (hl1.at fun o e => oth _ _ (Ne.symm nl1) e) (hl2.at fun o e => oth _ _ (Ne.symm nl2) e) rfl rfl
    fun h' hz' hTO' h1' h2' hT' hsz' hk' => ?_)
  dsimp only at hz' hTO' h1' h2' hT' hsz' hk' ⊢
  rw [hsz] at hz' hT' hsz' ⊢
  have nST : S ≠ s.heap.objs.size := Nat.ne_of_lt (Heap.lt_size hS)
  have hS' := hk' S _ nz nTO ni1 ni2 hS₃
  have hTI' := hk' TI _ D.TIz D.TITO D.TIi1 D.TIi2 (oth _ _ (Ne.symm nTI) hTI)
  have hl1' : h'.IsList l1 #[x] := (hl1.at fun o e => oth _ _ (Ne.symm nl1) e).at fun o e => hk' _ o D.l1z D.l1TO D.l1i1 D.l1i2 e
  show wpAny _ A.in1 (updateSeq S (·.push (.ref s.heap.objs.size)) >>= _) _ _ _
  refine wpAny_bind (wpAny_updateSeq hS' rfl ?_)
  have hS'' := Heap.get?_update_self (Obj.mapSeq (·.push (Value.ref s.heap.objs.size))) hS' rfl
  have oth' : ∀ b o, b ≠ S → h'.get? b = some o → (h'.update S (Obj.mapSeq (·.push (Value.ref s.heap.objs.size)))).get? b = some o :=
    fun b o hb e => (Heap.get?_update_other _ _ (Ne.symm hb)).trans e
  generalize h'.update S (Obj.mapSeq (·.push (Value.ref s.heap.objs.size))) = H' at hS'' oth' ⊢
  refine wpAny_pure ⟨plainId_quiet F.plain_extend_loop _, codeAny_builtin F.entry_extend_loop ?_⟩
  rw [Around.under_plainId F.plain_extend_loop _]
  show wpAny _ A.in1 (pyNext (.ref z) >>= _) _ _ _
  refine wpAny_bind (pyNext_zip_end2 (xs := #[x]) (k1 := 0 + 1) hh (Ne.symm (fun q => D.i1z q.symm)) D.TIz D.l1z (oth' _ _ (Ne.symm nz) hz') (oth' _ _ (Ne.symm nTI) hTI') ⟨_, oth' _ _ (Ne.symm nST) hT'⟩
    (h1'.at fun o e => oth' _ _ (Ne.symm ni1) e) (hl1'.at fun o e => oth' _ _ (Ne.symm nl1) e) rfl fun h₂ hk₂ => ?_)
  refine wpAny_pure (hR h₂ s.heap.objs.size _ (hk₂ _ _ nz ni1 hS'') (hk₂ _ _ (Nat.ne_of_gt (Heap.lt_size hz)) (by obtain ⟨_, e, _⟩ := h1; exact Nat.ne_of_gt (Heap.lt_size e)) (oth' _ _ (Ne.symm nST) hT')) (Nat.le_refl _) fun c o c0 c1 c2 c3 c4 e => ?_)
  exact hk₂ _ _ c1 c3 (oth' _ _ c0 (hk' _ _ c1 c2 c3 c4 (oth _ _ c0 e)))
theorem list_zip1 {E : Value → Shared → Prop} {z TI TO i1 i2 l1 l2 : Addr} {x y a b : Value} {Q : Value → Shared → Prop} (hh : A.handled = none) (D : ZipApart z TI TO i1 i2 l1 l2)
    (hz : IsZip s.heap z TI TO .none) (hTI : IsPair s.heap TI (.ref i1) (.ref i2)) (hTO : IsPair s.heap TO a b)
    (h1 : s.heap.IsListIter i1 l1 0) (h2 : s.heap.IsListIter i2 l2 0) (hl1 : s.heap.IsList l1 #[x]) (hl2 : s.heap.IsList l2 #[y])
    (hQ : ∀ h' D T c, h'.get? D = some { cls := .type "list", dict := none, data := .seq #[.ref T] c, slots := #[] } → IsPair h' T x y → s.heap.objs.size ≤ D → @LT.lt Nat _ D T →
      (∀ c o, c ≠ z → c ≠ TO → c ≠ i1 → c ≠ i2 → s.heap.get? c = some o → h'.get? c = some o) → Q (.ref D) { s with heap := h' }) :
    wpAny (model prog w) A (call (.type "list") [.ref z]) Q E s := by
  refine callType_codes (Q₁ := fun obj s₁ => obj = .ref s.heap.objs.size ∧ s₁ = { s with heap := s.heap.push { cls := .type "list", data := .seq #[] } }) F.called_list (F.typeCall_list_1 _) F.entry_list_init
    (code_list_new _ ⟨rfl, rfl⟩) fun obj s₁ h₁ => ?_
  obtain ⟨rfl, rfl⟩ := h₁
  have hS : (s.heap.push { cls := .type "list", data := .seq #[] }).get? s.heap.objs.size = some { cls := .type "list", data := .seq #[] } := Heap.get?_push_size _ rfl
  have lt : ∀ {c o}, s.heap.get? c = some o → s.heap.objs.size ≠ c := fun e => Nat.ne_of_gt (Heap.lt_size e)
  have nz := lt hz
  have nTI := lt hTI
  have nTO := lt hTO
  have ni1 : s.heap.objs.size ≠ i1 := by obtain ⟨_, e, _⟩ := h1; exact lt e
  have ni2 : s.heap.objs.size ≠ i2 := by obtain ⟨_, e, _⟩ := h2; exact lt e
  have nl1 : s.heap.objs.size ≠ l1 := by obtain ⟨_, e, _⟩ := hl1; exact lt e
  have nl2 : s.heap.objs.size ≠ l2 := by obtain ⟨_, e, _⟩ := hl2; exact lt e
  refine ⟨⟨_, hS, rfl⟩, F.args_list_init_2 _ _, ?_⟩
  show wpAny _ A.in1.in1 (do let old ← Builtin.List.listItems (.ref s.heap.objs.size); Builtin.List.listUpdate (.ref s.heap.objs.size) (fun _ => #[]); letGo old.toList.reverse; Builtin.List.listExtendWith (.ref s.heap.objs.size) (.ref z) .none) _ _ _
  refine wpAny_bind ?_
  unfold Builtin.List.listItems
  refine wpAny_bind (wpAny_seqItems hS rfl (wpAny_pure ?_))
  show wpAny _ A.in1.in1 (updateSeq s.heap.objs.size (fun _ => #[]) >>= fun _ => letGo (#[] : Array Value).toList.reverse >>= fun _ => Builtin.List.listExtendWith (.ref s.heap.objs.size) (.ref z) .none) _ _ _
  refine wpAny_bind (wpAny_updateSeq hS rfl ?_)
  have hS₂ := Heap.get?_update_self (Obj.mapSeq (fun _ => (#[] : Array Value))) hS rfl
  have oth : ∀ b o, b ≠ s.heap.objs.size → s.heap.get? b = some o → ((s.heap.push { cls := .type "list", data := .seq #[] }).update s.heap.objs.size (Obj.mapSeq (fun _ => (#[] : Array Value)))).get? b = some o :=
    fun b o hb e => (Heap.get?_update_other _ _ (Ne.symm hb)).trans (Heap.get?_push_of_some _ e)
  have hsz : ((s.heap.push { cls := .type "list", data := .seq #[] }).update s.heap.objs.size (Obj.mapSeq (fun _ => (#[] : Array Value)))).objs.size = s.heap.objs.size + 1 := by
    rw [Heap.size_update, Heap.size_push]
  dsimp only
  generalize hH : (s.heap.push { cls := .type "list", data := .seq #[] }).update s.heap.objs.size (Obj.mapSeq (fun _ => (#[] : Array Value))) = H at hS₂ oth hsz ⊢
  refine wpAny_bind (wpAny_letGo ?_)
  refine ext_zip1 (A := A.in1) (x := x) (y := y) hh D (oth _ _ (Ne.symm nz) hz) (oth _ _ (Ne.symm nTI) hTI) (oth _ _ (Ne.symm nTO) hTO)
    (h1.at fun o e => oth _ _ (Ne.symm ni1) e) (h2.at fun o e => oth _ _ (Ne.symm ni2) e) (hl1.at fun o e => oth _ _ (Ne.symm nl1) e) (hl2.at fun o e => oth _ _ (Ne.symm nl2) e) nz nTI nTO ni1 ni2 nl1 nl2 hS₂
    fun h' T c hS' hT' hlt hk => ?_
  dsimp only at hlt
  rw [hsz] at hlt
  exact ⟨rfl, hQ h' s.heap.objs.size T c hS' hT' (Nat.le_refl _) hlt fun b o b1 b2 b3 b4 e => by
    have b0 : b ≠ s.heap.objs.size := Nat.ne_of_lt (Heap.lt_size e)
    exact hk b o b0 b1 b2 b3 b4 (oth _ _ b0 e)⟩
end
end
section
open PySem.Builtin
section
variable {M : Model} {A : Around} {E : Value → Shared → Prop} {s : Shared} {env : Env}
theorem callWith_type_kwB {pos : Pos} {T : String} {first : List Value} {args : List (Bool × Sem Value)} {keywords : List (Option Str × Sem Value)} {Q : Value → Shared → Prop}
    (hplain : args.any (·.1) = false) (hkw : keywords.any (·.1.isNone) = false)
    (h : wpAny M A (evalArgs (.type T) true args keywords) (fun a s₁ => wpAny M A (call (.type T) (first ++ a.pos) a.kw) Q E s₁) E s) :
    wpAny M A (callWith pos (.type T) first args keywords) Q E s := by
  unfold callWith
  refine wpAny_bind (wpAny_holding (wpAny_mono h (fun a s₁ h₁ => wpAny_bind (wpAny_standAt ?_)) fun _ _ x => x))
  simp only [hplain, hkw, Bool.or_false]
  refine wpAny_bind (wpAny_pure ?_)
  exact wpAny_bind (wpAny_mono h₁ (fun r s₂ hr => wpAny_bind (wpAny_holding (wpAny_point (wpAny_pure hr)))) fun _ _ x => x)
theorem callWith_type_kw {pos : Pos} {T : String} {e : Expr} {rest : List Expr} {kws : List Keyword} {Q : Value → Shared → Prop}
    (h : wpAny M A (spliced (backTo pos (starEach (e :: rest) env))) (fun vs s₁ => wpAny M A (evalAll ((backToKw pos (keywordEach kws env)).map (·.2)))
      (fun kvs s₂ => wpAny M A (call (.type T) vs (((backToKw pos (keywordEach kws env)).filterMap (·.1)).zip kvs)) Q E s₂) E s₁) E s)
    (he : backTo pos (starEach (e :: rest) env) = (false, eval e env) :: backTo pos (starEach rest env) := by rfl)
    (hplain : (backTo pos (starEach (e :: rest) env)).any (·.1) = false := by rfl)
    (hall : (backToKw pos (keywordEach kws env)).all (·.1.isSome) = true := by rfl)
    (hkw : (backToKw pos (keywordEach kws env)).any (·.1.isNone) = false := by rfl) :
    wpAny M A (callWith pos (.type T) [] (backTo pos (starEach (e :: rest) env)) (backToKw pos (keywordEach kws env))) Q E s := by
  refine callWith_type_kwB hplain hkw ?_
  rw [he] at h ⊢
  exact evalArgs_kwB hall h
end
structure ZipReady (L : Addr) (news : List (Addr × Obj)) (h : Heap) (z l1 l2 : Addr) (x y : Value) : Prop where
  all : ∃ (TI TO i1 i2 : Addr) (a b : Value) (n : Nat), ZipApart z TI TO i1 i2 l1 l2 ∧ IsZip h z TI TO .none ∧ IsPair h TI (.ref i1) (.ref i2) ∧ IsPair h TO a b ∧ h.IsListIter i1 l1 0 ∧ h.IsListIter i2 l2 0 ∧ h.IsList l1 #[x] ∧ h.IsList l2 #[y] ∧
    (@LE.le Nat _ n z ∧ @LE.le Nat _ n TO ∧ @LE.le Nat _ n i1 ∧ @LE.le Nat _ n i2) ∧ (∀ p ∈ news, @LT.lt Nat _ p.1 n) ∧ @LT.lt Nat _ L n
section
variable {prog : Program} {w : World} {A : Around} {E : Value → Shared → Prop} {s : Shared} {h₀ : Heap} {L : Addr} {m : Str → Option Value} {news : List (Addr × Obj)}
theorem zip_K {l1 l2 : Addr} {o1 o2 : Obj} {x y : Value} {n1 n2 : Nat} {Q : Value → Shared → Prop} {kw : List (Str × Value)} (F : Fr h₀ L s.heap m) (N : News h₀ L s.heap news) (m1 : (l1, o1) ∈ news) (m2 : (l2, o2) ∈ news)
    (c1 : o1.cls = .type "list") (d1 : o1.data = .seq #[x] n1) (c2 : o2.cls = .type "list") (d2 : o2.data = .seq #[y] n2) (hkw : kw = kwStrict)
    (k : ∀ h' z, Fr h₀ L h' m → News h₀ L h' news → ZipReady L news h' z l1 l2 x y → Q (.ref z) { s with heap := h' }) :
    wpAny (model prog w) A (call (.type "zip") [.ref l1, .ref l2] kw) Q E s := by
  subst hkw
  have hl1 : s.heap.IsList l1 #[x] := ⟨o1, (N _ m1).1, c1, _, d1⟩
  have hl2 : s.heap.IsList l2 #[y] := ⟨o2, (N _ m2).1, c2, _, d2⟩
  have a1 : l1 < s.heap.objs.size := Heap.lt_size (N _ m1).1
  have a2 : l2 < s.heap.objs.size := Heap.lt_size (N _ m2).1
  refine call_zip_k hl1 hl2 ?_
  have hk : ∀ b o, s.heap.get? b = some o → (pushes s.heap (zipNews s.heap.objs.size l1 l2)).get? b = some o := fun _ _ e => pushes_old e
  exact k _ _ (F.keeps hk) (fun p hp => ⟨hk _ _ (N p hp).1, (N p hp).2⟩) ⟨_, _, _, _, _, _, s.heap.objs.size, zipApart_new a1 a2, pushes_at (i := 4) rfl rfl, pushes_at (i := 2) rfl rfl, pushes_at (i := 3) rfl rfl,
    ⟨_, pushes_at (i := 0) rfl rfl, rfl, rfl⟩, ⟨_, pushes_at (i := 1) rfl rfl, rfl, rfl⟩, hl1.at (fun o e => hk _ o e), hl2.at (fun o e => hk _ o e),
    ⟨Nat.le_add_right _ 4, Nat.le_add_right _ 3, Nat.le_refl _, Nat.le_add_right _ 1⟩, fun p hp => Heap.lt_size (N p hp).1, F.ns.lt⟩
theorem listZip_K {z l1 l2 : Addr} {x y : Value} {Q : Value → Shared → Prop} (hh : A.handled = none) (F : Fr h₀ L s.heap m) (N : News h₀ L s.heap news) (Z : ZipReady L news s.heap z l1 l2 x y)
    (k : ∀ h' D T c, Fr h₀ L h' m → News h₀ L h' ((D, W.listOf #[.ref T] c) :: (T, { cls := .type "tuple", data := .seq #[x, y] }) :: news) → (∀ p ∈ news, @LT.lt Nat _ p.1 D) → @LT.lt Nat _ D T → Q (.ref D) { s with heap := h' }) :
    wpAny (model prog w) A (call (.type "list") [.ref z]) Q E s := by
  obtain ⟨TI, TO, i1, i2, a, b, n, D, hz, hTI, hTO, h1, h2, hl1, hl2, ⟨lz, lTO, li1, li2⟩, hnews, hL⟩ := Z.all
  refine list_zip1 hh D hz hTI hTO h1 h2 hl1 hl2 fun h' D' T c hD hT hle hlt hk => ?_
  have hs : ∀ c, c < n → c ≠ z ∧ c ≠ TO ∧ c ≠ i1 ∧ c ≠ i2 := fun c hc => ⟨Nat.ne_of_lt (Nat.lt_of_lt_of_le hc lz), Nat.ne_of_lt (Nat.lt_of_lt_of_le hc lTO), Nat.ne_of_lt (Nat.lt_of_lt_of_le hc li1), Nat.ne_of_lt (Nat.lt_of_lt_of_le hc li2)⟩
  have kk : ∀ c, c < n → ∀ o, s.heap.get? c = some o → h'.get? c = some o := fun c hc o e => hk c o (hs c hc).1 (hs c hc).2.1 (hs c hc).2.2.1 (hs c hc).2.2.2 e
  have low : ∀ c o, h₀.get? c = some o → c < n := fun c o e => Nat.lt_trans (Nat.lt_of_lt_of_le (Heap.lt_size e) F.above) hL
  have new : ∀ c, s.heap.objs.size ≤ c → c ≠ L ∧ h₀.get? c = none := fun c hc => ⟨Nat.ne_of_gt (Nat.lt_of_lt_of_le F.ns.lt hc), by
    cases e : h₀.get? c with
    | none => rfl
    | some o => exact absurd (Heap.lt_size (F.keep _ _ e)) (Nat.not_lt.mpr hc)⟩
  refine k h' D' T c ⟨F.ns.at fun o e => kk L hL o e, fun c o e => kk c (low c o e) o (F.keep c o e), F.above⟩ (fun p hp => ?_) (fun p hp => Nat.lt_of_lt_of_le (Heap.lt_size (N p hp).1) hle) hlt
  rcases List.mem_cons.mp hp with rfl | hp
  · exact ⟨hD, new _ hle⟩
  · rcases List.mem_cons.mp hp with rfl | hp
    · exact ⟨hT, new _ (Nat.le_trans hle (Nat.le_of_lt hlt))⟩
    · exact ⟨kk _ (hnews p hp) _ (N p hp).1, (N p hp).2⟩
end
end
open PySem.Calls PySem.Spec
local macro_rules | `(tactic| walk_at "compareOp In int bytes") => `(tactic| (k_here; (with_reducible show wpAny _ _ (compareOp _ (Value.int _ _) (Value.bytes _ _)) _ _ _); refine Mine.in_bytes (by omega) (by omega) ?_))
local macro_rules | `(tactic| walk_at "getMethod bytes") => `(tactic| (k_here; first | (with_reducible refine Mine.meth_find ?_) | (with_reducible refine Mine.meth_join ?_)))
local macro_rules | `(tactic| kst_facts1) => `(tactic| exact IntsAre.nil)
section
open PySem.Calls PySem.Spec

noncomputable abbrev digs : Array UInt8 := #[48, 49, 50, 51, 52, 53, 54, 55, 56, 57, 97, 98, 99, 100, 101, 102, 48, 49, 50, 51, 52, 53, 54, 55, 56, 57, 65, 66, 67, 68, 69, 70]
noncomputable abbrev dig (n : Int) : Int := findAt digs #[n.toNat.toUInt8]
noncomputable abbrev blanks : Array UInt8 := #[32, 10, 13, 9, 12]
noncomputable def valsL : List Int → List Int → Option (List Int)
  | [], acc => some acc
  | n :: r, acc => if n = 62 then some (acc ++ List.replicate (acc.length % 2) 0) else if blanks.contains n.toNat.toUInt8 then valsL r acc else if dig n < 0 then none else valsL r (acc ++ [(dig n).fmod 16])
@[irreducible] noncomputable def VInv (pre vals : List Int) : Prop := (∀ rest, valsL (pre ++ rest) [] = valsL rest vals) ∧ vals.length ≤ pre.length
theorem VInv.nil : VInv [] [] := by unfold VInv; exact ⟨fun _ => rfl, Nat.le_refl _⟩
theorem VInv.skip {pre vals : List Int} {n : Int} (h : VInv pre vals) (h1 : ¬ n = 62) (h2 : blanks.contains n.toNat.toUInt8 = true) : VInv (pre ++ [n]) vals := by
  unfold VInv at h ⊢
  refine ⟨fun rest => ?_, by rw [List.length_append]; have := h.2; omega⟩
  rw [List.append_assoc, h.1]
  show (if n = 62 then _ else if blanks.contains n.toNat.toUInt8 = true then _ else _) = _
  rw [if_neg h1, if_pos h2]; rfl
theorem VInv.push {pre vals : List Int} {n : Int} (h : VInv pre vals) (h1 : ¬ n = 62) (h2 : blanks.contains n.toNat.toUInt8 = false) (h3 : ¬ dig n < 0) : VInv (pre ++ [n]) (vals ++ [(dig n).fmod 16]) := by
  unfold VInv at h ⊢
  refine ⟨fun rest => ?_, by rw [List.length_append, List.length_append]; simp only [List.length_cons, List.length_nil]; have := h.2; omega⟩
  rw [List.append_assoc, h.1]
  show (if n = 62 then _ else if blanks.contains n.toNat.toUInt8 = true then _ else if dig n < 0 then _ else _) = _
  rw [if_neg h1, if_neg (by rw [h2]; decide), if_neg h3]; rfl
theorem VInv.stop {pre post vals ks : List Int} {n : Int} (h : VInv pre vals) (e : ks = pre ++ n :: post) (h1 : n = 62) : valsL ks [] = some (vals ++ List.replicate (vals.length % 2) 0) := by
  unfold VInv at h
  rw [e, h.1]
  show (if n = 62 then _ else _) = _
  rw [if_pos h1]
theorem VInv.bad {pre post vals ks : List Int} {n : Int} (h : VInv pre vals) (e : ks = pre ++ n :: post) (h1 : ¬ n = 62) (h2 : blanks.contains n.toNat.toUInt8 = false) (h3 : dig n < 0) : valsL ks [] = none := by
  unfold VInv at h
  rw [e, h.1]
  show (if n = 62 then _ else if blanks.contains n.toNat.toUInt8 = true then _ else if dig n < 0 then _ else _) = _
  rw [if_neg h1, if_neg (by rw [h2]; decide), if_pos h3]
theorem VInv.whole {ks vals : List Int} (h : VInv ks vals) : valsL ks [] = some vals := by
  unfold VInv at h
  have := h.1 []
  rw [List.append_nil] at this
  exact this
theorem VInv.skip2 {pre vals : List Int} {n : Int} (h : VInv pre vals) (hl : vals.length ≤ pre.length) (h1 : ¬ n = 62) (h2 : blanks.contains n.toNat.toUInt8 = true) : VInv (pre ++ [n]) vals ∧ vals.length ≤ (pre ++ [n]).length :=
  ⟨h.skip h1 h2, by rw [List.length_append]; omega⟩
theorem VInv.push2 {pre vals : List Int} {n : Int} (h : VInv pre vals) (hl : vals.length ≤ pre.length) (h1 : ¬ n = 62) (h2 : blanks.contains n.toNat.toUInt8 = false) (h3 : ¬ dig n < 0) : VInv (pre ++ [n]) (vals ++ [(dig n).fmod 16]) ∧ (vals ++ [(dig n).fmod 16]).length ≤ (pre ++ [n]).length :=
  ⟨h.push h1 h2 h3, by rw [List.length_append, List.length_append]; simp only [List.length_cons, List.length_nil]; omega⟩
theorem flat_zeros (k : Nat) : (List.replicate k [(0 : Int)]).flatten = List.replicate k 0 := by
  induction k with
  | zero => rfl
  | succ k ih => rw [List.replicate_succ, List.flatten_cons, ih, List.replicate_succ]; rfl
theorem VInv.stop2 {pre post vals ks : List Int} {n : Int} (h : VInv pre vals) (e : ks = pre ++ n :: post) (h1 : n = 62) : valsL ks [] = some (vals ++ (List.replicate ((vals.length : Int).fmod 2).toNat [0]).flatten) := by
  rw [h.stop e h1, flat_zeros]
  have : ((vals.length : Int).fmod 2).toNat = vals.length % 2 := by
    rw [Int.fmod_eq_emod_of_nonneg _ (by decide)]; omega
  rw [this]
theorem news_last {h₀ h : Heap} {L : Addr} {l : List (Addr × Obj)} {p : Addr × Obj} (N : News h₀ L h l) (hp : p ∈ l) : News h₀ L h [p] := fun q hq => by rw [List.mem_singleton.mp hq]; exact N _ hp
theorem news_two {h₀ h : Heap} {L : Addr} {l : List (Addr × Obj)} {p p' : Addr × Obj} (N : News h₀ L h l) (hp : p ∈ l) (hp' : p' ∈ l) : News h₀ L h [p, p'] := fun q hq => by
  rcases List.mem_cons.mp hq with rfl | hq
  · exact N _ hp
  · rw [List.mem_singleton.mp hq]; exact N _ hp'
theorem VInv.len {pre vals : List Int} (h : VInv pre vals) : vals.length ≤ pre.length := by unfold VInv at h; exact h.2

local macro_rules | `(tactic| walk_at "compareOp NotIn int bytes") => `(tactic| (k_here; (with_reducible show wpAny _ _ (compareOp _ (Value.int _ _) (Value.bytes _ _)) _ _ _); refine Mine.notIn_bytes (by omega) (by omega) ?_))
local macro_rules | `(tactic| walk_at "call builtin:bytes.find") => `(tactic| (k_here; (with_reducible show wpAny _ _ (call _ [Value.bytes _ _, Value.bytes _ _]) _ _ _); refine Mine.find_bytes ?_))


theorem vals_call {w : World} {p : Program} {loose : List Str} {mean : ExcName → Option Value} {mg mb : Str → Option Value} (dp un : Nat) (gd : Option (List Code)) (cn : Str) (cs : Scope) (a : Addr) (ccd : Value) (cl : List (Str × Addr)) (outer : List Env) (A₀ : Around) (base h₀ : Heap) (L : Addr)
    (m : Str → Option Value) (s : Shared) (c0 : Addr) (oc0 : Obj) (b : Array UInt8) (t : Tok) (Q E : Value → Shared → Prop)
    (B : Below A₀ base outer h₀) (F : Fr h₀ L s.heap m) (X : (K w.params).In h₀) (N : News h₀ L s.heap [(c0, oc0)]) (T : Top p loose mean mg mb h₀) (hk : cs.kind = .function) (ks : List Int) (hb : KBw.bInts b = ks) (hz : ks.length ≤ 40)
    (hd : dp + 1 < recursionLimit) (hu : un + 8 < cLine)
    (ret0 : ∀ (h' : Heap) (tk' : Nat), valsL ks [] = none → Fr h₀ L h' m → News h₀ L h' [(c0, oc0)] → Q .none { s with heap := h', toks := tk' })
    (ret1 : ∀ (D : Addr) (c : Nat) (vs : List Value) (ns : List Int) (h' : Heap) (tk' : Nat), valsL ks [] = some ns → IntsAre vs ns → Fr h₀ L h' m → News h₀ L h' ((D, ⟨.type "list", none, .seq vs.toArray c, #[]⟩) :: [(c0, oc0)]) → Q (.ref D) { s with heap := h', toks := tk' }) :
    wpAny (model row.prog w) (ktrTop dp un gd cn cs L a ccd cl outer) (call (.ref 1662) [.bytes b t]) Q E s := by
  revert X; k_fill; intro X
  (k_with "state" => first | exact ⟨VInv.nil, Nat.le_refl _⟩ | exact VInv.skip2 (by assumption) (by assumption) (by assumption) (by assumption) | exact VInv.push2 (by assumption) (by assumption) (by assumption) (by assumption) (by assumption) )
  (k_with "pyIter bytes" => k_state (fun pre values => VInv pre values ∧ values.length ≤ pre.length) "values")
  refine wpAny_call ?_
  k_dflt cell_enter
  k_steps
  all_goals first
    | exact ret1 _ _ _ _ _ _ (VInv.stop2 (by assumption) (by assumption) (by assumption)) (by assumption) (by assumption) (news_two (by assumption) (by k_mem) (by k_mem))
    | exact ret0 _ _ (VInv.bad (by assumption) (by assumption) (by assumption) (by assumption) (by assumption)) (by assumption) (news_last (by assumption) (by k_mem))
    | exact ret1 _ _ _ _ _ _ (VInv.whole (by assumption)) (by assumption) (by assumption) (by assumption)
end
local macro_rules | `(tactic| k_room) => `(tactic| ((try simp only [depth_under_make, depth_under_kw, depth_in1, depth_deeper, depth_caller]); (try dsimp only [ktrTop]); omega))
local macro_rules | `(tactic| walk_at "CompEnd") => `(tactic| (refine LCg.CompEnd.intro (by assumption) (by assumption) _ (by first | exact fun p hp => hp | exact fun p hp => .tail _ hp | exact fun p hp => .tail _ (.tail _ hp)) (by assumption) trivial ?_))
section
open PySem.Calls PySem.Spec

noncomputable abbrev blanks6 : Array UInt8 := #[32, 9, 10, 13, 11, 12]
noncomputable def oneB (k : Int) : Array UInt8 := if blanks6.contains k.toNat.toUInt8 then Array.mk [] else #[k.toNat.toUInt8]
noncomputable abbrev RB (k : Int) (y : Value) : Prop := ∃ t, y = .bytes (oneB k) t
theorem rb_skip {k : Int} {t : Tok} (h : blanks6.contains k.toNat.toUInt8 = true) : RB k (.bytes (Array.mk []) t) := ⟨t, by unfold oneB; rw [if_pos h]⟩
theorem rb_keep {k : Int} {t : Tok} (h : blanks6.contains k.toNat.toUInt8 = false) : RB k (.bytes #[k.toNat.toUInt8] t) := ⟨t, by unfold oneB; rw [if_neg (by rw [h]; decide)]⟩
theorem rb_skip2 {k : Int} {t : Tok} (h : (blanks6.contains k.toNat.toUInt8 == true) = true) : RB k (.bytes (Array.mk []) t) := rb_skip (by simpa using h)
theorem rb_keep2 {k : Int} {t : Tok} (h : ¬ (blanks6.contains k.toNat.toUInt8 == true) = true) : RB k (.bytes #[k.toNat.toUInt8] t) := rb_keep (by simpa using h)
theorem rb_keep3 {k : Int} {t : Tok} (h : (blanks6.contains k.toNat.toUInt8 == true) = false) : RB k (.bytes #[k.toNat.toUInt8] t) := rb_keep (by simpa using h)
noncomputable def stripL (ks : List Int) : List Int := ks.filter fun k => !blanks6.contains k.toNat.toUInt8
theorem joined_nil (parts : List (Array UInt8)) : Builtin.Bytes.joined (Array.mk []) parts = parts.foldl (· ++ ·) (Array.mk []) := by
  unfold Builtin.Bytes.joined
  have key : ∀ (l : List (Array UInt8)) (n : Nat) (acc : Array UInt8), (l.zipIdx n).foldl (fun out (x : Array UInt8 × Nat) => (if x.2 > 0 then out ++ (Array.mk [] : Array UInt8) else out) ++ x.1) acc = l.foldl (· ++ ·) acc := by
    intro l
    induction l with
    | nil => intro n acc; rfl
    | cons p l ih =>
      intro n acc
      rw [List.zipIdx_cons, List.foldl_cons, List.foldl_cons, ih]
      congr 1
      split
      · show acc ++ #[] ++ p = acc ++ p
        rw [Array.append_empty]
      · rfl
  exact key parts 0 _
theorem one_ints {k : Int} (h0 : 0 ≤ k) (h1 : k < 256) : KBw.bInts (oneB k) = if (!blanks6.contains k.toNat.toUInt8) = true then [k] else [] := by
  unfold oneB
  cases h : blanks6.contains k.toNat.toUInt8 with
  | true => rfl
  | false =>
    show [((k.toNat.toUInt8.toNat : Nat) : Int)] = [k]
    have : k.toNat.toUInt8.toNat = k.toNat := by
      rw [Nat.toUInt8, UInt8.toNat_ofNat']
      omega
    rw [this, Int.toNat_of_nonneg h0]
theorem rows_join : ∀ {ks : List Int} {ys : List Value} (acc : Array UInt8), Rows2 RB ks ys → (∀ k ∈ ks, 0 ≤ k ∧ k < 256) → KBw.bInts ((ys.map bytesOf).foldl (· ++ ·) acc) = KBw.bInts acc ++ stripL ks
  | [], [], acc, _, _ => by simp [stripL]
  | k :: ks, y :: ys, acc, .cons hy hr, hk => by
    obtain ⟨t, rfl⟩ := hy
    have hk0 := hk k (.head _)
    rw [List.map_cons, List.foldl_cons, rows_join _ hr fun z hz => hk z (.tail _ hz)]
    show KBw.bInts (acc ++ oneB k) ++ stripL ks = _
    rw [KBw.ints_app rfl rfl, one_ints hk0.1 hk0.2]
    unfold stripL
    rw [List.filter_cons]
    split <;> simp
theorem rows_sizes : ∀ {ks : List Int} {ys : List Value} (n : Nat), Rows2 RB ks ys → (ys.map bytesOf).foldl (fun a x => a + x.size) n ≤ n + ks.length
  | [], [], n, _ => by simp
  | k :: ks, y :: ys, n, .cons hy hr => by
    obtain ⟨t, rfl⟩ := hy
    rw [List.map_cons, List.foldl_cons]
    have h := rows_sizes (n + (oneB k).size) hr
    have h1 : (oneB k).size ≤ 1 := by unfold oneB; split <;> simp
    have e : (bytesOf (Value.bytes (oneB k) t)).size = (oneB k).size := rfl
    rw [e, List.length_cons]
    omega
theorem rows_bytes : ∀ {ks : List Int} {ys : List Value}, Rows2 RB ks ys → AllBytes ys
  | [], [], _ => fun _ h => nomatch h
  | _ :: _, _ :: _, .cons hy hr => fun v hv => by
    rcases List.mem_cons.mp hv with rfl | hv
    · obtain ⟨t, rfl⟩ := hy; exact ⟨_, _, rfl⟩
    · exact rows_bytes hr v hv
theorem rows_len : ∀ {ks : List Int} {ys : List Value}, Rows2 RB ks ys → ys.length = ks.length
  | [], [], _ => rfl
  | _ :: _, _ :: _, .cons _ hr => by rw [List.length_cons, List.length_cons, rows_len hr]
theorem join_rows {prog : Program} {w : World} {A : Around} {E : Value → Shared → Prop} {s : Shared} {h₀ : Heap} {L D : Addr} {news : List (Addr × Obj)} {ys : List Value} {ks : List Int} {b : Array UInt8} {t : Tok} {Q : Value → Shared → Prop}
    (N : News h₀ L s.heap news) (hm : (D, LCg.lst ys) ∈ news) (hr : Rows2 RB (KBw.bInts b) ys) (hb : KBw.bInts b = ks) (hz : ks.length ≤ 40)
    (h : ∀ (c : Array UInt8) (t' : Tok) (k : Nat), KBw.bInts c = stripL ks → Q (.bytes c t') { s with toks := k }) :
    wpAny (model prog w) A (call (.builtin "bytes.join") [.bytes (Array.mk []) t, .ref D]) Q E s := by
  rw [hb] at hr
  have hin : ∀ k ∈ ks, 0 ≤ k ∧ k < 256 := fun k hk => KBw.ints_in (hb ▸ hk)
  have hj := rows_join (Array.mk []) hr hin
  have hsz : (Builtin.Bytes.joined (Array.mk []) (ys.map bytesOf)).size ≤ 40 := by
    rw [joined_nil, ← KBw.ints_length, hj]
    have := List.length_filter_le (fun k => !blanks6.contains k.toNat.toUInt8) ks
    show (([] : List Int) ++ stripL ks).length ≤ 40
    unfold stripL
    simp only [List.nil_append]
    omega
  have hl : s.heap.IsList D ys.toArray := ⟨_, (N _ hm).1, rfl, _, rfl⟩
  have hn := rows_len hr
  refine join_bytes hl (rows_bytes hr) (by rw [List.size_toArray]; omega) (Nat.le_trans (show (Builtin.Bytes.joined (Array.mk []) (ys.map bytesOf)).size ≤ 40 from hsz) (by decide)) ?_ fun t' k => h _ t' k ?_
  · have := rows_sizes 0 hr
    show List.foldl _ (0 * _) _ ≤ _
    rw [Nat.zero_mul]
    exact Nat.le_trans this (by omega)
  · show KBw.bInts (Builtin.Bytes.joined (Array.mk []) (ys.map bytesOf)) = _
    rw [joined_nil, hj]
    rfl
local macro_rules | `(tactic| walk_at "ElB") => `(tactic| first | exact ⟨rfl, rb_skip2 (by assumption)⟩ | exact ⟨rfl, rb_keep2 (by assumption)⟩ | exact ⟨rfl, rb_keep3 (by assumption)⟩)
local macro_rules | `(tactic| walk_at "call builtin:bytes.join") => `(tactic| (k_here; refine join_rows (by assumption) (by k_mem) (by assumption) (by assumption) (by assumption) ?_; intro c9 t9 k9 hc9))
local macro_rules | `(tactic| walk_at "eval ListComp") => `(tactic| (k_here; k_dflt (refine Mine.ListComp_B (F₀ := by k_asm) (by with_unfolding_all rfl) (by decide) (by rfl) (by decide) (by rfl) ?_)))
theorem size_of {b : Array UInt8} {ks : List Int} (hb : KBw.bInts b = ks) (hz : ks.length ≤ 40) : b.size ≤ sizeLine := by
  rw [PySem.sizeLine_eq, ← KBw.ints_length, hb]; omega
local macro_rules | `(tactic| walk_at "SrcB") => `(tactic| (k_here; refine Mine.SrcB.intro (by rfl) (by k_asm) (by k_asm) (size_of (by assumption) (by assumption)) ?_; intro g9; refine Mine.rest_bytes RB (fun k9 t9 I9 oI9 C9 oC9 D9 m9 ys9 h9 tk9 E9 lo9 hi9 hC9 hx9 F9 N9 off9 ne9 => ?_) (fun ys9 hr9 => ?_)))

theorem sub_call {w : World} {p : Program} {loose : List Str} {mean : ExcName → Option Value} {mg mb : Str → Option Value} (dp un : Nat) (gd : Option (List Code)) (cn : Str) (cs : Scope) (a : Addr) (ccd : Value) (cl : List (Str × Addr)) (outer : List Env) (A₀ : Around) (base h₀ : Heap) (L : Addr)
    (m : Str → Option Value) (s : Shared) (news : List (Addr × Obj)) (b : Array UInt8) (t t0 : Tok) (Q E : Value → Shared → Prop)
    (B : Below A₀ base outer h₀) (F : Fr h₀ L s.heap m) (X : (K w.params).In h₀) (N : News h₀ L s.heap news) (T : Top p loose mean mg mb h₀) (hk : cs.kind = .function) (ks : List Int) (hb : KBw.bInts b = ks) (hz : ks.length ≤ 40)
    (hd : dp + 5 < recursionLimit) (hu : un + 40 < cLine)
    (ret : ∀ (c : Array UInt8) (t' : Tok) (h' : Heap) (tk' : Nat), KBw.bInts c = stripL ks → Fr h₀ L h' m → News h₀ L h' news → Q (.bytes c t') { s with heap := h', toks := tk' }) :
    wpAny (model row.prog w) (ktrTop dp un gd cn cs L a ccd cl outer) (call (.ref 55) [.ref 71, .bytes (Array.mk []) t0, .bytes b t]) Q E s := by
  revert X; k_fill; intro X
  refine wpAny_call ?_
  k_dflt (refine' code_defC ?k1 ?k2 ?k3 ?k4 ?k5 ?kA ?kF ?kK ?k6 ?k7 ?k8 ?k9 ?kB ?kD ?_ ?c2 ?c3 ?c4; (case kA => exact rfl); (case kF => exact rfl); (case kK => assumption); (case k1 => k_asm); (case k2 => k_asm); (case k3 => k_asm); (case k4 => k_asm); (case k5 => k_asm); (case k6 => k_is); (case k7 => k_is); (case k8 => k_room); (case k9 => exact BindsTo.of_eq rfl); (case kB => exact rfl); (case kD => decide +kernel); (case c2 => exact rfl); (case c3 => exact rfl); (case c4 => exact rfl); k_whole; intro g' L' h' tk' cells' FG' F' N' Y' B' X' T' l1; (try k_lt l1); k_cells Y'; (try simp only [List.cons_append, List.nil_append] at N'); (try dsimp only); (try k_lift B'); (try k_fold))
  k_steps
  all_goals first
    | exact ret _ _ _ _ (by assumption) (by assumption) (fun p hp => (by assumption : News _ _ _ (_ :: _ :: _ :: _)) p (.tail _ (.tail _ (.tail _ hp))))
    | exact ret _ _ _ _ (by assumption) (by assumption) (fun p hp => (by assumption : News _ _ _ (_ :: _ :: _)) p (.tail _ (.tail _ hp)))
end
section
open PySem.Calls PySem.Spec
noncomputable def hexv (c : Int) : Int := if 48 ≤ c ∧ c ≤ 57 then c - 48 else if 65 ≤ c ∧ c ≤ 70 then c - 55 else if 97 ≤ c ∧ c ≤ 102 then c - 87 else 16
noncomputable def unhexL : List Int → Option (List Int)
  | [] => some []
  | [_] => none
  | a :: b :: r => if hexv a ≥ 16 ∨ hexv b ≥ 16 then none else (unhexL r).map ((hexv a * 16 + hexv b) :: ·)
@[irreducible] noncomputable def HInv (ks : List Int) (i : Int) (out : List Int) : Prop := unhexL ks = (unhexL (ks.drop i.toNat)).map (out ++ ·)
theorem HInv.nil (ks : List Int) : HInv ks 0 [] := by
  unfold HInv
  show unhexL ks = (unhexL ks).map ([] ++ ·)
  cases unhexL ks <;> rfl
theorem hexv_in (c : Int) : 0 ≤ hexv c ∧ hexv c ≤ 16 := by
  unfold hexv
  split
  · omega
  · split
    · omega
    · split
      · omega
      · omega
theorem getD_cons {ks : List Int} {k : Nat} (h : k < ks.length) : ks.drop k = ks.getD k 0 :: ks.drop (k + 1) := by
  rw [List.drop_eq_getElem_cons h, List.getD_eq_getElem?_getD, List.getElem?_eq_getElem h]
  rfl
theorem HInv.pair {ks out : List Int} {i : Int} (h : HInv ks i out) (h0 : 0 ≤ i) (h1 : i < (ks.length : Int)) (h2 : i % 2 = 0) (he : (ks.length : Int).fmod 2 = 0) :
    unhexL ks = (unhexL (ks.getD i.toNat 0 :: ks.getD (i + 1).toNat 0 :: ks.drop (i + 2).toNat)).map (out ++ ·) := by
  rw [Int.fmod_eq_emod_of_nonneg _ (by decide)] at he
  unfold HInv at h
  have e1 : i.toNat < ks.length := by omega
  have e2 : i.toNat + 1 < ks.length := by omega
  rw [h, getD_cons e1, getD_cons e2, show (i + 1).toNat = i.toNat + 1 by omega, show (i + 2).toNat = i.toNat + 1 + 1 by omega]
theorem HInv.step {ks out : List Int} {i : Int} (h : HInv ks i out) (h0 : 0 ≤ i) (h1 : i < (ks.length : Int)) (h2 : i % 2 = 0) (he : (ks.length : Int).fmod 2 = 0) (hl : (out.length : Int) ≤ i) (hx : ∀ x ∈ out, 0 ≤ x ∧ x < 256)
    (ha : ¬ 16 ≤ hexv (ks.getD i.toNat 0)) (hb : ¬ 16 ≤ hexv (ks.getD (i + 1).toNat 0)) :
    HInv ks (i + 2) (out ++ [hexv (ks.getD i.toNat 0) * 2 ^ Int.toNat 4 + hexv (ks.getD (i + 1).toNat 0)]) ∧ 0 ≤ i + 2 ∧ i + 2 ≤ (ks.length : Int) ∧ (i + 2) % 2 = 0 ∧ ((out ++ [hexv (ks.getD i.toNat 0) * 2 ^ Int.toNat 4 + hexv (ks.getD (i + 1).toNat 0)]).length : Int) ≤ i + 2 ∧
      ∀ x ∈ out ++ [hexv (ks.getD i.toNat 0) * 2 ^ Int.toNat 4 + hexv (ks.getD (i + 1).toNat 0)], 0 ≤ x ∧ x < 256 := by
  have e := h.pair h0 h1 h2 he
  have he' := he
  rw [Int.fmod_eq_emod_of_nonneg _ (by decide)] at he'
  have pa := hexv_in (ks.getD i.toNat 0)
  have pb := hexv_in (ks.getD (i + 1).toNat 0)
  have e16 : (2 : Int) ^ Int.toNat 4 = 16 := by decide
  rw [e16]
  refine ⟨?_, by omega, by omega, by omega, by rw [List.length_append]; simp only [List.length_cons, List.length_nil]; omega, fun x hm => ?_⟩
  · unfold HInv
    rw [e]
    show (if hexv _ ≥ 16 ∨ hexv _ ≥ 16 then none else (unhexL _).map _).map _ = _
    rw [if_neg (by omega)]
    cases unhexL (ks.drop (i + 2).toNat) with
    | none => rfl
    | some r => simp
  · rcases List.mem_append.mp hm with hm | hm
    · exact hx x hm
    · rw [List.mem_singleton.mp hm]
      omega
theorem HInv.bad1 {ks out : List Int} {i : Int} (h : HInv ks i out) (h0 : 0 ≤ i) (h1 : i < (ks.length : Int)) (h2 : i % 2 = 0) (he : (ks.length : Int).fmod 2 = 0) (ha : 16 ≤ hexv (ks.getD i.toNat 0)) : unhexL ks = none := by
  rw [h.pair h0 h1 h2 he]
  show (if hexv _ ≥ 16 ∨ hexv _ ≥ 16 then none else (unhexL _).map _).map _ = _
  rw [if_pos (.inl ha)]
  rfl
theorem HInv.bad2 {ks out : List Int} {i : Int} (h : HInv ks i out) (h0 : 0 ≤ i) (h1 : i < (ks.length : Int)) (h2 : i % 2 = 0) (he : (ks.length : Int).fmod 2 = 0) (hb : 16 ≤ hexv (ks.getD (i + 1).toNat 0)) : unhexL ks = none := by
  rw [h.pair h0 h1 h2 he]
  show (if hexv _ ≥ 16 ∨ hexv _ ≥ 16 then none else (unhexL _).map _).map _ = _
  rw [if_pos (.inr hb)]
  rfl
theorem HInv.whole {ks out : List Int} {i : Int} (h : HInv ks i out) (h1 : ¬ i < (ks.length : Int)) : unhexL ks = some out := by
  unfold HInv at h
  rw [h, List.drop_eq_nil_of_le (by omega)]
  simp [unhexL]
theorem unhex_odd : ∀ {ks : List Int}, (ks.length : Int).fmod 2 ≠ 0 → unhexL ks = none
  | [], h => absurd rfl h
  | [_], _ => rfl
  | a :: b :: r, h => by
    have h' : (r.length : Int).fmod 2 ≠ 0 := by
      rw [Int.fmod_eq_emod_of_nonneg _ (by decide)] at h ⊢
      simp only [List.length_cons] at h
      omega
    show (if hexv a ≥ 16 ∨ hexv b ≥ 16 then none else (unhexL r).map _) = none
    rw [unhex_odd h']
    split <;> rfl
theorem raised_drop {base : Heap} {l : List Env} {e : Addr} {cls : Value} {t : Addr} {vs : List Value} {x : Addr × Obj} {news : List (Addr × Obj)} {h : Heap} (R : RaisedK base l e cls t vs (x :: news) h) : RaisedK base l e cls t vs news h := by
  obtain ⟨⟨B, h1, h2, h3⟩, h4⟩ := R
  exact ⟨⟨B, h1, fun q hq => h2 q (.tail _ hq), h3⟩, h4⟩
theorem news_tail {h₀ h : Heap} {L : Addr} {x : Addr × Obj} {l : List (Addr × Obj)} (N : News h₀ L h (x :: l)) : News h₀ L h l := fun p hp => N p (.tail _ hp)

local macro_rules | `(tactic| walk_at "call type:type") => `(tactic| (k_here; (with_reducible show wpAny _ _ (call (Value.type "type") [Value.bytes _ _]) _ _ _); refine Mine.type_of_bytes ?_))
local macro_rules | `(tactic| walk_at "compareOp Is") => `(tactic| (k_here; (with_reducible show wpAny _ _ (compareOp CmpOp.Is (Value.type _) (Value.type _)) _ _ _); first | refine wpAny_is_self (by rfl) ?_ | refine wpAny_is_other (by rfl) (by intro x; exact absurd (Value.type.inj x) (by decide)) ?_))
local macro_rules | `(tactic| walk_at "compareOp Is type type") => `(tactic| (k_here; (with_reducible show wpAny _ _ (compareOp CmpOp.Is (Value.type _) (Value.type _)) _ _ _); first | refine wpAny_is_self (by rfl) ?_ | refine wpAny_is_other (by rfl) (by intro x; exact absurd (Value.type.inj x) (by decide)) ?_))

theorem a2b_call {w : World} {p : Program} {loose : List Str} {mean : ExcName → Option Value} {mg mb : Str → Option Value} (dp un : Nat) (gd : Option (List Code)) (cn : Str) (cs : Scope) (a : Addr) (ccd : Value) (cl : List (Str × Addr)) (outer : List Env) (A₀ : Around) (base h₀ : Heap) (L : Addr)
    (m : Str → Option Value) (s : Shared) (news : List (Addr × Obj)) (b : Array UInt8) (t : Tok) (Q E : Value → Shared → Prop)
    (B : Below A₀ base outer h₀) (F : Fr h₀ L s.heap m) (X : (K w.params).In h₀) (N : News h₀ L s.heap news) (T : Top p loose mean mg mb h₀) (hk : cs.kind = .function) (ks : List Int) (hb : KBw.bInts b = ks) (hz : ks.length ≤ 40)
    (hd : dp + 5 < recursionLimit) (hu : un + 40 < cLine)
    (ret : ∀ (out : List Int) (t' : Tok) (h' : Heap) (tk' : Nat), unhexL ks = some out → (∀ x ∈ out, 0 ≤ x ∧ x < 256) → Fr h₀ L h' m → News h₀ L h' news → Q (.bytes (byteArr out) t') { s with heap := h', toks := tk' })
    (bad : ∀ (e t' : Addr) (vs : List Value) (g' h' : Heap) (tk' : Nat), unhexL ks = none → Fr h₀ L g' m → g'.UpToSlots h' → RaisedK base (envX cn cs L a ccd cl :: outer) e (.ref 86) t' vs news h' → E (.ref e) { s with heap := h', toks := tk' }) :
    wpAny (model row.prog w) (ktrTop dp un gd cn cs L a ccd cl outer) (call (.ref 110) [.bytes b t]) Q E s := by
  revert X; k_fill; intro X
  (k_with "call ref" => k_call_by "_hex_value" hexv)
  (k_with "tree" => simp only [hexv])
  (k_with "state" => first | exact ⟨HInv.nil _, by omega, by omega, by omega, by simp, by simp⟩ | exact HInv.step (by assumption) (by assumption) (by assumption) (by assumption) (by assumption) (by assumption) (by assumption) (by assumption) (by assumption))
  (k_with "fact _hex_value" => exact hexv_in)
  (k_with "exec While Compare cons nil" => k_while (fun _ i out => HInv ks i out ∧ 0 ≤ i ∧ i ≤ (ks.length : Int) ∧ i % 2 = 0 ∧ (out.length : Int) ≤ i ∧ ∀ x ∈ out, 0 ≤ x ∧ x < 256) (fun _ i _ => ks.length - i.toNat) "i" "out")
  refine wpAny_call ?_
  k_dflt cell_enter
  k_steps
  all_goals first
    | exact bad _ _ _ _ _ _ (unhex_odd (by assumption)) (by assumption) (by assumption) (by assumption)
    | exact bad _ _ _ _ _ _ (HInv.bad1 (by assumption) (by assumption) (by assumption) (by assumption) (by assumption) (by assumption)) (by assumption) (by assumption) (raised_drop (by assumption))
    | exact bad _ _ _ _ _ _ (HInv.bad2 (by assumption) (by assumption) (by assumption) (by assumption) (by assumption) (by assumption)) (by assumption) (by assumption) (raised_drop (by assumption))
    | exact ret _ _ _ _ (HInv.whole (by assumption) (by assumption)) (by assumption) (by assumption) (news_tail (by assumption))
end
section
open PySem.Calls PySem.Spec

theorem isi_dict {prog : Program} {w : World} {A : Around} {E : Value → Shared → Prop} {s : Shared} {KF : Frag} {knd : KeyKind prog w Str} {kvs : List (Str × Value)} {h₀ : Heap} {L d : Addr} {news : List (Addr × Obj)} {o : Obj} {c : Value} {bb : Bool} {Q : Value → Shared → Prop}
    (X : KF.In s.heap) (N : News h₀ L s.heap news) (hm : (d, o) ∈ news) (hd : o.IsDictOf knd kvs) (e : kitOne KF (.type "dict") c = some bb) (h : ∀ tk, Q (.bool bb) { s with toks := tk }) :
    wpAny (model prog w) A (call (.builtin "isinstance") [.ref d, c]) Q E s :=
  kia_one kitx_dict X (by have t : s.TypeIs (.ref d) "dict" := (kda_dict N hm hd).typeIs; exact t) e (by intro q; cases q) h
local macro_rules | `(tactic| walk_at "call builtin:isinstance") => `(tactic| (k_here; (with_reducible show wpAny _ _ (call _ [Value.ref _, Value.type "dict"]) _ _ _); k_dflt (refine' isi_dict ?X ?N ?m ?d ?e ?_; (case X => k_in); (case N => k_asm); (case m => k_mem); (case d => k_asm); (case e => kit_is); k_whole; intro _)))
noncomputable abbrev lawA (fa : Addr) (ccd : Value) (L : Addr) : Around := callerA.deeper (envX (zs "law") lawD.scope L fa ccd [(Str.ofString "values", L + 1)])
noncomputable abbrev fields (w : World) (fd : Addr) (t1 t2 t3 t4 t5 t6 : Tok) (raw data : Value) : Obj := dictOf [⟨PyData.keyHash w.params (Str.ofString "attrs"), .str (Str.ofString "attrs") t1, .ref fd⟩, ⟨PyData.keyHash w.params (Str.ofString "rawdata"), .str (Str.ofString "rawdata") t2, raw⟩,
        ⟨PyData.keyHash w.params (Str.ofString "decipher"), .str (Str.ofString "decipher") t3, .none⟩, ⟨PyData.keyHash w.params (Str.ofString "data"), .str (Str.ofString "data") t4, data⟩, ⟨PyData.keyHash w.params (Str.ofString "objid"), .str (Str.ofString "objid") t5, .none⟩, ⟨PyData.keyHash w.params (Str.ofString "genno"), .str (Str.ofString "genno") t6, .none⟩] 6
theorem stream_call {w : World} {p : Program} {loose : List Str} {mean : ExcName → Option Value} {mg mb : Str → Option Value} (fa : Addr) (ccd : Value) (h₀ : Heap) (L : Addr)
    (m : Str → Option Value) (s : Shared) (lx ld fd c0 : Addr) (fo oc lo ldo : Obj) (b : Array UInt8) (tb tk : Tok) (Q E : Value → Shared → Prop)
    (B : Below callerA h₀ [] h₀) (F : Fr h₀ L s.heap m) (X : (K w.params).In h₀) (N : News h₀ L s.heap [(lx, lo), (ld, ldo), (fd, fo), (c0, oc)]) (T : Top p loose mean mg mb h₀)
    (hfd : fo.IsDictOf (PySem.strKind row.prog w) (strPairs [(Value.str (Str.ofString "Filter") tk, Value.ref lx)]))
    (ret : ∀ (x dd : Addr) (t1 t2 t3 t4 t5 t6 : Tok) (h' : Heap) (tk' : Nat), Fr h₀ L h' m → News h₀ L h' [(x, instObj 1646 dd), (dd, fields w fd t1 t2 t3 t4 t5 t6 (.bytes b tb) .none), (lx, lo), (ld, ldo), (fd, fo), (c0, oc)] →
      (@LT.lt Nat _ dd x ∧ @LT.lt Nat _ lx dd ∧ @LT.lt Nat _ ld dd ∧ @LT.lt Nat _ fd dd ∧ @LT.lt Nat _ c0 dd) → Q (.ref x) { s with heap := h', toks := tk' }) :
    wpAny (model row.prog w) (lawA fa ccd L) (call (.ref 1646) [.ref fd, .bytes b tb]) Q E s := by
  revert X; k_fill; intro X
  k_steps
  (with_reducible rename _ ∧ _ => l9)
  exact ret _ _ _ _ _ _ _ _ _ _ (by assumption) (by assumption) ⟨by assumption, l9.1, l9.2.1, l9.2.2.1, l9.2.2.2⟩
end
section
open PySem.Calls PySem.Spec

@[irreducible] noncomputable def idx62 (ls : List Int) : Int := match ls.findIdx? (fun x => decide (x = 62)) with
  | some i => (i : Int)
  | none => -1
theorem idx62_in (ls : List Int) : -1 ≤ idx62 ls ∧ idx62 ls < (ls.length : Int) := by
  unfold idx62
  cases h : ls.findIdx? (fun x => decide (x = 62)) with
  | none => dsimp only; omega
  | some i =>
    have := (List.findIdx?_eq_some_iff_getElem.mp h).1
    dsimp only
    omega
theorem find_range (p : Nat → Bool) (q : Int → Bool) : ∀ (ls : List Int) (k : Nat), (∀ i (h : i < ls.length), p (i + k) = q ls[i]) → (List.range' k ls.length).find? p = (ls.findIdx? q).map (· + k)
  | [], k, _ => rfl
  | x :: ls, k, h => by
    have h0 : p (0 + k) = q x := h 0 (by simp)
    rw [Nat.zero_add] at h0
    rw [List.length_cons, List.range'_succ, List.find?_cons, List.findIdx?_cons, h0]
    cases q x with
    | true => simp
    | false =>
      dsimp only
      rw [find_range p q ls (k + 1) fun i hi => by have := h (i + 1) (by simp only [List.length_cons]; omega); rw [show i + (k + 1) = i + 1 + k by omega]; simpa using this]
      cases ls.findIdx? q with
      | none => rfl
      | some i => simp; omega
theorem find62 {b : Array UInt8} {ls : List Int} (hb : KBw.bInts b = ls) : findAt b #[62] = idx62 ls := by
  subst hb
  unfold findAt idx62
  by_cases h0 : (b.size : Int) < (#[62] : Array UInt8).size
  · have : b.size = 0 := by have : (#[62] : Array UInt8).size = 1 := rfl; omega
    have hb : b = #[] := Array.eq_empty_of_size_eq_zero this
    subst hb
    rfl
  · rw [if_neg h0]
    unfold Builtin.Bytes.find?
    have e : (List.range (b.size + 1 - (0 + (#[62] : Array UInt8).size))).map (· + 0) = List.range' 0 (KBw.bInts b).length := by
      rw [KBw.ints_length, ← List.range_eq_range']
      simp
    rw [e, find_range _ (fun x => decide (x = 62)) (KBw.bInts b) 0]
    · cases List.findIdx? _ (KBw.bInts b) <;> rfl
    · intro i hi
      rw [KBw.ints_length] at hi
      show (b.extract (i + 0) (i + 0 + 1) == #[62]) = decide ((KBw.bInts b)[i] = 62)
      have e1 : (KBw.bInts b)[i] = ((b[i]).toNat : Int) := by simp [KBw.bInts]
      have e2 : b.extract i (i + 1) = #[b[i]] := by
        apply Array.ext
        · simp; omega
        · intro j h1 h2
          have : j = 0 := by simp at h2; omega
          subst this
          simp
      rw [Nat.add_zero, e1, e2]
      by_cases hc : b[i] = 62
      · rw [hc]; rfl
      · have : ¬ ((b[i]).toNat : Int) = 62 := by
          intro q
          apply hc
          have : (b[i]).toNat = 62 := by omega
          exact UInt8.toNat_inj.mp this
        rw [decide_eq_false this]
        simpa using hc

noncomputable def hexL (ks : List Int) : Option (List Int) :=
  if idx62 (stripL ks) = -1 then unhexL (stripL ks)
  else if (idx62 (stripL ks)).fmod 2 = 1 then unhexL ((stripL ks).take (idx62 (stripL ks)).toNat ++ [48]) else unhexL ((stripL ks).take (idx62 (stripL ks)).toNat)
theorem hexL_all {ks : List Int} (h : idx62 (stripL ks) = -1) : hexL ks = unhexL (stripL ks) := by unfold hexL; rw [if_pos h]
theorem hexL_odd {ks : List Int} (h : ¬ idx62 (stripL ks) = -1) (h1 : (idx62 (stripL ks)).fmod 2 = 1) : hexL ks = unhexL ((stripL ks).take (idx62 (stripL ks)).toNat ++ [48]) := by unfold hexL; rw [if_neg h, if_pos h1]
theorem hexL_even {ks : List Int} (h : ¬ idx62 (stripL ks) = -1) (h1 : ¬ (idx62 (stripL ks)).fmod 2 = 1) : hexL ks = unhexL ((stripL ks).take (idx62 (stripL ks)).toNat) := by unfold hexL; rw [if_neg h, if_neg h1]
theorem strip_len (ks : List Int) : (stripL ks).length ≤ ks.length := by unfold stripL; exact List.length_filter_le _ _

theorem noI_bytes_add : typeLookup (.type "bytes") (dunderI "add") = pure none := by rw [typeLookup_type, builtinLookup_eq_fast]; kernel_rfl
theorem iadd_bytes {prog : Program} {w : World} {A : Around} {E : Value → Shared → Prop} {s : Shared} {b c : Array UInt8} {t u : Tok} {Q : Value → Shared → Prop} (hsz : b.size + c.size ≤ 16777216) (h : ∀ t' k, Q (.bytes (b ++ c) t') { s with toks := k }) : wpAny (model prog w) A (inplaceOp .Add (.bytes b t) (.bytes c u)) Q E s := by
  refine iconcat_gives (typeIs_bytes s b t) (typeIs_bytes s c u) noI_bytes_add KBy.noFill_bytes_add KBy.seq_bytes_add FB.slot_bytes_add FB.entry_bytes_add (FB.args_bytes_add_2 _ _) (KBy.gives_bytes_add (KBy.tooLong_not hsz)) ?_
  by_cases hb : b.isEmpty = true
  · rw [if_pos hb]
    have e : b = #[] := Array.isEmpty_iff.1 hb
    have h' := h u s.toks
    rw [e, Array.empty_append] at h'
    exact h'
  · rw [if_neg hb]
    by_cases hc : c.isEmpty = true
    · rw [if_pos hc]
      have e : c = #[] := Array.isEmpty_iff.1 hc
      have h' := h t s.toks
      rw [e, Array.append_empty] at h'
      exact h'
    · rw [if_neg hc]
      exact ⟨by rw [Array.size_append, sizeLine_eq]; exact hsz, h s.toks (s.toks + 1)⟩
theorem iadd_K {prog : Program} {w : World} {A : Around} {E : Value → Shared → Prop} {s : Shared} {b c : Array UInt8} {t u : Tok} {ks ls : List Int} {Q : Value → Shared → Prop} (hb : KBw.bInts b = ks) (hc : KBw.bInts c = ls) (hsz : ks.length + ls.length ≤ 16777216) (h : ∀ t' k, KBw.bInts (b ++ c) = ks ++ ls → Q (.bytes (b ++ c) t') { s with toks := k }) : wpAny (model prog w) A (inplaceOp .Add (.bytes b t) (.bytes c u)) Q E s :=
  iadd_bytes (by rw [← KBw.ints_length b, ← KBw.ints_length c, hb, hc]; exact hsz) fun t' k => h t' k (KBw.ints_app hb hc)

theorem find62_K {prog : Program} {w : World} {A : Around} {E : Value → Shared → Prop} {s : Shared} {b : Array UInt8} {t u : Tok} {ls : List Int} {Q : Value → Shared → Prop} (hb : KBw.bInts b = ls)
    (h : -1 ≤ idx62 ls → idx62 ls < (ls.length : Int) → Q (.int (idx62 ls) s.toks) { s with toks := s.toks + 1 }) : wpAny (model prog w) A (call (.builtin "bytes.find") [.bytes b t, .bytes #[62] u]) Q E s :=
  find_bytes (by rw [find62 hb]; exact h (idx62_in ls).1 (idx62_in ls).2)

local macro_rules | `(tactic| walk_at "call builtin:bytes.find") => `(tactic| (k_here; refine Mine.find62_K (by assumption) ?_; intro lo9 hi9))
local macro_rules | `(tactic| walk_at "inplaceOp Add bytes bytes") => `(tactic| (k_here; (refine iadd_K (by kba_ints) (by kba_ints2) (by kba_size) ?_); intro _ _ kbaApp))
local macro_rules | `(tactic| walk_at "call ref") => `(tactic| (k_here; k_dflt (first
  | (refine' a2b_call _ _ _ _ _ _ _ _ _ _ _ _ _ _ _ _ _ _ _ _ ?k1 ?k2 ?k3 ?k4 ?k5 ?kK _ ?hb ?hz ?kd ?ku (fun o9 t9 h9 k9 e9 r9 F9 N9 => ?_) (fun e9 t9 v9 g9 h9 k9 n9 F9 U9 R9 => ?_); (case k1 => k_asm); (case k2 => k_asm); (case k3 => k_asm); (case k4 => k_asm); (case k5 => k_asm); (case kK => first | exact rfl | assumption); (case hb => kba_ints); (case hz => kba_size); (case kd => k_room); (case ku => ktr_units))
  | (refine' sub_call _ _ _ _ _ _ _ _ _ _ _ _ _ _ _ _ _ _ _ _ _ ?k1 ?k2 ?k3 ?k4 ?k5 ?kK _ ?hb ?hz ?kd ?ku (fun c9 t9 h9 k9 hc9 F9 N9 => ?_); (case k1 => k_asm); (case k2 => k_asm); (case k3 => k_asm); (case k4 => k_asm); (case k5 => k_asm); (case kK => first | exact rfl | assumption); (case hb => assumption); (case hz => assumption); (case kd => k_room); (case ku => ktr_units)))))

theorem hex_call {w : World} {p : Program} {loose : List Str} {mean : ExcName → Option Value} {mg mb : Str → Option Value} (dp un : Nat) (gd : Option (List Code)) (cn : Str) (cs : Scope) (a : Addr) (ccd : Value) (cl : List (Str × Addr)) (outer : List Env) (A₀ : Around) (base h₀ : Heap) (L : Addr)
    (m : Str → Option Value) (s : Shared) (news : List (Addr × Obj)) (b : Array UInt8) (t : Tok) (Q E : Value → Shared → Prop)
    (B : Below A₀ base outer h₀) (F : Fr h₀ L s.heap m) (X : (K w.params).In h₀) (N : News h₀ L s.heap news) (T : Top p loose mean mg mb h₀) (hk : cs.kind = .function) (ks : List Int) (hb : KBw.bInts b = ks) (hz : ks.length ≤ 39)
    (hd : dp + 10 < recursionLimit) (hu : un + 80 < cLine)
    (ret : ∀ (out : List Int) (t' : Tok) (h' : Heap) (tk' : Nat), hexL ks = some out → (∀ x ∈ out, 0 ≤ x ∧ x < 256) → Fr h₀ L h' m → News h₀ L h' news → Q (.bytes (byteArr out) t') { s with heap := h', toks := tk' })
    (bad : ∀ (e t' : Addr) (vs : List Value) (g' h' : Heap) (tk' : Nat), hexL ks = none → Fr h₀ L g' m → g'.UpToSlots h' → RaisedK base (envX cn cs L a ccd cl :: outer) e (.ref 86) t' vs news h' → E (.ref e) { s with heap := h', toks := tk' }) :
    wpAny (model row.prog w) (ktrTop dp un gd cn cs L a ccd cl outer) (call (.ref 117) [.bytes b t]) Q E s := by
  revert X; k_fill; intro X
  have hz40 : ks.length ≤ 40 := by omega
  have hsl := strip_len ks
  have hi2 := idx62_in (stripL ks)
  have hcl : ¬ idx62 (stripL ks) = -1 → clipAt (stripL ks).length (idx62 (stripL ks)) = (idx62 (stripL ks)).toNat := fun h => clipAt_in (by omega) (by omega)
  have hb48 : KBw.bInts #[48] = [48] := rfl
  refine wpAny_call ?_
  k_dflt cell_enter
  k_steps
  all_goals first
    | exact ret _ _ _ _ ((hexL_all (by assumption)).trans (by assumption)) (by assumption) (by assumption) (by assumption)
    | exact ret _ _ _ _ ((hexL_odd (by assumption) (by assumption)).trans (by rw [← hcl (by assumption)]; assumption)) (by assumption) (by assumption) (by assumption)
    | exact ret _ _ _ _ ((hexL_even (by assumption) (by assumption)).trans (by rw [← hcl (by assumption)]; assumption)) (by assumption) (by assumption) (by assumption)
    | exact bad _ _ _ _ _ _ ((hexL_all (by assumption)).trans (by assumption)) (by assumption) (by assumption) (by assumption)
    | exact bad _ _ _ _ _ _ ((hexL_odd (by assumption) (by assumption)).trans (by rw [← hcl (by assumption)]; assumption)) (by assumption) (by assumption) (by assumption)
    | exact bad _ _ _ _ _ _ ((hexL_even (by assumption) (by assumption)).trans (by rw [← hcl (by assumption)]; assumption)) (by assumption) (by assumption) (by assumption)
end
section
open PySem.Calls PySem.Spec
noncomputable def Oct (x : Int) : Prop := 0 ≤ x ∧ x < 256 ∧ x ≠ 11
noncomputable def pairs : List Int → List Int
  | a :: b :: r => (16 * a + b) :: pairs r
  | _ => []
-- the plain law: what the text's own reading yields is what asciihexdecode's reading yields
noncomputable def digitsL : List Int → Option (List Int)
  | [] => some []
  | x :: r => if hexv x ≥ 16 then none else (digitsL r).map (hexv x :: ·)
noncomputable def cutL (ls : List Int) : List Int := ls.takeWhile fun x => !decide (x = 62)
theorem sort_of : ∀ i : Fin 256, i.val ≠ 11 → ((i.val : Int) = 62 → blanks6.contains ((i.val : Int).toNat.toUInt8) = false) ∧ blanks.contains ((i.val : Int).toNat.toUInt8) = blanks6.contains ((i.val : Int).toNat.toUInt8) ∧
    ((i.val : Int) ≠ 62 → blanks6.contains ((i.val : Int).toNat.toUInt8) = false → (dig (i.val : Int) < 0 ↔ hexv (i.val : Int) ≥ 16) ∧ (¬ dig (i.val : Int) < 0 → (dig (i.val : Int)).fmod 16 = hexv (i.val : Int))) := by decide +kernel
theorem sort_oct {x : Int} (h : Oct x) : (x = 62 → blanks6.contains x.toNat.toUInt8 = false) ∧ blanks.contains x.toNat.toUInt8 = blanks6.contains x.toNat.toUInt8 ∧
    (x ≠ 62 → blanks6.contains x.toNat.toUInt8 = false → (dig x < 0 ↔ hexv x ≥ 16) ∧ (¬ dig x < 0 → (dig x).fmod 16 = hexv x)) := by
  obtain ⟨h0, h1, h2⟩ := h
  have e : ((⟨x.toNat, by omega⟩ : Fin 256).val : Int) = x := Int.toNat_of_nonneg h0
  have k := sort_of ⟨x.toNat, by omega⟩ (by show x.toNat ≠ 11; omega)
  rw [e] at k
  exact k
theorem strip_cons_in {x : Int} {r : List Int} (h : blanks6.contains x.toNat.toUInt8 = true) : stripL (x :: r) = stripL r := by
  unfold stripL; rw [List.filter_cons, if_neg (by rw [h]; decide)]
theorem strip_cons_out {x : Int} {r : List Int} (h : blanks6.contains x.toNat.toUInt8 = false) : stripL (x :: r) = x :: stripL r := by
  unfold stripL; rw [List.filter_cons, if_pos (by rw [h]; decide)]
theorem cut_62 (r : List Int) : cutL (62 :: r) = [] := rfl
theorem cut_cons {x : Int} {r : List Int} (h : ¬ x = 62) : cutL (x :: r) = x :: cutL r := by
  unfold cutL; rw [List.takeWhile_cons, if_pos (by simpa using h)]
theorem vals_eq : ∀ (ks acc : List Int), (∀ x ∈ ks, Oct x) → valsL ks acc = (digitsL (cutL (stripL ks))).map fun ds => if 62 ∈ stripL ks then (acc ++ ds) ++ List.replicate ((acc ++ ds).length % 2) 0 else acc ++ ds
  | [], acc, _ => by
    show some acc = some (if (62 : Int) ∈ ([] : List Int) then _ else acc ++ [])
    rw [if_neg (by simp), List.append_nil]
  | x :: r, acc, h => by
    obtain ⟨s1, s2, s3⟩ := sort_oct (h x (.head _))
    have hr : ∀ y ∈ r, Oct y := fun y hy => h y (.tail _ hy)
    unfold valsL
    by_cases h62 : x = 62
    · rw [if_pos h62, strip_cons_out (s1 h62), h62, cut_62]
      show _ = some (if (62 : Int) ∈ 62 :: stripL r then _ else _)
      rw [if_pos (List.mem_cons_self), List.append_nil]
    · rw [if_neg h62, s2]
      cases hb : blanks6.contains x.toNat.toUInt8 with
      | true => rw [if_pos rfl, vals_eq r acc hr, strip_cons_in hb]
      | false =>
        obtain ⟨d1, d2⟩ := s3 h62 hb
        rw [if_neg (by decide), strip_cons_out hb, cut_cons h62]
        unfold digitsL
        by_cases hd : dig x < 0
        · rw [if_pos hd, if_pos (d1.mp hd)]; rfl
        · rw [if_neg hd, if_neg (fun q => hd (d1.mpr q)), d2 hd, vals_eq r _ hr, Option.map_map]
          congr 1
          funext ds
          have hm : ((62 : Int) ∈ x :: stripL r) = ((62 : Int) ∈ stripL r) := by
            rw [List.mem_cons]
            exact propext ⟨fun q => q.resolve_left fun z => h62 z.symm, .inr⟩
          simp only [Function.comp_apply, hm, List.append_assoc, List.singleton_append]
theorem take_all : ∀ {ls : List Int}, (∀ x ∈ ls, ¬ x = 62) → ls.takeWhile (fun x => !decide (x = 62)) = ls
  | [], _ => rfl
  | x :: r, h => by
    rw [List.takeWhile_cons, if_pos (by simpa using h x (.head _)), take_all fun y hy => h y (.tail _ hy)]
theorem idx_none {ls : List Int} (h : ¬ (62 : Int) ∈ ls) : idx62 ls = -1 ∧ cutL ls = ls := by
  constructor
  · unfold idx62
    rw [List.findIdx?_eq_none_iff.mpr]
    intro x hx
    simp only [decide_eq_false_iff_not]
    rintro rfl
    exact h hx
  · unfold cutL
    exact take_all fun x hx => by
      rintro rfl
      exact h hx
theorem find_cut : ∀ {ls : List Int}, (62 : Int) ∈ ls → ls.findIdx? (fun x => decide (x = 62)) = some (cutL ls).length ∧ ls.take (cutL ls).length = cutL ls
  | x :: r, h => by
    by_cases h62 : x = 62
    · rw [h62, cut_62]; exact ⟨rfl, rfl⟩
    · obtain ⟨e1, e2⟩ := find_cut ((List.mem_cons.mp h).resolve_left fun z => h62 z.symm)
      rw [cut_cons h62, List.findIdx?_cons, decide_eq_false h62, e1]
      exact ⟨rfl, by rw [List.length_cons, List.take_succ_cons, e2]⟩
theorem idx_some {ls : List Int} (h : (62 : Int) ∈ ls) : idx62 ls = ((cutL ls).length : Int) ∧ ls.take (cutL ls).length = cutL ls := by
  obtain ⟨e1, e2⟩ := find_cut h
  refine ⟨?_, e2⟩
  unfold idx62
  rw [e1]
theorem digits_len : ∀ {ls ds : List Int}, digitsL ls = some ds → ds.length = ls.length
  | [], ds, h => by rw [← Option.some.inj h]
  | x :: r, ds, h => by
    unfold digitsL at h
    split at h
    · exact nomatch h
    · obtain ⟨d, hd, rfl⟩ := Option.map_eq_some_iff.mp h
      rw [List.length_cons, List.length_cons, digits_len hd]
theorem digits_snoc {y v : Int} (hy : hexv y = v) (hv : v < 16) : ∀ (ls : List Int), digitsL (ls ++ [y]) = (digitsL ls).map (· ++ [v])
  | [] => by
    show (if hexv y ≥ 16 then none else (some []).map (hexv y :: ·)) = some ([] ++ [v])
    rw [hy, if_neg (by omega)]; rfl
  | x :: r => by
    show (if hexv x ≥ 16 then none else (digitsL (r ++ [y])).map (hexv x :: ·)) = (if hexv x ≥ 16 then none else (digitsL r).map (hexv x :: ·)).map (· ++ [v])
    split
    · rfl
    · rw [digits_snoc hy hv r, Option.map_map, Option.map_map]; rfl
theorem unhex_even : ∀ (n : Nat) (ls : List Int), ls.length = 2 * n → unhexL ls = (digitsL ls).map pairs
  | 0, ls, h => by
    have : ls = [] := List.eq_nil_of_length_eq_zero h
    subst this
    rfl
  | n + 1, a :: b :: r, h => by
    have e := unhex_even n r (by simp only [List.length_cons] at h; omega)
    show (if hexv a ≥ 16 ∨ hexv b ≥ 16 then none else (unhexL r).map ((hexv a * 16 + hexv b) :: ·)) = (if hexv a ≥ 16 then none else (if hexv b ≥ 16 then none else (digitsL r).map (hexv b :: ·)).map (hexv a :: ·)).map pairs
    rw [e]
    by_cases ha : hexv a ≥ 16
    · rw [if_pos (.inl ha), if_pos ha]; rfl
    · by_cases hb : hexv b ≥ 16
      · rw [if_pos (.inr hb), if_neg ha, if_pos hb]; rfl
      · rw [if_neg (fun q => q.elim ha hb), if_neg ha, if_neg hb, Option.map_map, Option.map_map, Option.map_map]
        congr 1
        funext ds
        show (hexv a * 16 + hexv b) :: pairs ds = (16 * hexv a + hexv b) :: pairs ds
        rw [Int.mul_comm]
  | n + 1, [], h => by simp at h
  | n + 1, [_], h => by simp only [List.length_cons, List.length_nil] at h; omega
theorem unhex_none {ls : List Int} (h : digitsL ls = none) : unhexL ls = none := by
  by_cases he : (ls.length : Int).fmod 2 = 0
  · rw [Int.fmod_eq_emod_of_nonneg _ (by decide)] at he
    rw [unhex_even (ls.length / 2) ls (by omega), h]; rfl
  · exact unhex_odd he
theorem hex_end {ks : List Int} (h : (62 : Int) ∈ stripL ks) : hexL ks = if ((cutL (stripL ks)).length : Int).fmod 2 = 1 then unhexL (cutL (stripL ks) ++ [48]) else unhexL (cutL (stripL ks)) := by
  obtain ⟨e1, e2⟩ := idx_some h
  unfold hexL
  rw [if_neg (by rw [e1]; omega), e1, Int.toNat_natCast, e2]
theorem hex_all {ks : List Int} (h : ¬ (62 : Int) ∈ stripL ks) : hexL ks = unhexL (cutL (stripL ks)) := by
  obtain ⟨e1, e2⟩ := idx_none h
  rw [hexL_all e1, e2]
theorem law_none {ks : List Int} (ho : ∀ x ∈ ks, Oct x) (h : valsL ks [] = none) : hexL ks = none := by
  rw [vals_eq ks [] ho] at h
  have hd : digitsL (cutL (stripL ks)) = none := by simpa using h
  by_cases h62 : (62 : Int) ∈ stripL ks
  · rw [hex_end h62]
    split
    · exact unhex_none (by rw [digits_snoc (y := 48) (v := 0) (by decide) (by decide), hd]; rfl)
    · exact unhex_none hd
  · rw [hex_all h62]; exact unhex_none hd
theorem law_some {ks ns : List Int} (ho : ∀ x ∈ ks, Oct x) (h : valsL ks [] = some ns) : ∃ ds, digitsL (cutL (stripL ks)) = some ds ∧ ns = if (62 : Int) ∈ stripL ks then ds ++ List.replicate (ds.length % 2) 0 else ds := by
  rw [vals_eq ks [] ho] at h
  obtain ⟨ds, hd, rfl⟩ := Option.map_eq_some_iff.mp h
  exact ⟨ds, hd, by simp only [List.nil_append]⟩
theorem law_even {ks ns : List Int} (ho : ∀ x ∈ ks, Oct x) (h : valsL ks [] = some ns) (he : ¬ (ns.length : Int).fmod 2 = 1) : hexL ks = some (pairs ns) := by
  obtain ⟨ds, hd, rfl⟩ := law_some ho h
  have hl := digits_len hd
  by_cases h62 : (62 : Int) ∈ stripL ks
  · rw [if_pos h62, hex_end h62, ← hl]
    split
    · rename_i ho
      rw [Int.fmod_eq_emod_of_nonneg _ (by decide)] at ho
      rw [unhex_even ((ds.length + 1) / 2) _ (by rw [List.length_append, ← hl]; simp only [List.length_cons, List.length_nil]; omega), digits_snoc (y := 48) (v := 0) (by decide) (by decide), hd, show ds.length % 2 = 1 by omega]
      rfl
    · rename_i ho
      rw [Int.fmod_eq_emod_of_nonneg _ (by decide)] at ho
      rw [unhex_even (ds.length / 2) _ (by omega), hd, show ds.length % 2 = 0 by omega]
      show some (pairs ds) = some (pairs (ds ++ []))
      rw [List.append_nil]
  · rw [if_neg h62] at he ⊢
    rw [Int.fmod_eq_emod_of_nonneg _ (by decide)] at he
    rw [hex_all h62, unhex_even (ds.length / 2) _ (by omega), hd]; rfl
theorem law_odd {ks ns : List Int} (ho : ∀ x ∈ ks, Oct x) (h : valsL ks [] = some ns) (he : (ns.length : Int).fmod 2 = 1) : hexL (ks ++ [53]) = some (pairs (ns ++ [5])) := by
  obtain ⟨ds, hd, rfl⟩ := law_some ho h
  have hl := digits_len hd
  rw [Int.fmod_eq_emod_of_nonneg _ (by decide)] at he
  by_cases h62 : (62 : Int) ∈ stripL ks
  · rw [if_pos h62, List.length_append, List.length_replicate] at he
    exact absurd he (by omega)
  · rw [if_neg h62] at he ⊢
    have hs : stripL (ks ++ [53]) = stripL ks ++ [53] := by
      unfold stripL
      rw [List.filter_append, List.filter_cons, if_pos (by decide +kernel)]
      rfl
    have h62' : ¬ (62 : Int) ∈ stripL ks ++ [53] := by
      rw [List.mem_append]
      rintro (q | q)
      · exact h62 q
      · exact absurd (List.mem_singleton.mp q) (by decide)
    have hc : cutL (stripL ks ++ [53]) = stripL ks ++ [53] := (idx_none h62').2
    rw [hex_all (by rw [hs]; exact h62'), hs, hc]
    rw [(idx_none h62).2] at hd hl
    rw [unhex_even ((ds.length + 1) / 2) _ (by rw [List.length_append, ← hl]; simp only [List.length_cons, List.length_nil]; omega), digits_snoc (y := 53) (v := 5) (by decide) (by decide), hd]
    rfl
end
local macro_rules | `(tactic| cell_enter) => `(tactic| (refine' code_def ?k1 ?k2 ?k3 ?k4 ?k5 ?kA ?kF ?kK ?k6 ?k7 ?k8 ?k9 ?kB ?_ ?c2 ?c3 ?c4 ?c5; (case kA => exact rfl); (case kF => exact rfl); (case kK => assumption); (case k1 => k_asm); (case k2 => k_asm); (case k3 => k_asm); (case k4 => k_asm); (case k5 => k_asm); (case k6 => k_is); (case k7 => k_is); (case k8 => k_room); (case k9 => first | exact BindsTo.of_eq rfl | exact binds_K (by k_in) rfl (by k_is) rfl rfl rfl); (case c5 => decide); (case kB => exact locs rfl); (case c2 => exact rfl); (case c3 => exact rfl); (case c4 => exact rfl); k_whole; intro g' L' h' FG' F' N' B' X' T'; (try dsimp only); (try k_lift B'); (try k_fold)))
section
open PySem.Calls PySem.Spec


@[irreducible] noncomputable def IsNo (w : World) (v : Value) (news : List (Addr × Obj)) : Prop := ∀ {A : Around} {E : Value → Shared → Prop} {s : Shared} {Q : Value → Shared → Prop} {h₀ : Heap} {L : Addr}, (K w.params).In s.heap → News h₀ L s.heap news →
  (∀ tk, Q (.bool false) { s with toks := tk }) → wpAny (model row.prog w) A (call (.builtin "isinstance") [v, .ref 1541]) Q E s
theorem isNo_call {w : World} {v : Value} {news : List (Addr × Obj)} (I : IsNo w v news) {A : Around} {E : Value → Shared → Prop} {s : Shared} {Q : Value → Shared → Prop} {h₀ : Heap} {L : Addr} (X : (K w.params).In s.heap) (N : News h₀ L s.heap news)
  (h : ∀ tk, Q (.bool false) { s with toks := tk }) : wpAny (model row.prog w) A (call (.builtin "isinstance") [v, .ref 1541]) Q E s := by
  unfold IsNo at I
  exact I X N h
theorem isNo_list {w : World} {a : Addr} {o : Obj} {news : List (Addr × Obj)} (hm : (a, o) ∈ news) (hc : o.cls = .type "list") : IsNo w (.ref a) news := by
  unfold IsNo
  intro A E s Q h₀ L X N h
  exact kia_one kitx_list X ⟨o, (N _ hm).1, hc⟩ (by kernel_rfl) (by intro q; cases q) h
theorem isNo_dict {w : World} {a : Addr} {o : Obj} {news : List (Addr × Obj)} {kvs : List (Str × Value)} (hm : (a, o) ∈ news) (hd : o.IsDictOf (PySem.strKind row.prog w) kvs) : IsNo w (.ref a) news := by
  unfold IsNo
  intro A E s Q h₀ L X N h
  exact kia_one kitx_dict X (by have t : s.TypeIs (.ref a) "dict" := (kda_dict N hm hd).typeIs; exact t) (by kernel_rfl) (by intro q; cases q) h
theorem isNo_lit {w : World} {lx ld : Addr} {o : Obj} {news : List (Addr × Obj)} (hm : (lx, instObj 1388 ld) ∈ news) (hm2 : (ld, o) ∈ news) : IsNo w (.ref lx) news := by
  unfold IsNo
  k_fill
  intro A E s Q h₀ L X N h
  refine' kia_one (kitx_own ?k4 ?k5 ?k6 ?k7 ?k8 ?k9) ?X ?I ?ee ?nb ?_
  case X => exact X
  case I => exact InstAt.of_news N hm hm2
  case ee => kit_is
  case nb => kit_nb
  case k4 => k_is
  case k5 => k_is
  case k6 => k_is
  case k7 => k_is
  case k8 => k_is
  case k9 => k_is
  exact h
local macro_rules | `(tactic| walk_at "call builtin:isinstance") => `(tactic| (k_here; refine' isNo_call (by assumption) ?X ?N ?_; (case X => k_in); (case N => assumption); intro _))
local macro_rules | `(tactic| walk_at "exec While") => `(tactic| (k_here; k_dflt (refine whl_start 100 ?_)))
theorem res_call {w : World} {p : Program} {loose : List Str} {mean : ExcName → Option Value} {mg mb : Str → Option Value} (dp un : Nat) (gd : Option (List Code)) (cn : Str) (cs : Scope) (a : Addr) (ccd : Value) (cl : List (Str × Addr)) (outer : List Env) (A₀ : Around) (base h₀ : Heap) (L : Addr)
    (m : Str → Option Value) (s : Shared) (news : List (Addr × Obj)) (v : Addr) (Q E : Value → Shared → Prop)
    (B : Below A₀ base outer h₀) (F : Fr h₀ L s.heap m) (X : (K w.params).In h₀) (N : News h₀ L s.heap news) (T : Top p loose mean mg mb h₀) (hk : cs.kind = .function) (hI : IsNo w (.ref v) news)
    (hd : dp + 5 < recursionLimit) (hu : un + 40 < cLine)
    (ret : ∀ (h' : Heap) (tk' : Nat), Fr h₀ L h' m → News h₀ L h' news → Q (.ref v) { s with heap := h', toks := tk' }) :
    wpAny (model row.prog w) (ktrTop dp un gd cn cs L a ccd cl outer) (call (.ref 1551) [.ref v]) Q E s := by
  revert X; k_fill; intro X
  refine wpAny_call ?_
  k_dflt cell_enter
  k_steps
  exact ret _ _ (by assumption) (by assumption)
end
section
open PySem.Calls PySem.Spec


local macro_rules | `(tactic| walk_at "call ref") => `(tactic| (k_here; (with_reducible show wpAny _ _ (call (Value.ref 1551) _) _ _ _); k_dflt (
  (refine' res_call _ _ _ _ _ _ _ _ _ _ _ _ _ _ _ _ _ _ _ ?k1 ?k2 ?k3 ?k4 ?k5 ?kK ?hI ?kd ?ku (fun h9 k9 F9 N9 => ?_); (case k1 => k_asm); (case k2 => k_asm); (case k3 => k_asm); (case k4 => k_asm); (case k5 => k_asm); (case kK => first | exact rfl | assumption); (case hI => first | exact isNo_lit (by k_mem) (by k_mem) | exact isNo_dict (by k_mem) (by k_asm)); (case kd => k_room); (case ku => ktr_units)))))
local macro_rules | `(tactic| walk_at "callWith type:zip") => `(tactic| (k_here; (with_reducible show wpAny _ _ (callWith _ (Value.type "zip") [] _ (backToKw _ (keywordEach (_ :: _) _))) _ _ _); refine callWith_type_kw ?_))
local macro_rules | `(tactic| walk_at "call type:zip") => `(tactic| (k_here; k_dflt (refine' zip_K ?F ?N ?m1 ?m2 ?c1 ?d1 ?c2 ?d2 ?kw ?_; (case F => k_asm); (case N => k_asm); (case m1 => k_mem); (case m2 => k_mem); (case c1 => exact rfl); (case d1 => exact rfl); (case c2 => exact rfl); (case d2 => exact rfl); (case kw => exact rfl); k_whole; intro h' z' F' N' Z')))
local macro_rules | `(tactic| walk_at "call type:list") => `(tactic| (k_here; k_dflt (refine' listZip_K ?hh ?F ?N ?Z ?_; (case hh => exact rfl); (case F => k_asm); (case N => k_asm); (case Z => assumption); k_whole; intro h' D' T' c' F' N' l1 l2; (try k_lt l1))))
local macro_rules | `(tactic| walk_at "CompEnd") => `(tactic| (refine LCg.CompEnd.intro (by assumption) (by assumption) _ (fun p hp => hp) (by (first | assumption | (simp only [LCg.Off3, and_true]; assumption))) (by (first | exact Or.inr ⟨_, by k_mem, rfl, _, rfl⟩ | lcg_src)) ?_))
theorem news_pick {h₀ h : Heap} {L : Addr} {l l' : List (Addr × Obj)} (N : News h₀ L h l) (is : List Nat) (e : is.map (l[·]?) = l'.map some) : News h₀ L h l' := fun p hp => by
  have : some p ∈ l'.map some := List.mem_map.mpr ⟨p, hp, rfl⟩
  rw [← e] at this
  obtain ⟨i, _, hi⟩ := List.mem_map.mp this
  exact N p (List.mem_of_getElem? hi)
theorem filters_call {w : World} {p : Program} {loose : List Str} {mean : ExcName → Option Value} {mg mb : Str → Option Value} (dp un : Nat) (gd : Option (List Code)) (cn : Str) (cs : Scope) (a : Addr) (ccd : Value) (cl : List (Str × Addr)) (outer : List Env) (A₀ : Around) (base h₀ : Heap) (L : Addr)
    (m : Str → Option Value) (s : Shared) (x dd lx ld fd c0 ie : Addr) (fo oc io lo : Obj) (raw data : Value) (tk t1 t2 t3 t4 t5 t6 : Tok) (Q E : Value → Shared → Prop)
    (B : Below A₀ base outer h₀) (F : Fr h₀ L s.heap m) (X : (K w.params).In h₀) (N : News h₀ L s.heap [(x, instObj 1646 dd), (dd, fields w fd t1 t2 t3 t4 t5 t6 raw data), (lx, instObj 1388 ld), (ld, lo), (fd, fo), (c0, oc), (ie, io)]) (T : Top p loose mean mg mb h₀) (hk : cs.kind = .function)
    (hfd : fo.IsDictOf (PySem.strKind row.prog w) (strPairs [(Value.str (Str.ofString "Filter") tk, Value.ref lx)])) (lo' : (fd == sysModules) = false)
    (l1 : @LT.lt Nat _ dd x ∧ @LT.lt Nat _ lx dd ∧ @LT.lt Nat _ ld dd ∧ @LT.lt Nat _ fd dd ∧ @LT.lt Nat _ c0 dd) (l2 : @LT.lt Nat _ ld lx ∧ @LT.lt Nat _ fd ld ∧ @LT.lt Nat _ c0 fd) (l4 : @LT.lt Nat _ dd ie)
    (hd : dp + 10 < recursionLimit) (hu : un + 80 < cLine)
    (ret : ∀ (D T pd : Addr) (po : Obj) (c : Nat) (h' : Heap) (tk' : Nat), News h₀ L h' [(D, W.listOf #[.ref T] c), (T, { cls := .type "tuple", data := .seq #[.ref lx, .ref pd] }), (pd, po), (x, instObj 1646 dd), (dd, fields w fd t1 t2 t3 t4 t5 t6 raw data), (lx, instObj 1388 ld), (ld, lo), (fd, fo), (c0, oc), (ie, io)] →
      Fr h₀ L h' m → po.IsDictOf (PySem.strKind row.prog w) [] → (pd == sysModules) = false → (@LT.lt Nat _ x pd ∧ @LT.lt Nat _ pd D ∧ @LT.lt Nat _ D T) → Q (.ref D) { s with heap := h', toks := tk' }) :
    wpAny (model row.prog w) (ktrTop dp un gd cn cs L a ccd cl outer) (call (.ref 1622) [.ref x]) Q E s := by
  revert X; k_fill; intro X
  refine wpAny_call ?_
  k_dflt cell_enter
  k_steps
  refine ret _ _ _ _ _ _ _ (news_pick (by assumption) [0, 1, 7, 12, 13, 14, 15, 16, 17, 18] rfl) ?_ ?_ ?_ ?_
  · assumption
  · assumption
  · assumption
  · exact ⟨by omega, by omega, by omega⟩
end
section
open PySem.Calls PySem.Spec


theorem contains_two {prog : Program} {w : World} {A : Around} {E : Value → Shared → Prop} {s : Shared} {t : Addr} {x y z : Value} {Q : Bool → Shared → Prop} (ht : IsTup s.heap t #[x, y])
    (h : wpAny (model prog w) A.in1 (eqBool x z) (fun r s' => if r = true then Q true s' else wpAny (model prog w) A.in1 (eqBool y z) Q E s') E s) : wpAny (model prog w) A (contains (.ref t) z) Q E s := by
  unfold contains
  refine wpAny_holding ?_
  refine wpAny_bind (wpAny_specialOf ht.typeIs slot_tuple_contains.lookup ?_)
  rw [if_neg (by decide)]
  refine wpAny_bind (wpAny_callSpecialUnlessNone?_slot (name := Str.ofString "__contains__") ht.typeIs slot_tuple_contains
    (wpAny_call_entry slot_tuple_contains ht.typeIs entry_tuple_contains ?_ (args_tuple_contains _ _)))
  show wpAny _ _ (Builtin.Tuple.tupleItemsOf (.ref t) >>= _) _ _ s
  refine wpAny_bind (tupleItemsOf_ ht ?_)
  refine wpAny_bind ?_
  rw [← Array.forIn_toList]
  show wpAny _ _ (forIn [x, y] _ _) _ _ _
  rw [List.forIn_cons]
  refine wpAny_bind (wpAny_bind (wpAny_mono h (fun r s' hr => ?_) fun _ _ e => e))
  cases r with
  | true => exact wpAny_bind (wpAny_pure (wpAny_pure (wpAny_pure (wpAny_pure ⟨_, rfl, wpAny_truthy_bool hr⟩))))
  | false =>
    refine wpAny_pure ?_
    dsimp only
    rw [List.forIn_cons]
    refine wpAny_bind (wpAny_bind (wpAny_mono hr (fun r s' hr => ?_) fun _ _ e => e))
    cases r with
    | true => exact wpAny_bind (wpAny_pure (wpAny_pure (wpAny_pure (wpAny_pure ⟨_, rfl, wpAny_truthy_bool hr⟩))))
    | false =>
      refine wpAny_pure ?_
      dsimp only
      rw [List.forIn_nil]
      exact wpAny_pure (wpAny_pure ⟨_, rfl, wpAny_truthy_bool hr⟩)
noncomputable abbrev litObj (w : World) (nm : Str) (t1 t2 : Tok) : Obj := dictOf [⟨PyData.keyHash w.params (Str.ofString "name"), .str (Str.ofString "name") t1, .str nm t2⟩] 1
@[irreducible] noncomputable def EqTo (w : World) (A : Around) (h₀ : Heap) (L : Addr) (m : Str → Option Value) (news : List (Addr × Obj)) (a lx : Addr) (v : Bool) : Prop :=
  ∀ {Q E : Value → Shared → Prop} {s : Shared}, Fr h₀ L s.heap m → News h₀ L s.heap news → (∀ h' tk', Fr h₀ L h' m → News h₀ L h' news → Q (.bool v) { s with heap := h', toks := tk' }) → wpAny (model row.prog w) A (call (.ref 1378) [.ref a, .ref lx]) Q E s
theorem eqBool_lit {w : World} {A : Around} {E : Value → Shared → Prop} {s : Shared} {h₀ : Heap} {L a da lx ld : Addr} {m : Str → Option Value} {news : List (Addr × Obj)} {v : Bool} {Q : Bool → Shared → Prop} {od : Obj}
    (hu : A.units < cLine) (F : Fr h₀ L s.heap m) (X : (K w.params).In h₀) (N : News h₀ L s.heap news) (hm : (lx, instObj 1388 ld) ∈ news)
    (la : (K w.params).lookup a = some ⟨.ref 1388, some da, .plain, #[]⟩) (lda : (K w.params).lookup da = some od) (e : EqTo w A h₀ L m news a lx v)
    (h : ∀ h' tk', Fr h₀ L h' m → News h₀ L h' news → Q v { s with heap := h', toks := tk' }) : wpAny (model row.prog w) A (eqBool (.ref a) (.ref lx)) Q E s := by
  unfold EqTo at e
  have ne : a ≠ lx := fun q => by
    have := X _ _ la
    rw [q, (N _ hm).2.2] at this
    cases this
  unfold eqBool
  refine wpAny_holding ?_
  refine wpAny_ite ?_
  rw [if_neg (by simpa using ne)]
  refine wpAny_bind ?_
  refine cmp_K (op := .Eq) (C := 1388) (tb := .ref 1388) (f := 1378) hu F X (InstAt.of_K (X.keeps F.keep) la lda) ((Looks.ld (N _ hm).1).andThen .now) (by kernel_rfl) (by kernel_rfl) (by kernel_rfl) (e F N fun h' tk' F' N' => ?_)
  exact wpAny_truthy_bool (h _ _ F' N')
theorem in_lits {w : World} {A : Around} {E : Value → Shared → Prop} {s : Shared} {h₀ : Heap} {L t a b da db lx ld : Addr} {m : Str → Option Value} {news : List (Addr × Obj)} {va vb : Bool} {Q : Value → Shared → Prop} {oa ob : Obj}
    (hu : A.units + 1 < cLine) (F : Fr h₀ L s.heap m) (X : (K w.params).In h₀) (N : News h₀ L s.heap news) (hm : (lx, instObj 1388 ld) ∈ news)
    (lt : (K w.params).lookup t = some ⟨.type "tuple", none, .seq #[.ref a, .ref b] 0, #[]⟩)
    (la : (K w.params).lookup a = some ⟨.ref 1388, some da, .plain, #[]⟩) (lda : (K w.params).lookup da = some oa) (lb : (K w.params).lookup b = some ⟨.ref 1388, some db, .plain, #[]⟩) (ldb : (K w.params).lookup db = some ob)
    (ea : EqTo w A.in1 h₀ L m news a lx va) (eb : EqTo w A.in1 h₀ L m news b lx vb)
    (h : ∀ h' tk', Fr h₀ L h' m → News h₀ L h' news → Q (.bool (va || vb)) { s with heap := h', toks := tk' }) : wpAny (model row.prog w) A (compareOp .In (.ref lx) (.ref t)) Q E s := by
  have ht : IsTup s.heap t #[.ref a, .ref b] := ⟨_, X.keeps F.keep _ _ lt, rfl, _, rfl⟩
  show wpAny _ _ (do return .bool (← contains (.ref t) (.ref lx))) Q E s
  refine wpAny_bind (contains_two ht ?_)
  refine eqBool_lit hu F X N hm la lda ea fun h' tk' F' N' => ?_
  cases va with
  | true => exact wpAny_pure (h _ _ F' N')
  | false => exact eqBool_lit (s := { s with heap := h', toks := tk' }) hu F' X N' hm lb ldb eb fun h' tk' F' N' => wpAny_pure (h _ _ F' N')

theorem eq_1456 {w : World} {p : Program} {loose : List Str} {mean : ExcName → Option Value} {mg mb : Str → Option Value} (dp un : Nat) (gd : Option (List Code)) (cn : Str) (cs : Scope) (a : Addr) (ccd : Value) (cl : List (Str × Addr)) (outer : List Env) (A₀ : Around) (base h₀ : Heap) (L : Addr)
    (m : Str → Option Value) (news : List (Addr × Obj)) (lx ld : Addr) (nm : Str) (tn1 tn2 : Tok) (v : Bool)
    (B : Below A₀ base outer h₀) (X : (K w.params).In h₀) (T : Top p loose mean mg mb h₀) (hk : cs.kind = .function) (hm : (lx, instObj 1388 ld) ∈ news) (hm2 : (ld, litObj w nm tn1 tn2) ∈ news)
    (hv : (zs "LZWDecode" == nm) = v) (hd : dp + 5 < recursionLimit) (hu : un + 40 < cLine) : EqTo w (ktrTop dp un gd cn cs L a ccd cl outer) h₀ L m news 1456 lx v := by
  unfold EqTo
  intro Q E s F N ret
  revert X; k_fill; intro X
  refine wpAny_call ?_
  k_dflt cell_enter
  k_steps
  rw [hv]
  exact ret _ _ (by assumption) (by assumption)

theorem eq_1459 {w : World} {p : Program} {loose : List Str} {mean : ExcName → Option Value} {mg mb : Str → Option Value} (dp un : Nat) (gd : Option (List Code)) (cn : Str) (cs : Scope) (a : Addr) (ccd : Value) (cl : List (Str × Addr)) (outer : List Env) (A₀ : Around) (base h₀ : Heap) (L : Addr)
    (m : Str → Option Value) (news : List (Addr × Obj)) (lx ld : Addr) (nm : Str) (tn1 tn2 : Tok) (v : Bool)
    (B : Below A₀ base outer h₀) (X : (K w.params).In h₀) (T : Top p loose mean mg mb h₀) (hk : cs.kind = .function) (hm : (lx, instObj 1388 ld) ∈ news) (hm2 : (ld, litObj w nm tn1 tn2) ∈ news)
    (hv : (zs "LZW" == nm) = v) (hd : dp + 5 < recursionLimit) (hu : un + 40 < cLine) : EqTo w (ktrTop dp un gd cn cs L a ccd cl outer) h₀ L m news 1459 lx v := by
  unfold EqTo
  intro Q E s F N ret
  revert X; k_fill; intro X
  refine wpAny_call ?_
  k_dflt cell_enter
  k_steps
  rw [hv]
  exact ret _ _ (by assumption) (by assumption)

theorem eq_1463 {w : World} {p : Program} {loose : List Str} {mean : ExcName → Option Value} {mg mb : Str → Option Value} (dp un : Nat) (gd : Option (List Code)) (cn : Str) (cs : Scope) (a : Addr) (ccd : Value) (cl : List (Str × Addr)) (outer : List Env) (A₀ : Around) (base h₀ : Heap) (L : Addr)
    (m : Str → Option Value) (news : List (Addr × Obj)) (lx ld : Addr) (nm : Str) (tn1 tn2 : Tok) (v : Bool)
    (B : Below A₀ base outer h₀) (X : (K w.params).In h₀) (T : Top p loose mean mg mb h₀) (hk : cs.kind = .function) (hm : (lx, instObj 1388 ld) ∈ news) (hm2 : (ld, litObj w nm tn1 tn2) ∈ news)
    (hv : (zs "ASCIIHexDecode" == nm) = v) (hd : dp + 5 < recursionLimit) (hu : un + 40 < cLine) : EqTo w (ktrTop dp un gd cn cs L a ccd cl outer) h₀ L m news 1463 lx v := by
  unfold EqTo
  intro Q E s F N ret
  revert X; k_fill; intro X
  refine wpAny_call ?_
  k_dflt cell_enter
  k_steps
  rw [hv]
  exact ret _ _ (by assumption) (by assumption)

theorem eq_1466 {w : World} {p : Program} {loose : List Str} {mean : ExcName → Option Value} {mg mb : Str → Option Value} (dp un : Nat) (gd : Option (List Code)) (cn : Str) (cs : Scope) (a : Addr) (ccd : Value) (cl : List (Str × Addr)) (outer : List Env) (A₀ : Around) (base h₀ : Heap) (L : Addr)
    (m : Str → Option Value) (news : List (Addr × Obj)) (lx ld : Addr) (nm : Str) (tn1 tn2 : Tok) (v : Bool)
    (B : Below A₀ base outer h₀) (X : (K w.params).In h₀) (T : Top p loose mean mg mb h₀) (hk : cs.kind = .function) (hm : (lx, instObj 1388 ld) ∈ news) (hm2 : (ld, litObj w nm tn1 tn2) ∈ news)
    (hv : (zs "AHx" == nm) = v) (hd : dp + 5 < recursionLimit) (hu : un + 40 < cLine) : EqTo w (ktrTop dp un gd cn cs L a ccd cl outer) h₀ L m news 1466 lx v := by
  unfold EqTo
  intro Q E s F N ret
  revert X; k_fill; intro X
  refine wpAny_call ?_
  k_dflt cell_enter
  k_steps
  rw [hv]
  exact ret _ _ (by assumption) (by assumption)

theorem in_lzw {w : World} {p : Program} {loose : List Str} {mean : ExcName → Option Value} {mg mb : Str → Option Value} (dp un : Nat) (gd : Option (List Code)) (cn : Str) (cs : Scope) (a : Addr) (ccd : Value) (cl : List (Str × Addr)) (outer : List Env) (A₀ : Around) (base h₀ : Heap) (L : Addr)
    (m : Str → Option Value) (s : Shared) (news : List (Addr × Obj)) (lx ld : Addr) (nm : Str) (tn1 tn2 : Tok) (Q E : Value → Shared → Prop)
    (B : Below A₀ base outer h₀) (F : Fr h₀ L s.heap m) (X : (K w.params).In h₀) (N : News h₀ L s.heap news) (T : Top p loose mean mg mb h₀) (hk : cs.kind = .function) (hm : (lx, instObj 1388 ld) ∈ news) (hm2 : (ld, litObj w nm tn1 tn2) ∈ news)
    (hn : nm = zs "AHx" ∨ nm = zs "ASCIIHexDecode") (hd : dp + 5 < recursionLimit) (hu : un + 80 < cLine)
    (ret : ∀ h' tk', Fr h₀ L h' m → News h₀ L h' news → Q (.bool false) { s with heap := h', toks := tk' }) : wpAny (model row.prog w) (ktrTop dp un gd cn cs L a ccd cl outer) (compareOp .In (.ref lx) (.ref 1461)) Q E s :=
  in_lits (da := 1455) (db := 1458) (oa := litObj w (zs "LZWDecode") 2026 2022) (ob := litObj w (zs "LZW") 2031 2027) (va := zs "LZWDecode" == nm) (vb := zs "LZW" == nm) (show un + 1 < cLine by omega) F X N hm (by kernel_rfl) (by kernel_rfl) (by kernel_rfl) (by kernel_rfl) (by kernel_rfl)
    (eq_1456 dp (un + 1) gd cn cs a ccd cl outer A₀ base h₀ L m news lx ld nm tn1 tn2 _ B X T hk hm hm2 rfl hd (by omega))
    (eq_1459 dp (un + 1) gd cn cs a ccd cl outer A₀ base h₀ L m news lx ld nm tn1 tn2 _ B X T hk hm hm2 rfl hd (by omega)) fun h' tk' F' N' => by
      have e : ((zs "LZWDecode" == nm) || (zs "LZW" == nm)) = false := by rcases hn with rfl | rfl <;> decide
      rw [e]
      exact ret h' tk' F' N'

theorem in_ahx {w : World} {p : Program} {loose : List Str} {mean : ExcName → Option Value} {mg mb : Str → Option Value} (dp un : Nat) (gd : Option (List Code)) (cn : Str) (cs : Scope) (a : Addr) (ccd : Value) (cl : List (Str × Addr)) (outer : List Env) (A₀ : Around) (base h₀ : Heap) (L : Addr)
    (m : Str → Option Value) (s : Shared) (news : List (Addr × Obj)) (lx ld : Addr) (nm : Str) (tn1 tn2 : Tok) (Q E : Value → Shared → Prop)
    (B : Below A₀ base outer h₀) (F : Fr h₀ L s.heap m) (X : (K w.params).In h₀) (N : News h₀ L s.heap news) (T : Top p loose mean mg mb h₀) (hk : cs.kind = .function) (hm : (lx, instObj 1388 ld) ∈ news) (hm2 : (ld, litObj w nm tn1 tn2) ∈ news)
    (hn : nm = zs "AHx" ∨ nm = zs "ASCIIHexDecode") (hd : dp + 5 < recursionLimit) (hu : un + 80 < cLine)
    (ret : ∀ h' tk', Fr h₀ L h' m → News h₀ L h' news → Q (.bool true) { s with heap := h', toks := tk' }) : wpAny (model row.prog w) (ktrTop dp un gd cn cs L a ccd cl outer) (compareOp .In (.ref lx) (.ref 1468)) Q E s :=
  in_lits (da := 1462) (db := 1465) (oa := litObj w (zs "ASCIIHexDecode") 2037 2033) (ob := litObj w (zs "AHx") 2042 2038) (va := zs "ASCIIHexDecode" == nm) (vb := zs "AHx" == nm) (show un + 1 < cLine by omega) F X N hm (by kernel_rfl) (by kernel_rfl) (by kernel_rfl) (by kernel_rfl) (by kernel_rfl)
    (eq_1463 dp (un + 1) gd cn cs a ccd cl outer A₀ base h₀ L m news lx ld nm tn1 tn2 _ B X T hk hm hm2 rfl hd (by omega))
    (eq_1466 dp (un + 1) gd cn cs a ccd cl outer A₀ base h₀ L m news lx ld nm tn1 tn2 _ B X T hk hm hm2 rfl hd (by omega)) fun h' tk' F' N' => by
      have e : ((zs "ASCIIHexDecode" == nm) || (zs "AHx" == nm)) = true := by rcases hn with rfl | rfl <;> decide
      rw [e]
      exact ret h' tk' F' N'
end
section
open PySem.Calls PySem.Spec


local macro_rules | `(tactic| walk_at "call ref") => `(tactic| (k_here; (with_reducible show wpAny _ _ (call (Value.ref 1622) _) _ _ _); k_dflt (
  (refine' filters_call _ _ _ _ _ _ _ _ _ _ _ _ _ _ _ _ _ _ _ _ _ _ _ _ _ _ _ _ _ _ _ _ _ _ _ _ _ ?k1 ?k2 ?k3 ?k4 ?k5 ?kK ?hfd ?hlo ?l1 ?l2 ?l4 ?kd ?ku (fun D9 T9 p9 po9 c9 h9 k9 N9 F9 hp9 lo9 l9 => ?_); (case k1 => k_asm); (case k2 => k_asm); (case k3 => k_asm); (case k4 => k_asm); (case k5 => k_asm); (case kK => first | exact rfl | assumption); (case hfd => assumption); (case hlo => assumption); (case l1 => assumption); (case l2 => assumption); (case l4 => assumption); (case kd => k_room); (case ku => ktr_units)))))
local macro_rules | `(tactic| walk_at "call ref") => `(tactic| (k_here; (with_reducible show wpAny _ _ (call (Value.ref 117) _) _ _ _); k_dflt (
  (refine' hex_call _ _ _ _ _ _ _ _ _ _ _ _ _ _ _ _ _ _ _ _ ?k1 ?k2 ?k3 ?k4 ?k5 ?kK _ ?hb ?hz ?kd ?ku (fun o9 t9 h9 k9 e9 r9 F9 N9 => ?_) (fun e9 t9 v9 g9 h9 k9 n9 F9 U9 R9 => ?_); (case k1 => k_asm); (case k2 => k_asm); (case k3 => k_asm); (case k4 => k_asm); (case k5 => k_asm); (case kK => first | exact rfl | assumption); (case hb => assumption); (case hz => assumption); (case kd => k_room); (case ku => ktr_units)))))
local macro_rules | `(tactic| walk_at "compareOp In ref ref") => `(tactic| (k_here; (with_reducible show wpAny _ _ (compareOp CmpOp.In (Value.ref _) (Value.ref 1461)) _ _ _); k_dflt (
  (refine' in_lzw _ _ _ _ _ _ _ _ _ _ _ _ _ _ _ _ _ _ _ _ _ _ _ ?k1 ?k2 ?k3 ?k4 ?k5 ?kK ?m1 ?m2 ?hn ?kd ?ku (fun h9 k9 F9 N9 => ?_); (case k1 => k_asm); (case k2 => k_asm); (case k3 => k_asm); (case k4 => k_asm); (case k5 => k_asm); (case kK => first | exact rfl | assumption); (case m1 => k_mem); (case m2 => k_mem); (case hn => assumption); (case kd => k_room); (case ku => ktr_units)))))
local macro_rules | `(tactic| walk_at "compareOp In ref ref") => `(tactic| (k_here; (with_reducible show wpAny _ _ (compareOp CmpOp.In (Value.ref _) (Value.ref 1468)) _ _ _); k_dflt (
  (refine' in_ahx _ _ _ _ _ _ _ _ _ _ _ _ _ _ _ _ _ _ _ _ _ _ _ ?k1 ?k2 ?k3 ?k4 ?k5 ?kK ?m1 ?m2 ?hn ?kd ?ku (fun h9 k9 F9 N9 => ?_); (case k1 => k_asm); (case k2 => k_asm); (case k3 => k_asm); (case k4 => k_asm); (case k5 => k_asm); (case kK => first | exact rfl | assumption); (case m1 => k_mem); (case m2 => k_mem); (case hn => assumption); (case kd => k_room); (case ku => ktr_units)))))
theorem truthy_empty {prog : Program} {w : World} {A : Around} {E : Value → Shared → Prop} {s : Shared} {h₀ : Heap} {L p : Addr} {po : Obj} {news : List (Addr × Obj)} {Q : Bool → Shared → Prop}
    (N : News h₀ L s.heap news) (hm : (p, po) ∈ news) (hd : po.IsDictOf (PySem.strKind prog w) []) (lo : (p == sysModules) = false) (h : Q false { s with toks := s.toks + 1 + 1 }) : wpAny (model prog w) A (truthy (.ref p)) Q E s :=
  truthy_tab (knd := PySem.strKind prog w) (enc := PyData.str) (D := []) ⟨lo, [], kda_dict N hm hd, .nil⟩ (by decide) h
theorem raised_pick {base : Heap} {l : List Env} {e : Addr} {cls : Value} {t : Addr} {vs : List Value} {news news' : List (Addr × Obj)} {h : Heap} (R : RaisedK base l e cls t vs news h) (is : List Nat) (he : is.map (news[·]?) = news'.map some) : RaisedK base l e cls t vs news' h := by
  obtain ⟨⟨B, h1, h2, h3⟩, h4⟩ := R
  refine ⟨⟨B, h1, fun p hp => ?_, h3⟩, h4⟩
  have : some p ∈ news'.map some := List.mem_map.mpr ⟨p, hp, rfl⟩
  rw [← he] at this
  obtain ⟨i, _, hi⟩ := List.mem_map.mp this
  exact h2 p (List.mem_of_getElem? hi)
local macro_rules | `(tactic| walk_at "truthy ref") => `(tactic| (k_here; (with_reducible show wpAny _ _ (truthy (Value.ref _)) _ _ _); refine' truthy_empty ?N ?m ?d ?lo ?_; (case d => assumption); (case N => k_asm); (case m => k_mem); (case lo => assumption)))
theorem decode_call {w : World} {p : Program} {loose : List Str} {mean : ExcName → Option Value} {mg mb : Str → Option Value} (dp un : Nat) (gd : Option (List Code)) (cn : Str) (cs : Scope) (a : Addr) (ccd : Value) (cl : List (Str × Addr)) (outer : List Env) (A₀ : Around) (base h₀ : Heap) (L : Addr)
    (m : Str → Option Value) (s : Shared) (x dd lx ld fd c0 ie : Addr) (fo oc io : Obj) (b : Array UInt8) (nm : Str) (tb tk tn1 tn2 t1 t2 t3 t4 t5 t6 : Tok) (Q E : Value → Shared → Prop)
    (B : Below A₀ base outer h₀) (F : Fr h₀ L s.heap m) (X : (K w.params).In h₀) (N : News h₀ L s.heap [(x, instObj 1646 dd), (dd, fields w fd t1 t2 t3 t4 t5 t6 (.bytes b tb) .none), (lx, instObj 1388 ld), (ld, litObj w nm tn1 tn2), (fd, fo), (c0, oc), (ie, io)]) (T : Top p loose mean mg mb h₀) (hk : cs.kind = .function)
    (hfd : fo.IsDictOf (PySem.strKind row.prog w) (strPairs [(Value.str (Str.ofString "Filter") tk, Value.ref lx)])) (lo' : (fd == sysModules) = false)
    (l1 : @LT.lt Nat _ dd x ∧ @LT.lt Nat _ lx dd ∧ @LT.lt Nat _ ld dd ∧ @LT.lt Nat _ fd dd ∧ @LT.lt Nat _ c0 dd) (l2 : @LT.lt Nat _ ld lx ∧ @LT.lt Nat _ fd ld ∧ @LT.lt Nat _ c0 fd) (l4 : @LT.lt Nat _ dd ie)
    (ks : List Int) (hb : KBw.bInts b = ks) (hz : ks.length ≤ 39) (hn : nm = zs "AHx" ∨ nm = zs "ASCIIHexDecode")
    (hd : dp + 30 < recursionLimit) (hu : un + 200 < cLine)
    (ret : ∀ (out : List Int) (t' : Tok) (h' : Heap) (tk' : Nat), hexL ks = some out → (∀ x ∈ out, 0 ≤ x ∧ x < 256) → Fr h₀ L h' m →
      News h₀ L h' [(x, instObj 1646 dd), (dd, fields w fd t1 t2 t3 t4 t5 t6 .none (.bytes (byteArr out) t')), (lx, instObj 1388 ld), (ld, litObj w nm tn1 tn2), (fd, fo), (c0, oc), (ie, io)] → Q .none { s with heap := h', toks := tk' })
    (bad : ∀ (e t' : Addr) (vs : List Value) (g' h' : Heap) (tk' : Nat), hexL ks = none → Fr h₀ L g' m → g'.UpToSlots h' →
      RaisedK base (envX cn cs L a ccd cl :: outer) e (.ref 86) t' vs [(x, instObj 1646 dd), (dd, fields w fd t1 t2 t3 t4 t5 t6 (.bytes b tb) .none), (lx, instObj 1388 ld), (ld, litObj w nm tn1 tn2), (fd, fo), (c0, oc), (ie, io)] h' → E (.ref e) { s with heap := h', toks := tk' }) :
    wpAny (model row.prog w) (ktrTop dp un gd cn cs L a ccd cl outer) (call (.ref 1629) [.ref x]) Q E s := by
  revert X; k_fill; intro X
  refine wpAny_call ?_
  k_dflt cell_enter
  k_steps
  all_goals first
    | exact ret _ _ _ _ (by assumption) (by assumption) (by assumption) (news_pick (by assumption) [3, 4, 5, 6, 7, 8, 9] rfl)
    | exact bad _ _ _ _ _ _ (by assumption) (by assumption) (by assumption) (raised_pick (by assumption) [4, 5, 6, 7, 8, 9, 10] rfl)
end
section
open PySem.Calls PySem.Spec


local macro_rules | `(tactic| walk_at "call ref") => `(tactic| (k_here; (with_reducible show wpAny _ _ (call (Value.ref 1629) _) _ _ _); k_dflt (
  (refine' decode_call _ _ _ _ _ _ _ _ _ _ _ _ _ _ _ _ _ _ _ _ _ _ _ _ _ _ _ _ _ _ _ _ _ _ _ _ _ _ _ ?k1 ?k2 ?k3 ?k4 ?k5 ?kK ?hfd ?hlo ?l1 ?l2 ?l4 _ ?hb ?hz ?hn ?kd ?ku (fun o9 t9 h9 k9 e9 r9 F9 N9 => ?_) (fun e9 t9 v9 g9 h9 k9 n9 F9 U9 R9 => ?_); (case k1 => k_asm); (case k2 => k_asm); (case k3 => k_asm); (case k4 => k_asm); (case k5 => k_asm); (case kK => first | exact rfl | assumption); (case hfd => assumption); (case hlo => assumption); (case l1 => assumption); (case l2 => assumption); (case l4 => assumption); (case hb => assumption); (case hz => assumption); (case hn => assumption); (case kd => k_room); (case ku => ktr_units)))))
theorem get_call {w : World} {p : Program} {loose : List Str} {mean : ExcName → Option Value} {mg mb : Str → Option Value} (dp un : Nat) (gd : Option (List Code)) (cn : Str) (cs : Scope) (a : Addr) (ccd : Value) (cl : List (Str × Addr)) (outer : List Env) (A₀ : Around) (base h₀ : Heap) (L : Addr)
    (m : Str → Option Value) (s : Shared) (x dd lx ld fd c0 ie : Addr) (fo oc io : Obj) (b : Array UInt8) (nm : Str) (tb tk tn1 tn2 t1 t2 t3 t4 t5 t6 : Tok) (Q E : Value → Shared → Prop)
    (B : Below A₀ base outer h₀) (F : Fr h₀ L s.heap m) (X : (K w.params).In h₀) (N : News h₀ L s.heap [(x, instObj 1646 dd), (dd, fields w fd t1 t2 t3 t4 t5 t6 (.bytes b tb) .none), (lx, instObj 1388 ld), (ld, litObj w nm tn1 tn2), (fd, fo), (c0, oc), (ie, io)]) (T : Top p loose mean mg mb h₀) (hk : cs.kind = .function)
    (hfd : fo.IsDictOf (PySem.strKind row.prog w) (strPairs [(Value.str (Str.ofString "Filter") tk, Value.ref lx)])) (lo' : (fd == sysModules) = false)
    (l1 : @LT.lt Nat _ dd x ∧ @LT.lt Nat _ lx dd ∧ @LT.lt Nat _ ld dd ∧ @LT.lt Nat _ fd dd ∧ @LT.lt Nat _ c0 dd) (l2 : @LT.lt Nat _ ld lx ∧ @LT.lt Nat _ fd ld ∧ @LT.lt Nat _ c0 fd) (l4 : @LT.lt Nat _ dd ie)
    (ks : List Int) (hb : KBw.bInts b = ks) (hz : ks.length ≤ 39) (hn : nm = zs "AHx" ∨ nm = zs "ASCIIHexDecode")
    (hd : dp + 40 < recursionLimit) (hu : un + 300 < cLine)
    (ret : ∀ (out : List Int) (t' : Tok) (h' : Heap) (tk' : Nat), hexL ks = some out → (∀ x ∈ out, 0 ≤ x ∧ x < 256) → Fr h₀ L h' m →
      News h₀ L h' [(x, instObj 1646 dd), (dd, fields w fd t1 t2 t3 t4 t5 t6 .none (.bytes (byteArr out) t')), (lx, instObj 1388 ld), (ld, litObj w nm tn1 tn2), (fd, fo), (c0, oc), (ie, io)] → Q (.bytes (byteArr out) t') { s with heap := h', toks := tk' })
    (bad : ∀ (e t' : Addr) (vs : List Value) (g' h' : Heap) (tk' : Nat), hexL ks = none → Fr h₀ L g' m → g'.UpToSlots h' →
      RaisedK base (envX cn cs L a ccd cl :: outer) e (.ref 86) t' vs [(x, instObj 1646 dd), (dd, fields w fd t1 t2 t3 t4 t5 t6 (.bytes b tb) .none), (lx, instObj 1388 ld), (ld, litObj w nm tn1 tn2), (fd, fo), (c0, oc), (ie, io)] h' → E (.ref e) { s with heap := h', toks := tk' }) :
    wpAny (model row.prog w) (ktrTop dp un gd cn cs L a ccd cl outer) (call (.ref 1636) [.ref x]) Q E s := by
  revert X; k_fill; intro X
  refine wpAny_call ?_
  k_dflt cell_enter
  k_steps
  all_goals first
    | exact ret _ _ _ _ (by assumption) (by assumption) (by assumption) (by assumption)
    | exact bad _ _ _ _ _ _ (by assumption) (by assumption) (by assumption) (by assumption)
end
section
open PySem.Calls PySem.Spec

theorem get2_call {w : World} {p : Program} {loose : List Str} {mean : ExcName → Option Value} {mg mb : Str → Option Value} (dp un : Nat) (gd : Option (List Code)) (cn : Str) (cs : Scope) (a : Addr) (ccd : Value) (cl : List (Str × Addr)) (outer : List Env) (A₀ : Around) (base h₀ : Heap) (L : Addr)
    (m : Str → Option Value) (s : Shared) (news : List (Addr × Obj)) (x dd fd : Addr) (t1 t2 t3 t4 t5 t6 : Tok) (Q E : Value → Shared → Prop) (d : Array UInt8) (td : Tok)
    (B : Below A₀ base outer h₀) (F : Fr h₀ L s.heap m) (X : (K w.params).In h₀) (N : News h₀ L s.heap news) (T : Top p loose mean mg mb h₀) (hk : cs.kind = .function) (hm : (x, instObj 1646 dd) ∈ news) (hm2 : (dd, fields w fd t1 t2 t3 t4 t5 t6 .none (.bytes d td)) ∈ news) (hd : dp + 5 < recursionLimit) (hu : un + 40 < cLine)
    (ret : ∀ (h' : Heap) (tk' : Nat), Fr h₀ L h' m → News h₀ L h' news → Q (.bytes d td) { s with heap := h', toks := tk' }) :
    wpAny (model row.prog w) (ktrTop dp un gd cn cs L a ccd cl outer) (call (.ref 1636) [.ref x]) Q E s := by
  revert X; k_fill; intro X
  refine wpAny_call ?_
  k_dflt cell_enter
  k_steps
  all_goals exact ret _ _ (by assumption) (by assumption)
theorem raw1_call {w : World} {p : Program} {loose : List Str} {mean : ExcName → Option Value} {mg mb : Str → Option Value} (dp un : Nat) (gd : Option (List Code)) (cn : Str) (cs : Scope) (a : Addr) (ccd : Value) (cl : List (Str × Addr)) (outer : List Env) (A₀ : Around) (base h₀ : Heap) (L : Addr)
    (m : Str → Option Value) (s : Shared) (news : List (Addr × Obj)) (x dd fd : Addr) (t1 t2 t3 t4 t5 t6 : Tok) (Q E : Value → Shared → Prop) (d : Array UInt8) (td : Tok) (dat : Value)
    (B : Below A₀ base outer h₀) (F : Fr h₀ L s.heap m) (X : (K w.params).In h₀) (N : News h₀ L s.heap news) (T : Top p loose mean mg mb h₀) (hk : cs.kind = .function) (hm : (x, instObj 1646 dd) ∈ news) (hm2 : (dd, fields w fd t1 t2 t3 t4 t5 t6 (.bytes d td) dat) ∈ news) (hd : dp + 5 < recursionLimit) (hu : un + 40 < cLine)
    (ret : ∀ (h' : Heap) (tk' : Nat), Fr h₀ L h' m → News h₀ L h' news → Q (.bytes d td) { s with heap := h', toks := tk' }) :
    wpAny (model row.prog w) (ktrTop dp un gd cn cs L a ccd cl outer) (call (.ref 1643) [.ref x]) Q E s := by
  revert X; k_fill; intro X
  refine wpAny_call ?_
  k_dflt cell_enter
  k_steps
  all_goals exact ret _ _ (by assumption) (by assumption)
theorem raw2_call {w : World} {p : Program} {loose : List Str} {mean : ExcName → Option Value} {mg mb : Str → Option Value} (dp un : Nat) (gd : Option (List Code)) (cn : Str) (cs : Scope) (a : Addr) (ccd : Value) (cl : List (Str × Addr)) (outer : List Env) (A₀ : Around) (base h₀ : Heap) (L : Addr)
    (m : Str → Option Value) (s : Shared) (news : List (Addr × Obj)) (x dd fd : Addr) (t1 t2 t3 t4 t5 t6 : Tok) (Q E : Value → Shared → Prop) (dat : Value)
    (B : Below A₀ base outer h₀) (F : Fr h₀ L s.heap m) (X : (K w.params).In h₀) (N : News h₀ L s.heap news) (T : Top p loose mean mg mb h₀) (hk : cs.kind = .function) (hm : (x, instObj 1646 dd) ∈ news) (hm2 : (dd, fields w fd t1 t2 t3 t4 t5 t6 .none dat) ∈ news) (hd : dp + 5 < recursionLimit) (hu : un + 40 < cLine)
    (ret : ∀ (h' : Heap) (tk' : Nat), Fr h₀ L h' m → News h₀ L h' news → Q .none { s with heap := h', toks := tk' }) :
    wpAny (model row.prog w) (ktrTop dp un gd cn cs L a ccd cl outer) (call (.ref 1643) [.ref x]) Q E s := by
  revert X; k_fill; intro X
  refine wpAny_call ?_
  k_dflt cell_enter
  k_steps
  all_goals exact ret _ _ (by assumption) (by assumption)
end
section
open PySem.Calls PySem.Spec


theorem ne_self {prog : Program} {w : World} {A : Around} {E : Value → Shared → Prop} {s : Shared} {b : Array UInt8} {t u : Tok} {Q : Value → Shared → Prop} (h : Q (.bool false) s) : wpAny (model prog w) A (compareOp .NotEq (.bytes b t) (.bytes b u)) Q E s :=
  ne_bytes (by rw [bne_self_eq_false]; exact h)
theorem byteArr_ints (d : Array UInt8) : byteArr (KBw.bInts d) = d := by
  unfold byteArr KBw.bInts
  rw [List.map_map]
  have : ((fun n : Int => n.toNat.toUInt8) ∘ fun c : UInt8 => (c.toNat : Int)) = id := by
    funext c
    simp
  rw [this, List.map_id]
theorem hex_some {w : World} {p : Program} {loose : List Str} {mean : ExcName → Option Value} {mg mb : Str → Option Value} (dp un : Nat) (gd : Option (List Code)) (cn : Str) (cs : Scope) (a : Addr) (ccd : Value) (cl : List (Str × Addr)) (outer : List Env) (A₀ : Around) (base h₀ : Heap) (L : Addr)
    (m : Str → Option Value) (s : Shared) (news : List (Addr × Obj)) (b : Array UInt8) (t : Tok) (Q E : Value → Shared → Prop) (d : Array UInt8)
    (B : Below A₀ base outer h₀) (F : Fr h₀ L s.heap m) (X : (K w.params).In h₀) (N : News h₀ L s.heap news) (T : Top p loose mean mg mb h₀) (hk : cs.kind = .function) (ks : List Int) (hb : KBw.bInts b = ks) (hz : ks.length ≤ 39)
    (hd : dp + 10 < recursionLimit) (hu : un + 80 < cLine)
    (hks : hexL ks = some (KBw.bInts d))
    (ret : ∀ (t' : Tok) (h' : Heap) (tk' : Nat), Fr h₀ L h' m → News h₀ L h' news → Q (.bytes (d) t') { s with heap := h', toks := tk' }) :
    wpAny (model row.prog w) (ktrTop dp un gd cn cs L a ccd cl outer) (call (.ref 117) [.bytes b t]) Q E s :=
  hex_call dp un gd cn cs a ccd cl outer A₀ base h₀ L m s news b t Q E B F X N T hk ks hb hz hd hu (fun out t' h' tk' e _ F' N' => by
    have e2 : out = KBw.bInts d := Option.some.inj (e.symm.trans hks)
    subst e2
    have z := ret t' h' tk'
    rw [byteArr_ints] at *
    exact z F' N') (fun e t' vs g' h' tk' e0 _ _ _ => absurd (hks.symm.trans e0) nofun)
theorem hex_none {w : World} {p : Program} {loose : List Str} {mean : ExcName → Option Value} {mg mb : Str → Option Value} (dp un : Nat) (gd : Option (List Code)) (cn : Str) (cs : Scope) (a : Addr) (ccd : Value) (cl : List (Str × Addr)) (outer : List Env) (A₀ : Around) (base h₀ : Heap) (L : Addr)
    (m : Str → Option Value) (s : Shared) (news : List (Addr × Obj)) (b : Array UInt8) (t : Tok) (Q E : Value → Shared → Prop)
    (B : Below A₀ base outer h₀) (F : Fr h₀ L s.heap m) (X : (K w.params).In h₀) (N : News h₀ L s.heap news) (T : Top p loose mean mg mb h₀) (hk : cs.kind = .function) (ks : List Int) (hb : KBw.bInts b = ks) (hz : ks.length ≤ 39)
    (hd : dp + 10 < recursionLimit) (hu : un + 80 < cLine)
    (hks : hexL ks = none)
    (bad : ∀ (e t' : Addr) (vs : List Value) (g' h' : Heap) (tk' : Nat), Fr h₀ L g' m → g'.UpToSlots h' → RaisedK base (envX cn cs L a ccd cl :: outer) e (.ref 86) t' vs news h' → E (.ref e) { s with heap := h', toks := tk' }) :
    wpAny (model row.prog w) (ktrTop dp un gd cn cs L a ccd cl outer) (call (.ref 117) [.bytes b t]) Q E s :=
  hex_call dp un gd cn cs a ccd cl outer A₀ base h₀ L m s news b t Q E B F X N T hk ks hb hz hd hu (fun out t' h' tk' e _ F' N' => absurd (hks.symm.trans e) nofun) (fun e t' vs g' h' tk' _ F' U' R' => bad e t' vs g' h' tk' F' U' R')
theorem get_some {w : World} {p : Program} {loose : List Str} {mean : ExcName → Option Value} {mg mb : Str → Option Value} (dp un : Nat) (gd : Option (List Code)) (cn : Str) (cs : Scope) (a : Addr) (ccd : Value) (cl : List (Str × Addr)) (outer : List Env) (A₀ : Around) (base h₀ : Heap) (L : Addr)
    (m : Str → Option Value) (s : Shared) (x dd lx ld fd c0 ie : Addr) (fo oc io : Obj) (b : Array UInt8) (nm : Str) (tb tk tn1 tn2 t1 t2 t3 t4 t5 t6 : Tok) (Q E : Value → Shared → Prop) (d : Array UInt8)
    (B : Below A₀ base outer h₀) (F : Fr h₀ L s.heap m) (X : (K w.params).In h₀) (N : News h₀ L s.heap [(x, instObj 1646 dd), (dd, fields w fd t1 t2 t3 t4 t5 t6 (.bytes b tb) .none), (lx, instObj 1388 ld), (ld, litObj w nm tn1 tn2), (fd, fo), (c0, oc), (ie, io)]) (T : Top p loose mean mg mb h₀) (hk : cs.kind = .function)
    (hfd : fo.IsDictOf (PySem.strKind row.prog w) (strPairs [(Value.str (Str.ofString "Filter") tk, Value.ref lx)])) (lo' : (fd == sysModules) = false)
    (l1 : @LT.lt Nat _ dd x ∧ @LT.lt Nat _ lx dd ∧ @LT.lt Nat _ ld dd ∧ @LT.lt Nat _ fd dd ∧ @LT.lt Nat _ c0 dd) (l2 : @LT.lt Nat _ ld lx ∧ @LT.lt Nat _ fd ld ∧ @LT.lt Nat _ c0 fd) (l4 : @LT.lt Nat _ dd ie)
    (ks : List Int) (hb : KBw.bInts b = ks) (hz : ks.length ≤ 39) (hn : nm = zs "AHx" ∨ nm = zs "ASCIIHexDecode")
    (hd : dp + 40 < recursionLimit) (hu : un + 300 < cLine)
    (hks : hexL ks = some (KBw.bInts d))
    (ret : ∀ (t' : Tok) (h' : Heap) (tk' : Nat), Fr h₀ L h' m →
      News h₀ L h' [(x, instObj 1646 dd), (dd, fields w fd t1 t2 t3 t4 t5 t6 .none (.bytes (d) t')), (lx, instObj 1388 ld), (ld, litObj w nm tn1 tn2), (fd, fo), (c0, oc), (ie, io)] → Q (.bytes (d) t') { s with heap := h', toks := tk' }) :
    wpAny (model row.prog w) (ktrTop dp un gd cn cs L a ccd cl outer) (call (.ref 1636) [.ref x]) Q E s :=
  get_call dp un gd cn cs a ccd cl outer A₀ base h₀ L m s x dd lx ld fd c0 ie fo oc io b nm tb tk tn1 tn2 t1 t2 t3 t4 t5 t6 Q E B F X N T hk hfd lo' l1 l2 l4 ks hb hz hn hd hu (fun out t' h' tk' e _ F' N' => by
    have e2 : out = KBw.bInts d := Option.some.inj (e.symm.trans hks)
    subst e2
    have z := ret t' h' tk'
    rw [byteArr_ints] at *
    exact z F' N') (fun e t' vs g' h' tk' e0 _ _ _ => absurd (hks.symm.trans e0) nofun)
theorem get_none {w : World} {p : Program} {loose : List Str} {mean : ExcName → Option Value} {mg mb : Str → Option Value} (dp un : Nat) (gd : Option (List Code)) (cn : Str) (cs : Scope) (a : Addr) (ccd : Value) (cl : List (Str × Addr)) (outer : List Env) (A₀ : Around) (base h₀ : Heap) (L : Addr)
    (m : Str → Option Value) (s : Shared) (x dd lx ld fd c0 ie : Addr) (fo oc io : Obj) (b : Array UInt8) (nm : Str) (tb tk tn1 tn2 t1 t2 t3 t4 t5 t6 : Tok) (Q E : Value → Shared → Prop)
    (B : Below A₀ base outer h₀) (F : Fr h₀ L s.heap m) (X : (K w.params).In h₀) (N : News h₀ L s.heap [(x, instObj 1646 dd), (dd, fields w fd t1 t2 t3 t4 t5 t6 (.bytes b tb) .none), (lx, instObj 1388 ld), (ld, litObj w nm tn1 tn2), (fd, fo), (c0, oc), (ie, io)]) (T : Top p loose mean mg mb h₀) (hk : cs.kind = .function)
    (hfd : fo.IsDictOf (PySem.strKind row.prog w) (strPairs [(Value.str (Str.ofString "Filter") tk, Value.ref lx)])) (lo' : (fd == sysModules) = false)
    (l1 : @LT.lt Nat _ dd x ∧ @LT.lt Nat _ lx dd ∧ @LT.lt Nat _ ld dd ∧ @LT.lt Nat _ fd dd ∧ @LT.lt Nat _ c0 dd) (l2 : @LT.lt Nat _ ld lx ∧ @LT.lt Nat _ fd ld ∧ @LT.lt Nat _ c0 fd) (l4 : @LT.lt Nat _ dd ie)
    (ks : List Int) (hb : KBw.bInts b = ks) (hz : ks.length ≤ 39) (hn : nm = zs "AHx" ∨ nm = zs "ASCIIHexDecode")
    (hd : dp + 40 < recursionLimit) (hu : un + 300 < cLine)
    (hks : hexL ks = none)
    (bad : ∀ (e t' : Addr) (vs : List Value) (g' h' : Heap) (tk' : Nat), Fr h₀ L g' m → g'.UpToSlots h' →
      RaisedK base (envX cn cs L a ccd cl :: outer) e (.ref 86) t' vs [(x, instObj 1646 dd), (dd, fields w fd t1 t2 t3 t4 t5 t6 (.bytes b tb) .none), (lx, instObj 1388 ld), (ld, litObj w nm tn1 tn2), (fd, fo), (c0, oc), (ie, io)] h' → E (.ref e) { s with heap := h', toks := tk' }) :
    wpAny (model row.prog w) (ktrTop dp un gd cn cs L a ccd cl outer) (call (.ref 1636) [.ref x]) Q E s :=
  get_call dp un gd cn cs a ccd cl outer A₀ base h₀ L m s x dd lx ld fd c0 ie fo oc io b nm tb tk tn1 tn2 t1 t2 t3 t4 t5 t6 Q E B F X N T hk hfd lo' l1 l2 l4 ks hb hz hn hd hu (fun out t' h' tk' e _ F' N' => absurd (hks.symm.trans e) nofun) (fun e t' vs g' h' tk' _ F' U' R' => bad e t' vs g' h' tk' F' U' R')
end
local macro_rules | `(tactic| walk_at "exec Try") => `(tactic| (k_here; refine wpAny_Try_except ?_))
local macro_rules | `(tactic| walk_at "compareOp NotEq bytes bytes") => `(tactic| (k_here; refine ne_self ?_))
local macro_rules | `(tactic| walk_at "noteFrame ref") => `(tactic| (k_here; (rename RaisedK _ _ _ _ _ _ _ _ => rkX); k_dflt (refine' caught_X (bmB := [.type "ValueError", .type "Exception", .type "BaseException", .type "object"]) (newId := "ValueError.__new__") (T' := "ValueError") ?K ?F ?U ?R ?X ?T ?ey ?q ?ex PyProof.Rows.Boot.«ValueError» ?hn PySem.F.isExc_ValueError PySem.F.notTuple_ValueError ?hb ?hk ?hx ?hd ?_; (case K => assumption); (case F => assumption); (case U => assumption); (case R => exact rkX); (case X => k_asm); (case T => k_asm); (case ey => k_ownname); (case q => k_exc); (case ex => k_is); (case hn => decide); (case hb => rfl); (case hk => rfl); (case hx => rfl); (case hd => decide); k_whole); intro h' F' N'; (try k_sweep)))
section
open PySem.Calls PySem.Spec


local macro_rules | `(tactic| walk_at "call ref") => `(tactic| (k_here; k_dflt (show wpAny _ _ (call (Value.ref 1643) _) _ _ _); k_dflt (first
  | (refine' raw1_call _ _ _ _ _ _ _ _ _ _ _ _ _ _ _ _ _ _ _ _ _ _ _ _ _ _ _ _ _ _ ?k1 ?k2 ?k3 ?k4 ?k5 ?kK ?m1 ?m2 ?kd ?ku (fun h9 k9 F9 N9 => ?_); (case k1 => k_asm); (case k2 => k_asm); (case k3 => k_asm); (case k4 => k_asm); (case k5 => k_asm); (case kK => first | exact rfl | assumption); (case m1 => k_mem); (case m2 => k_mem); (case kd => k_room); (case ku => ktr_units))
  | (refine' raw2_call _ _ _ _ _ _ _ _ _ _ _ _ _ _ _ _ _ _ _ _ _ _ _ _ _ _ _ _ ?k1 ?k2 ?k3 ?k4 ?k5 ?kK ?m1 ?m2 ?kd ?ku (fun h9 k9 F9 N9 => ?_); (case k1 => k_asm); (case k2 => k_asm); (case k3 => k_asm); (case k4 => k_asm); (case k5 => k_asm); (case kK => first | exact rfl | assumption); (case m1 => k_mem); (case m2 => k_mem); (case kd => k_room); (case ku => ktr_units)))))
local macro_rules | `(tactic| walk_at "call ref") => `(tactic| (k_here; k_dflt (show wpAny _ _ (call (Value.ref 1636) _) _ _ _); k_dflt (first
  | (refine' get_some _ _ _ _ _ _ _ _ _ _ _ _ _ _ _ _ _ _ _ _ _ _ _ _ _ _ _ _ _ _ _ _ _ _ _ _ _ _ _ _ ?k1 ?k2 ?k3 ?k4 ?k5 ?kK ?hfd ?hlo ?l1 ?l2 ?l4 _ ?hb ?hz ?hn ?kd ?ku ?hks (fun t9 h9 k9 F9 N9 => ?_); (case k1 => k_asm); (case k2 => k_asm); (case k3 => k_asm); (case k4 => first | k_asm | (refine' news_pick ?N9 [1, 2, 3, 4, 5, 6, 0] ?e9; (case N9 => assumption); (case e9 => exact rfl))); (case k5 => k_asm); (case kK => first | exact rfl | assumption); (case hfd => assumption); (case hlo => assumption); (case l1 => assumption); (case l2 => assumption); (case l4 => omega); (case hb => assumption); (case hz => assumption); (case hn => assumption); (case kd => k_room); (case ku => ktr_units); (case hks => assumption))
  | (refine' get_none _ _ _ _ _ _ _ _ _ _ _ _ _ _ _ _ _ _ _ _ _ _ _ _ _ _ _ _ _ _ _ _ _ _ _ _ _ _ _ ?k1 ?k2 ?k3 ?k4 ?k5 ?kK ?hfd ?hlo ?l1 ?l2 ?l4 _ ?hb ?hz ?hn ?kd ?ku ?hks (fun e9 t9 v9 g9 h9 k9 F9 U9 R9 => ?_); (case k1 => k_asm); (case k2 => k_asm); (case k3 => k_asm); (case k4 => first | k_asm | (refine' news_pick ?N9 [1, 2, 3, 4, 5, 6, 0] ?e9; (case N9 => assumption); (case e9 => exact rfl))); (case k5 => k_asm); (case kK => first | exact rfl | assumption); (case hfd => assumption); (case hlo => assumption); (case l1 => assumption); (case l2 => assumption); (case l4 => omega); (case hb => assumption); (case hz => assumption); (case hn => assumption); (case kd => k_room); (case ku => ktr_units); (case hks => assumption))
  | (refine' get2_call _ _ _ _ _ _ _ _ _ _ _ _ _ _ _ _ _ _ _ _ _ _ _ _ _ _ _ _ _ ?k1 ?k2 ?k3 ?k4 ?k5 ?kK ?m1 ?m2 ?kd ?ku (fun h9 k9 F9 N9 => ?_); (case k1 => k_asm); (case k2 => k_asm); (case k3 => k_asm); (case k4 => k_asm); (case k5 => k_asm); (case kK => first | exact rfl | assumption); (case m1 => k_mem); (case m2 => k_mem); (case kd => k_room); (case ku => ktr_units)))))

theorem fr_know {h₀ h : Heap} {L : Addr} {m : Str → Option Value} {k : Str} {v : Value} (F : Fr h₀ L h m) (e : m k = some v) : Fr h₀ L h (fun y => if y = k then some v else m y) := by
  have : (fun y => if y = k then some v else m y) = m := by
    funext y
    split
    · rename_i q; rw [q, e]
    · rfl
  rw [this]
  exact F
noncomputable abbrev mTurn (dv : Value) (b : Array UInt8) (tb : Tok) (x : Addr) (m : Str → Option Value) : Str → Option Value := fun y => if y = Str.ofString "due" then some dv else if y = Str.ofString "data" then some (.bytes b tb) else if y = Str.ofString "stream" then some (.ref x) else m y
theorem turns {w : World} {p : Program} {loose : List Str} {mean : ExcName → Option Value} {mg mb : Str → Option Value} (fa : Addr) (ccd : Value) (h₀ : Heap) (L : Addr)
    (m : Str → Option Value) (s : Shared) (x dd lx ld fd : Addr) (fo oc : Obj) (b : Array UInt8) (nm : Str) (tb tb2 tk tn1 tn2 t1 t2 t3 t4 t5 t6 : Tok) (dv : Value) (Q : Flow → Shared → Prop)
    (B : Below callerA h₀ [] h₀) (F : Fr h₀ L s.heap (mTurn dv b tb2 x m)) (X : (K w.params).In h₀) (N : News h₀ L s.heap [(x, instObj 1646 dd), (dd, fields w fd t1 t2 t3 t4 t5 t6 (.bytes b tb) .none), (lx, instObj 1388 ld), (ld, litObj w nm tn1 tn2), (fd, fo), (L + 1, oc)]) (T : Top p loose mean mg mb h₀)
    (hfd : fo.IsDictOf (PySem.strKind row.prog w) (strPairs [(Value.str (Str.ofString "Filter") tk, Value.ref lx)])) (lo' : (fd == sysModules) = false)
    (l1 : @LT.lt Nat _ dd x ∧ @LT.lt Nat _ lx dd ∧ @LT.lt Nat _ ld dd ∧ @LT.lt Nat _ fd dd ∧ @LT.lt Nat _ (L + 1) dd) (l2 : @LT.lt Nat _ ld lx ∧ @LT.lt Nat _ fd ld ∧ @LT.lt Nat _ (L + 1) fd)
    (ks : List Int) (hb : KBw.bInts b = ks) (hz : ks.length ≤ 39) (hn : nm = zs "AHx" ∨ nm = zs "ASCIIHexDecode")
    (due : (dv = .none ∧ hexL ks = none) ∨ (∃ d t, dv = .bytes d t ∧ hexL ks = some (KBw.bInts d)))
    (ret : ∀ (m' : Str → Option Value) (news' : List (Addr × Obj)) (h' : Heap) (tk' : Nat), Fr h₀ L h' m' → News h₀ L h' news' → Q (.ret (.bool true)) { s with heap := h', toks := tk' }) :
    wpAny (model row.prog w) (lawA fa ccd L) (execs (lawD.body.drop 7) (envX (zs "law") lawD.scope L fa ccd [(Str.ofString "values", L + 1)])) Q (fun _ _ => False) s := by
  revert X; k_fill; intro X
  delta lawD dk
  dsimp only [List.drop]
  rcases due with ⟨rfl, hks⟩ | ⟨d, t, rfl, hks⟩
  · k_steps
    all_goals exact ret _ _ _ _ (by assumption) (by assumption)
  · k_steps
    all_goals exact ret _ _ _ _ (by assumption) (by assumption)
end
section
open PySem.Calls PySem.Spec

local macro_rules | `(tactic| walk_at "call ref") => `(tactic| (k_here; (with_reducible show wpAny _ _ (call (Value.ref 1423) _) _ _ _); k_dflt (refine' call_MK ?k1 ?k2 ?_; (case k1 => k_in); (case k2 => k_is); k_whole; k_enter)))
theorem lit_short {w : World} {p : Program} {loose : List Str} {mean : ExcName → Option Value} {mg mb : Str → Option Value} (fa : Addr) (ccd : Value) (h₀ : Heap) (L : Addr)
    (m : Str → Option Value) (s : Shared) (fd c0 : Addr) (fo oc : Obj) (tn : Tok) (Q E : Value → Shared → Prop)
    (B : Below callerA h₀ [] h₀) (F : Fr h₀ L s.heap m) (X : (K w.params).In h₀) (N : News h₀ L s.heap [(fd, fo), (c0, oc)]) (T : Top p loose mean mg mb h₀)
    (ret : ∀ (lx ld : Addr) (t1 : Tok) (h' : Heap) (tk' : Nat), Fr h₀ L h' m → News h₀ L h' [(lx, instObj 1388 ld), (ld, litObj w (zs "AHx") t1 tn), (fd, fo), (c0, oc)] →
      (@LT.lt Nat _ fd ld ∧ @LT.lt Nat _ c0 ld) → @LT.lt Nat _ ld lx → Q (.ref lx) { s with heap := h', toks := tk' }) :
    wpAny (model row.prog w) (lawA fa ccd L) (call (.ref 1423) [.str (Str.ofString "AHx") tn]) Q E s := by
  revert X; k_fill; intro X
  k_steps
  exact ret _ _ _ _ _ (by assumption) (by assumption) (by assumption) (by assumption)
theorem lit_long {w : World} {p : Program} {loose : List Str} {mean : ExcName → Option Value} {mg mb : Str → Option Value} (fa : Addr) (ccd : Value) (h₀ : Heap) (L : Addr)
    (m : Str → Option Value) (s : Shared) (fd c0 : Addr) (fo oc : Obj) (tn : Tok) (Q E : Value → Shared → Prop)
    (B : Below callerA h₀ [] h₀) (F : Fr h₀ L s.heap m) (X : (K w.params).In h₀) (N : News h₀ L s.heap [(fd, fo), (c0, oc)]) (T : Top p loose mean mg mb h₀)
    (ret : ∀ (lx ld : Addr) (t1 : Tok) (h' : Heap) (tk' : Nat), Fr h₀ L h' m → News h₀ L h' [(lx, instObj 1388 ld), (ld, litObj w (zs "ASCIIHexDecode") t1 tn), (fd, fo), (c0, oc)] →
      (@LT.lt Nat _ fd ld ∧ @LT.lt Nat _ c0 ld) → @LT.lt Nat _ ld lx → Q (.ref lx) { s with heap := h', toks := tk' }) :
    wpAny (model row.prog w) (lawA fa ccd L) (call (.ref 1423) [.str (Str.ofString "ASCIIHexDecode") tn]) Q E s := by
  revert X; k_fill; intro X
  k_steps
  exact ret _ _ _ _ _ (by assumption) (by assumption) (by assumption) (by assumption)
end
section
open PySem.Calls PySem.Spec


theorem fr_turn {h₀ h : Heap} {L : Addr} {m : Str → Option Value} {dv : Value} {b : Array UInt8} {tb : Tok} {x : Addr} (F : Fr h₀ L h m) (e1 : m (Str.ofString "due") = some dv) (e2 : m (Str.ofString "data") = some (.bytes b tb)) (e3 : m (Str.ofString "stream") = some (.ref x)) : Fr h₀ L h (mTurn dv b tb x m) := by
  have : mTurn dv b tb x m = m := by
    funext y
    unfold mTurn
    split
    · rename_i q; rw [q, e1]
    · split
      · rename_i q; rw [q, e2]
      · split
        · rename_i q; rw [q, e3]
        · rfl
  rw [this]
  exact F

local macro_rules | `(tactic| walk_at "callWith ref") => `(tactic| (k_here; (with_reducible show wpAny _ _ (callWith _ (Value.ref 1423) _ _ _) _ _ _); k_dflt (refine' callWith_MK ?k1 ?k2 ?k3 ?_; (case k1 => k_asm); (case k2 => k_is); (case k3 => k_is); k_whole)))
local macro_rules | `(tactic| walk_at "call ref") => `(tactic| (k_here; (with_reducible show wpAny _ _ (call (Value.ref 1423) _) _ _ _); k_dflt (first
  | (refine' lit_short _ _ _ _ _ _ _ _ _ _ _ _ _ ?k1 ?k2 ?k3 ?k4 ?k5 (fun lx9 ld9 t9 h9 k9 F9 N9 l9 la9 => ?_); (case k1 => k_asm); (case k2 => k_asm); (case k3 => k_asm); (case k4 => k_asm); (case k5 => k_asm))
  | (refine' lit_long _ _ _ _ _ _ _ _ _ _ _ _ _ ?k1 ?k2 ?k3 ?k4 ?k5 (fun lx9 ld9 t9 h9 k9 F9 N9 l9 la9 => ?_); (case k1 => k_asm); (case k2 => k_asm); (case k3 => k_asm); (case k4 => k_asm); (case k5 => k_asm)))))
local macro_rules | `(tactic| walk_at "call ref") => `(tactic| (k_here; k_dflt (show wpAny _ _ (call (Value.ref 1646) _) _ _ _); k_dflt (
  (refine' stream_call _ _ _ _ _ _ _ _ _ _ _ _ _ _ _ _ _ _ _ ?k1 ?k2 ?k3 ?k4 ?k5 ?hfd (fun x9 d9 ta9 tb9 tc9 td9 te9 tf9 h9 k9 F9 N9 l9 => ?_); (case k1 => k_asm); (case k2 => k_asm); (case k3 => k_asm); (case k4 => k_asm); (case k5 => k_asm); (case hfd => assumption)))))
local macro_rules | `(tactic| walk_at "call ref") => `(tactic| (k_here; k_dflt (show wpAny _ _ (call (Value.ref 117) _) _ _ _); k_dflt (first
  | (refine' hex_some _ _ _ _ _ _ _ _ _ _ _ _ _ _ _ _ _ _ _ _ _ ?k1 ?k2 ?k3 ?k4 ?k5 ?kK _ ?hb ?hz ?kd ?ku ?hks (fun t9 h9 k9 F9 N9 => ?_); (case k1 => k_asm); (case k2 => k_asm); (case k3 => k_asm); (case k4 => k_asm); (case k5 => k_asm); (case kK => first | exact rfl | assumption); (case hb => assumption); (case hz => assumption); (case hks => assumption); (case kd => k_room); (case ku => ktr_units))
  | (refine' hex_none _ _ _ _ _ _ _ _ _ _ _ _ _ _ _ _ _ _ _ _ ?k1 ?k2 ?k3 ?k4 ?k5 ?kK _ ?hb ?hz ?kd ?ku ?hks (fun e9 t9 v9 g9 h9 k9 F9 U9 R9 => ?_); (case k1 => k_asm); (case k2 => k_asm); (case k3 => k_asm); (case k4 => k_asm); (case k5 => k_asm); (case kK => first | exact rfl | assumption); (case hb => assumption); (case hz => assumption); (case hks => assumption); (case kd => k_room); (case ku => ktr_units)))))
local macro_rules | `(tactic| walk_at "execs cons") => `(tactic| (k_here; (with_reducible show wpAny _ _ (execs (Stmt.For _ _ _ _ _ :: _) _) _ _ _); k_dflt (refine' turns _ _ _ _ _ _ _ _ _ _ _ _ _ _ _ _ _ _ _ _ _ _ _ _ _ _ _ _ ?k1 ?k2 ?k3 ?k4 ?k5 ?hfd ?hlo ?l1 ?l2 _ ?hb ?hz ?hn ?due (fun m9 n9 h9 k9 F9 N9 => ?_); (case k1 => k_asm); (case k4 => k_asm); (case k3 => k_asm); (case k2 => refine' fr_turn ?Fa ?ea ?eb ?ec; (case Fa => assumption); (case ea => exact rfl); (case eb => exact rfl); (case ec => exact rfl)); (case k5 => k_asm); (case hfd => assumption); (case hlo => assumption); (case l1 => assumption); (case l2 => exact ⟨by omega, by omega, by omega⟩); (case hb => assumption); (case hz => assumption); (case hn => first | exact .inl rfl | exact .inr rfl); (case due => first | exact .inl ⟨rfl, by assumption⟩ | exact .inr ⟨_, _, rfl, by assumption⟩))))

noncomputable abbrev mRest (dv : Value) (b : Array UInt8) (tb : Tok) (sc : Addr) (m : Str → Option Value) : Str → Option Value := fun y => if y = Str.ofString "due" then some dv else if y = Str.ofString "data" then some (.bytes b tb) else if y = Str.ofString "script" then some (.ref sc) else m y
theorem rest {w : World} {p : Program} {loose : List Str} {mean : ExcName → Option Value} {mg mb : Str → Option Value} (fa : Addr) (ccd : Value) (h₀ : Heap) (L : Addr)
    (m : Str → Option Value) (s : Shared) (oc : Obj) (b : Array UInt8) (tb : Tok) (dv : Value) (sc : Addr) (vs : List Value) (ns : List Int) (Q : Flow → Shared → Prop)
    (B : Below callerA h₀ [] h₀) (F : Fr h₀ L s.heap (mRest dv b tb sc m)) (X : (K w.params).In h₀) (N : News h₀ L s.heap [(L + 1, oc)]) (T : Top p loose mean mg mb h₀) (ks : List Int) (hb : KBw.bInts b = ks) (hz : ks.length ≤ 39)
    (hsc : h₀.IsList sc vs.toArray) (hI : IntsAre vs ns) (hns : ns.length ≤ 63)
    (due : (dv = .none ∧ hexL ks = none) ∨ (∃ d t, dv = .bytes d t ∧ hexL ks = some (KBw.bInts d)))
    (ret : ∀ (m' : Str → Option Value) (news' : List (Addr × Obj)) (h' : Heap) (tk' : Nat), Fr h₀ L h' m' → News h₀ L h' news' → Q (.ret (.bool true)) { s with heap := h', toks := tk' }) :
    wpAny (model row.prog w) (lawA fa ccd L) (execs (lawD.body.drop 4) (envX (zs "law") lawD.scope L fa ccd [(Str.ofString "values", L + 1)])) Q (fun _ _ => False) s := by
  revert X; k_fill; intro X
  delta lawD dk
  dsimp only [List.drop]
  rcases due with ⟨rfl, hks⟩ | ⟨d, t, rfl, hks⟩
  · k_steps
    all_goals exact ret _ _ _ _ (by assumption) (by assumption)
  · k_steps
    all_goals exact ret _ _ _ _ (by assumption) (by assumption)
end
section
open PySem.Calls PySem.Spec

theorem oct_ite {c : Prop} [Decidable c] {x y : Int} (hx : Oct x) (hy : Oct y) : Oct (if c then x else y) := by split <;> assumption
theorem octs_getD (l : List UInt8) (n : Nat) (hl : ∀ c ∈ l, c ≠ 11) : Oct (((l.getD n 0).toNat : Nat) : Int) := by
  have h : l.getD n 0 ≠ 11 := by
    rw [List.getD_eq_getElem?_getD]
    cases h : l[n]? with
    | none => decide
    | some c => exact hl c (List.mem_of_getElem? h)
  have h1 := UInt8.toNat_lt (l.getD n 0)
  refine ⟨by omega, by omega, fun q => h ?_⟩
  have : (l.getD n 0).toNat = 11 := by omega
  exact UInt8.toNat_inj.mp this
theorem octs_cut {prog : Program} {w : World} {A : Around} {E : Value → Shared → Prop} {s : Shared} {h₀ : Heap} {L D : Addr} {m : Str → Option Value} {news : List (Addr × Obj)} {cell : Addr × Obj} {ys : List Value} {f : Int → Int} {ls : List Int} {Q : Value → Shared → Prop}
    (F : Fr h₀ L s.heap m) (N : News h₀ L s.heap news) (hm : (D, LCg.lst ys) ∈ news) (hc : cell ∈ news) (hi : IntsAre ys (List.map f ls)) (hf : ∀ k, Oct (f k)) (hn : ls.length ≤ 30) (hh : A.handled = none)
    (h : ∀ (b : Array UInt8) (ks : List Int) (t' : Tok) (h' : Heap) (k : Nat), KBw.bInts b = ks → ks.length ≤ 30 → (∀ x ∈ ks, Oct x) → Fr h₀ L h' m → News h₀ L h' [cell] → Q (.bytes b t') { s with heap := h', toks := k }) :
    wpAny (model prog w) A (call (.type "bytes") [.ref D]) Q E s := by
  have hin : KBa.In (List.map f ls) := fun x hx => by
    obtain ⟨k, _, rfl⟩ := List.mem_map.mp hx
    obtain ⟨h0, h1, _⟩ := hf k
    exact ⟨by omega, by omega⟩
  have hl : s.heap.IsList D ys.toArray := ⟨_, (N _ hm).1, rfl, _, rfl⟩
  refine KBa.make_K F N hh hl hi hin (by rw [List.length_map]; omega) fun h' t' k F' N' _ => h _ (List.map f ls) t' h' k (KBa.ints_make hin) (by rw [List.length_map]; exact hn) (fun x hx => ?_) F' (news_last N' hc)
  obtain ⟨k, _, rfl⟩ := List.mem_map.mp hx
  exact hf k

theorem vals_len : ∀ {ks acc ns : List Int}, valsL ks acc = some ns → ns.length ≤ ks.length + acc.length + 1
  | [], acc, ns, h => by
    have : acc = ns := Option.some.inj h
    subst this
    omega
  | n :: r, acc, ns, h => by
    unfold valsL at h
    split at h
    · rw [← Option.some.inj h, List.length_append, List.length_replicate, List.length_cons]
      omega
    · split at h
      · have := vals_len h
        rw [List.length_cons]; omega
      · split at h
        · exact nomatch h
        · have := vals_len h
          rw [List.length_append] at this
          simp only [List.length_cons, List.length_nil] at this ⊢
          omega
theorem vals_in : ∀ {ks acc ns : List Int}, valsL ks acc = some ns → (∀ x ∈ acc, 0 ≤ x ∧ x < 16) → ∀ x ∈ ns, 0 ≤ x ∧ x < 16
  | [], acc, ns, h, ha => by
    have : acc = ns := Option.some.inj h
    subst this
    exact ha
  | n :: r, acc, ns, h, ha => by
    unfold valsL at h
    split at h
    · rw [← Option.some.inj h]
      intro x hx
      rcases List.mem_append.mp hx with hx | hx
      · exact ha x hx
      · rw [List.eq_of_mem_replicate hx]; decide
    · split at h
      · exact vals_in h ha
      · split at h
        · exact nomatch h
        · refine vals_in h fun x hx => ?_
          rcases List.mem_append.mp hx with hx | hx
          · exact ha x hx
          · rw [List.mem_singleton.mp hx]
            exact ⟨Int.fmod_nonneg_of_pos _ (by decide), Int.fmod_lt_of_pos _ (by decide)⟩
theorem vals_len0 {ks ns : List Int} (h : valsL ks [] = some ns) (hz : ks.length ≤ 30) : ns.length ≤ 31 := by
  have := vals_len h
  simp only [List.length_nil] at this
  omega
theorem vals_in0 {ks ns : List Int} (h : valsL ks [] = some ns) : ∀ x ∈ ns, 0 ≤ x ∧ x < 16 := vals_in h fun _ hx => nomatch hx

theorem vals_call2 {w : World} {p : Program} {loose : List Str} {mean : ExcName → Option Value} {mg mb : Str → Option Value} (dp un : Nat) (gd : Option (List Code)) (cn : Str) (cs : Scope) (a : Addr) (ccd : Value) (cl : List (Str × Addr)) (outer : List Env) (A₀ : Around) (base h₀ : Heap) (L : Addr)
    (m : Str → Option Value) (s : Shared) (c0 : Addr) (oc0 : Obj) (b : Array UInt8) (t : Tok) (Q E : Value → Shared → Prop)
    (B : Below A₀ base outer h₀) (F : Fr h₀ L s.heap m) (X : (K w.params).In h₀) (N : News h₀ L s.heap [(c0, oc0)]) (T : Top p loose mean mg mb h₀) (hk : cs.kind = .function) (ks : List Int) (hb : KBw.bInts b = ks) (hz : ks.length ≤ 30)
    {x0 : Option Value} (hoc : oc0.data = .cell x0) (hd : dp + 1 < recursionLimit) (hu : un + 8 < cLine)
    (ret0 : ∀ (h' : Heap) (tk' : Nat), valsL ks [] = none → Fr h₀ L h' m → News h₀ L h' [(c0, oc0)] → Q .none { s with heap := h', toks := tk' })
    (ret1 : ∀ (D : Addr) (c : Nat) (vs : List Value) (ns : List Int) (h' : Heap) (tk' : Nat), valsL ks [] = some ns → ns.length ≤ 31 → (∀ x ∈ ns, 0 ≤ x ∧ x < 16) → IntsAre vs ns → (@Ne Nat D c0) → Fr h₀ L h' m → News h₀ L h' ((D, ⟨.type "list", none, .seq vs.toArray c, #[]⟩) :: [(c0, oc0)]) → Q (.ref D) { s with heap := h', toks := tk' }) :
    wpAny (model row.prog w) (ktrTop dp un gd cn cs L a ccd cl outer) (call (.ref 1662) [.bytes b t]) Q E s :=
  vals_call dp un gd cn cs a ccd cl outer A₀ base h₀ L m s c0 oc0 b t Q E B F X N T hk ks hb (by omega) hd hu ret0 fun D c vs ns h' tk' e i F' N' => ret1 D c vs ns h' tk' e (vals_len0 e hz) (vals_in0 e) i (fun q => by
    have q' : D = c0 := q
    have h1 := (N' _ (.head _)).1
    have h2 := (N' _ (.tail _ (.head _))).1
    dsimp only at h1 h2
    rw [q'] at h1
    rw [h1] at h2
    have h3 := Option.some.inj h2
    rw [← h3] at hoc
    exact nomatch hoc) F' N'
local macro_rules | `(tactic| walk_at "call type:bytes") => `(tactic| (k_here; (refine' octs_cut ?c1 ?c2 ?c3 (cell := (_ + 1, _)) ?c4 ?c5 ?c6 ?c7 ?c8 ?_; (case c8 => rfl); (case c1 => k_asm); (case c2 => k_asm); (case c3 => k_mem); (case c4 => k_mem); (case c5 => assumption); (case c7 => rw [List.length_take]; omega); (case c6 => exact fun k => oct_ite (octs_getD _ _ (by decide)) (oct_ite (by unfold Oct; decide) (oct_ite (octs_getD _ _ (by decide)) (octs_getD _ _ (by decide))))); intro b9 ks9 t9 h9 k9 hb9 hz9 hx9 F9 N9)))
local macro_rules | `(tactic| walk_at "storeName") => `(tactic| (k_here; k_dflt (refine' storeX_C ?F ?N ?c ?U ?d ?_ ?a ?b; (case a => rfl); (case b => rfl); (case F => k_asm); (case N => k_asm); (case c => rfl); (case U => k_updF); (case d => k_asm); k_whole; intro h' o' F' N' d'; (try dsimp only at N'); (try simp only [List.cons_append, List.nil_append] at N'); (try k_sweep))))
theorem range_half {n : Nat} (h : ¬ (n : Int).fmod 2 = 1) : (n : Int) = 2 * ((n / 2 : Nat) : Int) := by
  rw [Int.fmod_eq_emod_of_nonneg _ (by decide)] at h; omega
theorem range_half2 {n : Nat} (h : (n : Int).fmod 2 = 1) : ((n + 1 : Nat) : Int) = 2 * (((n + 1) / 2 : Nat) : Int) := by
  rw [Int.fmod_eq_emod_of_nonneg _ (by decide)] at h; omega
noncomputable abbrev pairF (ns : List Int) (k : Int) : Int := 16 * ns.getD k.toNat 0 + ns.getD (k + 1).toNat 0
theorem rest_two_of {prog : Program} {w : World} {A : Around} {s : Shared} {h₀ : Heap} {L : Addr} {m : Str → Option Value} {env : Env} {vs : List Value} {ns : List Int} (hI : IntsAre vs ns) {elt : Expr} {x : Str} {scope : Scope} {cl : List (Str × Addr)} {Fin : List Value → List (Addr × Obj) → Prop} {news : List (Addr × Obj)} {n : Nat} 
    (turn : ∀ k t I oI C oC D m₂ ys h tk (E' : Value → Shared → Prop), 0 ≤ k → k + 2 ≤ 2 * (n : Int) → LCg.NsObj oC m₂ → m₂ x = some (.int k t) → Fr h₀ L h m → News h₀ L h ((I, oI) :: (C, oC) :: (D, LCg.lst ys) :: news) → LCg.Off3 I C D news → ((@Ne Nat I C) ∧ (@Ne Nat I D) ∧ (@Ne Nat C D)) →
      wpAny (model prog w) A (eval elt (compEnvC scope cl C env)) (LCg.CompEnd h₀ L m { s with heap := h, toks := tk } I oI C oC D (LCg.lst ys) (fun _ => True) (fun y news' => ElB (fun k y => ∃ t, y = .int (pairF ns k) t) news k y news')) E' { s with heap := h, toks := tk })
    (fin : ∀ ys, IntsAre ys ((evens n).map (pairF ns)) → Fin ys news) : LCg.CompRest prog w A h₀ L m env elt x scope cl s (fun _ => True) TwoAt Fin n 0 [] news := rest_two (pairF ns) turn fin
theorem pairs_eq : ∀ (n : Nat) (ns : List Int), ns.length = 2 * n → (evens n).map (pairF ns) = pairs ns
  | 0, ns, h => by
    have : ns = [] := List.eq_nil_of_length_eq_zero h
    subst this
    rfl
  | n + 1, a :: b :: r, h => by
    have e := pairs_eq n r (by simp only [List.length_cons] at h; omega)
    unfold evens at e ⊢
    rw [List.range_succ_eq_map]
    simp only [List.map_cons, List.map_map] at e ⊢
    show (16 * a + b) :: _ = (16 * a + b) :: pairs r
    rw [← e]
    congr 1
  | n + 1, [], h => by simp at h
  | n + 1, [_], h => by simp only [List.length_cons, List.length_nil] at h; omega
theorem pairs_in : ∀ {ns : List Int}, (∀ x ∈ ns, 0 ≤ x ∧ x < 16) → ∀ y ∈ pairs ns, 0 ≤ y ∧ y ≤ 255
  | [], _, y, hy => nomatch hy
  | [_], _, y, hy => nomatch hy
  | a :: b :: r, h, y, hy => by
    rcases List.mem_cons.mp hy with rfl | hy
    · have h1 := h a (.head _)
      have h2 := h b (.tail _ (.head _))
      omega
    · exact pairs_in (fun x hx => h x (.tail _ (.tail _ hx))) y hy
theorem pairs_len : ∀ (ns : List Int), (pairs ns).length ≤ ns.length
  | [] => Nat.le_refl _
  | [_] => Nat.zero_le _
  | a :: b :: r => by
    have := pairs_len r
    show (pairs r).length + 1 ≤ r.length + 1 + 1
    omega
theorem half_nat {n : Nat} (h : ¬ (n : Int).fmod 2 = 1) : n = 2 * (n / 2) := by
  have := range_half h
  omega
theorem half_nat2 {ns : List Int} (h : (ns.length : Int).fmod 2 = 1) : (ns ++ [5]).length = 2 * ((ns.length + 1) / 2) := by
  have := range_half2 h
  rw [List.length_append]
  simp only [List.length_cons, List.length_nil]
  omega
theorem in_snoc {ns : List Int} (h : ∀ x ∈ ns, 0 ≤ x ∧ x < 16) : ∀ x ∈ ns ++ [5], 0 ≤ x ∧ x < 16 := fun x hx => by
  rcases List.mem_append.mp hx with hx | hx
  · exact h x hx
  · rw [List.mem_singleton.mp hx]; decide
theorem due_cut {prog : Program} {w : World} {A : Around} {E : Value → Shared → Prop} {s : Shared} {h₀ : Heap} {L D : Addr} {m : Str → Option Value} {news : List (Addr × Obj)} {cell : Addr × Obj} {ys : List Value} {ns : List Int} {n : Nat} {Q : Value → Shared → Prop}
    (F : Fr h₀ L s.heap m) (N : News h₀ L s.heap news) (hm : (D, LCg.lst ys) ∈ news) (hc : cell ∈ news) (hi : IntsAre ys ((evens n).map (pairF ns))) (hns : ∀ x ∈ ns, 0 ≤ x ∧ x < 16) (hn : ns.length = 2 * n) (hn2 : ns.length ≤ 40) (hh : A.handled = none)
    (h : ∀ (b : Array UInt8) (t' : Tok) (h' : Heap) (k : Nat), KBw.bInts b = pairs ns → Fr h₀ L h' m → News h₀ L h' [cell] → Q (.bytes b t') { s with heap := h', toks := k }) :
    wpAny (model prog w) A (call (.type "bytes") [.ref D]) Q E s := by
  rw [pairs_eq n ns hn] at hi
  have hin : KBa.In (pairs ns) := fun y hy => by have := pairs_in hns y hy; omega
  have hl : s.heap.IsList D ys.toArray := ⟨_, (N _ hm).1, rfl, _, rfl⟩
  have hz := pairs_len ns
  exact KBa.make_K F N hh hl hi hin (by omega) fun h' t' k F' N' _ => h _ t' h' k (KBa.ints_make hin) F' (news_last N' hc)
local macro_rules | `(tactic| walk_at "SrcS") => `(tactic| (k_here; refine Mine.SrcS.intro (by rfl) (by k_asm) (by k_asm) (by assumption) (by first | exact range_half (by assumption) | exact range_half2 (by assumption)) (by omega) ?_; intro g9; (with_reducible rename IntsAre _ _ => hI9); refine Mine.rest_two_of hI9 (fun k9 t9 I9 oI9 C9 oC9 D9 m9 ys9 h9 tk9 E9 lo9 hi9 hC9 hx9 F9 N9 off9 ne9 => ?_) (fun ys9 hr9 => ?_)))
local macro_rules | `(tactic| walk_at "eval ListComp") => `(tactic| (k_here; (with_reducible show wpAny _ _ (eval (Expr.ListComp _ [⟨_, Expr.Call _ _ _ _, _, _⟩] _ _) _) _ _ _); k_dflt (refine Mine.ListComp_S (F₀ := by k_asm) (by with_unfolding_all rfl) (by decide) (by rfl) (by decide) (by rfl) ?_)))
local macro_rules | `(tactic| walk_at "ElB") => `(tactic| exact ⟨rfl, _, rfl⟩)
local macro_rules | `(tactic| walk_at "call type:bytes") => `(tactic| (k_here; (refine' due_cut ?c1 ?c2 ?c3 (cell := (_ + 1, _)) ?c4 ?c5 ?c6 ?c7 ?c7b ?c8 ?_; (case c8 => rfl); (case c1 => k_asm); (case c2 => k_asm); (case c3 => k_mem); (case c4 => k_mem); (case c5 => assumption); (case c6 => first | assumption | exact in_snoc (by assumption)); (case c7 => first | exact half_nat (by assumption) | exact half_nat2 (by assumption)); (case c7b => (try simp only [List.length_append, List.length_cons, List.length_nil]); omega); intro d9 t9 h9 k9 hd9 F9 N9)))
local macro_rules | `(tactic| walk_at "call ref") => `(tactic| (k_here; k_dflt (first
  | (refine' vals_call2 _ _ _ _ _ _ _ _ _ _ _ _ _ _ _ _ _ _ _ _ _ ?k1 ?k2 ?k3 ?k4 ?k5 ?kK _ ?hb ?hz ?hoc ?kd ?ku (fun h9 k9 e9 F9 N9 => ?_) (fun D9 c9 vs9 ns9 h9 k9 e9 hn9 hi9 i9 ne9 F9 N9 => ?_); (case hoc => assumption); (case k1 => k_asm); (case k2 => k_asm); (case k3 => k_asm); (case k4 => k_asm); (case k5 => k_asm); (case kK => first | exact rfl | assumption); (case hb => assumption); (case hz => omega); (case kd => k_room); (case ku => ktr_units)))))
theorem rest_any {w : World} {p : Program} {loose : List Str} {mean : ExcName → Option Value} {mg mb : Str → Option Value} (fa : Addr) (ccd : Value) (h₀ : Heap) (L : Addr)
    (m : Str → Option Value) (s : Shared) (oc : Obj) (b : Array UInt8) (tb : Tok) (dv : Value) (sc : Addr) (vs : List Value) (ns : List Int) (Q : Flow → Shared → Prop) (E : Value → Shared → Prop)
    (B : Below callerA h₀ [] h₀) (F : Fr h₀ L s.heap (mRest dv b tb sc m)) (X : (K w.params).In h₀) (N : News h₀ L s.heap [(L + 1, oc)]) (T : Top p loose mean mg mb h₀) (ks : List Int) (hb : KBw.bInts b = ks) (hz : ks.length ≤ 39)
    (hsc : h₀.IsList sc vs.toArray) (hI : IntsAre vs ns) (hns : ns.length ≤ 63)
    (due : (dv = .none ∧ hexL ks = none) ∨ (∃ d t, dv = .bytes d t ∧ hexL ks = some (KBw.bInts d)))
    (ret : ∀ (m' : Str → Option Value) (news' : List (Addr × Obj)) (h' : Heap) (tk' : Nat), Fr h₀ L h' m' → News h₀ L h' news' → Q (.ret (.bool true)) { s with heap := h', toks := tk' }) :
    wpAny (model row.prog w) (lawA fa ccd L) (execs (lawD.body.drop 4) (envX (zs "law") lawD.scope L fa ccd [(Str.ofString "values", L + 1)])) Q E s :=
  wpAny_mono (rest fa ccd h₀ L m s oc b tb dv sc vs ns Q B F X N T ks hb hz hsc hI hns due ret) (fun _ _ h => h) (fun _ _ h => h.elim)
theorem fr_rest {h₀ h : Heap} {L : Addr} {m : Str → Option Value} {dv : Value} {b : Array UInt8} {tb : Tok} {x : Addr} (F : Fr h₀ L h m) (e1 : m (Str.ofString "due") = some dv) (e2 : m (Str.ofString "data") = some (.bytes b tb)) (e3 : m (Str.ofString "script") = some (.ref x)) : Fr h₀ L h (mRest dv b tb x m) := by
  have : mRest dv b tb x m = m := by
    funext y
    unfold mRest
    split
    · rename_i q; rw [q, e1]
    · split
      · rename_i q; rw [q, e2]
      · split
        · rename_i q; rw [q, e3]
        · rfl
  rw [this]
  exact F
theorem due_odd {ks ns : List Int} {d : Array UInt8} (ho : ∀ x ∈ ks, Oct x) (e : valsL ks [] = some ns) (he : (ns.length : Int).fmod 2 = 1) (hd : KBw.bInts d = pairs (ns ++ [5])) : hexL (ks ++ List.map (fun c : UInt8 => ((c.toNat : Nat) : Int)) [53]) = some (KBw.bInts d) := by
  rw [hd]
  exact law_odd ho e he
theorem due_even {ks ns : List Int} {d : Array UInt8} (ho : ∀ x ∈ ks, Oct x) (e : valsL ks [] = some ns) (he : ¬ (ns.length : Int).fmod 2 = 1) (hd : KBw.bInts d = pairs ns) : hexL ks = some (KBw.bInts d) := by
  rw [hd]
  exact law_even ho e he
theorem snoc_len {ks : List Int} {n : Nat} (h : ks.length ≤ n) : (ks ++ List.map (fun c : UInt8 => ((c.toNat : Nat) : Int)) [53]).length ≤ n + 1 := by
  rw [List.length_append]
  show ks.length + 1 ≤ n + 1
  omega
local macro_rules | `(tactic| walk_at "execs cons") => `(tactic| (k_here; (with_reducible show wpAny _ _ (execs (Stmt.Try _ _ _ _ _ :: _) _) _ _ _); k_dflt (refine' rest_any _ _ _ _ _ _ _ _ _ _ _ _ _ _ _ ?B ?F ?X ?N ?T _ ?hb ?hz ?hsc ?hI ?hns ?due (fun m9 n9 h9 k9 F9 N9 => ?_); (case B => k_asm); (case N => k_asm); (case F => refine' fr_rest ?Fa ?ea ?eb ?ec; (case Fa => assumption); (case ea => exact rfl); (case eb => exact rfl); (case ec => exact rfl)); (case X => first | exact KX | k_asm); (case T => k_asm); (case hb => assumption); (case hz => first | omega | (have := snoc_len (ks := _) (by assumption); omega) | (refine Nat.le_trans (snoc_len (n := 30) (by assumption)) (by decide))); (case hsc => assumption); (case hI => assumption); (case hns => omega); (case due => first | exact .inl ⟨rfl, law_none (by assumption) (by assumption)⟩ | exact .inr ⟨_, _, rfl, due_odd (by assumption) (by assumption) (by assumption) (by assumption)⟩ | exact .inr ⟨_, _, rfl, due_even (by assumption) (by assumption) (by assumption) (by assumption)⟩))))
local macro_rules | `(tactic| k_qdec) => `(tactic| decide +kernel)
theorem walk : WalkO q loose (XL q []) (kHook K kas kas_eq).says row.toRowW lawD [] (fun f vs => PySem.call f vs) := by
  w_on
  delta lawD dk
  w_strict (k_go0; (all_goals try k_fold); k_steps)
end
end Mine
set_option maxRecDepth 100000 in
set_option maxHeartbeats 8000000 in
theorem PySem.Challenge.cw_ll0046_01_holds : PySem.Challenge.rw_ll0046_01.Holds :=
  Mine.head Mine.walk
