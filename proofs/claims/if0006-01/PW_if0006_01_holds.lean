import PyProof.Rows.All
import Wide.All
import OpenK.AllK
import Wide.FinOn
import Lean
import PySem.Challenge.RW_if0006_01
set_option Elab.async false
set_option maxRecDepth 100000
set_option linter.unusedVariables false
set_option linter.unusedSimpArgs false
set_option linter.all false
set_option bootstrap.genMatcherCode false
namespace Mine
open PySem PySem.W PyProof.Rows PySem.Calls PySem.Spec
section
noncomputable abbrev pw : Program := PySem.Challenge.pw_if0006_01
noncomputable def topAt (i : Nat) : Stmt := (PySem.Challenge.pw_if0006_01.main.body[i]?).getD (.Pass ⟨0, 0, 0, 0⟩)
noncomputable def bodyOf : Stmt → List Stmt
  | .FunctionDef _ _ b _ _ _ _ _ _ _ => b
  | .ClassDef _ _ _ b _ _ _ _ _ _ _ => b
  | .For _ _ b _ _ => b
  | _ => []
noncomputable def argOf : Stmt → Arguments
  | .FunctionDef _ a _ _ _ _ _ _ _ _ => a
  | _ => ⟨[], [], none, [], [], none, []⟩
noncomputable def scopeOf : Stmt → Scope
  | .FunctionDef _ _ _ _ _ _ sc _ _ _ => sc
  | .ClassDef _ _ _ _ _ _ sc _ _ _ _ => sc
  | _ => ⟨.function, [], false, false, []⟩
noncomputable def strOf : Stmt → Str
  | .Assign _ (.Constant (.str s) _ _) _ => s
  | _ => Str.empty
noncomputable def nth (l : List Stmt) (i : Nat) : Stmt := (l[i]?).getD (.Pass ⟨0, 0, 0, 0⟩)
noncomputable abbrev S (x : String) : Str := Str.ofString x
noncomputable def posOf : Stmt → Pos
  | .FunctionDef _ _ _ _ _ _ _ _ _ p => p
  | _ => ⟨0, 0, 0, 0⟩
end
section
noncomputable abbrev dE (P : Params) (x : String) (n : Nat) (v : Value) : DictEntry := ⟨PyData.keyHash P (S x), .str (S x) n, v⟩
noncomputable def a42 : Params → Obj := (fun P => (Obj.mk (Value.type "dict") Option.none (Data.dict (List.toArray [(dE P "__name__" 1 (Value.str (S "builtins") 160)), (dE P "__doc__" 2 (Value.builtin "builtins.__doc__:str#opaque")), (dE P "__package__" 3 (Value.builtin "builtins.__package__:str#opaque")), (dE P "__loader__" 4 (Value.builtin "builtins.__loader__:shared#opaque")), (dE P "__spec__" 5 (Value.builtin "builtins.__spec__#opaque")), (dE P "__build_class__" 6 (Value.builtin "__build_class__")), (dE P "__import__" 7 (Value.builtin "__import__")), (dE P "abs" 8 (Value.builtin "abs")), (dE P "all" 9 (Value.builtin "all")), (dE P "any" 10 (Value.builtin "any")), (dE P "ascii" 11 (Value.builtin "ascii")), (dE P "bin" 12 (Value.builtin "bin")), (dE P "breakpoint" 13 (Value.builtin "breakpoint")), (dE P "callable" 14 (Value.builtin "callable")), (dE P "chr" 15 (Value.builtin "chr")), (dE P "compile" 16 (Value.builtin "compile")), (dE P "delattr" 17 (Value.builtin "delattr")), (dE P "dir" 18 (Value.builtin "dir")), (dE P "divmod" 19 (Value.builtin "divmod")), (dE P "eval" 20 (Value.builtin "eval")), (dE P "exec" 21 (Value.builtin "exec")), (dE P "format" 22 (Value.builtin "format")), (dE P "getattr" 23 (Value.builtin "getattr")), (dE P "globals" 24 (Value.builtin "globals")), (dE P "hasattr" 25 (Value.builtin "hasattr")), (dE P "hash" 26 (Value.builtin "hash")), (dE P "hex" 27 (Value.builtin "hex")), (dE P "id" 28 (Value.builtin "id")), (dE P "input" 29 (Value.builtin "input")), (dE P "isinstance" 30 (Value.builtin "isinstance")), (dE P "issubclass" 31 (Value.builtin "issubclass")), (dE P "iter" 32 (Value.builtin "iter")), (dE P "aiter" 33 (Value.builtin "aiter")), (dE P "len" 34 (Value.builtin "len")), (dE P "locals" 35 (Value.builtin "locals")), (dE P "max" 36 (Value.builtin "max")), (dE P "min" 37 (Value.builtin "min")), (dE P "next" 38 (Value.builtin "next")), (dE P "anext" 39 (Value.builtin "anext")), (dE P "oct" 40 (Value.builtin "oct")), (dE P "ord" 41 (Value.builtin "ord")), (dE P "pow" 42 (Value.builtin "pow")), (dE P "print" 43 (Value.builtin "print")), (dE P "repr" 44 (Value.builtin "repr")), (dE P "round" 45 (Value.builtin "round")), (dE P "setattr" 46 (Value.builtin "setattr")), (dE P "sorted" 47 (Value.builtin "sorted")), (dE P "sum" 48 (Value.builtin "sum")), (dE P "vars" 49 (Value.builtin "vars")), (dE P "None" 50 Value.none), (dE P "Ellipsis" 51 Value.ellipsis), (dE P "NotImplemented" 52 Value.notImplemented), (dE P "False" 53 (Value.bool Bool.false)), (dE P "True" 54 (Value.bool Bool.true)), (dE P "bool" 55 (Value.type "bool")), (dE P "memoryview" 56 (Value.type "memoryview")), (dE P "bytearray" 57 (Value.type "bytearray")), (dE P "bytes" 58 (Value.type "bytes")), (dE P "classmethod" 59 (Value.type "classmethod")), (dE P "complex" 60 (Value.type "complex")), (dE P "dict" 61 (Value.type "dict")), (dE P "enumerate" 62 (Value.type "enumerate")), (dE P "filter" 63 (Value.type "filter")), (dE P "float" 64 (Value.type "float")), (dE P "frozenset" 65 (Value.type "frozenset")), (dE P "property" 66 (Value.type "property")), (dE P "int" 67 (Value.type "int")), (dE P "list" 68 (Value.type "list")), (dE P "map" 69 (Value.type "map")), (dE P "object" 70 (Value.type "object")), (dE P "range" 71 (Value.type "range")), (dE P "reversed" 72 (Value.type "reversed")), (dE P "set" 73 (Value.type "set")), (dE P "slice" 74 (Value.type "slice")), (dE P "staticmethod" 75 (Value.type "staticmethod")), (dE P "str" 76 (Value.type "str")), (dE P "super" 77 (Value.type "super")), (dE P "tuple" 78 (Value.type "tuple")), (dE P "type" 79 (Value.type "type")), (dE P "zip" 80 (Value.type "zip")), (dE P "__debug__" 81 (Value.bool Bool.true)), (dE P "BaseException" 82 (Value.type "BaseException")), (dE P "BaseExceptionGroup" 83 (Value.type "BaseExceptionGroup")), (dE P "Exception" 84 (Value.type "Exception")), (dE P "GeneratorExit" 85 (Value.type "GeneratorExit")), (dE P "KeyboardInterrupt" 86 (Value.type "KeyboardInterrupt")), (dE P "SystemExit" 87 (Value.type "SystemExit")), (dE P "ArithmeticError" 88 (Value.type "ArithmeticError")), (dE P "AssertionError" 89 (Value.type "AssertionError")), (dE P "AttributeError" 90 (Value.type "AttributeError")), (dE P "BufferError" 91 (Value.type "BufferError")), (dE P "EOFError" 92 (Value.type "EOFError")), (dE P "ImportError" 93 (Value.type "ImportError")), (dE P "LookupError" 94 (Value.type "LookupError")), (dE P "MemoryError" 95 (Value.type "MemoryError")), (dE P "NameError" 96 (Value.type "NameError")), (dE P "OSError" 97 (Value.type "OSError")), (dE P "ReferenceError" 98 (Value.type "ReferenceError")), (dE P "RuntimeError" 99 (Value.type "RuntimeError")), (dE P "StopAsyncIteration" 100 (Value.type "StopAsyncIteration")), (dE P "StopIteration" 101 (Value.type "StopIteration")), (dE P "SyntaxError" 102 (Value.type "SyntaxError")), (dE P "SystemError" 103 (Value.type "SystemError")), (dE P "TypeError" 104 (Value.type "TypeError")), (dE P "ValueError" 105 (Value.type "ValueError")), (dE P "Warning" 106 (Value.type "Warning")), (dE P "FloatingPointError" 107 (Value.type "FloatingPointError")), (dE P "OverflowError" 108 (Value.type "OverflowError")), (dE P "ZeroDivisionError" 109 (Value.type "ZeroDivisionError")), (dE P "BytesWarning" 110 (Value.type "BytesWarning")), (dE P "DeprecationWarning" 111 (Value.type "DeprecationWarning")), (dE P "EncodingWarning" 112 (Value.type "EncodingWarning")), (dE P "FutureWarning" 113 (Value.type "FutureWarning")), (dE P "ImportWarning" 114 (Value.type "ImportWarning")), (dE P "PendingDeprecationWarning" 115 (Value.type "PendingDeprecationWarning")), (dE P "ResourceWarning" 116 (Value.type "ResourceWarning")), (dE P "RuntimeWarning" 117 (Value.type "RuntimeWarning")), (dE P "SyntaxWarning" 118 (Value.type "SyntaxWarning")), (dE P "UnicodeWarning" 119 (Value.type "UnicodeWarning")), (dE P "UserWarning" 120 (Value.type "UserWarning")), (dE P "BlockingIOError" 121 (Value.type "BlockingIOError")), (dE P "ChildProcessError" 122 (Value.type "ChildProcessError")), (dE P "ConnectionError" 123 (Value.type "ConnectionError")), (dE P "FileExistsError" 124 (Value.type "FileExistsError")), (dE P "FileNotFoundError" 125 (Value.type "FileNotFoundError")), (dE P "InterruptedError" 126 (Value.type "InterruptedError")), (dE P "IsADirectoryError" 127 (Value.type "IsADirectoryError")), (dE P "NotADirectoryError" 128 (Value.type "NotADirectoryError")), (dE P "PermissionError" 129 (Value.type "PermissionError")), (dE P "ProcessLookupError" 130 (Value.type "ProcessLookupError")), (dE P "TimeoutError" 131 (Value.type "TimeoutError")), (dE P "IndentationError" 132 (Value.type "IndentationError")), (dE P "_IncompleteInputError" 133 (Value.type "_IncompleteInputError")), (dE P "IndexError" 134 (Value.type "IndexError")), (dE P "KeyError" 135 (Value.type "KeyError")), (dE P "ModuleNotFoundError" 136 (Value.type "ModuleNotFoundError")), (dE P "NotImplementedError" 137 (Value.type "NotImplementedError")), (dE P "PythonFinalizationError" 138 (Value.type "PythonFinalizationError")), (dE P "RecursionError" 139 (Value.type "RecursionError")), (dE P "UnboundLocalError" 140 (Value.type "UnboundLocalError")), (dE P "UnicodeError" 141 (Value.type "UnicodeError")), (dE P "BrokenPipeError" 142 (Value.type "BrokenPipeError")), (dE P "ConnectionAbortedError" 143 (Value.type "ConnectionAbortedError")), (dE P "ConnectionRefusedError" 144 (Value.type "ConnectionRefusedError")), (dE P "ConnectionResetError" 145 (Value.type "ConnectionResetError")), (dE P "TabError" 146 (Value.type "TabError")), (dE P "UnicodeDecodeError" 147 (Value.type "UnicodeDecodeError")), (dE P "UnicodeEncodeError" 148 (Value.type "UnicodeEncodeError")), (dE P "UnicodeTranslateError" 149 (Value.type "UnicodeTranslateError")), (dE P "ExceptionGroup" 150 (Value.type "ExceptionGroup")), (dE P "EnvironmentError" 151 (Value.type "OSError")), (dE P "IOError" 152 (Value.type "OSError")), (dE P "open" 153 (Value.builtin "open")), (dE P "quit" 154 (Value.builtin "builtins.quit#opaque")), (dE P "exit" 155 (Value.builtin "builtins.exit#opaque")), (dE P "copyright" 156 (Value.builtin "builtins.copyright#opaque")), (dE P "credits" 157 (Value.builtin "builtins.credits#opaque")), (dE P "license" 158 (Value.builtin "builtins.license#opaque")), (dE P "help" 159 (Value.builtin "builtins.help#opaque"))]) 159) (List.toArray [])))
noncomputable def a43 : Params → Obj := (fun P => (Obj.mk (Value.type "dict") Option.none (Data.dict (List.toArray [(dE P "builtins" 162 (Value.ref 4)), (dE P "__main__" 163 (Value.ref 5))]) 2) (List.toArray [])))
noncomputable def a44 : Params → Obj := (fun P => (Obj.mk Value.none Option.none (Data.dict (List.toArray []) 0) (List.toArray [])))
noncomputable def a45 : Params → Obj := (fun P => (Obj.mk (Value.type "dict") Option.none (Data.dict (List.toArray [(dE P "__name__" 165 (Value.str (S "__main__") 164)), (dE P "__doc__" 166 Value.none), (dE P "__package__" 167 Value.none), (dE P "__loader__" 168 (Value.builtin "__main__.__loader__#opaque")), (dE P "__spec__" 169 Value.none), (dE P "__annotations__" 170 (Value.ref 6)), (dE P "__builtins__" 171 (Value.ref 4)), (dE P "__file__" 173 (Value.str (S "/claim/cut.py") 172)), (dE P "__cached__" 174 Value.none)]) 9) (List.toArray [])))
noncomputable def a46 : Params → Obj := (fun P => (Obj.mk (Value.type "module") (Option.some 0) Data.plain (List.toArray [])))
noncomputable def a47 : Params → Obj := (fun P => (Obj.mk (Value.type "module") (Option.some 3) Data.plain (List.toArray [])))
noncomputable def a48 : Params → Obj := (fun P => (Obj.mk (Value.type "dict") Option.none (Data.dict (List.toArray []) 0) (List.toArray [])))
noncomputable def a49 : Params → Obj := (fun P => (Obj.mk (Value.type "tuple") Option.none (Data.seq (List.toArray []) 0) (List.toArray [])))
noncomputable def a50 : Params → Obj := (fun P => (Obj.mk Value.none Option.none (Data.fields (List.toArray [])) (List.toArray [])))
noncomputable def a51 : Params → Obj := (fun P => (Obj.mk (Value.type "code") Option.none (Data.fields (List.toArray [(Value.str (S "<module>") 176), (Value.str (S "<module>") 177), (Value.str (S "/claim/cut.py") 178), (Value.int 1 0), (Value.int 0 0), (Value.int 0 0), (Value.int 0 0), (Value.int 0 0), (Value.ref 7), (Value.bool Bool.false), (Value.int 175 0), (Value.ref 8), Value.none, Value.none, Value.none, Value.none, (Value.int 179 0), (Value.int 1 0), (Value.str (S "/claim/cut.py") 180)])) (List.toArray [])))
noncomputable def a52 : Params → Obj := (fun P => (Obj.mk (Value.type "frame") Option.none Data.plain (List.toArray [(Option.some (Value.ref 9)), (Option.some (Value.ref 3)), (Option.some (Value.ref 3)), Option.none, (Option.some (Value.str (S "__main__") 164)), Option.none, (Option.some (Value.ref 0))])))
noncomputable def a53 : Params → Obj := (fun P => (Obj.mk (Value.type "tuple") Option.none (Data.seq (List.toArray []) 0) (List.toArray [])))
noncomputable def a54 : Params → Obj := (fun P => (Obj.mk Value.none Option.none (Data.fields (List.toArray [])) (List.toArray [])))
noncomputable def a55 : Params → Obj := (fun P => (Obj.mk (Value.type "code") Option.none (Data.fields (List.toArray [(Value.str (S "<module>") 182), (Value.str (S "<module>") 183), (Value.str (S "/claim/cut.py") 184), (Value.int 1 0), (Value.int 0 0), (Value.int 0 0), (Value.int 0 0), (Value.int 0 0), (Value.ref 11), (Value.bool Bool.false), (Value.int 181 0), (Value.ref 12), Value.none, Value.none, Value.none, Value.none, (Value.int 185 0), (Value.int 1 0), (Value.str (S "/claim/cut.py") 186)])) (List.toArray [])))
noncomputable def a56 : Params → Obj := (fun P => (Obj.mk (Value.type "frame") Option.none Data.plain (List.toArray [(Option.some (Value.ref 13)), (Option.some (Value.ref 3)), (Option.some (Value.ref 3)), Option.none, (Option.some (Value.str (S "__main__") 164)), Option.none, (Option.some (Value.ref 0))])))
noncomputable def a61 : Params → Obj := (fun P => (Obj.mk (Value.type "tuple") Option.none (Data.seq (List.toArray []) 0) (List.toArray [])))
noncomputable def a62 : Params → Obj := (fun P => (Obj.mk Value.none Option.none (Data.fields (List.toArray [])) (List.toArray [])))
noncomputable def a63 : Params → Obj := (fun P => (Obj.mk (Value.type "tuple") Option.none (Data.seq (List.toArray [(Value.str (S "k") 190)]) 0) (List.toArray [])))
noncomputable def a64 : Params → Obj := (fun P => (Obj.mk (Value.type "tuple") Option.none (Data.seq (List.toArray []) 0) (List.toArray [])))
noncomputable def a65 : Params → Obj := (fun P => (Obj.mk Value.none Option.none (Data.func (FuncData.mk (S "_wall") (S "_wall") (argOf (topAt 0)) (FuncBody.stmts (bodyOf (topAt 0))) (scopeOf (topAt 0)) 0 [] Value.none Value.none Value.none Value.none Option.none Value.none Value.none 0)) (List.toArray [])))
noncomputable def a66 : Params → Obj := (fun P => (Obj.mk (Value.type "code") Option.none (Data.fields (List.toArray [(Value.str (S "_wall") 187), (Value.str (S "_wall") 188), (Value.str (S "/claim/cut.py") 189), (Value.int 1 0), (Value.int 1 0), (Value.int 0 0), (Value.int 0 0), (Value.int 3 0), (Value.ref 15), (Value.bool Bool.true), (Value.int 181 0), (Value.ref 16), Value.none, (Value.ref 17), (Value.ref 18), (Value.ref 19), (Value.int 191 0), (Value.int 1 0), (Value.str (S "/claim/cut.py") 192)])) (List.toArray [])))
noncomputable def a67 : Params → Obj := (fun P => (Obj.mk (Value.type "function") Option.none (Data.func (FuncData.mk (S "_wall") (S "_wall") (argOf (topAt 0)) (FuncBody.stmts (bodyOf (topAt 0))) (scopeOf (topAt 0)) 3 [] Value.none Value.none Value.none (Value.str (S "__main__") 164) Option.none (Value.ref 20) Value.none 0)) (List.toArray [])))
noncomputable def a68 : Params → Obj := (fun P => (Obj.mk (Value.type "tuple") Option.none (Data.seq (List.toArray [(Value.str (S " \t") 196)]) 0) (List.toArray [])))
noncomputable def a69 : Params → Obj := (fun P => (Obj.mk (Value.type "tuple") Option.none (Data.seq (List.toArray []) 0) (List.toArray [])))
noncomputable def a70 : Params → Obj := (fun P => (Obj.mk Value.none Option.none (Data.fields (List.toArray [])) (List.toArray [])))
noncomputable def a71 : Params → Obj := (fun P => (Obj.mk (Value.type "tuple") Option.none (Data.seq (List.toArray [(Value.str (S "ch") 200), (Value.str (S "ws") 201)]) 0) (List.toArray [])))
noncomputable def a72 : Params → Obj := (fun P => (Obj.mk (Value.type "tuple") Option.none (Data.seq (List.toArray []) 0) (List.toArray [])))
noncomputable def a73 : Params → Obj := (fun P => (Obj.mk Value.none Option.none (Data.func (FuncData.mk (S "IS_CHARACTER_JUNK") (S "IS_CHARACTER_JUNK") (argOf (topAt 2)) (FuncBody.stmts (bodyOf (topAt 2))) (scopeOf (topAt 2)) 0 [] Value.none Value.none Value.none Value.none Option.none Value.none Value.none 0)) (List.toArray [])))
noncomputable def a74 : Params → Obj := (fun P => (Obj.mk (Value.type "code") Option.none (Data.fields (List.toArray [(Value.str (S "IS_CHARACTER_JUNK") 197), (Value.str (S "IS_CHARACTER_JUNK") 198), (Value.str (S "/claim/cut.py") 199), (Value.int 5 0), (Value.int 2 0), (Value.int 0 0), (Value.int 0 0), (Value.int 3 0), (Value.ref 23), (Value.bool Bool.true), (Value.int 181 0), (Value.ref 24), Value.none, (Value.ref 25), (Value.ref 26), (Value.ref 27), (Value.int 202 0), (Value.int 5 0), (Value.str (S "/claim/cut.py") 203)])) (List.toArray [])))
noncomputable def a75 : Params → Obj := (fun P => (Obj.mk (Value.type "function") Option.none (Data.func (FuncData.mk (S "IS_CHARACTER_JUNK") (S "IS_CHARACTER_JUNK") (argOf (topAt 2)) (FuncBody.stmts (bodyOf (topAt 2))) (scopeOf (topAt 2)) 3 [] (Value.ref 22) Value.none Value.none (Value.str (S "cpy313.difflib") 194) Option.none (Value.ref 28) Value.none 0)) (List.toArray [])))
noncomputable def a76 : Params → Obj := (fun P => (Obj.mk (Value.type "dict") Option.none (Data.dict (List.toArray [(dE P "__name__" 165 (Value.str (S "cpy313.difflib") 194)), (dE P "__doc__" 166 Value.none), (dE P "__package__" 167 Value.none), (dE P "__loader__" 168 (Value.builtin "__main__.__loader__#opaque")), (dE P "__spec__" 169 Value.none), (dE P "__annotations__" 170 (Value.ref 6)), (dE P "__builtins__" 171 (Value.ref 4)), (dE P "__file__" 173 (Value.str (S "/claim/cut.py") 172)), (dE P "__cached__" 174 Value.none), (dE P "_wall" 193 (Value.ref 21)), (dE P "IS_CHARACTER_JUNK" 204 (Value.ref 29)), (dE P "file_template_difflib" 206 (Value.str (strOf (topAt 3)) 205)), (dE P "styles_difflib" 208 (Value.str (strOf (topAt 4)) 207)), (dE P "table_template_difflib" 210 (Value.str (strOf (topAt 5)) 209)), (dE P "legend_difflib" 212 (Value.str (strOf (topAt 6)) 211)), (dE P "HtmlDiff" 351 (Value.ref 111))]) 16) (List.toArray [])))
noncomputable def a77 : Params → Obj := (fun P => (Obj.mk Value.none Option.none (Data.fields (List.toArray [(Value.int 1 0), (Value.int 0 0), (Value.ref 20), (Value.int 5 0), (Value.int 0 0), (Value.ref 28), (Value.int 11 0), (Value.int 0 0), (Value.ref 35)])) (List.toArray [])))
noncomputable def a78 : Params → Obj := (fun P => (Obj.mk (Value.type "tuple") Option.none (Data.seq (List.toArray [(Value.type "object")]) 0) (List.toArray [])))
noncomputable def a79 : Params → Obj := (fun P => (Obj.mk (Value.type "builtin_function_or_method") Option.none (Data.fields (List.toArray [(Value.builtin "type.__prepare__"), (Value.type "type")])) (List.toArray [])))
noncomputable def a80 : Params → Obj := (fun P => (Obj.mk (Value.type "dict") Option.none (Data.dict (List.toArray [(dE P "__module__" 220 (Value.str (S "cpy313.difflib") 194)), (dE P "__qualname__" 222 (Value.str (S "HtmlDiff") 221)), (dE P "__firstlineno__" 224 (Value.int 11 223)), (dE P "_file_template" 225 (Value.str (strOf (topAt 3)) 205)), (dE P "_styles" 226 (Value.str (strOf (topAt 4)) 207)), (dE P "_table_template" 227 (Value.str (strOf (topAt 5)) 209)), (dE P "_legend" 228 (Value.str (strOf (topAt 6)) 211)), (dE P "_default_prefix" 230 (Value.int 0 229)), (dE P "__init__" 242 (Value.ref 44)), (dE P "make_file" 261 (Value.ref 53)), (dE P "_tab_newline_replace" 267 (Value.ref 58)), (dE P "_split_line" 277 (Value.ref 65)), (dE P "_line_wrapper" 285 (Value.ref 72)), (dE P "_collect_lines" 293 (Value.ref 79)), (dE P "_format_line" 304 (Value.ref 86)), (dE P "_make_prefix" 311 (Value.ref 93)), (dE P "_convert_flags" 323 (Value.ref 100)), (dE P "make_table" 339 (Value.ref 108)), (dE P "__static_attributes__" 344 (Value.ref 109))]) 19) (List.toArray [])))
noncomputable def a81 : Params → Obj := (fun P => (Obj.mk (Value.type "tuple") Option.none (Data.seq (List.toArray []) 0) (List.toArray [])))
noncomputable def a82 : Params → Obj := (fun P => (Obj.mk Value.none Option.none (Data.fields (List.toArray [(Value.int 18 0), (Value.int 4 0), (Value.ref 43), (Value.int 24 0), (Value.int 4 0), (Value.ref 52), (Value.int 27 0), (Value.int 4 0), (Value.ref 57), (Value.int 38 0), (Value.int 4 0), (Value.ref 64), (Value.int 41 0), (Value.int 4 0), (Value.ref 71), (Value.int 44 0), (Value.int 4 0), (Value.ref 78), (Value.int 47 0), (Value.int 4 0), (Value.ref 85), (Value.int 50 0), (Value.int 4 0), (Value.ref 92), (Value.int 53 0), (Value.int 4 0), (Value.ref 99), (Value.int 56 0), (Value.int 4 0), (Value.ref 107)])) (List.toArray [])))
noncomputable def a83 : Params → Obj := (fun P => (Obj.mk (Value.type "code") Option.none (Data.fields (List.toArray [(Value.str (S "HtmlDiff") 215), (Value.str (S "HtmlDiff") 216), (Value.str (S "/claim/cut.py") 217), (Value.int 11 0), (Value.int 0 0), (Value.int 0 0), (Value.int 0 0), (Value.int 0 0), (Value.ref 33), (Value.bool Bool.false), (Value.int 181 0), (Value.ref 34), Value.none, Value.none, Value.none, Value.none, (Value.int 218 0), (Value.int 11 0), (Value.str (S "/claim/cut.py") 219)])) (List.toArray [])))
noncomputable def a84 : Params → Obj := (fun P => (Obj.mk (Value.type "frame") Option.none Data.plain (List.toArray [(Option.some (Value.ref 35)), (Option.some (Value.ref 3)), (Option.some (Value.ref 32)), Option.none, (Option.some (Value.str (S "cpy313.difflib") 194)), Option.none, (Option.some (Value.ref 0))])))
noncomputable def a85 : Params → Obj := (fun P => (Obj.mk (Value.type "tuple") Option.none (Data.seq (List.toArray [(Value.int 8 231), Value.none, Value.none, (Value.ref 29)]) 0) (List.toArray [])))
noncomputable def a86 : Params → Obj := (fun P => (Obj.mk (Value.type "tuple") Option.none (Data.seq (List.toArray []) 0) (List.toArray [])))
noncomputable def a87 : Params → Obj := (fun P => (Obj.mk Value.none Option.none (Data.fields (List.toArray [])) (List.toArray [])))
noncomputable def a88 : Params → Obj := (fun P => (Obj.mk (Value.type "tuple") Option.none (Data.seq (List.toArray [(Value.str (S "self") 235), (Value.str (S "tabsize") 236), (Value.str (S "wrapcolumn") 237), (Value.str (S "linejunk") 238), (Value.str (S "charjunk") 239)]) 0) (List.toArray [])))
noncomputable def a89 : Params → Obj := (fun P => (Obj.mk (Value.type "tuple") Option.none (Data.seq (List.toArray []) 0) (List.toArray [])))
noncomputable def a90 : Params → Obj := (fun P => (Obj.mk Value.none Option.none (Data.func (FuncData.mk (S "__init__") (S "HtmlDiff.__init__") (argOf (nth (bodyOf (topAt 7)) 5)) (FuncBody.stmts (bodyOf (nth (bodyOf (topAt 7)) 5))) (scopeOf (nth (bodyOf (topAt 7)) 5)) 0 [] Value.none Value.none Value.none Value.none Option.none Value.none Value.none 0)) (List.toArray [])))
noncomputable def a91 : Params → Obj := (fun P => (Obj.mk (Value.type "code") Option.none (Data.fields (List.toArray [(Value.str (S "__init__") 232), (Value.str (S "HtmlDiff.__init__") 233), (Value.str (S "/claim/cut.py") 234), (Value.int 18 0), (Value.int 5 0), (Value.int 0 0), (Value.int 0 0), (Value.int 3 0), (Value.ref 38), (Value.bool Bool.true), (Value.int 181 0), (Value.ref 39), Value.none, (Value.ref 40), (Value.ref 41), (Value.ref 42), (Value.int 240 0), (Value.int 18 0), (Value.str (S "/claim/cut.py") 241)])) (List.toArray [])))
noncomputable def a92 : Params → Obj := (fun P => (Obj.mk (Value.type "function") Option.none (Data.func (FuncData.mk (S "__init__") (S "HtmlDiff.__init__") (argOf (nth (bodyOf (topAt 7)) 5)) (FuncBody.stmts (bodyOf (nth (bodyOf (topAt 7)) 5))) (scopeOf (nth (bodyOf (topAt 7)) 5)) 3 [] (Value.ref 37) Value.none Value.none (Value.str (S "cpy313.difflib") 194) Option.none (Value.ref 43) Value.none 0)) (List.toArray [])))
noncomputable def a93 : Params → Obj := (fun P => (Obj.mk (Value.type "tuple") Option.none (Data.seq (List.toArray [(Value.str (S "") 243), (Value.str (S "") 244), (Value.bool Bool.false), (Value.int 5 245)]) 0) (List.toArray [])))
noncomputable def a94 : Params → Obj := (fun P => (Obj.mk (Value.type "dict") Option.none (Data.dict (List.toArray [(dE P "charset" 247 (Value.str (S "utf-8") 246))]) 1) (List.toArray [])))
noncomputable def a95 : Params → Obj := (fun P => (Obj.mk (Value.type "tuple") Option.none (Data.seq (List.toArray []) 0) (List.toArray [])))
noncomputable def a96 : Params → Obj := (fun P => (Obj.mk Value.none Option.none (Data.fields (List.toArray [])) (List.toArray [])))
noncomputable def a97 : Params → Obj := (fun P => (Obj.mk (Value.type "tuple") Option.none (Data.seq (List.toArray [(Value.str (S "self") 251), (Value.str (S "fromlines") 252), (Value.str (S "tolines") 253), (Value.str (S "fromdesc") 254), (Value.str (S "todesc") 255), (Value.str (S "context") 256), (Value.str (S "numlines") 257), (Value.str (S "charset") 258)]) 0) (List.toArray [])))
noncomputable def a98 : Params → Obj := (fun P => (Obj.mk (Value.type "tuple") Option.none (Data.seq (List.toArray []) 0) (List.toArray [])))
noncomputable def a99 : Params → Obj := (fun P => (Obj.mk Value.none Option.none (Data.func (FuncData.mk (S "make_file") (S "HtmlDiff.make_file") (argOf (nth (bodyOf (topAt 7)) 6)) (FuncBody.stmts (bodyOf (nth (bodyOf (topAt 7)) 6))) (scopeOf (nth (bodyOf (topAt 7)) 6)) 0 [] Value.none Value.none Value.none Value.none Option.none Value.none Value.none 0)) (List.toArray [])))
noncomputable def a100 : Params → Obj := (fun P => (Obj.mk (Value.type "code") Option.none (Data.fields (List.toArray [(Value.str (S "make_file") 248), (Value.str (S "HtmlDiff.make_file") 249), (Value.str (S "/claim/cut.py") 250), (Value.int 24 0), (Value.int 7 0), (Value.int 0 0), (Value.int 1 0), (Value.int 3 0), (Value.ref 47), (Value.bool Bool.true), (Value.int 181 0), (Value.ref 48), Value.none, (Value.ref 49), (Value.ref 50), (Value.ref 51), (Value.int 259 0), (Value.int 24 0), (Value.str (S "/claim/cut.py") 260)])) (List.toArray [])))
noncomputable def a101 : Params → Obj := (fun P => (Obj.mk (Value.type "function") Option.none (Data.func (FuncData.mk (S "make_file") (S "HtmlDiff.make_file") (argOf (nth (bodyOf (topAt 7)) 6)) (FuncBody.stmts (bodyOf (nth (bodyOf (topAt 7)) 6))) (scopeOf (nth (bodyOf (topAt 7)) 6)) 3 [] (Value.ref 45) (Value.ref 46) Value.none (Value.str (S "cpy313.difflib") 194) Option.none (Value.ref 52) Value.none 0)) (List.toArray [])))
noncomputable def a102 : Params → Obj := (fun P => (Obj.mk (Value.type "tuple") Option.none (Data.seq (List.toArray []) 0) (List.toArray [])))
noncomputable def a103 : Params → Obj := (fun P => (Obj.mk Value.none Option.none (Data.fields (List.toArray [])) (List.toArray [])))
noncomputable def a104 : Params → Obj := (fun P => (Obj.mk Value.none Option.none (Data.func (FuncData.mk (S "_tab_newline_replace") (S "HtmlDiff._tab_newline_replace") (argOf (nth (bodyOf (topAt 7)) 7)) (FuncBody.stmts (bodyOf (nth (bodyOf (topAt 7)) 7))) (scopeOf (nth (bodyOf (topAt 7)) 7)) 0 [] Value.none Value.none Value.none Value.none Option.none Value.none Value.none 0)) (List.toArray [])))
noncomputable def a105 : Params → Obj := (fun P => (Obj.mk (Value.type "code") Option.none (Data.fields (List.toArray [(Value.str (S "_tab_newline_replace") 262), (Value.str (S "HtmlDiff._tab_newline_replace") 263), (Value.str (S "/claim/cut.py") 264), (Value.int 27 0), (Value.int 3 0), (Value.int 0 0), (Value.int 0 0), (Value.int 3 0), (Value.ref 54), (Value.bool Bool.true), (Value.int 181 0), (Value.ref 55), Value.none, Value.none, Value.none, (Value.ref 56), (Value.int 265 0), (Value.int 27 0), (Value.str (S "/claim/cut.py") 266)])) (List.toArray [])))
noncomputable def a106 : Params → Obj := (fun P => (Obj.mk (Value.type "function") Option.none (Data.func (FuncData.mk (S "_tab_newline_replace") (S "HtmlDiff._tab_newline_replace") (argOf (nth (bodyOf (topAt 7)) 7)) (FuncBody.stmts (bodyOf (nth (bodyOf (topAt 7)) 7))) (scopeOf (nth (bodyOf (topAt 7)) 7)) 3 [] Value.none Value.none Value.none (Value.str (S "cpy313.difflib") 194) Option.none (Value.ref 57) Value.none 0)) (List.toArray [])))
noncomputable def a107 : Params → Obj := (fun P => (Obj.mk (Value.type "tuple") Option.none (Data.seq (List.toArray []) 0) (List.toArray [])))
noncomputable def a108 : Params → Obj := (fun P => (Obj.mk Value.none Option.none (Data.fields (List.toArray [])) (List.toArray [])))
noncomputable def a109 : Params → Obj := (fun P => (Obj.mk (Value.type "tuple") Option.none (Data.seq (List.toArray [(Value.str (S "self") 271), (Value.str (S "data_list") 272), (Value.str (S "line_num") 273), (Value.str (S "text") 274)]) 0) (List.toArray [])))
noncomputable def a110 : Params → Obj := (fun P => (Obj.mk (Value.type "tuple") Option.none (Data.seq (List.toArray []) 0) (List.toArray [])))
noncomputable def a111 : Params → Obj := (fun P => (Obj.mk Value.none Option.none (Data.func (FuncData.mk (S "_split_line") (S "HtmlDiff._split_line") (argOf (nth (bodyOf (topAt 7)) 8)) (FuncBody.stmts (bodyOf (nth (bodyOf (topAt 7)) 8))) (scopeOf (nth (bodyOf (topAt 7)) 8)) 0 [] Value.none Value.none Value.none Value.none Option.none Value.none Value.none 0)) (List.toArray [])))
noncomputable def a112 : Params → Obj := (fun P => (Obj.mk (Value.type "code") Option.none (Data.fields (List.toArray [(Value.str (S "_split_line") 268), (Value.str (S "HtmlDiff._split_line") 269), (Value.str (S "/claim/cut.py") 270), (Value.int 38 0), (Value.int 4 0), (Value.int 0 0), (Value.int 0 0), (Value.int 3 0), (Value.ref 59), (Value.bool Bool.true), (Value.int 181 0), (Value.ref 60), Value.none, (Value.ref 61), (Value.ref 62), (Value.ref 63), (Value.int 275 0), (Value.int 38 0), (Value.str (S "/claim/cut.py") 276)])) (List.toArray [])))
noncomputable def a113 : Params → Obj := (fun P => (Obj.mk (Value.type "function") Option.none (Data.func (FuncData.mk (S "_split_line") (S "HtmlDiff._split_line") (argOf (nth (bodyOf (topAt 7)) 8)) (FuncBody.stmts (bodyOf (nth (bodyOf (topAt 7)) 8))) (scopeOf (nth (bodyOf (topAt 7)) 8)) 3 [] Value.none Value.none Value.none (Value.str (S "cpy313.difflib") 194) Option.none (Value.ref 64) Value.none 0)) (List.toArray [])))
noncomputable def a114 : Params → Obj := (fun P => (Obj.mk (Value.type "tuple") Option.none (Data.seq (List.toArray []) 0) (List.toArray [])))
noncomputable def a115 : Params → Obj := (fun P => (Obj.mk Value.none Option.none (Data.fields (List.toArray [])) (List.toArray [])))
noncomputable def a116 : Params → Obj := (fun P => (Obj.mk (Value.type "tuple") Option.none (Data.seq (List.toArray [(Value.str (S "self") 281), (Value.str (S "diffs") 282)]) 0) (List.toArray [])))
noncomputable def a117 : Params → Obj := (fun P => (Obj.mk (Value.type "tuple") Option.none (Data.seq (List.toArray []) 0) (List.toArray [])))
noncomputable def a118 : Params → Obj := (fun P => (Obj.mk Value.none Option.none (Data.func (FuncData.mk (S "_line_wrapper") (S "HtmlDiff._line_wrapper") (argOf (nth (bodyOf (topAt 7)) 9)) (FuncBody.stmts (bodyOf (nth (bodyOf (topAt 7)) 9))) (scopeOf (nth (bodyOf (topAt 7)) 9)) 0 [] Value.none Value.none Value.none Value.none Option.none Value.none Value.none 0)) (List.toArray [])))
noncomputable def a119 : Params → Obj := (fun P => (Obj.mk (Value.type "code") Option.none (Data.fields (List.toArray [(Value.str (S "_line_wrapper") 278), (Value.str (S "HtmlDiff._line_wrapper") 279), (Value.str (S "/claim/cut.py") 280), (Value.int 41 0), (Value.int 2 0), (Value.int 0 0), (Value.int 0 0), (Value.int 3 0), (Value.ref 66), (Value.bool Bool.true), (Value.int 181 0), (Value.ref 67), Value.none, (Value.ref 68), (Value.ref 69), (Value.ref 70), (Value.int 283 0), (Value.int 41 0), (Value.str (S "/claim/cut.py") 284)])) (List.toArray [])))
noncomputable def a120 : Params → Obj := (fun P => (Obj.mk (Value.type "function") Option.none (Data.func (FuncData.mk (S "_line_wrapper") (S "HtmlDiff._line_wrapper") (argOf (nth (bodyOf (topAt 7)) 9)) (FuncBody.stmts (bodyOf (nth (bodyOf (topAt 7)) 9))) (scopeOf (nth (bodyOf (topAt 7)) 9)) 3 [] Value.none Value.none Value.none (Value.str (S "cpy313.difflib") 194) Option.none (Value.ref 71) Value.none 0)) (List.toArray [])))
noncomputable def a121 : Params → Obj := (fun P => (Obj.mk (Value.type "tuple") Option.none (Data.seq (List.toArray []) 0) (List.toArray [])))
noncomputable def a122 : Params → Obj := (fun P => (Obj.mk Value.none Option.none (Data.fields (List.toArray [])) (List.toArray [])))
noncomputable def a123 : Params → Obj := (fun P => (Obj.mk (Value.type "tuple") Option.none (Data.seq (List.toArray [(Value.str (S "self") 289), (Value.str (S "diffs") 290)]) 0) (List.toArray [])))
noncomputable def a124 : Params → Obj := (fun P => (Obj.mk (Value.type "tuple") Option.none (Data.seq (List.toArray []) 0) (List.toArray [])))
noncomputable def a125 : Params → Obj := (fun P => (Obj.mk Value.none Option.none (Data.func (FuncData.mk (S "_collect_lines") (S "HtmlDiff._collect_lines") (argOf (nth (bodyOf (topAt 7)) 10)) (FuncBody.stmts (bodyOf (nth (bodyOf (topAt 7)) 10))) (scopeOf (nth (bodyOf (topAt 7)) 9)) 0 [] Value.none Value.none Value.none Value.none Option.none Value.none Value.none 0)) (List.toArray [])))
noncomputable def a126 : Params → Obj := (fun P => (Obj.mk (Value.type "code") Option.none (Data.fields (List.toArray [(Value.str (S "_collect_lines") 286), (Value.str (S "HtmlDiff._collect_lines") 287), (Value.str (S "/claim/cut.py") 288), (Value.int 44 0), (Value.int 2 0), (Value.int 0 0), (Value.int 0 0), (Value.int 3 0), (Value.ref 73), (Value.bool Bool.true), (Value.int 181 0), (Value.ref 74), Value.none, (Value.ref 75), (Value.ref 76), (Value.ref 77), (Value.int 291 0), (Value.int 44 0), (Value.str (S "/claim/cut.py") 292)])) (List.toArray [])))
noncomputable def a127 : Params → Obj := (fun P => (Obj.mk (Value.type "function") Option.none (Data.func (FuncData.mk (S "_collect_lines") (S "HtmlDiff._collect_lines") (argOf (nth (bodyOf (topAt 7)) 10)) (FuncBody.stmts (bodyOf (nth (bodyOf (topAt 7)) 10))) (scopeOf (nth (bodyOf (topAt 7)) 9)) 3 [] Value.none Value.none Value.none (Value.str (S "cpy313.difflib") 194) Option.none (Value.ref 78) Value.none 0)) (List.toArray [])))
noncomputable def a128 : Params → Obj := (fun P => (Obj.mk (Value.type "tuple") Option.none (Data.seq (List.toArray []) 0) (List.toArray [])))
noncomputable def a129 : Params → Obj := (fun P => (Obj.mk Value.none Option.none (Data.fields (List.toArray [])) (List.toArray [])))
noncomputable def a130 : Params → Obj := (fun P => (Obj.mk (Value.type "tuple") Option.none (Data.seq (List.toArray [(Value.str (S "self") 297), (Value.str (S "side") 298), (Value.str (S "flag") 299), (Value.str (S "linenum") 300), (Value.str (S "text") 301)]) 0) (List.toArray [])))
noncomputable def a131 : Params → Obj := (fun P => (Obj.mk (Value.type "tuple") Option.none (Data.seq (List.toArray []) 0) (List.toArray [])))
noncomputable def a132 : Params → Obj := (fun P => (Obj.mk Value.none Option.none (Data.func (FuncData.mk (S "_format_line") (S "HtmlDiff._format_line") (argOf (nth (bodyOf (topAt 7)) 11)) (FuncBody.stmts (bodyOf (nth (bodyOf (topAt 7)) 11))) (scopeOf (nth (bodyOf (topAt 7)) 11)) 0 [] Value.none Value.none Value.none Value.none Option.none Value.none Value.none 0)) (List.toArray [])))
noncomputable def a133 : Params → Obj := (fun P => (Obj.mk (Value.type "code") Option.none (Data.fields (List.toArray [(Value.str (S "_format_line") 294), (Value.str (S "HtmlDiff._format_line") 295), (Value.str (S "/claim/cut.py") 296), (Value.int 47 0), (Value.int 5 0), (Value.int 0 0), (Value.int 0 0), (Value.int 3 0), (Value.ref 80), (Value.bool Bool.true), (Value.int 181 0), (Value.ref 81), Value.none, (Value.ref 82), (Value.ref 83), (Value.ref 84), (Value.int 302 0), (Value.int 47 0), (Value.str (S "/claim/cut.py") 303)])) (List.toArray [])))
noncomputable def a134 : Params → Obj := (fun P => (Obj.mk (Value.type "function") Option.none (Data.func (FuncData.mk (S "_format_line") (S "HtmlDiff._format_line") (argOf (nth (bodyOf (topAt 7)) 11)) (FuncBody.stmts (bodyOf (nth (bodyOf (topAt 7)) 11))) (scopeOf (nth (bodyOf (topAt 7)) 11)) 3 [] Value.none Value.none Value.none (Value.str (S "cpy313.difflib") 194) Option.none (Value.ref 85) Value.none 0)) (List.toArray [])))
noncomputable def a135 : Params → Obj := (fun P => (Obj.mk (Value.type "tuple") Option.none (Data.seq (List.toArray []) 0) (List.toArray [])))
noncomputable def a136 : Params → Obj := (fun P => (Obj.mk Value.none Option.none (Data.fields (List.toArray [])) (List.toArray [])))
noncomputable def a137 : Params → Obj := (fun P => (Obj.mk (Value.type "tuple") Option.none (Data.seq (List.toArray [(Value.str (S "self") 308)]) 0) (List.toArray [])))
noncomputable def a138 : Params → Obj := (fun P => (Obj.mk (Value.type "tuple") Option.none (Data.seq (List.toArray []) 0) (List.toArray [])))
noncomputable def a139 : Params → Obj := (fun P => (Obj.mk Value.none Option.none (Data.func (FuncData.mk (S "_make_prefix") (S "HtmlDiff._make_prefix") (argOf (nth (bodyOf (topAt 7)) 12)) (FuncBody.stmts (bodyOf (nth (bodyOf (topAt 7)) 12))) (scopeOf (nth (bodyOf (topAt 7)) 12)) 0 [] Value.none Value.none Value.none Value.none Option.none Value.none Value.none 0)) (List.toArray [])))
noncomputable def a140 : Params → Obj := (fun P => (Obj.mk (Value.type "code") Option.none (Data.fields (List.toArray [(Value.str (S "_make_prefix") 305), (Value.str (S "HtmlDiff._make_prefix") 306), (Value.str (S "/claim/cut.py") 307), (Value.int 50 0), (Value.int 1 0), (Value.int 0 0), (Value.int 0 0), (Value.int 3 0), (Value.ref 87), (Value.bool Bool.true), (Value.int 181 0), (Value.ref 88), Value.none, (Value.ref 89), (Value.ref 90), (Value.ref 91), (Value.int 309 0), (Value.int 50 0), (Value.str (S "/claim/cut.py") 310)])) (List.toArray [])))
noncomputable def a141 : Params → Obj := (fun P => (Obj.mk (Value.type "function") Option.none (Data.func (FuncData.mk (S "_make_prefix") (S "HtmlDiff._make_prefix") (argOf (nth (bodyOf (topAt 7)) 12)) (FuncBody.stmts (bodyOf (nth (bodyOf (topAt 7)) 12))) (scopeOf (nth (bodyOf (topAt 7)) 12)) 3 [] Value.none Value.none Value.none (Value.str (S "cpy313.difflib") 194) Option.none (Value.ref 92) Value.none 0)) (List.toArray [])))
noncomputable def a142 : Params → Obj := (fun P => (Obj.mk (Value.type "tuple") Option.none (Data.seq (List.toArray []) 0) (List.toArray [])))
noncomputable def a143 : Params → Obj := (fun P => (Obj.mk Value.none Option.none (Data.fields (List.toArray [])) (List.toArray [])))
noncomputable def a144 : Params → Obj := (fun P => (Obj.mk (Value.type "tuple") Option.none (Data.seq (List.toArray [(Value.str (S "self") 315), (Value.str (S "fromlist") 316), (Value.str (S "tolist") 317), (Value.str (S "flaglist") 318), (Value.str (S "context") 319), (Value.str (S "numlines") 320)]) 0) (List.toArray [])))
noncomputable def a145 : Params → Obj := (fun P => (Obj.mk (Value.type "tuple") Option.none (Data.seq (List.toArray []) 0) (List.toArray [])))
noncomputable def a146 : Params → Obj := (fun P => (Obj.mk Value.none Option.none (Data.func (FuncData.mk (S "_convert_flags") (S "HtmlDiff._convert_flags") (argOf (nth (bodyOf (topAt 7)) 13)) (FuncBody.stmts (bodyOf (nth (bodyOf (topAt 7)) 13))) (scopeOf (nth (bodyOf (topAt 7)) 13)) 0 [] Value.none Value.none Value.none Value.none Option.none Value.none Value.none 0)) (List.toArray [])))
noncomputable def a147 : Params → Obj := (fun P => (Obj.mk (Value.type "code") Option.none (Data.fields (List.toArray [(Value.str (S "_convert_flags") 312), (Value.str (S "HtmlDiff._convert_flags") 313), (Value.str (S "/claim/cut.py") 314), (Value.int 53 0), (Value.int 6 0), (Value.int 0 0), (Value.int 0 0), (Value.int 3 0), (Value.ref 94), (Value.bool Bool.true), (Value.int 181 0), (Value.ref 95), Value.none, (Value.ref 96), (Value.ref 97), (Value.ref 98), (Value.int 321 0), (Value.int 53 0), (Value.str (S "/claim/cut.py") 322)])) (List.toArray [])))
noncomputable def a148 : Params → Obj := (fun P => (Obj.mk (Value.type "function") Option.none (Data.func (FuncData.mk (S "_convert_flags") (S "HtmlDiff._convert_flags") (argOf (nth (bodyOf (topAt 7)) 13)) (FuncBody.stmts (bodyOf (nth (bodyOf (topAt 7)) 13))) (scopeOf (nth (bodyOf (topAt 7)) 13)) 3 [] Value.none Value.none Value.none (Value.str (S "cpy313.difflib") 194) Option.none (Value.ref 99) Value.none 0)) (List.toArray [])))
noncomputable def a149 : Params → Obj := (fun P => (Obj.mk (Value.type "tuple") Option.none (Data.seq (List.toArray [(Value.str (S "") 324), (Value.str (S "") 325), (Value.bool Bool.false), (Value.int 5 326)]) 0) (List.toArray [])))
noncomputable def a150 : Params → Obj := (fun P => (Obj.mk (Value.type "tuple") Option.none (Data.seq (List.toArray []) 0) (List.toArray [])))
noncomputable def a151 : Params → Obj := (fun P => (Obj.mk Value.none Option.none (Data.fields (List.toArray [])) (List.toArray [])))
noncomputable def a152 : Params → Obj := (fun P => (Obj.mk (Value.type "tuple") Option.none (Data.seq (List.toArray [(Value.str (S "self") 330), (Value.str (S "fromlines") 331), (Value.str (S "tolines") 332), (Value.str (S "fromdesc") 333), (Value.str (S "todesc") 334), (Value.str (S "context") 335), (Value.str (S "numlines") 336)]) 0) (List.toArray [])))
noncomputable def a153 : Params → Obj := (fun P => (Obj.mk (Value.type "tuple") Option.none (Data.seq (List.toArray []) 0) (List.toArray [])))
noncomputable def a154 : Params → Obj := (fun P => (Obj.mk Value.none Option.none (Data.func (FuncData.mk (S "make_table") (S "HtmlDiff.make_table") (argOf (nth (bodyOf (topAt 7)) 14)) (FuncBody.stmts (bodyOf (nth (bodyOf (topAt 7)) 14))) (scopeOf (nth (bodyOf (topAt 7)) 14)) 0 [] Value.none Value.none Value.none Value.none Option.none Value.none Value.none 0)) (List.toArray [])))
noncomputable def a155 : Params → Obj := (fun P => (Obj.mk (Value.type "code") Option.none (Data.fields (List.toArray [(Value.str (S "make_table") 327), (Value.str (S "HtmlDiff.make_table") 328), (Value.str (S "/claim/cut.py") 329), (Value.int 56 0), (Value.int 7 0), (Value.int 0 0), (Value.int 0 0), (Value.int 3 0), (Value.ref 102), (Value.bool Bool.true), (Value.int 181 0), (Value.ref 103), Value.none, (Value.ref 104), (Value.ref 105), (Value.ref 106), (Value.int 337 0), (Value.int 56 0), (Value.str (S "/claim/cut.py") 338)])) (List.toArray [])))
noncomputable def a156 : Params → Obj := (fun P => (Obj.mk (Value.type "function") Option.none (Data.func (FuncData.mk (S "make_table") (S "HtmlDiff.make_table") (argOf (nth (bodyOf (topAt 7)) 14)) (FuncBody.stmts (bodyOf (nth (bodyOf (topAt 7)) 14))) (scopeOf (nth (bodyOf (topAt 7)) 14)) 3 [] (Value.ref 101) Value.none Value.none (Value.str (S "cpy313.difflib") 194) Option.none (Value.ref 107) Value.none 0)) (List.toArray [])))
noncomputable def a157 : Params → Obj := (fun P => (Obj.mk (Value.type "tuple") Option.none (Data.seq (List.toArray [(Value.str (S "_charjunk") 340), (Value.str (S "_linejunk") 341), (Value.str (S "_tabsize") 342), (Value.str (S "_wrapcolumn") 343)]) 0) (List.toArray [])))
noncomputable def a158 : Params → Obj := (fun P => (Obj.mk (Value.type "dict") Option.none (Data.dict (List.toArray [(dE P "__module__" 220 (Value.str (S "cpy313.difflib") 194)), (dE P "__firstlineno__" 224 (Value.int 11 223)), (dE P "_file_template" 225 (Value.str (strOf (topAt 3)) 205)), (dE P "_styles" 226 (Value.str (strOf (topAt 4)) 207)), (dE P "_table_template" 227 (Value.str (strOf (topAt 5)) 209)), (dE P "_legend" 228 (Value.str (strOf (topAt 6)) 211)), (dE P "_default_prefix" 230 (Value.int 0 229)), (dE P "__init__" 242 (Value.ref 44)), (dE P "make_file" 261 (Value.ref 53)), (dE P "_tab_newline_replace" 267 (Value.ref 58)), (dE P "_split_line" 277 (Value.ref 65)), (dE P "_line_wrapper" 285 (Value.ref 72)), (dE P "_collect_lines" 293 (Value.ref 79)), (dE P "_format_line" 304 (Value.ref 86)), (dE P "_make_prefix" 311 (Value.ref 93)), (dE P "_convert_flags" 323 (Value.ref 100)), (dE P "make_table" 339 (Value.ref 108)), (dE P "__static_attributes__" 344 (Value.ref 109)), (dE P "__dict__" 346 (Value.ref 112)), (dE P "__weakref__" 348 (Value.ref 113)), (dE P "__doc__" 349 Value.none)]) 4) (List.toArray [])))
noncomputable def a159 : Params → Obj := (fun P => (Obj.mk (Value.type "type") Option.none (Data.cls (ClassData.mk (S "HtmlDiff") [(Value.type "object")] [(Value.ref 111), (Value.type "object")] 110 (S "HtmlDiff") Bool.true [] [] Bool.false Option.none Bool.false)) (List.toArray [(Option.some (Value.ref 30)), Option.none, (Option.some (Value.str (S "HtmlDiff") 213)), (Option.some (Value.str (S "HtmlDiff") 221)), (Option.some (Value.builtin "object.__new__")), (Option.some (Value.bool Bool.true))])))
noncomputable def a160 : Params → Obj := (fun P => (Obj.mk (Value.type "getset_descriptor") Option.none (Data.fields (List.toArray [(Value.str (S "__dict__") 345), (Value.ref 111), (Value.builtin "function.__dict__"), (Value.builtin "function.__dict__#set")])) (List.toArray [])))
noncomputable def a161 : Params → Obj := (fun P => (Obj.mk (Value.type "getset_descriptor") Option.none (Data.fields (List.toArray [(Value.str (S "__weakref__") 347), (Value.ref 111), (Value.builtin "ExceptionGroup.__weakref__"), Value.none])) (List.toArray [])))
noncomputable def a162 : Params → Obj := (fun P => (Obj.mk (Value.type "super") Option.none (Data.fields (List.toArray [(Value.ref 111), (Value.ref 111), (Value.ref 111)])) (List.toArray [])))
noncomputable def a163 : Params → Obj := (fun P => (Obj.mk (Value.type "builtin_function_or_method") Option.none (Data.fields (List.toArray [(Value.builtin "object.__init_subclass__"), (Value.ref 111)])) (List.toArray [])))
noncomputable def a232 : Params → Obj := (fun P => (Obj.mk (Value.type "dict") Option.none (Data.dict (List.toArray [(dE P "__name__" 165 (Value.str (S "cpy313.difflib") 194)), (dE P "__doc__" 166 Value.none), (dE P "__package__" 167 Value.none), (dE P "__loader__" 168 (Value.builtin "__main__.__loader__#opaque")), (dE P "__spec__" 169 Value.none), (dE P "__annotations__" 170 (Value.ref 6)), (dE P "__builtins__" 171 (Value.ref 4)), (dE P "__file__" 173 (Value.str (S "/claim/cut.py") 172)), (dE P "__cached__" 174 Value.none), (dE P "_wall" 193 (Value.ref 21)), (dE P "IS_CHARACTER_JUNK" 204 (Value.ref 29)), (dE P "file_template_difflib" 206 (Value.str (strOf (topAt 3)) 205)), (dE P "styles_difflib" 208 (Value.str (strOf (topAt 4)) 207)), (dE P "table_template_difflib" 210 (Value.str (strOf (topAt 5)) 209)), (dE P "legend_difflib" 212 (Value.str (strOf (topAt 6)) 211)), (dE P "HtmlDiff" 351 (Value.ref 111)), (dE P "_QUOPRI_MAP" 1379 (Value.ref 118))]) 17) (List.toArray [])))
noncomputable def a233 : Params → Obj := (fun P => (Obj.mk (Value.type "range") Option.none (Data.fields (List.toArray [(Value.int 0 353), (Value.int 256 352), (Value.int 1 354)])) (List.toArray [])))
noncomputable def a234 : Params → Obj := (fun P => (Obj.mk (Value.type "range_iterator") Option.none (Data.fields (List.toArray [(Value.int 256 0), (Value.int 0 0), (Value.int 1 0)])) (List.toArray [])))
noncomputable def a235 : Params → Obj := (fun P => (Obj.mk (Value.type "list") Option.none (Data.seq (List.toArray [(Value.str (S "=00") 358), (Value.str (S "=01") 362), (Value.str (S "=02") 366), (Value.str (S "=03") 370), (Value.str (S "=04") 374), (Value.str (S "=05") 378), (Value.str (S "=06") 382), (Value.str (S "=07") 386), (Value.str (S "=08") 390), (Value.str (S "=09") 394), (Value.str (S "=0A") 398), (Value.str (S "=0B") 402), (Value.str (S "=0C") 406), (Value.str (S "=0D") 410), (Value.str (S "=0E") 414), (Value.str (S "=0F") 418), (Value.str (S "=10") 422), (Value.str (S "=11") 426), (Value.str (S "=12") 430), (Value.str (S "=13") 434), (Value.str (S "=14") 438), (Value.str (S "=15") 442), (Value.str (S "=16") 446), (Value.str (S "=17") 450), (Value.str (S "=18") 454), (Value.str (S "=19") 458), (Value.str (S "=1A") 462), (Value.str (S "=1B") 466), (Value.str (S "=1C") 470), (Value.str (S "=1D") 474), (Value.str (S "=1E") 478), (Value.str (S "=1F") 482), (Value.str (S "=20") 486), (Value.str (S "=21") 490), (Value.str (S "=22") 494), (Value.str (S "=23") 498), (Value.str (S "=24") 502), (Value.str (S "=25") 506), (Value.str (S "=26") 510), (Value.str (S "=27") 514), (Value.str (S "=28") 518), (Value.str (S "=29") 522), (Value.str (S "=2A") 526), (Value.str (S "=2B") 530), (Value.str (S "=2C") 534), (Value.str (S "=2D") 538), (Value.str (S "=2E") 542), (Value.str (S "=2F") 546), (Value.str (S "=30") 550), (Value.str (S "=31") 554), (Value.str (S "=32") 558), (Value.str (S "=33") 562), (Value.str (S "=34") 566), (Value.str (S "=35") 570), (Value.str (S "=36") 574), (Value.str (S "=37") 578), (Value.str (S "=38") 582), (Value.str (S "=39") 586), (Value.str (S "=3A") 590), (Value.str (S "=3B") 594), (Value.str (S "=3C") 598), (Value.str (S "=3D") 602), (Value.str (S "=3E") 606), (Value.str (S "=3F") 610), (Value.str (S "=40") 614), (Value.str (S "=41") 618), (Value.str (S "=42") 622), (Value.str (S "=43") 626), (Value.str (S "=44") 630), (Value.str (S "=45") 634), (Value.str (S "=46") 638), (Value.str (S "=47") 642), (Value.str (S "=48") 646), (Value.str (S "=49") 650), (Value.str (S "=4A") 654), (Value.str (S "=4B") 658), (Value.str (S "=4C") 662), (Value.str (S "=4D") 666), (Value.str (S "=4E") 670), (Value.str (S "=4F") 674), (Value.str (S "=50") 678), (Value.str (S "=51") 682), (Value.str (S "=52") 686), (Value.str (S "=53") 690), (Value.str (S "=54") 694), (Value.str (S "=55") 698), (Value.str (S "=56") 702), (Value.str (S "=57") 706), (Value.str (S "=58") 710), (Value.str (S "=59") 714), (Value.str (S "=5A") 718), (Value.str (S "=5B") 722), (Value.str (S "=5C") 726), (Value.str (S "=5D") 730), (Value.str (S "=5E") 734), (Value.str (S "=5F") 738), (Value.str (S "=60") 742), (Value.str (S "=61") 746), (Value.str (S "=62") 750), (Value.str (S "=63") 754), (Value.str (S "=64") 758), (Value.str (S "=65") 762), (Value.str (S "=66") 766), (Value.str (S "=67") 770), (Value.str (S "=68") 774), (Value.str (S "=69") 778), (Value.str (S "=6A") 782), (Value.str (S "=6B") 786), (Value.str (S "=6C") 790), (Value.str (S "=6D") 794), (Value.str (S "=6E") 798), (Value.str (S "=6F") 802), (Value.str (S "=70") 806), (Value.str (S "=71") 810), (Value.str (S "=72") 814), (Value.str (S "=73") 818), (Value.str (S "=74") 822), (Value.str (S "=75") 826), (Value.str (S "=76") 830), (Value.str (S "=77") 834), (Value.str (S "=78") 838), (Value.str (S "=79") 842), (Value.str (S "=7A") 846), (Value.str (S "=7B") 850), (Value.str (S "=7C") 854), (Value.str (S "=7D") 858), (Value.str (S "=7E") 862), (Value.str (S "=7F") 866), (Value.str (S "=80") 870), (Value.str (S "=81") 874), (Value.str (S "=82") 878), (Value.str (S "=83") 882), (Value.str (S "=84") 886), (Value.str (S "=85") 890), (Value.str (S "=86") 894), (Value.str (S "=87") 898), (Value.str (S "=88") 902), (Value.str (S "=89") 906), (Value.str (S "=8A") 910), (Value.str (S "=8B") 914), (Value.str (S "=8C") 918), (Value.str (S "=8D") 922), (Value.str (S "=8E") 926), (Value.str (S "=8F") 930), (Value.str (S "=90") 934), (Value.str (S "=91") 938), (Value.str (S "=92") 942), (Value.str (S "=93") 946), (Value.str (S "=94") 950), (Value.str (S "=95") 954), (Value.str (S "=96") 958), (Value.str (S "=97") 962), (Value.str (S "=98") 966), (Value.str (S "=99") 970), (Value.str (S "=9A") 974), (Value.str (S "=9B") 978), (Value.str (S "=9C") 982), (Value.str (S "=9D") 986), (Value.str (S "=9E") 990), (Value.str (S "=9F") 994), (Value.str (S "=A0") 998), (Value.str (S "=A1") 1002), (Value.str (S "=A2") 1006), (Value.str (S "=A3") 1010), (Value.str (S "=A4") 1014), (Value.str (S "=A5") 1018), (Value.str (S "=A6") 1022), (Value.str (S "=A7") 1026), (Value.str (S "=A8") 1030), (Value.str (S "=A9") 1034), (Value.str (S "=AA") 1038), (Value.str (S "=AB") 1042), (Value.str (S "=AC") 1046), (Value.str (S "=AD") 1050), (Value.str (S "=AE") 1054), (Value.str (S "=AF") 1058), (Value.str (S "=B0") 1062), (Value.str (S "=B1") 1066), (Value.str (S "=B2") 1070), (Value.str (S "=B3") 1074), (Value.str (S "=B4") 1078), (Value.str (S "=B5") 1082), (Value.str (S "=B6") 1086), (Value.str (S "=B7") 1090), (Value.str (S "=B8") 1094), (Value.str (S "=B9") 1098), (Value.str (S "=BA") 1102), (Value.str (S "=BB") 1106), (Value.str (S "=BC") 1110), (Value.str (S "=BD") 1114), (Value.str (S "=BE") 1118), (Value.str (S "=BF") 1122), (Value.str (S "=C0") 1126), (Value.str (S "=C1") 1130), (Value.str (S "=C2") 1134), (Value.str (S "=C3") 1138), (Value.str (S "=C4") 1142), (Value.str (S "=C5") 1146), (Value.str (S "=C6") 1150), (Value.str (S "=C7") 1154), (Value.str (S "=C8") 1158), (Value.str (S "=C9") 1162), (Value.str (S "=CA") 1166), (Value.str (S "=CB") 1170), (Value.str (S "=CC") 1174), (Value.str (S "=CD") 1178), (Value.str (S "=CE") 1182), (Value.str (S "=CF") 1186), (Value.str (S "=D0") 1190), (Value.str (S "=D1") 1194), (Value.str (S "=D2") 1198), (Value.str (S "=D3") 1202), (Value.str (S "=D4") 1206), (Value.str (S "=D5") 1210), (Value.str (S "=D6") 1214), (Value.str (S "=D7") 1218), (Value.str (S "=D8") 1222), (Value.str (S "=D9") 1226), (Value.str (S "=DA") 1230), (Value.str (S "=DB") 1234), (Value.str (S "=DC") 1238), (Value.str (S "=DD") 1242), (Value.str (S "=DE") 1246), (Value.str (S "=DF") 1250), (Value.str (S "=E0") 1254), (Value.str (S "=E1") 1258), (Value.str (S "=E2") 1262), (Value.str (S "=E3") 1266), (Value.str (S "=E4") 1270), (Value.str (S "=E5") 1274), (Value.str (S "=E6") 1278), (Value.str (S "=E7") 1282), (Value.str (S "=E8") 1286), (Value.str (S "=E9") 1290), (Value.str (S "=EA") 1294), (Value.str (S "=EB") 1298), (Value.str (S "=EC") 1302), (Value.str (S "=ED") 1306), (Value.str (S "=EE") 1310), (Value.str (S "=EF") 1314), (Value.str (S "=F0") 1318), (Value.str (S "=F1") 1322), (Value.str (S "=F2") 1326), (Value.str (S "=F3") 1330), (Value.str (S "=F4") 1334), (Value.str (S "=F5") 1338), (Value.str (S "=F6") 1342), (Value.str (S "=F7") 1346), (Value.str (S "=F8") 1350), (Value.str (S "=F9") 1354), (Value.str (S "=FA") 1358), (Value.str (S "=FB") 1362), (Value.str (S "=FC") 1366), (Value.str (S "=FD") 1370), (Value.str (S "=FE") 1374), (Value.str (S "=FF") 1378)]) 256) (List.toArray [])))
noncomputable def a236 : Params → Obj := (fun P => (Obj.mk (Value.type "dict") Option.none (Data.dict (List.toArray []) 2) (List.toArray [])))
noncomputable def a237 : Params → Obj := (fun P => (Obj.mk (Value.type "tuple") Option.none (Data.seq (List.toArray []) 0) (List.toArray [])))
noncomputable def a238 : Params → Obj := (fun P => (Obj.mk (Value.type "StopIteration") Option.none (Data.fields (List.toArray [(Value.ref 120), Value.none, Value.none, Value.none, (Value.bool Bool.false), Value.none])) (List.toArray [])))
noncomputable def a532 : Params → Obj := (fun P => (Obj.mk (Value.type "slice") Option.none (Data.fields (List.toArray [Value.none, Value.none, Value.none])) (List.toArray [])))
noncomputable def a534 : Params → Obj := (fun P => (Obj.mk (Value.type "slice") Option.none (Data.fields (List.toArray [Value.none, Value.none, Value.none])) (List.toArray [])))
noncomputable def a535 : Params → Obj := (fun P => (Obj.mk (Value.type "list") Option.none (Data.seq (List.toArray [(Value.str (S "=00") 358), (Value.str (S "=01") 362), (Value.str (S "=02") 366), (Value.str (S "=03") 370), (Value.str (S "=04") 374), (Value.str (S "=05") 378), (Value.str (S "=06") 382), (Value.str (S "=07") 386), (Value.str (S "=08") 390), (Value.str (S "=09") 394), (Value.str (S "=0A") 398), (Value.str (S "=0B") 402), (Value.str (S "=0C") 406), (Value.str (S "=0D") 410), (Value.str (S "=0E") 414), (Value.str (S "=0F") 418), (Value.str (S "=10") 422), (Value.str (S "=11") 426), (Value.str (S "=12") 430), (Value.str (S "=13") 434), (Value.str (S "=14") 438), (Value.str (S "=15") 442), (Value.str (S "=16") 446), (Value.str (S "=17") 450), (Value.str (S "=18") 454), (Value.str (S "=19") 458), (Value.str (S "=1A") 462), (Value.str (S "=1B") 466), (Value.str (S "=1C") 470), (Value.str (S "=1D") 474), (Value.str (S "=1E") 478), (Value.str (S "=1F") 482), (Value.str (S "=20") 486), (Value.str (S "=21") 490), (Value.str (S "=22") 494), (Value.str (S "=23") 498), (Value.str (S "=24") 502), (Value.str (S "=25") 506), (Value.str (S "=26") 510), (Value.str (S "=27") 514), (Value.str (S "=28") 518), (Value.str (S "=29") 522), (Value.str (S "=2A") 526), (Value.str (S "=2B") 530), (Value.str (S "=2C") 534), (Value.str (S "=2D") 538), (Value.str (S "=2E") 542), (Value.str (S "=2F") 546), (Value.str (S "=30") 550), (Value.str (S "=31") 554), (Value.str (S "=32") 558), (Value.str (S "=33") 562), (Value.str (S "=34") 566), (Value.str (S "=35") 570), (Value.str (S "=36") 574), (Value.str (S "=37") 578), (Value.str (S "=38") 582), (Value.str (S "=39") 586), (Value.str (S "=3A") 590), (Value.str (S "=3B") 594), (Value.str (S "=3C") 598), (Value.str (S "=3D") 602), (Value.str (S "=3E") 606), (Value.str (S "=3F") 610), (Value.str (S "=40") 614), (Value.str (S "=41") 618), (Value.str (S "=42") 622), (Value.str (S "=43") 626), (Value.str (S "=44") 630), (Value.str (S "=45") 634), (Value.str (S "=46") 638), (Value.str (S "=47") 642), (Value.str (S "=48") 646), (Value.str (S "=49") 650), (Value.str (S "=4A") 654), (Value.str (S "=4B") 658), (Value.str (S "=4C") 662), (Value.str (S "=4D") 666), (Value.str (S "=4E") 670), (Value.str (S "=4F") 674), (Value.str (S "=50") 678), (Value.str (S "=51") 682), (Value.str (S "=52") 686), (Value.str (S "=53") 690), (Value.str (S "=54") 694), (Value.str (S "=55") 698), (Value.str (S "=56") 702), (Value.str (S "=57") 706), (Value.str (S "=58") 710), (Value.str (S "=59") 714), (Value.str (S "=5A") 718), (Value.str (S "=5B") 722), (Value.str (S "=5C") 726), (Value.str (S "=5D") 730), (Value.str (S "=5E") 734), (Value.str (S "=5F") 738), (Value.str (S "=60") 742), (Value.str (S "=61") 746), (Value.str (S "=62") 750), (Value.str (S "=63") 754), (Value.str (S "=64") 758), (Value.str (S "=65") 762), (Value.str (S "=66") 766), (Value.str (S "=67") 770), (Value.str (S "=68") 774), (Value.str (S "=69") 778), (Value.str (S "=6A") 782), (Value.str (S "=6B") 786), (Value.str (S "=6C") 790), (Value.str (S "=6D") 794), (Value.str (S "=6E") 798), (Value.str (S "=6F") 802), (Value.str (S "=70") 806), (Value.str (S "=71") 810), (Value.str (S "=72") 814), (Value.str (S "=73") 818), (Value.str (S "=74") 822), (Value.str (S "=75") 826), (Value.str (S "=76") 830), (Value.str (S "=77") 834), (Value.str (S "=78") 838), (Value.str (S "=79") 842), (Value.str (S "=7A") 846), (Value.str (S "=7B") 850), (Value.str (S "=7C") 854), (Value.str (S "=7D") 858), (Value.str (S "=7E") 862), (Value.str (S "=7F") 866), (Value.str (S "=80") 870), (Value.str (S "=81") 874), (Value.str (S "=82") 878), (Value.str (S "=83") 882), (Value.str (S "=84") 886), (Value.str (S "=85") 890), (Value.str (S "=86") 894), (Value.str (S "=87") 898), (Value.str (S "=88") 902), (Value.str (S "=89") 906), (Value.str (S "=8A") 910), (Value.str (S "=8B") 914), (Value.str (S "=8C") 918), (Value.str (S "=8D") 922), (Value.str (S "=8E") 926), (Value.str (S "=8F") 930), (Value.str (S "=90") 934), (Value.str (S "=91") 938), (Value.str (S "=92") 942), (Value.str (S "=93") 946), (Value.str (S "=94") 950), (Value.str (S "=95") 954), (Value.str (S "=96") 958), (Value.str (S "=97") 962), (Value.str (S "=98") 966), (Value.str (S "=99") 970), (Value.str (S "=9A") 974), (Value.str (S "=9B") 978), (Value.str (S "=9C") 982), (Value.str (S "=9D") 986), (Value.str (S "=9E") 990), (Value.str (S "=9F") 994), (Value.str (S "=A0") 998), (Value.str (S "=A1") 1002), (Value.str (S "=A2") 1006), (Value.str (S "=A3") 1010), (Value.str (S "=A4") 1014), (Value.str (S "=A5") 1018), (Value.str (S "=A6") 1022), (Value.str (S "=A7") 1026), (Value.str (S "=A8") 1030), (Value.str (S "=A9") 1034), (Value.str (S "=AA") 1038), (Value.str (S "=AB") 1042), (Value.str (S "=AC") 1046), (Value.str (S "=AD") 1050), (Value.str (S "=AE") 1054), (Value.str (S "=AF") 1058), (Value.str (S "=B0") 1062), (Value.str (S "=B1") 1066), (Value.str (S "=B2") 1070), (Value.str (S "=B3") 1074), (Value.str (S "=B4") 1078), (Value.str (S "=B5") 1082), (Value.str (S "=B6") 1086), (Value.str (S "=B7") 1090), (Value.str (S "=B8") 1094), (Value.str (S "=B9") 1098), (Value.str (S "=BA") 1102), (Value.str (S "=BB") 1106), (Value.str (S "=BC") 1110), (Value.str (S "=BD") 1114), (Value.str (S "=BE") 1118), (Value.str (S "=BF") 1122), (Value.str (S "=C0") 1126), (Value.str (S "=C1") 1130), (Value.str (S "=C2") 1134), (Value.str (S "=C3") 1138), (Value.str (S "=C4") 1142), (Value.str (S "=C5") 1146), (Value.str (S "=C6") 1150), (Value.str (S "=C7") 1154), (Value.str (S "=C8") 1158), (Value.str (S "=C9") 1162), (Value.str (S "=CA") 1166), (Value.str (S "=CB") 1170), (Value.str (S "=CC") 1174), (Value.str (S "=CD") 1178), (Value.str (S "=CE") 1182), (Value.str (S "=CF") 1186), (Value.str (S "=D0") 1190), (Value.str (S "=D1") 1194), (Value.str (S "=D2") 1198), (Value.str (S "=D3") 1202), (Value.str (S "=D4") 1206), (Value.str (S "=D5") 1210), (Value.str (S "=D6") 1214), (Value.str (S "=D7") 1218), (Value.str (S "=D8") 1222), (Value.str (S "=D9") 1226), (Value.str (S "=DA") 1230), (Value.str (S "=DB") 1234), (Value.str (S "=DC") 1238), (Value.str (S "=DD") 1242), (Value.str (S "=DE") 1246), (Value.str (S "=DF") 1250), (Value.str (S "=E0") 1254), (Value.str (S "=E1") 1258), (Value.str (S "=E2") 1262), (Value.str (S "=E3") 1266), (Value.str (S "=E4") 1270), (Value.str (S "=E5") 1274), (Value.str (S "=E6") 1278), (Value.str (S "=E7") 1282), (Value.str (S "=E8") 1286), (Value.str (S "=E9") 1290), (Value.str (S "=EA") 1294), (Value.str (S "=EB") 1298), (Value.str (S "=EC") 1302), (Value.str (S "=ED") 1306), (Value.str (S "=EE") 1310), (Value.str (S "=EF") 1314), (Value.str (S "=F0") 1318), (Value.str (S "=F1") 1322), (Value.str (S "=F2") 1326), (Value.str (S "=F3") 1330), (Value.str (S "=F4") 1334), (Value.str (S "=F5") 1338), (Value.str (S "=F6") 1342), (Value.str (S "=F7") 1346), (Value.str (S "=F8") 1350), (Value.str (S "=F9") 1354), (Value.str (S "=FA") 1358), (Value.str (S "=FB") 1362), (Value.str (S "=FC") 1366), (Value.str (S "=FD") 1370), (Value.str (S "=FE") 1374), (Value.str (S "=FF") 1378)]) 0) (List.toArray [])))
noncomputable def a536 : Params → Obj := (fun P => (Obj.mk (Value.type "dict") Option.none (Data.dict (List.toArray [(dE P "__name__" 165 (Value.str (strOf (topAt 15)) 1390)), (dE P "__doc__" 166 Value.none), (dE P "__package__" 167 Value.none), (dE P "__loader__" 168 (Value.builtin "__main__.__loader__#opaque")), (dE P "__spec__" 169 Value.none), (dE P "__annotations__" 170 (Value.ref 6)), (dE P "__builtins__" 171 (Value.ref 4)), (dE P "__file__" 173 (Value.str (S "/claim/cut.py") 172)), (dE P "__cached__" 174 Value.none), (dE P "_wall" 193 (Value.ref 21)), (dE P "IS_CHARACTER_JUNK" 204 (Value.ref 29)), (dE P "file_template_difflib" 206 (Value.str (strOf (topAt 3)) 205)), (dE P "styles_difflib" 208 (Value.str (strOf (topAt 4)) 207)), (dE P "table_template_difflib" 210 (Value.str (strOf (topAt 5)) 209)), (dE P "legend_difflib" 212 (Value.str (strOf (topAt 6)) 211)), (dE P "HtmlDiff" 351 (Value.ref 111)), (dE P "_QUOPRI_MAP" 1379 (Value.ref 118)), (dE P "_QUOPRI_HEADER_MAP" 1380 (Value.ref 123)), (dE P "_QUOPRI_BODY_MAP" 1381 (Value.ref 125)), (dE P "ascii_lowercase" 1383 (Value.str (strOf (topAt 11)) 1382)), (dE P "ascii_uppercase" 1385 (Value.str (strOf (topAt 12)) 1384)), (dE P "ascii_letters" 1387 (Value.str (S "abcdefghijklmnopqrstuvwxyzABCDEFGHIJKLMNOPQRSTUVWXYZ") 1386)), (dE P "digits" 1389 (Value.str (S "0123456789") 1388)), (dE P "c" 1400 (Value.int 57 1597))]) 24) (List.toArray [])))
noncomputable def a537 : Params → Obj := (fun P => (Obj.mk (Value.type "list") Option.none (Data.seq (List.toArray [(Value.str (S "=00") 358), (Value.str (S "=01") 362), (Value.str (S "=02") 366), (Value.str (S "=03") 370), (Value.str (S "=04") 374), (Value.str (S "=05") 378), (Value.str (S "=06") 382), (Value.str (S "=07") 386), (Value.str (S "=08") 390), (Value.str (S "=09") 394), (Value.str (S "=0A") 398), (Value.str (S "=0B") 402), (Value.str (S "=0C") 406), (Value.str (S "=0D") 410), (Value.str (S "=0E") 414), (Value.str (S "=0F") 418), (Value.str (S "=10") 422), (Value.str (S "=11") 426), (Value.str (S "=12") 430), (Value.str (S "=13") 434), (Value.str (S "=14") 438), (Value.str (S "=15") 442), (Value.str (S "=16") 446), (Value.str (S "=17") 450), (Value.str (S "=18") 454), (Value.str (S "=19") 458), (Value.str (S "=1A") 462), (Value.str (S "=1B") 466), (Value.str (S "=1C") 470), (Value.str (S "=1D") 474), (Value.str (S "=1E") 478), (Value.str (S "=1F") 482), (Value.str (S "=20") 486), (Value.str (S "!") 1404), (Value.str (S "=22") 494), (Value.str (S "=23") 498), (Value.str (S "=24") 502), (Value.str (S "=25") 506), (Value.str (S "=26") 510), (Value.str (S "=27") 514), (Value.str (S "=28") 518), (Value.str (S "=29") 522), (Value.str (S "*") 1407), (Value.str (S "+") 1410), (Value.str (S "=2C") 534), (Value.str (S "-") 1401), (Value.str (S "=2E") 542), (Value.str (S "/") 1413), (Value.str (S "0") 1572), (Value.str (S "1") 1575), (Value.str (S "2") 1578), (Value.str (S "3") 1581), (Value.str (S "4") 1584), (Value.str (S "5") 1587), (Value.str (S "6") 1590), (Value.str (S "7") 1593), (Value.str (S "8") 1596), (Value.str (S "9") 1599), (Value.str (S "=3A") 590), (Value.str (S "=3B") 594), (Value.str (S "=3C") 598), (Value.str (S "=3D") 602), (Value.str (S "=3E") 606), (Value.str (S "=3F") 610), (Value.str (S "=40") 614), (Value.str (S "A") 1494), (Value.str (S "B") 1497), (Value.str (S "C") 1500), (Value.str (S "D") 1503), (Value.str (S "E") 1506), (Value.str (S "F") 1509), (Value.str (S "G") 1512), (Value.str (S "H") 1515), (Value.str (S "I") 1518), (Value.str (S "J") 1521), (Value.str (S "K") 1524), (Value.str (S "L") 1527), (Value.str (S "M") 1530), (Value.str (S "N") 1533), (Value.str (S "O") 1536), (Value.str (S "P") 1539), (Value.str (S "Q") 1542), (Value.str (S "R") 1545), (Value.str (S "S") 1548), (Value.str (S "T") 1551), (Value.str (S "U") 1554), (Value.str (S "V") 1557), (Value.str (S "W") 1560), (Value.str (S "X") 1563), (Value.str (S "Y") 1566), (Value.str (S "Z") 1569), (Value.str (S "=5B") 722), (Value.str (S "=5C") 726), (Value.str (S "=5D") 730), (Value.str (S "=5E") 734), (Value.str (S "=5F") 738), (Value.str (S "=60") 742), (Value.str (S "a") 1416), (Value.str (S "b") 1419), (Value.str (S "c") 1422), (Value.str (S "d") 1425), (Value.str (S "e") 1428), (Value.str (S "f") 1431), (Value.str (S "g") 1434), (Value.str (S "h") 1437), (Value.str (S "i") 1440), (Value.str (S "j") 1443), (Value.str (S "k") 1446), (Value.str (S "l") 1449), (Value.str (S "m") 1452), (Value.str (S "n") 1455), (Value.str (S "o") 1458), (Value.str (S "p") 1461), (Value.str (S "q") 1464), (Value.str (S "r") 1467), (Value.str (S "s") 1470), (Value.str (S "t") 1473), (Value.str (S "u") 1476), (Value.str (S "v") 1479), (Value.str (S "w") 1482), (Value.str (S "x") 1485), (Value.str (S "y") 1488), (Value.str (S "z") 1491), (Value.str (S "=7B") 850), (Value.str (S "=7C") 854), (Value.str (S "=7D") 858), (Value.str (S "=7E") 862), (Value.str (S "=7F") 866), (Value.str (S "=80") 870), (Value.str (S "=81") 874), (Value.str (S "=82") 878), (Value.str (S "=83") 882), (Value.str (S "=84") 886), (Value.str (S "=85") 890), (Value.str (S "=86") 894), (Value.str (S "=87") 898), (Value.str (S "=88") 902), (Value.str (S "=89") 906), (Value.str (S "=8A") 910), (Value.str (S "=8B") 914), (Value.str (S "=8C") 918), (Value.str (S "=8D") 922), (Value.str (S "=8E") 926), (Value.str (S "=8F") 930), (Value.str (S "=90") 934), (Value.str (S "=91") 938), (Value.str (S "=92") 942), (Value.str (S "=93") 946), (Value.str (S "=94") 950), (Value.str (S "=95") 954), (Value.str (S "=96") 958), (Value.str (S "=97") 962), (Value.str (S "=98") 966), (Value.str (S "=99") 970), (Value.str (S "=9A") 974), (Value.str (S "=9B") 978), (Value.str (S "=9C") 982), (Value.str (S "=9D") 986), (Value.str (S "=9E") 990), (Value.str (S "=9F") 994), (Value.str (S "=A0") 998), (Value.str (S "=A1") 1002), (Value.str (S "=A2") 1006), (Value.str (S "=A3") 1010), (Value.str (S "=A4") 1014), (Value.str (S "=A5") 1018), (Value.str (S "=A6") 1022), (Value.str (S "=A7") 1026), (Value.str (S "=A8") 1030), (Value.str (S "=A9") 1034), (Value.str (S "=AA") 1038), (Value.str (S "=AB") 1042), (Value.str (S "=AC") 1046), (Value.str (S "=AD") 1050), (Value.str (S "=AE") 1054), (Value.str (S "=AF") 1058), (Value.str (S "=B0") 1062), (Value.str (S "=B1") 1066), (Value.str (S "=B2") 1070), (Value.str (S "=B3") 1074), (Value.str (S "=B4") 1078), (Value.str (S "=B5") 1082), (Value.str (S "=B6") 1086), (Value.str (S "=B7") 1090), (Value.str (S "=B8") 1094), (Value.str (S "=B9") 1098), (Value.str (S "=BA") 1102), (Value.str (S "=BB") 1106), (Value.str (S "=BC") 1110), (Value.str (S "=BD") 1114), (Value.str (S "=BE") 1118), (Value.str (S "=BF") 1122), (Value.str (S "=C0") 1126), (Value.str (S "=C1") 1130), (Value.str (S "=C2") 1134), (Value.str (S "=C3") 1138), (Value.str (S "=C4") 1142), (Value.str (S "=C5") 1146), (Value.str (S "=C6") 1150), (Value.str (S "=C7") 1154), (Value.str (S "=C8") 1158), (Value.str (S "=C9") 1162), (Value.str (S "=CA") 1166), (Value.str (S "=CB") 1170), (Value.str (S "=CC") 1174), (Value.str (S "=CD") 1178), (Value.str (S "=CE") 1182), (Value.str (S "=CF") 1186), (Value.str (S "=D0") 1190), (Value.str (S "=D1") 1194), (Value.str (S "=D2") 1198), (Value.str (S "=D3") 1202), (Value.str (S "=D4") 1206), (Value.str (S "=D5") 1210), (Value.str (S "=D6") 1214), (Value.str (S "=D7") 1218), (Value.str (S "=D8") 1222), (Value.str (S "=D9") 1226), (Value.str (S "=DA") 1230), (Value.str (S "=DB") 1234), (Value.str (S "=DC") 1238), (Value.str (S "=DD") 1242), (Value.str (S "=DE") 1246), (Value.str (S "=DF") 1250), (Value.str (S "=E0") 1254), (Value.str (S "=E1") 1258), (Value.str (S "=E2") 1262), (Value.str (S "=E3") 1266), (Value.str (S "=E4") 1270), (Value.str (S "=E5") 1274), (Value.str (S "=E6") 1278), (Value.str (S "=E7") 1282), (Value.str (S "=E8") 1286), (Value.str (S "=E9") 1290), (Value.str (S "=EA") 1294), (Value.str (S "=EB") 1298), (Value.str (S "=EC") 1302), (Value.str (S "=ED") 1306), (Value.str (S "=EE") 1310), (Value.str (S "=EF") 1314), (Value.str (S "=F0") 1318), (Value.str (S "=F1") 1322), (Value.str (S "=F2") 1326), (Value.str (S "=F3") 1330), (Value.str (S "=F4") 1334), (Value.str (S "=F5") 1338), (Value.str (S "=F6") 1342), (Value.str (S "=F7") 1346), (Value.str (S "=F8") 1350), (Value.str (S "=F9") 1354), (Value.str (S "=FA") 1358), (Value.str (S "=FB") 1362), (Value.str (S "=FC") 1366), (Value.str (S "=FD") 1370), (Value.str (S "=FE") 1374), (Value.str (S "=FF") 1378)]) 0) (List.toArray [])))
noncomputable def a538 : Params → Obj := (fun P => (Obj.mk (Value.type "bytes_iterator") Option.none (Data.fields (List.toArray [Value.none, (Value.int 67 0)])) (List.toArray [])))
noncomputable def a539 : Params → Obj := (fun P => (Obj.mk (Value.type "tuple") Option.none (Data.seq (List.toArray []) 0) (List.toArray [])))
noncomputable def a540 : Params → Obj := (fun P => (Obj.mk (Value.type "StopIteration") Option.none (Data.fields (List.toArray [(Value.ref 127), Value.none, Value.none, Value.none, (Value.bool Bool.false), Value.none])) (List.toArray [])))
noncomputable def a549 : Params → Obj := (fun P => (Obj.mk (Value.type "list") Option.none (Data.seq (List.toArray [(Value.str (S "=00") 358), (Value.str (S "=01") 362), (Value.str (S "=02") 366), (Value.str (S "=03") 370), (Value.str (S "=04") 374), (Value.str (S "=05") 378), (Value.str (S "=06") 382), (Value.str (S "=07") 386), (Value.str (S "=08") 390), (Value.str (S "=09") 394), (Value.str (S "=0A") 398), (Value.str (S "=0B") 402), (Value.str (S "=0C") 406), (Value.str (S "=0D") 410), (Value.str (S "=0E") 414), (Value.str (S "=0F") 418), (Value.str (S "=10") 422), (Value.str (S "=11") 426), (Value.str (S "=12") 430), (Value.str (S "=13") 434), (Value.str (S "=14") 438), (Value.str (S "=15") 442), (Value.str (S "=16") 446), (Value.str (S "=17") 450), (Value.str (S "=18") 454), (Value.str (S "=19") 458), (Value.str (S "=1A") 462), (Value.str (S "=1B") 466), (Value.str (S "=1C") 470), (Value.str (S "=1D") 474), (Value.str (S "=1E") 478), (Value.str (S "=1F") 482), (Value.str (S "_") 1600), (Value.str (S "!") 1404), (Value.str (S "=22") 494), (Value.str (S "=23") 498), (Value.str (S "=24") 502), (Value.str (S "=25") 506), (Value.str (S "=26") 510), (Value.str (S "=27") 514), (Value.str (S "=28") 518), (Value.str (S "=29") 522), (Value.str (S "*") 1407), (Value.str (S "+") 1410), (Value.str (S "=2C") 534), (Value.str (S "-") 1401), (Value.str (S "=2E") 542), (Value.str (S "/") 1413), (Value.str (S "0") 1572), (Value.str (S "1") 1575), (Value.str (S "2") 1578), (Value.str (S "3") 1581), (Value.str (S "4") 1584), (Value.str (S "5") 1587), (Value.str (S "6") 1590), (Value.str (S "7") 1593), (Value.str (S "8") 1596), (Value.str (S "9") 1599), (Value.str (S "=3A") 590), (Value.str (S "=3B") 594), (Value.str (S "=3C") 598), (Value.str (S "=3D") 602), (Value.str (S "=3E") 606), (Value.str (S "=3F") 610), (Value.str (S "=40") 614), (Value.str (S "A") 1494), (Value.str (S "B") 1497), (Value.str (S "C") 1500), (Value.str (S "D") 1503), (Value.str (S "E") 1506), (Value.str (S "F") 1509), (Value.str (S "G") 1512), (Value.str (S "H") 1515), (Value.str (S "I") 1518), (Value.str (S "J") 1521), (Value.str (S "K") 1524), (Value.str (S "L") 1527), (Value.str (S "M") 1530), (Value.str (S "N") 1533), (Value.str (S "O") 1536), (Value.str (S "P") 1539), (Value.str (S "Q") 1542), (Value.str (S "R") 1545), (Value.str (S "S") 1548), (Value.str (S "T") 1551), (Value.str (S "U") 1554), (Value.str (S "V") 1557), (Value.str (S "W") 1560), (Value.str (S "X") 1563), (Value.str (S "Y") 1566), (Value.str (S "Z") 1569), (Value.str (S "=5B") 722), (Value.str (S "=5C") 726), (Value.str (S "=5D") 730), (Value.str (S "=5E") 734), (Value.str (S "=5F") 738), (Value.str (S "=60") 742), (Value.str (S "a") 1416), (Value.str (S "b") 1419), (Value.str (S "c") 1422), (Value.str (S "d") 1425), (Value.str (S "e") 1428), (Value.str (S "f") 1431), (Value.str (S "g") 1434), (Value.str (S "h") 1437), (Value.str (S "i") 1440), (Value.str (S "j") 1443), (Value.str (S "k") 1446), (Value.str (S "l") 1449), (Value.str (S "m") 1452), (Value.str (S "n") 1455), (Value.str (S "o") 1458), (Value.str (S "p") 1461), (Value.str (S "q") 1464), (Value.str (S "r") 1467), (Value.str (S "s") 1470), (Value.str (S "t") 1473), (Value.str (S "u") 1476), (Value.str (S "v") 1479), (Value.str (S "w") 1482), (Value.str (S "x") 1485), (Value.str (S "y") 1488), (Value.str (S "z") 1491), (Value.str (S "=7B") 850), (Value.str (S "=7C") 854), (Value.str (S "=7D") 858), (Value.str (S "=7E") 862), (Value.str (S "=7F") 866), (Value.str (S "=80") 870), (Value.str (S "=81") 874), (Value.str (S "=82") 878), (Value.str (S "=83") 882), (Value.str (S "=84") 886), (Value.str (S "=85") 890), (Value.str (S "=86") 894), (Value.str (S "=87") 898), (Value.str (S "=88") 902), (Value.str (S "=89") 906), (Value.str (S "=8A") 910), (Value.str (S "=8B") 914), (Value.str (S "=8C") 918), (Value.str (S "=8D") 922), (Value.str (S "=8E") 926), (Value.str (S "=8F") 930), (Value.str (S "=90") 934), (Value.str (S "=91") 938), (Value.str (S "=92") 942), (Value.str (S "=93") 946), (Value.str (S "=94") 950), (Value.str (S "=95") 954), (Value.str (S "=96") 958), (Value.str (S "=97") 962), (Value.str (S "=98") 966), (Value.str (S "=99") 970), (Value.str (S "=9A") 974), (Value.str (S "=9B") 978), (Value.str (S "=9C") 982), (Value.str (S "=9D") 986), (Value.str (S "=9E") 990), (Value.str (S "=9F") 994), (Value.str (S "=A0") 998), (Value.str (S "=A1") 1002), (Value.str (S "=A2") 1006), (Value.str (S "=A3") 1010), (Value.str (S "=A4") 1014), (Value.str (S "=A5") 1018), (Value.str (S "=A6") 1022), (Value.str (S "=A7") 1026), (Value.str (S "=A8") 1030), (Value.str (S "=A9") 1034), (Value.str (S "=AA") 1038), (Value.str (S "=AB") 1042), (Value.str (S "=AC") 1046), (Value.str (S "=AD") 1050), (Value.str (S "=AE") 1054), (Value.str (S "=AF") 1058), (Value.str (S "=B0") 1062), (Value.str (S "=B1") 1066), (Value.str (S "=B2") 1070), (Value.str (S "=B3") 1074), (Value.str (S "=B4") 1078), (Value.str (S "=B5") 1082), (Value.str (S "=B6") 1086), (Value.str (S "=B7") 1090), (Value.str (S "=B8") 1094), (Value.str (S "=B9") 1098), (Value.str (S "=BA") 1102), (Value.str (S "=BB") 1106), (Value.str (S "=BC") 1110), (Value.str (S "=BD") 1114), (Value.str (S "=BE") 1118), (Value.str (S "=BF") 1122), (Value.str (S "=C0") 1126), (Value.str (S "=C1") 1130), (Value.str (S "=C2") 1134), (Value.str (S "=C3") 1138), (Value.str (S "=C4") 1142), (Value.str (S "=C5") 1146), (Value.str (S "=C6") 1150), (Value.str (S "=C7") 1154), (Value.str (S "=C8") 1158), (Value.str (S "=C9") 1162), (Value.str (S "=CA") 1166), (Value.str (S "=CB") 1170), (Value.str (S "=CC") 1174), (Value.str (S "=CD") 1178), (Value.str (S "=CE") 1182), (Value.str (S "=CF") 1186), (Value.str (S "=D0") 1190), (Value.str (S "=D1") 1194), (Value.str (S "=D2") 1198), (Value.str (S "=D3") 1202), (Value.str (S "=D4") 1206), (Value.str (S "=D5") 1210), (Value.str (S "=D6") 1214), (Value.str (S "=D7") 1218), (Value.str (S "=D8") 1222), (Value.str (S "=D9") 1226), (Value.str (S "=DA") 1230), (Value.str (S "=DB") 1234), (Value.str (S "=DC") 1238), (Value.str (S "=DD") 1242), (Value.str (S "=DE") 1246), (Value.str (S "=DF") 1250), (Value.str (S "=E0") 1254), (Value.str (S "=E1") 1258), (Value.str (S "=E2") 1262), (Value.str (S "=E3") 1266), (Value.str (S "=E4") 1270), (Value.str (S "=E5") 1274), (Value.str (S "=E6") 1278), (Value.str (S "=E7") 1282), (Value.str (S "=E8") 1286), (Value.str (S "=E9") 1290), (Value.str (S "=EA") 1294), (Value.str (S "=EB") 1298), (Value.str (S "=EC") 1302), (Value.str (S "=ED") 1306), (Value.str (S "=EE") 1310), (Value.str (S "=EF") 1314), (Value.str (S "=F0") 1318), (Value.str (S "=F1") 1322), (Value.str (S "=F2") 1326), (Value.str (S "=F3") 1330), (Value.str (S "=F4") 1334), (Value.str (S "=F5") 1338), (Value.str (S "=F6") 1342), (Value.str (S "=F7") 1346), (Value.str (S "=F8") 1350), (Value.str (S "=F9") 1354), (Value.str (S "=FA") 1358), (Value.str (S "=FB") 1362), (Value.str (S "=FC") 1366), (Value.str (S "=FD") 1370), (Value.str (S "=FE") 1374), (Value.str (S "=FF") 1378)]) 0) (List.toArray [])))
noncomputable def a551 : Params → Obj := (fun P => (Obj.mk (Value.type "dict") Option.none (Data.dict (List.toArray [(dE P "__name__" 165 (Value.str (strOf (topAt 15)) 1390)), (dE P "__doc__" 166 Value.none), (dE P "__package__" 167 Value.none), (dE P "__loader__" 168 (Value.builtin "__main__.__loader__#opaque")), (dE P "__spec__" 169 Value.none), (dE P "__annotations__" 170 (Value.ref 6)), (dE P "__builtins__" 171 (Value.ref 4)), (dE P "__file__" 173 (Value.str (S "/claim/cut.py") 172)), (dE P "__cached__" 174 Value.none), (dE P "_wall" 193 (Value.ref 21)), (dE P "IS_CHARACTER_JUNK" 204 (Value.ref 29)), (dE P "file_template_difflib" 206 (Value.str (strOf (topAt 3)) 205)), (dE P "styles_difflib" 208 (Value.str (strOf (topAt 4)) 207)), (dE P "table_template_difflib" 210 (Value.str (strOf (topAt 5)) 209)), (dE P "legend_difflib" 212 (Value.str (strOf (topAt 6)) 211)), (dE P "HtmlDiff" 351 (Value.ref 111)), (dE P "_QUOPRI_MAP" 1379 (Value.ref 118)), (dE P "_QUOPRI_HEADER_MAP" 1380 (Value.ref 123)), (dE P "_QUOPRI_BODY_MAP" 1381 (Value.ref 125)), (dE P "ascii_lowercase" 1383 (Value.str (strOf (topAt 11)) 1382)), (dE P "ascii_uppercase" 1385 (Value.str (strOf (topAt 12)) 1384)), (dE P "ascii_letters" 1387 (Value.str (S "abcdefghijklmnopqrstuvwxyzABCDEFGHIJKLMNOPQRSTUVWXYZ") 1386)), (dE P "digits" 1389 (Value.str (S "0123456789") 1388)), (dE P "c" 1400 (Value.int 9 1886))]) 24) (List.toArray [])))
noncomputable def a552 : Params → Obj := (fun P => (Obj.mk (Value.type "list") Option.none (Data.seq (List.toArray [(Value.str (S "=00") 358), (Value.str (S "=01") 362), (Value.str (S "=02") 366), (Value.str (S "=03") 370), (Value.str (S "=04") 374), (Value.str (S "=05") 378), (Value.str (S "=06") 382), (Value.str (S "=07") 386), (Value.str (S "=08") 390), (Value.str (S "\t") 1888), (Value.str (S "=0A") 398), (Value.str (S "=0B") 402), (Value.str (S "=0C") 406), (Value.str (S "=0D") 410), (Value.str (S "=0E") 414), (Value.str (S "=0F") 418), (Value.str (S "=10") 422), (Value.str (S "=11") 426), (Value.str (S "=12") 430), (Value.str (S "=13") 434), (Value.str (S "=14") 438), (Value.str (S "=15") 442), (Value.str (S "=16") 446), (Value.str (S "=17") 450), (Value.str (S "=18") 454), (Value.str (S "=19") 458), (Value.str (S "=1A") 462), (Value.str (S "=1B") 466), (Value.str (S "=1C") 470), (Value.str (S "=1D") 474), (Value.str (S "=1E") 478), (Value.str (S "=1F") 482), (Value.str (S " ") 1606), (Value.str (S "!") 1609), (Value.str (S "\"") 1612), (Value.str (S "#") 1615), (Value.str (S "$") 1618), (Value.str (S "%") 1621), (Value.str (S "&") 1624), (Value.str (S "'") 1627), (Value.str (S "(") 1630), (Value.str (S ")") 1633), (Value.str (S "*") 1636), (Value.str (S "+") 1639), (Value.str (S ",") 1642), (Value.str (S "-") 1645), (Value.str (S ".") 1648), (Value.str (S "/") 1651), (Value.str (S "0") 1654), (Value.str (S "1") 1657), (Value.str (S "2") 1660), (Value.str (S "3") 1663), (Value.str (S "4") 1666), (Value.str (S "5") 1669), (Value.str (S "6") 1672), (Value.str (S "7") 1675), (Value.str (S "8") 1678), (Value.str (S "9") 1681), (Value.str (S ":") 1684), (Value.str (S ";") 1687), (Value.str (S "<") 1690), (Value.str (S "=3D") 602), (Value.str (S ">") 1693), (Value.str (S "?") 1696), (Value.str (S "@") 1699), (Value.str (S "A") 1702), (Value.str (S "B") 1705), (Value.str (S "C") 1708), (Value.str (S "D") 1711), (Value.str (S "E") 1714), (Value.str (S "F") 1717), (Value.str (S "G") 1720), (Value.str (S "H") 1723), (Value.str (S "I") 1726), (Value.str (S "J") 1729), (Value.str (S "K") 1732), (Value.str (S "L") 1735), (Value.str (S "M") 1738), (Value.str (S "N") 1741), (Value.str (S "O") 1744), (Value.str (S "P") 1747), (Value.str (S "Q") 1750), (Value.str (S "R") 1753), (Value.str (S "S") 1756), (Value.str (S "T") 1759), (Value.str (S "U") 1762), (Value.str (S "V") 1765), (Value.str (S "W") 1768), (Value.str (S "X") 1771), (Value.str (S "Y") 1774), (Value.str (S "Z") 1777), (Value.str (S "[") 1780), (Value.str (S "\\") 1783), (Value.str (S "]") 1786), (Value.str (S "^") 1789), (Value.str (S "_") 1792), (Value.str (S "`") 1795), (Value.str (S "a") 1798), (Value.str (S "b") 1801), (Value.str (S "c") 1804), (Value.str (S "d") 1807), (Value.str (S "e") 1810), (Value.str (S "f") 1813), (Value.str (S "g") 1816), (Value.str (S "h") 1819), (Value.str (S "i") 1822), (Value.str (S "j") 1825), (Value.str (S "k") 1828), (Value.str (S "l") 1831), (Value.str (S "m") 1834), (Value.str (S "n") 1837), (Value.str (S "o") 1840), (Value.str (S "p") 1843), (Value.str (S "q") 1846), (Value.str (S "r") 1849), (Value.str (S "s") 1852), (Value.str (S "t") 1855), (Value.str (S "u") 1858), (Value.str (S "v") 1861), (Value.str (S "w") 1864), (Value.str (S "x") 1867), (Value.str (S "y") 1870), (Value.str (S "z") 1873), (Value.str (S "{") 1876), (Value.str (S "|") 1879), (Value.str (S "}") 1882), (Value.str (S "~") 1885), (Value.str (S "=7F") 866), (Value.str (S "=80") 870), (Value.str (S "=81") 874), (Value.str (S "=82") 878), (Value.str (S "=83") 882), (Value.str (S "=84") 886), (Value.str (S "=85") 890), (Value.str (S "=86") 894), (Value.str (S "=87") 898), (Value.str (S "=88") 902), (Value.str (S "=89") 906), (Value.str (S "=8A") 910), (Value.str (S "=8B") 914), (Value.str (S "=8C") 918), (Value.str (S "=8D") 922), (Value.str (S "=8E") 926), (Value.str (S "=8F") 930), (Value.str (S "=90") 934), (Value.str (S "=91") 938), (Value.str (S "=92") 942), (Value.str (S "=93") 946), (Value.str (S "=94") 950), (Value.str (S "=95") 954), (Value.str (S "=96") 958), (Value.str (S "=97") 962), (Value.str (S "=98") 966), (Value.str (S "=99") 970), (Value.str (S "=9A") 974), (Value.str (S "=9B") 978), (Value.str (S "=9C") 982), (Value.str (S "=9D") 986), (Value.str (S "=9E") 990), (Value.str (S "=9F") 994), (Value.str (S "=A0") 998), (Value.str (S "=A1") 1002), (Value.str (S "=A2") 1006), (Value.str (S "=A3") 1010), (Value.str (S "=A4") 1014), (Value.str (S "=A5") 1018), (Value.str (S "=A6") 1022), (Value.str (S "=A7") 1026), (Value.str (S "=A8") 1030), (Value.str (S "=A9") 1034), (Value.str (S "=AA") 1038), (Value.str (S "=AB") 1042), (Value.str (S "=AC") 1046), (Value.str (S "=AD") 1050), (Value.str (S "=AE") 1054), (Value.str (S "=AF") 1058), (Value.str (S "=B0") 1062), (Value.str (S "=B1") 1066), (Value.str (S "=B2") 1070), (Value.str (S "=B3") 1074), (Value.str (S "=B4") 1078), (Value.str (S "=B5") 1082), (Value.str (S "=B6") 1086), (Value.str (S "=B7") 1090), (Value.str (S "=B8") 1094), (Value.str (S "=B9") 1098), (Value.str (S "=BA") 1102), (Value.str (S "=BB") 1106), (Value.str (S "=BC") 1110), (Value.str (S "=BD") 1114), (Value.str (S "=BE") 1118), (Value.str (S "=BF") 1122), (Value.str (S "=C0") 1126), (Value.str (S "=C1") 1130), (Value.str (S "=C2") 1134), (Value.str (S "=C3") 1138), (Value.str (S "=C4") 1142), (Value.str (S "=C5") 1146), (Value.str (S "=C6") 1150), (Value.str (S "=C7") 1154), (Value.str (S "=C8") 1158), (Value.str (S "=C9") 1162), (Value.str (S "=CA") 1166), (Value.str (S "=CB") 1170), (Value.str (S "=CC") 1174), (Value.str (S "=CD") 1178), (Value.str (S "=CE") 1182), (Value.str (S "=CF") 1186), (Value.str (S "=D0") 1190), (Value.str (S "=D1") 1194), (Value.str (S "=D2") 1198), (Value.str (S "=D3") 1202), (Value.str (S "=D4") 1206), (Value.str (S "=D5") 1210), (Value.str (S "=D6") 1214), (Value.str (S "=D7") 1218), (Value.str (S "=D8") 1222), (Value.str (S "=D9") 1226), (Value.str (S "=DA") 1230), (Value.str (S "=DB") 1234), (Value.str (S "=DC") 1238), (Value.str (S "=DD") 1242), (Value.str (S "=DE") 1246), (Value.str (S "=DF") 1250), (Value.str (S "=E0") 1254), (Value.str (S "=E1") 1258), (Value.str (S "=E2") 1262), (Value.str (S "=E3") 1266), (Value.str (S "=E4") 1270), (Value.str (S "=E5") 1274), (Value.str (S "=E6") 1278), (Value.str (S "=E7") 1282), (Value.str (S "=E8") 1286), (Value.str (S "=E9") 1290), (Value.str (S "=EA") 1294), (Value.str (S "=EB") 1298), (Value.str (S "=EC") 1302), (Value.str (S "=ED") 1306), (Value.str (S "=EE") 1310), (Value.str (S "=EF") 1314), (Value.str (S "=F0") 1318), (Value.str (S "=F1") 1322), (Value.str (S "=F2") 1326), (Value.str (S "=F3") 1330), (Value.str (S "=F4") 1334), (Value.str (S "=F5") 1338), (Value.str (S "=F6") 1342), (Value.str (S "=F7") 1346), (Value.str (S "=F8") 1350), (Value.str (S "=F9") 1354), (Value.str (S "=FA") 1358), (Value.str (S "=FB") 1362), (Value.str (S "=FC") 1366), (Value.str (S "=FD") 1370), (Value.str (S "=FE") 1374), (Value.str (S "=FF") 1378)]) 0) (List.toArray [])))
noncomputable def a553 : Params → Obj := (fun P => (Obj.mk (Value.type "bytes_iterator") Option.none (Data.fields (List.toArray [Value.none, (Value.int 95 0)])) (List.toArray [])))
noncomputable def a554 : Params → Obj := (fun P => (Obj.mk (Value.type "tuple") Option.none (Data.seq (List.toArray []) 0) (List.toArray [])))
noncomputable def a555 : Params → Obj := (fun P => (Obj.mk (Value.type "StopIteration") Option.none (Data.fields (List.toArray [(Value.ref 130), Value.none, Value.none, Value.none, (Value.bool Bool.false), Value.none])) (List.toArray [])))
noncomputable def a569 : Params → Obj := (fun P => (Obj.mk (Value.type "tuple") Option.none (Data.seq (List.toArray [(Value.str (S "iso-8859-1") 1889)]) 0) (List.toArray [])))
noncomputable def a570 : Params → Obj := (fun P => (Obj.mk (Value.type "tuple") Option.none (Data.seq (List.toArray []) 0) (List.toArray [])))
noncomputable def a571 : Params → Obj := (fun P => (Obj.mk Value.none Option.none (Data.fields (List.toArray [])) (List.toArray [])))
noncomputable def a572 : Params → Obj := (fun P => (Obj.mk (Value.type "tuple") Option.none (Data.seq (List.toArray [(Value.str (S "header_bytes") 1893), (Value.str (S "charset") 1894), (Value.str (S "encoded") 1895)]) 0) (List.toArray [])))
noncomputable def a573 : Params → Obj := (fun P => (Obj.mk (Value.type "tuple") Option.none (Data.seq (List.toArray []) 0) (List.toArray [])))
noncomputable def a574 : Params → Obj := (fun P => (Obj.mk Value.none Option.none (Data.func (FuncData.mk (S "header_encode") (S "header_encode") (argOf (topAt 19)) (FuncBody.stmts (bodyOf (topAt 19))) (scopeOf (topAt 19)) 0 [] Value.none Value.none Value.none Value.none Option.none Value.none Value.none 0)) (List.toArray [])))
noncomputable def a575 : Params → Obj := (fun P => (Obj.mk (Value.type "code") Option.none (Data.fields (List.toArray [(Value.str (S "header_encode") 1890), (Value.str (S "header_encode") 1891), (Value.str (S "/claim/cut.py") 1892), (Value.int 71 0), (Value.int 2 0), (Value.int 0 0), (Value.int 0 0), (Value.int 3 0), (Value.ref 133), (Value.bool Bool.true), (Value.int 181 0), (Value.ref 134), Value.none, (Value.ref 135), (Value.ref 136), (Value.ref 137), (Value.int 1896 0), (Value.int 71 0), (Value.str (S "/claim/cut.py") 1897)])) (List.toArray [])))
noncomputable def a576 : Params → Obj := (fun P => (Obj.mk (Value.type "function") Option.none (Data.func (FuncData.mk (S "header_encode") (S "header_encode") (argOf (topAt 19)) (FuncBody.stmts (bodyOf (topAt 19))) (scopeOf (topAt 19)) 3 [] (Value.ref 132) Value.none Value.none (Value.str (strOf (topAt 15)) 1390) Option.none (Value.ref 138) Value.none 0)) (List.toArray [])))
noncomputable def a577 : Params → Obj := (fun P => (Obj.mk (Value.type "slice") Option.none (Data.fields (List.toArray [Value.none, Value.none, Value.none])) (List.toArray [])))
noncomputable def a578 : Params → Obj := (fun P => (Obj.mk (Value.type "list") Option.none (Data.seq (List.toArray [(Value.str (S "=00") 358), (Value.str (S "=01") 362), (Value.str (S "=02") 366), (Value.str (S "=03") 370), (Value.str (S "=04") 374), (Value.str (S "=05") 378), (Value.str (S "=06") 382), (Value.str (S "=07") 386), (Value.str (S "=08") 390), (Value.str (S "\t") 1888), (Value.str (S "\n") 1906), (Value.str (S "=0B") 402), (Value.str (S "=0C") 406), (Value.str (S "\x0d") 1903), (Value.str (S "=0E") 414), (Value.str (S "=0F") 418), (Value.str (S "=10") 422), (Value.str (S "=11") 426), (Value.str (S "=12") 430), (Value.str (S "=13") 434), (Value.str (S "=14") 438), (Value.str (S "=15") 442), (Value.str (S "=16") 446), (Value.str (S "=17") 450), (Value.str (S "=18") 454), (Value.str (S "=19") 458), (Value.str (S "=1A") 462), (Value.str (S "=1B") 466), (Value.str (S "=1C") 470), (Value.str (S "=1D") 474), (Value.str (S "=1E") 478), (Value.str (S "=1F") 482), (Value.str (S " ") 1606), (Value.str (S "!") 1609), (Value.str (S "\"") 1612), (Value.str (S "#") 1615), (Value.str (S "$") 1618), (Value.str (S "%") 1621), (Value.str (S "&") 1624), (Value.str (S "'") 1627), (Value.str (S "(") 1630), (Value.str (S ")") 1633), (Value.str (S "*") 1636), (Value.str (S "+") 1639), (Value.str (S ",") 1642), (Value.str (S "-") 1645), (Value.str (S ".") 1648), (Value.str (S "/") 1651), (Value.str (S "0") 1654), (Value.str (S "1") 1657), (Value.str (S "2") 1660), (Value.str (S "3") 1663), (Value.str (S "4") 1666), (Value.str (S "5") 1669), (Value.str (S "6") 1672), (Value.str (S "7") 1675), (Value.str (S "8") 1678), (Value.str (S "9") 1681), (Value.str (S ":") 1684), (Value.str (S ";") 1687), (Value.str (S "<") 1690), (Value.str (S "=3D") 602), (Value.str (S ">") 1693), (Value.str (S "?") 1696), (Value.str (S "@") 1699), (Value.str (S "A") 1702), (Value.str (S "B") 1705), (Value.str (S "C") 1708), (Value.str (S "D") 1711), (Value.str (S "E") 1714), (Value.str (S "F") 1717), (Value.str (S "G") 1720), (Value.str (S "H") 1723), (Value.str (S "I") 1726), (Value.str (S "J") 1729), (Value.str (S "K") 1732), (Value.str (S "L") 1735), (Value.str (S "M") 1738), (Value.str (S "N") 1741), (Value.str (S "O") 1744), (Value.str (S "P") 1747), (Value.str (S "Q") 1750), (Value.str (S "R") 1753), (Value.str (S "S") 1756), (Value.str (S "T") 1759), (Value.str (S "U") 1762), (Value.str (S "V") 1765), (Value.str (S "W") 1768), (Value.str (S "X") 1771), (Value.str (S "Y") 1774), (Value.str (S "Z") 1777), (Value.str (S "[") 1780), (Value.str (S "\\") 1783), (Value.str (S "]") 1786), (Value.str (S "^") 1789), (Value.str (S "_") 1792), (Value.str (S "`") 1795), (Value.str (S "a") 1798), (Value.str (S "b") 1801), (Value.str (S "c") 1804), (Value.str (S "d") 1807), (Value.str (S "e") 1810), (Value.str (S "f") 1813), (Value.str (S "g") 1816), (Value.str (S "h") 1819), (Value.str (S "i") 1822), (Value.str (S "j") 1825), (Value.str (S "k") 1828), (Value.str (S "l") 1831), (Value.str (S "m") 1834), (Value.str (S "n") 1837), (Value.str (S "o") 1840), (Value.str (S "p") 1843), (Value.str (S "q") 1846), (Value.str (S "r") 1849), (Value.str (S "s") 1852), (Value.str (S "t") 1855), (Value.str (S "u") 1858), (Value.str (S "v") 1861), (Value.str (S "w") 1864), (Value.str (S "x") 1867), (Value.str (S "y") 1870), (Value.str (S "z") 1873), (Value.str (S "{") 1876), (Value.str (S "|") 1879), (Value.str (S "}") 1882), (Value.str (S "~") 1885), (Value.str (S "=7F") 866), (Value.str (S "=80") 870), (Value.str (S "=81") 874), (Value.str (S "=82") 878), (Value.str (S "=83") 882), (Value.str (S "=84") 886), (Value.str (S "=85") 890), (Value.str (S "=86") 894), (Value.str (S "=87") 898), (Value.str (S "=88") 902), (Value.str (S "=89") 906), (Value.str (S "=8A") 910), (Value.str (S "=8B") 914), (Value.str (S "=8C") 918), (Value.str (S "=8D") 922), (Value.str (S "=8E") 926), (Value.str (S "=8F") 930), (Value.str (S "=90") 934), (Value.str (S "=91") 938), (Value.str (S "=92") 942), (Value.str (S "=93") 946), (Value.str (S "=94") 950), (Value.str (S "=95") 954), (Value.str (S "=96") 958), (Value.str (S "=97") 962), (Value.str (S "=98") 966), (Value.str (S "=99") 970), (Value.str (S "=9A") 974), (Value.str (S "=9B") 978), (Value.str (S "=9C") 982), (Value.str (S "=9D") 986), (Value.str (S "=9E") 990), (Value.str (S "=9F") 994), (Value.str (S "=A0") 998), (Value.str (S "=A1") 1002), (Value.str (S "=A2") 1006), (Value.str (S "=A3") 1010), (Value.str (S "=A4") 1014), (Value.str (S "=A5") 1018), (Value.str (S "=A6") 1022), (Value.str (S "=A7") 1026), (Value.str (S "=A8") 1030), (Value.str (S "=A9") 1034), (Value.str (S "=AA") 1038), (Value.str (S "=AB") 1042), (Value.str (S "=AC") 1046), (Value.str (S "=AD") 1050), (Value.str (S "=AE") 1054), (Value.str (S "=AF") 1058), (Value.str (S "=B0") 1062), (Value.str (S "=B1") 1066), (Value.str (S "=B2") 1070), (Value.str (S "=B3") 1074), (Value.str (S "=B4") 1078), (Value.str (S "=B5") 1082), (Value.str (S "=B6") 1086), (Value.str (S "=B7") 1090), (Value.str (S "=B8") 1094), (Value.str (S "=B9") 1098), (Value.str (S "=BA") 1102), (Value.str (S "=BB") 1106), (Value.str (S "=BC") 1110), (Value.str (S "=BD") 1114), (Value.str (S "=BE") 1118), (Value.str (S "=BF") 1122), (Value.str (S "=C0") 1126), (Value.str (S "=C1") 1130), (Value.str (S "=C2") 1134), (Value.str (S "=C3") 1138), (Value.str (S "=C4") 1142), (Value.str (S "=C5") 1146), (Value.str (S "=C6") 1150), (Value.str (S "=C7") 1154), (Value.str (S "=C8") 1158), (Value.str (S "=C9") 1162), (Value.str (S "=CA") 1166), (Value.str (S "=CB") 1170), (Value.str (S "=CC") 1174), (Value.str (S "=CD") 1178), (Value.str (S "=CE") 1182), (Value.str (S "=CF") 1186), (Value.str (S "=D0") 1190), (Value.str (S "=D1") 1194), (Value.str (S "=D2") 1198), (Value.str (S "=D3") 1202), (Value.str (S "=D4") 1206), (Value.str (S "=D5") 1210), (Value.str (S "=D6") 1214), (Value.str (S "=D7") 1218), (Value.str (S "=D8") 1222), (Value.str (S "=D9") 1226), (Value.str (S "=DA") 1230), (Value.str (S "=DB") 1234), (Value.str (S "=DC") 1238), (Value.str (S "=DD") 1242), (Value.str (S "=DE") 1246), (Value.str (S "=DF") 1250), (Value.str (S "=E0") 1254), (Value.str (S "=E1") 1258), (Value.str (S "=E2") 1262), (Value.str (S "=E3") 1266), (Value.str (S "=E4") 1270), (Value.str (S "=E5") 1274), (Value.str (S "=E6") 1278), (Value.str (S "=E7") 1282), (Value.str (S "=E8") 1286), (Value.str (S "=E9") 1290), (Value.str (S "=EA") 1294), (Value.str (S "=EB") 1298), (Value.str (S "=EC") 1302), (Value.str (S "=ED") 1306), (Value.str (S "=EE") 1310), (Value.str (S "=EF") 1314), (Value.str (S "=F0") 1318), (Value.str (S "=F1") 1322), (Value.str (S "=F2") 1326), (Value.str (S "=F3") 1330), (Value.str (S "=F4") 1334), (Value.str (S "=F5") 1338), (Value.str (S "=F6") 1342), (Value.str (S "=F7") 1346), (Value.str (S "=F8") 1350), (Value.str (S "=F9") 1354), (Value.str (S "=FA") 1358), (Value.str (S "=FB") 1362), (Value.str (S "=FC") 1366), (Value.str (S "=FD") 1370), (Value.str (S "=FE") 1374), (Value.str (S "=FF") 1378)]) 0) (List.toArray [])))
noncomputable def a579 : Params → Obj := (fun P => (Obj.mk (Value.type "bytes_iterator") Option.none (Data.fields (List.toArray [Value.none, (Value.int 2 0)])) (List.toArray [])))
noncomputable def a580 : Params → Obj := (fun P => (Obj.mk (Value.type "tuple") Option.none (Data.seq (List.toArray []) 0) (List.toArray [])))
noncomputable def a581 : Params → Obj := (fun P => (Obj.mk (Value.type "StopIteration") Option.none (Data.fields (List.toArray [(Value.ref 143), Value.none, Value.none, Value.none, (Value.bool Bool.false), Value.none])) (List.toArray [])))
noncomputable def a586 : Params → Obj := (fun P => (Obj.mk (Value.type "tuple") Option.none (Data.seq (List.toArray []) 0) (List.toArray [])))
noncomputable def a587 : Params → Obj := (fun P => (Obj.mk (Value.type "builtin_function_or_method") Option.none (Data.fields (List.toArray [(Value.builtin "type.__prepare__"), (Value.type "type")])) (List.toArray [])))
noncomputable def a588 : Params → Obj := (fun P => (Obj.mk (Value.type "dict") Option.none (Data.dict (List.toArray [(dE P "__module__" 1916 (Value.str (S "cpy313.tabnanny") 1907)), (dE P "__qualname__" 1918 (Value.str (S "Whitespace") 1917)), (dE P "__firstlineno__" 1920 (Value.int 81 1919)), (dE P "S" 1924 (Value.str (S " ") 1922)), (dE P "T" 1925 (Value.str (S "\t") 1923)), (dE P "__init__" 1940 (Value.ref 161)), (dE P "longest_run_of_spaces" 1949 (Value.ref 168)), (dE P "indent_level" 1961 (Value.ref 175)), (dE P "equal" 1969 (Value.ref 182)), (dE P "not_equal_witness" 1977 (Value.ref 189)), (dE P "less" 1987 (Value.ref 196)), (dE P "not_less_witness" 1995 (Value.ref 203)), (dE P "__static_attributes__" 2001 (Value.ref 204))]) 13) (List.toArray [])))
noncomputable def a589 : Params → Obj := (fun P => (Obj.mk (Value.type "tuple") Option.none (Data.seq (List.toArray []) 0) (List.toArray [])))
noncomputable def a590 : Params → Obj := (fun P => (Obj.mk Value.none Option.none (Data.fields (List.toArray [(Value.int 84 0), (Value.int 4 0), (Value.ref 160), (Value.int 107 0), (Value.int 4 0), (Value.ref 167), (Value.int 111 0), (Value.int 4 0), (Value.ref 174), (Value.int 118 0), (Value.int 4 0), (Value.ref 181), (Value.int 121 0), (Value.int 4 0), (Value.ref 188), (Value.int 124 0), (Value.int 4 0), (Value.ref 195), (Value.int 135 0), (Value.int 4 0), (Value.ref 202)])) (List.toArray [])))
noncomputable def a591 : Params → Obj := (fun P => (Obj.mk (Value.type "code") Option.none (Data.fields (List.toArray [(Value.str (S "Whitespace") 1911), (Value.str (S "Whitespace") 1912), (Value.str (S "/claim/cut.py") 1913), (Value.int 81 0), (Value.int 0 0), (Value.int 0 0), (Value.int 0 0), (Value.int 0 0), (Value.ref 148), (Value.bool Bool.false), (Value.int 181 0), (Value.ref 149), Value.none, Value.none, Value.none, Value.none, (Value.int 1914 0), (Value.int 81 0), (Value.str (S "/claim/cut.py") 1915)])) (List.toArray [])))
noncomputable def a592 : Params → Obj := (fun P => (Obj.mk (Value.type "frame") Option.none Data.plain (List.toArray [(Option.some (Value.ref 150)), (Option.some (Value.ref 3)), (Option.some (Value.ref 147)), Option.none, (Option.some (Value.str (S "cpy313.tabnanny") 1907)), Option.none, (Option.some (Value.ref 0))])))
noncomputable def a593 : Params → Obj := (fun P => (Obj.mk (Value.type "str_ascii_iterator") Option.none (Data.fields (List.toArray [Value.none, (Value.int 2 0)])) (List.toArray [])))
noncomputable def a594 : Params → Obj := (fun P => (Obj.mk (Value.type "tuple") Option.none (Data.seq (List.toArray []) 0) (List.toArray [])))
noncomputable def a595 : Params → Obj := (fun P => (Obj.mk (Value.type "StopIteration") Option.none (Data.fields (List.toArray [(Value.ref 153), Value.none, Value.none, Value.none, (Value.bool Bool.false), Value.none])) (List.toArray [])))
noncomputable def a596 : Params → Obj := (fun P => (Obj.mk (Value.type "tuple") Option.none (Data.seq (List.toArray []) 0) (List.toArray [])))
noncomputable def a597 : Params → Obj := (fun P => (Obj.mk Value.none Option.none (Data.fields (List.toArray [])) (List.toArray [])))
noncomputable def a598 : Params → Obj := (fun P => (Obj.mk (Value.type "tuple") Option.none (Data.seq (List.toArray [(Value.str (S "self") 1929), (Value.str (S "ws") 1930), (Value.str (S "S") 1931), (Value.str (S "T") 1932), (Value.str (S "count") 1933), (Value.str (S "b") 1934), (Value.str (S "n") 1935), (Value.str (S "nt") 1936), (Value.str (S "ch") 1937)]) 0) (List.toArray [])))
noncomputable def a599 : Params → Obj := (fun P => (Obj.mk (Value.type "tuple") Option.none (Data.seq (List.toArray []) 0) (List.toArray [])))
noncomputable def a600 : Params → Obj := (fun P => (Obj.mk Value.none Option.none (Data.func (FuncData.mk (S "__init__") (S "Whitespace.__init__") (argOf (nth (bodyOf (topAt 24)) 1)) (FuncBody.stmts (bodyOf (nth (bodyOf (topAt 24)) 1))) (scopeOf (nth (bodyOf (topAt 24)) 1)) 0 [] Value.none Value.none Value.none Value.none Option.none Value.none Value.none 0)) (List.toArray [])))
noncomputable def a601 : Params → Obj := (fun P => (Obj.mk (Value.type "code") Option.none (Data.fields (List.toArray [(Value.str (S "__init__") 1926), (Value.str (S "Whitespace.__init__") 1927), (Value.str (S "/claim/cut.py") 1928), (Value.int 84 0), (Value.int 2 0), (Value.int 0 0), (Value.int 0 0), (Value.int 3 0), (Value.ref 155), (Value.bool Bool.true), (Value.int 181 0), (Value.ref 156), Value.none, (Value.ref 157), (Value.ref 158), (Value.ref 159), (Value.int 1938 0), (Value.int 84 0), (Value.str (S "/claim/cut.py") 1939)])) (List.toArray [])))
noncomputable def a602 : Params → Obj := (fun P => (Obj.mk (Value.type "function") Option.none (Data.func (FuncData.mk (S "__init__") (S "Whitespace.__init__") (argOf (nth (bodyOf (topAt 24)) 1)) (FuncBody.stmts (bodyOf (nth (bodyOf (topAt 24)) 1))) (scopeOf (nth (bodyOf (topAt 24)) 1)) 3 [] Value.none Value.none Value.none (Value.str (S "cpy313.tabnanny") 1907) Option.none (Value.ref 160) Value.none 0)) (List.toArray [])))
noncomputable def a603 : Params → Obj := (fun P => (Obj.mk (Value.type "tuple") Option.none (Data.seq (List.toArray []) 0) (List.toArray [])))
noncomputable def a604 : Params → Obj := (fun P => (Obj.mk Value.none Option.none (Data.fields (List.toArray [])) (List.toArray [])))
noncomputable def a605 : Params → Obj := (fun P => (Obj.mk (Value.type "tuple") Option.none (Data.seq (List.toArray [(Value.str (S "self") 1944), (Value.str (S "count") 1945), (Value.str (S "trailing") 1946)]) 0) (List.toArray [])))
noncomputable def a606 : Params → Obj := (fun P => (Obj.mk (Value.type "tuple") Option.none (Data.seq (List.toArray []) 0) (List.toArray [])))
noncomputable def a607 : Params → Obj := (fun P => (Obj.mk Value.none Option.none (Data.func (FuncData.mk (S "longest_run_of_spaces") (S "Whitespace.longest_run_of_spaces") (argOf (nth (bodyOf (topAt 24)) 2)) (FuncBody.stmts (bodyOf (nth (bodyOf (topAt 24)) 2))) (scopeOf (nth (bodyOf (topAt 24)) 2)) 0 [] Value.none Value.none Value.none Value.none Option.none Value.none Value.none 0)) (List.toArray [])))
noncomputable def a608 : Params → Obj := (fun P => (Obj.mk (Value.type "code") Option.none (Data.fields (List.toArray [(Value.str (S "longest_run_of_spaces") 1941), (Value.str (S "Whitespace.longest_run_of_spaces") 1942), (Value.str (S "/claim/cut.py") 1943), (Value.int 107 0), (Value.int 1 0), (Value.int 0 0), (Value.int 0 0), (Value.int 3 0), (Value.ref 162), (Value.bool Bool.true), (Value.int 181 0), (Value.ref 163), Value.none, (Value.ref 164), (Value.ref 165), (Value.ref 166), (Value.int 1947 0), (Value.int 107 0), (Value.str (S "/claim/cut.py") 1948)])) (List.toArray [])))
noncomputable def a609 : Params → Obj := (fun P => (Obj.mk (Value.type "function") Option.none (Data.func (FuncData.mk (S "longest_run_of_spaces") (S "Whitespace.longest_run_of_spaces") (argOf (nth (bodyOf (topAt 24)) 2)) (FuncBody.stmts (bodyOf (nth (bodyOf (topAt 24)) 2))) (scopeOf (nth (bodyOf (topAt 24)) 2)) 3 [] Value.none Value.none Value.none (Value.str (S "cpy313.tabnanny") 1907) Option.none (Value.ref 167) Value.none 0)) (List.toArray [])))
noncomputable def a610 : Params → Obj := (fun P => (Obj.mk (Value.type "tuple") Option.none (Data.seq (List.toArray []) 0) (List.toArray [])))
noncomputable def a611 : Params → Obj := (fun P => (Obj.mk Value.none Option.none (Data.fields (List.toArray [])) (List.toArray [])))
noncomputable def a612 : Params → Obj := (fun P => (Obj.mk (Value.type "tuple") Option.none (Data.seq (List.toArray [(Value.str (S "self") 1953), (Value.str (S "tabsize") 1954), (Value.str (S "count") 1955), (Value.str (S "trailing") 1956), (Value.str (S "il") 1957), (Value.str (S "i") 1958)]) 0) (List.toArray [])))
noncomputable def a613 : Params → Obj := (fun P => (Obj.mk (Value.type "tuple") Option.none (Data.seq (List.toArray []) 0) (List.toArray [])))
noncomputable def a614 : Params → Obj := (fun P => (Obj.mk Value.none Option.none (Data.func (FuncData.mk (S "indent_level") (S "Whitespace.indent_level") (argOf (nth (bodyOf (topAt 24)) 3)) (FuncBody.stmts (bodyOf (nth (bodyOf (topAt 24)) 3))) (scopeOf (nth (bodyOf (topAt 24)) 3)) 0 [] Value.none Value.none Value.none Value.none Option.none Value.none Value.none 0)) (List.toArray [])))
noncomputable def a615 : Params → Obj := (fun P => (Obj.mk (Value.type "code") Option.none (Data.fields (List.toArray [(Value.str (S "indent_level") 1950), (Value.str (S "Whitespace.indent_level") 1951), (Value.str (S "/claim/cut.py") 1952), (Value.int 111 0), (Value.int 2 0), (Value.int 0 0), (Value.int 0 0), (Value.int 3 0), (Value.ref 169), (Value.bool Bool.true), (Value.int 181 0), (Value.ref 170), Value.none, (Value.ref 171), (Value.ref 172), (Value.ref 173), (Value.int 1959 0), (Value.int 111 0), (Value.str (S "/claim/cut.py") 1960)])) (List.toArray [])))
noncomputable def a616 : Params → Obj := (fun P => (Obj.mk (Value.type "function") Option.none (Data.func (FuncData.mk (S "indent_level") (S "Whitespace.indent_level") (argOf (nth (bodyOf (topAt 24)) 3)) (FuncBody.stmts (bodyOf (nth (bodyOf (topAt 24)) 3))) (scopeOf (nth (bodyOf (topAt 24)) 3)) 3 [] Value.none Value.none Value.none (Value.str (S "cpy313.tabnanny") 1907) Option.none (Value.ref 174) Value.none 0)) (List.toArray [])))
noncomputable def a617 : Params → Obj := (fun P => (Obj.mk (Value.type "tuple") Option.none (Data.seq (List.toArray []) 0) (List.toArray [])))
noncomputable def a618 : Params → Obj := (fun P => (Obj.mk Value.none Option.none (Data.fields (List.toArray [])) (List.toArray [])))
noncomputable def a619 : Params → Obj := (fun P => (Obj.mk (Value.type "tuple") Option.none (Data.seq (List.toArray [(Value.str (S "self") 1965), (Value.str (S "other") 1966)]) 0) (List.toArray [])))
noncomputable def a620 : Params → Obj := (fun P => (Obj.mk (Value.type "tuple") Option.none (Data.seq (List.toArray []) 0) (List.toArray [])))
noncomputable def a621 : Params → Obj := (fun P => (Obj.mk Value.none Option.none (Data.func (FuncData.mk (S "equal") (S "Whitespace.equal") (argOf (nth (bodyOf (topAt 24)) 4)) (FuncBody.stmts (bodyOf (nth (bodyOf (topAt 24)) 4))) (scopeOf (nth (bodyOf (topAt 24)) 4)) 0 [] Value.none Value.none Value.none Value.none Option.none Value.none Value.none 0)) (List.toArray [])))
noncomputable def a622 : Params → Obj := (fun P => (Obj.mk (Value.type "code") Option.none (Data.fields (List.toArray [(Value.str (S "equal") 1962), (Value.str (S "Whitespace.equal") 1963), (Value.str (S "/claim/cut.py") 1964), (Value.int 118 0), (Value.int 2 0), (Value.int 0 0), (Value.int 0 0), (Value.int 3 0), (Value.ref 176), (Value.bool Bool.true), (Value.int 181 0), (Value.ref 177), Value.none, (Value.ref 178), (Value.ref 179), (Value.ref 180), (Value.int 1967 0), (Value.int 118 0), (Value.str (S "/claim/cut.py") 1968)])) (List.toArray [])))
noncomputable def a623 : Params → Obj := (fun P => (Obj.mk (Value.type "function") Option.none (Data.func (FuncData.mk (S "equal") (S "Whitespace.equal") (argOf (nth (bodyOf (topAt 24)) 4)) (FuncBody.stmts (bodyOf (nth (bodyOf (topAt 24)) 4))) (scopeOf (nth (bodyOf (topAt 24)) 4)) 3 [] Value.none Value.none Value.none (Value.str (S "cpy313.tabnanny") 1907) Option.none (Value.ref 181) Value.none 0)) (List.toArray [])))
noncomputable def a624 : Params → Obj := (fun P => (Obj.mk (Value.type "tuple") Option.none (Data.seq (List.toArray []) 0) (List.toArray [])))
noncomputable def a625 : Params → Obj := (fun P => (Obj.mk Value.none Option.none (Data.fields (List.toArray [])) (List.toArray [])))
noncomputable def a626 : Params → Obj := (fun P => (Obj.mk (Value.type "tuple") Option.none (Data.seq (List.toArray [(Value.str (S "self") 1973), (Value.str (S "other") 1974)]) 0) (List.toArray [])))
noncomputable def a627 : Params → Obj := (fun P => (Obj.mk (Value.type "tuple") Option.none (Data.seq (List.toArray []) 0) (List.toArray [])))
noncomputable def a628 : Params → Obj := (fun P => (Obj.mk Value.none Option.none (Data.func (FuncData.mk (S "not_equal_witness") (S "Whitespace.not_equal_witness") (argOf (nth (bodyOf (topAt 24)) 5)) (FuncBody.stmts (bodyOf (nth (bodyOf (topAt 24)) 5))) (scopeOf (nth (bodyOf (topAt 24)) 5)) 0 [] Value.none Value.none Value.none Value.none Option.none Value.none Value.none 0)) (List.toArray [])))
noncomputable def a629 : Params → Obj := (fun P => (Obj.mk (Value.type "code") Option.none (Data.fields (List.toArray [(Value.str (S "not_equal_witness") 1970), (Value.str (S "Whitespace.not_equal_witness") 1971), (Value.str (S "/claim/cut.py") 1972), (Value.int 121 0), (Value.int 2 0), (Value.int 0 0), (Value.int 0 0), (Value.int 3 0), (Value.ref 183), (Value.bool Bool.true), (Value.int 181 0), (Value.ref 184), Value.none, (Value.ref 185), (Value.ref 186), (Value.ref 187), (Value.int 1975 0), (Value.int 121 0), (Value.str (S "/claim/cut.py") 1976)])) (List.toArray [])))
noncomputable def a630 : Params → Obj := (fun P => (Obj.mk (Value.type "function") Option.none (Data.func (FuncData.mk (S "not_equal_witness") (S "Whitespace.not_equal_witness") (argOf (nth (bodyOf (topAt 24)) 5)) (FuncBody.stmts (bodyOf (nth (bodyOf (topAt 24)) 5))) (scopeOf (nth (bodyOf (topAt 24)) 5)) 3 [] Value.none Value.none Value.none (Value.str (S "cpy313.tabnanny") 1907) Option.none (Value.ref 188) Value.none 0)) (List.toArray [])))
noncomputable def a631 : Params → Obj := (fun P => (Obj.mk (Value.type "tuple") Option.none (Data.seq (List.toArray []) 0) (List.toArray [])))
noncomputable def a632 : Params → Obj := (fun P => (Obj.mk Value.none Option.none (Data.fields (List.toArray [])) (List.toArray [])))
noncomputable def a633 : Params → Obj := (fun P => (Obj.mk (Value.type "tuple") Option.none (Data.seq (List.toArray [(Value.str (S "self") 1981), (Value.str (S "other") 1982), (Value.str (S "n") 1983), (Value.str (S "ts") 1984)]) 0) (List.toArray [])))
noncomputable def a634 : Params → Obj := (fun P => (Obj.mk (Value.type "tuple") Option.none (Data.seq (List.toArray []) 0) (List.toArray [])))
noncomputable def a635 : Params → Obj := (fun P => (Obj.mk Value.none Option.none (Data.func (FuncData.mk (S "less") (S "Whitespace.less") (argOf (nth (bodyOf (topAt 24)) 6)) (FuncBody.stmts (bodyOf (nth (bodyOf (topAt 24)) 6))) (scopeOf (nth (bodyOf (topAt 24)) 6)) 0 [] Value.none Value.none Value.none Value.none Option.none Value.none Value.none 0)) (List.toArray [])))
noncomputable def a636 : Params → Obj := (fun P => (Obj.mk (Value.type "code") Option.none (Data.fields (List.toArray [(Value.str (S "less") 1978), (Value.str (S "Whitespace.less") 1979), (Value.str (S "/claim/cut.py") 1980), (Value.int 124 0), (Value.int 2 0), (Value.int 0 0), (Value.int 0 0), (Value.int 3 0), (Value.ref 190), (Value.bool Bool.true), (Value.int 181 0), (Value.ref 191), Value.none, (Value.ref 192), (Value.ref 193), (Value.ref 194), (Value.int 1985 0), (Value.int 124 0), (Value.str (S "/claim/cut.py") 1986)])) (List.toArray [])))
noncomputable def a637 : Params → Obj := (fun P => (Obj.mk (Value.type "function") Option.none (Data.func (FuncData.mk (S "less") (S "Whitespace.less") (argOf (nth (bodyOf (topAt 24)) 6)) (FuncBody.stmts (bodyOf (nth (bodyOf (topAt 24)) 6))) (scopeOf (nth (bodyOf (topAt 24)) 6)) 3 [] Value.none Value.none Value.none (Value.str (S "cpy313.tabnanny") 1907) Option.none (Value.ref 195) Value.none 0)) (List.toArray [])))
noncomputable def a638 : Params → Obj := (fun P => (Obj.mk (Value.type "tuple") Option.none (Data.seq (List.toArray []) 0) (List.toArray [])))
noncomputable def a639 : Params → Obj := (fun P => (Obj.mk Value.none Option.none (Data.fields (List.toArray [])) (List.toArray [])))
noncomputable def a640 : Params → Obj := (fun P => (Obj.mk (Value.type "tuple") Option.none (Data.seq (List.toArray [(Value.str (S "self") 1991), (Value.str (S "other") 1992)]) 0) (List.toArray [])))
noncomputable def a641 : Params → Obj := (fun P => (Obj.mk (Value.type "tuple") Option.none (Data.seq (List.toArray []) 0) (List.toArray [])))
noncomputable def a642 : Params → Obj := (fun P => (Obj.mk Value.none Option.none (Data.func (FuncData.mk (S "not_less_witness") (S "Whitespace.not_less_witness") (argOf (nth (bodyOf (topAt 24)) 7)) (FuncBody.stmts (bodyOf (nth (bodyOf (topAt 24)) 7))) (scopeOf (nth (bodyOf (topAt 24)) 5)) 0 [] Value.none Value.none Value.none Value.none Option.none Value.none Value.none 0)) (List.toArray [])))
noncomputable def a643 : Params → Obj := (fun P => (Obj.mk (Value.type "code") Option.none (Data.fields (List.toArray [(Value.str (S "not_less_witness") 1988), (Value.str (S "Whitespace.not_less_witness") 1989), (Value.str (S "/claim/cut.py") 1990), (Value.int 135 0), (Value.int 2 0), (Value.int 0 0), (Value.int 0 0), (Value.int 3 0), (Value.ref 197), (Value.bool Bool.true), (Value.int 181 0), (Value.ref 198), Value.none, (Value.ref 199), (Value.ref 200), (Value.ref 201), (Value.int 1993 0), (Value.int 135 0), (Value.str (S "/claim/cut.py") 1994)])) (List.toArray [])))
noncomputable def a644 : Params → Obj := (fun P => (Obj.mk (Value.type "function") Option.none (Data.func (FuncData.mk (S "not_less_witness") (S "Whitespace.not_less_witness") (argOf (nth (bodyOf (topAt 24)) 7)) (FuncBody.stmts (bodyOf (nth (bodyOf (topAt 24)) 7))) (scopeOf (nth (bodyOf (topAt 24)) 5)) 3 [] Value.none Value.none Value.none (Value.str (S "cpy313.tabnanny") 1907) Option.none (Value.ref 202) Value.none 0)) (List.toArray [])))
noncomputable def a645 : Params → Obj := (fun P => (Obj.mk (Value.type "tuple") Option.none (Data.seq (List.toArray [(Value.str (S "is_simple") 1996), (Value.str (S "n") 1997), (Value.str (S "norm") 1998), (Value.str (S "nt") 1999), (Value.str (S "raw") 2000)]) 0) (List.toArray [])))
noncomputable def a646 : Params → Obj := (fun P => (Obj.mk (Value.type "dict") Option.none (Data.dict (List.toArray [(dE P "__module__" 1916 (Value.str (S "cpy313.tabnanny") 1907)), (dE P "__firstlineno__" 1920 (Value.int 81 1919)), (dE P "S" 1924 (Value.str (S " ") 1922)), (dE P "T" 1925 (Value.str (S "\t") 1923)), (dE P "__init__" 1940 (Value.ref 161)), (dE P "longest_run_of_spaces" 1949 (Value.ref 168)), (dE P "indent_level" 1961 (Value.ref 175)), (dE P "equal" 1969 (Value.ref 182)), (dE P "not_equal_witness" 1977 (Value.ref 189)), (dE P "less" 1987 (Value.ref 196)), (dE P "not_less_witness" 1995 (Value.ref 203)), (dE P "__static_attributes__" 2001 (Value.ref 204)), (dE P "__dict__" 2003 (Value.ref 207)), (dE P "__weakref__" 2005 (Value.ref 208)), (dE P "__doc__" 2006 Value.none)]) 4) (List.toArray [])))
noncomputable def a647 : Params → Obj := (fun P => (Obj.mk (Value.type "type") Option.none (Data.cls (ClassData.mk (S "Whitespace") [(Value.type "object")] [(Value.ref 206), (Value.type "object")] 205 (S "Whitespace") Bool.true [] [] Bool.false Option.none Bool.false)) (List.toArray [Option.none, Option.none, (Option.some (Value.str (S "Whitespace") 1909)), (Option.some (Value.str (S "Whitespace") 1917)), (Option.some (Value.builtin "object.__new__")), (Option.some (Value.bool Bool.true))])))
noncomputable def a648 : Params → Obj := (fun P => (Obj.mk (Value.type "getset_descriptor") Option.none (Data.fields (List.toArray [(Value.str (S "__dict__") 2002), (Value.ref 206), (Value.builtin "function.__dict__"), (Value.builtin "function.__dict__#set")])) (List.toArray [])))
noncomputable def a649 : Params → Obj := (fun P => (Obj.mk (Value.type "getset_descriptor") Option.none (Data.fields (List.toArray [(Value.str (S "__weakref__") 2004), (Value.ref 206), (Value.builtin "ExceptionGroup.__weakref__"), Value.none])) (List.toArray [])))
noncomputable def a650 : Params → Obj := (fun P => (Obj.mk (Value.type "super") Option.none (Data.fields (List.toArray [(Value.ref 206), (Value.ref 206), (Value.ref 206)])) (List.toArray [])))
noncomputable def a651 : Params → Obj := (fun P => (Obj.mk (Value.type "builtin_function_or_method") Option.none (Data.fields (List.toArray [(Value.builtin "object.__init_subclass__"), (Value.ref 206)])) (List.toArray [])))
noncomputable def a654 : Params → Obj := (fun P => (Obj.mk (Value.type "dict") Option.none (Data.dict (List.toArray [(dE P "__name__" 165 (Value.str (S "law_if0006_01") 2053)), (dE P "__doc__" 166 Value.none), (dE P "__package__" 167 Value.none), (dE P "__loader__" 168 (Value.builtin "__main__.__loader__#opaque")), (dE P "__spec__" 169 Value.none), (dE P "__annotations__" 170 (Value.ref 6)), (dE P "__builtins__" 171 (Value.ref 4)), (dE P "__file__" 173 (Value.str (S "/claim/cut.py") 172)), (dE P "__cached__" 174 Value.none), (dE P "_wall" 193 (Value.ref 21)), (dE P "IS_CHARACTER_JUNK" 204 (Value.ref 29)), (dE P "file_template_difflib" 206 (Value.str (strOf (topAt 3)) 205)), (dE P "styles_difflib" 208 (Value.str (strOf (topAt 4)) 207)), (dE P "table_template_difflib" 210 (Value.str (strOf (topAt 5)) 209)), (dE P "legend_difflib" 212 (Value.str (strOf (topAt 6)) 211)), (dE P "HtmlDiff" 351 (Value.ref 111)), (dE P "_QUOPRI_MAP" 1379 (Value.ref 118)), (dE P "_QUOPRI_HEADER_MAP" 1380 (Value.ref 123)), (dE P "_QUOPRI_BODY_MAP" 1381 (Value.ref 125)), (dE P "ascii_lowercase" 1383 (Value.str (strOf (topAt 11)) 1382)), (dE P "ascii_uppercase" 1385 (Value.str (strOf (topAt 12)) 1384)), (dE P "ascii_letters" 1387 (Value.str (S "abcdefghijklmnopqrstuvwxyzABCDEFGHIJKLMNOPQRSTUVWXYZ") 1386)), (dE P "digits" 1389 (Value.str (S "0123456789") 1388)), (dE P "header_encode" 1898 (Value.ref 139)), (dE P "_QUOPRI_BODY_ENCODE_MAP" 1899 (Value.ref 141)), (dE P "Whitespace" 2008 (Value.ref 206)), (dE P "_raise_serialization_error" 2017 (Value.ref 217)), (dE P "_escape_cdata" 2024 (Value.ref 224)), (dE P "_escape_attrib" 2031 (Value.ref 231)), (dE P "_escape_attrib_html" 2038 (Value.ref 238)), (dE P "_escape_cdata_c14n" 2045 (Value.ref 245)), (dE P "_escape_attrib_c14n" 2052 (Value.ref 252)), (dE P "_law_world" 2060 (Value.ref 257)), (dE P "_law_filled" 2072 (Value.ref 264)), (dE P "_law_kind" 2078 (Value.ref 269)), (dE P "law" 2084 (Value.ref 274))]) 38) (List.toArray [])))
noncomputable def a655 : Params → Obj := (fun P => (Obj.mk Value.none Option.none (Data.fields (List.toArray [(Value.int 1 0), (Value.int 0 0), (Value.ref 20), (Value.int 5 0), (Value.int 0 0), (Value.ref 28), (Value.int 11 0), (Value.int 0 0), (Value.ref 35), (Value.int 71 0), (Value.int 0 0), (Value.ref 138), (Value.int 81 0), (Value.int 0 0), (Value.ref 150), (Value.int 138 0), (Value.int 0 0), (Value.ref 216), (Value.int 140 0), (Value.int 0 0), (Value.ref 223), (Value.int 151 0), (Value.int 0 0), (Value.ref 230), (Value.int 170 0), (Value.int 0 0), (Value.ref 237), (Value.int 181 0), (Value.int 0 0), (Value.ref 244), (Value.int 194 0), (Value.int 0 0), (Value.ref 251), (Value.int 212 0), (Value.int 0 0), (Value.ref 256), (Value.int 223 0), (Value.int 0 0), (Value.ref 263), (Value.int 231 0), (Value.int 0 0), (Value.ref 268), (Value.int 234 0), (Value.int 0 0), (Value.ref 273)])) (List.toArray [])))
noncomputable def a656 : Params → Obj := (fun P => (Obj.mk (Value.type "tuple") Option.none (Data.seq (List.toArray []) 0) (List.toArray [])))
noncomputable def a657 : Params → Obj := (fun P => (Obj.mk Value.none Option.none (Data.fields (List.toArray [])) (List.toArray [])))
noncomputable def a658 : Params → Obj := (fun P => (Obj.mk (Value.type "tuple") Option.none (Data.seq (List.toArray [(Value.str (S "text") 2014)]) 0) (List.toArray [])))
noncomputable def a659 : Params → Obj := (fun P => (Obj.mk (Value.type "tuple") Option.none (Data.seq (List.toArray []) 0) (List.toArray [])))
noncomputable def a660 : Params → Obj := (fun P => (Obj.mk Value.none Option.none (Data.func (FuncData.mk (S "_raise_serialization_error") (S "_raise_serialization_error") (argOf (topAt 26)) (FuncBody.stmts (bodyOf (topAt 26))) (scopeOf (topAt 26)) 0 [] Value.none Value.none Value.none Value.none Option.none Value.none Value.none 0)) (List.toArray [])))
noncomputable def a661 : Params → Obj := (fun P => (Obj.mk (Value.type "code") Option.none (Data.fields (List.toArray [(Value.str (S "_raise_serialization_error") 2011), (Value.str (S "_raise_serialization_error") 2012), (Value.str (S "/claim/cut.py") 2013), (Value.int 138 0), (Value.int 1 0), (Value.int 0 0), (Value.int 0 0), (Value.int 3 0), (Value.ref 211), (Value.bool Bool.true), (Value.int 181 0), (Value.ref 212), Value.none, (Value.ref 213), (Value.ref 214), (Value.ref 215), (Value.int 2015 0), (Value.int 138 0), (Value.str (S "/claim/cut.py") 2016)])) (List.toArray [])))
noncomputable def a662 : Params → Obj := (fun P => (Obj.mk (Value.type "function") Option.none (Data.func (FuncData.mk (S "_raise_serialization_error") (S "_raise_serialization_error") (argOf (topAt 26)) (FuncBody.stmts (bodyOf (topAt 26))) (scopeOf (topAt 26)) 3 [] Value.none Value.none Value.none (Value.str (strOf (topAt 25)) 2009) Option.none (Value.ref 216) Value.none 0)) (List.toArray [])))
noncomputable def a663 : Params → Obj := (fun P => (Obj.mk (Value.type "tuple") Option.none (Data.seq (List.toArray []) 0) (List.toArray [])))
noncomputable def a664 : Params → Obj := (fun P => (Obj.mk Value.none Option.none (Data.fields (List.toArray [])) (List.toArray [])))
noncomputable def a665 : Params → Obj := (fun P => (Obj.mk (Value.type "tuple") Option.none (Data.seq (List.toArray [(Value.str (S "text") 2021)]) 0) (List.toArray [])))
noncomputable def a666 : Params → Obj := (fun P => (Obj.mk (Value.type "tuple") Option.none (Data.seq (List.toArray []) 0) (List.toArray [])))
noncomputable def a667 : Params → Obj := (fun P => (Obj.mk Value.none Option.none (Data.func (FuncData.mk (S "_escape_cdata") (S "_escape_cdata") (argOf (topAt 27)) (FuncBody.stmts (bodyOf (topAt 27))) (scopeOf (topAt 27)) 0 [] Value.none Value.none Value.none Value.none Option.none Value.none Value.none 0)) (List.toArray [])))
noncomputable def a668 : Params → Obj := (fun P => (Obj.mk (Value.type "code") Option.none (Data.fields (List.toArray [(Value.str (S "_escape_cdata") 2018), (Value.str (S "_escape_cdata") 2019), (Value.str (S "/claim/cut.py") 2020), (Value.int 140 0), (Value.int 1 0), (Value.int 0 0), (Value.int 0 0), (Value.int 3 0), (Value.ref 218), (Value.bool Bool.true), (Value.int 181 0), (Value.ref 219), Value.none, (Value.ref 220), (Value.ref 221), (Value.ref 222), (Value.int 2022 0), (Value.int 140 0), (Value.str (S "/claim/cut.py") 2023)])) (List.toArray [])))
noncomputable def a669 : Params → Obj := (fun P => (Obj.mk (Value.type "function") Option.none (Data.func (FuncData.mk (S "_escape_cdata") (S "_escape_cdata") (argOf (topAt 27)) (FuncBody.stmts (bodyOf (topAt 27))) (scopeOf (topAt 27)) 3 [] Value.none Value.none Value.none (Value.str (strOf (topAt 25)) 2009) Option.none (Value.ref 223) Value.none 0)) (List.toArray [])))
noncomputable def a670 : Params → Obj := (fun P => (Obj.mk (Value.type "tuple") Option.none (Data.seq (List.toArray []) 0) (List.toArray [])))
noncomputable def a671 : Params → Obj := (fun P => (Obj.mk Value.none Option.none (Data.fields (List.toArray [])) (List.toArray [])))
noncomputable def a672 : Params → Obj := (fun P => (Obj.mk (Value.type "tuple") Option.none (Data.seq (List.toArray [(Value.str (S "text") 2028)]) 0) (List.toArray [])))
noncomputable def a673 : Params → Obj := (fun P => (Obj.mk (Value.type "tuple") Option.none (Data.seq (List.toArray []) 0) (List.toArray [])))
noncomputable def a674 : Params → Obj := (fun P => (Obj.mk Value.none Option.none (Data.func (FuncData.mk (S "_escape_attrib") (S "_escape_attrib") (argOf (topAt 28)) (FuncBody.stmts (bodyOf (topAt 28))) (scopeOf (topAt 27)) 0 [] Value.none Value.none Value.none Value.none Option.none Value.none Value.none 0)) (List.toArray [])))
noncomputable def a675 : Params → Obj := (fun P => (Obj.mk (Value.type "code") Option.none (Data.fields (List.toArray [(Value.str (S "_escape_attrib") 2025), (Value.str (S "_escape_attrib") 2026), (Value.str (S "/claim/cut.py") 2027), (Value.int 151 0), (Value.int 1 0), (Value.int 0 0), (Value.int 0 0), (Value.int 3 0), (Value.ref 225), (Value.bool Bool.true), (Value.int 181 0), (Value.ref 226), Value.none, (Value.ref 227), (Value.ref 228), (Value.ref 229), (Value.int 2029 0), (Value.int 151 0), (Value.str (S "/claim/cut.py") 2030)])) (List.toArray [])))
noncomputable def a676 : Params → Obj := (fun P => (Obj.mk (Value.type "function") Option.none (Data.func (FuncData.mk (S "_escape_attrib") (S "_escape_attrib") (argOf (topAt 28)) (FuncBody.stmts (bodyOf (topAt 28))) (scopeOf (topAt 27)) 3 [] Value.none Value.none Value.none (Value.str (strOf (topAt 25)) 2009) Option.none (Value.ref 230) Value.none 0)) (List.toArray [])))
noncomputable def a677 : Params → Obj := (fun P => (Obj.mk (Value.type "tuple") Option.none (Data.seq (List.toArray []) 0) (List.toArray [])))
noncomputable def a678 : Params → Obj := (fun P => (Obj.mk Value.none Option.none (Data.fields (List.toArray [])) (List.toArray [])))
noncomputable def a679 : Params → Obj := (fun P => (Obj.mk (Value.type "tuple") Option.none (Data.seq (List.toArray [(Value.str (S "text") 2035)]) 0) (List.toArray [])))
noncomputable def a680 : Params → Obj := (fun P => (Obj.mk (Value.type "tuple") Option.none (Data.seq (List.toArray []) 0) (List.toArray [])))
noncomputable def a681 : Params → Obj := (fun P => (Obj.mk Value.none Option.none (Data.func (FuncData.mk (S "_escape_attrib_html") (S "_escape_attrib_html") (argOf (topAt 29)) (FuncBody.stmts (bodyOf (topAt 29))) (scopeOf (topAt 27)) 0 [] Value.none Value.none Value.none Value.none Option.none Value.none Value.none 0)) (List.toArray [])))
noncomputable def a682 : Params → Obj := (fun P => (Obj.mk (Value.type "code") Option.none (Data.fields (List.toArray [(Value.str (S "_escape_attrib_html") 2032), (Value.str (S "_escape_attrib_html") 2033), (Value.str (S "/claim/cut.py") 2034), (Value.int 170 0), (Value.int 1 0), (Value.int 0 0), (Value.int 0 0), (Value.int 3 0), (Value.ref 232), (Value.bool Bool.true), (Value.int 181 0), (Value.ref 233), Value.none, (Value.ref 234), (Value.ref 235), (Value.ref 236), (Value.int 2036 0), (Value.int 170 0), (Value.str (S "/claim/cut.py") 2037)])) (List.toArray [])))
noncomputable def a683 : Params → Obj := (fun P => (Obj.mk (Value.type "function") Option.none (Data.func (FuncData.mk (S "_escape_attrib_html") (S "_escape_attrib_html") (argOf (topAt 29)) (FuncBody.stmts (bodyOf (topAt 29))) (scopeOf (topAt 27)) 3 [] Value.none Value.none Value.none (Value.str (strOf (topAt 25)) 2009) Option.none (Value.ref 237) Value.none 0)) (List.toArray [])))
noncomputable def a684 : Params → Obj := (fun P => (Obj.mk (Value.type "tuple") Option.none (Data.seq (List.toArray []) 0) (List.toArray [])))
noncomputable def a685 : Params → Obj := (fun P => (Obj.mk Value.none Option.none (Data.fields (List.toArray [])) (List.toArray [])))
noncomputable def a686 : Params → Obj := (fun P => (Obj.mk (Value.type "tuple") Option.none (Data.seq (List.toArray [(Value.str (S "text") 2042)]) 0) (List.toArray [])))
noncomputable def a687 : Params → Obj := (fun P => (Obj.mk (Value.type "tuple") Option.none (Data.seq (List.toArray []) 0) (List.toArray [])))
noncomputable def a688 : Params → Obj := (fun P => (Obj.mk Value.none Option.none (Data.func (FuncData.mk (S "_escape_cdata_c14n") (S "_escape_cdata_c14n") (argOf (topAt 30)) (FuncBody.stmts (bodyOf (topAt 30))) (scopeOf (topAt 27)) 0 [] Value.none Value.none Value.none Value.none Option.none Value.none Value.none 0)) (List.toArray [])))
noncomputable def a689 : Params → Obj := (fun P => (Obj.mk (Value.type "code") Option.none (Data.fields (List.toArray [(Value.str (S "_escape_cdata_c14n") 2039), (Value.str (S "_escape_cdata_c14n") 2040), (Value.str (S "/claim/cut.py") 2041), (Value.int 181 0), (Value.int 1 0), (Value.int 0 0), (Value.int 0 0), (Value.int 3 0), (Value.ref 239), (Value.bool Bool.true), (Value.int 181 0), (Value.ref 240), Value.none, (Value.ref 241), (Value.ref 242), (Value.ref 243), (Value.int 2043 0), (Value.int 181 0), (Value.str (S "/claim/cut.py") 2044)])) (List.toArray [])))
noncomputable def a690 : Params → Obj := (fun P => (Obj.mk (Value.type "function") Option.none (Data.func (FuncData.mk (S "_escape_cdata_c14n") (S "_escape_cdata_c14n") (argOf (topAt 30)) (FuncBody.stmts (bodyOf (topAt 30))) (scopeOf (topAt 27)) 3 [] Value.none Value.none Value.none (Value.str (strOf (topAt 25)) 2009) Option.none (Value.ref 244) Value.none 0)) (List.toArray [])))
noncomputable def a691 : Params → Obj := (fun P => (Obj.mk (Value.type "tuple") Option.none (Data.seq (List.toArray []) 0) (List.toArray [])))
noncomputable def a692 : Params → Obj := (fun P => (Obj.mk Value.none Option.none (Data.fields (List.toArray [])) (List.toArray [])))
noncomputable def a693 : Params → Obj := (fun P => (Obj.mk (Value.type "tuple") Option.none (Data.seq (List.toArray [(Value.str (S "text") 2049)]) 0) (List.toArray [])))
noncomputable def a694 : Params → Obj := (fun P => (Obj.mk (Value.type "tuple") Option.none (Data.seq (List.toArray []) 0) (List.toArray [])))
noncomputable def a695 : Params → Obj := (fun P => (Obj.mk Value.none Option.none (Data.func (FuncData.mk (S "_escape_attrib_c14n") (S "_escape_attrib_c14n") (argOf (topAt 31)) (FuncBody.stmts (bodyOf (topAt 31))) (scopeOf (topAt 27)) 0 [] Value.none Value.none Value.none Value.none Option.none Value.none Value.none 0)) (List.toArray [])))
noncomputable def a696 : Params → Obj := (fun P => (Obj.mk (Value.type "code") Option.none (Data.fields (List.toArray [(Value.str (S "_escape_attrib_c14n") 2046), (Value.str (S "_escape_attrib_c14n") 2047), (Value.str (S "/claim/cut.py") 2048), (Value.int 194 0), (Value.int 1 0), (Value.int 0 0), (Value.int 0 0), (Value.int 3 0), (Value.ref 246), (Value.bool Bool.true), (Value.int 181 0), (Value.ref 247), Value.none, (Value.ref 248), (Value.ref 249), (Value.ref 250), (Value.int 2050 0), (Value.int 194 0), (Value.str (S "/claim/cut.py") 2051)])) (List.toArray [])))
noncomputable def a697 : Params → Obj := (fun P => (Obj.mk (Value.type "function") Option.none (Data.func (FuncData.mk (S "_escape_attrib_c14n") (S "_escape_attrib_c14n") (argOf (topAt 31)) (FuncBody.stmts (bodyOf (topAt 31))) (scopeOf (topAt 27)) 3 [] Value.none Value.none Value.none (Value.str (strOf (topAt 25)) 2009) Option.none (Value.ref 251) Value.none 0)) (List.toArray [])))
noncomputable def a698 : Params → Obj := (fun P => (Obj.mk (Value.type "tuple") Option.none (Data.seq (List.toArray []) 0) (List.toArray [])))
noncomputable def a699 : Params → Obj := (fun P => (Obj.mk Value.none Option.none (Data.fields (List.toArray [])) (List.toArray [])))
noncomputable def a700 : Params → Obj := (fun P => (Obj.mk Value.none Option.none (Data.func (FuncData.mk (S "_law_world") (S "_law_world") (argOf (topAt 33)) (FuncBody.stmts (bodyOf (topAt 33))) (scopeOf (topAt 33)) 0 [] Value.none Value.none Value.none Value.none Option.none Value.none Value.none 0)) (List.toArray [])))
noncomputable def a701 : Params → Obj := (fun P => (Obj.mk (Value.type "code") Option.none (Data.fields (List.toArray [(Value.str (S "_law_world") 2055), (Value.str (S "_law_world") 2056), (Value.str (S "/claim/cut.py") 2057), (Value.int 212 0), (Value.int 1 0), (Value.int 0 0), (Value.int 0 0), (Value.int 3 0), (Value.ref 253), (Value.bool Bool.true), (Value.int 181 0), (Value.ref 254), Value.none, Value.none, Value.none, (Value.ref 255), (Value.int 2058 0), (Value.int 212 0), (Value.str (S "/claim/cut.py") 2059)])) (List.toArray [])))
noncomputable def a702 : Params → Obj := (fun P => (Obj.mk (Value.type "function") Option.none (Data.func (FuncData.mk (S "_law_world") (S "_law_world") (argOf (topAt 33)) (FuncBody.stmts (bodyOf (topAt 33))) (scopeOf (topAt 33)) 3 [] Value.none Value.none Value.none (Value.str (S "law_if0006_01") 2053) Option.none (Value.ref 256) Value.none 0)) (List.toArray [])))
noncomputable def a703 : Params → Obj := (fun P => (Obj.mk (Value.type "tuple") Option.none (Data.seq (List.toArray []) 0) (List.toArray [])))
noncomputable def a704 : Params → Obj := (fun P => (Obj.mk Value.none Option.none (Data.fields (List.toArray [])) (List.toArray [])))
noncomputable def a705 : Params → Obj := (fun P => (Obj.mk (Value.type "tuple") Option.none (Data.seq (List.toArray [(Value.str (S "line") 2064), (Value.str (S "sizes") 2065), (Value.str (S "out") 2066), (Value.str (S "run") 2067), (Value.str (S "tabs") 2068), (Value.str (S "size") 2069)]) 0) (List.toArray [])))
noncomputable def a706 : Params → Obj := (fun P => (Obj.mk (Value.type "tuple") Option.none (Data.seq (List.toArray []) 0) (List.toArray [])))
noncomputable def a707 : Params → Obj := (fun P => (Obj.mk Value.none Option.none (Data.func (FuncData.mk (S "_law_filled") (S "_law_filled") (argOf (topAt 34)) (FuncBody.stmts (bodyOf (topAt 34))) (scopeOf (topAt 34)) 0 [] Value.none Value.none Value.none Value.none Option.none Value.none Value.none 0)) (List.toArray [])))
noncomputable def a708 : Params → Obj := (fun P => (Obj.mk (Value.type "code") Option.none (Data.fields (List.toArray [(Value.str (S "_law_filled") 2061), (Value.str (S "_law_filled") 2062), (Value.str (S "/claim/cut.py") 2063), (Value.int 223 0), (Value.int 2 0), (Value.int 0 0), (Value.int 0 0), (Value.int 3 0), (Value.ref 258), (Value.bool Bool.true), (Value.int 181 0), (Value.ref 259), Value.none, (Value.ref 260), (Value.ref 261), (Value.ref 262), (Value.int 2070 0), (Value.int 223 0), (Value.str (S "/claim/cut.py") 2071)])) (List.toArray [])))
noncomputable def a709 : Params → Obj := (fun P => (Obj.mk (Value.type "function") Option.none (Data.func (FuncData.mk (S "_law_filled") (S "_law_filled") (argOf (topAt 34)) (FuncBody.stmts (bodyOf (topAt 34))) (scopeOf (topAt 34)) 3 [] Value.none Value.none Value.none (Value.str (S "law_if0006_01") 2053) Option.none (Value.ref 263) Value.none 0)) (List.toArray [])))
noncomputable def a710 : Params → Obj := (fun P => (Obj.mk (Value.type "tuple") Option.none (Data.seq (List.toArray []) 0) (List.toArray [])))
noncomputable def a711 : Params → Obj := (fun P => (Obj.mk Value.none Option.none (Data.fields (List.toArray [])) (List.toArray [])))
noncomputable def a712 : Params → Obj := (fun P => (Obj.mk Value.none Option.none (Data.func (FuncData.mk (S "_law_kind") (S "_law_kind") (argOf (topAt 35)) (FuncBody.stmts (bodyOf (topAt 35))) (scopeOf (topAt 35)) 0 [] Value.none Value.none Value.none Value.none Option.none Value.none Value.none 0)) (List.toArray [])))
noncomputable def a713 : Params → Obj := (fun P => (Obj.mk (Value.type "code") Option.none (Data.fields (List.toArray [(Value.str (S "_law_kind") 2073), (Value.str (S "_law_kind") 2074), (Value.str (S "/claim/cut.py") 2075), (Value.int 231 0), (Value.int 1 0), (Value.int 0 0), (Value.int 0 0), (Value.int 3 0), (Value.ref 265), (Value.bool Bool.true), (Value.int 181 0), (Value.ref 266), Value.none, Value.none, Value.none, (Value.ref 267), (Value.int 2076 0), (Value.int 231 0), (Value.str (S "/claim/cut.py") 2077)])) (List.toArray [])))
noncomputable def a714 : Params → Obj := (fun P => (Obj.mk (Value.type "function") Option.none (Data.func (FuncData.mk (S "_law_kind") (S "_law_kind") (argOf (topAt 35)) (FuncBody.stmts (bodyOf (topAt 35))) (scopeOf (topAt 35)) 3 [] Value.none Value.none Value.none (Value.str (S "law_if0006_01") 2053) Option.none (Value.ref 268) Value.none 0)) (List.toArray [])))
noncomputable def a715 : Params → Obj := (fun P => (Obj.mk (Value.type "tuple") Option.none (Data.seq (List.toArray []) 0) (List.toArray [])))
noncomputable def a716 : Params → Obj := (fun P => (Obj.mk Value.none Option.none (Data.fields (List.toArray [])) (List.toArray [])))
noncomputable def a717 : Params → Obj := (fun P => (Obj.mk Value.none Option.none (Data.func (FuncData.mk (S "law") (S "law") (argOf (topAt 36)) (FuncBody.stmts (bodyOf (topAt 36))) (scopeOf (topAt 36)) 0 [] Value.none Value.none Value.none Value.none Option.none Value.none Value.none 0)) (List.toArray [])))
noncomputable def a718 : Params → Obj := (fun P => (Obj.mk (Value.type "code") Option.none (Data.fields (List.toArray [(Value.str (S "law") 2079), (Value.str (S "law") 2080), (Value.str (S "/claim/cut.py") 2081), (Value.int 234 0), (Value.int 1 0), (Value.int 0 0), (Value.int 0 0), (Value.int 3 0), (Value.ref 270), (Value.bool Bool.true), (Value.int 181 0), (Value.ref 271), Value.none, Value.none, Value.none, (Value.ref 272), (Value.int 2082 0), (Value.int 234 0), (Value.str (S "/claim/cut.py") 2083)])) (List.toArray [])))
noncomputable def a719 : Params → Obj := (fun P => (Obj.mk (Value.type "function") Option.none (Data.func (FuncData.mk (S "law") (S "law") (argOf (topAt 36)) (FuncBody.stmts (bodyOf (topAt 36))) (scopeOf (topAt 36)) 3 [] Value.none Value.none Value.none (Value.str (S "law_if0006_01") 2053) Option.none (Value.ref 273) Value.none 0)) (List.toArray [])))
noncomputable def a725 : Params → Obj := (fun P => (Obj.mk Value.none Option.none (Data.dict (List.toArray []) 0) (List.toArray [])))
noncomputable def a740 : Params → Obj := (fun P => (Obj.mk (Value.type "dict") Option.none (Data.dict (List.toArray [(dE P "__name__" 1 (Value.str (S "builtins") 160)), (dE P "__doc__" 2 (Value.builtin "builtins.__doc__:str#opaque")), (dE P "__package__" 3 (Value.builtin "builtins.__package__:str#opaque")), (dE P "__loader__" 4 (Value.builtin "builtins.__loader__:shared#opaque")), (dE P "__spec__" 5 (Value.builtin "builtins.__spec__#opaque")), (dE P "__build_class__" 6 (Value.builtin "__build_class__")), (dE P "__import__" 7 (Value.builtin "__import__")), (dE P "abs" 8 (Value.builtin "abs")), (dE P "all" 9 (Value.builtin "all")), (dE P "any" 10 (Value.builtin "any")), (dE P "ascii" 11 (Value.builtin "ascii")), (dE P "bin" 12 (Value.builtin "bin")), (dE P "breakpoint" 13 (Value.builtin "breakpoint")), (dE P "callable" 14 (Value.builtin "callable")), (dE P "chr" 15 (Value.builtin "chr")), (dE P "compile" 16 (Value.builtin "compile")), (dE P "delattr" 17 (Value.builtin "delattr")), (dE P "dir" 18 (Value.builtin "dir")), (dE P "divmod" 19 (Value.builtin "divmod")), (dE P "eval" 20 (Value.builtin "eval")), (dE P "exec" 21 (Value.builtin "exec")), (dE P "format" 22 (Value.builtin "format")), (dE P "getattr" 23 (Value.builtin "getattr")), (dE P "globals" 24 (Value.builtin "globals")), (dE P "hasattr" 25 (Value.builtin "hasattr")), (dE P "hash" 26 (Value.builtin "hash")), (dE P "hex" 27 (Value.builtin "hex")), (dE P "id" 28 (Value.builtin "id")), (dE P "input" 29 (Value.builtin "input")), (dE P "isinstance" 30 (Value.builtin "isinstance")), (dE P "issubclass" 31 (Value.builtin "issubclass")), (dE P "iter" 32 (Value.builtin "iter")), (dE P "aiter" 33 (Value.builtin "aiter")), (dE P "len" 34 (Value.builtin "len")), (dE P "locals" 35 (Value.builtin "locals")), (dE P "max" 36 (Value.builtin "max")), (dE P "min" 37 (Value.builtin "min")), (dE P "next" 38 (Value.builtin "next")), (dE P "anext" 39 (Value.builtin "anext")), (dE P "oct" 40 (Value.builtin "oct")), (dE P "ord" 41 (Value.builtin "ord")), (dE P "pow" 42 (Value.builtin "pow")), (dE P "print" 43 (Value.builtin "print")), (dE P "repr" 44 (Value.builtin "repr")), (dE P "round" 45 (Value.builtin "round")), (dE P "setattr" 46 (Value.builtin "setattr")), (dE P "sorted" 47 (Value.builtin "sorted")), (dE P "sum" 48 (Value.builtin "sum")), (dE P "vars" 49 (Value.builtin "vars")), (dE P "None" 50 Value.none), (dE P "Ellipsis" 51 Value.ellipsis), (dE P "NotImplemented" 52 Value.notImplemented), (dE P "False" 53 (Value.bool Bool.false)), (dE P "True" 54 (Value.bool Bool.true)), (dE P "bool" 55 (Value.type "bool")), (dE P "memoryview" 56 (Value.type "memoryview")), (dE P "bytearray" 57 (Value.type "bytearray")), (dE P "bytes" 58 (Value.type "bytes")), (dE P "classmethod" 59 (Value.type "classmethod")), (dE P "complex" 60 (Value.type "complex")), (dE P "dict" 61 (Value.type "dict")), (dE P "enumerate" 62 (Value.type "enumerate")), (dE P "filter" 63 (Value.type "filter")), (dE P "float" 64 (Value.type "float")), (dE P "frozenset" 65 (Value.type "frozenset")), (dE P "property" 66 (Value.type "property")), (dE P "int" 67 (Value.type "int")), (dE P "list" 68 (Value.type "list")), (dE P "map" 69 (Value.type "map")), (dE P "object" 70 (Value.type "object")), (dE P "range" 71 (Value.type "range")), (dE P "reversed" 72 (Value.type "reversed")), (dE P "set" 73 (Value.type "set")), (dE P "slice" 74 (Value.type "slice")), (dE P "staticmethod" 75 (Value.type "staticmethod")), (dE P "str" 76 (Value.type "str")), (dE P "super" 77 (Value.type "super")), (dE P "tuple" 78 (Value.type "tuple")), (dE P "type" 79 (Value.type "type")), (dE P "zip" 80 (Value.type "zip")), (dE P "__debug__" 81 (Value.bool Bool.true)), (dE P "BaseException" 82 (Value.type "BaseException")), (dE P "BaseExceptionGroup" 83 (Value.type "BaseExceptionGroup")), (dE P "Exception" 84 (Value.type "Exception")), (dE P "GeneratorExit" 85 (Value.type "GeneratorExit")), (dE P "KeyboardInterrupt" 86 (Value.type "KeyboardInterrupt")), (dE P "SystemExit" 87 (Value.type "SystemExit")), (dE P "ArithmeticError" 88 (Value.type "ArithmeticError")), (dE P "AssertionError" 89 (Value.type "AssertionError")), (dE P "AttributeError" 90 (Value.type "AttributeError")), (dE P "BufferError" 91 (Value.type "BufferError")), (dE P "EOFError" 92 (Value.type "EOFError")), (dE P "ImportError" 93 (Value.type "ImportError")), (dE P "LookupError" 94 (Value.type "LookupError")), (dE P "MemoryError" 95 (Value.type "MemoryError")), (dE P "NameError" 96 (Value.type "NameError")), (dE P "OSError" 97 (Value.type "OSError")), (dE P "ReferenceError" 98 (Value.type "ReferenceError")), (dE P "RuntimeError" 99 (Value.type "RuntimeError")), (dE P "StopAsyncIteration" 100 (Value.type "StopAsyncIteration")), (dE P "StopIteration" 101 (Value.type "StopIteration")), (dE P "SyntaxError" 102 (Value.type "SyntaxError")), (dE P "SystemError" 103 (Value.type "SystemError")), (dE P "TypeError" 104 (Value.type "TypeError")), (dE P "ValueError" 105 (Value.type "ValueError")), (dE P "Warning" 106 (Value.type "Warning")), (dE P "FloatingPointError" 107 (Value.type "FloatingPointError")), (dE P "OverflowError" 108 (Value.type "OverflowError")), (dE P "ZeroDivisionError" 109 (Value.type "ZeroDivisionError")), (dE P "BytesWarning" 110 (Value.type "BytesWarning")), (dE P "DeprecationWarning" 111 (Value.type "DeprecationWarning")), (dE P "EncodingWarning" 112 (Value.type "EncodingWarning")), (dE P "FutureWarning" 113 (Value.type "FutureWarning")), (dE P "ImportWarning" 114 (Value.type "ImportWarning")), (dE P "PendingDeprecationWarning" 115 (Value.type "PendingDeprecationWarning")), (dE P "ResourceWarning" 116 (Value.type "ResourceWarning")), (dE P "RuntimeWarning" 117 (Value.type "RuntimeWarning")), (dE P "SyntaxWarning" 118 (Value.type "SyntaxWarning")), (dE P "UnicodeWarning" 119 (Value.type "UnicodeWarning")), (dE P "UserWarning" 120 (Value.type "UserWarning")), (dE P "BlockingIOError" 121 (Value.type "BlockingIOError")), (dE P "ChildProcessError" 122 (Value.type "ChildProcessError")), (dE P "ConnectionError" 123 (Value.type "ConnectionError")), (dE P "FileExistsError" 124 (Value.type "FileExistsError")), (dE P "FileNotFoundError" 125 (Value.type "FileNotFoundError")), (dE P "InterruptedError" 126 (Value.type "InterruptedError")), (dE P "IsADirectoryError" 127 (Value.type "IsADirectoryError")), (dE P "NotADirectoryError" 128 (Value.type "NotADirectoryError")), (dE P "PermissionError" 129 (Value.type "PermissionError")), (dE P "ProcessLookupError" 130 (Value.type "ProcessLookupError")), (dE P "TimeoutError" 131 (Value.type "TimeoutError")), (dE P "IndentationError" 132 (Value.type "IndentationError")), (dE P "_IncompleteInputError" 133 (Value.type "_IncompleteInputError")), (dE P "IndexError" 134 (Value.type "IndexError")), (dE P "KeyError" 135 (Value.type "KeyError")), (dE P "ModuleNotFoundError" 136 (Value.type "ModuleNotFoundError")), (dE P "NotImplementedError" 137 (Value.type "NotImplementedError")), (dE P "PythonFinalizationError" 138 (Value.type "PythonFinalizationError")), (dE P "RecursionError" 139 (Value.type "RecursionError")), (dE P "UnboundLocalError" 140 (Value.type "UnboundLocalError")), (dE P "UnicodeError" 141 (Value.type "UnicodeError")), (dE P "BrokenPipeError" 142 (Value.type "BrokenPipeError")), (dE P "ConnectionAbortedError" 143 (Value.type "ConnectionAbortedError")), (dE P "ConnectionRefusedError" 144 (Value.type "ConnectionRefusedError")), (dE P "ConnectionResetError" 145 (Value.type "ConnectionResetError")), (dE P "TabError" 146 (Value.type "TabError")), (dE P "UnicodeDecodeError" 147 (Value.type "UnicodeDecodeError")), (dE P "UnicodeEncodeError" 148 (Value.type "UnicodeEncodeError")), (dE P "UnicodeTranslateError" 149 (Value.type "UnicodeTranslateError")), (dE P "ExceptionGroup" 150 (Value.type "ExceptionGroup")), (dE P "EnvironmentError" 151 (Value.type "OSError")), (dE P "IOError" 152 (Value.type "OSError")), (dE P "open" 153 (Value.builtin "open")), (dE P "quit" 154 (Value.builtin "builtins.quit#opaque")), (dE P "exit" 155 (Value.builtin "builtins.exit#opaque")), (dE P "copyright" 156 (Value.builtin "builtins.copyright#opaque")), (dE P "credits" 157 (Value.builtin "builtins.credits#opaque")), (dE P "license" 158 (Value.builtin "builtins.license#opaque")), (dE P "help" 159 (Value.builtin "builtins.help#opaque"))]) 159) (List.toArray [])))
noncomputable def a741 : Params → Obj := (fun P => (Obj.mk (Value.type "dict") Option.none (Data.dict (List.toArray [(dE P "builtins" 162 (Value.ref 4)), (dE P "__main__" 163 (Value.ref 5))]) 2) (List.toArray [])))
noncomputable def a743 : Params → Obj := (fun P => (Obj.mk (Value.type "module") (Option.some 0) Data.plain (List.toArray [])))
noncomputable def a744 : Params → Obj := (fun P => (Obj.mk (Value.type "module") (Option.some 3) Data.plain (List.toArray [])))
noncomputable def a745 : Params → Obj := (fun P => (Obj.mk (Value.type "dict") Option.none (Data.dict (List.toArray []) 0) (List.toArray [])))
noncomputable def a746 : Params → Obj := (fun P => (Obj.mk (Value.type "dict") Option.none (Data.dict (List.toArray [(dE P "__name__" 165 (Value.str (S "__main__") 164)), (dE P "__doc__" 166 Value.none), (dE P "__package__" 167 Value.none), (dE P "__loader__" 168 (Value.builtin "__main__.__loader__#opaque")), (dE P "__spec__" 169 Value.none), (dE P "__annotations__" 170 (Value.ref 6)), (dE P "__builtins__" 171 (Value.ref 4)), (dE P "__file__" 173 (Value.str (S "/claim/cut.py") 172)), (dE P "__cached__" 174 Value.none)]) 9) (List.toArray [])))
noncomputable def a747 : Params → Obj := (fun P => (Obj.mk (Value.type "tuple") Option.none (Data.seq (List.toArray []) 0) (List.toArray [])))
noncomputable def a748 : Params → Obj := (fun P => (Obj.mk Value.none Option.none (Data.fields (List.toArray [])) (List.toArray [])))
noncomputable def a749 : Params → Obj := (fun P => (Obj.mk (Value.type "code") Option.none (Data.fields (List.toArray [(Value.str (S "<module>") 176), (Value.str (S "<module>") 177), (Value.str (S "/claim/cut.py") 178), (Value.int 1 0), (Value.int 0 0), (Value.int 0 0), (Value.int 0 0), (Value.int 0 0), (Value.ref 7), (Value.bool Bool.false), (Value.int 175 0), (Value.ref 8), Value.none, Value.none, Value.none, Value.none, (Value.int 179 0), (Value.int 1 0), (Value.str (S "/claim/cut.py") 180)])) (List.toArray [])))
noncomputable def a750 : Params → Obj := (fun P => (Obj.mk (Value.type "frame") Option.none Data.plain (List.toArray [(Option.some (Value.ref 9)), (Option.some (Value.ref 3)), (Option.some (Value.ref 3)), Option.none, (Option.some (Value.str (S "__main__") 164)), Option.none, (Option.some (Value.ref 0))])))
noncomputable def t750 : Params → BT := (fun P => (BT.node (a740 P) (BT.node (a741 P) (BT.node (a746 P) (BT.node (a747 P) BT.nil BT.nil) BT.nil) (BT.node (a744 P) (BT.node (a749 P) BT.nil BT.nil) BT.nil)) (BT.node (a725 P) (BT.node (a743 P) (BT.node (a748 P) BT.nil BT.nil) BT.nil) (BT.node (a745 P) (BT.node (a750 P) BT.nil BT.nil) BT.nil))))
noncomputable def t57 : Params → BT := (fun P => (BT.node (a42 P) (BT.node (a43 P) (BT.node (a45 P) (BT.node (a49 P) BT.nil BT.nil) (BT.node (a53 P) BT.nil BT.nil)) (BT.node (a47 P) (BT.node (a51 P) BT.nil BT.nil) (BT.node (a55 P) BT.nil BT.nil))) (BT.node (a44 P) (BT.node (a46 P) (BT.node (a50 P) BT.nil BT.nil) (BT.node (a54 P) BT.nil BT.nil)) (BT.node (a48 P) (BT.node (a52 P) BT.nil BT.nil) (BT.node (a56 P) BT.nil BT.nil)))))
noncomputable def t163 : Params → BT := (fun P => (BT.node (a42 P) (BT.node (a43 P) (BT.node (a76 P) (BT.node (a49 P) (BT.node (a61 P) (BT.node (a79 P) (BT.node (a111 P) BT.nil BT.nil) (BT.node (a143 P) BT.nil BT.nil)) (BT.node (a95 P) (BT.node (a127 P) BT.nil BT.nil) (BT.node (a159 P) BT.nil BT.nil))) (BT.node (a69 P) (BT.node (a87 P) (BT.node (a119 P) BT.nil BT.nil) (BT.node (a151 P) BT.nil BT.nil)) (BT.node (a103 P) (BT.node (a135 P) BT.nil BT.nil) BT.nil))) (BT.node (a53 P) (BT.node (a65 P) (BT.node (a83 P) (BT.node (a115 P) BT.nil BT.nil) (BT.node (a147 P) BT.nil BT.nil)) (BT.node (a99 P) (BT.node (a131 P) BT.nil BT.nil) (BT.node (a163 P) BT.nil BT.nil))) (BT.node (a73 P) (BT.node (a91 P) (BT.node (a123 P) BT.nil BT.nil) (BT.node (a155 P) BT.nil BT.nil)) (BT.node (a107 P) (BT.node (a139 P) BT.nil BT.nil) BT.nil)))) (BT.node (a47 P) (BT.node (a51 P) (BT.node (a63 P) (BT.node (a81 P) (BT.node (a113 P) BT.nil BT.nil) (BT.node (a145 P) BT.nil BT.nil)) (BT.node (a97 P) (BT.node (a129 P) BT.nil BT.nil) (BT.node (a161 P) BT.nil BT.nil))) (BT.node (a71 P) (BT.node (a89 P) (BT.node (a121 P) BT.nil BT.nil) (BT.node (a153 P) BT.nil BT.nil)) (BT.node (a105 P) (BT.node (a137 P) BT.nil BT.nil) BT.nil))) (BT.node (a55 P) (BT.node (a67 P) (BT.node (a85 P) (BT.node (a117 P) BT.nil BT.nil) (BT.node (a149 P) BT.nil BT.nil)) (BT.node (a101 P) (BT.node (a133 P) BT.nil BT.nil) BT.nil)) (BT.node (a75 P) (BT.node (a93 P) (BT.node (a125 P) BT.nil BT.nil) (BT.node (a157 P) BT.nil BT.nil)) (BT.node (a109 P) (BT.node (a141 P) BT.nil BT.nil) BT.nil))))) (BT.node (a44 P) (BT.node (a46 P) (BT.node (a50 P) (BT.node (a62 P) (BT.node (a80 P) (BT.node (a112 P) BT.nil BT.nil) (BT.node (a144 P) BT.nil BT.nil)) (BT.node (a96 P) (BT.node (a128 P) BT.nil BT.nil) (BT.node (a160 P) BT.nil BT.nil))) (BT.node (a70 P) (BT.node (a88 P) (BT.node (a120 P) BT.nil BT.nil) (BT.node (a152 P) BT.nil BT.nil)) (BT.node (a104 P) (BT.node (a136 P) BT.nil BT.nil) BT.nil))) (BT.node (a77 P) (BT.node (a66 P) (BT.node (a84 P) (BT.node (a116 P) BT.nil BT.nil) (BT.node (a148 P) BT.nil BT.nil)) (BT.node (a100 P) (BT.node (a132 P) BT.nil BT.nil) BT.nil)) (BT.node (a74 P) (BT.node (a92 P) (BT.node (a124 P) BT.nil BT.nil) (BT.node (a156 P) BT.nil BT.nil)) (BT.node (a108 P) (BT.node (a140 P) BT.nil BT.nil) BT.nil)))) (BT.node (a48 P) (BT.node (a52 P) (BT.node (a64 P) (BT.node (a82 P) (BT.node (a114 P) BT.nil BT.nil) (BT.node (a146 P) BT.nil BT.nil)) (BT.node (a98 P) (BT.node (a130 P) BT.nil BT.nil) (BT.node (a162 P) BT.nil BT.nil))) (BT.node (a72 P) (BT.node (a90 P) (BT.node (a122 P) BT.nil BT.nil) (BT.node (a154 P) BT.nil BT.nil)) (BT.node (a106 P) (BT.node (a138 P) BT.nil BT.nil) BT.nil))) (BT.node (a56 P) (BT.node (a68 P) (BT.node (a86 P) (BT.node (a118 P) BT.nil BT.nil) (BT.node (a150 P) BT.nil BT.nil)) (BT.node (a102 P) (BT.node (a134 P) BT.nil BT.nil) BT.nil)) (BT.node (a78 P) (BT.node (a94 P) (BT.node (a126 P) BT.nil BT.nil) (BT.node (a158 P) BT.nil BT.nil)) (BT.node (a110 P) (BT.node (a142 P) BT.nil BT.nil) BT.nil)))))))
noncomputable def t238 : Params → BT := (fun P => (BT.node (a42 P) (BT.node (a43 P) (BT.node (a232 P) (BT.node (a49 P) (BT.node (a61 P) (BT.node (a79 P) (BT.node (a111 P) BT.nil BT.nil) (BT.node (a143 P) BT.nil BT.nil)) (BT.node (a95 P) (BT.node (a127 P) BT.nil BT.nil) (BT.node (a159 P) BT.nil BT.nil))) (BT.node (a69 P) (BT.node (a87 P) (BT.node (a119 P) BT.nil BT.nil) (BT.node (a151 P) BT.nil BT.nil)) (BT.node (a103 P) (BT.node (a135 P) BT.nil BT.nil) (BT.node (a236 P) BT.nil BT.nil)))) (BT.node (a53 P) (BT.node (a65 P) (BT.node (a83 P) (BT.node (a115 P) BT.nil BT.nil) (BT.node (a147 P) BT.nil BT.nil)) (BT.node (a99 P) (BT.node (a131 P) BT.nil BT.nil) (BT.node (a163 P) BT.nil BT.nil))) (BT.node (a73 P) (BT.node (a91 P) (BT.node (a123 P) BT.nil BT.nil) (BT.node (a155 P) BT.nil BT.nil)) (BT.node (a107 P) (BT.node (a139 P) BT.nil BT.nil) BT.nil)))) (BT.node (a47 P) (BT.node (a51 P) (BT.node (a63 P) (BT.node (a81 P) (BT.node (a113 P) BT.nil BT.nil) (BT.node (a145 P) BT.nil BT.nil)) (BT.node (a97 P) (BT.node (a129 P) BT.nil BT.nil) (BT.node (a161 P) BT.nil BT.nil))) (BT.node (a71 P) (BT.node (a89 P) (BT.node (a121 P) BT.nil BT.nil) (BT.node (a153 P) BT.nil BT.nil)) (BT.node (a105 P) (BT.node (a137 P) BT.nil BT.nil) (BT.node (a238 P) BT.nil BT.nil)))) (BT.node (a55 P) (BT.node (a67 P) (BT.node (a85 P) (BT.node (a117 P) BT.nil BT.nil) (BT.node (a149 P) BT.nil BT.nil)) (BT.node (a101 P) (BT.node (a133 P) BT.nil BT.nil) (BT.node (a234 P) BT.nil BT.nil))) (BT.node (a75 P) (BT.node (a93 P) (BT.node (a125 P) BT.nil BT.nil) (BT.node (a157 P) BT.nil BT.nil)) (BT.node (a109 P) (BT.node (a141 P) BT.nil BT.nil) BT.nil))))) (BT.node (a44 P) (BT.node (a46 P) (BT.node (a50 P) (BT.node (a62 P) (BT.node (a80 P) (BT.node (a112 P) BT.nil BT.nil) (BT.node (a144 P) BT.nil BT.nil)) (BT.node (a96 P) (BT.node (a128 P) BT.nil BT.nil) (BT.node (a160 P) BT.nil BT.nil))) (BT.node (a70 P) (BT.node (a88 P) (BT.node (a120 P) BT.nil BT.nil) (BT.node (a152 P) BT.nil BT.nil)) (BT.node (a104 P) (BT.node (a136 P) BT.nil BT.nil) (BT.node (a237 P) BT.nil BT.nil)))) (BT.node (a77 P) (BT.node (a66 P) (BT.node (a84 P) (BT.node (a116 P) BT.nil BT.nil) (BT.node (a148 P) BT.nil BT.nil)) (BT.node (a100 P) (BT.node (a132 P) BT.nil BT.nil) (BT.node (a233 P) BT.nil BT.nil))) (BT.node (a74 P) (BT.node (a92 P) (BT.node (a124 P) BT.nil BT.nil) (BT.node (a156 P) BT.nil BT.nil)) (BT.node (a108 P) (BT.node (a140 P) BT.nil BT.nil) BT.nil)))) (BT.node (a48 P) (BT.node (a52 P) (BT.node (a64 P) (BT.node (a82 P) (BT.node (a114 P) BT.nil BT.nil) (BT.node (a146 P) BT.nil BT.nil)) (BT.node (a98 P) (BT.node (a130 P) BT.nil BT.nil) (BT.node (a162 P) BT.nil BT.nil))) (BT.node (a72 P) (BT.node (a90 P) (BT.node (a122 P) BT.nil BT.nil) (BT.node (a154 P) BT.nil BT.nil)) (BT.node (a106 P) (BT.node (a138 P) BT.nil BT.nil) BT.nil))) (BT.node (a56 P) (BT.node (a68 P) (BT.node (a86 P) (BT.node (a118 P) BT.nil BT.nil) (BT.node (a150 P) BT.nil BT.nil)) (BT.node (a102 P) (BT.node (a134 P) BT.nil BT.nil) (BT.node (a235 P) BT.nil BT.nil))) (BT.node (a78 P) (BT.node (a94 P) (BT.node (a126 P) BT.nil BT.nil) (BT.node (a158 P) BT.nil BT.nil)) (BT.node (a110 P) (BT.node (a142 P) BT.nil BT.nil) BT.nil)))))))
noncomputable def t540 : Params → BT := (fun P => (BT.node (a42 P) (BT.node (a43 P) (BT.node (a536 P) (BT.node (a49 P) (BT.node (a61 P) (BT.node (a79 P) (BT.node (a111 P) (BT.node (a539 P) BT.nil BT.nil) BT.nil) (BT.node (a143 P) BT.nil BT.nil)) (BT.node (a95 P) (BT.node (a127 P) BT.nil BT.nil) (BT.node (a159 P) BT.nil BT.nil))) (BT.node (a69 P) (BT.node (a87 P) (BT.node (a119 P) BT.nil BT.nil) (BT.node (a151 P) BT.nil BT.nil)) (BT.node (a103 P) (BT.node (a135 P) BT.nil BT.nil) (BT.node (a236 P) BT.nil BT.nil)))) (BT.node (a53 P) (BT.node (a65 P) (BT.node (a83 P) (BT.node (a115 P) BT.nil BT.nil) (BT.node (a147 P) BT.nil BT.nil)) (BT.node (a99 P) (BT.node (a131 P) BT.nil BT.nil) (BT.node (a163 P) BT.nil BT.nil))) (BT.node (a73 P) (BT.node (a91 P) (BT.node (a123 P) BT.nil BT.nil) (BT.node (a155 P) BT.nil BT.nil)) (BT.node (a107 P) (BT.node (a139 P) BT.nil BT.nil) (BT.node (a537 P) BT.nil BT.nil))))) (BT.node (a47 P) (BT.node (a51 P) (BT.node (a63 P) (BT.node (a81 P) (BT.node (a113 P) BT.nil BT.nil) (BT.node (a145 P) BT.nil BT.nil)) (BT.node (a97 P) (BT.node (a129 P) BT.nil BT.nil) (BT.node (a161 P) BT.nil BT.nil))) (BT.node (a71 P) (BT.node (a89 P) (BT.node (a121 P) BT.nil BT.nil) (BT.node (a153 P) BT.nil BT.nil)) (BT.node (a105 P) (BT.node (a137 P) BT.nil BT.nil) (BT.node (a238 P) BT.nil BT.nil)))) (BT.node (a55 P) (BT.node (a67 P) (BT.node (a85 P) (BT.node (a117 P) BT.nil BT.nil) (BT.node (a149 P) BT.nil BT.nil)) (BT.node (a101 P) (BT.node (a133 P) BT.nil BT.nil) (BT.node (a234 P) BT.nil BT.nil))) (BT.node (a75 P) (BT.node (a93 P) (BT.node (a125 P) BT.nil BT.nil) (BT.node (a157 P) BT.nil BT.nil)) (BT.node (a109 P) (BT.node (a141 P) BT.nil BT.nil) (BT.node (a535 P) BT.nil BT.nil)))))) (BT.node (a44 P) (BT.node (a46 P) (BT.node (a50 P) (BT.node (a62 P) (BT.node (a80 P) (BT.node (a112 P) (BT.node (a540 P) BT.nil BT.nil) BT.nil) (BT.node (a144 P) BT.nil BT.nil)) (BT.node (a96 P) (BT.node (a128 P) BT.nil BT.nil) (BT.node (a160 P) BT.nil BT.nil))) (BT.node (a70 P) (BT.node (a88 P) (BT.node (a120 P) BT.nil BT.nil) (BT.node (a152 P) BT.nil BT.nil)) (BT.node (a104 P) (BT.node (a136 P) BT.nil BT.nil) (BT.node (a237 P) BT.nil BT.nil)))) (BT.node (a77 P) (BT.node (a66 P) (BT.node (a84 P) (BT.node (a116 P) BT.nil BT.nil) (BT.node (a148 P) BT.nil BT.nil)) (BT.node (a100 P) (BT.node (a132 P) BT.nil BT.nil) (BT.node (a233 P) BT.nil BT.nil))) (BT.node (a74 P) (BT.node (a92 P) (BT.node (a124 P) BT.nil BT.nil) (BT.node (a156 P) BT.nil BT.nil)) (BT.node (a108 P) (BT.node (a140 P) BT.nil BT.nil) (BT.node (a534 P) BT.nil BT.nil))))) (BT.node (a48 P) (BT.node (a52 P) (BT.node (a64 P) (BT.node (a82 P) (BT.node (a114 P) BT.nil BT.nil) (BT.node (a146 P) BT.nil BT.nil)) (BT.node (a98 P) (BT.node (a130 P) BT.nil BT.nil) (BT.node (a162 P) BT.nil BT.nil))) (BT.node (a72 P) (BT.node (a90 P) (BT.node (a122 P) BT.nil BT.nil) (BT.node (a154 P) BT.nil BT.nil)) (BT.node (a106 P) (BT.node (a138 P) BT.nil BT.nil) (BT.node (a532 P) BT.nil BT.nil)))) (BT.node (a56 P) (BT.node (a68 P) (BT.node (a86 P) (BT.node (a118 P) BT.nil BT.nil) (BT.node (a150 P) BT.nil BT.nil)) (BT.node (a102 P) (BT.node (a134 P) BT.nil BT.nil) (BT.node (a235 P) BT.nil BT.nil))) (BT.node (a78 P) (BT.node (a94 P) (BT.node (a126 P) BT.nil BT.nil) (BT.node (a158 P) BT.nil BT.nil)) (BT.node (a110 P) (BT.node (a142 P) BT.nil BT.nil) (BT.node (a538 P) BT.nil BT.nil))))))))
noncomputable def t555 : Params → BT := (fun P => (BT.node (a42 P) (BT.node (a43 P) (BT.node (a551 P) (BT.node (a49 P) (BT.node (a61 P) (BT.node (a79 P) (BT.node (a111 P) (BT.node (a539 P) BT.nil BT.nil) BT.nil) (BT.node (a143 P) BT.nil BT.nil)) (BT.node (a95 P) (BT.node (a127 P) BT.nil BT.nil) (BT.node (a159 P) BT.nil BT.nil))) (BT.node (a69 P) (BT.node (a87 P) (BT.node (a119 P) BT.nil BT.nil) (BT.node (a151 P) BT.nil BT.nil)) (BT.node (a103 P) (BT.node (a135 P) BT.nil BT.nil) (BT.node (a236 P) BT.nil BT.nil)))) (BT.node (a53 P) (BT.node (a65 P) (BT.node (a83 P) (BT.node (a115 P) (BT.node (a555 P) BT.nil BT.nil) BT.nil) (BT.node (a147 P) BT.nil BT.nil)) (BT.node (a99 P) (BT.node (a131 P) BT.nil BT.nil) (BT.node (a163 P) BT.nil BT.nil))) (BT.node (a73 P) (BT.node (a91 P) (BT.node (a123 P) BT.nil BT.nil) (BT.node (a155 P) BT.nil BT.nil)) (BT.node (a107 P) (BT.node (a139 P) BT.nil BT.nil) (BT.node (a549 P) BT.nil BT.nil))))) (BT.node (a47 P) (BT.node (a51 P) (BT.node (a63 P) (BT.node (a81 P) (BT.node (a113 P) (BT.node (a553 P) BT.nil BT.nil) BT.nil) (BT.node (a145 P) BT.nil BT.nil)) (BT.node (a97 P) (BT.node (a129 P) BT.nil BT.nil) (BT.node (a161 P) BT.nil BT.nil))) (BT.node (a71 P) (BT.node (a89 P) (BT.node (a121 P) BT.nil BT.nil) (BT.node (a153 P) BT.nil BT.nil)) (BT.node (a105 P) (BT.node (a137 P) BT.nil BT.nil) (BT.node (a238 P) BT.nil BT.nil)))) (BT.node (a55 P) (BT.node (a67 P) (BT.node (a85 P) (BT.node (a117 P) BT.nil BT.nil) (BT.node (a149 P) BT.nil BT.nil)) (BT.node (a101 P) (BT.node (a133 P) BT.nil BT.nil) (BT.node (a234 P) BT.nil BT.nil))) (BT.node (a75 P) (BT.node (a93 P) (BT.node (a125 P) BT.nil BT.nil) (BT.node (a157 P) BT.nil BT.nil)) (BT.node (a109 P) (BT.node (a141 P) BT.nil BT.nil) (BT.node (a552 P) BT.nil BT.nil)))))) (BT.node (a44 P) (BT.node (a46 P) (BT.node (a50 P) (BT.node (a62 P) (BT.node (a80 P) (BT.node (a112 P) (BT.node (a540 P) BT.nil BT.nil) BT.nil) (BT.node (a144 P) BT.nil BT.nil)) (BT.node (a96 P) (BT.node (a128 P) BT.nil BT.nil) (BT.node (a160 P) BT.nil BT.nil))) (BT.node (a70 P) (BT.node (a88 P) (BT.node (a120 P) BT.nil BT.nil) (BT.node (a152 P) BT.nil BT.nil)) (BT.node (a104 P) (BT.node (a136 P) BT.nil BT.nil) (BT.node (a237 P) BT.nil BT.nil)))) (BT.node (a77 P) (BT.node (a66 P) (BT.node (a84 P) (BT.node (a116 P) BT.nil BT.nil) (BT.node (a148 P) BT.nil BT.nil)) (BT.node (a100 P) (BT.node (a132 P) BT.nil BT.nil) (BT.node (a233 P) BT.nil BT.nil))) (BT.node (a74 P) (BT.node (a92 P) (BT.node (a124 P) BT.nil BT.nil) (BT.node (a156 P) BT.nil BT.nil)) (BT.node (a108 P) (BT.node (a140 P) BT.nil BT.nil) (BT.node (a534 P) BT.nil BT.nil))))) (BT.node (a48 P) (BT.node (a52 P) (BT.node (a64 P) (BT.node (a82 P) (BT.node (a114 P) (BT.node (a554 P) BT.nil BT.nil) BT.nil) (BT.node (a146 P) BT.nil BT.nil)) (BT.node (a98 P) (BT.node (a130 P) BT.nil BT.nil) (BT.node (a162 P) BT.nil BT.nil))) (BT.node (a72 P) (BT.node (a90 P) (BT.node (a122 P) BT.nil BT.nil) (BT.node (a154 P) BT.nil BT.nil)) (BT.node (a106 P) (BT.node (a138 P) BT.nil BT.nil) (BT.node (a532 P) BT.nil BT.nil)))) (BT.node (a56 P) (BT.node (a68 P) (BT.node (a86 P) (BT.node (a118 P) BT.nil BT.nil) (BT.node (a150 P) BT.nil BT.nil)) (BT.node (a102 P) (BT.node (a134 P) BT.nil BT.nil) (BT.node (a235 P) BT.nil BT.nil))) (BT.node (a78 P) (BT.node (a94 P) (BT.node (a126 P) BT.nil BT.nil) (BT.node (a158 P) BT.nil BT.nil)) (BT.node (a110 P) (BT.node (a142 P) BT.nil BT.nil) (BT.node (a538 P) BT.nil BT.nil))))))))
noncomputable def t719 : Params → BT := (fun P => (BT.node (a42 P) (BT.node (a43 P) (BT.node (a654 P) (BT.node (a49 P) (BT.node (a61 P) (BT.node (a79 P) (BT.node (a111 P) (BT.node (a539 P) (BT.node (a700 P) BT.nil BT.nil) BT.nil) (BT.node (a632 P) BT.nil BT.nil)) (BT.node (a143 P) (BT.node (a600 P) BT.nil BT.nil) (BT.node (a668 P) BT.nil BT.nil))) (BT.node (a95 P) (BT.node (a127 P) (BT.node (a580 P) (BT.node (a716 P) BT.nil BT.nil) BT.nil) (BT.node (a648 P) BT.nil BT.nil)) (BT.node (a159 P) (BT.node (a616 P) BT.nil BT.nil) (BT.node (a684 P) BT.nil BT.nil)))) (BT.node (a69 P) (BT.node (a87 P) (BT.node (a119 P) (BT.node (a572 P) (BT.node (a708 P) BT.nil BT.nil) BT.nil) (BT.node (a640 P) BT.nil BT.nil)) (BT.node (a151 P) (BT.node (a608 P) BT.nil BT.nil) (BT.node (a676 P) BT.nil BT.nil))) (BT.node (a103 P) (BT.node (a135 P) (BT.node (a592 P) BT.nil BT.nil) (BT.node (a660 P) BT.nil BT.nil)) (BT.node (a236 P) (BT.node (a624 P) BT.nil BT.nil) (BT.node (a692 P) BT.nil BT.nil))))) (BT.node (a53 P) (BT.node (a65 P) (BT.node (a83 P) (BT.node (a115 P) (BT.node (a555 P) (BT.node (a704 P) BT.nil BT.nil) BT.nil) (BT.node (a636 P) BT.nil BT.nil)) (BT.node (a147 P) (BT.node (a604 P) BT.nil BT.nil) (BT.node (a672 P) BT.nil BT.nil))) (BT.node (a99 P) (BT.node (a131 P) (BT.node (a588 P) BT.nil BT.nil) (BT.node (a656 P) BT.nil BT.nil)) (BT.node (a163 P) (BT.node (a620 P) BT.nil BT.nil) (BT.node (a688 P) BT.nil BT.nil)))) (BT.node (a73 P) (BT.node (a91 P) (BT.node (a123 P) (BT.node (a576 P) (BT.node (a712 P) BT.nil BT.nil) BT.nil) (BT.node (a644 P) BT.nil BT.nil)) (BT.node (a155 P) (BT.node (a612 P) BT.nil BT.nil) (BT.node (a680 P) BT.nil BT.nil))) (BT.node (a107 P) (BT.node (a139 P) (BT.node (a596 P) BT.nil BT.nil) (BT.node (a664 P) BT.nil BT.nil)) (BT.node (a549 P) (BT.node (a628 P) BT.nil BT.nil) (BT.node (a696 P) BT.nil BT.nil)))))) (BT.node (a47 P) (BT.node (a51 P) (BT.node (a63 P) (BT.node (a81 P) (BT.node (a113 P) (BT.node (a553 P) (BT.node (a702 P) BT.nil BT.nil) BT.nil) (BT.node (a634 P) BT.nil BT.nil)) (BT.node (a145 P) (BT.node (a602 P) BT.nil BT.nil) (BT.node (a670 P) BT.nil BT.nil))) (BT.node (a97 P) (BT.node (a129 P) (BT.node (a586 P) (BT.node (a718 P) BT.nil BT.nil) BT.nil) (BT.node (a650 P) BT.nil BT.nil)) (BT.node (a161 P) (BT.node (a618 P) BT.nil BT.nil) (BT.node (a686 P) BT.nil BT.nil)))) (BT.node (a71 P) (BT.node (a89 P) (BT.node (a121 P) (BT.node (a574 P) (BT.node (a710 P) BT.nil BT.nil) BT.nil) (BT.node (a642 P) BT.nil BT.nil)) (BT.node (a153 P) (BT.node (a610 P) BT.nil BT.nil) (BT.node (a678 P) BT.nil BT.nil))) (BT.node (a105 P) (BT.node (a137 P) (BT.node (a594 P) BT.nil BT.nil) (BT.node (a662 P) BT.nil BT.nil)) (BT.node (a238 P) (BT.node (a626 P) BT.nil BT.nil) (BT.node (a694 P) BT.nil BT.nil))))) (BT.node (a55 P) (BT.node (a67 P) (BT.node (a85 P) (BT.node (a117 P) (BT.node (a570 P) (BT.node (a706 P) BT.nil BT.nil) BT.nil) (BT.node (a638 P) BT.nil BT.nil)) (BT.node (a149 P) (BT.node (a606 P) BT.nil BT.nil) (BT.node (a674 P) BT.nil BT.nil))) (BT.node (a101 P) (BT.node (a133 P) (BT.node (a590 P) BT.nil BT.nil) (BT.node (a658 P) BT.nil BT.nil)) (BT.node (a234 P) (BT.node (a622 P) BT.nil BT.nil) (BT.node (a690 P) BT.nil BT.nil)))) (BT.node (a75 P) (BT.node (a93 P) (BT.node (a125 P) (BT.node (a578 P) (BT.node (a714 P) BT.nil BT.nil) BT.nil) (BT.node (a646 P) BT.nil BT.nil)) (BT.node (a157 P) (BT.node (a614 P) BT.nil BT.nil) (BT.node (a682 P) BT.nil BT.nil))) (BT.node (a109 P) (BT.node (a141 P) (BT.node (a598 P) BT.nil BT.nil) (BT.node (a666 P) BT.nil BT.nil)) (BT.node (a552 P) (BT.node (a630 P) BT.nil BT.nil) (BT.node (a698 P) BT.nil BT.nil))))))) (BT.node (a44 P) (BT.node (a46 P) (BT.node (a50 P) (BT.node (a62 P) (BT.node (a80 P) (BT.node (a112 P) (BT.node (a540 P) (BT.node (a701 P) BT.nil BT.nil) BT.nil) (BT.node (a633 P) BT.nil BT.nil)) (BT.node (a144 P) (BT.node (a601 P) BT.nil BT.nil) (BT.node (a669 P) BT.nil BT.nil))) (BT.node (a96 P) (BT.node (a128 P) (BT.node (a581 P) (BT.node (a717 P) BT.nil BT.nil) BT.nil) (BT.node (a649 P) BT.nil BT.nil)) (BT.node (a160 P) (BT.node (a617 P) BT.nil BT.nil) (BT.node (a685 P) BT.nil BT.nil)))) (BT.node (a70 P) (BT.node (a88 P) (BT.node (a120 P) (BT.node (a573 P) (BT.node (a709 P) BT.nil BT.nil) BT.nil) (BT.node (a641 P) BT.nil BT.nil)) (BT.node (a152 P) (BT.node (a609 P) BT.nil BT.nil) (BT.node (a677 P) BT.nil BT.nil))) (BT.node (a104 P) (BT.node (a136 P) (BT.node (a593 P) BT.nil BT.nil) (BT.node (a661 P) BT.nil BT.nil)) (BT.node (a237 P) (BT.node (a625 P) BT.nil BT.nil) (BT.node (a693 P) BT.nil BT.nil))))) (BT.node (a655 P) (BT.node (a66 P) (BT.node (a84 P) (BT.node (a116 P) (BT.node (a569 P) (BT.node (a705 P) BT.nil BT.nil) BT.nil) (BT.node (a637 P) BT.nil BT.nil)) (BT.node (a148 P) (BT.node (a605 P) BT.nil BT.nil) (BT.node (a673 P) BT.nil BT.nil))) (BT.node (a100 P) (BT.node (a132 P) (BT.node (a589 P) BT.nil BT.nil) (BT.node (a657 P) BT.nil BT.nil)) (BT.node (a233 P) (BT.node (a621 P) BT.nil BT.nil) (BT.node (a689 P) BT.nil BT.nil)))) (BT.node (a74 P) (BT.node (a92 P) (BT.node (a124 P) (BT.node (a577 P) (BT.node (a713 P) BT.nil BT.nil) BT.nil) (BT.node (a645 P) BT.nil BT.nil)) (BT.node (a156 P) (BT.node (a613 P) BT.nil BT.nil) (BT.node (a681 P) BT.nil BT.nil))) (BT.node (a108 P) (BT.node (a140 P) (BT.node (a597 P) BT.nil BT.nil) (BT.node (a665 P) BT.nil BT.nil)) (BT.node (a534 P) (BT.node (a629 P) BT.nil BT.nil) (BT.node (a697 P) BT.nil BT.nil)))))) (BT.node (a48 P) (BT.node (a52 P) (BT.node (a64 P) (BT.node (a82 P) (BT.node (a114 P) (BT.node (a554 P) (BT.node (a703 P) BT.nil BT.nil) BT.nil) (BT.node (a635 P) BT.nil BT.nil)) (BT.node (a146 P) (BT.node (a603 P) BT.nil BT.nil) (BT.node (a671 P) BT.nil BT.nil))) (BT.node (a98 P) (BT.node (a130 P) (BT.node (a587 P) (BT.node (a719 P) BT.nil BT.nil) BT.nil) (BT.node (a651 P) BT.nil BT.nil)) (BT.node (a162 P) (BT.node (a619 P) BT.nil BT.nil) (BT.node (a687 P) BT.nil BT.nil)))) (BT.node (a72 P) (BT.node (a90 P) (BT.node (a122 P) (BT.node (a575 P) (BT.node (a711 P) BT.nil BT.nil) BT.nil) (BT.node (a643 P) BT.nil BT.nil)) (BT.node (a154 P) (BT.node (a611 P) BT.nil BT.nil) (BT.node (a679 P) BT.nil BT.nil))) (BT.node (a106 P) (BT.node (a138 P) (BT.node (a595 P) BT.nil BT.nil) (BT.node (a663 P) BT.nil BT.nil)) (BT.node (a532 P) (BT.node (a627 P) BT.nil BT.nil) (BT.node (a695 P) BT.nil BT.nil))))) (BT.node (a56 P) (BT.node (a68 P) (BT.node (a86 P) (BT.node (a118 P) (BT.node (a571 P) (BT.node (a707 P) BT.nil BT.nil) BT.nil) (BT.node (a639 P) BT.nil BT.nil)) (BT.node (a150 P) (BT.node (a607 P) BT.nil BT.nil) (BT.node (a675 P) BT.nil BT.nil))) (BT.node (a102 P) (BT.node (a134 P) (BT.node (a591 P) BT.nil BT.nil) (BT.node (a659 P) BT.nil BT.nil)) (BT.node (a235 P) (BT.node (a623 P) BT.nil BT.nil) (BT.node (a691 P) BT.nil BT.nil)))) (BT.node (a78 P) (BT.node (a94 P) (BT.node (a126 P) (BT.node (a579 P) (BT.node (a715 P) BT.nil BT.nil) BT.nil) (BT.node (a647 P) BT.nil BT.nil)) (BT.node (a158 P) (BT.node (a615 P) BT.nil BT.nil) (BT.node (a683 P) BT.nil BT.nil))) (BT.node (a110 P) (BT.node (a142 P) (BT.node (a599 P) BT.nil BT.nil) (BT.node (a667 P) BT.nil BT.nil)) (BT.node (a538 P) (BT.node (a631 P) BT.nil BT.nil) (BT.node (a699 P) BT.nil BT.nil)))))))))
noncomputable def h52 : Params → Heap := (fun P => (Heap.mk (Array.mk [(a42 P), (a43 P), (a44 P), (a45 P), (a46 P), (a47 P), (a48 P), (a49 P), (a50 P), (a51 P), (a52 P)]) (Life.mk [] [] [] 0 [] [] Bool.false (List.toArray []) [] 0 Bool.false Bool.false Bool.false 0 [2000, 10, 10] Bool.false 0 Bool.true [] [] 0 Bool.false)))
noncomputable def h56 : Params → Heap := (fun P => (Heap.mk (Array.mk [(a42 P), (a43 P), (a44 P), (a45 P), (a46 P), (a47 P), (a48 P), (a49 P), (a50 P), (a51 P), (a52 P), (a53 P), (a54 P), (a55 P), (a56 P)]) (Life.mk [] [] [] 0 [] [] Bool.false (List.toArray []) [] 0 Bool.false Bool.false Bool.false 0 [2000, 10, 10] Bool.false 0 Bool.true [] [] 0 Bool.false)))
noncomputable def h720 : Params → Heap := (fun P => (Heap.mk (Array.mk [(a42 P), (a43 P), (a44 P), (a654 P), (a46 P), (a47 P), (a48 P), (a49 P), (a50 P), (a51 P), (a52 P), (a53 P), (a655 P), (a55 P), (a56 P), (a61 P), (a62 P), (a63 P), (a64 P), (a65 P), (a66 P), (a67 P), (a68 P), (a69 P), (a70 P), (a71 P), (a72 P), (a73 P), (a74 P), (a75 P), (a78 P), (a79 P), (a80 P), (a81 P), (a82 P), (a83 P), (a84 P), (a85 P), (a86 P), (a87 P), (a88 P), (a89 P), (a90 P), (a91 P), (a92 P), (a93 P), (a94 P), (a95 P), (a96 P), (a97 P), (a98 P), (a99 P), (a100 P), (a101 P), (a102 P), (a103 P), (a104 P), (a105 P), (a106 P), (a107 P), (a108 P), (a109 P), (a110 P), (a111 P), (a112 P), (a113 P), (a114 P), (a115 P), (a116 P), (a117 P), (a118 P), (a119 P), (a120 P), (a121 P), (a122 P), (a123 P), (a124 P), (a125 P), (a126 P), (a127 P), (a128 P), (a129 P), (a130 P), (a131 P), (a132 P), (a133 P), (a134 P), (a135 P), (a136 P), (a137 P), (a138 P), (a139 P), (a140 P), (a141 P), (a142 P), (a143 P), (a144 P), (a145 P), (a146 P), (a147 P), (a148 P), (a149 P), (a150 P), (a151 P), (a152 P), (a153 P), (a154 P), (a155 P), (a156 P), (a157 P), (a158 P), (a159 P), (a160 P), (a161 P), (a162 P), (a163 P), (a233 P), (a234 P), (a235 P), (a236 P), (a237 P), (a238 P), (a532 P), (a549 P), (a534 P), (a552 P), (a538 P), (a539 P), (a540 P), (a553 P), (a554 P), (a555 P), (a569 P), (a570 P), (a571 P), (a572 P), (a573 P), (a574 P), (a575 P), (a576 P), (a577 P), (a578 P), (a579 P), (a580 P), (a581 P), (a586 P), (a587 P), (a588 P), (a589 P), (a590 P), (a591 P), (a592 P), (a593 P), (a594 P), (a595 P), (a596 P), (a597 P), (a598 P), (a599 P), (a600 P), (a601 P), (a602 P), (a603 P), (a604 P), (a605 P), (a606 P), (a607 P), (a608 P), (a609 P), (a610 P), (a611 P), (a612 P), (a613 P), (a614 P), (a615 P), (a616 P), (a617 P), (a618 P), (a619 P), (a620 P), (a621 P), (a622 P), (a623 P), (a624 P), (a625 P), (a626 P), (a627 P), (a628 P), (a629 P), (a630 P), (a631 P), (a632 P), (a633 P), (a634 P), (a635 P), (a636 P), (a637 P), (a638 P), (a639 P), (a640 P), (a641 P), (a642 P), (a643 P), (a644 P), (a645 P), (a646 P), (a647 P), (a648 P), (a649 P), (a650 P), (a651 P), (a656 P), (a657 P), (a658 P), (a659 P), (a660 P), (a661 P), (a662 P), (a663 P), (a664 P), (a665 P), (a666 P), (a667 P), (a668 P), (a669 P), (a670 P), (a671 P), (a672 P), (a673 P), (a674 P), (a675 P), (a676 P), (a677 P), (a678 P), (a679 P), (a680 P), (a681 P), (a682 P), (a683 P), (a684 P), (a685 P), (a686 P), (a687 P), (a688 P), (a689 P), (a690 P), (a691 P), (a692 P), (a693 P), (a694 P), (a695 P), (a696 P), (a697 P), (a698 P), (a699 P), (a700 P), (a701 P), (a702 P), (a703 P), (a704 P), (a705 P), (a706 P), (a707 P), (a708 P), (a709 P), (a710 P), (a711 P), (a712 P), (a713 P), (a714 P), (a715 P), (a716 P), (a717 P), (a718 P), (a719 P)]) (Life.mk [] [] [] 0 [] [] Bool.false (List.toArray []) [] 0 Bool.false Bool.false Bool.false 0 [2000, 10, 10] Bool.false 0 Bool.true [] [] 0 Bool.false)))
noncomputable def sh (t : Params → BT) (n k : Nat) (w : World) (os : OsState) : SharedT := ⟨t w.params, n, {}, #[], {}, k, os⟩
noncomputable def hEnv : Env := { scope := pw.main.scope, locals := mainNs, globals := mainNs, cells := [], code := .ref 13, frame := some 14 }
noncomputable abbrev hCode : Code := Code.body (behindTheImports pw) hEnv
noncomputable abbrev p0 : Pos := ⟨0, 0, 0, 0⟩
theorem seg_q {p : Program} {w : World} {n : Nat} {ann : Option Value} {b N : Nat} {s : SharedT} {t : Thread} {r} (h : PySem.W.Fast.tw10110043849684766642 PySem.W.Fast.tw14364793385576792824 p w n ann b N s t = r) : segRunT treeTable p w n ann b N s t = r := by
  rw [PySem.W.Fast.te10110043849684766642, PySem.W.Fast.te14364793385576792824]; exact h
end
section
theorem topr_q {p : Program} {w : World} {n : Nat} {ann : Option Value} {N : Nat} {s : Shared} {t : Thread} {r} (h : PySem.W.Fast.tw14082659384304107361 PySem.W.Fast.tw14364793385576792824 p w n ann N s t = r) : topRun treeTable p w n ann N s t = r := by
  rw [PySem.W.Fast.te14082659384304107361, PySem.W.Fast.te14364793385576792824]; exact h
theorem segr_q {p : Program} {w : World} {n : Nat} {ann : Option Value} {b N : Nat} {s : Shared} {t : Thread} {r} (h : PySem.W.Fast.tw14374325043358763698 PySem.W.Fast.tw14364793385576792824 p w n ann b N s t = r) : segRun treeTable p w n ann b N s t = r := by
  rw [PySem.W.Fast.te14374325043358763698, PySem.W.Fast.te14364793385576792824]; exact h
theorem imp_q {p : Program} {w : World} {N : Nat} {s : Shared} {t : Thread} {r} (h : PySem.W.Fast.tw10274390034422433532 PySem.W.Fast.tw14364793385576792824 p w N s t = r) : importEnds treeTable p w N s t = r := by
  rw [PySem.W.Fast.te10274390034422433532, PySem.W.Fast.te14364793385576792824]; exact h

noncomputable def st52 (w : World) (os : OsState) : Shared := ⟨h52 w.params, #[], {}, 181, os⟩
noncomputable def st56 (w : World) (os : OsState) : Shared := ⟨h56 w.params, #[], {}, 187, os⟩
noncomputable def st720 (w : World) (os : OsState) : Shared := ⟨h720 w.params, #[], {}, 2085, os⟩
theorem opens (w : World) : importEnds treeTable (opening pw) w 500 (start (opening pw)).1 (start (opening pw)).2 = some ⟨absHeap (t750 w.params) 11 {}, #[], {}, 181, (start (opening pw)).1.os⟩ := imp_q (by kernel_rfl)
theorem pre_ok (w : World) (os : OsState) : topGo treeTable pw w 11 (some (.ref 6)) 12 (st52 w os) (topStub pw) = some (st56 w os, ⟨denote treeTable (.body (behindTheImports pw) hEnv), hCode, p0, [topFrame p0]⟩) := by
  rw [PySem.W.Fast.te15667345088766844465, PySem.W.Fast.te14364793385576792824, PySem.W.Fast.te11892475500146522536]
  kernel_rfl
theorem block_ok (w : World) (os : OsState) : segRun treeTable pw w 11 (some (.ref 6)) 1 1 (st56 w os) (blockOf (behindTheImports pw) hEnv hCode p0 [topFrame p0]) = some (.next, (sh t57 15 187 w os).abs, hCode, p0) := segr_q (by kernel_rfl)
theorem fin_ok (w : World) (os : OsState) : topRun treeTable pw w 11 (some (.ref 6)) 2 (sh t719 275 2085 w os).abs ⟨doneF .next, hCode, ⟨234, 0, 274, 67⟩, [topFrame p0]⟩ = some (st720 w os) := topr_q (by kernel_rfl)
theorem size_ok (w : World) : ((h52 w.params).isNs mainGlobals && (#[] : Array GenState).size == 0, (h52 w.params).objs.size, (h52 w.params).nsMap mainGlobals "__annotations__") = (true, 11, some (.ref 6)) := by kernel_rfl
end
section
theorem g1 (w : World) (os : OsState) : segRunT treeTable pw w 11 (some (.ref 6)) 1 800 (sh t57 15 187 w os) (piecesOf [topAt 0, topAt 1, topAt 2, topAt 3, topAt 4, topAt 5, topAt 6, topAt 7] hEnv hCode p0 [topFrame p0]) =
    some (.next, sh t163 116 352 w os, hCode, ⟨11, 0, 57, 16⟩) := seg_q (by kernel_rfl)
end
section
theorem sego_q {p : Program} {w : World} {n : Nat} {ann : Option Value} {b N : Nat} {s : SharedT} {t : Thread} {r} (h : PySem.W.Fast.tw10295753902157049106 PySem.W.Fast.tw14364793385576792824 p w n ann b N s t = r) : segGoT treeTable p w n ann b N s t = r := by
  rw [PySem.W.Fast.te10295753902157049106, PySem.W.Fast.te14364793385576792824]; exact h
noncomputable abbrev gCode : Thread := piecesOf [topAt 8] hEnv hCode ⟨11, 0, 57, 16⟩ [topFrame p0]
/- the thread at a turn's head -/
noncomputable def gTh (w : World) (os : OsState) : Thread := match PySem.W.Fast.tw10295753902157049106 PySem.W.Fast.tw14364793385576792824 pw ((w.withFollow "comprehension-iter-twice" true).withFollow "special-get-raises" false) 11 (some (.ref 6)) 1 78 (sh t163 116 352 ((w.withFollow "comprehension-iter-twice" true).withFollow "special-get-raises" false) os) gCode with
  | some (_, t) => t
  | none => gCode
noncomputable def gHex (j : Nat) : Value := .str ⟨#[61, if j / 16 < 10 then 48 + j / 16 else 55 + j / 16, if j % 16 < 10 then 48 + j % 16 else 55 + j % 16]⟩ (358 + 4 * j)
/- the objects behind i turns -/
noncomputable def gTree (i : Nat) (P : Params) : BT :=
  ((((t163 P).ins 116 { cls := .type "range", data := .fields #[.int 0 353, .int 256 352, .int 1 354] }).ins 117 { cls := .type "range_iterator", data := .fields #[.int i 0, .int ((256 - i : Nat) : Int) 0, .int 1 0] }).ins 118
    { cls := .type "list", data := .seq ((List.range i).map gHex).toArray i }).ins 119 { cls := .type "dict", data := .dict #[⟨PyData.keyHash P (S "c"), .str (S "c") 356, .int ((i - 1 : Nat) : Int) (351 + 4 * i)⟩] 1 }
noncomputable abbrev gAt (i : Nat) (w : World) (os : OsState) : SharedT := sh (gTree i) 120 (355 + 4 * i) w os
/- k turns from i on -/
noncomputable def GT (w : World) (i k : Nat) : Prop := ∀ os, segGo treeTable pw w 11 (some (.ref 6)) 1 (37 * k) (gAt i w os).abs (gTh w os) = some ((gAt (i + k) w os).abs, gTh w os)
noncomputable def GF (w : World) (n : Nat) : Prop := ∀ os, segGo treeTable pw w 11 (some (.ref 6)) 1 n (sh t163 116 352 w os).abs gCode = some ((gAt 1 w os).abs, gTh w os)
noncomputable def GE (w : World) (n : Nat) : Prop := ∀ os, segRun treeTable pw w 11 (some (.ref 6)) 1 n (gAt 256 w os).abs (gTh w os) = some (.next, (sh t238 122 1380 w os).abs, hCode, ⟨58, 0, 58, 11⟩)
theorem gt1 : ∀ w, GT w 1 32 := byRow2 "special-get-raises" (fun w os => segGo_of (sego_q (by kernel_rfl))) (fun w os => segGo_of (sego_q (by kernel_rfl)))
theorem gt33 : ∀ w, GT w 33 32 := byRow2 "special-get-raises" (fun w os => segGo_of (sego_q (by kernel_rfl))) (fun w os => segGo_of (sego_q (by kernel_rfl)))
theorem gt65 : ∀ w, GT w 65 32 := byRow2 "special-get-raises" (fun w os => segGo_of (sego_q (by kernel_rfl))) (fun w os => segGo_of (sego_q (by kernel_rfl)))
theorem gt97 : ∀ w, GT w 97 32 := byRow2 "special-get-raises" (fun w os => segGo_of (sego_q (by kernel_rfl))) (fun w os => segGo_of (sego_q (by kernel_rfl)))
theorem gt129 : ∀ w, GT w 129 32 := byRow2 "special-get-raises" (fun w os => segGo_of (sego_q (by kernel_rfl))) (fun w os => segGo_of (sego_q (by kernel_rfl)))
theorem gt161 : ∀ w, GT w 161 32 := byRow2 "special-get-raises" (fun w os => segGo_of (sego_q (by kernel_rfl))) (fun w os => segGo_of (sego_q (by kernel_rfl)))
theorem gt193 : ∀ w, GT w 193 32 := byRow2 "special-get-raises" (fun w os => segGo_of (sego_q (by kernel_rfl))) (fun w os => segGo_of (sego_q (by kernel_rfl)))
theorem gt225 : ∀ w, GT w 225 31 := byRow2 "special-get-raises" (fun w os => segGo_of (sego_q (by kernel_rfl))) (fun w os => segGo_of (sego_q (by kernel_rfl)))
theorem gE0 : ∀ w, GE w 29 := byRow2 "special-get-raises" (fun w os => segRun_of (seg_q (by kernel_rfl))) (fun w os => segRun_of (seg_q (by kernel_rfl)))
theorem gE1 : ∀ w, GE w 39 := byRow2 "special-get-raises" (fun w os => segRun_of (seg_q (by kernel_rfl))) (fun w os => segRun_of (seg_q (by kernel_rfl)))
theorem gF0 (w : World) : GF (w.withFollow "comprehension-iter-twice" false) 88 := byRow2 (P := fun w => GF (w.withFollow "comprehension-iter-twice" false) 88) "special-get-raises" (fun w os => segGo_of (sego_q (by kernel_rfl))) (fun w os => segGo_of (sego_q (by kernel_rfl))) w
theorem gF1 (w : World) : GF (w.withFollow "comprehension-iter-twice" true) 78 := byRow2 (P := fun w => GF (w.withFollow "comprehension-iter-twice" true) 78) "special-get-raises" (fun w os => segGo_of (sego_q (by kernel_rfl))) (fun w os => segGo_of (sego_q (by kernel_rfl))) w
noncomputable def P2 (w : World) : Prop := ∀ os, segRun treeTable pw w 11 (some (.ref 6)) 1 9552 (sh t163 116 352 w os).abs gCode = some (.next, (sh t238 122 1380 w os).abs, hCode, ⟨58, 0, 58, 11⟩)
theorem g2_of {w : World} {n m : Nat} (e : n + (37 * 255 + m) = 9552) (hF : GF w n) (hE : GE w m) : P2 w := fun os => by
  rw [← e]
  refine seg_go (hF os) ?_
  rw [show 37 * 255 + m = (37 * 32 + (37 * 32 + (37 * 32 + (37 * 32 + (37 * 32 + (37 * 32 + (37 * 32 + (37 * 31 + m)))))))) by lia]
  exact (seg_go (gt1 w os) (seg_go (gt33 w os) (seg_go (gt65 w os) (seg_go (gt97 w os) (seg_go (gt129 w os) (seg_go (gt161 w os) (seg_go (gt193 w os) (seg_go (gt225 w os) (hE os)))))))))
theorem g2 : ∀ w, P2 w := byRow2 "comprehension-iter-twice" (fun w => g2_of rfl (gF0 w) (gE0 _)) (fun w => g2_of rfl (gF1 w) (gE1 _))
end
section
noncomputable def P3 (w : World) : Prop := ∀ os, segRunT treeTable pw w 11 (some (.ref 6)) 1 3300 (sh t238 122 1380 w os) (piecesOf [topAt 9, topAt 10, topAt 11, topAt 12, topAt 13, topAt 14, topAt 15, topAt 16] hEnv hCode ⟨58, 0, 58, 11⟩ [topFrame p0]) = some (.next, sh t540 129 1600 w os, hCode, ⟨66, 9, 66, 74⟩)
theorem g3 : ∀ w, P3 w := byRow2 "special-get-raises" (fun w os => seg_q (by kernel_rfl)) (fun w os => seg_q (by kernel_rfl))
end
section
noncomputable def P4 (w : World) : Prop := ∀ os, segRunT treeTable pw w 11 (some (.ref 6)) 1 4400 (sh t540 129 1600 w os) (piecesOf [topAt 17, topAt 18] hEnv hCode ⟨66, 9, 66, 74⟩ [topFrame p0]) = some (.next, sh t555 132 1889 w os, hCode, ⟨69, 9, 69, 110⟩)
theorem g4 : ∀ w, P4 w := byRow2 "special-get-raises" (fun w os => seg_q (by kernel_rfl)) (fun w os => seg_q (by kernel_rfl))
end
section
noncomputable def P5 (w : World) : Prop := ∀ os, segRunT treeTable pw w 11 (some (.ref 6)) 1 1100 (sh t555 132 1889 w os) (piecesOf [topAt 19, topAt 20, topAt 21, topAt 22, topAt 23, topAt 24, topAt 25, topAt 26, topAt 27, topAt 28, topAt 29, topAt 30, topAt 31, topAt 32, topAt 33, topAt 34, topAt 35, topAt 36] hEnv hCode ⟨69, 9, 69, 110⟩ [topFrame p0]) = some (.next, sh t719 275 2085 w os, hCode, ⟨234, 0, 274, 67⟩)
theorem g5 : ∀ w, P5 w := byRow2 "special-get-raises" (fun w os => seg_q (by kernel_rfl)) (fun w os => seg_q (by kernel_rfl))
end
section
noncomputable def fK : Params → Frag := fun P => [(2, a44 P), (3, a654 P), (15, a61 P), (17, a63 P), (18, a64 P), (20, a66 P), (21, a67 P), (22, a68 P), (23, a69 P), (25, a71 P), (26, a72 P), (28, a74 P), (29, a75 P), (30, a78 P), (37, a85 P), (38, a86 P), (40, a88 P), (41, a89 P), (43, a91 P), (44, a92 P), (45, a93 P), (46, a94 P), (47, a95 P), (49, a97 P), (50, a98 P), (52, a100 P), (53, a101 P), (54, a102 P), (57, a105 P), (58, a106 P), (59, a107 P), (61, a109 P), (62, a110 P), (64, a112 P), (65, a113 P), (66, a114 P), (68, a116 P), (69, a117 P), (71, a119 P), (72, a120 P), (73, a121 P), (75, a123 P), (76, a124 P), (78, a126 P), (79, a127 P), (80, a128 P), (82, a130 P), (83, a131 P), (85, a133 P), (86, a134 P), (87, a135 P), (89, a137 P), (90, a138 P), (92, a140 P), (93, a141 P), (94, a142 P), (96, a144 P), (97, a145 P), (99, a147 P), (100, a148 P), (101, a149 P), (102, a150 P), (104, a152 P), (105, a153 P), (107, a155 P), (108, a156 P), (109, a157 P), (110, a158 P), (111, a159 P), (112, a160 P), (113, a161 P), (123, a549 P), (132, a569 P), (133, a570 P), (135, a572 P), (136, a573 P), (138, a575 P), (139, a576 P), (155, a596 P), (157, a598 P), (158, a599 P), (160, a601 P), (161, a602 P), (162, a603 P), (164, a605 P), (165, a606 P), (167, a608 P), (168, a609 P), (169, a610 P), (171, a612 P), (172, a613 P), (174, a615 P), (175, a616 P), (176, a617 P), (178, a619 P), (179, a620 P), (181, a622 P), (182, a623 P), (183, a624 P), (185, a626 P), (186, a627 P), (188, a629 P), (189, a630 P), (190, a631 P), (192, a633 P), (193, a634 P), (195, a636 P), (196, a637 P), (197, a638 P), (199, a640 P), (200, a641 P), (202, a643 P), (203, a644 P), (204, a645 P), (205, a646 P), (206, a647 P), (207, a648 P), (208, a649 P), (211, a656 P), (213, a658 P), (214, a659 P), (216, a661 P), (217, a662 P), (218, a663 P), (220, a665 P), (221, a666 P), (223, a668 P), (224, a669 P), (225, a670 P), (227, a672 P), (228, a673 P), (230, a675 P), (231, a676 P), (232, a677 P), (234, a679 P), (235, a680 P), (237, a682 P), (238, a683 P), (239, a684 P), (241, a686 P), (242, a687 P), (244, a689 P), (245, a690 P), (246, a691 P), (248, a693 P), (249, a694 P), (251, a696 P), (252, a697 P), (253, a698 P), (256, a701 P), (257, a702 P), (258, a703 P), (260, a705 P), (261, a706 P), (263, a708 P), (264, a709 P), (265, a710 P), (268, a713 P), (269, a714 P), (270, a715 P), (273, a718 P), (274, a719 P)]
noncomputable abbrev fA : List Addr := [2, 3, 15, 17, 18, 20, 21, 22, 23, 25, 26, 28, 29, 30, 37, 38, 40, 41, 43, 44, 45, 46, 47, 49, 50, 52, 53, 54, 57, 58, 59, 61, 62, 64, 65, 66, 68, 69, 71, 72, 73, 75, 76, 78, 79, 80, 82, 83, 85, 86, 87, 89, 90, 92, 93, 94, 96, 97, 99, 100, 101, 102, 104, 105, 107, 108, 109, 110, 111, 112, 113, 123, 132, 133, 135, 136, 138, 139, 155, 157, 158, 160, 161, 162, 164, 165, 167, 168, 169, 171, 172, 174, 175, 176, 178, 179, 181, 182, 183, 185, 186, 188, 189, 190, 192, 193, 195, 196, 197, 199, 200, 202, 203, 204, 205, 206, 207, 208, 211, 213, 214, 216, 217, 218, 220, 221, 223, 224, 225, 227, 228, 230, 231, 232, 234, 235, 237, 238, 239, 241, 242, 244, 245, 246, 248, 249, 251, 252, 253, 256, 257, 258, 260, 261, 263, 264, 265, 268, 269, 270, 273, 274]
noncomputable def vw : Program := { pw with main := { pw.main with body := [topAt 36] } }
noncomputable abbrev lo : List Str := [S "_wall", S "IS_CHARACTER_JUNK", S "file_template_difflib", S "styles_difflib", S "table_template_difflib", S "legend_difflib", S "HtmlDiff", S "_QUOPRI_MAP", S "_QUOPRI_HEADER_MAP", S "_QUOPRI_BODY_MAP", S "ascii_lowercase", S "ascii_uppercase", S "ascii_letters", S "digits", S "header_encode", S "_QUOPRI_BODY_ENCODE_MAP", S "Whitespace", S "_raise_serialization_error", S "_escape_cdata", S "_escape_attrib", S "_escape_attrib_html", S "_escape_cdata_c14n", S "_escape_attrib_c14n", S "_law_world", S "_law_filled", S "_law_kind"]
theorem fA_ok : ∀ P, fA = (fK P).map (·.1) := fun P => by kernel_rfl
noncomputable abbrev hk : Hook := kmHook fK fA fA_ok [55]
theorem fence_ok (w : World) : (fun os => (fenceModules? pw ⟨absHeap (t750 w.params) 11 {}, #[], {}, 181, os⟩).map (fun s => (s.heap, s.gens, s.drawn, s.toks))) = fun _ => some (h52 w.params, #[], {}, 181) := by
  rw [PySem.W.Fast.te14289696077712309145]
  kernel_rfl
theorem open_ok (w : World) : (fencedOpening treeTable pw w 30000).map (fun s => (s.heap, s.gens, s.drawn, s.toks)) = some (h52 w.params, #[], {}, 181) :=
  open_cut (He := fun P => absHeap (t750 P) 11 {}) opens (by rfl) fence_ok w
noncomputable abbrev hRest : List Stmt := [topAt 0, topAt 1, topAt 2, topAt 3, topAt 4, topAt 5, topAt 6, topAt 7] ++ ([topAt 8] ++ ([topAt 9, topAt 10, topAt 11, topAt 12, topAt 13, topAt 14, topAt 15, topAt 16] ++ ([topAt 17, topAt 18] ++ ([topAt 19, topAt 20, topAt 21, topAt 22, topAt 23, topAt 24, topAt 25, topAt 26, topAt 27, topAt 28, topAt 29, topAt 30, topAt 31, topAt 32, topAt 33, topAt 34, topAt 35, topAt 36] ++ []))))
theorem body_ok : behindTheImports pw = hRest := by kernel_rfl
noncomputable abbrev hM : Nat := 12 + (1 + (800 + (9552 + (3300 + (4400 + (1100 + 2))))))
theorem rest_ok (w : World) (os : OsState) : topRun treeTable pw w 11 (some (.ref 6)) (800 + (9552 + (3300 + (4400 + (1100 + 2))))) (sh t57 15 187 w os).abs (restOf hRest hEnv hCode p0 [topFrame p0]) = some (st720 w os) :=
  piece_app (segRun_of (g1 w os)) (piece_app (g2 w os) (piece_app (segRun_of (g3 w os)) (piece_app (segRun_of (g4 w os)) (piece_app (rest := []) (segRun_of (g5 w os)) (fin_ok w os)))))
theorem run_ok (w : World) (os : OsState) : topRun treeTable pw w 11 (some (.ref 6)) hM (st52 w os) (topStub pw) = some (st720 w os) :=
  go_top (pre_ok w os) (piece_block (block_ok w os) ((congrArg (fun b => topRun treeTable pw w 11 (some (.ref 6)) (800 + (9552 + (3300 + (4400 + (1100 + 2))))) (sh t57 15 187 w os).abs (restOf b hEnv hCode p0 [topFrame p0])) body_ok).trans (rest_ok w os)))
theorem look1 (w : World) : staticsOk (importedModules pw.main.body) (h52 w.params) (h720 w.params) = true := by kernel_rfl
theorem look2 (w : World) : namesBound pw (h720 w.params) = true := by kernel_rfl
theorem look3 (w : World) (os : OsState) : gensDone (st720 w os) = true := by kernel_rfl
theorem look4 (w : World) : laidKept (h52 w.params) (h720 w.params) = true := by kernel_rfl
noncomputable abbrev hXt : Shared → Bool := fun s => xlAt vw [] s && recOk PySem.Challenge.rw_if0006_01.row.records s
theorem look5 (w : World) (os : OsState) : openSeen vw lo (importedModules pw.main.body) hXt true (st720 w os) = openGood vw lo := by
  rw [PySem.W.Fast.te4187177175401517315]
  kernel_rfl
theorem look6 (w : World) (os : OsState) : hk.obs (st720 w os) = hk.val w := by kernel_rfl
theorem left_ok : LeftO pw vw lo hXt hk.obs hk.val 30000 true :=
  LeftO.of_pieces (H₀ := h52) (H₁ := h720) (M := hM) open_ok size_ok run_ok (by rfl) fun w => by
    funext os
    rw [look1, look2, look4]
    show ((true && true && gensDone (st720 w os) && true), openSeen vw lo (importedModules pw.main.body) hXt true (st720 w os), hk.obs (st720 w os)) = _
    rw [look3, look5, look6]
    rfl
end
section
structure FnBody where
  name : Str
  qual : Str
  params : Arguments
  body : List Stmt
  scope : Scope
  pos : Pos

inductive BI where
  | len | ord | abs | sorted | bytes | tuple | range | enumerate | zip
noncomputable def BI.val : BI → Value
  | .len => .builtin "len"
  | .ord => .builtin "ord"
  | .abs => .builtin "abs"
  | .sorted => .builtin "sorted"
  | .bytes => .type "bytes"
  | .tuple => .type "tuple"
  | .range => .type "range"
  | .enumerate => .type "enumerate"
  | .zip => .type "zip"

/- plain data -/
inductive D where
  | none
  | bool (b : Bool)
  | int (i : Int)
  | str (l : List Nat)
  | bytes (l : List UInt8)
  | tup (ds : List D)
  | list (ds : List D)
  | dict (ks : List (List Nat)) (vs : List D)
  | inst (C : Addr) (ns : List Str) (vs : List D)
  | old (v : Value)
  | bi (b : BI)
  | clos (b : FnBody) (ns : List Str) (vs : List D)
  | loc (n : Nat)

/- mutable things -/
inductive SO where
  | list (ds : List D)
  | inst (C : Addr) (dn : Nat)
  | attrs (ns : List Str) (vs : List D)

noncomputable abbrev Store := List SO

/- what is known of the heap and never changes -/
noncomputable abbrev G := Addr → Option Obj
noncomputable def G.Le (g g' : G) : Prop := ∀ a o, g a = some o → g' a = some o
noncomputable def G.In (g : G) (h : Heap) : Prop := ∀ a o, g a = some o → h.get? a = some o
theorem G.Le.refl (g : G) : G.Le g g := fun _ _ e => e
theorem G.Le.trans {a b c : G} (x : G.Le a b) (y : G.Le b c) : G.Le a c := fun _ _ e => y _ _ (x _ _ e)

noncomputable def GNs (g : G) (a : Addr) (m : Str → Option Value) : Prop := ∃ o es ep, g a = some o ∧ o.data = .dict es ep ∧ StrKeys es ∧ ∀ name, nsFind es name = m name
theorem GNs.mono {g g' : G} {a m} (x : GNs g a m) (k : G.Le g g') : GNs g' a m := let ⟨o, es, ep, e, r⟩ := x; ⟨o, es, ep, k _ _ e, r⟩
theorem GNs.ns {g : G} {h : Heap} {a m} (x : GNs g a m) (k : G.In g h) : h.Ns a m := let ⟨o, es, ep, e, r⟩ := x; ⟨o, es, ep, k _ _ e, r⟩

noncomputable def lookV (ns : List Str) (vs : List Value) (x : Str) : Option Value := (ns.zip vs).lookup x

structure Cx where
  prog : Program
  w : World
  h₀ : Heap
  tabs : List (Addr × Addr × Nat × Nat × Str)
  mg : Str → Option Value
  mb : Str → Option Value

noncomputable def Cx.isTab (X : Cx) (a : Addr) : Prop := ∃ t ∈ X.tabs, t.2.1 = a

/- a closure's cells, that stand for good -/
inductive CellsR (g : G) : List (Str × Addr) → List Value → Prop
  | nil : CellsR g [] []
  | cons {x : Str} {c : Addr} {o : Obj} {v : Value} {cl vs} : g c = some o → o.data = .cell (some v) → CellsR g cl vs → CellsR g ((x, c) :: cl) (v :: vs)
theorem CellsR.mono {g g' : G} (k : G.Le g g') : ∀ {cl vs}, CellsR g cl vs → CellsR g' cl vs
  | _, _, .nil => .nil
  | _, _, .cons a b r => .cons (k _ _ a) b (CellsR.mono k r)

noncomputable def CodeAt (g : G) (c : Addr) (q : Str) : Prop := ∃ oc xs t, g c = some oc ∧ oc.data = .fields xs ∧ xs[1]? = some (.str q t)
theorem CodeAt.mono {g g' : G} {c q} (x : CodeAt g c q) (k : G.Le g g') : CodeAt g' c q := let ⟨o, xs, t, e, r⟩ := x; ⟨o, xs, t, k _ _ e, r⟩
theorem CodeAt.rec' {g : G} {h : Heap} {c q} (x : CodeAt g c q) (k : G.In g h) : h.CodeRec (.ref c) q := let ⟨o, xs, t, e, d, r⟩ := x; ⟨c, o, xs, t, rfl, k _ _ e, d, r⟩

/- signs of a text -/
noncomputable def okS (l : List Nat) : Prop := ∀ c ∈ l, c < 1114112
mutual
inductive Rep (X : Cx) (g : G) (am : List Addr) : Value → D → Prop
  | none : Rep X g am .none .none
  | bool (b : Bool) : Rep X g am (.bool b) (.bool b)
  | int (i : Int) (t : Tok) : Rep X g am (.int i t) (.int i)
  | str (x : Str) (l : List Nat) (t : Tok) : x.cps.toList = l → okS l → Rep X g am (.str x t) (.str l)
  | bytes (x : Array UInt8) (l : List UInt8) (t : Tok) : x.toList = l → Rep X g am (.bytes x t) (.bytes l)
  | tup (a : Addr) (o : Obj) (n : Nat) (vs : List Value) (ds : List D) : g a = some o → o.cls = .type "tuple" → o.data = .seq vs.toArray n → Reps X g am vs ds → Rep X g am (.ref a) (.tup ds)
  | list (a : Addr) (n : Nat) (vs : List Value) (ds : List D) : g a = some { cls := .type "list", data := .seq vs.toArray n } → Reps X g am vs ds → Rep X g am (.ref a) (.list ds)
  | dict (a : Addr) (o : Obj) (ks : List Str) (ls : List (List Nat)) (vs : List Value) (ds : List D) : (a == sysModules) = false → g a = some o → (∀ h : Heap, h.get? a = some o → h.DictOf (strKind X.prog X.w) a (ks.zip vs)) →
      ks.map (fun k => k.cps.toList) = ls → ks.length = vs.length → Reps X g am vs ds → Rep X g am (.ref a) (.dict ls ds)
  | inst (a : Addr) (C dx : Addr) (ns : List Str) (vs : List Value) (ds : List D) : g a = some (instObj C dx) → GNs g dx (lookV ns vs) → ns.length = vs.length → Reps X g am vs ds → Rep X g am (.ref a) (.inst C ns ds)
  | old (v : Value) : Rep X g am v (.old v)
  | bi (b : BI) : Rep X g am b.val (.bi b)
  | clos (a : Addr) (b : FnBody) (cl : List (Str × Addr)) (doc pm : Value) (c' : Addr) (ctv : Value) (ns : List Str) (vs : List Value) (ds : List D) :
      g a = some (fnMade b.name b.qual b.params b.body b.scope cl doc pm c' ctv) → CodeAt g c' b.qual →
      cl.map (·.1) = ns → CellsR g cl vs → Reps X g am vs ds → Rep X g am (.ref a) (.clos b ns ds)
  | loc (n : Nat) (a : Addr) : am[n]? = some a → Rep X g am (.ref a) (.loc n)
inductive Reps (X : Cx) (g : G) (am : List Addr) : List Value → List D → Prop
  | nil : Reps X g am [] []
  | cons {v d vs ds} : Rep X g am v d → Reps X g am vs ds → Reps X g am (v :: vs) (d :: ds)
end

mutual
/- no mutable thing within -/
noncomputable def D.pure : D → Bool
  | .tup ds | .list ds => D.pures ds
  | .dict _ vs => D.pures vs
  | .inst _ _ vs => D.pures vs
  | .clos _ _ vs => D.pures vs
  | .loc _ => false
  | _ => true
noncomputable def D.pures : List D → Bool
  | [] => true
  | d :: ds => d.pure && D.pures ds
end

mutual
theorem Rep.move {X : Cx} {g g' : G} {am am' : List Addr} (k : G.Le g g') : ∀ {v d}, Rep X g am v d → (d.pure = true ∨ ∀ (n : Nat) a, am[n]? = some a → am'[n]? = some a) → Rep X g' am' v d
  | _, _, .none, _ => .none
  | _, _, .bool b, _ => .bool b
  | _, _, .int i t, _ => .int i t
  | _, _, .str x l t e k, _ => .str x l t e k
  | _, _, .bytes x l t e, _ => .bytes x l t e
  | _, _, .tup a o n vs ds h1 h2 h3 r, p => .tup a o n vs ds (k _ _ h1) h2 h3 (Reps.move k r p)
  | _, _, .list a n vs ds h1 r, p => .list a n vs ds (k _ _ h1) (Reps.move k r p)
  | _, _, .dict a o ks ls vs ds h0 h1 h2 h3 h4 r, p => .dict a o ks ls vs ds h0 (k _ _ h1) h2 h3 h4 (Reps.move k r p)
  | _, _, .inst a C dx ns vs ds h1 h2 h3 r, p => .inst a C dx ns vs ds (k _ _ h1) (h2.mono k) h3 (Reps.move k r p)
  | _, _, .old v, _ => .old v
  | _, _, .bi b, _ => .bi b
  | _, _, .clos a b cl doc pm c' ctv ns vs ds h2 h3 h4 h5 r, p => .clos a b cl doc pm c' ctv ns vs ds (k _ _ h2) (h3.mono k) h4 (h5.mono k) (Reps.move k r p)
  | _, _, .loc n a e, p => .loc n a (p.elim (fun h => nomatch (show false = true from h)) fun p => p n a e)
theorem Reps.move {X : Cx} {g g' : G} {am am' : List Addr} (k : G.Le g g') : ∀ {vs ds}, Reps X g am vs ds → (D.pures ds = true ∨ ∀ (n : Nat) a, am[n]? = some a → am'[n]? = some a) → Reps X g' am' vs ds
  | _, _, .nil, _ => .nil
  | _, _, .cons a r, p => .cons (Rep.move k a (p.imp (fun h => (Bool.and_eq_true_iff.mp h).1) id)) (Reps.move k r (p.imp (fun h => (Bool.and_eq_true_iff.mp h).2) id))
end
section
variable {X : Cx} {g g' : G} {am am' : List Addr} (k : G.Le g g')
include k
theorem Rep.mono (p : ∀ (n : Nat) a, am[n]? = some a → am'[n]? = some a) {v d} (r : Rep X g am v d) : Rep X g' am' v d := r.move k (.inr p)
theorem Reps.mono (p : ∀ (n : Nat) a, am[n]? = some a → am'[n]? = some a) {vs ds} (r : Reps X g am vs ds) : Reps X g' am' vs ds := r.move k (.inr p)
theorem Rep.free {v d} (r : Rep X g am v d) (h : d.pure = true) : Rep X g' am' v d := r.move k (.inl h)
theorem Reps.free {vs ds} (r : Reps X g am vs ds) (h : D.pures ds = true) : Reps X g' am' vs ds := r.move k (.inl h)
end

theorem Reps.length {X : Cx} {g : G} {am} : ∀ {vs ds}, Reps X g am vs ds → vs.length = ds.length
  | _, _, .nil => rfl
  | _, _, .cons _ r => by simp [Reps.length r]
theorem Reps.append {X : Cx} {g : G} {am} : ∀ {vs ds ws es}, Reps X g am vs ds → Reps X g am ws es → Reps X g am (vs ++ ws) (ds ++ es)
  | _, _, _, _, .nil, k => k
  | _, _, _, _, .cons a r, k => .cons a (Reps.append r k)
theorem Reps.get {X : Cx} {g : G} {am} : ∀ {vs ds}, Reps X g am vs ds → ∀ {i : Nat} {d}, ds[i]? = some d → ∃ v, vs[i]? = some v ∧ Rep X g am v d
  | _, _, .nil, i, d, h => by simp at h
  | _, _, .cons a r, 0, d, h => by simp at h; subst h; exact ⟨_, rfl, a⟩
  | _, _, .cons a r, i + 1, d, h => by
    obtain ⟨v, h1, h2⟩ := Reps.get r (i := i) (d := d) (by simpa using h)
    exact ⟨v, by simpa using h1, h2⟩
theorem Reps.take {X : Cx} {g : G} {am} : ∀ {vs ds}, Reps X g am vs ds → ∀ n, Reps X g am (vs.take n) (ds.take n)
  | _, _, .nil, n => by simp; exact .nil
  | _, _, .cons a r, 0 => .nil
  | _, _, .cons a r, n + 1 => .cons a (Reps.take r n)
theorem Reps.drop {X : Cx} {g : G} {am} : ∀ {vs ds}, Reps X g am vs ds → ∀ n, Reps X g am (vs.drop n) (ds.drop n)
  | _, _, .nil, n => by simp; exact .nil
  | _, _, .cons a r, 0 => .cons a r
  | _, _, .cons a r, n + 1 => Reps.drop r n

noncomputable def NsZ (h : Heap) (a : Addr) (m : Str → Option Value) (z : Nat) : Prop := ∃ o es ep, h.get? a = some o ∧ o.data = .dict es ep ∧ StrKeys es ∧ (∀ name, nsFind es name = m name) ∧ es.size ≤ z
theorem NsZ.ns {h : Heap} {a m z} (x : NsZ h a m z) : h.Ns a m := let ⟨o, es, ep, e, d, k, f, _⟩ := x; ⟨o, es, ep, e, d, k, f⟩
theorem NsZ.at' {h h' : Heap} {a m z} (x : NsZ h a m z) (e : ∀ o, h.get? a = some o → h'.get? a = some o) : NsZ h' a m z := let ⟨o, es, ep, e1, r⟩ := x; ⟨o, es, ep, e _ e1, r⟩
/- the mutable things lie so in the heap -/
noncomputable def SORep (X : Cx) (g : G) (am : List Addr) (h : Heap) (a : Addr) : SO → Prop
  | .list ds => ∃ n vs, h.get? a = some { cls := .type "list", data := .seq vs.toArray n } ∧ Reps X g am vs ds
  | .inst C dn => ∃ dx, am[dn]? = some dx ∧ h.get? a = some (instObj C dx)
  | .attrs ns ds => ∃ vs, NsZ h a (lookV ns vs) ns.length ∧ ns.length = vs.length ∧ Reps X g am vs ds

noncomputable def TabOk (X : Cx) (g : G) (h : Heap) (t : Addr × Addr × Nat × Nat × Str) : Prop :=
  ∃ ps, h.get? t.2.1 = some (tabObj ps) ∧ (ps = #[] ∨ ∃ c', ps = #[rawInt t.2.2.1, rawInt t.2.2.2.1, .ref c'] ∧ CodeAt g c' t.2.2.2.2)

structure St (X : Cx) (g : G) (am : List Addr) (σ : Store) (h : Heap) : Prop where
  gin : G.In g h
  base : ∀ a o, X.h₀.get? a = some o → g a = some o
  tabg : ∀ t ∈ X.tabs, g t.2.1 = none
  tab : ∀ t ∈ X.tabs, TabOk X g h t
  amg : ∀ a ∈ am, g a = none
  amt : ∀ a ∈ am, ¬ X.isTab a
  nodup : am.Nodup
  len : am.length = σ.length
  so : ∀ (i : Nat) a so, am[i]? = some a → σ[i]? = some so → SORep X g am h a so

noncomputable def Wx (X : Cx) (am : List Addr) : Addr → Prop := fun a => a ∈ am ∨ X.isTab a

structure Stp (W : Addr → Prop) (g : G) (am : List Addr) (s : Shared) (g' : G) (am' : List Addr) (s' : Shared) : Prop where
  sh : ∃ h' tk, s' = { s with heap := h', toks := tk }
  keep : ∀ a o, ¬ W a → s.heap.get? a = some o → s'.heap.get? a = some o
  gext : ∀ a, a < s.heap.objs.size → g' a = g a
  am : ∃ l, am' = am ++ l ∧ ∀ a ∈ l, s.heap.objs.size ≤ a
  size : s.heap.objs.size ≤ s'.heap.objs.size

theorem Stp.refl {W : Addr → Prop} {g am s} : Stp W g am s g am s :=
  ⟨⟨s.heap, s.toks, rfl⟩, fun _ _ _ e => e, fun _ _ => rfl, ⟨[], by simp⟩, Nat.le_refl _⟩
theorem Stp.trans {W W₁ : Addr → Prop} {g g₁ g₂ am am₁ am₂ s s₁ s₂} (x : Stp W g am s g₁ am₁ s₁) (y : Stp W₁ g₁ am₁ s₁ g₂ am₂ s₂) (hW : ∀ a, a < s.heap.objs.size → W₁ a → W a) : Stp W g am s g₂ am₂ s₂ := by
  obtain ⟨h1, t1, rfl⟩ := x.sh
  obtain ⟨h2, t2, rfl⟩ := y.sh
  obtain ⟨l1, rfl, q1⟩ := x.am
  obtain ⟨l2, rfl, q2⟩ := y.am
  refine ⟨⟨h2, t2, rfl⟩, fun a o ha e => y.keep a o (fun hw => ha (hW a (Heap.lt_size e) hw)) (x.keep a o ha e), fun a ha => (y.gext a (Nat.lt_of_lt_of_le ha x.size)).trans (x.gext a ha),
    ⟨l1 ++ l2, by simp, fun a ha => ?_⟩, Nat.le_trans x.size y.size⟩
  rcases List.mem_append.mp ha with ha | ha
  · exact q1 a ha
  · exact Nat.le_trans x.size (q2 a ha)
theorem Stp.le {W : Addr → Prop} {g g' am am' s s'} (x : Stp W g am s g' am' s') (hg : G.In g s.heap) : G.Le g g' := fun a o e => (x.gext a (Heap.lt_size (hg a o e))).trans e
theorem Stp.pre {W : Addr → Prop} {g g' am am' s s'} (x : Stp W g am s g' am' s') : ∀ (n : Nat) a, am[n]? = some a → am'[n]? = some a := fun n a e => by
  obtain ⟨l, rfl, _⟩ := x.am
  rw [List.getElem?_append_left (List.getElem?_eq_some_iff.mp e).1]; exact e
theorem Stp.wide {W W' : Addr → Prop} {g g' am am' s s'} (x : Stp W g am s g' am' s') (hW : ∀ a, W a → W' a) : Stp W' g am s g' am' s' :=
  ⟨x.sh, fun a o ha e => x.keep a o (fun h => ha (hW a h)) e, x.gext, x.am, x.size⟩
theorem Stp.wx {X : Cx} {W : Addr → Prop} {g g' am am' s s'} (x : Stp W g am s g' am' s') : ∀ a, a < s.heap.objs.size → Wx X am' a → Wx X am a := fun a ha hw => by
  obtain ⟨l, rfl, q⟩ := x.am
  rcases hw with hw | hw
  · rcases List.mem_append.mp hw with hw | hw
    · exact .inl hw
    · exact absurd (q a hw) (Nat.not_le.mpr ha)
  · exact .inr hw
theorem Rep.stp {X : Cx} {W : Addr → Prop} {g g' am am' s s'} {v d} (r : Rep X g am v d) (x : Stp W g am s g' am' s') (hg : G.In g s.heap) : Rep X g' am' v d := r.mono (x.le hg) x.pre
theorem Reps.stp {X : Cx} {W : Addr → Prop} {g g' am am' s s'} {vs ds} (r : Reps X g am vs ds) (x : Stp W g am s g' am' s') (hg : G.In g s.heap) : Reps X g' am' vs ds := r.mono (x.le hg) x.pre

/- all that is new is known -/
noncomputable def gro (g : G) (h h' : Heap) : G := fun a => if a < h.objs.size then g a else h'.get? a
section
variable {X : Cx} {g : G} {am : List Addr} {σ : Store} {s : Shared} {h' : Heap} {tk : Nat}
theorem gro_le (hg : G.In g s.heap) : G.Le g (gro g s.heap h') := fun a o e => by
  unfold gro; rw [if_pos (Heap.lt_size (hg a o e))]; exact e
theorem gro_new {a : Addr} {o : Obj} (ha : s.heap.objs.size ≤ a) (e : h'.get? a = some o) : gro g s.heap h' a = some o := by
  unfold gro; rw [if_neg (Nat.not_lt.mpr ha)]; exact e
theorem SORep.at {h h' : Heap} {a : Addr} {g' : G} {am' : List Addr} (kg : G.Le g g') (kp : ∀ (n : Nat) a, am[n]? = some a → am'[n]? = some a) (hk : ∀ o, h.get? a = some o → h'.get? a = some o) : ∀ {so}, SORep X g am h a so → SORep X g' am' h' a so
  | .list _, ⟨n, vs, e, r⟩ => ⟨n, vs, hk _ e, r.mono kg kp⟩
  | .inst _ _, ⟨dx, e1, e2⟩ => ⟨dx, kp _ _ e1, hk _ e2⟩
  | .attrs _ _, ⟨vs, hn, l, r⟩ => ⟨vs, hn.at' hk, l, r.mono kg kp⟩
theorem SORep.there {h : Heap} {a : Addr} : ∀ {so}, SORep X g am h a so → ∃ o, h.get? a = some o
  | .list _, ⟨n, vs, e, r⟩ => ⟨_, e⟩
  | .inst _ _, ⟨dx, e1, e2⟩ => ⟨_, e2⟩
  | .attrs _ _, ⟨vs, ⟨o, es, ep, e, _⟩, _⟩ => ⟨o, e⟩
theorem St.amlt (S : St X g am σ s.heap) {a : Addr} (ha : a ∈ am) : a < s.heap.objs.size := by
  obtain ⟨i, hi, rfl⟩ := List.mem_iff_getElem.mp ha
  have hi' : i < σ.length := S.len ▸ hi
  obtain ⟨o, e⟩ := (S.so i am[i] σ[i] (by simp [hi]) (by simp [hi'])).there
  exact Heap.lt_size e
theorem St.tablt (S : St X g am σ s.heap) {t} (ht : t ∈ X.tabs) : t.2.1 < s.heap.objs.size := by
  obtain ⟨ps, e, _⟩ := S.tab t ht
  exact Heap.lt_size e
theorem St.grow (S : St X g am σ s.heap) (hk : ∀ a o, s.heap.get? a = some o → h'.get? a = some o) : St X (gro g s.heap h') am σ h' := by
  have le := gro_le (h' := h') S.gin
  refine ⟨fun a o e => ?_, fun a o e => le _ _ (S.base a o e), fun t ht => ?_, fun t ht => ?_, fun a ha => ?_, S.amt, S.nodup, S.len, fun i a so e1 e2 => (S.so i a so e1 e2).at le (fun _ _ e => e) fun o e => hk a o e⟩
  · unfold gro at e
    split at e
    · exact hk _ _ (S.gin a o e)
    · exact e
  · unfold gro; rw [if_pos (S.tablt ht)]; exact S.tabg t ht
  · obtain ⟨ps, e, r⟩ := S.tab t ht
    exact ⟨ps, hk _ _ e, r.imp id fun ⟨c', h2, h3⟩ => ⟨c', h2, h3.mono le⟩⟩
  · unfold gro; rw [if_pos (S.amlt ha)]; exact S.amg a ha
theorem Stp.grow {W : Addr → Prop} (hk : ∀ a o, s.heap.get? a = some o → h'.get? a = some o) (hz : s.heap.objs.size ≤ h'.objs.size) : Stp W g am s (gro g s.heap h') am { s with heap := h', toks := tk } :=
  ⟨⟨h', tk, rfl⟩, fun a o _ e => hk a o e, fun a ha => by unfold gro; rw [if_pos ha], ⟨[], by simp⟩, hz⟩
theorem Stp.tok {W : Addr → Prop} : Stp W g am s g am { s with toks := tk } := ⟨⟨s.heap, tk, rfl⟩, fun _ _ _ e => e, fun _ _ => rfl, ⟨[], by simp⟩, Nat.le_refl _⟩
end

noncomputable abbrev NEx : Value → Shared → Prop := fun _ _ => False

/- a value comes of it -/
noncomputable def Post (X : Cx) (σ' : Store) (d : D) (g : G) (am : List Addr) (s : Shared) (Q : Value → Shared → Prop) : Prop :=
  ∀ v g' am' s', Stp (Wx X am) g am s g' am' s' → St X g' am' σ' s'.heap → Rep X g' am' v d → Q v s'

/- the room that is left -/
structure Room (n : Nat) (A : Around) : Prop where
  handled : A.handled = none
  depth : A.depth + 2 * n + 10 < recursionLimit
  units : A.units + 12 * n + 200 < cLine
theorem Room.less {n m : Nat} {A : Around} (r : Room n A) (h : m ≤ n) : Room m A := ⟨r.handled, by have := r.depth; lia, by have := r.units; lia⟩
end
section
/-! names as numbers -/
noncomputable def enc : List Nat → Nat
  | [] => 0
  | c :: l => 2 ^ c * (2 * enc l + 1)
noncomputable def nm (x : Str) : Nat := enc x.cps.toList
theorem enc_step : ∀ (a b x y : Nat), 2 ^ a * (2 * x + 1) = 2 ^ b * (2 * y + 1) → a = b ∧ x = y
  | 0, 0, x, y, h => by
    simp at h
    exact ⟨rfl, by lia⟩
  | 0, b + 1, x, y, h => by
    exfalso
    rw [Nat.pow_succ, Nat.mul_comm (2 ^ b) 2, Nat.mul_assoc] at h
    simp at h
    generalize 2 ^ b * (2 * y + 1) = q at h
    lia
  | a + 1, 0, x, y, h => by
    exfalso
    rw [Nat.pow_succ, Nat.mul_comm (2 ^ a) 2, Nat.mul_assoc] at h
    simp at h
    generalize 2 ^ a * (2 * x + 1) = q at h
    lia
  | a + 1, b + 1, x, y, h => by
    rw [Nat.pow_succ, Nat.mul_comm (2 ^ a) 2, Nat.mul_assoc, Nat.pow_succ, Nat.mul_comm (2 ^ b) 2, Nat.mul_assoc] at h
    obtain ⟨h1, h2⟩ := enc_step a b x y (Nat.eq_of_mul_eq_mul_left (by decide) h)
    exact ⟨by lia, h2⟩
theorem enc_pos (c : Nat) (l : List Nat) : enc (c :: l) ≠ 0 := by
  unfold enc
  exact Nat.mul_ne_zero (Nat.pos_iff_ne_zero.mp (Nat.pow_pos (by decide))) (by lia)
theorem enc_inj : ∀ {a b : List Nat}, enc a = enc b → a = b
  | [], [], _ => rfl
  | [], c :: l, h => absurd h.symm (enc_pos c l)
  | c :: l, [], h => absurd h (enc_pos c l)
  | c :: l, d :: m, h => by
    obtain ⟨h1, h2⟩ := enc_step _ _ _ _ (show 2 ^ c * (2 * enc l + 1) = 2 ^ d * (2 * enc m + 1) from h)
    rw [h1, enc_inj h2]
theorem nm_inj {x y : Str} (h : nm x = nm y) : x = y := by
  have := enc_inj h
  obtain ⟨⟨a⟩⟩ := x
  obtain ⟨⟨b⟩⟩ := y
  simp at this
  rw [this]

noncomputable abbrev VarsN := List (Nat × D)

inductive Flo where
  | next
  | brk
  | cont
  | ret (d : D)

structure EI where
  kd : List (Nat × NameKind)
  qual : Str
  tab : Option (Nat × Nat × Str)
  sl : List Nat
  mu : List Nat

structure FnI where
  params : List Nat
  dflts : List D
  ar : List Nat
  body : List Stmt
  ei : EI

structure ClsI where
  init : Addr
  meths : List (Nat × Addr)
  attrs : List (Nat × D)
  flds : List Nat
  sets : List Nat

structure Ctx where
  glob : Nat → Option D
  fn : Addr → Option FnI
  cls : Addr → Option ClsI
  /- may text be replaced -/
  rep : Bool

noncomputable def kdOf (names : List (Str × NameKind)) : List (Nat × NameKind) := names.map fun x => (nm x.1, x.2)

noncomputable def look (x : Nat) : List (Nat × α) → Option α
  | [] => none
  | p :: r => if p.1 = x then some p.2 else look x r
noncomputable def put (x : Nat) (d : D) : VarsN → VarsN
  | [] => [(x, d)]
  | p :: r => if p.1 = x then (x, d) :: r else p :: put x d r
theorem look_put (x y : Nat) (d : D) : ∀ ρ, look y (put x d ρ) = if x = y then some d else look y ρ
  | [] => by simp [put, look]
  | p :: r => by
    simp only [put]
    by_cases h : p.1 = x
    · rw [if_pos h]
      simp only [look]
      by_cases h2 : x = y
      · simp [h2]
      · simp [h2, h]
    · rw [if_neg h]
      simp only [look]
      by_cases h2 : p.1 = y
      · have : x ≠ y := fun e => h (h2.trans e.symm)
        simp [h2, this]
      · rw [if_neg h2, if_neg h2, look_put x y d r]

noncomputable def getV (ei : EI) (glob : Nat → Option D) (x : Nat) (ρ : VarsN) : Option D :=
  match look x ei.kd with
  | some .local => look x ρ
  | some .cell => look x ρ
  | some .free => look x ρ
  | some .globalImplicit => glob x
  | _ => none
noncomputable def setV (ei : EI) (x : Nat) (d : D) (ρ : VarsN) : Option VarsN :=
  match look x ei.kd with
  | some .local => some (put x d ρ)
  | some .cell => if ei.sl.contains x then none else some (put x d ρ)
  | _ => none

/-! operations on plain data -/
noncomputable def lim : Nat := 16777216

noncomputable def hexd (n : Nat) : Nat := if n < 10 then 48 + n else 55 + n
noncomputable def reps (l : List α) : Nat → List α
  | 0 => []
  | n + 1 => l ++ reps l n

noncomputable def lookK (x : List Nat) : List (List Nat) → List D → Option D
  | k :: ks, v :: vs => if k = x then some v else lookK x ks vs
  | _, _ => none
noncomputable def lookA (x : Nat) : List Str → List D → Option D
  | k :: ks, v :: vs => if nm k = x then some v else lookA x ks vs
  | _, _ => none

noncomputable def cutFrom (i : Int) (n : Nat) : Nat := if i < 0 then (i + n).toNat else min i.toNat n

noncomputable def cutL {α : Type} (l : List α) (lo hi : Option Int) : List α :=
  (l.take (match hi with | some i => cutFrom i l.length | none => l.length)).drop (match lo with | some i => cutFrom i l.length | none => 0)
noncomputable def cutD (d : D) (lo hi : Option Int) : Option D :=
  match d with
  | .list l => if l.length ≤ lim then some (.list (cutL l lo hi)) else none
  | _ => none

noncomputable def itemD (σ : Store) (d i : D) : Option D :=
  match d, i with
  | .list l, .int i => if l.length ≤ lim then if i < 0 then (if 0 ≤ i + l.length then l[(i + l.length).toNat]? else none) else if i < 2 ^ 62 then l[i.toNat]? else none else none
  | .tup l, .int i => if 0 ≤ i ∧ i < 2 ^ 62 then l[i.toNat]? else none
  | .loc n, .int i => match σ[n]? with
    | some (.list l) => if 0 ≤ i ∧ i < 2 ^ 62 ∧ l.length ≤ lim then l[i.toNat]? else none
    | _ => none
  | .dict ks vs, .str x => lookK x ks vs
  | _, _ => none

/-! methods of strs, bytes, dicts; built-ins -/
noncomputable def repl (c : Nat) (z l : List Nat) : List Nat := l.flatMap fun k => if k = c then z else [k]
noncomputable def okB (l : List Nat) : Bool := l.all fun c => decide (c < 1114112)
/- str.replace of one written sign -/
noncomputable def replD (name : Nat) (d : D) (args : List Expr) : Option D :=
  if name = nm "replace" then match d, args with
    | .str l, [.Constant (.str y) _ _, .Constant (.str z) _ _] => match y.cps.toList with
      | [c] => if (l.length + 1) * (z.cps.toList.length + 1) ≤ lim ∧ okB z.cps.toList ∧ (y == z) = false then some (.str (repl c z.cps.toList l)) else none
      | _ => none
    | _, _ => none
  else none

noncomputable def expD (size : Nat) : List Nat → Nat → List Nat
  | [], _ => []
  | c :: l, col => if c = 9 then List.replicate (size - col % size) 32 ++ expD size l (col + (size - col % size)) else c :: expD size l (if c = 10 ∨ c = 13 then 0 else col + 1)

/- cut at each c -/
noncomputable def splD (c : Nat) : List Nat → List (List Nat)
  | [] => [[]]
  | x :: l => if x = c then [] :: splD c l else match splD c l with
    | y :: r => (x :: y) :: r
    | [] => [[x]]

noncomputable def strsD : List D → Option (List (List Nat))
  | [] => some []
  | .str x :: ds => (strsD ds).map (x :: ·)
  | _ => none
noncomputable def intsD : List D → Option (List Int)
  | [] => some []
  | .int x :: ds => (intsD ds).map (x :: ·)
  | _ => none

noncomputable def insD (x : Int) : List Int → List Int
  | [] => [x]
  | y :: l => if x ≤ y then x :: y :: l else y :: insD x l
noncomputable def sortD (l : List Int) : List Int := l.foldr insD []

noncomputable def trD (tab : List (List Nat)) : List Nat → Option (List Nat)
  | [] => some []
  | c :: l => match tab[c]?, trD tab l with
    | some t, some r => some (t ++ r)
    | _, _ => none

noncomputable def rangeD (a b : Int) : List D := (List.range (b - a).toNat).map fun (k : Nat) => D.int (a + (k : Int))
noncomputable def enumD (ds : List D) : List D := ds.zipIdx.map fun p => .tup [.int p.2, p.1]
noncomputable def zipD (a b : List D) : List D := (a.zip b).map fun p => .tup [p.1, p.2]

noncomputable def isName : Expr → Bool
  | .Name _ _ => true
  | _ => false
noncomputable def isTuple : Expr → Bool
  | .Tuple _ _ _ => true
  | _ => false
noncomputable def isTupD : D → Bool
  | .tup _ => true
  | _ => false
noncomputable def itemsD (t : Expr) : D → Option (List D)
  | .list l => if isName t || (isTuple t && l.all isTupD) then some l else none
  | .str l => if isName t then some (l.map fun c => .str [c]) else none
  | _ => none

noncomputable def isFn : ScopeKind → Bool
  | .function => true
  | _ => false
noncomputable def isCellK : Option NameKind → Bool
  | some .cell => true
  | _ => false
noncomputable def isFree : NameKind → Bool
  | .free => true
  | _ => false
noncomputable def inCells (ei : EI) (x : Nat) : Bool := match look x ei.kd with
  | some .cell => true
  | some .free => true
  | _ => false
noncomputable def dist : List (Str × NameKind) → Bool
  | [] => true
  | p :: r => r.all (fun q => nm q.1 != nm p.1) && dist r
/- a scope within, as it must be -/
noncomputable def scOk (sc : Scope) (ei : EI) : Bool :=
  isFn sc.kind && dist sc.names && sc.names.all fun p => nm p.1 != nm "__debug__" && nm p.1 != nm "__classdict__" && (!isFree p.2 || inCells ei (nm p.1))
noncomputable def bindAll (ei : EI) : List Nat → List D → VarsN → Option VarsN
  | [], [], ρ => some ρ
  | p :: ps, d :: ds, ρ => match setV { ei with sl := [] } p d ρ with
    | some ρ₁ => bindAll ei ps ds ρ₁
    | none => none
  | _, _, _ => none
noncomputable def freeOf (kd : List (Nat × NameKind)) (ρ : VarsN) : VarsN := ρ.filter fun p => look p.1 kd == some .free
noncomputable def isNone {α : Type} : List α → Bool
  | [] => true
  | _ => false

noncomputable def handD : D → Bool
  | .old (.ref _) => true
  | .old _ => false
  | .bi _ => false
  | _ => true
noncomputable def attrD (C : Ctx) (σ : Store) (d : D) (a : Str) : Option D :=
  match d with
  | .inst c ns vs => match C.cls c with
    | some k => if k.flds.contains (nm a) then match lookA (nm a) ns vs with
      | some r => if handD r then some r else none
      | none => none
      else none
    | none => none
  | .old (.ref c) => match C.cls c with
    | some k => look (nm a) k.attrs
    | none => none
  | .loc n => match σ[n]? with
    | some (.inst c m) => match C.cls c, σ[m]? with
      | some k, some (.attrs ns vs) => if k.flds.contains (nm a) then match lookA (nm a) ns vs with
        | some r => if handD r then some r else none
        | none => none
        else none
      | _, _ => none
    | _ => none
  | _ => none
noncomputable def methF (C : Ctx) (d : D) (name : Nat) : Option D :=
  match d with
  | .inst c ns vs => match C.cls c with
    | some k => if (lookA name ns vs).isNone then (look name k.meths).map fun a => .old (.ref a) else none
    | none => none
  | _ => none

noncomputable def notSuper : Expr → Bool
  | .Call (.Name _ _) [] [] _ => false
  | _ => true

/- slices' ends -/
noncomputable def endD : Option (Option D) → Option (Option Int)
  | none => some none
  | some (some (.int i)) => if -4611686018427387904 < i ∧ i < 4611686018427387904 then some (some i) else none
  | _ => none

noncomputable def nameOf : Expr → Option Str
  | .Name x _ => some x
  | _ => none

noncomputable def isMu (ei : EI) : Expr → Bool
  | .Name x _ => ei.mu.contains (nm x)
  | _ => false
noncomputable def lstD (σ : Store) : D → Option (List D)
  | .list l => some l
  | .loc n => match σ[n]? with
    | some (.list l) => some l
    | _ => none
  | _ => none
/- distinct names alone -/
noncomputable def plainNames : List Expr → Bool
  | [] => true
  | .Name x _ :: r => plainNames r && !(r.any fun e => match e with | .Name y _ => nm y = nm x | _ => false)
  | _ => false
/- no constant's expression -/
noncomputable def moves : Expr → Bool
  | .Name x _ => nm x != nm "__debug__"
  | .List .. => true
  | .Attribute .. => true
  | .Call .. => true
  | .ListComp .. => true
  | .Compare .. => true
  | _ => false
noncomputable def noComp : Expr → Bool
  | .Constant .. => true
  | .Call .. => true
  | _ => false
noncomputable def storeD (σ : Store) (d i v : D) : Option Store :=
  match d, i with
  | .loc n, .int i => match σ[n]? with
    | some (.list l) => if 0 ≤ i ∧ i < l.length ∧ i < 2 ^ 62 then some (σ.set n (.list (l.set i.toNat v))) else none
    | _ => none
  | _, _ => none
noncomputable def putA (x : Str) (d : D) : List Str → List D → List Str × List D
  | k :: ks, v :: vs => if nm k = nm x then (k :: ks, d :: vs) else let r := putA x d ks vs; (k :: r.1, v :: r.2)
  | _, _ => ([x], [d])
noncomputable def setA (C : Ctx) (σ : Store) (d : D) (a : Str) (v : D) : Option Store :=
  match d with
  | .loc n => match σ[n]? with
    | some (.inst c m) => match C.cls c, σ[m]? with
      | some k, some (.attrs ns vs) => if k.sets.contains (nm a) && decide (ns.length < 1000) then some (σ.set m (.attrs (putA a v ns vs).1 (putA a v ns vs).2)) else none
      | _, _ => none
    | _ => none
  | _ => none
noncomputable def freesOf (names : List (Str × NameKind)) : List Str := ((names.filter fun x => x.2 == .free).map (·.1)).reverse
noncomputable def capt : List Str → VarsN → Option (List D)
  | [], _ => some []
  | x :: r, ρ => match look (nm x) ρ, capt r ρ with
    | some d, some ds => some (d :: ds)
    | _, _ => none
noncomputable def noAnn : List Arg → Bool
  | [] => true
  | ⟨_, none, _⟩ :: r => noAnn r
  | _ => false
noncomputable def pairsD : List D → Option (List (List Nat) × List D)
  | [] => some ([], [])
  | .tup [.str k, v] :: r => (pairsD r).map fun p => (k :: p.1, v :: p.2)
  | _ => none
noncomputable def keysD : List (Option Expr) → Option (List Expr)
  | [] => some []
  | some e :: r => (keysD r).map (e :: ·)
  | none :: _ => none

/- a nested def of one parameter -/
structure ClosF (b : FnBody) (ns : List Str) (fi : FnI) : Prop where
  run : ∃ x tc, b.params = ⟨[], [⟨x, none, tc⟩], none, [], [], none, []⟩ ∧ (scOk b.scope ⟨ns.map fun y => (nm y, .free), Str.empty, none, [], []⟩ && !b.scope.isCoroutine && !b.scope.isGenerator && ns.all (fun y => look (nm y) (kdOf b.scope.names) == some .free)) = true ∧
    fi = { params := [nm x], dflts := [], ar := [1], body := b.body, ei := { kd := kdOf b.scope.names, qual := b.qual ++ ".<locals>.", tab := none, sl := [], mu := [] } } ∧
    ∀ (name qual : Str) (body : List Stmt) (sc : Scope) (cl : List (Str × Addr)) (doc pm cd ctv w : Value), bindArgs (fnX name qual ⟨[], [⟨x, none, tc⟩], none, [], [], none, []⟩ body sc cl .none .none doc pm none cd ctv) ⟨[w], []⟩ = pure [(x, w)]
end
section
structure Frm (X : Cx) (g : G) (am : List Addr) (ei : EI) (env : Env) (ρ : VarsN) (h : Heap) : Prop where
  kind : env.scope.kind = .function
  glob : env.globals = mainGlobals
  blt : env.builtins = builtinsNs
  qual : ei.qual = env.qual
  kd : ∀ x k, look (nm x) ei.kd = some k → env.kindOf x = some k ∨ (k = .free ∧ env.kindOf x = some .cell)
  nodbg : look (nm "__debug__") ei.kd = none
  nocd : look (nm "__classdict__") ei.kd = none
  ns : ∃ m, h.Ns env.locals m ∧ ∀ x d, look (nm x) ei.kd = some .local → look (nm x) ρ = some d → ∃ v, m x = some v ∧ Rep X g am v d
  cells : ∀ x, (look (nm x) ei.kd = some .cell ∨ look (nm x) ei.kd = some .free) → ∃ c, env.cells.lookup x = some c ∧ c ∉ am ∧ ¬ X.isTab c ∧ c ≠ env.locals ∧
     (look (nm x) ei.kd = some .cell → ei.sl.contains (nm x) = false → g c = none) ∧
     (ei.sl.contains (nm x) = true → ∃ o v d, g c = some o ∧ o.data = .cell (some v) ∧ look (nm x) ρ = some d ∧ Rep X g am v d) ∧
     ∃ ov, h.IsCell c ov ∧ ∀ d, look (nm x) ρ = some d → ∃ v, ov = some v ∧ Rep X g am v d
  apart : ∀ x y c, look (nm x) ei.kd = some .cell → (look (nm y) ei.kd = some .cell ∨ look (nm y) ei.kd = some .free) → env.cells.lookup x = some c → env.cells.lookup y = some c → x = y
  Lg : g env.locals = none
  Lam : env.locals ∉ am
  Lt : ¬ X.isTab env.locals
  tab : ∀ p, ei.tab = some p → ∃ c P, env.code = .ref c ∧ (c, P, p.1, p.2.1, p.2.2) ∈ X.tabs

section
variable {X : Cx} {g g' : G} {am am' : List Addr} {σ σ' : Store} {ei : EI} {env : Env} {ρ : VarsN} {s s' : Shared}

theorem St.new_am (x : Stp (Wx X am) g am s g' am' s') {a : Addr} (ha : a < s.heap.objs.size) (hn : a ∉ am) : a ∉ am' := fun hm => by
  obtain ⟨l, rfl, q⟩ := x.am
  rcases List.mem_append.mp hm with hm | hm
  · exact hn hm
  · exact absurd (q a hm) (Nat.not_le.mpr ha)

theorem Frm.stp (F : Frm X g am ei env ρ s.heap) (S : St X g am σ s.heap) (x : Stp (Wx X am) g am s g' am' s') : Frm X g' am' ei env ρ s'.heap := by
  have le := x.le S.gin
  have pre := x.pre
  obtain ⟨m, hn, hm⟩ := F.ns
  refine ⟨F.kind, F.glob, F.blt, F.qual, F.kd, F.nodbg, F.nocd, ⟨m, ?_, fun x d h1 h2 => ?_⟩, fun y hy => ?_, F.apart, ?_, ?_, F.Lt, F.tab⟩
  · exact hn.at' fun o e => x.keep _ _ (fun w => w.elim F.Lam F.Lt) e
  · obtain ⟨v, e, r⟩ := hm x d h1 h2
    exact ⟨v, e, r.mono le pre⟩
  · obtain ⟨c, h1, h2, h3, h4, h5, h6, ov, h7, h8⟩ := F.cells y hy
    have hc : c < s.heap.objs.size := by obtain ⟨o, e, _⟩ := h7; exact Heap.lt_size e
    refine ⟨c, h1, St.new_am x hc h2, h3, h4, fun q1 q2 => (x.gext c hc).trans (h5 q1 q2), fun q => ?_, ov, ?_, fun d hd => ?_⟩
    · obtain ⟨o, v, d, e1, e2, e3, e4⟩ := h6 q
      exact ⟨o, v, d, le _ _ e1, e2, e3, e4.mono le pre⟩
    · obtain ⟨o, e, r⟩ := h7
      exact ⟨o, x.keep _ _ (fun w => w.elim h2 h3) e, r⟩
    · obtain ⟨v, e, r⟩ := h8 d hd
      exact ⟨v, e, r.mono le pre⟩
  · exact (x.gext _ hn.lt).trans F.Lg
  · exact St.new_am x hn.lt F.Lam

theorem Post.trans {d : D} {Q : Value → Shared → Prop} (p : Post X σ' d g am s Q) (x : Stp (Wx X am) g am s g' am' s') : Post X σ' d g' am' s' Q :=
  fun v g₂ am₂ s₂ y S r => p v g₂ am₂ s₂ (x.trans y x.wx) S r

/- a value and nothing new -/
theorem Post.tok {d : D} {Q : Value → Shared → Prop} (p : Post X σ d g am s Q) (S : St X g am σ s.heap) {v : Value} (r : Rep X g am v d) (tk : Nat) : Q v { s with toks := tk } :=
  p v g am _ Stp.tok S r
theorem Post.here {d : D} {Q : Value → Shared → Prop} (p : Post X σ d g am s Q) (S : St X g am σ s.heap) {v : Value} (r : Rep X g am v d) : Q v s := by
  simpa using p.tok S r s.toks
/- a value, the heap grown -/
theorem Post.grow {d : D} {Q : Value → Shared → Prop} (p : Post X σ d g am s Q) (S : St X g am σ s.heap) {h' : Heap} {tk : Nat} {v : Value}
    (hk : ∀ a o, s.heap.get? a = some o → h'.get? a = some o) (hz : s.heap.objs.size ≤ h'.objs.size) (r : Rep X (gro g s.heap h') am v d) : Q v { s with heap := h', toks := tk } :=
  p v _ am _ (Stp.grow hk hz) (S.grow hk) r
end

/-! loads and stores of names -/
section
variable {X : Cx} {C : Ctx} {g : G} {am : List Addr} {σ : Store} {ei : EI} {env : Env} {ρ : VarsN} {s : Shared} {M : Model} {A : Around} {E : Value → Shared → Prop}

/- what the evaluator's tables say is so -/
structure GlobOk (X : Cx) (C : Ctx) : Prop where
  sys : ∃ a o, sysModules ≤ a ∧ X.h₀.get? a = some o
  g : X.h₀.Ns mainGlobals X.mg
  b : X.h₀.Ns builtinsNs X.mb
  glob : ∀ x d, C.glob (nm x) = some d → ∃ v, (X.mg x = some v ∨ (X.mg x = none ∧ X.mb x = some v)) ∧ Rep X X.h₀.get? [] v d ∧ d.pure = true

theorem str_ne {x y : Str} (h : nm x ≠ nm y) : (x == y) = false := by
  cases q : x == y with
  | false => rfl
  | true => exact absurd (congrArg nm (eq_of_beq q)) h

theorem load_ok (O : GlobOk X C) (S : St X g am σ s.heap) (F : Frm X g am ei env ρ s.heap) {x : Str} {d : D} (e : getV ei C.glob (nm x) ρ = some d) {Q : Value → Shared → Prop}
    (h : ∀ v, Rep X g am v d → Q v s) : wpAny M A (loadName env x) Q E s := by
  unfold getV at e
  split at e
  · rename_i hk
    obtain ⟨m, hn, hm⟩ := F.ns
    obtain ⟨v, e1, r⟩ := hm x d hk e
    have hl : env.kindOf x = some .local := (F.kd x _ hk).resolve_right fun q => by cases q.1
    exact wpAny_loadName_local F.kind hl hn e1 (h v r)
  · rename_i hk
    obtain ⟨c, h1, _, _, _, _, _, ov, h7, h8⟩ := F.cells x (.inl hk)
    obtain ⟨v, rfl, r⟩ := h8 d e
    have hl : env.kindOf x = some .cell := (F.kd x _ hk).resolve_right fun q => by cases q.1
    exact wpAny_loadName_cell F.kind hl h1 h7 (h v r)
  · rename_i hk
    obtain ⟨c, h1, _, _, _, _, _, ov, h7, h8⟩ := F.cells x (.inr hk)
    obtain ⟨v, rfl, r⟩ := h8 d e
    rcases F.kd x _ hk with hl | ⟨_, hl⟩
    · exact wpAny_loadName_free F.kind hl h1 h7 (h v r) (str_ne fun q => by rw [q, F.nocd] at hk; cases hk)
    · exact wpAny_loadName_cell F.kind hl h1 h7 (h v r)
  · rename_i hk
    have hl : env.kindOf x = some .globalImplicit := (F.kd x _ hk).resolve_right fun q => by cases q.1
    obtain ⟨v, hv, r, hp⟩ := O.glob x d e
    have le : G.Le X.h₀.get? g := S.base
    have hg : s.heap.Ns mainGlobals X.mg := O.g.keeps fun b o e => S.gin _ _ (S.base _ _ e)
    have hb : s.heap.Ns builtinsNs X.mb := O.b.keeps fun b o e => S.gin _ _ (S.base _ _ e)
    have q := h v (r.free le hp)
    unfold loadName
    simp only [Env.blockKind, F.kind, hl, ScopeKind.isAnnotationScope, Bool.false_and, Bool.false_eq_true, if_false]
    rcases hv with hv | ⟨hv, hw⟩
    · exact loadGlobal_global (by rw [F.glob]; exact hg) hv q
    · exact loadGlobal_builtin (by rw [F.glob]; exact hg) hv (by rw [F.blt]; exact hb) hw q
  · cases e

theorem Name_ok (O : GlobOk X C) (S : St X g am σ s.heap) (F : Frm X g am ei env ρ s.heap) {x : Str} {pos : Pos} {d : D} (e : getV ei C.glob (nm x) ρ = some d) {Q : Value → Shared → Prop}
    (h : ∀ v, Rep X g am v d → Q v s) : wpAny M A (eval (.Name x pos) env) Q E s := by
  refine wpAny_Name (load_ok O S F e h) (str_ne fun q => ?_)
  unfold getV at e
  rw [q, F.nodbg] at e
  cases e

/- what a store into the own frame turns -/
noncomputable def Own (ei : EI) (env : Env) (a : Addr) : Prop := a = env.locals ∨ ∃ x, look (nm x) ei.kd = some .cell ∧ env.cells.lookup x = some a
noncomputable def Ws (X : Cx) (am : List Addr) (ei : EI) (env : Env) : Addr → Prop := fun a => Wx X am a ∨ Own ei env a

theorem store_ok (S : St X g am σ s.heap) (F : Frm X g am ei env ρ s.heap) {x : Str} {d : D} {v : Value} {ρ' : VarsN} (e : setV ei (nm x) d ρ = some ρ') (r : Rep X g am v d) {Q : Unit → Shared → Prop}
    (h : ∀ s', Stp (Ws X am ei env) g am s g am s' → St X g am σ s'.heap → Frm X g am ei env ρ' s'.heap → Q () s') : wpAny M A (storeName env x v) Q E s := by
  have stores : ∀ (h' : Heap) (tk : Nat) (a : Addr), Own ei env a → g a = none → a ∉ am → ¬ X.isTab a → a < s.heap.objs.size → Heap.SameBut a s.heap h' → Stp (Ws X am ei env) g am s g am { s with heap := h', toks := tk } ∧ St X g am σ h' := by
    intro h' tk a ho hga ha ht hlt hs
    have keep : ∀ b o, b ≠ a → s.heap.get? b = some o → h'.get? b = some o := fun b o hb e => (hs.2 b hb).trans e
    refine ⟨⟨⟨h', tk, rfl⟩, fun b o hb e => keep b o (fun q => hb (.inr (q ▸ ho))) e, fun _ _ => rfl, ⟨[], by simp⟩, Nat.le_of_eq hs.1.symm⟩, ?_⟩
    refine ⟨fun b o e => keep b o (fun q => ?_) (S.gin b o e), S.base, S.tabg, fun t ht' => ?_, S.amg, S.amt, S.nodup, S.len, fun i b so e1 e2 => (S.so i b so e1 e2).at (G.Le.refl g) (fun _ _ e => e) fun o e => keep b o (fun q => ?_) e⟩
    · rw [q, hga] at e; cases e
    · obtain ⟨ps, e, q⟩ := S.tab t ht'
      exact ⟨ps, keep _ _ (fun q => ht ⟨t, ht', q⟩) e, q⟩
    · exact ha (q ▸ List.mem_of_getElem? e1)
  unfold setV at e
  split at e
  · rename_i hk
    cases e
    obtain ⟨m, hn, hm⟩ := F.ns
    have hl : env.kindOf x = some .local := (F.kd x _ hk).resolve_right fun q => by cases q.1
    refine wpAny_storeName_local hl hn (fun h' hn' hs => ?_) (by rw [F.kind]; rfl)
    obtain ⟨P, S'⟩ := stores h' (s.toks + 1) env.locals (.inl rfl) F.Lg F.Lam F.Lt hn.lt hs
    refine h _ P S' ⟨F.kind, F.glob, F.blt, F.qual, F.kd, F.nodbg, F.nocd, ⟨_, hn', fun y d' h1 h2 => ?_⟩, fun y hy => ?_, F.apart, F.Lg, F.Lam, F.Lt, F.tab⟩
    · rw [look_put] at h2
      by_cases q : x = y
      · subst q
        rw [if_pos rfl] at h2; cases h2
        exact ⟨v, by simp, r⟩
      · rw [if_neg (fun z => q (nm_inj z))] at h2
        obtain ⟨v', e1, e2⟩ := hm y d' h1 h2
        exact ⟨v', by simp [Ne.symm q, e1], e2⟩
    · have hxy : nm x ≠ nm y := fun z => by rw [← z, hk] at hy; rcases hy with hy | hy <;> cases hy
      obtain ⟨c, h1, h2, h3, h4, h5, h6, ov, h7, h8⟩ := F.cells y hy
      refine ⟨c, h1, h2, h3, h4, h5, fun q => ?_, ov, h7.sameBut hs h4, fun d' hd => h8 d' (by rwa [look_put, if_neg hxy] at hd)⟩
      obtain ⟨o, v', d', e1, e2, e3, e4⟩ := h6 q
      exact ⟨o, v', d', e1, e2, by rw [look_put, if_neg hxy]; exact e3, e4⟩
  · rename_i hk
    split at e
    · cases e
    · rename_i hsl
      cases e
      have hsl : ei.sl.contains (nm x) = false := by simpa using hsl
      obtain ⟨c, h1, h2, h3, h4, h5, h6, ov, h7, h8⟩ := F.cells x (.inl hk)
      have hl : env.kindOf x = some .cell := (F.kd x _ hk).resolve_right fun q => by cases q.1
      refine wpAny_storeName_cell F.kind hl h1 h7 fun h' hc' hs => ?_
      obtain ⟨P, S'⟩ := stores h' s.toks c (.inr ⟨x, hk, h1⟩) (h5 hk hsl) h2 h3 (by obtain ⟨o, e, _⟩ := h7; exact Heap.lt_size e) hs
      obtain ⟨m, hn, hm⟩ := F.ns
      refine h _ P S' ⟨F.kind, F.glob, F.blt, F.qual, F.kd, F.nodbg, F.nocd, ⟨m, hn.sameBut hs h4.symm, fun y d' q1 q2 => ?_⟩, fun y hy => ?_, F.apart, F.Lg, F.Lam, F.Lt, F.tab⟩
      · rw [look_put, if_neg (fun z => by rw [← z, hk] at q1; cases q1)] at q2
        exact hm y d' q1 q2
      · by_cases q : x = y
        · subst q
          refine ⟨c, h1, h2, h3, h4, h5, fun z => (by rw [hsl] at z; cases z), some v, hc', fun d' hd => ?_⟩
          rw [look_put, if_pos rfl] at hd; cases hd
          exact ⟨v, rfl, r⟩
        · have hxy : nm x ≠ nm y := fun z => q (nm_inj z)
          obtain ⟨c', k1, k2, k3, k4, k5, k6, ov', k7, k8⟩ := F.cells y hy
          have hcc : c' ≠ c := fun z => q (F.apart x y c hk hy h1 (z ▸ k1))
          refine ⟨c', k1, k2, k3, k4, k5, fun q => ?_, ov', k7.sameBut hs hcc, fun d' hd => k8 d' (by rwa [look_put, if_neg hxy] at hd)⟩
          obtain ⟨o, v', d', e1, e2, e3, e4⟩ := k6 q
          exact ⟨o, v', d', e1, e2, by rw [look_put, if_neg hxy]; exact e3, e4⟩
  · cases e
end
end
section
theorem okS_append {a b : List Nat} (h : okS a) (k : okS b) : okS (a ++ b) := fun c hc => (List.mem_append.mp hc).elim (h c) (k c)
theorem okS_reps {a : List Nat} (h : okS a) : ∀ n, okS (reps a n)
  | 0 => fun c hc => nomatch hc
  | n + 1 => okS_append h (okS_reps h n)
theorem foldl_reps {α : Type} (a : Array α) : ∀ (n : Nat) (acc : Array α), ((List.replicate n a).foldl (fun x y => x ++ y) acc).toList = acc.toList ++ reps a.toList n
  | 0, acc => by simp [reps]
  | n + 1, acc => by
    rw [List.replicate_succ, List.foldl_cons, foldl_reps a n]
    simp [reps]

section
variable {X : Cx} {g : G} {am : List Addr} {σ : Store} {s : Shared} {A : Around} {Q : Value → Shared → Prop} {n : Nat}

theorem txt_mul {x : Str} {k : Int} (h : x.length * k.toNat ≤ lim) (h0 : -16777216 ≤ k) (hk : k < lim) : MulOk x k := by
  have hl : lim = 16777216 := rfl
  rw [hl] at h hk
  refine ⟨?_, fun h1 h2 => ?_, fun h1 h2 => ?_⟩
  · rw [decide_eq_false (by lia), decide_eq_false (by lia)]; rfl
  · have hk0 : 0 < k := by lia
    have e : (x.length : Int) * k ≤ 16777216 := by
      have : ((x.length * k.toNat : Nat) : Int) ≤ ((16777216 : Nat) : Int) := Int.ofNat_le.mpr h
      rw [Int.natCast_mul, Int.toNat_of_nonneg (by lia)] at this
      exact this
    intro hgt
    have h3 := Int.le_ediv_of_mul_le hk0 e
    have h4 : (16777216 : Int) / k ≤ (2 ^ 63 - 1) / k := Int.ediv_le_ediv hk0 (by decide)
    lia
  · unfold Builtin.Str.tooLong sizeLine
    exact decide_eq_false (by lia)
theorem txt_mul_is {x : Str} {k : Int} : (Txt.mul x k).cps.toList = reps x.cps.toList k.toNat := by
  unfold Txt.mul
  split
  · rename_i h
    have : k.toNat = 0 := by lia
    rw [this]; rfl
  · rename_i h
    split
    · rename_i h2
      rcases Bool.or_eq_true_iff.mp h2 with h3 | h3
      · have : k = 1 := by simpa using h3
        subst this
        show _ = reps x.cps.toList 1
        simp [reps]
      · have : x.cps.toList = [] := by
          have : x.cps.size = 0 := by simpa [Str.length] using h3
          simpa using this
        rw [this]
        generalize k.toNat = n
        induction n with
        | zero => rfl
        | succ n ih => simpa [reps] using ih
    · exact (foldl_reps x.cps k.toNat #[]).trans (by simp)

theorem intBits_small {a : Int} {n : Nat} (h : a.natAbs < 2 ^ n) : Builtin.Int.intBits a ≤ n := by
  unfold Builtin.Int.intBits
  split
  · lia
  · rename_i h0
    have : a.natAbs ≠ 0 := by simpa using h0
    have := (Nat.log2_lt this).mpr h
    lia

theorem mul_ok {a b : Int} (h : a.natAbs < 2 ^ 32 ∨ b.natAbs < 2 ^ 32) : IntMulOk a b := by
  unfold IntMulOk shortFactorBits
  rcases h with h | h
  · have := intBits_small h
    simp only [Bool.and_eq_true, decide_eq_true_eq, not_and]
    intro h1; lia
  · have := intBits_small h
    simp only [Bool.and_eq_true, decide_eq_true_eq, not_and]
    intro h1; lia

theorem pylong_ok {a b : Int} (h : b.natAbs < 2 ^ 32) : Builtin.divisionGoesByPylong a b = false := by
  unfold Builtin.divisionGoesByPylong
  simp only [Bool.and_eq_false_iff, decide_eq_false_iff_not]
  left
  split
  · lia
  · rename_i h0
    have : b.natAbs ≠ 0 := by simpa using h0
    have := (Nat.log2_lt this).mpr h
    lia

theorem rep_int {v : Value} {i : Int} (r : Rep X g am v (.int i)) : ∃ t, v = .int i t := by cases r; exact ⟨_, rfl⟩
theorem rep_bool {v : Value} {b : Bool} (r : Rep X g am v (.bool b)) : v = .bool b := by cases r; rfl
theorem rep_str {v : Value} {l : List Nat} (r : Rep X g am v (.str l)) : ∃ x t, v = .str x t ∧ x.cps.toList = l ∧ okS l := by cases r with | str x l t h k => exact ⟨x, t, rfl, h, k⟩
theorem rep_list {v : Value} {ds : List D} (r : Rep X g am v (.list ds)) : ∃ a n vs, v = .ref a ∧ g a = some { cls := .type "list", data := .seq vs.toArray n } ∧ Reps X g am vs ds := by
  cases r with | list a n vs ds h r => exact ⟨a, n, vs, rfl, h, r⟩
theorem rep_tup {v : Value} {ds : List D} (r : Rep X g am v (.tup ds)) : ∃ a o n vs, v = .ref a ∧ g a = some o ∧ o.cls = .type "tuple" ∧ o.data = .seq vs.toArray n ∧ Reps X g am vs ds := by
  cases r with | tup a o n vs ds h h2 h3 r => exact ⟨a, o, n, vs, rfl, h, h2, h3, r⟩
theorem rep_loc {v : Value} {n : Nat} (r : Rep X g am v (.loc n)) : ∃ a, v = .ref a ∧ am[n]? = some a := by cases r with | loc n a h => exact ⟨a, rfl, h⟩

theorem rep_clos {v : Value} {b : FnBody} {ns : List Str} {ds : List D} (r : Rep X g am v (.clos b ns ds)) : ∃ a cl doc pm c' ctv vs, v = .ref a ∧ g a = some (fnMade b.name b.qual b.params b.body b.scope cl doc pm c' ctv) ∧ CodeAt g c' b.qual ∧ cl.map (·.1) = ns ∧ CellsR g cl vs ∧ Reps X g am vs ds := by
  cases r with | clos a b cl doc pm c' ctv ns vs ds h2 h3 h4 h5 r => exact ⟨a, cl, doc, pm, c', ctv, vs, rfl, h2, h3, h4, h5, r⟩
theorem rep_bytes {v : Value} {l : List UInt8} (r : Rep X g am v (.bytes l)) : ∃ x t, v = .bytes x t ∧ x.toList = l := by cases r with | bytes x l t h => exact ⟨x, t, rfl, h⟩
theorem rep_dict {v : Value} {ls : List (List Nat)} {ds : List D} (r : Rep X g am v (.dict ls ds)) : ∃ (a : Addr) (o : Obj) (ks : List Str) (vs : List Value), v = .ref a ∧ (a == sysModules) = false ∧ g a = some o ∧ (∀ h : Heap, h.get? a = some o → h.DictOf (PySem.strKind X.prog X.w) a (ks.zip vs)) ∧ ks.map (fun k => k.cps.toList) = ls ∧ ks.length = vs.length ∧ Reps X g am vs ds := by
  cases r with | dict a o ks ls vs ds h0 h1 h2 h3 h4 r => exact ⟨a, o, ks, vs, rfl, h0, h1, h2, h3, h4, r⟩

theorem lim_size {n : Nat} (h : n ≤ lim) : n ≤ sizeLine := h

/- a list's object, frozen or not -/
theorem lst_ok (S : St X g am σ s.heap) {v : Value} {d : D} {ds : List D} (r : Rep X g am v d) (e : lstD σ d = some ds) :
    ∃ a n vs, v = .ref a ∧ s.heap.get? a = some { cls := .type "list", data := .seq vs.toArray n } ∧ Reps X g am vs ds := by
  unfold lstD at e
  split at e
  · cases e
    obtain ⟨a, n, vs, rfl, h, r⟩ := rep_list r
    exact ⟨a, n, vs, rfl, S.gin _ _ h, r⟩
  · rename_i n
    split at e
    · rename_i l hs
      cases e
      obtain ⟨a, rfl, h⟩ := rep_loc r
      obtain ⟨k, vs, e, r⟩ := S.so _ _ _ h hs
      exact ⟨a, k, vs, rfl, e, r⟩
    · cases e
  · cases e

/- a new object, known from now on -/
theorem new_ok (S : St X g am σ s.heap) {o : Obj} (hf : o.isFreed = false) {d : D} (P : Post X σ d g am s Q)
    (h : ∀ g', G.Le g g' → g' s.heap.objs.size = some o → Rep X g' am (.ref s.heap.objs.size) d) : Q (.ref s.heap.objs.size) { s with heap := s.heap.push o } := by
  have e := P.grow (tk := s.toks) (h' := s.heap.push o) (v := .ref s.heap.objs.size) S (fun a o e => Heap.get?_push_of_some _ e) (by rw [Heap.size_push]; lia)
    (h _ (gro_le S.gin) (gro_new (Nat.le_refl _) (Heap.get?_push_size _ hf)))
  exact e

theorem list_new (S : St X g am σ s.heap) {vs : List Value} {ds : List D} (r : Reps X g am vs ds) (P : Post X σ (.list ds) g am s Q) :
    Q (.ref s.heap.objs.size) { s with heap := s.heap.push { cls := .type "list", data := .seq vs.toArray } } :=
  new_ok S rfl P fun g' le e => .list _ 0 vs ds e (r.mono le fun _ _ e => e)
theorem tup_new (S : St X g am σ s.heap) {vs : List Value} {ds : List D} (r : Reps X g am vs ds) (P : Post X σ (.tup ds) g am s Q) :
    Q (.ref s.heap.objs.size) { s with heap := s.heap.push { cls := .type "tuple", data := .seq vs.toArray } } :=
  new_ok S rfl P fun g' le e => .tup _ _ 0 vs ds e rfl rfl (r.mono le fun _ _ e => e)

theorem hexd_ok {k : Nat} (h : k < 16) : hexd k < 1114112 := by unfold hexd; split <;> lia

/- the format %02X on one sign -/
noncomputable def Fmt02X (X : Cx) : Prop := ∀ (A : Around) (E : Value → Shared → Prop) (s : Shared) (x : Str) (t u : Tok) (i : Int) (Q : Value → Shared → Prop), x.cps.toList = [61, 37, 48, 50, 88] → 0 ≤ i → i < 256 →
  (∀ y t' tk, y.cps.toList = [61, hexd (i.toNat / 16), hexd (i.toNat % 16)] → Q (.str y t') { s with toks := tk }) → wpAny (model X.prog X.w) A (binaryOp .Mod (.str x t) (.int i u)) Q E s
noncomputable def ListMul1 (X : Cx) : Prop := ∀ (A : Around) (E : Value → Shared → Prop) (s : Shared) (l : Addr) (v : Value) (k : Nat) (i : Int) (u : Tok) (Q : Value → Shared → Prop),
  s.heap.get? l = some { cls := .type "list", data := .seq #[v] k } → 0 ≤ i → i ≤ lim →
  Q (.ref s.heap.objs.size) { s with heap := s.heap.push { cls := .type "list", data := .seq (List.replicate i.toNat v).toArray } } → wpAny (model X.prog X.w) A (binaryOp .Mult (.ref l) (.int i u)) Q E s

theorem replicate_rep {v : Value} {d : D} (r : Rep X g am v d) : ∀ n, Reps X g am (List.replicate n v) (List.replicate n d)
  | 0 => .nil
  | n + 1 => .cons r (replicate_rep r n)

end
/- an operator's answer -/
structure BinD (op : Operator) (a b d : D) : Prop where
  run : ∀ {X : Cx} {g : G} {am : List Addr} {σ : Store} {s : Shared} {A : Around} {Q : Value → Shared → Prop} {v w : Value}, Fmt02X X → ListMul1 X → St X g am σ s.heap → Rep X g am v a → Rep X g am w b → Post X σ d g am s Q → wpAny (model X.prog X.w) A (binaryOp op v w) Q NEx s
section
variable {a b : Int} {x y : List Nat} {u v : List D} {d : D}
theorem bAdd : BinD .Add (.int a) (.int b) (.int (a + b)) := ⟨fun hX hM S ra rb P => by
  obtain ⟨t, rfl⟩ := rep_int ra; obtain ⟨u, rfl⟩ := rep_int rb
  exact add_int (P.tok S (.int _ _) _)⟩
theorem bSub : BinD .Sub (.int a) (.int b) (.int (a - b)) := ⟨fun hX hM S ra rb P => by
  obtain ⟨t, rfl⟩ := rep_int ra; obtain ⟨u, rfl⟩ := rep_int rb
  exact sub_int (P.tok S (.int _ _) _)⟩
theorem bMul (h : a.natAbs < 2 ^ 32 ∨ b.natAbs < 2 ^ 32) : BinD .Mult (.int a) (.int b) (.int (a * b)) := ⟨fun hX hM S ra rb P => by
  obtain ⟨t, rfl⟩ := rep_int ra; obtain ⟨u, rfl⟩ := rep_int rb
  exact mul_int (P.tok S (.int _ _) _) (mul_ok h)⟩
theorem bDiv (h : b ≠ 0 ∧ b.natAbs < 2 ^ 32) : BinD .FloorDiv (.int a) (.int b) (.int (a.fdiv b)) := ⟨fun hX hM S ra rb P => by
  obtain ⟨t, rfl⟩ := rep_int ra; obtain ⟨u, rfl⟩ := rep_int rb
  exact floordiv_int h.1 (P.tok S (.int _ _) _) (.inl (pylong_ok h.2))⟩
theorem bMod (h : b ≠ 0) : BinD .Mod (.int a) (.int b) (.int (a.fmod b)) := ⟨fun hX hM S ra rb P => by
  obtain ⟨t, rfl⟩ := rep_int ra; obtain ⟨u, rfl⟩ := rep_int rb
  exact mod_int' h (P.tok S (.int _ _) _)⟩
theorem bPow (h : 0 ≤ b ∧ b ≤ 64 ∧ a.natAbs < 2 ^ 32) : BinD .Pow (.int a) (.int b) (.int (a ^ b.toNat)) := ⟨fun hX hM S ra rb P => by
  obtain ⟨t, rfl⟩ := rep_int ra; obtain ⟨u, rfl⟩ := rep_int rb
  refine pow_int h.1 ?_ (P.tok S (.int _ _) _)
  have h1 := intBits_small h.2.2
  have : ((Builtin.Int.intBits _ : Nat) : Int) * _ ≤ 32 * 64 := Int.mul_le_mul (by exact_mod_cast h1) h.2.1 h.1 (by decide)
  lia⟩
theorem bAddS (h : x.length + y.length ≤ lim) : BinD .Add (.str x) (.str y) (.str (x ++ y)) := ⟨fun hX hM S ra rb P => by
  obtain ⟨x, t, rfl, hx, kx⟩ := rep_str ra
  obtain ⟨y, u, rfl, hy, ky⟩ := rep_str rb
  subst hx hy
  exact add_str (fun t' tk => P.tok S (.str _ _ _ Array.toList_append (okS_append kx ky)) _) (lim_size h)⟩
theorem bMulS (h : -16777216 ≤ a ∧ a < lim ∧ x.length * a.toNat ≤ lim) : BinD .Mult (.str x) (.int a) (.str (reps x a.toNat)) := ⟨fun hX hM S ra rb P => by
  obtain ⟨x, t, rfl, hx, kx⟩ := rep_str ra
  obtain ⟨u, rfl⟩ := rep_int rb
  subst hx
  exact SB.mul (txt_mul (x := x) h.2.2 h.1 h.2.1) fun t' k => P.tok S (.str _ _ _ txt_mul_is (okS_reps kx _)) _⟩
theorem bAddL (h : u.length + v.length ≤ lim) : BinD .Add (.list u) (.list v) (.list (u ++ v)) := ⟨fun hX hM S ra rb P => by
  obtain ⟨a1, n1, vs1, rfl, h1, r1⟩ := rep_list ra
  obtain ⟨a2, n2, vs2, rfl, h2, r2⟩ := rep_list rb
  refine PySem.P.add_list (S.gin _ _ h1) (S.gin _ _ h2) ?_ (by rw [List.size_toArray, List.size_toArray, r1.length, r2.length]; exact lim_size h)
  have := list_new S (r1.append r2) P
  simpa using this⟩
theorem bMulL (h : 0 ≤ a ∧ a ≤ lim) : BinD .Mult (.list [d]) (.int a) (.list (List.replicate a.toNat d)) := ⟨fun hX hM S ra rb P => by
  obtain ⟨a1, n1, vs1, rfl, h1, r1⟩ := rep_list ra
  obtain ⟨u, rfl⟩ := rep_int rb
  cases r1 with
  | cons q1 q2 =>
    cases q2
    exact hM _ _ _ _ _ _ _ _ _ (S.gin _ _ h1) h.1 h.2 (list_new S (replicate_rep q1 _) P)⟩
theorem bHex (h : 0 ≤ a ∧ a < 256) : BinD .Mod (.str [61, 37, 48, 50, 88]) (.int a) (.str [61, hexd (a.toNat / 16), hexd (a.toNat % 16)]) := ⟨fun hX hM S ra rb P => by
  obtain ⟨x, t, rfl, hx, kx⟩ := rep_str ra
  obtain ⟨u, rfl⟩ := rep_int rb
  refine hX _ _ _ _ _ _ _ _ hx h.1 h.2 fun y t' tk hy => P.tok S (.str _ _ _ hy ?_) _
  intro c hc
  simp only [List.mem_cons, List.not_mem_nil, or_false] at hc
  rcases hc with rfl | rfl | rfl
  · decide
  · exact hexd_ok (by lia)
  · exact hexd_ok (by lia)⟩
end
end
section
theorem str_mk {x : Str} {l : List Nat} (h : x.cps.toList = l) : x = ⟨l.toArray⟩ := by
  obtain ⟨⟨a⟩⟩ := x
  subst h; rfl
/- what plain data read as -/
structure PlainS (n : Nat) (d : D) (p : PyData) : Prop where
  run : ∀ {X : Cx} {g : G} {am : List Addr} {h : Heap} {v : Value}, G.In g h → Rep X g am v d → (∃ as, Reads h v p as) ∧ p.canLay0 = true ∧ p.depth ≤ n
structure PlainL (n : Nat) (ds : List D) (ps : List PyData) : Prop where
  run : ∀ {X : Cx} {g : G} {am : List Addr} {h : Heap} {vs : List Value}, G.In g h → Reps X g am vs ds → (∃ as, ReadsAll h vs ps as) ∧ PyData.canLayAll0 ps = true ∧ PyData.depthAll ps ≤ n
section
variable {n : Nat} {ds : List D} {ps : List PyData}
theorem psInt {i : Int} : PlainS n (.int i) (.int i) := ⟨fun hg r => by obtain ⟨t, rfl⟩ := rep_int r; exact ⟨⟨_, .int _ _⟩, rfl, Nat.zero_le _⟩⟩
theorem psBool {b : Bool} : PlainS n (.bool b) (.bool b) := ⟨fun hg r => by rw [rep_bool r]; exact ⟨⟨_, .bool _⟩, rfl, Nat.zero_le _⟩⟩
theorem psStr {l : List Nat} : PlainS n (.str l) (.str ⟨l.toArray⟩) := ⟨fun hg r => by
  obtain ⟨x, t, rfl, h1, h⟩ := rep_str r
  rw [str_mk h1]
  refine ⟨⟨_, .str _ _⟩, ?_, Nat.zero_le _⟩
  show PyData.strOk ⟨l.toArray⟩ = true
  unfold PyData.strOk
  simpa [okS] using h⟩
theorem psTup (k : PlainL n ds ps) : PlainS (n + 1) (.tup ds) (.tuple ps) := ⟨fun hg r => by
  obtain ⟨a, o, k', vs, rfl, h1, h2, h3, r⟩ := rep_tup r
  obtain ⟨⟨as, q⟩, c, d⟩ := k.run hg r
  exact ⟨⟨as, reads_tuple_at (hg _ _ h1) h2 h3 q⟩, c, by rw [PyData.depth]; exact Nat.succ_le_succ d⟩⟩
theorem psList (k : PlainL n ds ps) : PlainS (n + 1) (.list ds) (.list ps) := ⟨fun hg r => by
  obtain ⟨a, k', vs, rfl, h1, r⟩ := rep_list r
  obtain ⟨⟨as, q⟩, c, d⟩ := k.run hg r
  exact ⟨⟨_, reads_list_at (hg _ _ h1) rfl rfl q⟩, c, by rw [PyData.depth]; exact Nat.succ_le_succ d⟩⟩
theorem pl0 : PlainL n [] [] := ⟨fun hg r => by cases r; exact ⟨⟨_, .nil⟩, rfl, Nat.zero_le _⟩⟩
theorem pl1 {d : D} {p : PyData} (h : PlainS n d p) (k : PlainL n ds ps) : PlainL n (d :: ds) (p :: ps) := ⟨fun hg r => by
  cases r with
  | cons a r =>
    obtain ⟨⟨as, h1⟩, h2, h3⟩ := h.run hg a
    obtain ⟨⟨bs, k1⟩, k2, k3⟩ := k.run hg r
    refine ⟨⟨_, .cons h1 k1⟩, ?_, ?_⟩
    · rw [PyData.canLayAll0, h2, k2]; rfl
    · rw [PyData.depthAll]; exact Nat.max_le.mpr ⟨h3, k3⟩⟩
theorem plMap {α : Type} {f : α → D} {F : α → PyData} (h : ∀ x, PlainS n (f x) (F x)) : ∀ xs : List α, PlainL n (xs.map f) (xs.map F)
  | [] => pl0
  | x :: xs => pl1 (h x) (plMap h xs)
end
/- how two plain things compare -/
noncomputable def EqS (a b : D) (t : Bool) : Prop := ∃ p q, PlainS 8 a p ∧ PlainS 8 b q ∧ (p.canLay0 = true → p.eqv q = t)
theorem EqS.self {a : D} {p : PyData} (h : PlainS 8 a p) : EqS a a true := ⟨p, p, h, h, SeqAt.eqv_refl p⟩
theorem eqv_ints : ∀ a b : List Int, PyData.eqvAll (a.map .int) (b.map .int) = (a == b)
  | [], [] => rfl
  | [], _ :: _ => rfl
  | _ :: _, [] => rfl
  | x :: a, y :: b => by
    show (_ && PyData.eqvAll (a.map .int) (b.map .int)) = _
    rw [eqv_ints a b]; rfl
structure CmpD (op : CmpOp) (a b : D) (t : Bool) : Prop where
  run : ∀ {X : Cx} {g : G} {am : List Addr} {σ : Store} {s : Shared} {A : Around} {Q : Value → Shared → Prop} {n : Nat} {v w : Value}, Room n A → St X g am σ s.heap → Rep X g am v a → Rep X g am w b → Q (.bool t) s → wpAny (model X.prog X.w) A (compareOp op v w) Q NEx s
section
variable {a b : D} {t : Bool} {i j : Int}
theorem eqS_ok {X : Cx} {g : G} {am : List Addr} {σ : Store} {s : Shared} (S : St X g am σ s.heap) {v w : Value} (e : EqS a b t) (ra : Rep X g am v a) (rb : Rep X g am w b) :
    ∃ (da db : PyData) (as bs : List Addr), Reads s.heap v da as ∧ Reads s.heap w db bs ∧ SeqAt.shaped da = true ∧ SeqAt.shaped db = true ∧ da.eqv db = t := by
  obtain ⟨p, q, h1, h2, h3⟩ := e
  obtain ⟨⟨as, p1⟩, p2, p3⟩ := h1.run S.gin ra
  obtain ⟨⟨bs, q1⟩, q2, q3⟩ := h2.run S.gin rb
  refine ⟨p, q, as, bs, p1, q1, ?_, ?_, h3 p2⟩
  · unfold SeqAt.shaped; rw [p2, Bool.true_and]; exact decide_eq_true (by lia)
  · unfold SeqAt.shaped; rw [q2, Bool.true_and]; exact decide_eq_true (by lia)
theorem cEq (e : EqS a b t) : CmpD .Eq a b t := ⟨fun R S ra rb h => by
  obtain ⟨da, db, as, bs, q1, q2, q3, q4, q5⟩ := eqS_ok S e ra rb
  exact eq_dataH q1 q2 q3 q4 (by have := R.units; lia) (q5 ▸ h)⟩
theorem cNe (e : EqS a b t) : CmpD .NotEq a b (!t) := ⟨fun R S ra rb h => by
  obtain ⟨da, db, as, bs, q1, q2, q3, q4, q5⟩ := eqS_ok S e ra rb
  exact ne_dataH q1 q2 q3 q4 (by have := R.units; lia) (q5 ▸ h)⟩
theorem cLe : CmpD .LtE (.int i) (.int j) (decide (i ≤ j)) := ⟨fun R S ra rb h => by obtain ⟨t, rfl⟩ := rep_int ra; obtain ⟨u, rfl⟩ := rep_int rb; exact le_int h⟩
theorem cGe : CmpD .GtE (.int i) (.int j) (decide (i ≥ j)) := ⟨fun R S ra rb h => by obtain ⟨t, rfl⟩ := rep_int ra; obtain ⟨u, rfl⟩ := rep_int rb; exact ge_int h⟩
theorem cIn {c : Nat} {l : List Nat} : CmpD .In (.str [c]) (.str l) (decide (c ∈ l)) := ⟨fun R S ra rb h => by
  obtain ⟨x, t, rfl, hx, kx⟩ := rep_str ra
  obtain ⟨y, u, rfl, hy, ky⟩ := rep_str rb
  refine in_str ?_
  rw [str_mk hx, str_mk hy, StrLaws.found_one]; exact h⟩
theorem cIsNot {p q : Bool} : CmpD .IsNot (.bool p) (.bool q) (p != q) := ⟨fun R S ra rb h => by
  rw [rep_bool ra, rep_bool rb]
  refine wpAny_isNot_plain rfl ?_
  have : (!((Value.bool p) == Value.bool q)) = (p != q) := by cases p <;> cases q <;> rfl
  rw [this]; exact h⟩
theorem eqS_str {x y : List Nat} : EqS (.str x) (.str y) (x == y) := ⟨_, _, psStr, psStr, fun _ => by
  show ((⟨x.toArray⟩ : Str) == ⟨y.toArray⟩) = _
  rw [Bool.eq_iff_iff]
  simp⟩
theorem eqS_int : EqS (.int i) (.int j) (i == j) := ⟨_, _, psInt, psInt, fun _ => rfl⟩
theorem eq_str (a b : List Nat) : CmpD .Eq (.str a) (.str b) (a == b) := cEq eqS_str
end
/- what is true -/
structure TruthD (d : D) (b : Bool) : Prop where
  run : ∀ {X : Cx} {g : G} {am : List Addr} {σ : Store} {s : Shared} {A : Around} {v : Value} {Q : Bool → Shared → Prop} {E : Value → Shared → Prop}, St X g am σ s.heap → Rep X g am v d → (∀ tk, Q b { s with toks := tk }) → wpAny (model X.prog X.w) A (truthy v) Q E s
theorem uInt {i : Int} : TruthD (.int i) (i != 0) := ⟨fun {X g am σ s A v Q E} S r h => by obtain ⟨t, rfl⟩ := rep_int r; exact PyProof.Rows.truthy_int (h s.toks)⟩
theorem uStr {l : List Nat} (hl : l.length ≤ lim) : TruthD (.str l) (l != []) := ⟨fun S r h => by
  obtain ⟨x, t, rfl, hx, kx⟩ := rep_str r
  subst hx
  have hz : lim = 16777216 := rfl
  have hl' : x.length ≤ lim := hl
  refine PySem.P.truthy_str (by lia) ?_
  have : ((x.length : Int) != 0) = (x.cps.toList != []) := by
    rw [Bool.eq_iff_iff]
    simp [Str.length]
  rw [this]; exact h _⟩
theorem uBytes {l : List UInt8} (hl : l.length ≤ lim) : TruthD (.bytes l) (l != []) := ⟨fun S r h => by
  obtain ⟨x, t, rfl, hx⟩ := rep_bytes r
  · subst hx
    have hz : lim = 16777216 := rfl
    have hl' : x.size ≤ lim := hl
    refine truthy_bytes (by lia) ?_
    have : ((x.size : Int) != 0) = (x.toList != []) := by
      rw [Bool.eq_iff_iff]
      simp
    rw [this]; exact h _⟩
end
section
noncomputable def TK (C : Ctx) (n : Nat) : Prop := C.rep = true → 0 < n
theorem TK.i {C : Ctx} {n : Nat} : TK C (n + 1) := fun _ => Nat.succ_pos _
noncomputable abbrev TQ {α : Type} (C : Ctx) (Q : α → Shared → Prop) : α → Shared → Prop := fun a s => TK C s.toks → Q a s
theorem tpos {α : Type} {C : Ctx} {M : Model} {A : Around} {t : Sem α} {Q : α → Shared → Prop} {s : Shared} (ht : TK C s.toks) (h : wpAny M A t (TQ C Q) NEx s) : wpAny M A t Q NEx s :=
  wpAny_mono (wpAny_toks h) (fun _ _ x => x.2 fun e => Nat.lt_of_lt_of_le (ht e) x.1) fun _ _ x => x.2.elim

noncomputable def PostL (X : Cx) (σ' : Store) (ds : List D) (g : G) (am : List Addr) (s : Shared) (Q : List Value → Shared → Prop) : Prop :=
  ∀ vs g' am' s', Stp (Wx X am) g am s g' am' s' → St X g' am' σ' s'.heap → Reps X g' am' vs ds → Q vs s'
noncomputable def PostB (X : Cx) (σ' : Store) (b : Bool) (g : G) (am : List Addr) (s : Shared) (Q : Bool → Shared → Prop) : Prop :=
  ∀ g' am' s', Stp (Wx X am) g am s g' am' s' → St X g' am' σ' s'.heap → Q b s'
theorem PostB.trans {X : Cx} {g g' : G} {am am' : List Addr} {σ' : Store} {s s' : Shared} {b : Bool} {Q : Bool → Shared → Prop} (p : PostB X σ' b g am s Q) (x : Stp (Wx X am) g am s g' am' s') : PostB X σ' b g' am' s' Q :=
  fun g₂ am₂ s₂ y S => p g₂ am₂ s₂ (x.trans y x.wx) S

section
variable {X : Cx} {σ' : Store} {d : D} {ds : List D} {b : Bool} {g : G} {am : List Addr} {s : Shared}
theorem Post.tq {Q : Value → Shared → Prop} (P : Post X σ' d g am s Q) : Post X σ' d g am s (TQ C Q) := fun a b c d e f g _ => P a b c d e f g
end

theorem isTrue_not_eq (x : Expr) (pos : Pos) (env : Env) (w : Sem Value) : isTrue (.UnaryOp .Not x pos) env w = (do return !(← isTrue x env (eval x env))) := rfl
theorem isTrue_bool_eq (op : BoolOp) (vs : List Expr) (pos : Pos) (env : Env) (w : Sem Value) : isTrue (.BoolOp op vs pos) env w = allTrue op vs env := rfl

theorem allTrue_cons (op : BoolOp) (x : Expr) (rest : List Expr) (env : Env) : allTrue op (x :: rest) env = (do
    match op, ← isTrue x env (eval x env) with
    | .And, false => pure false
    | .Or, true => pure true
    | _, _ => allTrue op rest env) := rfl
end
section
section
variable {X : Cx} {C : Ctx} {g : G} {am : List Addr} {σ : Store} {s : Shared} {A : Around} {Q : Value → Shared → Prop} {n : Nat}

theorem subscripted_ex (slice : Expr) (o i : Value) : ∃ ops, subscripted slice false o i = operate ops (getItem o i) := by
  unfold subscripted
  split
  · exact ⟨_, rfl⟩
  · rename_i h; cases h
  · exact ⟨_, rfl⟩

theorem tail_ok {value slice : Expr} {o i : Value} {T id : String} (hT : s.TypeIs o T) (hl : typeLookup (.type T) "__getitem__" = pure (some (.builtin id)))
    (hg : wpAny (model X.prog X.w) A (getItem o i) Q NEx s) : wpAny (model X.prog X.w) A (subscriptTail value slice o i) Q NEx s := by
  obtain ⟨ops, h⟩ := subscripted_ex slice o i
  exact tail_any hT hl hg h

/- a list's item by an index -/
theorem item_lst (R : Room n A) (S : St X g am σ s.heap) {d r : D} {ds : List D} {i : Int} {v w : Value} {value slice : Expr} (hd : lstD σ d = some ds) (rv : Rep X g am v d) (rw' : Rep X g am w (.int i))
    (e : (if i < 0 then (if 0 ≤ i + ds.length then ds[(i + ds.length).toNat]? else none) else if i < 2 ^ 62 then ds[i.toNat]? else none) = some r)
    (P : Post X σ r g am s Q) (hlim : ds.length ≤ lim) : wpAny (model X.prog X.w) A (subscriptTail value slice v w) Q NEx s := by
  obtain ⟨a, k, vs, rfl, ho, rs⟩ := lst_ok S rv hd
  obtain ⟨u, rfl⟩ := rep_int rw'
  have hl : s.heap.IsList a vs.toArray := ⟨_, ho, rfl, k, rfl⟩
  have hz : lim = 16777216 := rfl
  refine tail_ok hl.typeIs slot_list_getitem.lookup ?_
  split at e
  · rename_i h0
    split at e
    · rename_i h1
      obtain ⟨x, hx, rx⟩ := rs.get e
      refine wpAny_getItem_list_neg (x := x) hl h0 (by simp [rs.length]; lia) (by lia) (by simpa [rs.length] using hx) (P.here S rx)
    · cases e
  · split at e
    · rename_i h0 h1
      obtain ⟨x, hx, rx⟩ := rs.get e
      exact wpAny_getItem_list (x := x) hl (by lia) (by lia) (by simpa using hx) (P.here S rx)
    · cases e

theorem strKind_is {x : Str} {t : Tok} : (PySem.strKind X.prog X.w).is x (.str x t) = true := by show Value.isStr (.str x t) x = true; simp [Value.isStr]

theorem valueAt_zip : ∀ (ks : List Str) (ls : List (List Nat)) (vs : List Value) (ds : List D) (x : Str) (r : D), ks.map (fun k => k.cps.toList) = ls → ks.length = vs.length → Reps X g am vs ds →
    lookK x.cps.toList ls ds = some r → ∃ v, valueAt (ks.zip vs) x = some v ∧ Rep X g am v r
  | [], _, _, _, _, _, h, _, _, e => by subst h; simp [lookK] at e
  | k :: ks, _, [], _, _, _, _, h2, _, _ => by simp at h2
  | k :: ks, _, v :: vs, _, x, r, h, h2, .cons (d := d) (ds := ds) a rs, e => by
    subst h
    simp only [List.map_cons, lookK] at e
    by_cases q : k = x
    · subst q
      rw [if_pos rfl] at e; cases e
      exact ⟨v, by simp [valueAt], a⟩
    · have q' : ¬ k.cps.toList = x.cps.toList := fun z => q (by rw [str_mk z])
      rw [if_neg q'] at e
      obtain ⟨v', e1, e2⟩ := valueAt_zip ks _ vs ds x r rfl (by simpa using h2) rs e
      exact ⟨v', by simpa [valueAt, q] using e1, e2⟩
theorem valueAt_none : ∀ (ks : List Str) (ls : List (List Nat)) (vs : List Value) (ds : List D) (x : Str), ks.map (fun k => k.cps.toList) = ls → ks.length = vs.length → Reps X g am vs ds →
    lookK x.cps.toList ls ds = none → valueAt (ks.zip vs) x = none
  | [], _, _, _, _, h, _, _, _ => by simp [valueAt]
  | k :: ks, _, [], _, _, _, h2, _, _ => by simp at h2
  | k :: ks, _, v :: vs, _, x, h, h2, .cons (d := d) (ds := ds) a rs, e => by
    subst h
    simp only [List.map_cons, lookK] at e
    by_cases q : k = x
    · subst q
      rw [if_pos rfl] at e; cases e
    · have q' : ¬ k.cps.toList = x.cps.toList := fun z => q (by rw [str_mk z])
      rw [if_neg q'] at e
      have := valueAt_none ks _ vs ds x rfl (by simpa using h2) rs e
      simpa [valueAt, q] using this

theorem item_ok (R : Room n A) (S : St X g am σ s.heap) {d i r : D} {v w : Value} {value slice : Expr} (e : itemD σ d i = some r) (rv : Rep X g am v d) (rw' : Rep X g am w i)
    (P : Post X σ r g am s Q) : wpAny (model X.prog X.w) A (subscriptTail value slice v w) Q NEx s := by
  unfold itemD at e
  split at e
  · split at e
    · rename_i hl
      exact item_lst R S (by simp [lstD]) rv rw' e P hl
    · cases e
  · split at e
    · rename_i h
      obtain ⟨a, o, k, vs, rfl, h1, h2, h3, rs⟩ := rep_tup rv
      obtain ⟨u, rfl⟩ := rep_int rw'
      have ht : IsTup s.heap a vs.toArray := ⟨o, S.gin _ _ h1, h2, k, h3⟩
      obtain ⟨x, hx, rx⟩ := rs.get e
      have hlt := (List.getElem?_eq_some_iff.mp hx).1
      refine tail_ok ht.typeIs slot_tuple_getitem.lookup (PyProof.Rows.getItem_tuple (x := x) ht (by lia) (by lia) (j := Int.toNat _) ?_ (by simpa using hx) (P.here S rx))
      unfold seqIndex?
      simp
      lia
    · cases e
  · rename_i k i
    split at e
    · rename_i l hs
      split at e
      · rename_i h
        refine item_lst R S (d := .loc k) (ds := l) (by simp [lstD, hs]) rv rw' ?_ P h.2.2
        rw [if_neg (by lia), if_pos h.2.1]
        exact e
      · cases e
    · cases e
  · rename_i ks vs x
    obtain ⟨y, t, rfl, hy, ky⟩ := rep_str rw'
    subst hy
    obtain ⟨a, o, ks', vs', rfl, h0, h1, h2, h3, h4, rs⟩ := rep_dict rv
    · obtain ⟨v', e1, e2⟩ := valueAt_zip _ _ _ _ _ _ h3 h4 rs e
      have hm := h2 _ (S.gin _ _ h1)
      refine tail_ok hm.typeIs F.slot_dict_getitem.lookup ?_
      exact wpAny_getItem_of strKind_is hm.mapOf e1 (P.tok S e2 _)
  · cases e

/- slices -/
theorem cut_is (items : Array Value) (lo hi : Option Int) : slicePick items lo hi none =
    ((items.toList.take (match hi with | some i => cutFrom i items.size | none => items.size)).drop (match lo with | some i => cutFrom i items.size | none => 0)).toArray := by
  have key : ∀ a b : Nat, sliceBounds lo hi none items.size = ((a : Int), (b : Int), 1) → slicePick items lo hi none = ((items.toList.take b).drop a).toArray := by
    intro a b e
    unfold slicePick
    rw [e]
    simp only [sliceRange_one, pick_run, List.drop_take]
  refine key _ _ ?_
  unfold sliceBounds cutFrom
  simp only [Option.getD_none, show (1 : Int) > 0 by decide, if_true]
  refine Prod.ext ?_ (Prod.ext ?_ rfl)
  · cases lo with
    | none => simp
    | some i => simp only []; split <;> lia
  · cases hi with
    | none => simp
    | some i => simp only []; split <;> lia

theorem cut_ok (R : Room n A) (S : St X g am σ s.heap) {d r : D} {lo hi : Option Int} {v vl vu : Value} {value slice : Expr} (e : cutD d lo hi = some r) (rv : Rep X g am v d) (pl : IsPart vl lo) (pu : IsPart vu hi)
    (P : Post X σ r g am s Q) : wpAny (model X.prog X.w) A (subscriptTail value slice v (.ref s.heap.objs.size)) Q NEx { s with heap := s.heap.push { cls := .type "slice", data := .fields #[vl, vu, .none] } } := by
  unfold cutD at e
  split at e
  · rename_i l
    split at e
    · rename_i hl
      cases e
      obtain ⟨a, k, vs, rfl, h1, rs⟩ := rep_list rv
      have hL : s.heap.IsList a vs.toArray := ⟨_, S.gin _ _ h1, rfl, k, rfl⟩
      refine tail_ok (hL.push _).typeIs slot_list_getitem.lookup ?_
      refine wpAny_getItem_list_slice (hL.push _) (Heap.IsSliceOf.new ..) pl pu .none (by simp) ?_ (by simpa [rs.length] using lim_size hl)
      have keep : ∀ b o, s.heap.get? b = some o → ((s.heap.push { cls := .type "slice", data := .fields #[vl, vu, .none] }).push { cls := .type "list", data := .seq (slicePick vs.toArray lo hi none) }).get? b = some o :=
        fun b o e => Heap.get?_push_of_some _ (Heap.get?_push_of_some _ e)
      have := P.grow (tk := s.toks) (v := .ref (s.heap.push { cls := .type "slice", data := .fields #[vl, vu, .none] }).objs.size) S keep (by simp [Heap.size_push]; lia) ?_
      · exact this
      · refine .list _ 0 _ _ (gro_new (by simp [Heap.size_push]) (by rw [Heap.get?_push_size _ rfl, cut_is])) ?_
        have hlen := rs.length
        simp only [List.size_toArray, hlen]
        exact (((rs.mono (gro_le S.gin) fun _ _ e => e).take _).drop _)
    · cases e
  · cases e
end
end
section
open PySem PySem.W PyProof.Rows PySem.Calls PySem.Spec PySem.Builtin PySem.Builtin.Str

/-! replace of one sign -/
theorem repl_append (c : Nat) (z a b : List Nat) : repl c z (a ++ b) = repl c z a ++ repl c z b := by simp [repl]
theorem repl_free (c : Nat) (z : List Nat) : ∀ l : List Nat, c ∉ l → repl c z l = l
  | [], _ => rfl
  | k :: r, h => by
    have h1 : ¬ k = c := fun e => h (e ▸ List.mem_cons_self ..)
    have ih := repl_free c z r fun m => h (List.mem_cons_of_mem _ m)
    unfold repl at ih ⊢
    rw [List.flatMap_cons, if_neg h1, ih]; rfl
theorem repl_join (c : Nat) (z : Str) : ∀ parts : List Str, (∀ p ∈ parts, c ∉ p.cps.toList) → repl c z.cps.toList (Str.join ⟨#[c]⟩ parts).cps.toList = (Str.join z parts).cps.toList
  | [], _ => rfl
  | [p], h => repl_free c _ _ (h p (List.mem_singleton.mpr rfl))
  | p :: q :: r, h => by
    have ih := repl_join c z (q :: r) fun a ha => h a (List.mem_cons_of_mem _ ha)
    show repl c z.cps.toList (p ++ ⟨#[c]⟩ ++ Str.join ⟨#[c]⟩ (q :: r)).cps.toList = (p ++ z ++ Str.join z (q :: r)).cps.toList
    simp only [Str.cps_append, Array.toList_append, repl_append]
    rw [ih, repl_free c _ _ (h p (List.mem_cons_self ..))]
    simp [repl]
theorem repl_is (x z : Str) (c : Nat) : (Txt.replace x ⟨#[c]⟩ z).cps.toList = repl c z.cps.toList x.cps.toList := by
  rw [StrLaws.replace_one, ← repl_join c z _ (StrLaws.split_free x c), StrLaws.join_split]
theorem repl_ok {c : Nat} {z l : List Nat} (h : okS z) (k : okS l) : okS (repl c z l) := by
  intro x hx
  obtain ⟨y, hy, hx⟩ := List.mem_flatMap.mp hx
  split at hx
  · exact h x hx
  · simp at hx; subst hx; exact k _ hy

/-! cut at one sign -/
theorem splD_free (c : Nat) : ∀ p : List Nat, c ∉ p → splD c p = [p]
  | [], _ => rfl
  | x :: p, h => by
    have h1 : ¬ x = c := fun e => h (e ▸ List.mem_cons_self ..)
    unfold splD
    rw [if_neg h1, splD_free c p fun m => h (List.mem_cons_of_mem _ m)]
theorem splD_app (c : Nat) (r : List Nat) : ∀ p : List Nat, c ∉ p → splD c (p ++ c :: r) = p :: splD c r
  | [], _ => by simp [splD]
  | x :: p, h => by
    have h1 : ¬ x = c := fun e => h (e ▸ List.mem_cons_self ..)
    show splD c (x :: (p ++ c :: r)) = _
    conv => lhs; unfold splD
    rw [if_neg h1, splD_app c r p fun m => h (List.mem_cons_of_mem _ m)]
theorem splD_join (c : Nat) : ∀ parts : List Str, parts ≠ [] → (∀ p ∈ parts, c ∉ p.cps.toList) → splD c (Str.join ⟨#[c]⟩ parts).cps.toList = parts.map (·.cps.toList)
  | [], h, _ => absurd rfl h
  | [p], _, h => splD_free c _ (h p (List.mem_singleton.mpr rfl))
  | p :: q :: r, _, h => by
    have ih := splD_join c (q :: r) (by simp) fun a ha => h a (List.mem_cons_of_mem _ ha)
    show splD c (p ++ ⟨#[c]⟩ ++ Str.join ⟨#[c]⟩ (q :: r)).cps.toList = _
    simp only [Str.cps_append, Array.toList_append, List.append_assoc]
    rw [List.map_cons, ← ih, ← splD_app c _ _ (h p (List.mem_cons_self ..))]
    rfl
theorem split_ne (x : Str) (c : Nat) : Txt.split x ⟨#[c]⟩ ≠ [] := by
  unfold Txt.split
  split
  · simp
  · split
    · simp
    · obtain ⟨p, r, h⟩ := StrLaws.partsFrom_ne x (⟨#[c]⟩ : Str).length 0 (occurrences x ⟨#[c]⟩ 0 x.length (x.length + 1))
      rw [StrLaws.partsBetween_eq, h]; simp
theorem split_is (x : Str) (c : Nat) : (Txt.split x ⟨#[c]⟩).map (·.cps.toList) = splD c x.cps.toList := by
  rw [← splD_join c _ (split_ne x c) (StrLaws.split_free x c), StrLaws.join_split]
theorem splD_mem (c : Nat) : ∀ (l p : List Nat), p ∈ splD c l → ∀ x ∈ p, x ∈ l
  | [], p, h, x, hx => by simp [splD] at h; subst h; exact hx
  | y :: l, p, h, x, hx => by
    unfold splD at h
    split at h
    · rcases List.mem_cons.mp h with rfl | h
      · cases hx
      · exact List.mem_cons_of_mem _ (splD_mem c l p h x hx)
    · split at h
      · rename_i a r e
        rcases List.mem_cons.mp h with rfl | h
        · rcases List.mem_cons.mp hx with rfl | hx
          · exact List.mem_cons_self ..
          · exact List.mem_cons_of_mem _ (splD_mem c l a (by rw [e]; exact List.mem_cons_self ..) x hx)
        · exact List.mem_cons_of_mem _ (splD_mem c l p (by rw [e]; exact List.mem_cons_of_mem _ h) x hx)
      · simp at h; subst h; simp at hx; subst hx; exact List.mem_cons_self ..

/-! strip on the right -/
theorem rstrip_is (x : Str) (a : Nat) : (Txt.rstripChars x ⟨#[a]⟩).cps.toList = (x.cps.toList.reverse.dropWhile (· == a)).reverse := by
  unfold Txt.rstripChars
  rw [PyProof.Rows.stripBy_eq, StrLaws.strSub_toList]
  simp only [stripLo, stripHi, Bool.false_eq_true, if_false, if_true, List.drop_zero]
  have e : (⟨#[a]⟩ : Str).cps.contains = fun n => n == a := by
    funext n
    rw [Bool.eq_iff_iff]
    simp
  rw [e]
  have hl : x.length = x.cps.toList.reverse.length := by simp [Str.length]
  have key : ∀ l : List Nat, (l.dropWhile (· == a)) = l.drop (l.takeWhile (· == a)).length := by
    intro l
    induction l with
    | nil => rfl
    | cons b l ih =>
      rw [List.dropWhile_cons, List.takeWhile_cons]
      split
      · simpa using ih
      · rfl
  rw [key, hl]
  generalize (List.takeWhile (fun x => x == a) x.cps.toList.reverse).length = n
  rw [List.reverse_drop, List.reverse_reverse]
  simp

theorem join_is : ∀ texts : List Str, (Str.join ⟨#[]⟩ texts).cps.toList = (texts.map (·.cps.toList)).flatten
  | [] => rfl
  | [p] => by simp [Str.join]
  | p :: q :: r => by
    have ih := join_is (q :: r)
    show (p ++ ⟨#[]⟩ ++ Str.join ⟨#[]⟩ (q :: r)).cps.toList = _
    simp only [Str.cps_append, Array.toList_append]
    rw [ih]; simp
end
section
open PySem PySem.W PyProof.Rows PySem.Calls PySem.Spec PySem.Builtin PySem.Builtin.Str

theorem expD_ok (n : Nat) : ∀ (l : List Nat) (c : Nat), okS l → okS (expD n l c)
  | [], c, h => by simp [expD]; exact h
  | x :: l, c, h => by
    have h' : okS l := fun y hy => h y (List.mem_cons_of_mem _ hy)
    unfold expD
    split
    · refine okS_append (fun y hy => ?_) (expD_ok n l _ h')
      have := List.eq_of_mem_replicate hy
      lia
    · intro y hy
      rcases List.mem_cons.mp hy with rfl | hy
      · exact h _ (List.mem_cons_self ..)
      · exact expD_ok n l _ h' y hy
theorem expD_none (n : Nat) : ∀ (l : List Nat) (c : Nat), 9 ∉ l → expD n l c = l
  | [], c, _ => rfl
  | x :: l, c, h => by
    have h1 : ¬ x = 9 := fun e => h (e ▸ List.mem_cons_self ..)
    unfold expD
    rw [if_neg h1, expD_none n l _ fun m => h (List.mem_cons_of_mem _ m)]

theorem long_no {n : Nat} (h : n ≤ lim) : tooLong n = false := by
  unfold tooLong; exact decide_eq_false (by have := lim_size h; lia)

theorem wI1 {A : Around} {E : Value → Shared → Prop} {s : Shared} {M : Model} {α : Type} {c : Prop} [d : Decidable c] {x y : Sem α} {Q : α → Shared → Prop} (h : c) (k : wpAny M A x Q E s) : wpAny M A (if c then x else y) Q E s := by rw [if_pos h]; exact k
theorem wI0 {A : Around} {E : Value → Shared → Prop} {s : Shared} {M : Model} {α : Type} {c : Prop} [d : Decidable c] {x y : Sem α} {Q : α → Shared → Prop} (h : ¬ c) (k : wpAny M A y Q E s) : wpAny M A (if c then x else y) Q E s := by rw [if_neg h]; exact k
theorem exp_call {prog : Program} {w : World} {A : Around} {s : Shared} {x : Str} {t u : Tok} {n : Nat} {Q : Value → Shared → Prop} (hn : 1 ≤ n) (hn2 : n ≤ 64) (hx : x.length * 65 ≤ lim)
    (h : ∀ y t' tk, y.cps.toList = expD n x.cps.toList 0 → Q (.str y t') { s with toks := tk }) : wpAny (model prog w) A (call (.builtin "str.expandtabs") [.str x t, .int n u]) Q NEx s := by
  have hz : lim = 16777216 := rfl
  have e1 : asIndex (.int n u) = pure (n : Int) := rfl
  have e0 : bindOptional "str.expandtabs" "expandtabs" 0 ["tabsize"] [.int n u] [] = pure [some (.int n u)] := by kernel_rfl
  refine wpAny_call_entry F.slot_str_expandtabs (typeIs_str _ _ _) F.entry_str_expandtabs ?_ (F.args_str_expandtabs_2 _ _)
  show wpAny _ _ (bindOptional "str.expandtabs" "expandtabs" 0 ["tabsize"] [.int n u] [] >>= fun l => _) _ _ s
  have c1 : (decide ((n : Int) < -(2 ^ 31 : Int)) || decide ((n : Int) ≥ 2 ^ 31)) = false := by
    rw [decide_eq_false (by lia), decide_eq_false (by lia)]; rfl
  have c2 : ∀ k : Nat, (if (n : Int) > 0 then (n : Int).toNat - k % (n : Int).toNat else 0) = n - k % n := fun k => by rw [if_pos (by lia)]; simp
  refine wpAny_bind (wpAny_of_eq e0 (wpAny_bind (wpAny_of_eq e0 (wpAny_bind (wpAny_of_eq e1 ?_)))))
  refine wI0 (by rw [c1]; exact Bool.false_ne_true) ?_
  by_cases h9 : x.cps.contains 9 = true
  · refine wI0 (by rw [h9]; exact Bool.false_ne_true) ?_
    refine wpAny_bind (MeetsSeq2.wpAny_forIn_array _ (fun rest (b : Array Nat × Nat) s' => s' = s ∧ ∃ done, done ++ rest = x.cps.toList ∧ b.1.toList.length ≤ done.length * 65 ∧ b.1.toList ++ expD n rest b.2 = expD n x.cps.toList 0) _ ?_ ?_ _ _ ?_)
    · rintro c rest ⟨out, col⟩ s' ⟨rfl, done, e, hl, hs⟩
      simp only [] at hl hs ⊢
      have hd : done.length + 1 ≤ x.length := by
        have := congrArg List.length e
        simp [Str.length] at this ⊢; lia
      by_cases h9 : c = 9
      · subst h9
        have hlong : tooLong (out.size + (n - col % n)) = false := long_no (by simp at hl; lia)
        refine wI1 rfl ?_
        rw [c2]
        refine wI0 (by rw [hlong]; exact Bool.false_ne_true) ?_
        refine wpAny_pure ⟨rfl, done ++ [9], by simpa using e, ?_, ?_⟩
        · simp at hl ⊢; lia
        · rw [← hs]; conv => rhs; unfold expD
          simp
      · have hb : (c == 9) = false := by simpa using h9
        refine wI0 (by rw [hb]; exact Bool.false_ne_true) ?_
        refine wpAny_pure ⟨rfl, done ++ [c], by simpa using e, ?_, ?_⟩
        · simp at hl ⊢; lia
        · rw [← hs]; conv => rhs; unfold expD
          rw [if_neg h9]
          simp
    · rintro ⟨out, col⟩ s' ⟨rfl, done, e, hl, hs⟩
      simp only [] at hl hs ⊢
      have hd : done.length = x.length := by
        have := congrArg List.length e
        simpa [Str.length] using this
      refine wpAny_bind (wpAny_mkStr (wpAny_pure ⟨_, rfl, h _ _ _ ?_⟩) ?_)
      · rw [← hs]; simp [expD]
      · simp at hl; show out.size ≤ sizeLine; exact lim_size (by lia)
    · exact ⟨rfl, [], rfl, by simp, by simp⟩
  · have hb : x.cps.contains 9 = false := by simpa using h9
    refine wI1 (by rw [hb]; rfl) ?_
    refine wpAny_bind (wpAny_rule (wpAny_pure ?_))
    refine ⟨_, rfl, ?_⟩
    have := h x t s.toks
    rw [expD_none _ _ _ (by simpa using hb)] at this
    exact this rfl

/-! bytes.decode -/
section
open PySem.Builtin._codecs
theorem loop_run {β : Type} (f : Nat → β → Sem (ForInStep β)) (k : Nat → β) (n : Nat) (h : ∀ p, p < n → ∀ x, f x (k p) = pure (.yield (k (p + 1)))) : ∀ (m p i : Nat), p + m ≤ n → forIn (List.range' i m) (k p) f = pure (k (p + m))
  | 0, p, i, _ => rfl
  | m + 1, p, i, hp => by
    rw [List.range'_succ, List.forIn_cons, h p (by lia), pure_bind]
    show forIn (List.range' (i + 1) m) (k (p + 1)) f = _
    rw [loop_run f k n h m (p + 1) (i + 1) (by lia), show p + 1 + m = p + (m + 1) by lia]
theorem latin_run {id : String} {b : Array UInt8} (hb : b.size ≤ lim) : runDecoder id latin1Decoder none true b 0 [] = pure ((b.map (·.toNat)), b.size) := by
  unfold runDecoder
  simp only [Std.Legacy.Range.forIn_eq_forIn_range', latin1Decoder, Found.char]
  have hsz : ([:b.size] : Std.Legacy.Range).size = b.size := by simp [Std.Legacy.Range.size]
  rw [hsz]
  have key := loop_run (β := Nat × Array Nat × Faults) (k := fun p => (p, (b.map (·.toNat)).extract 0 p, {})) (n := b.size)
  have e0 : ((0, #[], {}) : Nat × Array Nat × Faults) = (fun p => (p, (b.map (·.toNat)).extract 0 p, ({} : Faults))) 0 := by simp
  rw [e0, key _ ?_ b.size 0 0 (by lia)]
  · simp only [Nat.zero_add, pure_bind]
    rw [Array.extract_eq_self_of_le (by simp)]
  · intro p hp x
    have h1 : ¬ ((b.map (·.toNat)).extract 0 p).size > sizeLine := by simp; have := lim_size hb; lia
    have h2 : ¬ p ≥ b.size := by lia
    simp only [h1, h2, if_false]
    congr 3
    refine Prod.ext ?_ rfl
    simp only []
    rw [← Array.toList_inj]
    simp [Array.getD, hp, List.take_add_one]
theorem latin_road {id : String} {b : Array UInt8} : decodeRoad id b (PySem.Str.ofString "latin1") none [] = (runDecoder id latin1Decoder none true b 0 [] >>= fun r => mkStr ⟨r.1⟩) := by
  kernel_rfl
theorem meets_latin {b : Array UInt8} {t t1 t2 : Tok} {d : PySem.Str} (hb : b.size ≤ lim) :
    Meets («_codecs.decode.text» ⟨[.bytes b t, .str (PySem.Str.ofString "latin1") t1, .none, .str d t2], []⟩) (fun _ R s => R (.ok (.ret (.str ⟨b.map (·.toNat)⟩ s.toks))) { s with toks := s.toks + 1 }) := by
  refine .of_wp fun prog w A R s hS => ?_
  show wpAny _ _ (Bytes.bytesLike _ (.bytes b t) >>= fun r => _) _ _ s
  refine wpAny_bind (wpAny_of_eq KBd.like_eq ?_)
  refine wpAny_bind (wpAny_of_eq KBd.held_eq ?_)
  show wpAny _ _ (decodeRoad _ b (PySem.Str.ofString "latin1") none [] >>= fun v => _) _ _ s
  rw [latin_road, latin_run hb]
  refine wpAny_bind (wpAny_bind (wpAny_pure ?_))
  exact wpAny_mkStr (wpAny_pure ⟨_, rfl, hS⟩) (by show (b.map (·.toNat)).size ≤ _; rw [Array.size_map]; exact lim_size hb)
theorem decode_eq {c : UInt8} {cs : List UInt8} {t u : Tok} : «bytes.decode» ⟨[.bytes (c :: cs).toArray t, .str (PySem.Str.ofString "latin1") u], []⟩ = (mkStr (PySem.Str.ofString "utf-8") >>= fun _ => mkStr (PySem.Str.ofString "latin1") >>= fun e => mkStr (PySem.Str.ofString "bytes.decode") >>= fun d =>
    call (.builtin "_codecs.decode.text") [.bytes (c :: cs).toArray t, e, .none, d] >>= fun v => ret v) := by kernel_rfl
theorem meets_decode_latin {c : UInt8} {cs : List UInt8} {t u : Tok} (hb : (c :: cs).length ≤ lim) :
    Meets («bytes.decode» ⟨[.bytes (c :: cs).toArray t, .str (PySem.Str.ofString "latin1") u], []⟩) (fun _ R s => ∀ t' k, R (.ok (.ret (.str ⟨(c :: cs).toArray.map (·.toNat)⟩ t'))) { s with toks := k }) := by
  refine .of_wp fun prog w A R s hS => ?_
  rw [decode_eq]
  refine wpAny_bind (wpAny_mkStr ?_ (by decide))
  refine wpAny_bind (wpAny_mkStr ?_ (by decide))
  refine wpAny_bind (wpAny_mkStr ?_ (by decide))
  exact wpAny_bind (call_function_meets KBd.kind_text KBd.plain_text KBd.entry_text (KBd.args_text _ _ _ _) (meets_latin (by simpa using hb)) (wpAny_pure ⟨_, rfl, hS _ _⟩))
end

/-! str.translate -/
structure TabIs (h : Heap) (a : Addr) (tab : List Str) : Prop where
  all : ∃ vs : List Value, h.IsList a vs.toArray ∧ vs.length = tab.length ∧ ∀ (i : Nat) x, tab[i]? = some x → ∃ t, vs[i]? = some (.str x t)
section
variable {prog : Program} {w : World} {A : Around} {E : Value → Shared → Prop} {s : Shared}
theorem look_ok {a : Addr} {tab : List Str} {c : Nat} {x : Str} {Q : Mapped → Shared → Prop} (ht : TabIs s.heap a tab) (hx : tab[c]? = some x) (hc : tab.length = 256)
    (h : ∀ tk, Q (.text x) { s with toks := tk }) : wpAny (model prog w) A (tableLookup (.ref a) c) Q E s := by
  obtain ⟨vs, hl, hlen, hv⟩ := ht
  obtain ⟨t, hv⟩ := hv c x hx
  have hlt : c < 256 := by
    have := (List.getElem?_eq_some_iff.mp hx).1
    lia
  unfold tableLookup
  refine wpAny_bind (wpAny_attempt (wpAny_bind (wpAny_mkInt ?_)))
  refine wpAny_getItem_list (x := .str x t) hl (by lia) (by lia) (by simpa using hv) ?_
  show wpAny _ _ (asInt? (.str x t) >>= fun r => _) _ _ _
  refine wpAny_bind (wpAny_of_eq (show asInt? (.str x t) = pure none from rfl) ?_)
  refine wpAny_bind (wpAny_of_eq (show asStr? (.str x t) = pure (some x) from rfl) (wpAny_pure (h _)))
theorem tr_call {a : Addr} {tab : List Str} {x : Str} {t : Tok} {out : List Nat} {Q : Value → Shared → Prop} (ht : TabIs s.heap a tab) (hc : tab.length = 256) (h3 : ∀ y ∈ tab, y.length ≤ 3) (hx : x.length * 4 ≤ lim)
    (ho : trD (tab.map (·.cps.toList)) x.cps.toList = some out) (hS : okS out)
    (h : ∀ y t' tk, y.cps.toList = out → Q (.str y t') { s with toks := tk }) : wpAny (model prog w) A (call (.builtin "str.translate") [.str x t, .ref a]) Q E s := by
  have hz : lim = 16777216 := rfl
  refine wpAny_call_entry F.slot_str_translate (typeIs_str _ _ _) F.entry_str_translate ?_ (F.args_str_translate_2 _ _)
  have e0 : strOneArg "translate" ⟨[.str x t, .ref a], []⟩ = pure (.str x t, x, .ref a) := by kernel_rfl
  unfold Builtin.«str.translate»
  refine wpAny_bind (wpAny_of_eq e0 ?_)
  by_cases hx0 : (x.length == 0) = true
  · refine wI1 hx0 ?_
    refine wpAny_bind (wpAny_rule (wpAny_bind (wpAny_pure ?_)))
    refine wpAny_pure ⟨_, rfl, ?_⟩
    have := h x t s.toks ?_
    · exact this
    · have : x.cps.toList = [] := by
        have : x.cps.size = 0 := by simpa [Str.length] using hx0
        simpa using this
      rw [this] at ho ⊢
      simpa [trD] using ho
  · refine wI0 hx0 ?_
    refine wpAny_bind (MeetsSeq2.wpAny_forIn_array _ (fun rest (b : List Str × Nat × Bool × List (Nat × Option Nat) × Bool) s' => (∃ tk, s' = { s with toks := tk }) ∧ b.2.2.2.2 = false ∧
      (∀ c a, b.2.2.2.1.lookup c = some a → ∃ d, a = some d ∧ tab[c]? = some ⟨#[d]⟩) ∧
      ∃ done r, done ++ rest = x.cps.toList ∧ b.2.1 ≤ done.length * 3 ∧ (b.1.reverse.map (·.cps.toList)).flatten.length ≤ done.length * 3 ∧ trD (tab.map (·.cps.toList)) rest = some r ∧ (b.1.reverse.map (·.cps.toList)).flatten ++ r = out) _ ?_ ?_ _ _ ?_)
    · rintro c rest ⟨p, tot, fast, known, ad⟩ s' ⟨⟨tk, rfl⟩, had, hk, done, r, e1, e2, e2', e3, e4⟩
      simp only [] at had hk e2 e2' e4
      subst had
      have hd : done.length + 1 ≤ x.length := by
        have := congrArg List.length e1
        simp [Str.length] at this ⊢; lia
      have hlong : ¬ tooLong tot = true := by rw [long_no (by lia)]; exact Bool.false_ne_true
      simp only [trD] at e3
      split at e3
      · rename_i y r' hy hr
        cases e3
        obtain ⟨z, hz1, hz2⟩ := List.getElem?_map .. ▸ hy |> Option.map_eq_some_iff.mp
        have hzl : z.length ≤ 3 := h3 z (List.mem_of_getElem? hz1)
        have key : ∀ (f : Bool) (kn : List (Nat × Option Nat)) (tk n : Nat), (∀ c a, kn.lookup c = some a → ∃ d, a = some d ∧ tab[c]? = some ⟨#[d]⟩) → n ≤ 3 → (∃ tk', ({ s with toks := tk } : Shared) = { s with toks := tk' }) ∧ false = false ∧
            (∀ c a, kn.lookup c = some a → ∃ d, a = some d ∧ tab[c]? = some ⟨#[d]⟩) ∧
            ∃ done r, done ++ rest = x.cps.toList ∧ tot + n ≤ done.length * 3 ∧ ((z :: p).reverse.map (·.cps.toList)).flatten.length ≤ done.length * 3 ∧ trD (tab.map (·.cps.toList)) rest = some r ∧ ((z :: p).reverse.map (·.cps.toList)).flatten ++ r = out := by
          intro f kn tk n hkn hn
          refine ⟨⟨tk, rfl⟩, rfl, hkn, done ++ [c], r', by simpa using e1, by simp; lia, ?_, hr, ?_⟩
          · have : z.cps.toList.length ≤ 3 := by simpa [Str.length] using hzl
            simp only [List.reverse_cons, List.map_append, List.map_cons, List.map_nil, List.flatten_append, List.length_append, List.flatten_cons, List.flatten_nil, List.append_nil, List.length_cons, List.length_nil]
            lia
          · rw [← e4, ← hz2]; simp
        cases fast with
        | false =>
          refine wI0 hlong (wI0 Bool.false_ne_true (wI0 Bool.false_ne_true ?_))
          refine wpAny_bind (look_ok ⟨by obtain ⟨h⟩ := ht; exact h⟩ hz1 hc fun tk2 => ?_)
          exact wpAny_pure (key false known tk2 z.length hk hzl)
        | true =>
          refine wI0 hlong (wI1 rfl ?_)
          cases hl : known.lookup c with
          | some a' =>
            obtain ⟨d, rfl, hd2⟩ := hk c a' hl
            rw [hz1] at hd2; cases hd2
            exact wpAny_pure (key true known tk 1 hk (by lia))
          | none =>
            refine wpAny_bind (look_ok ⟨by obtain ⟨h⟩ := ht; exact h⟩ hz1 hc fun tk2 => ?_)
            by_cases h1 : (z.length == 1 && z.cps.all fun x => decide (x < 128)) = true
            · obtain ⟨d, rfl⟩ : ∃ d, z = ⟨#[d]⟩ := by
                have : z.cps.size = 1 := eq_of_beq ((Bool.and_eq_true_iff.mp h1).1 : (z.cps.size == 1) = true)
                obtain ⟨⟨l⟩⟩ := z
                match l, this with
                | [d], _ => exact ⟨d, rfl⟩
              simp only [h1, if_true]
              refine wpAny_pure (key true ((c, some d) :: known) tk2 1 ?_ (by lia))
              intro c' a' h'
              rw [List.lookup_cons] at h'
              split at h'
              · rename_i hcc
                cases h'
                have : c' = c := by simpa using hcc
                subst this
                exact ⟨d, rfl, hz1⟩
              · exact hk c' a' h'
            · simp only [h1, if_false, Bool.false_eq_true]
              refine wpAny_bind (wpAny_pure ?_)
              refine wpAny_bind (wpAny_rule ?_)
              refine wpAny_bind (look_ok ⟨by obtain ⟨h⟩ := ht; exact h⟩ hz1 hc fun tk3 => ?_)
              exact wpAny_pure (key false known tk3 z.length hk hzl)
      · cases e3
    · rintro ⟨p, tot, fast, known, ad⟩ s' ⟨⟨tk, rfl⟩, had, hk, done, r, e1, e2, e2', e3, e4⟩
      simp only [] at had hk e2 e2' e4 ⊢
      have hd : done.length = x.length := by
        have := congrArg List.length e1
        simpa [Str.length] using this
      refine wI0 (by rw [long_no (by lia)]; exact Bool.false_ne_true) ?_
      simp only [trD] at e3
      cases e3
      have hf : (p.reverse.foldl (fun acc (q : Str) => acc ++ q.cps) #[]).toList = out := by
        rw [← e4]
        have : ∀ (l : List Str) (acc : Array Nat), (l.foldl (fun acc (q : Str) => acc ++ q.cps) acc).toList = acc.toList ++ (l.map (·.cps.toList)).flatten := by
          intro l
          induction l with
          | nil => simp
          | cons a l ih => intro acc; rw [List.foldl_cons, ih]; simp
        simpa using this p.reverse #[]
      refine wpAny_bind (wpAny_mkStr (wpAny_pure ⟨_, rfl, h _ _ _ hf⟩) ?_)
      have : (p.reverse.foldl (fun acc (q : Str) => acc ++ q.cps) #[]).size ≤ lim := by
        rw [← Array.length_toList, hf, ← e4]; simp only [List.append_nil]; lia
      exact lim_size this
    · exact ⟨⟨s.toks, rfl⟩, rfl, fun c a h => by simp at h, [], out, rfl, by simp, by simp, ho, by simp⟩
end
end
section
open PySem PySem.W PyProof.Rows PySem.Calls

theorem runs_size {M : Model} {Γ : PySem.Ctx} {p : Pos} {t : Sem Fin} {fs : List Frame} {s s' : Shared} {e : End} (h : Runs M Γ p t fs s e s') : s.heap.objs.size ≤ s'.heap.objs.size := by
  induction h <;> (try simp only [Shared.setGen, Heap.size_update, Heap.size_push] at *) <;> lia
theorem returns_size {M : Model} {Γ : PySem.Ctx} {p : Pos} {s s' : Shared} {r : Result} (h : Returns M Γ p s r s') : s.heap.objs.size ≤ s'.heap.objs.size := runs_size h
theorem wakes_size {M : Model} {Γ : PySem.Ctx} {p : Pos} {g : Nat} {r : Resume} {s s' : Shared} {res : GenResult} (h : Wakes M Γ p g r s res s') : s.heap.objs.size ≤ s'.heap.objs.size := by
  unfold Wakes at h
  split at h
  · exact h.elim
  · split at h
    · obtain ⟨e₁, s₁, hr, _, _, rfl⟩ := h; exact (runs_size hr : (s.setGen g .running).heap.objs.size ≤ s₁.heap.objs.size)
    · rw [h.2]; exact Nat.le_refl _
    · rw [h.2]; exact Nat.le_refl _
  · obtain ⟨e₁, s₁, hr, _, _, rfl⟩ := h; exact (runs_size hr : (s.setGen g .running).heap.objs.size ≤ s₁.heap.objs.size)
  all_goals (rw [h.2]; exact Nat.le_refl _)

open PySem.Sem in
theorem wp_size {α : Type} (M : Model) (Γ : PySem.Ctx) (n : Nat) (t : Sem α) : ∀ (Q : α → Pos → Shared → Prop) (E : Value → Pos → Shared → Prop) (p : Pos) (s : Shared), n ≤ s.heap.objs.size → Sem.wp M Γ t Q E p s →
    Sem.wp M Γ t (fun a p' s' => n ≤ s'.heap.objs.size ∧ Q a p' s') (fun e p' s' => n ≤ s'.heap.objs.size ∧ E e p' s') p s := by
  induction t with
  | pure a => intro Q E p s hn h; exact ⟨hn, h⟩
  | raise e => intro Q E p s hn h; exact ⟨hn, h⟩
  | unsupported _ => intro Q E p s _ h; exact h
  | finish _ => intro Q E p s _ h; exact h
  | rule _ k ih => intro Q E p s hn h; exact ih () Q E p s hn h
  | «at» p' k ih => intro Q E p s hn h; exact ih () Q E p' s hn h
  | load a _ k ih => intro Q E p s hn h; obtain ⟨o, ho, h⟩ := h; exact ⟨o, ho, ih o Q E p s hn h⟩
  | update a _ f k ih => intro Q E p s hn h; exact ⟨h.1, ih () Q E p _ (by simpa using hn) h.2⟩
  | loadIfAlive a k ih => intro Q E p s hn h; exact ih _ Q E p s hn h
  | point _ k ih => intro Q E p s hn h; exact ih () Q E p s hn h
  | register _ _ => intro Q E p s _ h; exact h
  | alloc o k ih => intro Q E p s hn h; exact ih _ Q E p _ (by simp only [Heap.size_push]; lia) h
  | fresh k ih => intro Q E p s hn h; exact ih _ Q E p _ hn h
  | ask k ih => intro Q E p s hn h; exact ih _ Q E p s hn h
  | choose src m k ih => intro Q E p s hn h; exact ⟨h.1, ih _ Q E p _ hn h.2⟩
  | os q _ k ih => intro Q E p s hn h; exact ih _ Q E p _ hn h
  | call c hd _ _ k ih => intro Q E p s hn h; obtain ⟨r, s', hr, h⟩ := h; exact ⟨r, s', hr, ih r Q E p s' (Nat.le_trans hn (returns_size hr)) h⟩
  | handled own k ih => intro Q E p s hn h; exact ih _ Q E p s hn h
  | genState g k ih => intro Q E p s hn h; obtain ⟨st, hs, h⟩ := h; exact ⟨st, hs, ih _ Q E p s hn h⟩
  | newGen c k ih => intro Q E p s hn h; exact ih _ Q E p _ hn h
  | resume g r _ k ih => intro Q E p s hn h; obtain ⟨res, s', hw, h⟩ := h; exact ⟨res, s', hw, ih res Q E p s' (Nat.le_trans hn (wakes_size hw)) h⟩
  | yield _ _ _ _ => intro Q E p s _ h; exact h
  | stack k ih => intro Q E p s hn h; exact ih _ Q E p s hn h
  | fork _ _ => intro Q E p s _ h; exact h
  | thread k ih => intro Q E p s hn h; exact ih _ Q E p s hn h
  | await _ _ _ _ _ => intro Q E p s _ h; exact h

/- objects are never taken away -/
theorem with_size {α : Type} {M : Model} {A : Around} {s : Shared} {t : Sem α} {Q : α → Shared → Prop} (h : wpAny M A t (fun a s' => s.heap.objs.size ≤ s'.heap.objs.size → Q a s') NEx s) : wpAny M A t Q NEx s :=
  fun Γ p hΓ => by
    have := wp_size M Γ _ t _ _ p s (Nat.le_refl _) (h Γ p hΓ)
    exact Sem.wp_mono M Γ t (fun a p' s' x => x.2 x.1) (fun e p' s' x => x.2) p s this
theorem with_sizeE {α : Type} {M : Model} {A : Around} {E : Value → Shared → Prop} {s : Shared} {t : Sem α} {Q : α → Shared → Prop} (h : wpAny M A t (fun a s' => s.heap.objs.size ≤ s'.heap.objs.size → Q a s') E s) : wpAny M A t Q E s :=
  fun Γ p hΓ => by
    have := wp_size M Γ _ t _ _ p s (Nat.le_refl _) (h Γ p hΓ)
    exact Sem.wp_mono M Γ t (fun a p' s' x => x.2 x.1) (fun e p' s' x => x.2) p s this

section
variable {prog : Program} {w : World} {A : Around} {E : Value → Shared → Prop} {s : Shared}
open PySem.AutoSeq1 (wpAny_loadPart')
theorem collect_sz {Q : List Value → Shared → Prop} (it : Addr) {T : String} {o : Obj} {items : Array Value} {n : Nat} (hT : T = "list" ∨ T = "tuple")
    (ho : s.heap.get? it = some o) (hc : o.cls = .type T) (hd : o.data = .seq items n) (hsz : items.size ≤ sizeLine)
    (hQ : ∀ h', (∀ b o', s.heap.get? b = some o' → h'.get? b = some o') → s.heap.objs.size ≤ h'.objs.size → Q items.toList { s with heap := h' }) :
    wpAny (model prog w) A (collect (.ref it)) Q E s :=
  with_sizeE (wpAny_collect_seq it hT ho hc hd (fun h' hk hz => hQ h' hk hz) hsz)

theorem meets_tuple_sz (l : Addr) (o : Obj) (items : Array Value) (n : Nat) (hc : o.cls = .type "list") (hd : o.data = .seq items n) (hsz : items.size ≤ sizeLine) :
    Meets (Builtin.«tuple.__new__» ⟨[.type "tuple", .ref l], []⟩)
      (fun _ R s => s.heap.get? l = some o ∧ ∀ h' : Heap, (∀ b o', s.heap.get? b = some o' → h'.get? b = some o') → s.heap.objs.size ≤ h'.objs.size → R (.ok (.ret (.ref h'.objs.size))) { s with heap := h'.push { cls := .type "tuple", data := .seq items } }) :=
  .of_wp fun prog w A R s h => by
    obtain ⟨hp, g, d, tk, os⟩ := s; obtain ⟨ht, h⟩ := h
    have hsub := sub_tuple_self
    have hinit := init_tuple_lookup
    have hmh := madeHere_tuple
    have hT : Shared.TypeIs ⟨hp, g, d, tk, os⟩ (.ref l) "list" := ⟨o, ht, hc⟩
    wp_walk using wpAny_loadPart' ht, wpAny_typeOf hT, collect_sz l (.inl rfl) ht hc hd hsz
    intro h' hk hz
    show wpAny _ _ (Builtin.Tuple.tupleExact items.toList.toArray >>= fun v => ret v) _ _ _
    unfold Builtin.Tuple.tupleExact
    refine wpAny_bind (wpAny_newObj_type ?_ (by show items.toList.toArray.size ≤ sizeLine; simpa using hsz))
    refine wpAny_pure ⟨_, rfl, ?_⟩
    have e : items.toList.toArray = items := by simp
    rw [e]
    exact h h' hk hz
theorem tuple_list {l : Addr} {items : Array Value} {Q : Value → Shared → Prop} (hl : s.heap.IsList l items)
    (h : ∀ h' : Heap, (∀ b o', s.heap.get? b = some o' → h'.get? b = some o') → s.heap.objs.size ≤ h'.objs.size → Q (.ref h'.objs.size) { s with heap := h'.push { cls := .type "tuple", data := .seq items } })
    (hsz : items.size ≤ sizeLine) :
    wpAny (model prog w) A (call (.type "tuple") [.ref l]) Q E s := by
  obtain ⟨o, ho, hc, n, hd⟩ := hl
  exact callType_new F.called_tuple (by decide) (F.typeCall_tuple_1 _) (F.newCall_tuple_1 _) (fun obj => F.args_object_init_2 obj _) F.entry_tuple_new
    (meets_tuple_sz l o items n hc hd hsz) ⟨ho, fun h' hk hz => ⟨⟨_, Heap.get?_push_size _ rfl, rfl⟩, h h' hk hz⟩⟩
end
end
section
open PySem PySem.W PyProof.Rows PySem.Calls PySem.Spec PySem.Builtin PySem.Builtin.Str

noncomputable def fX : Percent := { zero := true, width := some 2, type := 88 }
noncomputable def pfX (n : Nat) : Option (List Nat) := percentField fX true (percentInt fX false ((Nat.toDigits 16 n).map Char.toNat))
theorem pfX_is : ∀ n, n < 256 → (match pfX n with | none => percentInt fX false ((Nat.toDigits 16 n).map Char.toNat) | some l => l) = [hexd (n / 16), hexd (n % 16)] := by decide +kernel
theorem modX {i : Int} (t u : Tok) (h0 : 0 ≤ i) (h1 : i < 256) : Meets («str.__mod__» ⟨[.str ⟨#[61, 37, 48, 50, 88]⟩ t, .int i u], []⟩)
    (fun _ R s => ∀ t' k, R (.ok (.ret (.str ⟨#[61, hexd (i.toNat / 16), hexd (i.toNat % 16)]⟩ t'))) { s with toks := k }) := by
  apply KPc.meets_of
  intro prog w A s Q E hQ
  rw [KPc.entry_is]
  unfold Builtin.Str.percentFormat
  refine wpAny_bind (wpAny_isInstance (typeIs_int _ _ _) F.sub_int_tuple ?_)
  refine wpAny_bind (wpAny_of_eq (a := none) rfl ?_)
  refine wpAny_bind (wpAny_of_eq (KPc.fills _ _) ?_)
  kpc_if
  refine wpAny_bind (wpAny_pure ?_)
  refine wpAny_bind ?_
  rw [KPc.range_list]
  refine KPc.start ?_
  intro w1 g1
  refine KPc.turn ?_
  kpc_check
  repeat kpc_if
  refine wpAny_pure ?_
  kpc_piece
  refine KPc.turn ?_
  kpc_check
  repeat kpc_if
  refine wpAny_bind ?_
  refine wpAny_holding ?_
  repeat kpc_if
  refine wpAny_bind (wpAny_of_eq (a := i) rfl ?_)
  repeat kpc_if
  refine wpAny_bind (wpAny_pure ?_)
  refine wpAny_pure ?_
  have en : decide (i < 0) = false := decide_eq_false (by lia)
  have key := pfX_is i.natAbs (by lia)
  have ek : i.natAbs = i.toNat := by lia
  unfold pfX at key
  show wpAny _ _ (match percentField fX true (percentInt fX (decide (i < 0)) ((Nat.toDigits 16 i.natAbs).map Char.toNat)) with | none => _ | some laid => _) _ _ _
  rw [en]
  rw [ek] at key
  rename_i w2 g2
  have hN : 0 + (Str.ofString "=").length + (⟨#[hexd (i.toNat / 16), hexd (i.toNat % 16)]⟩ : Str).length ≤ 16777216 := by
    show 0 + (Str.ofString "=").length + 2 ≤ _
    decide +kernel
  cases hp : percentField fX true (percentInt fX false ((Nat.toDigits 16 i.natAbs).map Char.toNat)) with
  | none =>
    rw [ek] at hp
    rw [hp] at key
    refine wpAny_pure ?_
    refine KPc.after_add (y := ⟨#[hexd (i.toNat / 16), hexd (i.toNat % 16)]⟩) g2 (congrArg (fun l : List Nat => Str.mk l.toArray) (ek ▸ key)) (KPc.obj_none (by exact ite_self _)) fun w3 g3 => ?_
    refine KPc.turn ?_
    refine wpAny_ite (KPc.ite_no (KPc.short_good g3 hN) ?_)
    refine wpAny_ite (KPc.ite_yes rfl ?_)
    refine wpAny_pure ?_
    kpc_if
    exact KPc.finish_ok g3 hN rfl hQ
  | some laid =>
    rw [ek] at hp
    rw [hp] at key
    refine wpAny_pure ?_
    refine KPc.after_add (y := ⟨#[hexd (i.toNat / 16), hexd (i.toNat % 16)]⟩) g2 (congrArg (fun l : List Nat => Str.mk l.toArray) key) (KPc.obj_none rfl) fun w3 g3 => ?_
    refine KPc.turn ?_
    refine wpAny_ite (KPc.ite_no (KPc.short_good g3 hN) ?_)
    refine wpAny_ite (KPc.ite_yes rfl ?_)
    refine wpAny_pure ?_
    kpc_if
    exact KPc.finish_ok g3 hN rfl hQ

theorem fmt02X (X : Cx) : Fmt02X X := by
  intro A E s x t u i Q hx h0 h1 h
  have e : x = ⟨#[61, 37, 48, 50, 88]⟩ := str_mk hx
  subst e
  exact KPc.mod_lit rfl (by
    have : i.natAbs < 2 ^ 8 := by lia
    by_cases h0 : i.natAbs = 0
    · rw [h0]; decide
    · exact Nat.lt_trans ((Nat.log2_lt h0).mpr this) (by decide)) (fun _ _ => modX t u h0 h1) fun t' k => h _ _ _ rfl
theorem listMul1 (X : Cx) : ListMul1 X := by
  intro A E s l v k i u Q hl h0 h1 h
  have hz : lim = 16777216 := rfl
  refine wpAny_binaryOp_repeat_ref (T := "list") (U := "int") (by decide) ⟨_, hl, rfl⟩ (fun s' => typeIs_int s' i u) noFill_list_mul F.fills_int_mul F.slot_int_rmul repeat_list F.slot_int_index.lookup
    (call_meets F.slot_int_rmul (typeIs_int s i u) F.entry_int_rmul (F.args_int_rmul_2 _ _) (int___rmul___int_list i u l #[v] k)
      ⟨hl, rfl, ⟨_, hl, rfl⟩, call_meets F.slot_list_mul ⟨_, hl, rfl⟩ F.entry_list_mul (F.args_list_mul_2 _ _)
        (AutoListH.list___mul___list_int_3 l #[v] k i u (by simp [Builtin.List.listFitsIndex]; lia) (by simp; lia) (by simp [Builtin.List.listTooLong, sizeLine]; lia))
        ⟨hl, ?_⟩⟩)
  have e : (List.foldl (fun x1 x2 => x1 ++ x2) #[] (List.replicate (if (#[v] : Array Value).isEmpty = true then 0 else i.toNat) #[v])) = (List.replicate i.toNat v).toArray := by
    have key : ∀ (n : Nat) (acc : Array Value), List.foldl (fun x1 x2 => x1 ++ x2) acc (List.replicate n #[v]) = acc ++ (List.replicate n v).toArray := by
      intro n
      induction n with
      | zero => intro acc; simp
      | succ n ih => intro acc; rw [List.replicate_succ, List.foldl_cons, ih, List.replicate_succ, ← Array.toList_inj]; simp
    rw [if_neg (by simp), key]; simp
  rw [e]
  exact h
end
section
open PySem PySem.W PyProof.Rows PySem.Calls PySem.Spec PySem.Builtin PySem.Builtin.Str

section
variable {X : Cx} {g : G} {am : List Addr} {σ : Store} {s : Shared} {A : Around} {Q : Value → Shared → Prop} {n : Nat}

theorem strs_of : ∀ {vs : List Value} {ds : List D} {ls : List (List Nat)}, Reps X g am vs ds → strsD ds = some ls → ∃ l : List (Str × Tok), vs = strValues l ∧ l.map (·.1.cps.toList) = ls ∧ ∀ x ∈ ls, okS x
  | _, _, ls, .nil, e => by
    simp [strsD] at e; subst e
    exact ⟨[], rfl, rfl, by simp⟩
  | _, _, ls, .cons (d := d) r rs, e => by
    cases d <;> simp [strsD] at e
    rename_i x
    obtain ⟨ls', e1, rfl⟩ := e
    obtain ⟨y, t, rfl, hy, ky⟩ := rep_str r
    obtain ⟨l, rfl, h2, h3⟩ := strs_of rs e1
    refine ⟨(y, t) :: l, rfl, by simp [hy, h2], ?_⟩
    intro z hz
    rcases List.mem_cons.mp hz with rfl | hz
    · exact ky
    · exact h3 z hz
theorem ints_of : ∀ {vs : List Value} {ds : List D} {ls : List Int}, Reps X g am vs ds → intsD ds = some ls → IntsAre vs ls
  | _, _, ls, .nil, e => by
    simp [intsD] at e; subst e; exact .nil
  | _, _, ls, .cons (d := d) r rs, e => by
    cases d <;> simp [intsD] at e
    obtain ⟨ls', e1, rfl⟩ := e
    obtain ⟨t, rfl⟩ := rep_int r
    exact .cons _ _ (ints_of rs e1)
theorem intsD_map : ∀ l : List Int, intsD (l.map .int) = some l
  | [] => rfl
  | x :: l => by
    show (intsD (l.map .int)).map (x :: ·) = _
    rw [intsD_map l]; rfl
theorem reps_ints : ∀ {vs : List Value} {ls : List Int}, IntsAre vs ls → Reps X g am vs (ls.map .int)
  | _, _, .nil => .nil
  | _, _, .cons n t r => .cons (.int n t) (reps_ints r)
theorem reps_strs : ∀ (l : List (Str × Tok)), (∀ p ∈ l, okS p.1.cps.toList) → Reps X g am (strValues l) ((l.map (·.1.cps.toList)).map .str)
  | [], _ => .nil
  | p :: l, h => .cons (.str _ _ _ rfl (h p (List.mem_cons_self ..))) (reps_strs l fun q hq => h q (List.mem_cons_of_mem _ hq))

theorem insD_perm (x : Int) : ∀ l, (insD x l).Perm (x :: l)
  | [] => .refl _
  | y :: l => by
    unfold insD
    split
    · exact .refl _
    · exact ((insD_perm x l).cons y).trans (.swap x y l)
theorem sortD_perm : ∀ l, (sortD l).Perm l
  | [] => .refl _
  | x :: l => (insD_perm x _).trans ((sortD_perm l).cons x)
theorem insD_sorted (x : Int) : ∀ l : List Int, l.Pairwise (· ≤ ·) → (insD x l).Pairwise (· ≤ ·)
  | [], _ => by simp [insD]
  | y :: l, h => by
    unfold insD
    split
    · rename_i hxy
      refine List.pairwise_cons.mpr ⟨fun z hz => ?_, h⟩
      rcases List.mem_cons.mp hz with rfl | hz
      · exact hxy
      · exact Int.le_trans hxy ((List.pairwise_cons.mp h).1 z hz)
    · rename_i hxy
      refine List.pairwise_cons.mpr ⟨fun z hz => ?_, insD_sorted x l (List.pairwise_cons.mp h).2⟩
      rcases List.mem_cons.mp ((insD_perm x l).mem_iff.mp hz) with rfl | hz
      · lia
      · exact (List.pairwise_cons.mp h).1 z hz
theorem sortD_sorted : ∀ l : List Int, (sortD l).Pairwise (· ≤ ·)
  | [] => List.Pairwise.nil
  | x :: l => insD_sorted x _ (sortD_sorted l)
theorem sort_uniq : ∀ {a b : List Int}, a.Perm b → a.Pairwise (· ≤ ·) → b.Pairwise (· ≤ ·) → a = b := fun p h k =>
  p.eq_of_pairwise (fun a b _ _ h1 h2 => Int.le_antisymm h1 h2) h k

end
/- a built-in's answer -/
structure BuiltD (b : BI) (σ : Store) (args : List D) (d : D) : Prop where
  run : ∀ {X : Cx} {g : G} {am : List Addr} {s : Shared} {A : Around} {Q : Value → Shared → Prop} {vs : List Value}, A.handled = none → St X g am σ s.heap → Reps X g am vs args → Post X σ d g am s Q → wpAny (model X.prog X.w) A (call b.val vs) Q NEx s
theorem lim63 {n : Nat} (h : n ≤ lim) : (n : Int) < 2 ^ 63 := by
  have hz : lim = 16777216 := rfl
  lia
section
variable {σ : Store} {x : List Nat} {u : List D} {i : Int} {m : Nat}
theorem eLenS (h : x.length ≤ lim) : BuiltD .len σ [.str x] (.int x.length) := ⟨fun R S rs P => by
  cases rs with | cons r rs => cases rs with | nil =>
  obtain ⟨x, t, rfl, hx, kx⟩ := rep_str r
  subst hx
  exact PySem.P.len_str (Int.not_le.mpr (lim63 h)) (P.tok S (.int _ _) _)⟩
theorem eLenT (h : u.length ≤ lim) : BuiltD .len σ [.tup u] (.int u.length) := ⟨fun R S rs P => by
  cases rs with | cons r rs => cases rs with | nil =>
  obtain ⟨a, o, k, vs, rfl, h1, h2, h3, r⟩ := rep_tup r
  have hl : vs.toArray.size = u.length := r.length
  refine len_tuple (show IsTup _ a vs.toArray from ⟨o, S.gin _ _ h1, h2, k, h3⟩) (by rw [hl]; exact lim63 h) ?_
  rw [hl]
  exact P.tok S (.int _ _) _⟩
theorem eLenLoc (hs : σ[m]? = some (.list u)) (h : u.length ≤ lim) : BuiltD .len σ [.loc m] (.int u.length) := ⟨fun R S rs P => by
  cases rs with | cons r rs => cases rs with | nil =>
  obtain ⟨a, k', vs, rfl, ho, r⟩ := lst_ok S (ds := u) r (by simp [lstD, hs])
  have hl : vs.toArray.size = u.length := r.length
  refine call_len_list ⟨_, ho, rfl, k', rfl⟩ (by rw [hl]; exact lim63 h) ?_
  rw [hl]
  exact P.tok S (.int _ _) _⟩
theorem eOrd {c : Nat} : BuiltD .ord σ [.str [c]] (.int c) := ⟨fun R S rs P => by
  cases rs with | cons r rs => cases rs with | nil =>
  obtain ⟨x, t, rfl, hx, kx⟩ := rep_str r
  have := str_mk hx
  subst this
  exact ord_of_one rfl (P.tok S (.int _ _) _)⟩
theorem eAbs : BuiltD .abs σ [.int i] (.int i.natAbs) := ⟨fun R S rs P => by
  cases rs with | cons r rs => cases rs with | nil =>
  obtain ⟨t, rfl⟩ := rep_int r
  refine call_abs_int fun u tk => ?_
  rw [show (if i < 0 then -i else i) = (i.natAbs : Int) by split <;> lia]
  exact P.tok S (.int _ _) _⟩
theorem eSorted {l : List Int} (h : l.length < 64) : BuiltD .sorted σ [.list (l.map .int)] (.list ((sortD l).map .int)) := ⟨fun R S rs P => by
  cases rs with | cons r rs => cases rs with | nil =>
  obtain ⟨a, k, vs, rfl, h1, r⟩ := rep_list r
  have hI := ints_of r (intsD_map l)
  refine sorted_ints ⟨_, S.gin _ _ h1, rfl, k, rfl⟩ hI (by rw [hI.length]; exact h) fun out ns' a1 a2 a3 => ?_
  have e2 : ns' = sortD l := sort_uniq (a2.trans (sortD_perm l).symm) a3 (sortD_sorted l)
  subst e2
  obtain ⟨m, hm⟩ := sortedAll_at _ vs out
  refine P.grow (tk := _) (h' := sortedAll _ vs out) S (fun a o e => sortedAll_old e) (Nat.le_of_lt (Nat.lt_of_succ_lt (Heap.lt_size hm))) ?_
  exact .list _ m out.toList _ (gro_new (Nat.le_succ _) hm) (reps_ints a1)⟩
theorem eBytesI {l : List Int} (h1 : ∀ i ∈ l, 0 ≤ i ∧ i < 256) (h2 : l.length ≤ 16384) : BuiltD .bytes σ [.list (l.map .int)] (.bytes (l.map fun i => i.toNat.toUInt8)) := ⟨fun R S rs P => by
  cases rs with | cons r rs => cases rs with | nil =>
  obtain ⟨a, k, vs, rfl, h0, r⟩ := rep_list r
  have hI := ints_of r (intsD_map l)
  refine with_size (call_bytes_ints ⟨_, S.gin _ _ h0, rfl, k, rfl⟩ hI h1 (by rw [hI.length]; exact lim_size (Nat.le_trans h2 (by decide))) R fun h' t k hk hz => ?_)
  exact P.grow S hk hz (.bytes _ _ _ (by simp [byteArr]))⟩
theorem eTupLoc (hs : σ[m]? = some (.list u)) (h : u.length ≤ lim) : BuiltD .tuple σ [.loc m] (.tup u) := ⟨fun {X g am s A Q vs} R S rs P => by
  cases rs with | cons r rs => cases rs with | nil =>
  obtain ⟨a, k', vs, rfl, ho, r⟩ := lst_ok S (ds := u) r (by simp [lstD, hs])
  refine tuple_list ⟨_, ho, rfl, k', rfl⟩ (fun h' hk hz' => ?_) (by rw [List.size_toArray, r.length]; exact lim_size h)
  refine P.grow (tk := s.toks) S (fun a o e => Heap.get?_push_of_some _ (hk a o e)) (by rw [Heap.size_push]; exact Nat.le_succ_of_le hz') ?_
  exact .tup _ _ 0 vs _ (gro_new hz' (Heap.get?_push_size _ rfl)) rfl rfl (r.mono (gro_le S.gin) fun _ _ e => e)⟩
end
end
section
open PySem PySem.W PyProof.Rows PySem.Calls PySem.Spec PySem.Builtin PySem.Builtin.Str

section
variable {X : Cx}

theorem splD_str {l : List (List Nat)} : strsD (l.map D.str) = some l := by
  induction l with
  | nil => rfl
  | cons a l ih => simp [strsD, ih]
theorem okS_of_all {l : List Nat} (h : okB l = true) : okS l := fun c hc => by
  have := List.all_eq_true.mp h c hc
  simpa using this
theorem trD_ok {tab : List (List Nat)} (h : ∀ x ∈ tab, okS x) : ∀ (l : List Nat) {r}, trD tab l = some r → okS r
  | [], r, e => by simp [trD] at e; subst e; intro c hc; cases hc
  | c :: l, r, e => by
    simp only [trD] at e
    split at e
    · rename_i t r' h1 h2
      cases e
      exact okS_append (h _ (List.mem_of_getElem? h1)) (trD_ok h l h2)
    · cases e

/- str.split, the new list as it lies there -/
theorem split_call {prog : Program} {w : World} {A : Around} {E : Value → Shared → Prop} {s : Shared} {x y : Str} {t u : Tok} {Q : Value → Shared → Prop} (hy : (y.length == 0) = false)
    (hq : ∀ (l : List (Str × Tok)) tk, l.map (·.1) = Txt.split x y → Q (.ref s.heap.objs.size) { s with heap := s.heap.push { cls := .type "list", data := .seq (strValues l).toArray }, toks := tk })
    (hsz : x.length ≤ sizeLine) (hsz2 : (partsBetween x (occurrences x y 0 x.length (x.length + 1)) y.length).length ≤ sizeLine) :
    wpAny (model prog w) A (call (.builtin "str.split") [.str x t, .str y u]) Q E s := by
  cases h1 : (decide (x.length < y.length) || decide (strKind x < strKind y))
  · cases hf : (occurrences x y 0 x.length (x.length + 1)).isEmpty
    · refine call_meets F.slot_str_split (typeIs_str _ _ _) F.entry_str_split (F.args_str_split_2 _ _) (meets_str_split_sep x y t u h1 hy hf hsz hsz2) ?_
      show wants Q E _ { s with toks := _, heap := s.heap.push { cls := .type "list", data := .seq (strsFrom s.toks (partsBetween x (occurrences x y 0 x.length (x.length + 1)) y.length)).toArray } }
      rw [strsFrom_eq]
      exact hq (numbered s.toks _) _ ((numbered_texts _ _).trans ((if_neg (ne_true_of_eq_false h1)).trans (if_neg (ne_true_of_eq_false hf))).symm)
    · exact call_meets F.slot_str_split (typeIs_str _ _ _) F.entry_str_split (F.args_str_split_2 _ _) (meets_str_split_not_found x y t u h1 hy hf)
        (hq [(x, t)] s.toks ((if_neg (ne_true_of_eq_false h1)).trans (if_pos hf)).symm)
  · exact call_meets F.slot_str_split (typeIs_str _ _ _) F.entry_str_split (F.args_str_split_2 _ _) (meets_str_split_cannot_occur x y t u h1)
      (hq [(x, t)] s.toks (if_pos h1).symm)

theorem args_decode2 (a b : Value) : argsOk "bytes.decode" ⟨[a, b], []⟩ := by unfold argsOk; kernel_rfl
theorem parts_len (x : Str) (w : Nat) : ∀ (cuts : List Nat) (a : Nat), (StrLaws.partsFrom x w a cuts).length = cuts.length + 1
  | [], a => rfl
  | c :: r, a => by
    show (_ :: StrLaws.partsFrom x w (c + w) r).length = _
    rw [List.length_cons, parts_len x w r]; rfl

noncomputable def selfOk (X : Cx) (self : D) (T : String) : Prop := ∀ {g : G} {am : List Addr} {σ : Store} {s : Shared} {v : Value}, St X g am σ s.heap → Rep X g am v self → s.TypeIs v T ∧ ∀ a, v = .ref a → ∃ ob, s.heap.get? a = some ob ∧ ob.dict = none
theorem self_str (l : List Nat) : selfOk X (.str l) "str" := by
  intro g am σ s v S r
  obtain ⟨x, t, rfl, _, _⟩ := rep_str r
  exact ⟨typeIs_str _ _ _, fun _ e => nomatch e⟩
theorem self_bytes (l : List UInt8) : selfOk X (.bytes l) "bytes" := by
  intro g am σ s v S r
  obtain ⟨x, t, rfl, _⟩ := rep_bytes r
  exact ⟨PySem.W.typeIs_bytes _ _ _, fun _ e => nomatch e⟩
theorem self_dict (ks : List (List Nat)) (vs : List D) : selfOk X (.dict ks vs) "dict" := by
  intro g am σ s v S r
  obtain ⟨a, o, ks', vs', rfl, h0, h1, h2, h3, h4, rs⟩ := rep_dict r
  · have hm := h2 _ (S.gin _ _ h1)
    exact ⟨hm.typeIs, hm.mapOf.noDict⟩

noncomputable def callOk (X : Cx) (id : String) (self : D) (args : List D) (d : D) : Prop := ∀ {g : G} {am : List Addr} {σ : Store} {s : Shared} {v : Value} {vs : List Value} {A : Around} {n : Nat} {Q : Value → Shared → Prop}, Room n A → St X g am σ s.heap →
  Rep X g am v self → Reps X g am vs args → Post X σ d g am s Q → wpAny (model X.prog X.w) A (call (.builtin id) (v :: vs)) Q NEx s

end
/- a method's answer -/
noncomputable def MethD (name : Str) (self : D) (args : List D) (d : D) : Prop :=
  ∃ T id, PlainAttrs T ∧ Slot T name id ∧ typeOf (.builtin id) = pure (.type "method_descriptor") ∧ ∀ X, selfOk X self T ∧ callOk X id self args d
section
variable {l : List Nat}
theorem eExp {n : Nat} (h1 : 1 ≤ n) (h2 : n ≤ 64) (h : l.length * 65 ≤ lim) : MethD (Str.ofString "expandtabs") (.str l) [.int n] (.str (expD n l 0)) := by
  refine ⟨"str", "str.expandtabs", F.plainAttrs_str, F.slot_str_expandtabs, F.type_str_expandtabs, fun X => ⟨self_str _, ?_⟩⟩
  intro g am σ s v vs A m Q R S rv rs P
  obtain ⟨x, t, rfl, hx, kx⟩ := rep_str rv
  subst hx
  cases rs with | cons r rs => cases rs with | nil =>
  obtain ⟨u, rfl⟩ := rep_int r
  exact exp_call h1 h2 h fun y t' tk hy => P.tok S (.str _ _ _ hy (expD_ok _ _ _ kx)) _
theorem eRstrip {a : Nat} (h : l.length ≤ lim) : MethD (Str.ofString "rstrip") (.str l) [.str [a]] (.str (l.reverse.dropWhile (· == a)).reverse) := by
  refine ⟨"str", "str.rstrip", F.plainAttrs_str, F.slot_str_rstrip, F.type_str_rstrip, fun X => ⟨self_str _, ?_⟩⟩
  intro g am σ s v vs A m Q R S rv rs P
  obtain ⟨x, t, rfl, hx, kx⟩ := rep_str rv
  subst hx
  cases rs with | cons r rs => cases rs with | nil =>
  obtain ⟨y, u, rfl, hy, ky⟩ := rep_str r
  have := str_mk hy
  subst this
  refine SC.rstripChars (fun t' k => P.tok S (.str _ _ _ (rstrip_is x a) ?_) _) (lim_size h)
  intro c hc
  have := (List.dropWhile_sublist _).subset (List.mem_reverse.mp hc)
  exact kx c (List.mem_reverse.mp this)
theorem eSplit {a : Nat} (h : l.length + 2 ≤ lim) : MethD (Str.ofString "split") (.str l) [.str [a]] (.list ((splD a l).map .str)) := by
  refine ⟨"str", "str.split", F.plainAttrs_str, F.slot_str_split, F.type_str_split, fun X => ⟨self_str _, ?_⟩⟩
  intro g am σ s v vs A m Q R S rv rs P
  obtain ⟨x, t, rfl, hx, kx⟩ := rep_str rv
  subst hx
  cases rs with | cons r rs => cases rs with | nil =>
  obtain ⟨y, u, rfl, hy, ky⟩ := rep_str r
  have := str_mk hy
  subst this
  have hxl : x.length + 2 ≤ lim := h
  refine split_call rfl (fun l tk hl => ?_) (lim_size (Nat.le_trans (Nat.le_add_right _ 2) hxl)) ?_
  · have e1 : l.map (·.1.cps.toList) = splD a x.cps.toList := by
      rw [← split_is, ← hl, List.map_map]; rfl
    refine P.grow (tk := tk) (h' := s.heap.push { cls := .type "list", data := .seq (strValues l).toArray }) (v := .ref s.heap.objs.size) S (fun a o e => Heap.get?_push_of_some _ e) (by rw [Heap.size_push]; exact Nat.le_succ _) ?_
    refine .list _ 0 _ _ (gro_new (Nat.le_refl _) (Heap.get?_push_size _ rfl)) ?_
    rw [← e1]
    refine reps_strs l fun p hp c hc => kx c ?_
    exact splD_mem a _ _ (e1 ▸ List.mem_map_of_mem hp) c hc
  · have h1 := StrLaws.occ_length_le x ⟨#[a]⟩ 0 x.length (x.length + 1)
    rw [StrLaws.partsBetween_eq, parts_len]
    exact lim_size (by lia)
theorem eJoin {ls : List (List Nat)} (h : ls.flatten.length ≤ lim) : MethD (Str.ofString "join") (.str []) [.list (ls.map .str)] (.str ls.flatten) := by
  refine ⟨"str", "str.join", F.plainAttrs_str, F.slot_str_join, F.type_str_join, fun X => ⟨self_str _, ?_⟩⟩
  intro g am σ s v vs A m Q R S rv rs P
  obtain ⟨x, t, rfl, hx, kx⟩ := rep_str rv
  have := str_mk hx
  subst this
  cases rs with | cons r rs => cases rs with | nil =>
  obtain ⟨a, k, vs, rfl, h1, r⟩ := rep_list r
  obtain ⟨l, rfl, hl2, hl3⟩ := strs_of r splD_str
  refine SC.join (show s.heap.IsList a (strValues l).toArray from ⟨_, S.gin _ _ h1, rfl, k, rfl⟩) rfl ?_ fun t' tk => P.tok S (.str _ _ _ ?_ ?_) _
  · unfold JoinOk
    rw [StrLaws.joinTotal]
    have : ((l.map (·.1)).map (·.length)).sum = ls.flatten.length := by
      rw [← hl2, List.length_flatten, List.map_map, List.map_map]
      congr 1
    rw [this, show (⟨#[]⟩ : Str).length = 0 from rfl, Nat.mul_zero, Nat.add_zero, long_no h]; rfl
  · show (glued ⟨#[]⟩ (l.map (·.1))).cps.toList = _
    rw [StrLaws.glued_eq_join, join_is, ← hl2, List.map_map]; rfl
  · intro c hc
    obtain ⟨y, hy, hc⟩ := List.mem_flatten.mp hc
    exact hl3 y hy c hc
theorem eDecode {b : List UInt8} (hb : b ≠ []) (hl : b.length ≤ lim) : MethD (Str.ofString "decode") (.bytes b) [.str [108, 97, 116, 105, 110, 49]] (.str (b.map (·.toNat))) := by
  refine ⟨"bytes", "bytes.decode", FB.plainAttrs_bytes, FB.slot_bytes_decode, FB.type_bytes_decode, fun X => ⟨self_bytes _, ?_⟩⟩
  intro g am σ s v vs A m Q R S rv rs P
  obtain ⟨x, t, rfl, hx⟩ := rep_bytes rv
  cases rs with | cons r rs => cases rs with | nil =>
  obtain ⟨y, u, rfl, hy, ky⟩ := rep_str r
  have hy' : y = PySem.Str.ofString "latin1" := by
    rw [str_mk hy]; decide +kernel
  subst hy'
  obtain ⟨xs⟩ := x
  subst hx
  cases xs with
  | nil => exact absurd rfl hb
  | cons c cs =>
    refine call_meets FB.slot_bytes_decode (PySem.W.typeIs_bytes _ _ _) FB.entry_bytes_decode (args_decode2 _ _) (meets_decode_latin hl) fun t' k => P.tok S (.str _ _ _ ?_ ?_) _
    · simp
    · intro c' hc
      obtain ⟨b, _, rfl⟩ := List.mem_map.mp hc
      exact Nat.lt_trans b.toNat_lt (by decide)
theorem eTranslate {tab : List (List Nat)} {out : List Nat} (h1 : tab.length = 256) (h2 : l.length * 4 ≤ lim) (h3 : ∀ x ∈ tab, x.length ≤ 3) (ho : trD tab l = some out) : MethD (Str.ofString "translate") (.str l) [.list (tab.map .str)] (.str out) := by
  refine ⟨"str", "str.translate", F.plainAttrs_str, F.slot_str_translate, F.type_str_translate, fun X => ⟨self_str _, ?_⟩⟩
  intro g am σ s v vs A m Q R S rv rs P
  obtain ⟨x, t, rfl, hx, kx⟩ := rep_str rv
  subst hx
  cases rs with | cons r rs => cases rs with | nil =>
  obtain ⟨a, k, vs, rfl, h0, r⟩ := rep_list r
  obtain ⟨l, rfl, hl2, hl3⟩ := strs_of r splD_str
  have e1 : (l.map (·.1)).map (·.cps.toList) = tab := by rw [← hl2, List.map_map]; rfl
  refine tr_call (tab := l.map (·.1)) ⟨strValues l, ⟨_, S.gin _ _ h0, rfl, k, rfl⟩, by simp [strValues], ?_⟩ (by rw [← h1, ← e1, List.length_map (as := l.map (·.1))]) ?_ h2 (by rw [e1]; exact ho) (trD_ok hl3 _ ho) fun y t' tk hy => P.tok S (.str _ _ _ hy (trD_ok hl3 _ ho)) _
  · intro i y hy
    simp only [List.getElem?_map, Option.map_eq_some_iff] at hy
    obtain ⟨p, hp, rfl⟩ := hy
    exact ⟨p.2, by simp [strValues, hp]⟩
  · exact fun y hy => h3 _ (e1 ▸ List.mem_map_of_mem hy)
theorem eGet {ks : List (List Nat)} {vs : List D} {x : List Nat} {dd : D} : MethD (Str.ofString "get") (.dict ks vs) [.str x, dd] ((lookK x ks vs).getD dd) := by
  refine ⟨"dict", "dict.get", F.plainAttrs_dict, F.slot_dict_get, F.type_dict_get, fun X => ⟨self_dict _ _, ?_⟩⟩
  intro g am σ s v ws A m Q R S rv rs P
  cases rs with | cons r rs => cases rs with | cons r2 rs => cases rs with | nil =>
  obtain ⟨y, t, rfl, hy, ky⟩ := rep_str r
  subst hy
  obtain ⟨a, o, ks', vs', rfl, h0, h1, h2, h3, h4, rs⟩ := rep_dict rv
  · have hm := h2 _ (S.gin _ _ h1)
    refine call_meetsIn F.slot_dict_get hm.typeIs F.entry_dict_get (F.args_dict_get_3 _ _ _) (meets_dict_get_default (PySem.strKind X.prog X.w) a strKind_is h0 _) ⟨_, hm.mapOf, ?_⟩
    cases hl : lookK y.cps.toList ks vs with
    | some r =>
      obtain ⟨v', e1, e2⟩ := valueAt_zip _ _ _ _ _ _ h3 h4 rs hl
      rw [e1]
      rw [hl] at P
      exact P.tok S e2 _
    | none =>
      rw [valueAt_none _ _ _ _ _ h3 h4 rs hl]
      rw [hl] at P
      exact P.tok S r2 _
end
end
section
theorem look_kdOf (x : Str) : ∀ names : List (Str × NameKind), look (nm x) (kdOf names) = names.lookup x
  | [] => rfl
  | (n, k) :: r => by
    have ih := look_kdOf x r
    unfold kdOf at ih ⊢
    simp only [List.map_cons, look, List.lookup_cons]
    by_cases h : nm n = nm x
    · have := nm_inj h
      subst this
      simp
    · have h2 : (x == n) = false := by
        cases q : x == n with
        | false => rfl
        | true => exact absurd (congrArg nm (eq_of_beq q)).symm h
      rw [if_neg h, h2]
      exact ih

theorem dist_mem : ∀ {names : List (Str × NameKind)}, dist names = true → ∀ {x : Str} {k : NameKind}, (x, k) ∈ names → names.lookup x = some k
  | p :: r, h, x, k, hm => by
    unfold dist at h
    rw [Bool.and_eq_true] at h
    rw [List.lookup_cons]
    rcases List.mem_cons.mp hm with e | hm
    · subst e; simp
    · have := List.all_eq_true.mp h.1 _ hm
      have hne : (x == p.1) = false := by
        cases q : x == p.1 with
        | false => rfl
        | true => rw [eq_of_beq q] at this; simp at this
      rw [hne]
      exact dist_mem h.2 hm
theorem lookup_mem {α : Type} : ∀ {l : List (Str × α)} {n : Str} {c : α}, l.lookup n = some c → (n, c) ∈ l := fun h => PySem.mem_of_lookup h

theorem cells_old : ∀ (names : List (Str × NameKind)) (n : Nat) (acc : List (Str × Addr)) (x : Str), (∀ p ∈ names, p.1 = x → p.2 ≠ .cell) → (cellsFrom n names acc).lookup x = acc.lookup x
  | [], n, acc, x, _ => rfl
  | (y, k) :: r, n, acc, x, h => by
    unfold cellsFrom
    split
    · rename_i hk
      rw [cells_old r _ _ x fun p hp => h p (List.mem_cons_of_mem _ hp), List.lookup_cons]
      have hne : (x == y) = false := by
        cases q : x == y with
        | false => rfl
        | true => exact absurd (eq_of_beq hk) (h _ (List.mem_cons_self ..) (eq_of_beq q).symm)
      rw [hne]
    · exact cells_old r _ _ x fun p hp => h p (List.mem_cons_of_mem _ hp)
theorem cells_new : ∀ (names : List (Str × NameKind)) (h : Heap) (acc : List (Str × Addr)), dist names = true →
    (∀ x, (x, NameKind.cell) ∈ names → ∃ c, (cellsFrom h.objs.size names acc).lookup x = some c ∧ h.objs.size ≤ c ∧ (pushCells h names).IsCell c none) ∧
    (∀ x y c, (x, NameKind.cell) ∈ names → (y, NameKind.cell) ∈ names → (cellsFrom h.objs.size names acc).lookup x = some c → (cellsFrom h.objs.size names acc).lookup y = some c → x = y)
  | [], h, acc, _ => ⟨fun x hx => (nomatch hx), fun x y c hx => (nomatch hx)⟩
  | (z, k) :: r, h, acc, hd => by
    unfold dist at hd
    rw [Bool.and_eq_true] at hd
    have hz : ∀ p ∈ r, p.1 = z → p.2 ≠ .cell := fun p hp e => by
      have := List.all_eq_true.mp hd.1 _ hp
      rw [e] at this; simp at this
    unfold cellsFrom pushCells
    split
    · rename_i hk
      have ih := cells_new r (h.push { cls := .type "cell", data := .cell none }) ((z, h.objs.size) :: acc) hd.2
      rw [Heap.size_push] at ih
      have hzl : (cellsFrom (h.objs.size + 1) r ((z, h.objs.size) :: acc)).lookup z = some h.objs.size := by
        rw [cells_old r _ _ z hz]; simp
      refine ⟨fun x hx => ?_, fun x y c hx hy h1 h2 => ?_⟩
      · rcases List.mem_cons.mp hx with e | hx
        · cases e
          exact ⟨_, hzl, Nat.le_refl _, ⟨_, pushCells_keeps _ _ _ _ (Heap.get?_push_size _ rfl), rfl⟩⟩
        · obtain ⟨c, e1, e2, e3⟩ := ih.1 x hx
          exact ⟨c, e1, Nat.le_of_succ_le e2, e3⟩
      · rcases List.mem_cons.mp hx with e | hx2
        · cases e
          rcases List.mem_cons.mp hy with e | hy2
          · cases e; rfl
          · obtain ⟨c', e1, e2, e3⟩ := ih.1 y hy2
            rw [hzl] at h1; rw [e1] at h2
            cases h1; cases h2
            lia
        · rcases List.mem_cons.mp hy with e | hy2
          · cases e
            obtain ⟨c', e1, e2, e3⟩ := ih.1 x hx2
            rw [hzl] at h2; rw [e1] at h1
            cases h1; cases h2
            lia
          · exact ih.2 x y c hx2 hy2 h1 h2
    · rename_i hk
      have ih := cells_new r h acc hd.2
      have hk' : k ≠ .cell := fun e => hk (by rw [e]; rfl)
      refine ⟨fun x hx => ?_, fun x y c hx hy => ih.2 x y c ?_ ?_⟩
      · rcases List.mem_cons.mp hx with e | hx
        · cases e; exact absurd rfl hk'
        · exact ih.1 x hx
      · rcases List.mem_cons.mp hx with e | hx
        · cases e; exact absurd rfl hk'
        · exact hx
      · rcases List.mem_cons.mp hy with e | hy
        · cases e; exact absurd rfl hk'
        · exact hy
theorem pushCells_size : ∀ (names : List (Str × NameKind)) (h : Heap), h.objs.size ≤ (pushCells h names).objs.size
  | [], h => Nat.le_refl _
  | (_, k) :: r, h => by
    unfold pushCells
    split
    · have := pushCells_size r (h.push { cls := .type "cell", data := .cell none })
      rw [Heap.size_push] at this; lia
    · exact pushCells_size r h

section
variable {X : Cx} {g : G} {am : List Addr} {σ : Store} {s : Shared} {M : Model} {A : Around}

theorem scOk_parts {sc : Scope} {ei : EI} (h : scOk sc ei = true) : sc.kind = .function ∧ dist sc.names = true ∧ look (nm "__debug__") (kdOf sc.names) = none ∧ look (nm "__classdict__") (kdOf sc.names) = none ∧
    ∀ x, look (nm x) (kdOf sc.names) = some .free → inCells ei (nm x) = true := by
  unfold scOk at h
  simp only [Bool.and_eq_true] at h
  have key : ∀ y : Str, (∀ p ∈ sc.names, (nm p.1 != nm y) = true) → look (nm y) (kdOf sc.names) = none := by
    intro y hy
    rw [look_kdOf]
    cases e : sc.names.lookup y with
    | none => rfl
    | some k =>
      have := hy _ (lookup_mem e)
      simp at this
  refine ⟨?_, h.1.2, key _ fun p hp => ?_, key _ fun p hp => ?_, fun x hx => ?_⟩
  · have := h.1.1
    cases hk : sc.kind <;> rw [hk] at this <;> first | rfl | (simp [isFn] at this)
  · have := List.all_eq_true.mp h.2 _ hp
    simp only [Bool.and_eq_true] at this
    exact this.1.1
  · have := List.all_eq_true.mp h.2 _ hp
    simp only [Bool.and_eq_true] at this
    exact this.1.2
  · rw [look_kdOf] at hx
    have := List.all_eq_true.mp h.2 _ (lookup_mem hx)
    simp only [Bool.and_eq_true, Bool.or_eq_true] at this
    rcases this.2 with h1 | h1
    · simp [isFree] at h1
    · exact h1

/- a closure's cells hold what is said -/
noncomputable def ClosOk (X : Cx) (g : G) (am : List Addr) (h : Heap) (kd : List (Nat × NameKind)) (cl : List (Str × Addr)) (ρ : VarsN) : Prop :=
  ∀ x, look (nm x) kd = some .free → ∃ c, cl.lookup x = some c ∧ c ∉ am ∧ ¬ X.isTab c ∧ ∃ ov, h.IsCell c ov ∧ ∀ d, look (nm x) ρ = some d → ∃ v, ov = some v ∧ Rep X g am v d

theorem new_env (S : St X g am σ s.heap) {sc : Scope} {ei₀ ei : EI} (hsc : scOk sc ei₀ = true) (hkd : ei.kd = kdOf sc.names) (hsl : ei.sl = []) {cl : List (Str × Addr)} {ρ : VarsN}
    (hcl : ClosOk X g am s.heap ei.kd cl ρ) (hρ : ∀ x d, look (nm x) ρ = some d → look (nm x) ei.kd = some .free)
    {globals : Addr} {qual : Str} {func : Option Addr} {code : Value} {around : Option Env} {builtins : Addr} {binds : List (Str × Value)} {Q : Env → Shared → Prop} {E : Value → Shared → Prop}
    (h : ∀ s' (cells : List (Str × Addr)), s'.toks = s.toks → (∀ x, look (nm x) ei.kd = some .free → cells.lookup x = cl.lookup x) → Stp (Wx X am) g am s g am s' → St X g am σ s'.heap → (∀ x c, look (nm x) ei.kd = some .cell → cells.lookup x = some c → s.heap.objs.size ≤ c) →
      (∀ env : Env, env.scope.kind = .function → env.globals = mainGlobals → env.builtins = builtinsNs → ei.qual = env.qual → env.locals = s.heap.objs.size → env.cells = cells →
        (∀ x k, look (nm x) ei.kd = some k → env.kindOf x = some k ∨ (k = .free ∧ env.kindOf x = some .cell)) → (∀ p, ei.tab = some p → ∃ c P, env.code = .ref c ∧ (c, P, p.1, p.2.1, p.2.2) ∈ X.tabs) →
        Frm X g am ei env ρ s'.heap) →
      wpAny M A (do for (name, v) in binds do storeName (newEnv sc s.heap.objs.size globals cells qual func code around builtins) name v
                    return newEnv sc s.heap.objs.size globals cells qual func code around builtins) Q E s') :
    wpAny M A (newFunctionEnv sc globals cl binds qual func code around builtins) Q E s := by
  obtain ⟨hk, hd, hdbg, hcd, hfree⟩ := scOk_parts hsc
  have sz1 : (s.heap.push { cls := .type (if around.isSome then "dict" else "frame"), data := .dict #[] }).objs.size = s.heap.objs.size + 1 := Heap.size_push ..
  have keep : ∀ b o, s.heap.get? b = some o → (pushCells (s.heap.push { cls := .type (if around.isSome then "dict" else "frame"), data := .dict #[] }) sc.names).get? b = some o :=
    fun b o e => pushCells_keeps _ _ b o (Heap.get?_push_of_some _ e)
  have hsz : s.heap.objs.size + 1 ≤ (pushCells (s.heap.push { cls := .type (if around.isSome then "dict" else "frame"), data := .dict #[] }) sc.names).objs.size := by
    have := pushCells_size sc.names (s.heap.push { cls := .type (if around.isSome then "dict" else "frame"), data := .dict #[] })
    rw [sz1] at this; exact this
  obtain ⟨hn1, hn2⟩ := cells_new sc.names (s.heap.push { cls := .type (if around.isSome then "dict" else "frame"), data := .dict #[] }) cl hd
  rw [sz1] at hn1 hn2
  have key := h { s with heap := pushCells (s.heap.push { cls := .type (if around.isSome then "dict" else "frame"), data := .dict #[] }) sc.names } (cellsFrom (s.heap.objs.size + 1) sc.names cl) rfl
    (fun x hx => cells_old _ _ _ _ fun p hp he hc => by
      rw [hkd, look_kdOf] at hx
      have := dist_mem hd (x := p.1) (k := p.2) hp
      rw [he, hx, hc] at this; cases this)
    ⟨⟨_, _, rfl⟩, fun a o _ e => keep a o e, fun _ _ => rfl, ⟨[], by simp⟩, Nat.le_of_succ_le hsz⟩
    ⟨fun a o e => keep a o (S.gin a o e), S.base, S.tabg, fun t ht => by
        obtain ⟨ps, e, r⟩ := S.tab t ht
        exact ⟨ps, keep _ _ e, r⟩, S.amg, S.amt, S.nodup, S.len, fun i a so e1 e2 => (S.so i a so e1 e2).at (G.Le.refl g) (fun _ _ e => e) fun o e => keep a o e⟩
    (fun x c hx hc => by
      rw [hkd, look_kdOf] at hx
      obtain ⟨c', e1, e2, _⟩ := hn1 x (lookup_mem hx)
      rw [e1] at hc; cases hc; lia) ?_
  · cases around with
    | none =>
      simp only [newFunctionEnv, Option.isSome_none, Bool.false_eq_true, if_false]
      refine wpAny_bind (wpAny_alloc ?_)
      refine wpAny_bind (wpAny_layCells _ (fun name kind cells => by cases hkc : kind == NameKind.cell <;> simp [hkc]) _ _ _ _ ?_)
      simp only [sz1, Option.isSome_none, Bool.false_eq_true, if_false] at key ⊢
      have e : (s.heap.push { cls := .type "frame", data := .dict #[] }).objs.size = s.heap.objs.size + 1 := Heap.size_push ..
      rw [e]
      exact key
    | some outer =>
      simp only [newFunctionEnv, Option.isSome_some, if_true]
      refine wpAny_bind (wpAny_alloc ?_)
      refine wpAny_bind (wpAny_layCells _ (fun name kind cells => by cases hkc : kind == NameKind.cell <;> simp [hkc]) _ _ _ _ ?_)
      simp only [sz1, Option.isSome_some, if_true] at key ⊢
      have e : (s.heap.push { cls := .type "dict", data := .dict #[] }).objs.size = s.heap.objs.size + 1 := Heap.size_push ..
      rw [e]
      exact key
  · intro env e1 e2 e3 e4 e5 e6 e7 e8
    have fresh : ∀ a, s.heap.objs.size ≤ a → g a = none := fun a ha => by
      cases q : g a with
      | none => rfl
      | some o => exact absurd (Heap.lt_size (S.gin a o q)) (Nat.not_lt.mpr ha)
    have fresham : ∀ a, s.heap.objs.size ≤ a → a ∉ am := fun a ha hm => absurd (S.amlt hm) (Nat.not_lt.mpr ha)
    have freshtab : ∀ a, s.heap.objs.size ≤ a → ¬ X.isTab a := fun a ha ⟨t, ht, q⟩ => absurd (q ▸ S.tablt ht) (Nat.not_lt.mpr ha)
    refine ⟨e1, e2, e3, e4, e7, by rw [hkd]; exact hdbg, by rw [hkd]; exact hcd, ⟨fun _ => none, ?_, fun x d q1 q2 => ?_⟩, fun x hx => ?_, fun x y c hx hy q1 q2 => ?_, ?_, ?_, ?_, e8⟩
    · rw [e5]
      exact (Heap.Ns.new s.heap _).keeps (pushCells_keeps _ _)
    · rw [hρ x d q2] at q1; cases q1
    · rcases hx with hx | hx
      · rw [hkd, look_kdOf] at hx
        obtain ⟨c, q1, q2, q3⟩ := hn1 x (lookup_mem hx)
        refine ⟨c, by rw [e6]; exact q1, fresham c (Nat.le_of_succ_le q2), freshtab c (Nat.le_of_succ_le q2), by rw [e5]; exact Nat.ne_of_gt q2, fun _ _ => fresh c (Nat.le_of_succ_le q2), fun q => (by rw [hsl] at q; simp at q), none, q3, fun d hd => ?_⟩
        have := hρ x d hd
        rw [hkd, look_kdOf, hx] at this; cases this
      · obtain ⟨c, q1, q2, q3, ov, q4, q5⟩ := hcl x hx
        have hlt := q4.lt
        refine ⟨c, ?_, q2, q3, by rw [e5]; exact Nat.ne_of_lt hlt, fun q => (by rw [hx] at q; cases q), fun q => (by rw [hsl] at q; simp at q), ov, q4.keeps keep, q5⟩
        rw [e6, cells_old, q1]
        intro p hp he hc
        rw [hkd, look_kdOf] at hx
        have := dist_mem hd (x := p.1) (k := p.2) hp
        rw [he, hx, hc] at this; cases this
    · rw [hkd, look_kdOf] at hx
      rw [e6] at q1 q2
      rcases hy with hy | hy
      · rw [hkd, look_kdOf] at hy
        exact hn2 x y c (lookup_mem hx) (lookup_mem hy) q1 q2
      · obtain ⟨c', r1, r2, r3, ov, r4, r5⟩ := hcl y hy
        have hlt := r4.lt
        obtain ⟨c2, p1, p2, _⟩ := hn1 x (lookup_mem hx)
        rw [cells_old] at q2
        · rw [r1] at q2; rw [p1] at q1
          cases q1; cases q2
          exact absurd hlt (Nat.not_lt.mpr (Nat.le_of_succ_le p2))
        · intro p hp he hc
          rw [hkd, look_kdOf] at hy
          have := dist_mem hd (x := p.1) (k := p.2) hp
          rw [he, hy, hc] at this; cases this
    · rw [e5]; exact fresh _ (Nat.le_refl _)
    · rw [e5]; exact fresham _ (Nat.le_refl _)
    · rw [e5]; exact freshtab _ (Nat.le_refl _)
end
end
section
section
variable {X : Cx} {g : G} {am : List Addr} {σ : Store} {M : Model} {A : Around} {E : Value → Shared → Prop} {env : Env}

theorem Stp.ws {W : Addr → Prop} {ei : EI} {g' am' s s'} (x : Stp W g am s g' am' s') : ∀ a, a < s.heap.objs.size → Ws X am' ei env a → Ws X am ei env a := fun a ha hw => by
  rcases hw with hw | hw
  · exact .inl (x.wx a ha hw)
  · exact .inr hw

theorem binds_ok {ei : EI} (hsl : ei.sl = []) {Q : PUnit → Shared → Prop} (f : Str × Value → PUnit → Sem (ForInStep PUnit)) (hf : ∀ n v u, f (n, v) u = (do storeName env n v; pure (.yield ⟨⟩))) :
    ∀ (xs : List (Str × Value)) (ds : List D) (ρ ρ' : VarsN) (s : Shared), Reps X g am (xs.map (·.2)) ds → bindAll ei (xs.map fun p => nm p.1) ds ρ = some ρ' → St X g am σ s.heap → Frm X g am ei env ρ s.heap →
    (∀ s', Stp (Ws X am ei env) g am s g am s' → St X g am σ s'.heap → Frm X g am ei env ρ' s'.heap → Q ⟨⟩ s') → wpAny M A (forIn xs ⟨⟩ f) Q E s
  | [], ds, ρ, ρ', s, r, h, S, F, hQ => by
    cases r
    simp only [List.map_nil, bindAll] at h
    cases h
    rw [List.forIn_nil]
    exact wpAny_pure (hQ s .refl S F)
  | (n, v) :: xs, ds, ρ, ρ', s, r, h, S, F, hQ => by
    cases r with
    | cons r rs =>
      simp only [List.map_cons, bindAll] at h
      split at h
      · rename_i ρ₁ h1
        have : ({ ei with sl := [] } : EI) = ei := by rw [← hsl]
        rw [this] at h1
        rw [List.forIn_cons, hf]
        refine wpAny_bind (wpAny_bind (store_ok S F h1 r fun s₁ x₁ S₁ F₁ => wpAny_pure ?_))
        refine binds_ok hsl f hf xs _ ρ₁ ρ' s₁ rs h S₁ F₁ fun s₂ x₂ S₂ F₂ => ?_
        exact hQ s₂ (x₁.trans x₂ x₁.ws) S₂ F₂
      · cases h

/- the closed-over cells are sealed -/
theorem seal_ok {ei : EI} {ρ : VarsN} {s : Shared} {z : Nat} (S : St X g am σ s.heap) (F : Frm X g am { ei with sl := [] } env ρ s.heap) (hz : z ≤ s.heap.objs.size)
    (hl : ∀ x, ei.sl.contains (nm x) = true → (look (nm x) ρ).isSome = true ∧ look (nm x) ei.kd = some .cell) (hc : ∀ x c, look (nm x) ei.kd = some .cell → env.cells.lookup x = some c → z ≤ c) :
    ∃ g', (∀ a, a < z → g' a = g a) ∧ G.Le g g' ∧ St X g' am σ s.heap ∧ Frm X g' am ei env ρ s.heap := by
  let P : Addr → Prop := fun a => ∃ x, ei.sl.contains (nm x) = true ∧ env.cells.lookup x = some a
  have hP : ∀ a, P a → z ≤ a ∧ g a = none ∧ a ∉ am ∧ ¬ X.isTab a ∧ a ≠ env.locals := by
    rintro a ⟨x, h1, h2⟩
    obtain ⟨_, hk⟩ := hl x h1
    obtain ⟨c, e1, e2, e3, e4, e5, _⟩ := F.cells x (.inl hk)
    rw [h2] at e1; cases e1
    exact ⟨hc x a hk h2, e5 hk rfl, e2, e3, e4⟩
  classical
  refine ⟨fun a => if P a then s.heap.get? a else g a, fun a ha => ?_, fun a o e => ?_, ?_, ?_⟩
  · show (if P a then _ else _) = _
    rw [if_neg fun h => absurd (hP a h).1 (Nat.not_le.mpr ha)]
  · show (if P a then _ else _) = _
    rw [if_neg fun h => (by rw [(hP a h).2.1] at e; cases e)]; exact e
  · refine ⟨fun a o e => ?_, fun a o e => ?_, fun t ht => ?_, fun t ht => ?_, fun a ha => ?_, S.amt, S.nodup, S.len, fun i a so e1 e2 => (S.so i a so e1 e2).at (fun a o e => ?_) (fun _ _ e => e) fun _ e => e⟩
    · change (if P a then s.heap.get? a else g a) = some o at e
      split at e
      · exact e
      · exact S.gin a o e
    · show (if P a then _ else _) = _
      rw [if_neg fun h => (by have := (hP a h).2.1; rw [S.base a o e] at this; cases this)]; exact S.base a o e
    · show (if P _ then _ else _) = _
      rw [if_neg fun h => (hP _ h).2.2.2.1 ⟨t, ht, rfl⟩]; exact S.tabg t ht
    · obtain ⟨ps, e, r⟩ := S.tab t ht
      refine ⟨ps, e, r.imp id fun ⟨c', h2, h3⟩ => ⟨c', h2, h3.mono fun a o e => ?_⟩⟩
      show (if P a then _ else _) = _
      rw [if_neg fun h => (by rw [(hP a h).2.1] at e; cases e)]; exact e
    · show (if P _ then _ else _) = _
      rw [if_neg fun h => (hP _ h).2.2.1 ha]; exact S.amg a ha
    · show (if P a then _ else _) = _
      rw [if_neg fun h => (by rw [(hP a h).2.1] at e; cases e)]; exact e
  · have le : G.Le g (fun a => if P a then s.heap.get? a else g a) := fun a o e => by
      show (if P a then _ else _) = _
      rw [if_neg fun h => (by rw [(hP a h).2.1] at e; cases e)]; exact e
    obtain ⟨m, hn, hm⟩ := F.ns
    refine ⟨F.kind, F.glob, F.blt, F.qual, F.kd, F.nodbg, F.nocd, ⟨m, hn, fun x d h1 h2 => ?_⟩, fun x hx => ?_, F.apart, ?_, F.Lam, F.Lt, F.tab⟩
    · obtain ⟨v, e, r⟩ := hm x d h1 h2
      exact ⟨v, e, r.mono le fun _ _ e => e⟩
    · obtain ⟨c, h1, h2, h3, h4, h5, h6, ov, h7, h8⟩ := F.cells x hx
      refine ⟨c, h1, h2, h3, h4, fun q1 q2 => ?_, fun q => ?_, ov, h7, fun d hd => ?_⟩
      · show (if P c then _ else _) = _
        rw [if_neg]
        · exact h5 q1 rfl
        · rintro ⟨y, p1, p2⟩
          have := F.apart x y c q1 (.inl (hl y p1).2) h1 p2
          subst this
          rw [q2] at p1; cases p1
      · obtain ⟨q1, q2⟩ := hl x q
        obtain ⟨d, hd⟩ := Option.isSome_iff_exists.mp q1
        obtain ⟨v, rfl, r⟩ := h8 d hd
        obtain ⟨o, e1, e2⟩ := h7
        refine ⟨o, v, d, ?_, e2, hd, r.mono le fun _ _ e => e⟩
        show (if P c then _ else _) = _
        rw [if_pos ⟨x, q, h1⟩]; exact e1
      · obtain ⟨v, e, r⟩ := h8 d hd
        exact ⟨v, e, r.mono le fun _ _ e => e⟩
    · show (if P _ then _ else _) = _
      rw [if_neg fun h => (hP _ h).2.2.2.2 rfl]; exact F.Lg
end
end
section
/- an iterator over known things -/
structure Turns (X : Cx) (A : Around) (t : Expr) (I : Addr) (fp wr : List Addr) (ds : List D) (g₀ : G) (am₀ : List Addr) (St' : Nat → Heap → Prop) : Prop where
  sub : ∀ b ∈ wr, b ∈ fp
  frame : ∀ i h h', St' i h → (∀ b ∈ fp, ∀ o, h.get? b = some o → h'.get? b = some o) → St' i h'
  item : ∀ i d (s : Shared) (Q : Option Value → Shared → Prop), ds[i]? = some d → St' i s.heap →
    (∀ v s₁, wpAny (model X.prog X.w) A (letOwnedTupleGo t (.ref I) v) (fun _ s₂ => (∃ h' tk, s₂ = { s with heap := h', toks := tk } ∧ St' (i + 1) h' ∧ (∀ b o, b ∉ wr → s.heap.get? b = some o → h'.get? b = some o) ∧
      ((∀ g am, G.Le g₀ g → (∀ (n : Nat) a, am₀[n]? = some a → am[n]? = some a) → Rep X g am v d) ∨
       (∃ T o, s.heap.objs.size ≤ T ∧ T ∉ wr ∧ h'.get? T = some o ∧ ∀ g am, G.Le g₀ g → (∀ (n : Nat) a, am₀[n]? = some a → am[n]? = some a) → g T = some o → Rep X g am v d)))) NEx s₁ → Q (some v) s₁) →
    wpAny (model X.prog X.w) A (pyNext (.ref I)) Q NEx s
  done : ∀ (s : Shared) (Q : Option Value → Shared → Prop), St' ds.length s.heap →
    (∀ h' tk, (∀ b o, b ∉ wr → s.heap.get? b = some o → h'.get? b = some o) → Q none { s with heap := h', toks := tk }) → wpAny (model X.prog X.w) A (pyNext (.ref I)) Q NEx s
  self : ∀ i (s : Shared) (Q : Value → Shared → Prop), St' i s.heap → Q (.ref I) s → wpAny (model X.prog X.w) A (pyIter (.ref I)) Q NEx s

noncomputable def PostF (X : Cx) (ei : EI) (env : Env) (ρ' : VarsN) (σ' : Store) (g : G) (am : List Addr) (s : Shared) (Q : Unit → Shared → Prop) : Prop :=
  ∀ g' am' s', Stp (Ws X am ei env) g am s g' am' s' → St X g' am' σ' s'.heap → Frm X g' am' ei env ρ' s'.heap → Q () s'
/- how a statement ends -/
noncomputable def FloOk (X : Cx) (g : G) (am : List Addr) : Flow → Flo → Prop
  | .next, .next => True
  | .brk, .brk => True
  | .cont, .cont => True
  | .ret v, .ret d => Rep X g am v d
  | _, _ => False
noncomputable def PostX (X : Cx) (ei : EI) (env : Env) (f : Flo) (ρ' : VarsN) (σ' : Store) (g : G) (am : List Addr) (s : Shared) (Q : Flow → Shared → Prop) : Prop :=
  ∀ fl g' am' s', Stp (Ws X am ei env) g am s g' am' s' → St X g' am' σ' s'.heap → Frm X g' am' ei env ρ' s'.heap → FloOk X g' am' fl f → Q fl s'
end
section
/- a function's object is what the evaluator takes it for -/
structure FnAt (X : Cx) (a : Addr) (fi : FnI) (fd : FuncData) : Prop where
  obj : ∃ o, X.h₀.get? a = some o ∧ o.data = .func fd
  body : fd.body = .stmts fi.body
  glob : fd.globals = mainGlobals
  blt : fd.builtins = builtinsNs
  clos : fd.closure = []
  co : fd.scope.isCoroutine = false
  gen : fd.scope.isGenerator = false
  sc : scOk fd.scope ⟨[], Str.empty, none, [], []⟩ = true
  kd : fi.ei.kd = kdOf fd.scope.names
  qual : fi.ei.qual = fd.qualname ++ ".<locals>."
  code : X.h₀.CodeRec fd.code fd.qualname
  tab : ∀ p, fi.ei.tab = some p → ∃ c P, fd.code = .ref c ∧ (c, P, p.1, p.2.1, p.2.2) ∈ X.tabs
  binds : ∀ vs : List Value, fi.ar.contains vs.length = true → ∃ (xs : List (Str × Value)) (dv : List Value),
    (∀ s : Shared, (∀ a o, X.h₀.get? a = some o → s.heap.get? a = some o) → BindsTo s fd ⟨vs, []⟩ xs) ∧ xs.map (fun p => nm p.1) = fi.params ∧ xs.map (·.2) = vs ++ dv ∧
    Reps X X.h₀.get? [] dv (fi.dflts.drop (vs.length + fi.dflts.length - fi.params.length)) ∧ D.pures (fi.dflts.drop (vs.length + fi.dflts.length - fi.params.length)) = true

structure KOk (K : Frag) (X : Cx) (C : Ctx) : Prop where
  kin : K.In X.h₀
  nolim : X.h₀.NoLimit
  fn : ∀ a fi, C.fn a = some fi → ∃ fd, FnAt X a fi fd
  meth : ∀ c k, C.cls c = some k → ∀ x a, look (nm x) k.meths = some a → plainGet K c x = true ∧ findIn K (.ref c) x = some (some (.ref a)) ∧ typeIn K (.ref a) = some (.type "function")
  fld : ∀ c k, C.cls c = some k → ∀ x, k.flds.contains (nm x) = true → ∃ attr, plainGet K c x = true ∧ hasDictIn K c = true ∧ findIn K (.ref c) x = some attr ∧ noGet K attr = true
  catt : ∀ c k, C.cls c = some k → ∀ x d, look (nm x) k.attrs = some d → ∃ mc v, readsIn K c mc = true ∧ findCls K (.ref c) mc x = some (.val v) ∧ handedIn v = true ∧ Rep X X.h₀.get? [] v d ∧ d.pure = true
  keep : ∀ c k, C.cls c = some k → keepIn K (.ref c) = true
  sets : ∀ c k, C.cls c = some k → findIn K (.ref c) "__setattr__" = some (some (.builtin "object.__setattr__")) ∧ plainOver K c = true ∧ hasDictIn K c = true
  taker : ∀ c k, C.cls c = some k → ∀ x, k.sets.contains (nm x) = true → takerIn K c x = some none
  make : ∀ c k, C.cls c = some k → makesIn K c = true ∧ findIn K (.ref c) "__init__" = some (some (.ref k.init)) ∧ typeIn K (.ref k.init) = some (.type "function")

section
variable {K : Frag} {X : Cx} {C : Ctx} {g : G} {am : List Addr} {σ : Store} {s : Shared} {A : Around} {Q : Value → Shared → Prop} {n : Nat}

theorem St.old (S : St X g am σ s.heap) : ∀ a o, X.h₀.get? a = some o → s.heap.get? a = some o := fun a o e => S.gin a o (S.base a o e)
theorem KOk.at (H : KOk K X C) (S : St X g am σ s.heap) : K.In s.heap := fun a o e => S.old a o (H.kin a o e)

theorem look_ns {o : Obj} {es : Array DictEntry} {ep : Nat} {m : Str → Option Value} (hd : o.data = .dict es ep) (hk : StrKeys es) (hm : ∀ name, nsFind es name = m name) (x : Str) : lookIn x o = some (m x) := by
  unfold lookIn
  rw [hd]
  have e := hm x
  unfold nsFind findBy at e
  rw [← Array.find?_toList] at e
  dsimp only
  split
  · rename_i en he
    rw [he] at e
    simp at e
    rw [e]
  · rename_i he
    rw [he] at e
    simp at e
    have : es.toList.any (·.refKey) = false := by
      rw [List.any_eq_false]
      intro en hen
      obtain ⟨a, t, ha⟩ := hk en (by simpa using hen)
      unfold DictEntry.refKey
      rw [ha]; simp
    rw [this]
    simp [e]
theorem lookA_v : ∀ {ns : List Str} {vs : List Value} {ds : List D} {x : Str} {d : D}, ns.length = vs.length → Reps X g am vs ds → lookA (nm x) ns ds = some d → ∃ v, lookV ns vs x = some v ∧ Rep X g am v d
  | [], _, _, x, d, _, _, h => by simp [lookA] at h
  | a :: ns, [], _, x, d, hl, _, _ => by simp at hl
  | a :: ns, v :: vs, _, x, d, hl, .cons (d := d') (ds := ds) r rs, h => by
    simp only [lookA] at h
    by_cases q : nm a = nm x
    · rw [if_pos q] at h; cases h
      have := nm_inj q
      subst this
      exact ⟨v, by simp [lookV], r⟩
    · rw [if_neg q] at h
      obtain ⟨v', e, r'⟩ := lookA_v (by simpa using hl) rs h
      refine ⟨v', ?_, r'⟩
      have h2 : (x == a) = false := by
        cases z : x == a with
        | false => rfl
        | true => exact absurd (congrArg nm (eq_of_beq z)).symm q
      simpa [lookV, List.lookup_cons, h2] using e
theorem lookA_n : ∀ {ns : List Str} {vs : List Value} {ds : List D} {x : Str}, ns.length = vs.length → Reps X g am vs ds → lookA (nm x) ns ds = none → lookV ns vs x = none
  | [], _, _, x, _, _, h => by simp [lookV]
  | a :: ns, [], _, x, hl, _, _ => by simp at hl
  | a :: ns, v :: vs, _, x, hl, .cons (d := d') (ds := ds) r rs, h => by
    simp only [lookA] at h
    by_cases q : nm a = nm x
    · rw [if_pos q] at h; cases h
    · rw [if_neg q] at h
      have e := lookA_n (by simpa using hl) rs h
      have h2 : (x == a) = false := by
        cases z : x == a with
        | false => rfl
        | true => exact absurd (congrArg nm (eq_of_beq z)).symm q
      simpa [lookV, List.lookup_cons, h2] using e

theorem handAt_ok {v : Value} {d : D} (r : Rep X g am v d) (h : handD d = true) : handedIn v = true := by
  cases r with
  | old v => cases v <;> first | rfl | cases h
  | bi b => cases h
  | _ => rfl

/- an attribute of a thing -/
theorem attr_ok (H : KOk K X C) (S : St X g am σ s.heap) {d r : D} {a : Str} {v : Value} (e : attrD C σ d a = some r) (rv : Rep X g am v d) (P : Post X σ r g am s Q) :
    wpAny (model X.prog X.w) A (getAttr v a true) Q NEx s := by
  have own : ∀ {c dx : Addr} {x : Addr} {ns : List Str} {vs : List Value} {ds : List D} {k : ClsI}, C.cls c = some k → k.flds.contains (nm a) = true → s.heap.get? x = some (instObj c dx) → s.heap.Ns dx (lookV ns vs) → ns.length = vs.length → Reps X g am vs ds →
      lookA (nm a) ns ds = some r → handD r = true → wpAny (model X.prog X.w) A (getAttr (.ref x) a true) Q NEx s := by
    intro c dx x ns vs ds k hk hf hx hn hl rs hr hh
    obtain ⟨v', e1, r'⟩ := lookA_v hl rs hr
    obtain ⟨o, es, ep, e2, e3, e4, e5⟩ := hn
    obtain ⟨attr, p1, p2, p3, p4⟩ := H.fld c k hk a hf
    have I : InstAt s.heap x (instObj c dx) c (some o) := ⟨hx, rfl, rfl, e2⟩
    refine get_value (H.at S) I (plainGet_of p1).1 (findObj_own p2 p3 p4 (v := v') (by rw [look_ns e3 e4 e5, e1])) (handAt_ok r' hh) (P.tok S r' _)
  unfold attrD at e
  split at e
  · split at e
    · rename_i k hk
      split at e
      · rename_i hf
        split at e
        · rename_i r' hr
          split at e
          · rename_i hh
            cases e
            cases rv with
            | inst x c dx ns vs ds h1 h2 h3 rs => exact own hk hf (S.gin _ _ h1) (h2.ns S.gin) h3 rs hr hh
          · cases e
        · cases e
      · cases e
    · cases e
  · rename_i c
    split at e
    · rename_i k hk
      obtain ⟨mc, v', p1, p2, p3, p4, p5⟩ := H.catt c k hk a r e
      cases rv
      exact cls_value (H.at S) p1 p2 p3 (P.tok S (p4.free S.base p5) _)
    · cases e
  · rename_i m
    split at e
    · rename_i c m2 hm
      split at e
      · rename_i k ns ds hk hm2
        split at e
        · rename_i hf
          split at e
          · rename_i r' hr
            split at e
            · rename_i hh
              cases e
              obtain ⟨x, rfl, hx⟩ := rep_loc rv
              obtain ⟨dx, e1, e2⟩ := S.so _ _ _ hx hm
              obtain ⟨vs, h2, h3, rs⟩ := S.so _ _ _ e1 hm2
              exact own hk hf e2 h2.ns h3 rs hr hh
            · cases e
          · cases e
        · cases e
      · cases e
    · cases e
  · cases e

/- a method of an instance -/
theorem methF_ok (H : KOk K X C) (S : St X g am σ s.heap) {d f : D} {x : Str} {v : Value} {pl : Sem Bool} {Q : Value × List Value → Shared → Prop} (e : methF C d (nm x) = some f) (rv : Rep X g am v d)
    (h : ∀ w, Rep X g am w f → Q (w, [v]) s) : wpAny (model X.prog X.w) A (getMethod v x pl) Q NEx s := by
  unfold methF at e
  split at e
  · rename_i c ns ds
    split at e
    · rename_i k hk
      split at e
      · rename_i hn
        obtain ⟨a, ha, rfl⟩ := Option.map_eq_some_iff.mp e
        cases rv with
        | inst y _ dx _ vs _ h1 h2 h3 rs =>
          obtain ⟨p1, p2, p3⟩ := H.meth c k hk x a ha
          obtain ⟨o, es, ep, e2, e3, e4, e5⟩ := h2.ns S.gin
          have I : InstAt s.heap y (instObj c dx) c (some o) := ⟨S.gin _ _ h1, rfl, rfl, e2⟩
          refine method_fn (H.at S) I (plainGet_of p1).1 (plainGet_of p1).2 p2 p3 ?_ (h _ (.old _))
          show (lookIn x o).map (·.isSome) = some false
          rw [look_ns e3 e4 e5, lookA_n h3 rs (by simpa using hn)]; rfl
      · cases e
    · cases e
  · cases e
end
end
section
structure TabX (X : Cx) : Prop where
  hd : ∀ t ∈ X.tabs, CodeHd X.h₀ t.1 t.2.1
  one : ∀ t ∈ X.tabs, ∀ t' ∈ X.tabs, t.2.1 = t'.2.1 → t = t'
  bmain : ∃ bm ob, X.mg "__builtins__" = some (.ref bm) ∧ bm ≠ builtinsNs ∧ X.h₀.get? bm = some ob ∧ ob.cls = .type "module" ∧ ob.dict = some builtinsNs ∧ ob.data = .plain
/- all that is known of the program's state -/
structure Good (X : Cx) (C : Ctx) : Prop where
  k : ∃ K, KOk K X C
  o : GlobOk X C
  t : TabX X
/- no star, no set display -/
structure Nice (e : Expr) : Prop where
  star : ∀ es env, starEach (e :: es) env = (false, eval e env) :: starEach es env
  set : ∀ op, behindInMarks op e = false
  fold : ∀ env x, foldedSetIterable e env x = pure x
/- how a judgement runs: the shape that all share -/
noncomputable abbrev Runs1 (C : Ctx) (n : Nat) (ei : EI) (ρ : VarsN) (σ : Store) (P : Cx → Around → Env → G → List Addr → Shared → Prop) : Prop :=
  ∀ X, Good X C → ∀ A env g am s, TK C s.toks → Room n A → St X g am σ s.heap → Frm X g am ei env ρ s.heap → P X A env g am s
structure EvE (C : Ctx) (n : Nat) (ei : EI) (e : Expr) (ρ : VarsN) (σ : Store) (d : D) (σ' : Store) : Prop where
  nice : Nice e
  run : Runs1 C n ei ρ σ fun X A env g am s => ∀ Q, Post X σ' d g am s (TQ C Q) → wpAny (model X.prog X.w) A (eval e env) Q NEx s
structure EvEs (C : Ctx) (n : Nat) (ei : EI) (es : List Expr) (ρ : VarsN) (σ : Store) (ds : List D) (σ' : Store) : Prop where
  len : ds.length = es.length
  plain : ∀ env pos, (backTo pos (starEach es env)).any (·.1) = false
  nil : es = [] → ds = [] ∧ σ' = σ
  args : ∀ e r, es = e :: r → ∀ env, starEach (e :: r) env = (false, eval e env) :: starEach r env
  run : Runs1 C n ei ρ σ fun X A env g am s => ∀ pos Q, PostL X σ' ds g am s (TQ C Q) → wpAny (model X.prog X.w) A (spliced (backTo pos (starEach es env))) Q NEx s
structure EvT (C : Ctx) (n : Nat) (ei : EI) (e : Expr) (ρ : VarsN) (σ : Store) (b : Bool) (σ' : Store) : Prop where
  run : Runs1 C n ei ρ σ fun X A env g am s => ∀ Q, PostB X σ' b g am s (TQ C Q) → wpAny (model X.prog X.w) A (isTrue e env (eval e env)) Q NEx s
structure EvA (C : Ctx) (n : Nat) (ei : EI) (op : BoolOp) (es : List Expr) (ρ : VarsN) (σ : Store) (b : Bool) (σ' : Store) : Prop where
  run : Runs1 C n ei ρ σ fun X A env g am s => ∀ Q, PostB X σ' b g am s (TQ C Q) → wpAny (model X.prog X.w) A (allTrue op es env) Q NEx s
structure EvIfs (C : Ctx) (n : Nat) (ei : EI) (es : List Expr) (ρ : VarsN) (σ : Store) (b : Bool) (σ' : Store) : Prop where
  run : Runs1 C n ei ρ σ fun X A env g am s => ∀ Q, PostB X σ' b g am s (TQ C Q) → wpAny (model X.prog X.w) A (forIn es true fun c r => if r = true then do let ok ← isTrue c env (eval c env); pure (ForInStep.yield ok) else pure (ForInStep.yield r)) Q NEx s
end
section
section
variable {C : Ctx} {n : Nat} {ei : EI} {ρ : VarsN} {σ σ₁ σ₂ : Store} {p q : Pos} {a b d r : D} {l : List Nat} {ds : List D} {k : Nat}

theorem nice_any {e : Expr} (h1 : ∀ es env, starEach (e :: es) env = (false, eval e env) :: starEach es env := by intro _ _; rfl) (h2 : ∀ op, behindInMarks op e = false := by intro _; rfl) (h3 : ∀ env x, foldedSetIterable e env x = pure x := by intro _ _; rfl) : Nice e := ⟨h1, h2, h3⟩
theorem rInt {i : Int} : EvE C (n + 1) ei (.Constant (.int i) k p) ρ σ (.int i) σ :=
  ⟨nice_any, fun X W A env g am s ht R S F Q P => wpAny_Constant_int (P.tok S (.int _ _) _ TK.i)⟩
theorem rStr {s : Str} (h : s.cps.toList = l) (h2 : l.all (fun c => decide (c < 1114112)) = true) : EvE C (n + 1) ei (.Constant (.str s) k p) ρ σ (.str l) σ := by
  subst h
  exact ⟨nice_any, fun X W A env g am s ht R S F Q P => wpAny_Constant_str (P.tok S (.str _ _ _ rfl (okS_of_all h2)) _ TK.i)⟩
theorem rName {id : Str} (h : getV ei C.glob (nm id) ρ = some d) : EvE C (n + 1) ei (.Name id p) ρ σ d σ :=
  ⟨nice_any, fun X W A env g am s ht R S F Q P => Name_ok W.o S F h fun v r => P.here S r ht⟩
theorem rBin {x y : Expr} {op : Operator} (h1 : EvE C n ei x ρ σ a σ₁) (h2 : EvE C n ei y ρ σ₁ b σ₂) (h3 : BinD op a b d) : EvE C (n + 1) ei (.BinOp x op y p) ρ σ d σ₂ := by
  refine ⟨nice_any, fun X W A env g am s ht R S F Q P => tpos ht ?_⟩
  generalize TQ C Q = Q at P ⊢
  refine wpAny_BinOp (h1.run X W A env g am s ht (R.less (Nat.le_succ _)) S F _ fun v g₁ am₁ s₁ x₁ S₁ r₁ ht₁ => ?_)
  refine h2.run X W A env g₁ am₁ s₁ ht₁ (R.less (Nat.le_succ _)) S₁ (F.stp S x₁) _ fun w g₂ am₂ s₂ x₂ S₂ r₂ ht₂ => ?_
  exact h3.run (fmt02X X) (listMul1 X) S₂ (r₁.stp x₂ S₁.gin) r₂ (P.trans (x₁.trans x₂ x₁.wx))
theorem rNeg {x : Expr} {i : Int} (h : EvE C n ei x ρ σ (.int i) σ₁) : EvE C (n + 1) ei (.UnaryOp .USub x p) ρ σ (.int (-i)) σ₁ := by
  refine ⟨nice_any, fun X W A env g am s ht R S F Q P => tpos ht ?_⟩
  generalize TQ C Q = Q at P ⊢
  refine wpAny_UnaryOp (h.run X W A env g am s ht (R.less (Nat.le_succ _)) S F _ fun v g₁ am₁ s₁ x₁ S₁ r₁ ht₁ => ?_)
  obtain ⟨t, rfl⟩ := rep_int r₁
  exact PySem.P.neg_int ((P.trans x₁).tok S₁ (.int _ _) _)
theorem rCmp {x y : Expr} {op : CmpOp} {t : Bool} (h1 : EvE C n ei x ρ σ a σ₁) (h2 : EvE C n ei y ρ σ₁ b σ₂) (h3 : CmpD op a b t) : EvE C (n + 1) ei (.Compare x [op] [y] p) ρ σ (.bool t) σ₂ := by
  refine ⟨nice_any, fun X W A env g am s ht R S F Q P => tpos ht ?_⟩
  generalize TQ C Q = Q at P ⊢
  refine wpAny_Compare1 (h1.run X W A env g am s ht (R.less (Nat.le_succ _)) S F _ fun v g₁ am₁ s₁ x₁ S₁ r₁ ht₁ => ?_) (h2.nice.set op)
  refine h2.run X W A env g₁ am₁ s₁ ht₁ (R.less (Nat.le_succ _)) S₁ (F.stp S x₁) _ fun w g₂ am₂ s₂ x₂ S₂ r₂ ht₂ => ?_
  exact h3.run R S₂ (r₁.stp x₂ S₁.gin) r₂ ((P.trans (x₁.trans x₂ x₁.wx)).here S₂ (.bool _))
theorem rIfT {t x y : Expr} (h1 : EvT C n ei t ρ σ true σ₁) (h2 : EvE C n ei x ρ σ₁ d σ₂) : EvE C (n + 1) ei (.IfExp t x y p) ρ σ d σ₂ := by
  refine ⟨nice_any, fun X W A env g am s ht R S F Q P => ?_⟩
  refine wpAny_IfExp (h1.run X W A env g am s ht (R.less (Nat.le_succ _)) S F _ fun g₁ am₁ s₁ x₁ S₁ ht₁ => ?_)
  exact h2.run X W A env g₁ am₁ s₁ ht₁ (R.less (Nat.le_succ _)) S₁ (F.stp S x₁) _ (P.trans x₁)
theorem rIfF {t x y : Expr} (h1 : EvT C n ei t ρ σ false σ₁) (h2 : EvE C n ei y ρ σ₁ d σ₂) : EvE C (n + 1) ei (.IfExp t x y p) ρ σ d σ₂ := by
  refine ⟨nice_any, fun X W A env g am s ht R S F Q P => ?_⟩
  refine wpAny_IfExp (h1.run X W A env g am s ht (R.less (Nat.le_succ _)) S F _ fun g₁ am₁ s₁ x₁ S₁ ht₁ => ?_)
  exact h2.run X W A env g₁ am₁ s₁ ht₁ (R.less (Nat.le_succ _)) S₁ (F.stp S x₁) _ (P.trans x₁)
theorem rEs0 : EvEs C (n + 1) ei [] ρ σ [] σ := ⟨rfl, fun _ _ => rfl, fun _ => ⟨rfl, rfl⟩, (fun e r h => nomatch h), fun X W A env g am s ht R S F pos Q P => wpAny_pure (P [] g am s .refl S .nil ht)⟩
theorem rEs {x : Expr} {xs : List Expr} (h1 : EvE C n ei x ρ σ d σ₁) (h2 : EvEs C n ei xs ρ σ₁ ds σ₂) : EvEs C (n + 1) ei (x :: xs) ρ σ (d :: ds) σ₂ := by
  refine ⟨congrArg (· + 1) h2.len, fun env pos => ?_, (fun h => nomatch h), fun e r h => ?_, fun X W A env g am s ht R S F pos Q P => tpos ht ?_⟩
  · rw [h1.nice.star]
    have := h2.plain env pos
    simpa [backTo] using this
  · cases h; exact fun env => h1.nice.star _ env
  · generalize TQ C Q = Q at P ⊢
    rw [h1.nice.star]
    refine Calls.spliced_cons (h1.run X W A env g am s ht (R.less (Nat.le_succ _)) S F _ fun v g₁ am₁ s₁ x₁ S₁ r₁ ht₁ => ?_)
    refine h2.run X W A env g₁ am₁ s₁ ht₁ (R.less (Nat.le_succ _)) S₁ (F.stp S x₁) pos _ fun vs g₂ am₂ s₂ x₂ S₂ r₂ ht₂ => ?_
    exact P (v :: vs) g₂ am₂ s₂ (x₁.trans x₂ x₁.wx) S₂ (.cons (r₁.stp x₂ S₁.gin) r₂)
theorem rList {xs : List Expr} (h0 : decide (xs.length < 1000) = true) (h : EvEs C n ei xs ρ σ ds σ₁) : EvE C (n + 1) ei (.List xs p) ρ σ (.list ds) σ₁ := by
  refine ⟨nice_any, fun X W A env g am s ht R S F Q P => tpos ht ?_⟩
  generalize TQ C Q = Q at P ⊢
  refine List_ (h.run X W A env g am s ht (R.less (Nat.le_succ _)) S F p _ fun vs g₁ am₁ s₁ x₁ S₁ r₁ ht₁ => ?_)
  refine wpAny_newObj_type ?_ (by show vs.toArray.size ≤ sizeLine; rw [List.size_toArray, r₁.length, h.len]; exact lim_size (Nat.le_trans (Nat.le_of_lt (of_decide_eq_true h0)) (by decide)))
  exact list_new S₁ r₁ (P.trans x₁)
theorem rTup {xs : List Expr} (h0 : decide (xs.length < 1000) = true) (h : EvEs C n ei xs ρ σ ds σ₁) : EvE C (n + 1) ei (.Tuple xs k p) ρ σ (.tup ds) σ₁ := by
  refine ⟨nice_any, fun X W A env g am s ht R S F Q P => tpos ht ?_⟩
  generalize TQ C Q = Q at P ⊢
  refine Tuple_ (h.run X W A env g am s ht (R.less (Nat.le_succ _)) S F p _ fun vs g₁ am₁ s₁ x₁ S₁ r₁ ht₁ => ?_)
  refine wpAny_newObj_type ?_ (by show vs.toArray.size ≤ sizeLine; rw [List.size_toArray, r₁.length, h.len]; exact lim_size (Nat.le_trans (Nat.le_of_lt (of_decide_eq_true h0)) (by decide)))
  exact tup_new S₁ r₁ (P.trans x₁)
theorem rAttr {x : Str} {a' : Str} (h1 : getV ei C.glob (nm x) ρ = some d) (h2 : attrD C σ d a' = some r) : EvE C (n + 1) ei (.Attribute (.Name x q) a' p) ρ σ r σ := by
  refine ⟨nice_any, fun X W A env g am s ht R S F Q P => tpos ht ?_⟩
  generalize TQ C Q = Q at P ⊢
  obtain ⟨K, H⟩ := W.k
  exact Attribute_Name_ (Name_ok W.o S F h1 fun v rv => attr_ok H S h2 rv P)
end
end
section
section
variable {K : Frag} {X : Cx} {C : Ctx} {g : G} {am : List Addr} {σ : Store} {s : Shared} {A : Around} {Q : Value → Shared → Prop} {n : Nat} {env : Env}

theorem call_meth {prog : Program} {w : World} {E : Value → Shared → Prop} {o : Expr} {name : Str} {apos pos : Pos} {args : List Expr}
    (hbase : attributeBase o name env (eval o env) = eval o env) (hplain : (backTo pos (starEach args env)).any (·.1) = false) (hlen : args.length < 20) (hline : (apos.endLine == pos.line) = true)
    (h : wpAny (model prog w) A (eval o env) (fun ov s₁ => ∀ pl, wpAny (model prog w) A (getMethod ov name pl) (fun r s₂ => wpAny (model prog w) A (callWith pos r.1 r.2 (backTo pos (starEach args env)) []) Q E s₂) E s₁) E s) :
    wpAny (model prog w) A (eval (.Call (.Attribute o name apos) args [] pos) env) Q E s := by
  rw [arm_eval_Call, hbase]
  refine wpAny_bind (wpAny_mono h (fun ov s₁ h₁ => ?_) fun _ _ e => e)
  refine wpAny_bind (wpAny_standAt ?_)
  have hall : (backTo pos (starEach args env)).all (fun x => !x.1) = true := by
    rw [List.all_eq_true]
    intro x hx
    have := List.any_eq_false.mp hplain x hx
    simpa using this
  have hform : methodCallForm (args.length + ([] : List Keyword).length) (backTo pos (starEach args env)) (backToKw pos (keywordEach [] env)) = true := by
    show ((backTo pos (starEach args env)).all (fun x => !x.1) && (backToKw pos (keywordEach [] env)).all (fun x => x.1.isSome) && decide (args.length + ([] : List Keyword).length + (if ([] : List Keyword).isEmpty then 0 else 1) < 30)) = true
    rw [hall]
    exact (show (true && true && decide (args.length + 0 + 0 < 30)) = true by rw [decide_eq_true (by lia)]; rfl)
  have hpos : methodCallPos true o env apos pos = pure pos := by unfold methodCallPos; simp [hline]
  unfold methodCall
  rw [hform]
  refine wpAny_bind (wpAny_holding ?_)
  refine wpAny_mono (h₁ _) (fun r s₂ h₂ => ?_) fun _ _ e => e
  exact wpAny_bind (wpAny_of_eq hpos h₂)

theorem looks_fn {M : Model} {h : Heap} {a : Addr} {o : Obj} {fd : FuncData} (e : h.get? a = some o) (hd : o.data = .func fd) : Looks M h (keeperOf (.ref a)) .frame := by
  obtain ⟨oc, od, dt, sl⟩ := o
  simp only [] at hd
  subst hd
  exact (Looks.ld (part := none) e).andThen .now


noncomputable def callable (C : Ctx) : D → Bool
  | .bi _ => true
  | .old (.ref a) => (C.fn a).isSome || (C.cls a).isSome
  | .clos .. => true
  | _ => false
/- what may be called: a built-in, a type, or what keeps a frame -/
noncomputable def CalleeIs (X : Cx) (v : Value) (f : D) : Prop := (∃ id, v = .builtin id) ∨ (∃ t, v = .type t) ∨
    ∀ hh, (∃ g' am' σ', St X g' am' σ' hh ∧ Rep X g' am' v f) → ∃ k, (k = Keeper.frame ∨ k = Keeper.machine ∨ k = Keeper.boundFrame) ∧ Looks (model X.prog X.w) hh (keeperOf v) k
theorem callee_kind (H : KOk K X C) {f : D} (e : callable C f = true) {v : Value} (rv : Rep X g am v f) : CalleeIs X v f := by
  cases f with
  | bi b => cases rv; cases b <;> first | exact .inl ⟨_, rfl⟩ | exact .inr (.inl ⟨_, rfl⟩)
  | old u =>
    cases u with
    | ref a =>
      cases rv
      refine .inr (.inr ?_)
      rintro hh ⟨g', am', σ', S', r'⟩
      have old : ∀ a o, X.h₀.get? a = some o → hh.get? a = some o := fun a o e => S'.gin a o (S'.base a o e)
      cases hf : C.fn a with
      | some fi =>
        obtain ⟨fd, F⟩ := H.fn a fi hf
        obtain ⟨o, e1, e2⟩ := F.obj
        exact ⟨.frame, .inl rfl, looks_fn (old _ _ e1) e2⟩
      | none =>
        cases hk : C.cls a with
        | some k => exact keeps_K (H.keep a k hk) hh fun a o e => old a o (H.kin a o e)
        | none =>
          have e' : ((C.fn a).isSome || (C.cls a).isSome) = true := e
          rw [hf, hk] at e'
          cases e'
    | _ => cases e
  | clos b ns vs =>
    refine .inr (.inr ?_)
    rintro hh ⟨g', am', σ', S', r'⟩
    obtain ⟨a, cl, doc, pm, c', ctv, vs, rfl, h2, _⟩ := rep_clos r'
    exact ⟨.frame, .inl rfl, looks_fn (S'.gin _ _ h2) rfl⟩
  | _ => cases e
/- a call that is answered is a call to a frame, a machine or a built-in -/
theorem callee_ok (H : KOk K X C) {f : D} (e : callable C f = true) {v : Value} {pos : Pos} {first : List Value} {args : List (Bool × Sem Value)}
    (hplain : args.any (·.1) = false) (rv : Rep X g am v f)
    (h : wpAny (model X.prog X.w) A (evalArgs v true args []) (fun a s₁ => (∃ g' am' σ', St X g' am' σ' s₁.heap ∧ Rep X g' am' v f) ∧ wpAny (model X.prog X.w) A (call v (first ++ a.pos) a.kw) Q NEx s₁) NEx s) :
    wpAny (model X.prog X.w) A (callWith pos v first args []) Q NEx s := by
  rcases callee_kind H e rv with ⟨id, rfl⟩ | ⟨t, rfl⟩ | hk
  · exact callWith_builtin hplain (wpAny_mono h (fun _ _ x => x.2) fun _ _ x => x)
  · exact PySem.callWith_type hplain (wpAny_mono h (fun _ _ x => x.2) fun _ _ x => x)
  · exact callWith_of (P := fun hh => ∃ g' am' σ', St X g' am' σ' hh ∧ Rep X g' am' v f) (by rw [hplain]; rfl) hk h
theorem base_eq {o : Expr} {name : Str} {whole : Sem Value} (h : notSuper o = true) : attributeBase o name env whole = whole := by
  cases o <;> first | rfl | skip
  rename_i f as ks p
  cases f <;> first | rfl | skip
  cases as <;> first | rfl | skip
  cases ks <;> first | rfl | cases h
end
end
section
structure CallD (C : Ctx) (n : Nat) (f : D) (args : List D) (σ : Store) (d : D) (σ' : Store) : Prop where
  ok : callable C f = true
  run : ∀ X, Good X C → ∀ A g am s, TK C s.toks → Room n A → St X g am σ s.heap → ∀ v vs, Rep X g am v f → Reps X g am vs args → ∀ Q, Post X σ' d g am s (TQ C Q) → wpAny (model X.prog X.w) A (call v vs) Q NEx s
structure EvO (C : Ctx) (n : Nat) (ei : EI) (eo : Option Expr) (ρ : VarsN) (σ : Store) (do' : Option (Option D)) (σ' : Store) : Prop where
  run : ∀ i, endD do' = some i → Runs1 C n ei ρ σ fun X A env g am s => ∀ Q, (∀ v g' am' s', Stp (Wx X am) g am s g' am' s' → St X g' am' σ' s'.heap → IsPart v i → TK C s'.toks → Q v s') → wpAny (model X.prog X.w) A (evalPart eo env) Q NEx s
section
variable {C : Ctx} {n : Nat} {ei : EI} {ρ : VarsN} {σ σ₁ σ₂ σ₃ : Store} {p q fp : Pos} {a b d r : D} {l : List Nat} {ds : List D} {k : Nat}

theorem rO0 : EvO C (n + 1) ei none ρ σ none σ := EvO.mk <| fun i hi X W A env g am s ht R S F Q hQ => by
  cases (show some none = some i from hi)
  exact wpAny_evalPart_none (hQ .none g am s .refl S .none ht)
theorem endD_is {d : D} {i : Option Int} (h : endD (some (some d)) = some i) : ∃ k, d = .int k ∧ (-4611686018427387904 < k ∧ k < 4611686018427387904) ∧ i = some k := by
  cases d <;> first | (cases h; done) | skip
  rename_i k
  by_cases hk : -4611686018427387904 < k ∧ k < 4611686018427387904
  · cases (if_pos hk).symm.trans h
    exact ⟨k, rfl, hk, rfl⟩
  · cases (if_neg hk).symm.trans h
theorem rO {x : Expr} (h : EvE C n ei x ρ σ d σ₁) : EvO C (n + 1) ei (some x) ρ σ (some (some d)) σ₁ := EvO.mk <| fun i hi X W A env g am s ht R S F Q hQ => by
  obtain ⟨k, rfl, hk, rfl⟩ := endD_is hi
  refine wpAny_evalPart_some (h.run X W A env g am s ht (R.less (Nat.le_succ _)) S F _ fun v g₁ am₁ s₁ x₁ S₁ r₁ ht₁ => ?_)
  obtain ⟨t, rfl⟩ := rep_int r₁
  exact hQ _ g₁ am₁ s₁ x₁ S₁ (.int _ _) ht₁
/- not a slice -/
noncomputable def noCut : Expr → Bool
  | .Slice .. => false
  | _ => true
theorem rItem {x i : Expr} (h0 : noCut i = true) (h1 : EvE C n ei x ρ σ a σ₁) (h2 : EvE C n ei i ρ σ₁ b σ₂) (h3 : itemD σ₂ a b = some d) : EvE C (n + 1) ei (.Subscript x i p) ρ σ d σ₂ := by
  refine ⟨nice_any, fun X W A env g am s ht R S F Q P => tpos ht ?_⟩
  generalize TQ C Q = Q at P ⊢
  refine Subscript_ (h1.run X W A env g am s ht (R.less (Nat.le_succ _)) S F _ fun v g₁ am₁ s₁ x₁ S₁ r₁ ht₁ => ?_)
  refine h2.run X W A env g₁ am₁ s₁ ht₁ (R.less (Nat.le_succ _)) S₁ (F.stp S x₁) _ fun w g₂ am₂ s₂ x₂ S₂ r₂ ht₂ => ?_
  exact item_ok R S₂ h3 (r₁.stp x₂ S₁.gin) r₂ (P.trans (x₁.trans x₂ x₁.wx))
theorem rCut {x : Expr} {lo hi : Option Expr} {lo' hi' : Option (Option D)} {i j : Option Int} (h1 : EvE C n ei x ρ σ a σ₁) (h2 : EvO C n ei lo ρ σ₁ lo' σ₂) (h3 : EvO C n ei hi ρ σ₂ hi' σ₃)
    (h4 : endD lo' = some i) (h5 : endD hi' = some j) (h6 : cutD a i j = some d) : EvE C (n + 1) ei (.Subscript x (.Slice lo hi none q) p) ρ σ d σ₃ := by
  refine ⟨nice_any, fun X W A env g am s ht R S F Q P => tpos ht ?_⟩
  generalize TQ C Q = Q at P ⊢
  refine Subscript_ (h1.run X W A env g am s ht (R.less (Nat.le_succ _)) S F _ fun v g₁ am₁ s₁ x₁ S₁ r₁ ht₁ => ?_)
  refine wpAny_Slice (h2.run i h4 X W A env g₁ am₁ s₁ ht₁ (R.less (Nat.le_succ _)) S₁ (F.stp S x₁) _ fun vl g₂ am₂ s₂ x₂ S₂ p2 ht₂ => ?_)
  have x₁₂ := x₁.trans x₂ x₁.wx
  refine h3.run j h5 X W A env g₂ am₂ s₂ ht₂ (R.less (Nat.le_succ _)) S₂ (F.stp S x₁₂) _ fun vu g₃ am₃ s₃ x₃ S₃ p3 ht₃ => ?_
  refine wpAny_evalPart_none ?_
  exact cut_ok R S₃ h6 ((r₁.stp x₂ S₁.gin).stp x₃ S₂.gin) p2 p3 (P.trans (x₁₂.trans x₃ x₁₂.wx))
/- the value of a call's arguments -/
theorem args_ok {X : Cx} (W : Good X C) {es : List Expr} {σ' : Store} (h : EvEs C n ei es ρ σ ds σ') {A : Around} {env : Env} {g : G} {am : List Addr} {s : Shared}
    (ht : TK C s.toks) (R : Room n A) (S : St X g am σ s.heap) (F : Frm X g am ei env ρ s.heap) {f : Value} {pos : Pos} {Q : Args → Shared → Prop}
    (P : PostL X σ' ds g am s (TQ C fun vs s' => Q ⟨vs, []⟩ s')) : wpAny (model X.prog X.w) A (evalArgs f true (backTo pos (starEach es env)) []) Q NEx s := by
  cases es with
  | nil =>
    obtain ⟨rfl, rfl⟩ := h.nil rfl
    exact PySem.evalArgs_none (P [] g am s .refl S .nil ht)
  | cons e es =>
    have := h.run X W A env g am s ht R S F pos _ P
    rw [h.args e es rfl env] at this ⊢
    exact evalArgs_plain this
theorem rCall {f : Str} {fp cp : Pos} {args : List Expr} (h0 : decide (args.length < 20) = true) (h1 : getV ei C.glob (nm f) ρ = some d) (h2 : EvEs C n ei args ρ σ ds σ₁) (h3 : CallD C n d ds σ₁ r σ₂) :
    EvE C (n + 1) ei (.Call (.Name f fp) args [] cp) ρ σ r σ₂ := by
  refine ⟨nice_any, fun X W A env g am s ht R S F Q P => tpos ht ?_⟩
  generalize TQ C Q = Q at P ⊢
  obtain ⟨K, H⟩ := W.k
  refine wpAny_Call_Name_kw (Name_ok W.o S F h1 fun v rv => ?_)
  refine callee_ok H h3.ok (h2.plain env cp) rv ?_
  refine args_ok W h2 ht (R.less (Nat.le_succ _)) S F fun vs g₁ am₁ s₁ x₁ S₁ r₁ ht₁ => ?_
  exact ⟨⟨g₁, am₁, σ₁, S₁, rv.stp x₁ S.gin⟩, h3.run X W A g₁ am₁ s₁ ht₁ (R.less (Nat.le_succ _)) S₁ _ _ (rv.stp x₁ S.gin) r₁ _ (P.trans x₁).tq⟩
theorem rBi {f : BI} (h : BuiltD f σ ds d) : CallD C (n + 1) (.bi f) ds σ d σ :=
  ⟨rfl, fun X W A g am s ht R S v vs rv rs Q P => tpos ht (by cases rv; exact h.run R.handled S rs P)⟩
end
end
section
section
variable {C : Ctx} {n : Nat} {ei : EI} {ρ : VarsN} {σ σ₁ σ₂ σ₃ : Store} {p q fp : Pos} {a b d r : D} {l : List Nat} {ds : List D} {k : Nat}

theorem meth_parts {o : Expr} {ap cp : Pos} {m : Nat} (h0 : (notSuper o && ap.endLine == cp.line && decide (m < 20)) = true) : notSuper o = true ∧ (ap.endLine == cp.line) = true ∧ m < 20 := by
  rw [Bool.and_eq_true, Bool.and_eq_true, decide_eq_true_eq] at h0
  exact ⟨h0.1.1, h0.1.2, h0.2⟩
theorem rMethF {o : Expr} {name : Str} {ap cp : Pos} {args : List Expr} {f : D} (h0 : (notSuper o && ap.endLine == cp.line && decide (args.length < 20)) = true) (h1 : EvE C n ei o ρ σ d σ₁) (h2 : replD (nm name) d args = none)
    (h3 : EvEs C n ei args ρ σ₁ ds σ₂) (h4 : methF C d (nm name) = some f) (h5 : CallD C n f (d :: ds) σ₂ r σ₃) : EvE C (n + 1) ei (.Call (.Attribute o name ap) args [] cp) ρ σ r σ₃ := by
  refine ⟨nice_any, fun X W A env g am s ht R S F Q P => tpos ht ?_⟩
  generalize TQ C Q = Q at P ⊢
  obtain ⟨K, H⟩ := W.k
  obtain ⟨hns, hline, hlen⟩ := meth_parts h0
  have hp := h3.plain env cp
  refine call_meth (base_eq hns) hp hlen hline (h1.run X W A env g am s ht (R.less (Nat.le_succ _)) S F _ fun v g₁ am₁ s₁ x₁ S₁ r₁ ht₁ => ?_)
  intro pl
  refine methF_ok H S₁ h4 r₁ fun w rw' => ?_
  refine callee_ok H h5.ok hp rw' ?_
  refine args_ok W h3 ht₁ (R.less (Nat.le_succ _)) S₁ (F.stp S x₁) fun vs g₂ am₂ s₂ x₂ S₂ r₂ ht₂ => ?_
  have x₁₂ := x₁.trans x₂ x₁.wx
  exact ⟨⟨g₂, am₂, σ₂, S₂, rw'.stp x₂ S₁.gin⟩, h5.run X W A g₂ am₂ s₂ ht₂ (R.less (Nat.le_succ _)) S₂ _ _ (rw'.stp x₂ S₁.gin) (.cons (r₁.stp x₂ S₁.gin) r₂) _ (P.trans x₁₂).tq⟩
theorem rRepl {o : Expr} {name : Str} {ap cp : Pos} {args : List Expr} (h0 : (notSuper o && ap.endLine == cp.line && decide (args.length < 20)) = true) (h1 : EvE C n ei o ρ σ d σ₁) (h2 : replD (nm name) d args = some r) (h3 : C.rep = true := by rfl) :
    EvE C (n + 1) ei (.Call (.Attribute o name ap) args [] cp) ρ σ r σ₁ := by
  refine ⟨nice_any, fun X W A env g am s ht R S F Q P => tpos ht ?_⟩
  generalize TQ C Q = Q at P ⊢
  obtain ⟨hns, hline, hlen⟩ := meth_parts h0
  unfold replD at h2
  split at h2
  · rename_i hn
    have hn := nm_inj hn
    subst hn
    split at h2
    · rename_i l y ky py z kz pz
      split at h2
      · rename_i c hy
        split at h2
        · rename_i hb
          cases h2
          refine call_meth (base_eq hns) rfl hlen hline (h1.run X W A env g am s ht (R.less (Nat.le_succ _)) S F _ fun v g₁ am₁ s₁ x₁ S₁ r₁ ht₁ => ?_)
          obtain ⟨x, t, rfl, hx, kx⟩ := rep_str r₁
          subst hx
          have ey := str_mk hy
          subst ey
          intro pl
          refine GM.replace ?_
          refine callWith_builtin rfl (evalArgs_plain ?_)
          show wpAny _ _ (spliced ((false, eval (.Constant (.str ⟨[c].toArray⟩) ky py) env) :: backTo cp (starEach [.Constant (.str z) kz pz] env))) _ _ _
          refine Calls.spliced_cons (wpAny_Constant_str ?_)
          show wpAny _ _ (spliced ((false, eval (.Constant (.str z) kz pz) env) :: backTo cp (starEach [] env))) _ _ _
          refine Calls.spliced_cons (wpAny_Constant_str ?_)
          refine Calls.spliced_nil ?_
          have hzl : z.cps.toList.length = z.length := rfl
          have hb1 : (x.length + 1) * (z.length + 1) ≤ lim := hb.1
          refine SC.replace (Nat.pos_iff_ne_zero.mp (ht₁ h3)) (Nat.succ_ne_zero _) (Nat.ne_of_lt (Nat.lt_succ_self _)) hb.2.2 ?_ fun t' k => ?_
          · have e1 : (x.length + 1) * (z.length + 1) = (x.length + 1) * z.length + (x.length + 1) := Nat.mul_succ _ _
            have hlim : lim = 16777216 := rfl
            rw [e1] at hb1
            lia
          · exact (P.trans x₁).tok S₁ (.str _ _ _ (repl_is x z c) (repl_ok (okS_of_all hb.2.1) kx)) _
        · cases h2
      · cases h2
    · cases h2
  · cases h2
theorem rMeth {o : Expr} {name : Str} {ap cp : Pos} {args : List Expr} (h0 : (notSuper o && ap.endLine == cp.line && decide (args.length < 20)) = true) (h1 : EvE C n ei o ρ σ d σ₁) (h2 : replD (nm name) d args = none)
    (h3 : EvEs C n ei args ρ σ₁ ds σ₂) (h4 : methF C d (nm name) = none) (h5 : MethD name d ds r) : EvE C (n + 1) ei (.Call (.Attribute o name ap) args [] cp) ρ σ r σ₂ := by
  refine ⟨nice_any, fun X W A env g am s ht R S F Q P => tpos ht ?_⟩
  generalize TQ C Q = Q at P ⊢
  obtain ⟨hns, hline, hlen⟩ := meth_parts h0
  have hp := h3.plain env cp
  obtain ⟨T, id, pa, slot, hty, hX⟩ := h5
  obtain ⟨hself, hcall⟩ := hX X
  refine call_meth (base_eq hns) hp hlen hline (h1.run X W A env g am s ht (R.less (Nat.le_succ _)) S F _ fun v g₁ am₁ s₁ x₁ S₁ r₁ ht₁ => ?_)
  intro pl
  obtain ⟨hT, hd⟩ := hself S₁ r₁
  refine getMethod_builtin hT pa slot hty hd ?_
  refine callWith_builtin hp (args_ok W h3 ht₁ (R.less (Nat.le_succ _)) S₁ (F.stp S x₁) fun vs g₂ am₂ s₂ x₂ S₂ r₂ ht₂ => ?_)
  have x₁₂ := x₁.trans x₂ x₁.wx
  exact hcall (R.less (Nat.le_refl _)) S₂ (r₁.stp x₂ S₁.gin) r₂ (P.trans x₁₂)
end
end
section
section
variable {C : Ctx} {n : Nat} {ei : EI} {ρ : VarsN} {σ σ₁ σ₂ σ₃ : Store} {p q fp : Pos} {a b d r : D} {l : List Nat} {ds : List D} {k : Nat}

/-! conditions -/
theorem tNot {x : Expr} {t : Bool} (h : EvT C n ei x ρ σ t σ₁) : EvT C (n + 1) ei (.UnaryOp .Not x p) ρ σ (!t) σ₁ := EvT.mk <| fun X W A env g am s ht R S F Q P => by
  rw [isTrue_not_eq]
  exact wpAny_bind (h.run X W A env g am s ht (R.less (Nat.le_succ _)) S F _ fun g₁ am₁ s₁ x₁ S₁ ht₁ => wpAny_pure (P g₁ am₁ s₁ x₁ S₁ ht₁))
theorem tOp {op : BoolOp} {vs : List Expr} {t : Bool} (h : EvA C n ei op vs ρ σ t σ₁) : EvT C (n + 1) ei (.BoolOp op vs p) ρ σ t σ₁ := EvT.mk <| fun X W A env g am s ht R S F Q P => by
  rw [isTrue_bool_eq]
  exact h.run X W A env g am s ht (R.less (Nat.le_succ _)) S F Q P
theorem tCmp {x y : Expr} {op : CmpOp} {t : Bool} (h1 : EvE C n ei x ρ σ a σ₁) (h2 : EvE C n ei y ρ σ₁ b σ₂) (h3 : CmpD op a b t) : EvT C (n + 1) ei (.Compare x [op] [y] p) ρ σ t σ₂ := EvT.mk <| fun X W A env g am s ht R S F Q P => by
  refine tpos ht ?_
  generalize TQ C Q = Q at P ⊢
  refine wpAny_isTrue_Compare1 (h1.run X W A env g am s ht (R.less (Nat.le_succ _)) S F _ fun v g₁ am₁ s₁ x₁ S₁ r₁ ht₁ => ?_) (h2.nice.set op)
  refine h2.run X W A env g₁ am₁ s₁ ht₁ (R.less (Nat.le_succ _)) S₁ (F.stp S x₁) _ fun w g₂ am₂ s₂ x₂ S₂ r₂ ht₂ => ?_
  exact h3.run R S₂ (r₁.stp x₂ S₁.gin) r₂ (wpAny_truthy_bool (P g₂ am₂ s₂ (x₁.trans x₂ x₁.wx) S₂))
noncomputable def plainT : Expr → Bool
  | .UnaryOp .Not _ _ => false
  | .BoolOp .. => false
  | .Compare .. => false
  | .IfExp .. => false
  | _ => true
theorem plainT_is {x : Expr} (h : plainT x = true) : ∃ p : Pos, ∀ env w, isTrue x env w = (w >>= fun v => standAt p >>= fun _ => holding [v] (truthy v)) := by
  cases x <;> first | exact ⟨_, fun _ _ => rfl⟩ | cases h | skip
  rename_i op _ _
  cases op <;> first | exact ⟨_, fun _ _ => rfl⟩ | cases h
theorem tE {x : Expr} {t : Bool} (h0 : plainT x = true) (h1 : EvE C n ei x ρ σ d σ₁) (h2 : TruthD d t) : EvT C (n + 1) ei x ρ σ t σ₁ := EvT.mk <| fun X W A env g am s ht R S F Q P => by
  refine tpos ht ?_
  generalize TQ C Q = Q at P ⊢
  obtain ⟨p, hp⟩ := plainT_is h0
  rw [hp]
  refine wpAny_bind (h1.run X W A env g am s ht (R.less (Nat.le_succ _)) S F _ fun v g₁ am₁ s₁ x₁ S₁ r₁ ht₁ => ?_)
  refine wpAny_bind (wpAny_standAt (wpAny_holding (h2.run S₁ r₁ fun tk => ?_)))
  exact P g₁ am₁ _ (x₁.trans (Stp.tok (W := Wx X am₁)) x₁.wx) S₁
theorem aNil {op : BoolOp} : EvA C (n + 1) ei op [] ρ σ (op == .And) σ := EvA.mk <| fun X W A env g am s ht R S F Q P => wpAny_pure (P g am s .refl S ht)
theorem aOrF {x : Expr} {xs : List Expr} {t : Bool} (h1 : EvT C n ei x ρ σ false σ₁) (h2 : EvA C n ei .Or xs ρ σ₁ t σ₂) : EvA C (n + 1) ei .Or (x :: xs) ρ σ t σ₂ := EvA.mk <| fun X W A env g am s ht R S F Q P => by
  rw [allTrue_cons]
  exact wpAny_bind (h1.run X W A env g am s ht (R.less (Nat.le_succ _)) S F _ fun g₁ am₁ s₁ x₁ S₁ ht₁ => h2.run X W A env g₁ am₁ s₁ ht₁ (R.less (Nat.le_succ _)) S₁ (F.stp S x₁) Q (P.trans x₁))
theorem iNil : EvIfs C (n + 1) ei [] ρ σ true σ := EvIfs.mk <| fun X W A env g am s ht R S F Q P => wpAny_pure (P g am s .refl S ht)
theorem iOne {x : Expr} {t : Bool} (h1 : EvT C (n + 1) ei x ρ σ t σ₁) : EvIfs C (n + 2) ei [x] ρ σ t σ₁ := EvIfs.mk <| fun X W A env g am s ht R S F Q P => by
  rw [List.forIn_cons]
  refine wpAny_bind (wpAny_bind (h1.run X W A env g am s ht (R.less (Nat.le_succ _)) S F _ fun g₁ am₁ s₁ x₁ S₁ ht₁ => wpAny_pure ?_))
  exact wpAny_pure (P g₁ am₁ s₁ x₁ S₁ ht₁)

/-! texts joined -/
structure EvJ (C : Ctx) (n : Nat) (ei : EI) (es : List Expr) (ρ : VarsN) (σ : Store) (l : List Nat) (σ' : Store) : Prop where
  run : Runs1 C n ei ρ σ fun X A env g am s => ∀ (acc : Str) Q, acc.length + l.length ≤ lim → okS acc.cps.toList →
    (∀ out g' am' s', Stp (Wx X am) g am s g' am' s' → St X g' am' σ' s'.heap → out.cps.toList = acc.cps.toList ++ l → okS out.cps.toList → TK C s'.toks → Q out s') → Joins (model X.prog X.w) A NEx (evalEach es env) acc Q s
theorem j0 : EvJ C (n + 1) ei [] ρ σ [] σ := EvJ.mk <| fun X W A env g am s ht R S F acc Q hlen hok hQ => Joins_nil (hQ acc g am s .refl S (List.append_nil _).symm hok ht)
theorem jC {s : Str} {xs : List Expr} {u : List Nat} (h1 : s.cps.toList = u) (h2 : u.all (fun c => decide (c < 1114112)) = true) (h3 : EvJ C n ei xs ρ σ l σ₁) : EvJ C (n + 1) ei (.Constant (.str s) k p :: xs) ρ σ (u ++ l) σ₁ := EvJ.mk <| fun X W A env g am s' ht R S F acc Q hlen hok hQ => by
  subst h1
  have hz : lim = 16777216 := rfl
  have hsl : s.cps.toList.length = s.length := rfl
  rw [List.length_append, hsl] at hlen
  refine Joins_cons (wpAny_Constant_str ⟨s, _, rfl, ?_, ?_⟩)
  · show (acc ++ s).length ≤ _
    rw [Str.length_append]
    exact lim_size (by lia)
  · have tk : Stp (Wx X am) g am s' g am { s' with toks := s'.toks + 1 } := Stp.tok
    refine h3.run X W A env g am { s' with toks := s'.toks + 1 } TK.i (R.less (Nat.le_succ _)) S (F.stp S tk) _ _ ?_ ?_ fun out g' am' s' x' S' e1 e2 => ?_
    · rw [Str.length_append, Nat.add_assoc]; exact hlen
    · rw [Str.cps_append, Array.toList_append]
      exact okS_append hok (okS_of_all h2)
    · refine hQ out g' am' s' (tk.trans x' tk.wx) S' ?_ e2
      rw [e1, Str.cps_append, Array.toList_append, List.append_assoc]
theorem jV {x : Expr} {xs : List Expr} {u : List Nat} (h1 : EvE C n ei x ρ σ (.str u) σ₁) (h2 : EvJ C n ei xs ρ σ₁ l σ₂) : EvJ C (n + 1) ei (.FormattedValue x 115 none p :: xs) ρ σ (u ++ l) σ₂ := EvJ.mk <| fun X W A env g am s' ht R S F acc Q hlen hok hQ => by
  have hz : lim = 16777216 := rfl
  rw [List.length_append] at hlen
  refine Joins_cons (wpAny_FormattedValue_s (h1.run X W A env g am s' ht (R.less (Nat.le_succ _)) S F _ fun v g₁ am₁ s₁ x₁ S₁ r₁ ht₁ => ?_))
  obtain ⟨x, t, rfl, hx, kx⟩ := rep_str r₁
  subst hx
  have hxl : x.cps.toList.length = x.length := rfl
  rw [hxl] at hlen
  refine tpos ht₁ (SB.convS_str (fun t' k hk => ?_) (lim_size (by lia)))
  refine tpos hk (SB.field_str (fun t'' k' hk' => ?_) (lim_size (by lia)))
  have tk : Stp (Wx X am₁) g₁ am₁ s₁ g₁ am₁ { s₁ with toks := k' } := Stp.tok
  have x₂ := x₁.trans tk x₁.wx
  refine ⟨x, t'', rfl, ?_, ?_⟩
  · rw [Str.length_append]; exact lim_size (by lia)
  · refine h2.run X W A env g₁ am₁ { s₁ with toks := k' } hk' (R.less (Nat.le_succ _)) S₁ (F.stp S x₂) _ _ ?_ ?_ fun out g' am' s' x' S' e1 e2 => ?_
    · rw [Str.length_append, Nat.add_assoc]; exact hlen
    · rw [Str.cps_append, Array.toList_append]
      exact okS_append hok kx
    · refine hQ out g' am' s' (x₂.trans x' x₂.wx) S' ?_ e2
      rw [e1, Str.cps_append, Array.toList_append, List.append_assoc]
theorem rJ {xs : List Expr} (h0 : decide (2 ≤ xs.length) = true) (h1 : EvJ C n ei xs ρ σ l σ₁) (h2 : l.length ≤ lim) : EvE C (n + 1) ei (.JoinedStr xs p) ρ σ (.str l) σ₁ := by
  refine ⟨nice_any, fun X W A env g am s ht R S F Q P => tpos ht ?_⟩
  generalize TQ C Q = Q at P ⊢
  match xs, h0 with
  | v₁ :: v₂ :: rest, _ =>
    refine wpAny_JoinedStr (h1.run X W A env g am s ht (R.less (Nat.le_succ _)) S F Str.empty _ (by rw [show Str.empty.length = 0 from rfl, Nat.zero_add]; exact h2) (fun c hc => nomatch hc) fun out g₁ am₁ s₁ x₁ S₁ e1 e2 ht₁ => ?_)
    have e1' : out.cps.toList = l := e1
    refine ⟨?_, (P.trans x₁).tok S₁ (.str _ _ _ e1' (e1' ▸ e2)) _⟩
    have : out.length = l.length := by rw [← e1']; rfl
    rw [this]; exact lim_size h2
end
end
section
/- one thing more is known -/
noncomputable def G.ext (g : G) (T : Addr) (o : Obj) : G := fun a => if a = T then some o else g a
section
variable {X : Cx} {g : G} {am : List Addr} {σ : Store} {h h' : Heap} {T : Addr} {o : Obj}
theorem G.ext_le (hT : g T = none) : G.Le g (g.ext T o) := fun a o' e => by
  unfold G.ext
  rw [if_neg (fun q => by rw [q, hT] at e; cases e)]; exact e
theorem G.ext_at : g.ext T o T = some o := by unfold G.ext; rw [if_pos rfl]
theorem G.ext_ne {a : Addr} (h : a ≠ T) : g.ext T o a = g a := by unfold G.ext; rw [if_neg h]
theorem St.ext (S : St X g am σ h) (hT : g T = none) (hm : T ∉ am) (ht : ¬ X.isTab T) (ho : h.get? T = some o) : St X (g.ext T o) am σ h := by
  have le := G.ext_le (o := o) hT
  refine ⟨fun a o' e => ?_, fun a o' e => le _ _ (S.base a o' e), fun t ht' => ?_, fun t ht' => ?_, fun a ha => ?_, S.amt, S.nodup, S.len, fun i a so e1 e2 => (S.so i a so e1 e2).at le (fun _ _ e => e) fun _ e => e⟩
  · by_cases q : a = T
    · subst q; rw [G.ext_at] at e; cases e; exact ho
    · rw [G.ext_ne q] at e; exact S.gin a o' e
  · rw [G.ext_ne fun q => ht ⟨t, ht', q⟩]; exact S.tabg t ht'
  · obtain ⟨ps, e, r⟩ := S.tab t ht'
    exact ⟨ps, e, r.imp id fun ⟨c', h2, h3⟩ => ⟨c', h2, h3.mono le⟩⟩
  · rw [G.ext_ne fun q => hm (by rw [← q]; exact ha)]; exact S.amg a ha
theorem St.keepG (S : St X g am σ h) (hk : ∀ a o, h.get? a = some o → h'.get? a = some o) : St X g am σ h' :=
  ⟨fun a o e => hk a o (S.gin a o e), S.base, S.tabg, fun t ht => let ⟨ps, e, r⟩ := S.tab t ht; ⟨ps, hk _ _ e, r⟩, S.amg, S.amt, S.nodup, S.len, fun i a so e1 e2 => (S.so i a so e1 e2).at (G.Le.refl g) (fun _ _ e => e) fun o e => hk a o e⟩
/- what is known and what is of the store stays -/
theorem St.keepW (S : St X g am σ h) (hk : ∀ a o, a ≠ T → h.get? a = some o → h'.get? a = some o) (hT : g T = none) (hm : T ∉ am) (ht : ¬ X.isTab T) : St X g am σ h' := by
  refine ⟨fun a o e => hk a o (fun q => by rw [q, hT] at e; cases e) (S.gin a o e), S.base, S.tabg, fun t ht' => ?_, S.amg, S.amt, S.nodup, S.len, fun i a so e1 e2 => (S.so i a so e1 e2).at (G.Le.refl g) (fun _ _ e => e) fun o e => hk a o (fun q => hm (by rw [← q]; exact List.mem_of_getElem? e1)) e⟩
  obtain ⟨ps, e, r⟩ := S.tab t ht'
  exact ⟨ps, hk _ _ (fun q => ht ⟨t, ht', q⟩) e, r⟩
variable {s : Shared}
theorem St.fresh (S : St X g am σ s.heap) {a : Addr} (ha : s.heap.objs.size ≤ a) : g a = none ∧ a ∉ am ∧ ¬ X.isTab a := by
  refine ⟨?_, fun hm => absurd (S.amlt hm) (Nat.not_lt.mpr ha), fun ⟨t, ht, q⟩ => absurd (q ▸ S.tablt ht) (Nat.not_lt.mpr ha)⟩
  cases q : g a with
  | none => rfl
  | some o => exact absurd (Heap.lt_size (S.gin a o q)) (Nat.not_lt.mpr ha)
theorem Stp.keepG {W : Addr → Prop} {tk : Nat} (hk : ∀ a o, s.heap.get? a = some o → h'.get? a = some o) (hz : s.heap.objs.size ≤ h'.objs.size) : Stp W g am s g am { s with heap := h', toks := tk } :=
  ⟨⟨h', tk, rfl⟩, fun a o _ e => hk a o e, fun _ _ => rfl, ⟨[], by simp⟩, hz⟩
/- a fresh address stays unknown and unheld -/
theorem Stp.still {W : Addr → Prop} {g' am' s'} (x : Stp W g am s g' am' s') {a : Addr} (ha : a < s.heap.objs.size) (h1 : g a = none) (h2 : a ∉ am) : g' a = none ∧ a ∉ am' := by
  refine ⟨(x.gext a ha).trans h1, fun hm => ?_⟩
  obtain ⟨l, rfl, q⟩ := x.am
  rcases List.mem_append.mp hm with hm | hm
  · exact h2 hm
  · exact absurd (q a hm) (Nat.not_le.mpr ha)
end
theorem GlobOk.sysne {X : Cx} {C : Ctx} (O : GlobOk X C) {g : G} {am : List Addr} {σ : Store} {s : Shared} (S : St X g am σ s.heap) {a : Addr} (ha : s.heap.objs.size ≤ a) : (a == sysModules) = false := by
  obtain ⟨b, o, hb, e⟩ := O.sys
  have := Nat.lt_of_le_of_lt hb (Heap.lt_size (S.gin _ _ (S.base _ _ e)))
  cases q : a == sysModules with
  | false => rfl
  | true => rw [eq_of_beq q] at ha; exact absurd this (Nat.not_lt.mpr ha)

/- the dict's content, read into data -/
theorem dict_rep {X : Cx} {g : G} {am : List Addr} {h : Heap} {D₀ : Addr} {o : Obj} {kvs : List (Str × Value)} {ds : List D} (h0 : (D₀ == sysModules) = false) (hg : g D₀ = some o) (ho : h.get? D₀ = some o) (hD : h.DictOf (PySem.strKind X.prog X.w) D₀ kvs)
    (rs : Reps X g am (kvs.map (·.2)) ds) : Rep X g am (.ref D₀) (.dict (kvs.map (·.1.cps.toList)) ds) := by
  refine .dict D₀ o (kvs.map (·.1)) _ (kvs.map (·.2)) ds h0 hg (fun h₂ e => ?_) (by rw [List.map_map]; rfl) (by simp) rs
  have ez : (kvs.map (·.1)).zip (kvs.map (·.2)) = kvs := by
    rw [← List.unzip_fst, ← List.unzip_snd, List.zip_unzip]
  rw [ez]
  exact hD.at fun o' e' => by rw [ho] at e'; cases e'; exact e

section
variable {K : Frag} {X : Cx} {C : Ctx} {g : G} {am : List Addr} {σ σ' : Store} {s : Shared} {A : Around} {Q : Value → Shared → Prop} {n : Nat} {env : Env} {ei : EI} {ρ : VarsN} {d : D}

theorem strsD_len : ∀ {ds : List D} {ls : List (List Nat)}, strsD ds = some ls → ls.length = ds.length
  | [], ls, h => by simp [strsD] at h; subst h; rfl
  | d :: ds, ls, h => by
    cases d <;> simp [strsD] at h
    obtain ⟨l', h1, rfl⟩ := h
    simp [strsD_len h1]
theorem keys_shape (env : Env) : ∀ {keys : List (Option Expr)} {ks : List Expr}, keysD keys = some ks → evalEachOpt keys env = (evalEach ks env).map some
  | [], ks, h => by simp [keysD] at h; subst h; rfl
  | some e :: r, ks, h => by
    simp only [keysD, Option.map_eq_some_iff] at h
    obtain ⟨ks', h1, rfl⟩ := h
    have ih := keys_shape env h1
    show (some (eval e env)) :: evalEachOpt r env = _
    rw [ih]; rfl
  | none :: r, ks, h => by simp [keysD] at h
theorem zip_some {α β : Type} : ∀ (a : List α) (b : List β), (a.map some).zip b = (a.zip b).map fun p => (some p.1, p.2)
  | [], b => by simp
  | x :: a, [] => by simp
  | x :: a, y :: b => by simp [zip_some a b]
theorem each_len (env : Env) : ∀ es : List Expr, (evalEach es env).length = es.length
  | [] => rfl
  | e :: es => by show (eval e env :: evalEach es env).length = _; rw [List.length_cons, each_len env es]; rfl

theorem carries_of : ∀ {ps : List (Value × Value)} {ds : List D} {ls : List (List Nat)}, Reps X g am (ps.map (·.1)) ds → strsD ds = some ls → ∃ kvs : List (Str × Value), Carries (PySem.strKind X.prog X.w) ps kvs ∧ kvs.map (·.1.cps.toList) = ls ∧ kvs.map (·.2) = ps.map (·.2)
  | [], _, ls, .nil, e => by simp [strsD] at e; subst e; exact ⟨[], trivial, rfl, rfl⟩
  | (k, v) :: ps, _, ls, .cons (d := d) r rs, e => by
    cases d <;> simp [strsD] at e
    obtain ⟨ls', e1, rfl⟩ := e
    obtain ⟨x, t, hk, hx, _⟩ := rep_str r
    simp only [] at hk
    subst hk
    obtain ⟨kvs, h1, h2, h3⟩ := carries_of rs e1
    exact ⟨(x, v) :: kvs, ⟨strKind_is, rfl, h1⟩, by simp [hx, h2], by simp [h3]⟩
theorem nodup_keys {kvs : List (Str × Value)} {ls : List (List Nat)} (h : kvs.map (·.1.cps.toList) = ls) (hn : ls.Nodup) : (kvs.map (·.1)).Nodup := by
  subst h
  induction kvs with
  | nil => exact List.nodup_nil
  | cons p kvs ih =>
    simp only [List.map_cons, List.nodup_cons, List.mem_map, not_exists, not_and] at hn ⊢
    refine ⟨fun q hq e => hn.1 q hq (by rw [e]), ih hn.2⟩
theorem stored_new {kvs : List (Str × Value)} {k : Str} {v : Value} (h : k ∉ kvs.map (·.1)) : stored kvs k v = kvs ++ [(k, v)] := by
  unfold stored
  rw [if_neg]
  intro hc
  obtain ⟨p, hp, e⟩ := List.any_eq_true.mp hc
  exact h (List.mem_map.mpr ⟨p, hp, by simpa using e⟩)


end
/-! dicts -/
structure EvKV (C : Ctx) (n : Nat) (ei : EI) (ks vs : List Expr) (ρ : VarsN) (σ : Store) (ds es : List D) (σ' : Store) : Prop where
  len : ds.length = ks.length
  len2 : ks.length = vs.length
  run : Runs1 C n ei ρ σ fun X A env g am s => ∀ pos Q, (∀ ps g' am' s', Stp (Wx X am) g am s g' am' s' → St X g' am' σ' s'.heap → Reps X g' am' (ps.map (·.1)) ds → Reps X g' am' (ps.map (·.2)) es → TK C s'.toks → Q ps s') →
    wpAny (model X.prog X.w) A (evalPairs ((evalEach ks env).zip ((evalEach vs env).map fun v => do let x ← v; standAt pos; pure x))) Q NEx s
section
variable {C : Ctx} {n : Nat} {ei : EI} {ρ : VarsN} {σ σ₁ σ₂ σ₃ : Store} {p q fp : Pos} {a b d r : D} {l : List Nat} {ds es : List D} {k : Nat}
theorem kv0 : EvKV C (n + 1) ei [] [] ρ σ [] [] σ := ⟨rfl, rfl, fun X W A env g am s ht R S F pos Q hQ => evalPairs_nil (hQ [] g am s .refl S .nil .nil ht)⟩
theorem kv {x y : Expr} {xs ys : List Expr} (h1 : EvE C n ei x ρ σ d σ₁) (h2 : EvE C n ei y ρ σ₁ r σ₂) (h3 : EvKV C n ei xs ys ρ σ₂ ds es σ₃) : EvKV C (n + 1) ei (x :: xs) (y :: ys) ρ σ (d :: ds) (r :: es) σ₃ := by
  refine ⟨congrArg (· + 1) h3.len, congrArg (· + 1) h3.len2, fun X W A env g am s ht R S F pos Q hQ => ?_⟩
  show wpAny _ _ (evalPairs ((eval x env, do let v ← eval y env; standAt pos; pure v) :: (evalEach xs env).zip ((evalEach ys env).map fun v => do let x ← v; standAt pos; pure x))) Q NEx s
  refine evalPairs_cons (h1.run X W A env g am s ht (R.less (Nat.le_succ _)) S F _ fun v₁ g₁ am₁ s₁ x₁ S₁ r₁ ht₁ => ?_)
  refine wpAny_bind (h2.run X W A env g₁ am₁ s₁ ht₁ (R.less (Nat.le_succ _)) S₁ (F.stp S x₁) _ fun v₂ g₂ am₂ s₂ x₂ S₂ r₂ ht₂ => ?_)
  refine wpAny_bind (wpAny_standAt (wpAny_pure ?_))
  have x₁₂ := x₁.trans x₂ x₁.wx
  refine h3.run X W A env g₂ am₂ s₂ ht₂ (R.less (Nat.le_succ _)) S₂ (F.stp S x₁₂) pos _ fun ps g₃ am₃ s₃ x₃ S₃ r3 r4 ht₃ => ?_
  exact hQ ((v₁, v₂) :: ps) g₃ am₃ s₃ (x₁₂.trans x₃ x₁₂.wx) S₃ (.cons ((r₁.stp x₂ S₁.gin).stp x₃ S₂.gin) r3) (.cons (r₂.stp x₃ S₂.gin) r4) ht₃
theorem rDict {ks : List (Option Expr)} {ks' vs : List Expr} {ls : List (List Nat)} (h0 : keysD ks = some ks') (h1 : EvKV C n ei ks' vs ρ σ ds es σ₁) (h2 : strsD ds = some ls) (h3 : decide (ls.Nodup ∧ ls.length ≤ 15 ∧ ls ≠ []) = true) : EvE C (n + 1) ei (.Dict ks vs p) ρ σ (.dict ls es) σ₁ := by
  refine ⟨nice_any, fun X W A env g am s ht R S F Q P => tpos ht ?_⟩
  generalize TQ C Q = Q at P ⊢
  have hc := of_decide_eq_true h3
  have keep0 : ∀ a o, s.heap.get? a = some o → (s.heap.push { cls := .type "dict", data := .dict #[] }).get? a = some o := fun a o e => Heap.get?_push_of_some _ e
  have x0 : Stp (Wx X am) g am s g am { s with heap := s.heap.push { cls := .type "dict", data := .dict #[] } } := Stp.keepG (tk := s.toks) keep0 (by rw [Heap.size_push]; exact Nat.le_succ _)
  have S0 : St X g am σ (s.heap.push { cls := .type "dict", data := .dict #[] }) := S.keepG keep0
  have fr := S.fresh (Nat.le_refl _)
  have hDlt : s.heap.objs.size < (s.heap.push { cls := .type "dict", data := .dict #[] }).objs.size := by rw [Heap.size_push]; exact Nat.lt_succ_self _
  have hlen : ∀ pos, ((evalEach ks' env).zip ((evalEach vs env).map fun v => do let x ← v; standAt pos; pure x)).length = ls.length := fun pos => by
    rw [List.length_zip, List.length_map, each_len, each_len, ← h1.len2, Nat.min_self, strsD_len h2, h1.len]
  refine wpAny_Dict_pairs (knd := PySem.strKind X.prog X.w) (by rw [keys_shape env h0, zip_some]) (fun e => ?_) (by rw [hlen]; exact hc.2.1) ?_
  · have := congrArg List.length e
    rw [hlen] at this
    exact hc.2.2 (List.length_eq_zero_iff.mp this)
  · refine h1.run X W A env g am { s with heap := s.heap.push { cls := .type "dict", data := .dict #[] } } ht (R.less (Nat.le_succ _)) S0 (F.stp S x0) p _ fun ps g₁ am₁ s₁ x₁ S₁ r1 r2 ht₁ => ?_
    obtain ⟨kvs, c1, c2, c3⟩ := carries_of r1 h2
    have st := x₁.still hDlt fr.1 fr.2.1
    refine ⟨kvs, c1, (Heap.DictOf.new s.heap).at fun o e => x₁.keep _ _ (fun w => w.elim fr.2.1 fr.2.2) e, fun h' hm hs => ?_⟩
    have hnd := nodup_keys c2 hc.1
    rw [merged_append_of_fresh [] kvs hnd, List.nil_append] at hm
    have hk' : ∀ a o, a ≠ s.heap.objs.size → s₁.heap.get? a = some o → h'.get? a = some o := fun a o ha e => (hs.2 a ha).trans e
    obtain ⟨o, es', ep, e1, _⟩ := id hm
    have S₂ : St X g₁ am₁ σ₁ h' := S₁.keepW hk' st.1 st.2 fr.2.2
    have S₃ := S₂.ext (T := s.heap.objs.size) (o := o) st.1 st.2 fr.2.2 e1
    have x₂ : Stp (Wx X am) g am s (g₁.ext s.heap.objs.size o) am₁ { s₁ with heap := h', toks := s₁.toks + ps.length } := by
      obtain ⟨h₁, t₁, rfl⟩ := x₁.sh
      refine ⟨⟨_, _, rfl⟩, fun a o' ha e => hk' a o' (Nat.ne_of_lt (Heap.lt_size e)) (x₁.keep a o' ha (keep0 a o' e)), fun a ha => ?_, x₁.am.imp fun l ⟨e, q⟩ => ⟨e, fun a ha => Nat.le_trans (Nat.le_of_lt hDlt) (q a ha)⟩, ?_⟩
      · rw [G.ext_ne (Nat.ne_of_lt ha)]
        exact x₁.gext a (Nat.lt_trans ha hDlt)
      · exact Nat.le_trans (Nat.le_of_lt hDlt) (Nat.le_trans x₁.size (Nat.le_of_eq hs.1.symm))
    refine P _ _ _ _ x₂ S₃ ?_
    rw [← c2]
    exact dict_rep (W.o.sysne S (Nat.le_refl _)) G.ext_at e1 hm (c3 ▸ r2.mono (G.ext_le st.1) fun _ _ e => e)
end
end
section
section
variable {X : Cx} {A : Around} {t : Expr} {I : Addr} {fp wr : List Addr} {ds : List D} {g₀ : G} {am₀ : List Addr}

theorem turns_walk {P : Nat → Value → Prop} {St' : Nat → Heap → Prop} (W : Walks X.prog X.w A I fp wr ds.length P St')
    (hP : ∀ i v d, ds[i]? = some d → P i v → ∀ g am, G.Le g₀ g → (∀ (n : Nat) a, am₀[n]? = some a → am[n]? = some a) → Rep X g am v d)
    (hgo : ∀ i v d (s : Shared) (Q : Unit → Shared → Prop), ds[i]? = some d → P i v → St' (i + 1) s.heap → Q () s → wpAny (model X.prog X.w) A (letOwnedTupleGo t (.ref I) v) Q NEx s) : Turns X A t I fp wr ds g₀ am₀ St' where
  sub := W.sub
  frame := W.frame
  item := fun i d s Q hd st hQ => by
    have hlt := (List.getElem?_eq_some_iff.mp hd).1
    refine W.item i s Q NEx hlt st fun v h' tk hv st' hk => hQ v _ (hgo i v d _ _ hd hv st' ⟨h', tk, rfl, st', hk, .inl (hP i v d hd hv)⟩)
  done := fun s Q st hQ => W.done s Q NEx st hQ
  self := fun i s Q st hQ => W.self i s Q NEx st hQ

theorem isTuple_is {t : Expr} (h : isTuple t = true) : ∃ es k p, t = .Tuple es k p := by cases t <;> first | (cases h; done) | exact ⟨_, _, _, rfl⟩
theorem isTupD_is {d : D} (h : isTupD d = true) : ∃ ds, d = .tup ds := by cases d <;> first | (cases h; done) | exact ⟨_, rfl⟩
theorem go_name (h : isName t = true) {v : Value} {s : Shared} {Q : Unit → Shared → Prop} (hQ : Q () s) : wpAny (model X.prog X.w) A (letOwnedTupleGo t (.ref I) v) Q NEx s := by
  cases t <;> first | (cases h; done) | exact wpAny_of_eq (a := ()) rfl hQ

theorem turns_tup {elts : List Expr} {k : Nat} {pos : Pos} {Pt : Nat → Array Value → Prop} {St' : Nat → Heap → Prop} {Mid : Nat → Addr → Heap → Prop} (W : WalksT X.prog X.w A I fp wr ds.length Pt St' Mid)
    (hP : ∀ i vals d, ds[i]? = some d → Pt i vals → ∃ es, d = .tup es ∧ ∀ g am, G.Le g₀ g → (∀ (n : Nat) a, am₀[n]? = some a → am[n]? = some a) → Reps X g am vals.toList es) : Turns X A (.Tuple elts k pos) I fp wr ds g₀ am₀ St' where
  sub := W.sub
  frame := W.frame
  item := fun i d s Q hd st hQ => by
    have hlt := (List.getElem?_eq_some_iff.mp hd).1
    refine W.item i s Q NEx hlt st fun T vals h' tk hv hT hI hm hk => hQ _ _ ?_
    refine W.go elts k pos i T _ _ NEx hm fun h'' st'' hk'' => ?_
    obtain ⟨o, e1, e2, m, e3⟩ := hI
    have ha := W.apart i T h' hm
    obtain ⟨es, rfl, hr⟩ := hP i vals d hd hv
    refine ⟨h'', tk, rfl, st'', fun b o' hb e => hk'' b o' hb (hk b o' hb e), .inr ⟨T, o, hT, ha, hk'' T o ha e1, fun g am h1 h2 h3 => ?_⟩⟩
    exact .tup T o m vals.toList es h3 e2 (by simpa using e3) (hr g am h1 h2)
  done := fun s Q st hQ => W.done s Q NEx st hQ
  self := fun i s Q st hQ => W.self i s Q NEx st hQ
end

section
variable {K : Frag} {X : Cx} {C : Ctx} {g : G} {am : List Addr} {σ σ' : Store} {s : Shared} {A : Around} {n : Nat} {env : Env} {ei : EI} {ρ : VarsN}

/- what the caller of an iteration is told -/
noncomputable abbrev ItPost (C : Ctx) (X : Cx) (A : Around) (t : Expr) (ds : List D) (σ' : Store) (g : G) (am : List Addr) (s : Shared) (Q : Value → Shared → Prop) : Prop :=
  ∀ I fp wr St' g' am' s', Stp (Wx X am) g am s g' am' s' → St X g' am' σ' s'.heap → Turns X A t I fp wr ds g' am' St' → St' 0 s'.heap →
    (∀ b ∈ fp, (g' b = none ∧ b ∉ am' ∧ ¬ X.isTab b ∧ s.heap.objs.size ≤ b ∧ b < s'.heap.objs.size) ∨ (b ∉ wr ∧ ∃ o, g' b = some o)) → ds.length ≤ lim → TK C s'.toks → Q (.ref I) s'
variable {t : Expr} {ds : List D} {Q : Value → Shared → Prop}
theorem ItPost.trans {g₁ am₁ s₁} (P : ItPost C X A t ds σ' g am s Q) (x : Stp (Wx X am) g am s g₁ am₁ s₁) : ItPost C X A t ds σ' g₁ am₁ s₁ Q :=
  fun I fp wr St' g' am' s' y S T h0 hf hl ht => P I fp wr St' g' am' s' (x.trans y x.wx) S T h0 (fun b hb => (hf b hb).imp (fun ⟨q2, q3, q4, q5, q6⟩ => ⟨q2, q3, q4, Nat.le_trans x.size q5, q6⟩) id) hl ht

/- the iterator is new -/
theorem it_new (P : ItPost C X A t ds σ g am s Q) (S : St X g am σ s.heap) (ht : TK C s.toks) {I : Addr} {fp wr : List Addr} {St' : Nat → Heap → Prop} {h' : Heap} {tk : Nat} (hk : ∀ a o, s.heap.get? a = some o → h'.get? a = some o) (hz : s.heap.objs.size ≤ h'.objs.size) (htk : TK C tk)
    (T : Turns X A t I fp wr ds g am St') (h0 : St' 0 h') (hf : ∀ b ∈ fp, (s.heap.objs.size ≤ b ∧ b < h'.objs.size) ∨ (b ∉ wr ∧ ∃ o, g b = some o)) (hl : ds.length ≤ lim) : Q (.ref I) { s with heap := h', toks := tk } := by
  refine P I fp wr St' g am _ (Stp.keepG hk hz) (S.keepG hk) T h0 (fun b hb => (hf b hb).imp (fun ⟨q2, q3⟩ => ?_) id) hl htk
  obtain ⟨f1, f2, f3⟩ := S.fresh q2
  exact ⟨f1, f2, f3, q2, q3⟩

theorem it_list (R : Room n A) (P : ItPost C X A t ds σ g am s Q) (S : St X g am σ s.heap) (ht : TK C s.toks) {d : D} {v : Value} (e : itemsD t d = some ds) (hl : ds.length ≤ lim) (rv : Rep X g am v d) : wpAny (model X.prog X.w) A (pyIter v) Q NEx s := by
  unfold itemsD at e
  split at e
  · split at e
    · rename_i hc
      cases e
      obtain ⟨a, k, vs, rfl, h1, rs⟩ := rep_list rv
      have ho := S.gin _ _ h1
      have hL : s.heap.IsList a vs.toArray := ⟨_, ho, rfl, k, rfl⟩
      have hlt : a < s.heap.objs.size := Heap.lt_size ho
      have hlen := rs.length
      refine wpAny_pyIter_list hL ?_
      have up : ∀ b o, s.heap.get? b = some o → (s.heap.push { cls := .type "list_iterator", data := .fields #[.ref a, .int 0 0] }).get? b = some o := fun b o e => Heap.get?_push_of_some _ e
      have W := Walks.list (prog := X.prog) (w := X.w) R.handled s.heap.objs.size a (Nat.ne_of_lt hlt) vs.toArray
      rw [show vs.toArray.size = ds.length by simp [hlen]] at W
      have := it_new (tk := s.toks) P S ht up (by rw [Heap.size_push]; lia) ht (turns_walk W (fun i v d hd hv g' am' hg ha => ?_) fun i v d s' Q' hd hv st hq => ?_) ⟨⟨_, Heap.get?_push_size _ rfl, rfl, rfl⟩, hL.push _⟩ (fun b hb => ?_) hl
      · exact this
      · obtain ⟨v', e1, r⟩ := rs.get hd
        have : v = v' := by
          have hv' : vs[i]? = some v := by simpa using hv
          rw [hv'] at e1; cases e1; rfl
        subst this
        exact r.mono hg ha
      · rcases Bool.or_eq_true_iff.mp hc with h | h
        · exact go_name h hq
        · have h := Bool.and_eq_true_iff.mp h
          have hd' := List.all_eq_true.mp h.2 d (List.mem_of_getElem? hd)
          have h := h.1
          obtain ⟨v', e1, r⟩ := rs.get hd
          have : v = v' := by
            have hv' : vs[i]? = some v := by simpa using hv
            rw [hv'] at e1; cases e1; rfl
          subst this
          obtain ⟨es, rfl⟩ := isTupD_is hd'
          obtain ⟨T, o, m, ws, rfl, _⟩ := rep_tup r
          obtain ⟨_, _, _, rfl⟩ := isTuple_is h
          exact wpAny_letOwnedTupleGo_listiter st.1 hq
      · rcases List.mem_cons.mp hb with rfl | hb
        · exact .inl ⟨Nat.le_refl _, by rw [Heap.size_push]; exact Nat.lt_succ_self _⟩
        · rw [List.mem_singleton.mp hb]
          exact .inr ⟨fun hm => Nat.ne_of_lt hlt (List.mem_singleton.mp hm), _, h1⟩
    · cases e
  · split at e
    · rename_i l hc
      cases e
      obtain ⟨x, tt, rfl, hx, kx⟩ := rep_str rv
      subst hx
      refine wpAny_pyIter_str fun o St' W h0 => ?_
      have W := W A R.handled
      rw [show x.cps.size = (x.cps.toList.map fun c => D.str [c]).length by simp] at W
      have := it_new (tk := s.toks) P S ht (h' := s.heap.push o) (fun b o e => Heap.get?_push_of_some _ e) (by rw [Heap.size_push]; lia) ht (turns_walk W (fun i v d hd hv g' am' hg ha => ?_) fun i v d s' Q' hd hv st hq => go_name hc hq) h0 (fun b hb => ?_) hl
      · exact this
      · obtain ⟨c, u, e1, rfl⟩ := hv
        simp only [List.getElem?_map, Option.map_eq_some_iff] at hd
        obtain ⟨c', e2, rfl⟩ := hd
        have e3 : x.cps[i]? = some c' := by simpa using e2
        rw [e1] at e3; cases e3
        exact .str _ _ _ rfl fun y hy => by
          simp at hy; subst hy
          exact kx _ (List.mem_of_getElem? e2)
      · rw [List.mem_singleton.mp hb]
        exact .inl ⟨Nat.le_refl _, by rw [Heap.size_push]; exact Nat.lt_succ_self _⟩
    · cases e
  · cases e

theorem enum_get (ds : List D) (i : Nat) {d : D} (h : (enumD ds)[i]? = some d) : ∃ x, ds[i]? = some x ∧ d = .tup [.int i, x] := by
  unfold enumD at h
  simp only [List.getElem?_map, Option.map_eq_some_iff, List.getElem?_zipIdx] at h
  obtain ⟨p, ⟨x, h1, rfl⟩, rfl⟩ := h
  exact ⟨x, h1, by simp⟩
theorem zip_get (a b : List D) (i : Nat) {d : D} (h : (zipD a b)[i]? = some d) : ∃ x y, a[i]? = some x ∧ b[i]? = some y ∧ d = .tup [x, y] := by
  unfold zipD at h
  simp only [List.getElem?_map, Option.map_eq_some_iff, List.getElem?_zip_eq_some] at h
  obtain ⟨p, ⟨h1, h2⟩, rfl⟩ := h
  exact ⟨_, _, h1, h2, rfl⟩

theorem it_range (R : Room n A) {a b : Int} (P : ItPost C X A t (rangeD a b) σ g am s Q) (S : St X g am σ s.heap) (ht : TK C s.toks) (hn : isName t = true) (h : -16777216 ≤ a ∧ a ≤ lim ∧ -16777216 ≤ b ∧ b ≤ lim ∧ b - a ≤ lim)
    {r : Addr} {t₁ u₁ v₁ : Tok} (hr : IsRange s.heap r a b 1 t₁ u₁ v₁) : wpAny (model X.prog X.w) A (pyIter (.ref r)) Q NEx s := by
  have hz : (lim : Int) = 16777216 := rfl
  have hlen : (rangeD a b).length = (b - a).toNat := by simp [rangeD]
  refine wpAny_pyIter_range hr (small_one (by lia) (by lia) (by lia) (by lia)) ?_
  have W := LCg.range_walks (prog := X.prog) (w := X.w) (I := s.heap.objs.size) R.handled a (b - a).toNat
  rw [← hlen] at W
  have := it_new (tk := s.toks) P S ht (h' := s.heap.push { cls := .type "range_iterator", data := .fields #[rawInt a, rawInt (Builtin.Range.rangeSize a b 1), rawInt 1] }) (fun b o e => Heap.get?_push_of_some _ e) (by rw [Heap.size_push]; lia) ht
    (turns_walk W (fun i v d hd hv g' am' hg ha => ?_) fun i v d s' Q' hd hv st hq => go_name hn hq) ?_ (fun c hc => ?_) (by rw [hlen]; have : lim = 16777216 := rfl; lia)
  · exact this
  · obtain ⟨tt, rfl⟩ := hv
    unfold rangeD at hd
    simp only [List.getElem?_map, Option.map_eq_some_iff] at hd
    obtain ⟨k, e1, rfl⟩ := hd
    have : k = i := by
      have := (List.getElem?_eq_some_iff.mp e1).2
      simpa using this.symm
    subst this
    exact .int _ _
  · show IsRangeIter _ _ _ _ _
    rw [hlen, ← rangeSize_nat]
    simpa using Heap.get?_push_size _ rfl
  · rw [List.mem_singleton.mp hc]
    exact .inl ⟨Nat.le_refl _, by rw [Heap.size_push]; exact Nat.lt_succ_self _⟩
theorem it_enum (R : Room n A) {l : List D} (P : ItPost C X A t (enumD l) σ g am s Q) (S : St X g am σ s.heap) (ht : TK C s.toks) (hn : isTuple t = true) (hl : l.length ≤ lim) {v : Value} (rv : Rep X g am v (.list l)) :
    wpAny (model X.prog X.w) A (call (.type "enumerate") [v]) (fun xv s₁ => wpAny (model X.prog X.w) A (pyIter xv) Q NEx s₁) NEx s := by
  obtain ⟨a, k, vs, rfl, h1, rs⟩ := rep_list rv
  have ho := S.gin _ _ h1
  have hL : s.heap.IsList a vs.toArray := ⟨_, ho, rfl, k, rfl⟩
  have hlt : a < s.heap.objs.size := Heap.lt_size ho
  have hlen := rs.length
  have el : (enumD l).length = l.length := by simp [enumD]
  refine call_enumerate_list hL fun h' he hit hsz hk => ?_
  have W := WalksT.enumerate (prog := X.prog) (w := X.w) R.handled (s.heap.objs.size + 1) s.heap.objs.size a (Nat.succ_ne_self _) (Nat.ne_of_lt (Nat.lt_succ_of_lt hlt)) (Nat.ne_of_lt hlt) vs.toArray
  rw [show vs.toArray.size = (enumD l).length by simp [hlen, el]] at W
  have st : (∃ old, IsEnum h' (s.heap.objs.size + 1) s.heap.objs.size ((0 : Nat) : Int) old) ∧ h'.IsListIter s.heap.objs.size a 0 ∧ h'.IsList a vs.toArray := ⟨⟨_, he⟩, hit, hL.at fun o e => hk a o e⟩
  refine W.self 0 { s with heap := h' } _ NEx st ?_
  obtain ⟨elts, kk, pos, rfl⟩ := isTuple_is hn
  refine it_new (tk := s.toks) P S ht hk (by rw [hsz]; lia) ht (turns_tup W fun i vals d hd hv => ?_) st (fun b hb => ?_) (by rw [el]; exact hl)
  · obtain ⟨u, x, e1, rfl⟩ := hv
    obtain ⟨y, e2, rfl⟩ := enum_get l i hd
    obtain ⟨v', e3, r⟩ := rs.get e2
    have : x = v' := by
      have : vs[i]? = some x := by simpa using e1
      rw [this] at e3; cases e3; rfl
    subst this
    exact ⟨_, rfl, fun g' am' hg ha => .cons (.int _ _) (.cons (r.mono hg ha) .nil)⟩
  · simp only [List.mem_cons, List.not_mem_nil, or_false] at hb
    rcases hb with rfl | rfl | rfl
    · exact .inl ⟨Nat.le_succ _, by rw [hsz]; exact Nat.lt_succ_self _⟩
    · exact .inl ⟨Nat.le_refl _, by rw [hsz]; exact Nat.lt_add_of_pos_right (by decide)⟩
    · exact .inr ⟨by
        intro hm
        simp only [List.mem_cons, List.not_mem_nil, or_false] at hm
        rcases hm with e | e
        · exact Nat.ne_of_lt (Nat.lt_succ_of_lt hlt) e
        · exact Nat.ne_of_lt hlt e, _, h1⟩

theorem it_zip (R : Room n A) {l m : List D} (P : ItPost C X A t (zipD l m) σ g am s Q) (S : St X g am σ s.heap) (ht : TK C s.toks) (hn : isTuple t = true) (hlm : l.length = m.length) (hl : l.length ≤ lim) {v w : Value} (rv : Rep X g am v (.list l)) (rw' : Rep X g am w (.list m)) :
    wpAny (model X.prog X.w) A (call (.type "zip") [v, w]) (fun xv s₁ => wpAny (model X.prog X.w) A (pyIter xv) Q NEx s₁) NEx s := by
  obtain ⟨a, k, vs, rfl, h1, rs⟩ := rep_list rv
  obtain ⟨b, k2, ws, rfl, h2, rs2⟩ := rep_list rw'
  have ho := S.gin _ _ h1
  have ho2 := S.gin _ _ h2
  have hL : s.heap.IsList a vs.toArray := ⟨_, ho, rfl, k, rfl⟩
  have hL2 : s.heap.IsList b ws.toArray := ⟨_, ho2, rfl, k2, rfl⟩
  have hlt : a < s.heap.objs.size := Heap.lt_size ho
  have hlt2 : b < s.heap.objs.size := Heap.lt_size ho2
  have hlen := rs.length
  have hlen2 := rs2.length
  have el : (zipD l m).length = l.length := by simp [zipD, hlm]
  refine call_zip_2 hL hL2 fun h' hz hTI hTO hi1 hi2 hsz hk => ?_
  have W := WalksT.zip2 (prog := X.prog) (w := X.w) R.handled _ _ _ _ _ _ _ (zipApart_new hlt hlt2) vs.toArray ws.toArray
  rw [show min vs.toArray.size ws.toArray.size = (zipD l m).length by simp [hlen, hlen2, el, hlm]] at W
  have st : IsZip h' (s.heap.objs.size + 4) (s.heap.objs.size + 2) (s.heap.objs.size + 3) .none ∧ IsPair h' (s.heap.objs.size + 2) (.ref s.heap.objs.size) (.ref (s.heap.objs.size + 1)) ∧ (∃ p q, IsPair h' (s.heap.objs.size + 3) p q) ∧
      h'.IsListIter s.heap.objs.size a 0 ∧ h'.IsListIter (s.heap.objs.size + 1) b 0 ∧ h'.IsList a vs.toArray ∧ h'.IsList b ws.toArray := ⟨hz, hTI, ⟨_, _, hTO⟩, hi1, hi2, hL.at fun o e => hk a o e, hL2.at fun o e => hk b o e⟩
  refine W.self 0 { s with heap := h' } _ NEx st ?_
  obtain ⟨elts, kk, pos, rfl⟩ := isTuple_is hn
  refine it_new (tk := s.toks) P S ht hk (by rw [hsz]; lia) ht (turns_tup W fun i vals d hd hv => ?_) st (fun c hc => ?_) (by rw [el]; exact hl)
  · obtain ⟨x, y, e1, e2, rfl⟩ := hv
    obtain ⟨x', y', f1, f2, rfl⟩ := zip_get l m i hd
    obtain ⟨v', e3, r⟩ := rs.get f1
    obtain ⟨w', e4, r2⟩ := rs2.get f2
    have : x = v' := by
      have : vs[i]? = some x := by simpa using e1
      rw [this] at e3; cases e3; rfl
    subst this
    have : y = w' := by
      have : ws[i]? = some y := by simpa using e2
      rw [this] at e4; cases e4; rfl
    subst this
    exact ⟨_, rfl, fun g' am' hg ha => .cons (r.mono hg ha) (.cons (r2.mono hg ha) .nil)⟩
  · have old : ∀ c, c < s.heap.objs.size → c ∉ [s.heap.objs.size + 4, s.heap.objs.size + 3, s.heap.objs.size, s.heap.objs.size + 1] := by
      intro c hc hm
      simp only [List.mem_cons, List.not_mem_nil, or_false] at hm
      rcases hm with e | e | e | e <;> rw [e] at hc <;> exact absurd hc (by simp [Nat.not_lt])
    have new : ∀ k, k < 5 → s.heap.objs.size ≤ s.heap.objs.size + k ∧ s.heap.objs.size + k < h'.objs.size := fun k hk => ⟨Nat.le_add_right _ _, by rw [hsz]; exact Nat.add_lt_add_left hk _⟩
    simp only [List.mem_cons, List.not_mem_nil, or_false] at hc
    rcases hc with rfl | rfl | rfl | rfl | rfl | rfl | rfl
    · exact .inl (new 4 (by decide))
    · exact .inl (new 2 (by decide))
    · exact .inl (new 3 (by decide))
    · exact .inl (new 0 (by decide))
    · exact .inl (new 1 (by decide))
    · exact .inr ⟨old _ hlt, _, h1⟩
    · exact .inr ⟨old _ hlt2, _, h2⟩


end
/-! what a loop goes over -/
structure EvIt (C : Ctx) (n : Nat) (ei : EI) (t e : Expr) (ρ : VarsN) (σ : Store) (ds : List D) (σ' : Store) : Prop where
  fold : ∀ env x, foldedSetIterable e env x = pure x
  run : Runs1 C n ei ρ σ fun X A env g am s => ∀ Q, ItPost C X A t ds σ' g am s Q → wpAny (model X.prog X.w) A (eval e env) (fun xv s₁ => wpAny (model X.prog X.w) A (pyIter xv) Q NEx s₁) NEx s
section
variable {C : Ctx} {n : Nat} {ei : EI} {ρ : VarsN} {σ σ₁ σ₂ σ₃ : Store} {p q fp : Pos} {a b d r : D} {l : List Nat} {ds es : List D} {k : Nat}
/- the call of a type, drawn from -/
theorem it_call {t : Expr} {f : Str} {args : List Expr} {cp : Pos} {T : BI} {T' : String} (hT : T.val = .type T') (h1 : getV ei C.glob (nm f) ρ = some (.bi T)) (h2 : EvEs C n ei args ρ σ es σ₁)
    (h : ∀ X A g am s vs Q, Room n A → St X g am σ₁ s.heap → TK C s.toks → Reps X g am vs es → ItPost C X A t ds σ₁ g am s Q → wpAny (model X.prog X.w) A (call (.type T') vs) (fun xv s₁ => wpAny (model X.prog X.w) A (pyIter xv) Q NEx s₁) NEx s) :
    EvIt C (n + 1) ei t (.Call (.Name f fp) args [] cp) ρ σ ds σ₁ := by
  refine ⟨fun _ _ => rfl, fun X W A env g am s ht R S F Q P => ?_⟩
  refine wpAny_Call_Name_kw (Name_ok W.o S F h1 fun v rv => ?_)
  cases rv
  rw [hT]
  refine PySem.callWith_type (h2.plain env cp) ?_
  refine args_ok W h2 ht (R.less (Nat.le_succ _)) S F fun vs g₁ am₁ s₁ x₁ S₁ r₁ ht₁ => ?_
  exact h X A g₁ am₁ s₁ vs Q (R.less (Nat.le_succ _)) S₁ ht₁ r₁ (ItPost.trans P x₁)
theorem it_rangeN {X : Cx} {A : Around} {g : G} {am : List Addr} {s : Shared} {t : Expr} {i j : Int} {Q : Value → Shared → Prop} {t₁ t₂ t₃ : Tok} {tk : Nat} (R : Room n A) (S : St X g am σ s.heap) (P : ItPost C X A t (rangeD i j) σ g am s Q) (hn : isName t = true) (h : -16777216 ≤ i ∧ i ≤ lim ∧ -16777216 ≤ j ∧ j ≤ lim ∧ j - i ≤ lim) (htk : TK C tk) :
    wpAny (model X.prog X.w) A (pyIter (.ref s.heap.objs.size)) Q NEx { s with heap := s.heap.push { cls := .type "range", data := .fields #[.int i t₁, .int j t₂, .int 1 t₃] }, toks := tk } := by
  have hk : ∀ c o, s.heap.get? c = some o → (s.heap.push { cls := .type "range", data := .fields #[.int i t₁, .int j t₂, .int 1 t₃] }).get? c = some o := fun a o e => Heap.get?_push_of_some _ e
  exact it_range R (ItPost.trans P (Stp.keepG hk (by rw [Heap.size_push]; exact Nat.le_succ _))) (S.keepG hk) htk hn h (IsRange.new ..)
theorem itRange1 {t : Expr} {f : Str} {args : List Expr} {cp : Pos} {i : Int} (h0 : (isName t && decide (args.length < 3)) = true) (h1 : getV ei C.glob (nm f) ρ = some (.bi .range)) (h2 : EvEs C n ei args ρ σ [.int i] σ₁) (h3 : 0 ≤ i ∧ i ≤ lim) :
    EvIt C (n + 1) ei t (.Call (.Name f fp) args [] cp) ρ σ (rangeD 0 i) σ₁ := by
  rw [Bool.and_eq_true] at h0
  refine it_call (T := .range) rfl h1 h2 fun X A g am s vs Q R S ht rs P => ?_
  cases rs with | cons q rs => cases rs with | nil =>
  obtain ⟨u, rfl⟩ := rep_int q
  refine call_range_1 (it_rangeN R S P h0.1 ?_ TK.i)
  have hz : lim = 16777216 := rfl
  lia
theorem itRange2 {t : Expr} {f : Str} {args : List Expr} {cp : Pos} {i j : Int} (h0 : (isName t && decide (args.length < 3)) = true) (h1 : getV ei C.glob (nm f) ρ = some (.bi .range)) (h2 : EvEs C n ei args ρ σ [.int i, .int j] σ₁)
    (h3 : -16777216 ≤ i ∧ i ≤ lim ∧ -16777216 ≤ j ∧ j ≤ lim ∧ j - i ≤ lim) : EvIt C (n + 1) ei t (.Call (.Name f fp) args [] cp) ρ σ (rangeD i j) σ₁ := by
  rw [Bool.and_eq_true] at h0
  refine it_call (T := .range) rfl h1 h2 fun X A g am s vs Q R S ht rs P => ?_
  cases rs with | cons q rs => cases rs with | cons q2 rs => cases rs with | nil =>
  obtain ⟨u, rfl⟩ := rep_int q
  obtain ⟨u2, rfl⟩ := rep_int q2
  exact call_range_2 (it_rangeN R S P h0.1 h3 TK.i)
theorem itEnum {t : Expr} {f : Str} {args : List Expr} {cp : Pos} (h0 : (isTuple t && decide (args.length < 3)) = true) (h1 : getV ei C.glob (nm f) ρ = some (.bi .enumerate)) (h2 : EvEs C n ei args ρ σ [.list ds] σ₁) (h3 : ds.length ≤ lim) :
    EvIt C (n + 1) ei t (.Call (.Name f fp) args [] cp) ρ σ (enumD ds) σ₁ := by
  rw [Bool.and_eq_true] at h0
  refine it_call (T := .enumerate) rfl h1 h2 fun X A g am s vs Q R S ht rs P => ?_
  cases rs with | cons q rs => cases rs with | nil =>
  exact it_enum R P S ht h0.1 h3 q
theorem itZip {t : Expr} {f : Str} {args : List Expr} {cp : Pos} (h0 : (isTuple t && decide (args.length < 3)) = true) (h1 : getV ei C.glob (nm f) ρ = some (.bi .zip)) (h2 : EvEs C n ei args ρ σ [.list ds, .list es] σ₁) (h3 : ds.length = es.length ∧ ds.length ≤ lim) :
    EvIt C (n + 1) ei t (.Call (.Name f fp) args [] cp) ρ σ (zipD ds es) σ₁ := by
  rw [Bool.and_eq_true] at h0
  refine it_call (T := .zip) rfl h1 h2 fun X A g am s vs Q R S ht rs P => ?_
  cases rs with | cons q rs => cases rs with | cons q2 rs => cases rs with | nil =>
  exact it_zip R P S ht h0.1 h3.1 h3.2 q q2
/- no call of a name -/
noncomputable def noCall : Expr → Bool
  | .Call (.Name _ _) _ [] _ => false
  | _ => true
theorem itD {t e : Expr} (h1 : EvE C n ei e ρ σ d σ₁) (h2 : itemsD t d = some ds) (h3 : ds.length ≤ lim) : EvIt C (n + 1) ei t e ρ σ ds σ₁ := by
  refine ⟨h1.nice.fold, fun X W A env g am s ht R S F Q P => ?_⟩
  refine h1.run X W A env g am s ht (R.less (Nat.le_succ _)) S F _ fun v g₁ am₁ s₁ x₁ S₁ r₁ ht₁ => ?_
  exact it_list R (P.trans x₁) S₁ ht₁ h2 h3 r₁
theorem itE {t e : Expr} (h0 : noCall e = true) (h1 : EvE C n ei e ρ σ d σ₁) (h2 : itemsD t d = some ds) (h3 : ds.length ≤ lim) : EvIt C (n + 1) ei t e ρ σ ds σ₁ := itD h1 h2 h3
end
end
section
theorem assign_tup {prog : Program} {w : World} {A : Around} {E : Value → Shared → Prop} {s : Shared} {env : Env} {elts : List Expr} {k : Nat} {pos : Pos} {t : Addr} {items : Array Value} {Q : Unit → Shared → Prop} (hh : A.handled = none) (ht : s.heap.IsTuple t items)
    (hn : (assignEach elts env).length = items.size) (hstar : (assignEach elts env).findIdx? (·.1) = none)
    (h : ∀ h', Heap.ExtBut s.heap.objs.size s.heap h' → s.heap.objs.size ≤ h'.objs.size → wpAny (model prog w) A (assignInOrder ((assignEach elts env).map (·.2)) items.toList) Q E { s with heap := h' }) :
    wpAny (model prog w) A (assign (.Tuple elts k pos) env (.ref t)) Q E s := by
  rw [arm_assign_Tuple]
  refine wpAny_bind (wpAny_standAt ?_)
  unfold unpack
  rw [hn, hstar]
  exact wpAny_bind (wpAny_holding (with_sizeE (wpAny_unpackItems_tuple hh ht fun h' he hz => h h' he hz)))

section
variable {prog : Program} {w : World} {A : Around} {E : Value → Shared → Prop} {s : Shared}
theorem setItem_exact {l : Addr} {items : Array Value} {n : Nat} {k : Int} {t : Tok} {v : Value} {Q : Unit → Shared → Prop} (ho : s.heap.get? l = some { cls := .type "list", data := .seq items n })
    (h0 : 0 ≤ k) (hfit : k < 2 ^ 63) (hn : k < items.size)
    (hQ : ∀ h' n', h'.get? l = some { cls := .type "list", data := .seq (items.setIfInBounds k.toNat v) n' } → Heap.SameBut l s.heap h' → Q () { s with heap := h' }) :
    wpAny (model prog w) A (setItem (.ref l) (.int k t) v) Q E s := by
  have hl : s.heap.IsList l items := ⟨_, ho, rfl, n, rfl⟩
  unfold setItem
  try with_reducible refine wpAny_holding ?_
  first | refine wpAny_bind (wpAny_pure ?_) | skip
  refine wpAny_bind (wpAny_sequenceKey hl.typeIs (by decide) ?_)
  refine wpAny_bind (wpAny_callSpecial?_slot (name := Str.ofString "__setitem__") hl.typeIs slot_list_setitem
    (wpAny_call_entry slot_list_setitem hl.typeIs entry_list_setitem ?_ (args_list_setitem _ _ _)))
  show wpAny _ _ (Builtin.List.listSubscript? (.int k t) >>= _) _ _ s
  refine wpAny_bind (wpAny_listSubscript_int (fitsIndex_of h0 hfit) ?_)
  clear hfit
  obtain ⟨j, rfl⟩ := Int.eq_ofNat_of_zero_le h0
  have hj : j < items.size := by lia
  have hx' : items[j]? = some items[j] := Array.getElem?_eq_getElem hj
  show wpAny _ _ ((seqItemAt l j >>= fun r => pure (r.map (j, ·))) >>= _) _ _ s
  refine wpAny_bind (wpAny_bind (wpAny_seqItemAt ho rfl (wpAny_pure ?_)))
  rw [hx']
  show wpAny _ _ (setSeqItemAt l j v >>= _) _ _ s
  have hfin : ∃ n', (s.heap.update l (Obj.mapSeq (·.setIfInBounds j v))).get? l = some { cls := .type "list", data := .seq (items.setIfInBounds j v) n' } := by
    have e := Heap.get?_update_self (Obj.mapSeq (·.setIfInBounds j v)) ho rfl
    unfold Obj.mapSeq at e ⊢
    exact ⟨_, e⟩
  obtain ⟨n', hfin⟩ := hfin
  refine wpAny_bind (wpAny_setSeqItemAt ho rfl ?_)
  first
    | exact wpAny_bind (wpAny_pure (wpAny_pure ⟨.none, rfl, wpAny_pure (hQ _ _ hfin (Heap.SameBut.update ..))⟩))
    | exact wpAny_pure ⟨.none, rfl, wpAny_pure (hQ _ _ hfin (Heap.SameBut.update ..))⟩
end

section
variable {K : Frag} {X : Cx} {C : Ctx} {g : G} {am : List Addr} {σ σ' : Store} {s : Shared} {A : Around} {n : Nat} {env : Env} {ei : EI} {ρ : VarsN}

theorem nsSet_sz {M : Model} {E : Value → Shared → Prop} {a : Addr} {m} {z : Nat} (hn : NsZ s.heap a m z) (name : Str) (v : Value) {Q : Unit → Shared → Prop}
    (hQ : ∀ h', NsZ h' a (fun x => if x = name then some v else m x) (if (m name).isSome then z else z + 1) → Heap.SameBut a s.heap h' →
      Q () { s with heap := h', toks := s.toks + 1 }) : wpAny M A (nsSet a name v) Q E s := by
  obtain ⟨o, es, ep, ho, hd, hk, hm, hz⟩ := hn
  refine fun Γ p _ => ?_
  simp only [nsSet, strHash, Sem.wp_bind', Sem.wp_cmd_ask, Sem.wp_pure', Sem.wp_cmd_mkText]
  rw [Sem.wp_loadPart_of M Γ _ p { s with toks := s.toks + 1 } (o := o) _ ho]
  have hany : es.any (·.refKey) = false := by
    rw [Array.any_eq_false']; intro e he; obtain ⟨n, t, h⟩ := hk e he; simp [DictEntry.refKey, h]
  simp only [hd, aRefKeyMayBeTheName_eq, aRefKeyMayBeTheNameByArray, hany, Bool.and_false, Bool.false_eq_true, if_false, Sem.wp_cmd_updatePart]
  refine ⟨by rw [ho]; rfl, hQ _ ?_ (Heap.SameBut.update ..)⟩
  obtain ⟨c, d, dt, sl⟩ := o
  subst hd
  cases hi : es.findIdx? (·.key.isStr name) with
  | some i =>
    refine ⟨_, _, ep, Heap.get?_update_self _ ho (by simp only [Obj.putName_eq, Obj.putNameByArray, hi]; rfl), by simp only [Obj.putName_eq, Obj.putNameByArray, hi]; rfl, hk.modify _ _, fun x => ?_, ?_⟩
    · show _ = if x = name then some v else m x
      rw [← hm]; exact findBy_modify (fun n v => v.isStr n) Value.isStr_inj es name x v i hi
    · rw [Array.size_modify]
      split <;> lia
  | none =>
    refine ⟨_, _, ep + 1, Heap.get?_update_self _ ho (by simp only [Obj.putName_eq, Obj.putNameByArray, hi]; rfl), by simp only [Obj.putName_eq, Obj.putNameByArray, hi]; rfl, hk.push _ _ _ _, fun x => ?_, ?_⟩
    · show _ = if x = name then some v else m x
      rw [← hm]
      exact findBy_push (fun n v => v.isStr n) es name x _ _ v (fun y => by
        show (name == y) = decide (y = name)
        by_cases h : y = name
        · subst h; simp
        · have : (name == y) = false := by simpa using fun e => h e.symm
          rw [this, decide_eq_false h]) hi
    · rw [Array.size_push]
      have : m name = none := by
        rw [← hm]
        unfold nsFind
        rw [findBy_of_findIdx?, hi]
      rw [this]
      simp; lia
/- a thing of the store is changed -/
theorem St.set {h h' : Heap} (S : St X g am σ h) {i : Nat} {a : Addr} {so : SO} (hi : am[i]? = some a) (hk : ∀ b o, b ≠ a → h.get? b = some o → h'.get? b = some o) (hso : SORep X g am h' a so) : St X g am (σ.set i so) h' := by
  have ha : a ∈ am := List.mem_of_getElem? hi
  have hga := S.amg a ha
  refine ⟨fun b o e => hk b o (fun q => by rw [q, hga] at e; cases e) (S.gin b o e), S.base, S.tabg, fun t ht => ?_, S.amg, S.amt, S.nodup, by rw [List.length_set]; exact S.len, fun j b so' e1 e2 => ?_⟩
  · obtain ⟨ps, e, r⟩ := S.tab t ht
    exact ⟨ps, hk _ _ (fun q => S.amt a ha ⟨t, ht, q⟩) e, r⟩
  · by_cases q : i = j
    · subst q
      rw [hi] at e1; cases e1
      have hl : i < σ.length := by rw [← S.len]; exact (List.getElem?_eq_some_iff.mp hi).1
      rw [List.getElem?_set_self hl] at e2
      cases e2
      exact hso
    · rw [List.getElem?_set_ne q] at e2
      have hne : b ≠ a := fun z => by
        subst z
        obtain ⟨h1, h2⟩ := List.getElem?_eq_some_iff.mp hi
        obtain ⟨h3, h4⟩ := List.getElem?_eq_some_iff.mp e1
        have nd := List.pairwise_iff_getElem.mp S.nodup
        rcases Nat.lt_trichotomy i j with hlt | hlt | hlt
        · exact nd i j h1 h3 hlt (h2.trans h4.symm)
        · exact q hlt
        · exact nd j i h3 h1 hlt (h4.trans h2.symm)
      exact (S.so j b so' e1 e2).at (G.Le.refl g) (fun _ _ e => e) fun o e => hk b o hne e
theorem Stp.set {h' : Heap} {tk : Nat} {a : Addr} (ha : a ∈ am) (hk : Heap.SameBut a s.heap h') : Stp (Wx X am) g am s g am { s with heap := h', toks := tk } :=
  ⟨⟨h', tk, rfl⟩, fun b o hb e => (hk.2 b (fun q => hb (.inl (q ▸ ha)))).trans e, fun _ _ => rfl, ⟨[], by simp⟩, Nat.le_of_eq hk.1.symm⟩

theorem putA_ok {a : Str} {w : Value} {d : D} (rw' : Rep X g am w d) : ∀ {ns : List Str} {vs : List Value} {ds : List D}, ns.length = vs.length → Reps X g am vs ds →
    ∃ vs', (putA a d ns ds).1.length = vs'.length ∧ Reps X g am vs' (putA a d ns ds).2 ∧ ∀ x, lookV (putA a d ns ds).1 vs' x = if x = a then some w else lookV ns vs x
  | [], [], _, _, .nil => ⟨[w], rfl, .cons rw' .nil, fun x => by
      by_cases h : x = a
      · subst h; simp [putA, lookV]
      · have : (x == a) = false := by simpa using h
        simp [putA, lookV, List.lookup_cons, this, h]⟩
  | k :: ns, [], _, hl, _ => by simp at hl
  | [], v :: vs, _, hl, _ => by simp at hl
  | k :: ns, v :: vs, _, hl, .cons (d := d') (ds := ds) r rs => by
    by_cases q : nm k = nm a
    · have := nm_inj q
      subst this
      refine ⟨w :: vs, ?_, ?_, fun x => ?_⟩
      · simp only [putA, if_true]; exact hl
      · simp only [putA, if_true]; exact .cons rw' rs
      · simp only [putA, if_true]
        by_cases h : x = k
        · subst h; simp [lookV]
        · have : (x == k) = false := by simpa using h
          simp [lookV, List.lookup_cons, this, h]
    · obtain ⟨vs', h1, h2, h3⟩ := putA_ok rw' (a := a) (ns := ns) (vs := vs) (by simpa using hl) rs
      refine ⟨v :: vs', ?_, ?_, fun x => ?_⟩
      · simp only [putA, if_neg q, List.length_cons, h1]
      · simp only [putA, if_neg q]; exact .cons r h2
      · simp only [putA, if_neg q]
        have h3 := h3 x
        unfold lookV at h3 ⊢
        simp only [List.zip_cons_cons, List.lookup_cons]
        cases hx : x == k with
        | true =>
          have : x ≠ a := fun z => q (by rw [← z, eq_of_beq hx])
          simp [this]
        | false => exact h3

theorem putA_le {a : Str} {d : D} : ∀ (ns : List Str) (ds : List D), (putA a d ns ds).1.length ≤ ns.length + 1
  | [], _ => by simp [putA]
  | k :: ns, [] => by simp [putA]
  | k :: ns, v :: ds => by
    have ih := putA_le (a := a) (d := d) ns ds
    unfold putA
    split
    · simp
    · simp only [List.length_cons]; lia
theorem putA_len {a : Str} {d : D} : ∀ {ns : List Str} {vs : List Value} {ds : List D}, ns.length = vs.length → Reps X g am vs ds → (if (lookV ns vs a).isSome then ns.length else ns.length + 1) ≤ (putA a d ns ds).1.length
  | [], [], _, _, .nil => by simp [putA, lookV]
  | k :: ns, [], _, hl, _ => by simp at hl
  | [], v :: vs, _, hl, _ => by simp at hl
  | k :: ns, v :: vs, _, hl, .cons (d := d') (ds := ds) r rs => by
    have ih := putA_len (a := a) (d := d) (ns := ns) (vs := vs) (by simpa using hl) rs
    by_cases q : nm k = nm a
    · have := nm_inj q
      subst this
      simp [putA, lookV]
    · have h2 : (a == k) = false := by
        cases z : a == k with
        | false => rfl
        | true => exact absurd (congrArg nm (eq_of_beq z)).symm q
      unfold lookV at ih ⊢
      simp only [putA, if_neg q, List.zip_cons_cons, List.lookup_cons, h2, List.length_cons]
      split at ih
      · rename_i z; rw [if_pos z]; lia
      · rename_i z; rw [if_neg z]; lia
theorem setA_ok (H : KOk K X C) (S : St X g am σ s.heap) {d e : D} {a : Str} {v w : Value} {Q : Unit → Shared → Prop} (h : setA C σ d a e = some σ') (rv : Rep X g am v d) (rw' : Rep X g am w e)
    (hQ : ∀ s', Stp (Wx X am) g am s g am s' → St X g am σ' s'.heap → Q () s') : wpAny (model X.prog X.w) A (setAttr v a w) Q NEx s := by
  unfold setA at h
  split at h
  · rename_i i
    split at h
    · rename_i c m hi
      split at h
      · rename_i k ns ds hk hm
        split at h
        · rename_i hc
          cases h
          simp only [Bool.and_eq_true, decide_eq_true_eq] at hc
          obtain ⟨x, rfl, hx⟩ := rep_loc rv
          obtain ⟨dx, e1, e2⟩ := S.so _ _ _ hx hi
          obtain ⟨vs, h2, h3, rs⟩ := S.so _ _ _ e1 hm
          obtain ⟨o, es, ep, g1, g2, g3, g4, g5⟩ := id h2
          have I : InstAt s.heap x (instObj c dx) c (some o) := ⟨e2, rfl, rfl, g1⟩
          have hK := H.at S
          obtain ⟨p1, p2, p3⟩ := H.sets c k hk
          refine set_plain hK I p1 (osa_open (s := { s with toks := s.toks + 1 }) hK I p2 (H.taker c k hk a hc.1) fun b => ?_)
          obtain ⟨cd, hcd, hd'⟩ := any_some p3
          refine wpAny_bind (wpAny_pure (wpAny_bind (wpAny_bind (wpAny_loadPart e2 (wpAny_bind (Looks.here (s := { s with toks := s.toks + 1 }) (looks_clsIn hK hcd) ?_))))))
          rw [hd']
          refine wpAny_pure (a := some dx) (wpAny_bind (wpAny_pure (wpAny_bind ?_)))
          refine nsSet_sz (s := { s with toks := s.toks + 1 }) h2 a w fun h' hn hs => ?_
          have ha : dx ∈ am := List.mem_of_getElem? e1
          obtain ⟨vs', q1, q2, q3⟩ := putA_ok (a := a) rw' h3 rs
          have hlen := putA_len (a := a) (d := e) h3 rs
          obtain ⟨o', es', ep', f1, f2, f3, f4, f5⟩ := hn
          have f5' : es'.size ≤ (putA a e ns ds).1.length := Nat.le_trans f5 hlen
          refine wpAny_bind (wpAny_lookBehind f1 (by rw [f2]; exact pastItsLine_dict (by
            have := putA_le (a := a) (d := e) ns ds
            have hz : sizeLine = 16777216 := rfl
            lia)) ?_)
          refine wpAny_pure (hQ _ (Stp.set ha hs) (S.set e1 (fun b o hb e => (hs.2 b hb).trans e) ⟨vs', ?_, q1, q2⟩))
          exact ⟨o', es', ep', f1, f2, f3, fun name => (f4 name).trans (q3 name).symm, f5'⟩
        · cases h
      · cases h
    · cases h
  · cases h

theorem Reps.set {w : Value} {e : D} (rw' : Rep X g am w e) : ∀ {vs : List Value} {ds : List D}, Reps X g am vs ds → ∀ i, Reps X g am (vs.set i w) (ds.set i e)
  | _, _, .nil, i => .nil
  | _, _, .cons r rs, 0 => .cons rw' rs
  | _, _, .cons r rs, i + 1 => .cons r (Reps.set rw' rs i)
theorem setL_ok (S : St X g am σ s.heap) {d i e : D} {v j w : Value} {Q : Unit → Shared → Prop} (h : storeD σ d i e = some σ') (rv : Rep X g am v d) (rj : Rep X g am j i) (rw' : Rep X g am w e)
    (hQ : ∀ s', Stp (Wx X am) g am s g am s' → St X g am σ' s'.heap → Q () s') : wpAny (model X.prog X.w) A (setItem v j w) Q NEx s := by
  unfold storeD at h
  split at h
  · rename_i m i
    split at h
    · rename_i l hl
      split at h
      · rename_i hc
        cases h
        obtain ⟨a, rfl, ha⟩ := rep_loc rv
        obtain ⟨u, rfl⟩ := rep_int rj
        obtain ⟨k, vs, e1, rs⟩ := S.so _ _ _ ha hl
        have hlen := rs.length
        refine setItem_exact e1 hc.1 (by lia) (by simp [hlen]; lia) fun h' n' e2 hs => ?_
        have hr : Reps X g am (vs.set i.toNat w) (l.set i.toNat e) := rs.set rw' _
        refine hQ _ (Stp.set (tk := s.toks) (List.mem_of_getElem? ha) hs) (S.set ha (fun b o hb e => (hs.2 b hb).trans e) ⟨n', vs.set i.toNat w, ?_, hr⟩)
        rw [e2]
        simp
      · cases h
    · cases h
  · cases h
theorem PostF.trans {g₁ am₁ s₁ ρ'} {Q : Unit → Shared → Prop} (P : PostF X ei env ρ' σ' g am s Q) (x : Stp (Ws X am ei env) g am s g₁ am₁ s₁) : PostF X ei env ρ' σ' g₁ am₁ s₁ Q :=
  fun g₂ am₂ s₂ y S F => P g₂ am₂ s₂ (x.trans y x.ws) S F
theorem Stp.toWs {g₁ am₁ s₁} (x : Stp (Wx X am) g am s g₁ am₁ s₁) : Stp (Ws X am ei env) g am s g₁ am₁ s₁ := x.wide fun _ h => .inl h

theorem setV_put {x : Nat} (h : setV ei x d ρ = some ρ') : ρ' = put x d ρ ∧ ∀ d₂ ρ₂, setV ei x d₂ ρ₂ = some (put x d₂ ρ₂) := by
  unfold setV at h ⊢
  split at h
  · cases h; exact ⟨rfl, fun _ _ => rfl⟩
  · split at h
    · cases h
    · rename_i q; cases h; exact ⟨rfl, fun _ _ => by rw [if_neg q]⟩
  · cases h


end
/-! targets -/
structure AsgT (C : Ctx) (n : Nat) (ei : EI) (t : Expr) (d : D) (ρ : VarsN) (σ : Store) (ρ' : VarsN) (σ' : Store) : Prop where
  star : ∀ ts env, assignEach (t :: ts) env = (false, assign t env) :: assignEach ts env
  list : ∀ es p, t ≠ .List es p
  free : ∀ x, look x ei.kd = some .free → look x ρ' = look x ρ
  name : ∀ x p, t = .Name x p → setV ei (nm x) d ρ = some ρ' ∧ σ' = σ
  run : Runs1 C n ei ρ σ fun X A env g am s => ∀ v, Rep X g am v d → ∀ Q, PostF X ei env ρ' σ' g am s (TQ C Q) → wpAny (model X.prog X.w) A (assign t env v) Q NEx s
structure AsgTs (C : Ctx) (n : Nat) (ei : EI) (ts : List Expr) (ds : List D) (ρ : VarsN) (σ : Store) (ρ' : VarsN) (σ' : Store) : Prop where
  len : ts.length = ds.length
  each : ∀ env, assignEach ts env = ts.map fun t => (false, assign t env)
  free : ∀ x, look x ei.kd = some .free → look x ρ' = look x ρ
  names : plainNames ts = true → ∀ names : List Str, ts.map nameOf = names.map some →
    σ' = σ ∧ ρ' = (names.zip ds).foldl (fun ρ p => put (nm p.1) p.2 ρ) ρ ∧ (∀ x ∈ names, ∀ d₂ ρ₂, setV ei (nm x) d₂ ρ₂ = some (put (nm x) d₂ ρ₂)) ∧ (names.map nm).Nodup
  run : Runs1 C n ei ρ σ fun X A env g am s => ∀ vs, Reps X g am vs ds → ∀ Q, PostF X ei env ρ' σ' g am s (TQ C Q) → wpAny (model X.prog X.w) A (assignInOrder (ts.map fun t => assign t env) vs) Q NEx s
structure AsgEach (C : Ctx) (n : Nat) (ei : EI) (ts : List Expr) (d : D) (ρ : VarsN) (σ : Store) (ρ' : VarsN) (σ' : Store) : Prop where
  star : ∀ t r, ts = t :: r → ∀ env, assignEach (t :: r) env = (false, assign t env) :: assignEach r env
  nil : ts = [] → ρ' = ρ ∧ σ' = σ
  run : Runs1 C n ei ρ σ fun X A env g am s => ∀ v, Rep X g am v d → ∀ Q, PostF X ei env ρ' σ' g am s (TQ C Q) → wpAny (model X.prog X.w) A (assignAll v ((assignEach ts env).map (·.2))) Q NEx s
section
variable {C : Ctx} {n : Nat} {ei : EI} {ρ ρ₁ ρ₂ : VarsN} {σ σ₁ σ₂ σ₃ : Store} {p q fp : Pos} {a b d r : D} {l : List Nat} {ds es : List D} {k : Nat}
theorem setV_free {x y : Nat} (h : setV ei x d ρ = some ρ₁) (hy : look y ei.kd = some .free) : look y ρ₁ = look y ρ := by
  have e := (setV_put h).1
  subst e
  rw [look_put, if_neg fun e => ?_]
  subst e
  unfold setV at h
  rw [hy] at h
  cases h
theorem gName {x : Str} (h : setV ei (nm x) d ρ = some ρ₁) : AsgT C (n + 1) ei (.Name x p) d ρ σ ρ₁ σ :=
  ⟨fun _ _ => rfl, (fun _ _ h => nomatch h), fun y hy => setV_free h hy, (fun y q e => by cases e; exact ⟨h, rfl⟩), fun X W A env g am s ht R S F v r Q P => tpos ht (wpAny_assign_Name (store_ok S F h r fun s' x' S' F' => P g am s' x' S' F'))⟩
theorem gs0 : AsgTs C (n + 1) ei [] [] ρ σ ρ σ :=
  ⟨rfl, fun _ => rfl, fun _ _ => rfl, (fun _ names h => by
    cases names with
    | nil => exact ⟨rfl, rfl, (fun x hx => nomatch hx), List.nodup_nil⟩
    | cons a l => cases h), fun X W A env g am s ht R S F vs rs Q P => by cases rs; exact assignInOrder_nil (P g am s .refl S F ht)⟩
theorem nameOf_is {t : Expr} {x : Str} (h : nameOf t = some x) : ∃ q, t = .Name x q := by
  cases t <;> first | (cases h; done) | skip
  cases h
  exact ⟨_, rfl⟩
theorem gs {t : Expr} {ts : List Expr} (h1 : AsgT C n ei t d ρ σ ρ₁ σ₁) (h2 : AsgTs C n ei ts ds ρ₁ σ₁ ρ₂ σ₂) : AsgTs C (n + 1) ei (t :: ts) (d :: ds) ρ σ ρ₂ σ₂ := by
  refine ⟨congrArg (· + 1) h2.len, fun env => by rw [h1.star, h2.each]; rfl, fun x hx => (h2.free x hx).trans (h1.free x hx), fun hp names hn => ?_, fun X W A env g am s ht R S F vs rs Q P => ?_⟩
  · cases names with
    | nil => cases hn
    | cons a l =>
      simp only [List.map_cons, List.cons.injEq] at hn
      obtain ⟨e, hn⟩ := hn
      obtain ⟨q, rfl⟩ := nameOf_is e
      obtain ⟨h4, h5⟩ := h1.name a q rfl
      obtain ⟨e1, e2⟩ := setV_put h4
      have hp := Bool.and_eq_true_iff.mp (show (plainNames ts && !(ts.any fun e => match e with | .Name y _ => nm y = nm a | _ => false)) = true from hp)
      obtain ⟨q1, q2, q3, q4⟩ := h2.names hp.1 l hn
      refine ⟨q1.trans h5, by rw [q2, e1]; rfl, fun y hy => ?_, ?_⟩
      · rcases List.mem_cons.mp hy with rfl | hy
        · exact e2
        · exact q3 y hy
      · rw [List.map_cons, List.nodup_cons]
        refine ⟨fun hm => ?_, q4⟩
        obtain ⟨y, hy, he⟩ := List.mem_map.mp hm
        have : some y ∈ ts.map nameOf := by rw [hn]; exact List.mem_map_of_mem hy
        obtain ⟨t, ht, htn⟩ := List.mem_map.mp this
        have hp2 := hp.2
        rw [Bool.not_eq_true', List.any_eq_false] at hp2
        obtain ⟨q', rfl⟩ := nameOf_is htn
        exact hp2 _ ht (decide_eq_true he)
  · cases rs with
    | cons r rs =>
      refine assignInOrder_cons (h1.run X W A env g am s ht (R.less (Nat.le_succ _)) S F _ r _ fun g₁ am₁ s₁ x₁ S₁ F₁ ht₁ => ?_)
      exact h2.run X W A env g₁ am₁ s₁ ht₁ (R.less (Nat.le_succ _)) S₁ F₁ _ (rs.stp x₁ S.gin) _ (P.trans x₁)
theorem gTup {ts : List Expr} (h : AsgTs C n ei ts ds ρ σ ρ₁ σ₁) : AsgT C (n + 1) ei (.Tuple ts k p) (.tup ds) ρ σ ρ₁ σ₁ := by
  refine ⟨fun _ _ => rfl, (fun _ _ h => nomatch h), h.free, (fun _ _ h => nomatch h), fun X W A env g am s ht R S F v r Q P => ?_⟩
  obtain ⟨a, o, m, vs, rfl, h1, h2, h3, rs⟩ := rep_tup r
  have e1 := h.each env
  have hlen := rs.length
  refine assign_tup R.handled ⟨o, S.gin _ _ h1, h2, m, h3⟩ (by rw [e1, List.length_map, h.len, ← hlen]; rfl) ?_ fun h' he hz => ?_
  · rw [e1, List.findIdx?_eq_none_iff]
    intro x hx
    obtain ⟨y, _, rfl⟩ := List.mem_map.mp hx
    rfl
  · have hk : ∀ c o, s.heap.get? c = some o → h'.get? c = some o := fun c o e => he c o (Nat.ne_of_lt (Heap.lt_size e)) e
    have x₁ : Stp (Wx X am) g am s g am { s with heap := h' } := Stp.keepG (tk := s.toks) hk hz
    rw [e1, List.map_map]
    exact h.run X W A env g am { s with heap := h' } ht (R.less (Nat.le_succ _)) (S.keepG hk) (F.stp S x₁) vs rs _ (P.trans x₁.toWs)
theorem gAttr {o : Expr} {a' : Str} (h1 : EvE C n ei o ρ σ b σ₁) (h2 : setA C σ₁ b a' d = some σ₂) : AsgT C (n + 1) ei (.Attribute o a' p) d ρ σ ρ σ₂ := by
  refine ⟨fun _ _ => rfl, (fun _ _ h => nomatch h), fun _ _ => rfl, (fun _ _ h => nomatch h), fun X W A env g am s ht R S F v r Q P => tpos ht ?_⟩
  obtain ⟨K, H⟩ := W.k
  rw [arm_assign_Attribute]
  refine wpAny_bind (wpAny_holding (h1.run X W A env g am s ht (R.less (Nat.le_succ _)) S F _ fun ov g₁ am₁ s₁ x₁ S₁ r₁ ht₁ => ?_))
  refine wpAny_bind (wpAny_standAt (wpAny_bind (wpAny_holding (setA_ok H S₁ h2 r₁ (r.stp x₁ S.gin) fun s₂ x₂ S₂ => ?_))))
  have x₁₂ := x₁.trans x₂ x₁.wx
  exact wpAny_release (P g₁ am₁ s₂ x₁₂.toWs S₂ (F.stp S x₁₂))
theorem gItem {o i : Expr} (h1 : EvE C n ei o ρ σ a σ₁) (h2 : EvE C n ei i ρ σ₁ b σ₂) (h3 : storeD σ₂ a b d = some σ₃) : AsgT C (n + 1) ei (.Subscript o i p) d ρ σ ρ σ₃ := by
  refine ⟨fun _ _ => rfl, (fun _ _ h => nomatch h), fun _ _ => rfl, (fun _ _ h => nomatch h), fun X W A env g am s ht R S F v r Q P => tpos ht ?_⟩
  rw [arm_assign_Subscript]
  refine wpAny_bind (wpAny_holding (h1.run X W A env g am s ht (R.less (Nat.le_succ _)) S F _ fun ov g₁ am₁ s₁ x₁ S₁ r₁ ht₁ => ?_))
  refine wpAny_bind (wpAny_holding (h2.run X W A env g₁ am₁ s₁ ht₁ (R.less (Nat.le_succ _)) S₁ (F.stp S x₁) _ fun iv g₂ am₂ s₂ x₂ S₂ r₂ ht₂ => ?_))
  have x₁₂ := x₁.trans x₂ x₁.wx
  refine wpAny_bind (wpAny_standAt (wpAny_bind (wpAny_holding (setL_ok S₂ h3 (r₁.stp x₂ S₁.gin) r₂ (r.stp x₁₂ S.gin) fun s₃ x₃ S₃ => ?_))))
  have x₁₃ := x₁₂.trans x₃ x₁₂.wx
  exact wpAny_release (P g₂ am₂ s₃ x₁₃.toWs S₃ (F.stp S x₁₃))
theorem gEach0 : AsgEach C (n + 1) ei [] d ρ σ ρ σ := ⟨(fun _ _ h => nomatch h), fun _ => ⟨rfl, rfl⟩, fun X W A env g am s ht R S F v r Q P => wpAny_pure (P g am s .refl S F ht)⟩
theorem gEach {t : Expr} {ts : List Expr} (h1 : AsgT C n ei t d ρ σ ρ₁ σ₁) (h2 : AsgEach C n ei ts d ρ₁ σ₁ ρ₂ σ₂) : AsgEach C (n + 1) ei (t :: ts) d ρ σ ρ₂ σ₂ := by
  refine ⟨fun t' r e => by cases e; exact fun env => h1.star _ env, (fun h => nomatch h), fun X W A env g am s ht R S F v r Q P => ?_⟩
  rw [h1.star]
  cases ts with
  | nil =>
    obtain ⟨rfl, rfl⟩ := h2.nil rfl
    exact h1.run X W A env g am s ht (R.less (Nat.le_succ _)) S F v r Q P
  | cons t' ts =>
    have key : wpAny (model X.prog X.w) A (assign t env v) (fun _ s₁ => wpAny (model X.prog X.w) A (assignAll v ((assignEach (t' :: ts) env).map (·.2))) Q NEx s₁) NEx s := by
      refine h1.run X W A env g am s ht (R.less (Nat.le_succ _)) S F v r _ fun g₁ am₁ s₁ x₁ S₁ F₁ ht₁ => ?_
      exact h2.run X W A env g₁ am₁ s₁ ht₁ (R.less (Nat.le_succ _)) S₁ F₁ v (r.stp x₁ S.gin) _ (P.trans x₁)
    rw [h2.star t' ts rfl] at key ⊢
    exact wpAny_bind (wpAny_holding key)
end
end
section
section
variable {X : Cx} {C : Ctx} {g : G} {am : List Addr} {σ σ' : Store} {s : Shared} {A : Around} {n : Nat} {env : Env} {ei : EI} {ρ ρ' : VarsN}

/- less is said of the names -/
theorem Frm.forget {h : Heap} (F : Frm X g am ei env ρ' h) (hsl : ei.sl = []) (hs : ∀ x d, look x ρ = some d → look x ρ' = some d) : Frm X g am ei env ρ h := by
  obtain ⟨m, hn, hm⟩ := F.ns
  refine ⟨F.kind, F.glob, F.blt, F.qual, F.kd, F.nodbg, F.nocd, ⟨m, hn, fun x d h1 h2 => hm x d h1 (hs _ d h2)⟩, fun x hx => ?_, F.apart, F.Lg, F.Lam, F.Lt, F.tab⟩
  obtain ⟨c, h1, h2, h3, h4, h5, h6, ov, h7, h8⟩ := F.cells x hx
  exact ⟨c, h1, h2, h3, h4, h5, fun q => (by rw [hsl] at q; simp at q), ov, h7, fun d hd => h8 d (hs _ d hd)⟩

/- a frame lives on where others are written -/
theorem Frm.stpW {W : Addr → Prop} {g' am' s'} (F : Frm X g am ei env ρ s.heap) (S : St X g am σ s.heap) (x : Stp W g am s g' am' s') (hL : ¬ W env.locals) (hc : ∀ y c, (look (nm y) ei.kd = some .cell ∨ look (nm y) ei.kd = some .free) → env.cells.lookup y = some c → ¬ W c) : Frm X g' am' ei env ρ s'.heap := by
  have le := x.le S.gin
  have pre := x.pre
  have nam : ∀ {a : Addr}, a < s.heap.objs.size → a ∉ am → a ∉ am' := fun ha hn hm => by
    obtain ⟨l, rfl, q⟩ := x.am
    rcases List.mem_append.mp hm with hm | hm
    · exact hn hm
    · exact absurd (q _ hm) (Nat.not_le.mpr ha)
  obtain ⟨m, hn, hm⟩ := F.ns
  refine ⟨F.kind, F.glob, F.blt, F.qual, F.kd, F.nodbg, F.nocd, ⟨m, hn.at' fun o e => x.keep _ _ hL e, fun x d h1 h2 => ?_⟩, fun y hy => ?_, F.apart, (x.gext _ hn.lt).trans F.Lg, nam hn.lt F.Lam, F.Lt, F.tab⟩
  · obtain ⟨v, e, r⟩ := hm x d h1 h2
    exact ⟨v, e, r.mono le pre⟩
  · obtain ⟨c, h1, h2, h3, h4, h5, h6, ov, h7, h8⟩ := F.cells y hy
    have hlt : c < s.heap.objs.size := h7.lt
    refine ⟨c, h1, nam hlt h2, h3, h4, fun q1 q2 => (x.gext c hlt).trans (h5 q1 q2), fun q => ?_, ov, ?_, fun d hd => ?_⟩
    · obtain ⟨o, v, d, e1, e2, e3, e4⟩ := h6 q
      exact ⟨o, v, d, le _ _ e1, e2, e3, e4.mono le pre⟩
    · obtain ⟨o, e, r⟩ := h7
      exact ⟨o, x.keep _ _ (hc y c hy h1) e, r⟩
    · obtain ⟨v, e, r⟩ := h8 d hd
      exact ⟨v, e, r.mono le pre⟩
theorem St.keepP {W : Addr → Prop} {h h' : Heap} (S : St X g am σ h) (hk : ∀ a o, ¬ W a → h.get? a = some o → h'.get? a = some o) (hW : ∀ a, W a → g a = none ∧ a ∉ am ∧ ¬ X.isTab a) : St X g am σ h' := by
  refine ⟨fun a o e => hk a o (fun q => by rw [(hW a q).1] at e; cases e) (S.gin a o e), S.base, S.tabg, fun t ht' => ?_, S.amg, S.amt, S.nodup, S.len, fun i a so e1 e2 => (S.so i a so e1 e2).at (G.Le.refl g) (fun _ _ e => e) fun o e => hk a o (fun q => (hW a q).2.1 (List.mem_of_getElem? e1)) e⟩
  obtain ⟨ps, e, r⟩ := S.tab t ht'
  exact ⟨ps, hk _ _ (fun q => (hW _ q).2.2 ⟨t, ht', rfl⟩) e, r⟩

theorem look_freeOf (kd : List (Nat × NameKind)) (x : Nat) (h : look x kd = some .free) : ∀ ρ : VarsN, look x (freeOf kd ρ) = look x ρ
  | [] => rfl
  | p :: r => by
    have ih := look_freeOf kd x h r
    unfold freeOf at ih ⊢
    rw [List.filter_cons]
    by_cases q : p.1 = x
    · have : (look p.1 kd == some NameKind.free) = true := by rw [q, h]; rfl
      rw [if_pos this]
      simp [look, q]
    · split
      · simp only [look, if_neg q]; exact ih
      · rw [ih]; simp [look, q]
theorem free_look (kd : List (Nat × NameKind)) (x : Nat) (d : D) : ∀ ρ : VarsN, look x (freeOf kd ρ) = some d → look x kd = some .free
  | [], h => by simp [freeOf, look] at h
  | p :: r, h => by
    unfold freeOf at h
    rw [List.filter_cons] at h
    split at h
    · rename_i hp
      simp only [look] at h
      split at h
      · rename_i q
        rw [q] at hp
        cases hk : look x kd with
        | none => rw [hk] at hp; simp at hp
        | some k => rw [hk] at hp; cases k <;> first | rfl | (simp at hp)
      · exact free_look kd x d r h
    · exact free_look kd x d r h

/- the closure of a scope within -/
theorem clos_ok {sc : Scope} (F : Frm X g am ei env ρ s.heap) (hsc : scOk sc ei = true) : ∃ cl, closureFor sc env = pure cl ∧ ∀ x, look (nm x) (kdOf sc.names) = some .free → cl.lookup x = env.cells.lookup x := by
  obtain ⟨hk, hd, hdbg, hcd, hfree⟩ := scOk_parts hsc
  have key : ∀ (names : List (Str × NameKind)) (acc : List (Str × Addr)), dist names = true → (∀ x, (x, NameKind.free) ∈ names → ∃ c, env.cells.lookup x = some c) →
      ∃ cl, (forIn names acc (fun (p : Str × NameKind) cs => do if (p.2 == NameKind.free) = true then do let c ← cellOf env p.1; pure (ForInStep.yield ((p.1, c) :: cs)) else pure (ForInStep.yield cs)) : Sem (List (Str × Addr))) = pure cl ∧
        (∀ x, (x, NameKind.free) ∈ names → cl.lookup x = env.cells.lookup x) ∧ (∀ x, (∀ k, (x, k) ∉ names) → cl.lookup x = acc.lookup x) := by
    intro names
    induction names with
    | nil => intro acc _ _; exact ⟨acc, rfl, fun x hx => (nomatch hx), fun x _ => rfl⟩
    | cons p r ih =>
      intro acc hd hc
      unfold dist at hd
      rw [Bool.and_eq_true] at hd
      have hp : ∀ k, (p.1, k) ∉ r := fun k hm => by
        have := List.all_eq_true.mp hd.1 _ hm
        simp at this
      obtain ⟨y, k⟩ := p
      by_cases hk : (k == NameKind.free) = true
      · have hk' : k = .free := eq_of_beq hk
        subst hk'
        obtain ⟨c, hcc⟩ := hc y (List.mem_cons_self ..)
        obtain ⟨cl, e1, e2, e3⟩ := ih ((y, c) :: acc) hd.2 fun x hx => hc x (List.mem_cons_of_mem _ hx)
        refine ⟨cl, ?_, fun x hx => ?_, fun x hx => ?_⟩
        · rw [List.forIn_cons]
          have : cellOf env y = pure c := by unfold cellOf; rw [hcc]
          simp only [this, beq_self_eq_true, if_true, pure_bind]
          exact e1
        · rcases List.mem_cons.mp hx with e | hx
          · cases e
            rw [e3 y hp, hcc]; simp
          · exact e2 x hx
        · rw [e3 x fun k hm => hx k (List.mem_cons_of_mem _ hm), List.lookup_cons]
          have : (x == y) = false := by
            cases q : x == y with
            | false => rfl
            | true => exact absurd (by rw [eq_of_beq q]; exact List.mem_cons_self ..) (hx .free)
          rw [this]
      · obtain ⟨cl, e1, e2, e3⟩ := ih acc hd.2 fun x hx => hc x (List.mem_cons_of_mem _ hx)
        refine ⟨cl, ?_, fun x hx => ?_, fun x hx => e3 x fun k hm => hx k (List.mem_cons_of_mem _ hm)⟩
        · rw [List.forIn_cons]
          simp only [hk, if_false, pure_bind, Bool.false_eq_true]
          exact e1
        · rcases List.mem_cons.mp hx with e | hx
          · cases e; exact absurd rfl hk
          · exact e2 x hx
  have hin : ∀ x, (x, NameKind.free) ∈ sc.names → ∃ c, env.cells.lookup x = some c := fun x hx => by
    have h1 : look (nm x) (kdOf sc.names) = some .free := by rw [look_kdOf]; exact dist_mem hd hx
    have h2 := hfree x h1
    unfold inCells at h2
    have : look (nm x) ei.kd = some .cell ∨ look (nm x) ei.kd = some .free := by
      split at h2
      · rename_i q; exact .inl q
      · rename_i q; exact .inr q
      · cases h2
    obtain ⟨c, e, _⟩ := F.cells x this
    exact ⟨c, e⟩
  obtain ⟨cl, e1, e2, e3⟩ := key sc.names [] hd hin
  refine ⟨cl, ?_, fun x hx => e2 x (by rw [look_kdOf] at hx; exact lookup_mem hx)⟩
  unfold closureFor
  refine Eq.trans ?_ (congrArg (fun t : Sem (List (Str × Addr)) => t >>= fun cs => pure cs) e1)
  rfl
/- one item is drawn -/
theorem draw_ok {t : Expr} {I : Addr} {fp wr : List Addr} {ds : List D} {g₀ : G} {am₀ : List Addr} {St' : Nat → Heap → Prop} (T : Turns X A t I fp wr ds g₀ am₀ St') {i : Nat} {d : D} (hd : ds[i]? = some d) (st : St' i s.heap) (ht : TK C s.toks)
    (S : St X g am σ s.heap) (hg : G.Le g₀ g) (ha : ∀ (n : Nat) a, am₀[n]? = some a → am[n]? = some a) (hw : ∀ b ∈ wr, g b = none ∧ b ∉ am ∧ ¬ X.isTab b) {Q : Option Value → Shared → Prop}
    (h : ∀ v s₁, wpAny (model X.prog X.w) A (letOwnedTupleGo t (.ref I) v) (fun _ s₂ => ∃ g', Stp (fun a => a ∈ wr) g am s g' am s₂ ∧ St X g' am σ s₂.heap ∧ Rep X g' am v d ∧ St' (i + 1) s₂.heap ∧ TK C s₂.toks) NEx s₁ → Q (some v) s₁) :
    wpAny (model X.prog X.w) A (pyNext (.ref I)) Q NEx s := by
  refine tpos ht (with_size (T.item i d s _ hd st fun v s₁ hv hz₁ ht₁ => h v s₁ (tpos ht₁ (with_size (wpAny_mono hv (fun _ s₂ hx hz₂ ht₂ => ?_) fun _ _ e => e)))))
  obtain ⟨h', tk, rfl, st', hk, hr⟩ := hx
  have hz : s.heap.objs.size ≤ h'.objs.size := Nat.le_trans hz₁ hz₂
  have S' : St X g am σ h' := S.keepP (W := fun a => a ∈ wr) (fun a o hn e => hk a o hn e) hw
  rcases hr with hr | ⟨T', o, q1, q2, q3, q4⟩
  · exact ⟨g, ⟨⟨h', tk, rfl⟩, fun a o hn e => hk a o hn e, fun _ _ => rfl, ⟨[], by simp⟩, hz⟩, S', hr g am hg ha, st', ht₂⟩
  · obtain ⟨f1, f2, f3⟩ := S.fresh q1
    refine ⟨g.ext T' o, ⟨⟨h', tk, rfl⟩, fun a o hn e => hk a o hn e, fun a ha' => G.ext_ne (Nat.ne_of_lt (Nat.lt_of_lt_of_le ha' q1)), ⟨[], by simp⟩, hz⟩, S'.ext f1 f2 f3 q3, ?_, st', ht₂⟩
    exact q4 _ am (hg.trans (G.ext_le f1)) ha G.ext_at

/- what holds at the head of a comprehension's turns -/
structure Turn (C : Ctx) (X : Cx) (ei : EI) (cenv : Env) (ρf : VarsN) (D₀ : Addr) (wr : List Addr) (g₀ : G) (am₀ : List Addr) (s₀ : Shared) (Acc : G → List Addr → Heap → List D → Prop) (St' : Nat → Heap → Prop)
    (i : Nat) (rs : List D) (σ : Store) (g : G) (am : List Addr) (s : Shared) : Prop where
  stp : Stp (fun a => Wx X am₀ a ∨ a ∈ wr ∨ a = D₀ ∨ Own ei cenv a) g₀ am₀ s₀ g am s
  st : St X g am σ s.heap
  it : St' i s.heap
  acc : Acc g am s.heap rs
  dn : g D₀ = none ∧ D₀ ∉ am
  wn : ∀ b ∈ wr, g b = none ∧ b ∉ am ∧ ¬ X.isTab b
  frm : Frm X g am ei cenv ρf s.heap
  tk : TK C s.toks

noncomputable abbrev Wb (X : Cx) (ei : EI) (cenv : Env) (D₀ : Addr) (wr : List Addr) (am : List Addr) : Addr → Prop := fun a => Wx X am a ∨ a ∈ wr ∨ a = D₀ ∨ Own ei cenv a
theorem Turn.next {cenv : Env} {ρf : VarsN} {D₀ : Addr} {wr : List Addr} {g₀ : G} {am₀ : List Addr} {s₀ : Shared} {Acc : G → List Addr → Heap → List D → Prop} {St' St'' : Nat → Heap → Prop} {i i' : Nat} {rs rs' : List D} {σ σ' : Store} {g g' : G} {am am' : List Addr} {s s' : Shared}
    (H : Turn C X ei cenv ρf D₀ wr g₀ am₀ s₀ Acc St' i rs σ g am s) (hlt : D₀ < s₀.heap.objs.size ∧ ∀ b ∈ wr, b < s₀.heap.objs.size) (y : Stp (Wb X ei cenv D₀ wr am) g am s g' am' s') (S' : St X g' am' σ' s'.heap) (it : St'' i' s'.heap) (acc : Acc g' am' s'.heap rs')
    (F' : Frm X g' am' ei cenv ρf s'.heap) (tk : TK C s'.toks) : Turn C X ei cenv ρf D₀ wr g₀ am₀ s₀ Acc St'' i' rs' σ' g' am' s' where
  stp := H.stp.trans y fun a ha hw => by
    rcases hw with hw | hw | hw | hw
    · exact .inl (H.stp.wx a ha hw)
    · exact .inr (.inl hw)
    · exact .inr (.inr (.inl hw))
    · exact .inr (.inr (.inr hw))
  st := S'
  it := it
  acc := acc
  dn := y.still (Nat.lt_of_lt_of_le hlt.1 H.stp.size) H.dn.1 H.dn.2
  wn := fun b hb => by
    obtain ⟨h1, h2, h3⟩ := H.wn b hb
    obtain ⟨q1, q2⟩ := y.still (Nat.lt_of_lt_of_le (hlt.2 b hb) H.stp.size) h1 h2
    exact ⟨q1, q2, h3⟩
  frm := F'
  tk := tk
/- the making of a comprehension's parts: each turn's body, whatever gathers -/
noncomputable def BodyOk (C : Ctx) (X : Cx) (A : Around) (ei : EI) (cenv : Env) (D₀ : Addr) (Acc : G → List Addr → Heap → List D → Prop) (fE : VarsN → Store → List D → Store → Prop) (tot : List D) (B : (Shared → Prop) → Shared → Prop) : Prop :=
  ∀ ρ₁ σ r σ' g am s rs (KK : Shared → Prop), fE ρ₁ σ r σ' → TK C s.toks → St X g am σ s.heap → Frm X g am ei cenv ρ₁ s.heap → Acc g am s.heap rs → g D₀ = none → D₀ ∉ am → ¬ X.isTab D₀ → (∃ q, rs ++ r ++ q = tot) →
    (∀ g' am' s', Stp (fun a => Wx X am a ∨ a = D₀) g am s g' am' s' → St X g' am' σ' s'.heap → Acc g' am' s'.heap (rs ++ r) → TK C s'.toks → KK s') → B KK s

/- a comprehension's turn -/
noncomputable def CompT (C : Ctx) (n : Nat) (ei : EI) (t : Expr) (ifs : List Expr) (fE : VarsN → Store → List D → Store → Prop) (ρf : VarsN) (d : D) (σ : Store) (r : List D) (σ' : Store) : Prop :=
  ∃ ρ₁ σ₁ b σ₂, AsgT C n ei t d ρf σ ρ₁ σ₁ ∧ EvIfs C n ei ifs ρ₁ σ₁ b σ₂ ∧ (b = true → fE ρ₁ σ₂ r σ') ∧ (b = false → r = [] ∧ σ' = σ₂)
noncomputable def CompM (F : D → Store → List D → Store → Prop) : List D → Store → List D → Store → Prop
  | [], σ, rs, σ' => rs = [] ∧ σ' = σ
  | d :: ds, σ, rs, σ' => ∃ r σ₁ rs', F d σ r σ₁ ∧ CompM F ds σ₁ rs' σ' ∧ rs = r ++ rs'
theorem turn_ok (W : Good X C) (R : Room n A) {t : Expr} {ifs : List Expr} {I D₀ : Addr} {fp wr : List Addr} {ds tot : List D} {g₁ : G} {am₁ : List Addr} {St' : Nat → Heap → Prop} (T : Turns X A t I fp wr ds g₁ am₁ St') {cenv : Env} (hsl : ei.sl = [])
    {fE : VarsN → Store → List D → Store → Prop} {Acc : G → List Addr → Heap → List D → Prop} {B : (Shared → Prop) → Shared → Prop} (hB : BodyOk C X A ei cenv D₀ Acc fE tot B)
    (hAcc : ∀ g am g' am' h h' rs, G.Le g g' → (∀ (n : Nat) a, am[n]? = some a → am'[n]? = some a) → (∀ o, h.get? D₀ = some o → h'.get? D₀ = some o) → Acc g am h rs → Acc g' am' h' rs)
    {g₀ : G} {am₀ : List Addr} {s₀ : Shared} (S₀ : St X g₀ am₀ σ s₀.heap) (hg : G.Le g₁ g₀) (ha : ∀ (n : Nat) a, am₁[n]? = some a → am₀[n]? = some a)
    (hD : ¬ X.isTab D₀) (hDw : D₀ ∉ wr) (hDL : D₀ ≠ cenv.locals) (hDc : ∀ x c, (look (nm x) ei.kd = some .cell ∨ look (nm x) ei.kd = some .free) → cenv.cells.lookup x = some c → c ≠ D₀) (hwL : cenv.locals ∉ wr) (hwc : ∀ x c, (look (nm x) ei.kd = some .cell ∨ look (nm x) ei.kd = some .free) → cenv.cells.lookup x = some c → c ∉ wr)
    (hfp : ∀ b ∈ fp, b ∈ wr ∨ (b < s₀.heap.objs.size ∧ ((g₀ b = none ∧ b ∉ am₀ ∧ ¬ X.isTab b ∧ b ≠ D₀ ∧ ¬ Own ei cenv b) ∨ ∃ o, g₀ b = some o)))
    (hlt : D₀ < s₀.heap.objs.size ∧ ∀ b ∈ wr, b < s₀.heap.objs.size)
    {ρf : VarsN} (hρf : ∀ x d, look x ρf = some d → look x ei.kd = some .free) 
    {i : Nat} {rs rest : List D} {σ₁ σ₂ : Store} {s : Shared} (H : Turn C X ei cenv ρf D₀ wr g₀ am₀ s₀ Acc St' i rs σ₁ g am s) (hc : CompM (CompT C n ei t ifs fE ρf) (ds.drop i) σ₁ rest σ₂) (htot : rs ++ rest = tot)
    {P : Nat → Shared → Prop} {Fin : Shared → Prop} (hi : i ≤ ds.length)
    (hP : ∀ rs' rest' σ' g' am' s', i < ds.length → Turn C X ei cenv ρf D₀ wr g₀ am₀ s₀ Acc St' (i + 1) rs' σ' g' am' s' → CompM (CompT C n ei t ifs fE ρf) (ds.drop (i + 1)) σ' rest' σ₂ → rs' ++ rest' = tot → P (i + 1) s')
    (hFin : ∀ g' am' s', Turn C X ei cenv ρf D₀ wr g₀ am₀ s₀ Acc (fun _ _ => True) i tot σ₂ g' am' s' → Fin s') :
    wpAny (model X.prog X.w) A (pyNext (.ref I)) (fun r s₁ => match r with
      | none => Fin s₁
      | some v => wpAny (model X.prog X.w) A (letOwnedTupleGo t (.ref I) v) (fun _ s₀ => wpAny (model X.prog X.w) A (assign t cenv v) (fun _ s₂ =>
          wpAny (model X.prog X.w) A (forIn ifs true fun c r => if r = true then do let ok ← isTrue c cenv (eval c cenv); pure (ForInStep.yield ok) else pure (ForInStep.yield r)) (fun ok s₃ =>
            if ok = true then B (P (i + 1)) s₃ else P (i + 1) s₃) NEx s₂) NEx s₀) NEx s₁) NEx s := by
  have own : ∀ {g am h}, Frm X g am ei cenv ρf h → ∀ a, Own ei cenv a → a = cenv.locals ∨ ∃ x, look (nm x) ei.kd = some .cell ∧ cenv.cells.lookup x = some a ∧ g a = none := by
    intro g am h F a ho
    rcases ho with ho | ⟨x, h1, h2⟩
    · exact .inl ho
    · obtain ⟨c, e1, e2, e3, e4, e5, _⟩ := F.cells x (.inl h1)
      rw [h2] at e1; cases e1
      exact .inr ⟨x, h1, h2, e5 h1 (by rw [hsl]; rfl)⟩
  have hDown : ¬ Own ei cenv D₀ := by
    rintro (h | ⟨x, h1, h2⟩)
    · exact hDL h
    · exact hDc x D₀ (.inl h1) h2 rfl
  by_cases hlt' : i < ds.length
  · have hd : ds[i]? = some ds[i] := List.getElem?_eq_getElem hlt'
    generalize ds[i] = d at hd
    have hdrop : ds.drop i = d :: ds.drop (i + 1) := by
      rw [List.drop_eq_getElem_cons hlt']
      have := List.getElem?_eq_getElem hlt'
      rw [hd] at this; cases this; rfl
    rw [hdrop] at hc
    obtain ⟨r, σa, rs', h1, h2, rfl⟩ := hc
    obtain ⟨ρ₁, σc, bb, σd, h3, h4, h5, h6⟩ := h1
    have hle := H.stp.le S₀.gin
    refine draw_ok T hd H.it H.tk H.st (hg.trans hle) (fun n a e => H.stp.pre n a (ha n a e)) H.wn fun v s₁ hv => ?_
    refine wpAny_mono hv (fun _ s₂ hx => ?_) fun _ _ e => e
    obtain ⟨g', x, S', r', st', tk'⟩ := hx
    have F' : Frm X g' am ei cenv ρf s₂.heap := H.frm.stpW H.st x hwL hwc
    have hDlt : D₀ < s.heap.objs.size := Nat.lt_of_lt_of_le hlt.1 H.stp.size
    have forg : ∀ x d, look x ρf = some d → look x ρ₁ = some d := fun x d hx => by
      rw [h3.free x (hρf x d hx)]; exact hx
    refine h3.run X W A cenv g' am s₂ tk' R S' F' v r' _ fun g₃ am₃ s₃ x₃ S₃ F₃ tk₃ => ?_
    have y₁ : Stp (Wb X ei cenv D₀ wr am) g am s g' am s₂ := x.wide fun a h => .inr (.inl h)
    have y₂ : Stp (Wb X ei cenv D₀ wr am) g am s g₃ am₃ s₃ := y₁.trans x₃ fun a _ h => h.elim (fun h => .inl h) fun h => .inr (.inr (.inr h))
    have d₁ := y₁.still hDlt H.dn.1 H.dn.2
    have d₂ := y₂.still hDlt H.dn.1 H.dn.2
    -- what is drawn from stays as it is
    have safe : ∀ b ∈ fp, b < s₂.heap.objs.size ∧ b ∉ am ∧ ¬ X.isTab b ∧ ¬ Own ei cenv b ∧ b ≠ D₀ := by
      intro b hb
      rcases hfp b hb with hw | ⟨hbl, hb'⟩
      · obtain ⟨q1, q2, q3⟩ := H.wn b hw
        refine ⟨Nat.lt_of_lt_of_le (hlt.2 b hw) (Nat.le_trans H.stp.size y₁.size), q2, q3, ?_, fun e => hDw (e ▸ hw)⟩
        rintro (h | ⟨z, z1, z2⟩)
        · exact hwL (h ▸ hw)
        · exact hwc z b (.inl z1) z2 hw
      · refine ⟨Nat.lt_of_lt_of_le hbl (Nat.le_trans H.stp.size y₁.size), ?_⟩
        rcases hb' with ⟨q1, q2, q3, q4, q5⟩ | ⟨o, ho⟩
        · exact ⟨(H.stp.still hbl q1 q2).2, q3, q5, q4⟩
        · have hgb := hle b o ho
          refine ⟨fun hm => (by rw [H.st.amg b hm] at hgb; cases hgb), fun ⟨t, ht, e⟩ => (by rw [← e, H.st.tabg t ht] at hgb; cases hgb), fun hown => ?_, fun e => (by rw [e, H.dn.1] at hgb; cases hgb)⟩
          rcases own H.frm b hown with h | ⟨z, z1, z2, z3⟩
          · rw [h, H.frm.Lg] at hgb; cases hgb
          · rw [z3] at hgb; cases hgb
    refine h4.run X W A cenv g₃ am₃ s₃ tk₃ R S₃ F₃ _ fun g₄ am₄ s₄ x₄ S₄ tk₄ => ?_
    have y₃ : Stp (Wb X ei cenv D₀ wr am) g am s g₄ am₄ s₄ := y₂.trans x₄ fun a ha h => .inl (y₂.wx a ha h)
    have d₃ := y₃.still hDlt H.dn.1 H.dn.2
    have F₄ := F₃.stp S₃ x₄
    have notws : ∀ b, b < s₂.heap.objs.size → b ∉ am → ¬ X.isTab b → ¬ Own ei cenv b → ∀ o, s₂.heap.get? b = some o → s₄.heap.get? b = some o := by
      intro b hb q1 q2 q3 o e
      have e3 := x₃.keep b o (fun h => h.elim (fun h => h.elim q1 q2) q3) e
      refine x₄.keep b o (fun h => h.elim (fun hm => ?_) q2) e3
      obtain ⟨l, hl, hq⟩ := x₃.am
      rw [hl] at hm
      rcases List.mem_append.mp hm with hm | hm
      · exact q1 hm
      · exact absurd (hq b hm) (Nat.not_le.mpr hb)
    have acc₄ : Acc g₄ am₄ s₄.heap rs := hAcc _ _ _ _ _ _ _ (y₃.le H.st.gin) y₃.pre (fun o e => notws D₀ (Nat.lt_of_lt_of_le hDlt y₁.size) H.dn.2 hD hDown o (x.keep D₀ o hDw e)) H.acc
    have it₄ : St' (i + 1) s₄.heap := by
      refine T.frame _ _ _ (by assumption) fun b hb o e => ?_
      obtain ⟨q1, q2, q3, q4, q5⟩ := safe b hb
      exact notws b q1 q2 q3 q4 o e
    cases bb with
    | false =>
      simp only [Bool.false_eq_true, if_false]
      obtain ⟨rfl, rfl⟩ := h6 rfl
      refine hP rs rs' σa g₄ am₄ s₄ hlt' (H.next hlt y₃ S₄ it₄ acc₄ (F₄.forget hsl forg) tk₄) h2 ?_
      simpa using htot
    | true =>
      simp only [if_true]
      refine hB ρ₁ σd r σa g₄ am₄ s₄ rs _ (h5 rfl) tk₄ S₄ F₄ acc₄ d₃.1 d₃.2 hD ⟨rs', by simpa using htot⟩ fun g₅ am₅ s₅ x₅ S₅ acc₅ tk₅ => ?_
      have y₄ : Stp (Wb X ei cenv D₀ wr am) g am s g₅ am₅ s₅ := y₃.trans x₅ fun a ha h => h.elim (fun h => .inl (y₃.wx a ha h)) fun h => .inr (.inr (.inl h))
      have it₅ : St' (i + 1) s₅.heap := by
        refine T.frame _ _ _ it₄ fun b hb o e => ?_
        obtain ⟨q1, q2, q3, q4, q5⟩ := safe b hb
        refine x₅.keep b o (fun h => h.elim (fun h => h.elim (fun hm => ?_) q3) q5) e
        obtain ⟨l, hl, hq⟩ := (x₃.trans (W := Ws X am ei cenv) (x₄.toWs (ei := ei) (env := cenv)) x₃.ws).am
        rw [hl] at hm
        rcases List.mem_append.mp hm with hm | hm
        · exact q2 hm
        · exact absurd (hq b hm) (Nat.not_le.mpr q1)
      have F₅ : Frm X g₅ am₅ ei cenv ρ₁ s₅.heap := F₄.stpW S₄ x₅ (fun h => h.elim (fun h => h.elim F₄.Lam F₄.Lt) fun h => hDL h.symm) fun y c hy hl h => by
        obtain ⟨c', e1, e2, e3, _⟩ := F₄.cells y hy
        rw [hl] at e1; cases e1
        exact h.elim (fun h => h.elim e2 e3) fun h => hDc y c hy hl h
      refine hP (rs ++ r) rs' σa g₅ am₅ s₅ hlt' (H.next hlt y₄ S₅ it₅ acc₅ (F₅.forget hsl forg) tk₅) h2 ?_
      simpa using htot
  · have hin : i = ds.length := by lia
    subst hin
    rw [List.drop_length] at hc
    obtain ⟨rfl, rfl⟩ := hc
    rw [List.append_nil] at htot
    subst htot
    refine tpos H.tk (with_size (T.done s _ H.it fun h' tk hk hz ht => ?_))
    have x : Stp (fun a => a ∈ wr) g am s g am { s with heap := h', toks := tk } := ⟨⟨h', tk, rfl⟩, fun a o hn e => hk a o hn e, fun _ _ => rfl, ⟨[], by simp⟩, hz⟩
    have S' : St X g am _ h' := H.st.keepP (W := fun a => a ∈ wr) (fun a o hn e => hk a o hn e) H.wn
    exact hFin g am _ (H.next hlt (x.wide fun a h => .inr (.inl h)) S' trivial (hAcc _ _ _ _ _ _ _ (G.Le.refl g) (fun _ _ e => e) (fun o e => hk D₀ o hDw e) H.acc) (H.frm.stpW H.st x hwL hwc) ht)
end
end
section
section
variable {X : Cx} {C : Ctx} {g : G} {am : List Addr} {σ σ' : Store} {s : Shared} {A : Around} {n : Nat} {env : Env} {ei : EI} {ρ ρ' : VarsN}

/- the frame within -/
noncomputable abbrev inner (ei : EI) (sc : Scope) : EI := ⟨kdOf sc.names, ei.qual, none, [], []⟩

theorem kind_relabel {sc : Scope} {cenv : Env} (hd : dist sc.names = true) (x : Str) (k : NameKind) (h : look (nm x) (kdOf sc.names) = some k) :
    Env.kindOf { cenv with scope := relabel sc env } x = some k ∨ (k = .free ∧ Env.kindOf { cenv with scope := relabel sc env } x = some .cell) := by
  rw [look_kdOf] at h
  show (List.lookup x (sc.names.map fun (n, k) => if (k == NameKind.free && env.scope.kind == .function && env.kindOf n == some .cell) then (n, NameKind.cell) else (n, k)) = some k) ∨ _
  have key : ∀ (names : List (Str × NameKind)), names.lookup x = some k → (List.lookup x (names.map fun (n, k) => if (k == NameKind.free && env.scope.kind == .function && env.kindOf n == some .cell) then (n, NameKind.cell) else (n, k)) = some k) ∨
      (k = .free ∧ List.lookup x (names.map fun (n, k) => if (k == NameKind.free && env.scope.kind == .function && env.kindOf n == some .cell) then (n, NameKind.cell) else (n, k)) = some .cell) := by
    intro names
    induction names with
    | nil => intro h; simp at h
    | cons p r ih =>
      obtain ⟨y, ky⟩ := p
      intro h
      rw [List.lookup_cons] at h
      rw [List.map_cons]
      dsimp only
      cases q : x == y with
      | true =>
        rw [q] at h; cases h
        by_cases hc : (k == NameKind.free && env.scope.kind == .function && env.kindOf y == some .cell) = true
        · right
          rw [if_pos hc]
          simp only [Bool.and_eq_true] at hc
          refine ⟨eq_of_beq hc.1.1, ?_⟩
          rw [List.lookup_cons]
          simp only [q]
        · left
          rw [if_neg hc, List.lookup_cons]
          simp only [q]
      | false =>
        rw [q] at h
        have := ih h
        by_cases hc : (ky == NameKind.free && env.scope.kind == .function && env.kindOf y == some .cell) = true
        · rw [if_pos hc]; simp only [List.lookup_cons, q]; exact this
        · rw [if_neg hc]; simp only [List.lookup_cons, q]; exact this
  exact key sc.names h

theorem comp_core (W : Good X C) (R : Room n A) {t : Expr} {ifs : List Expr} {I : Addr} {fp wr : List Addr} {ds tot : List D} {St' : Nat → Heap → Prop} (T : Turns X A t I fp wr ds g am St') (h0 : St' 0 s.heap)
    (hfp : ∀ b ∈ fp, (g b = none ∧ b ∉ am ∧ ¬ X.isTab b ∧ b < s.heap.objs.size) ∨ (b ∉ wr ∧ ∃ o, g b = some o)) (S : St X g am σ s.heap) (F : Frm X g am ei env ρ s.heap) (ht : TK C s.toks) {sc : Scope} (hsc : scOk sc ei = true) {cl : List (Str × Addr)}
    (hcl : ∀ x, look (nm x) (kdOf sc.names) = some .free → cl.lookup x = env.cells.lookup x) (hold : ∀ x c, (look (nm x) ei.kd = some .cell ∨ look (nm x) ei.kd = some .free) → env.cells.lookup x = some c → c ∉ wr)
    {D₀ : Addr} (hD₀ : D₀ = s.heap.objs.size) {e : Expr} {newAcc : Sem Value} {o₀ : Obj} (ho₀ : o₀.isFreed = false) (hnew : ∀ Q : Value → Shared → Prop, Q (.ref s.heap.objs.size) { s with heap := s.heap.push o₀ } → wpAny (model X.prog X.w) A newAcc Q NEx s)
    {fE : VarsN → Store → List D → Store → Prop} {Acc : G → List Addr → Heap → List D → Prop} {B : Env → (Shared → Prop) → Shared → Prop} (hB : ∀ cenv, BodyOk C X A (inner ei sc) cenv s.heap.objs.size Acc fE tot (B cenv))
    (hAcc : ∀ g am g' am' h h' rs, G.Le g g' → (∀ (n : Nat) a, am[n]? = some a → am'[n]? = some a) → (∀ o, h.get? s.heap.objs.size = some o → h'.get? s.heap.objs.size = some o) → Acc g am h rs → Acc g' am' h' rs)
    (hAcc0 : ∀ h', h'.get? s.heap.objs.size = some o₀ → Acc g am h' [])
    (hloop : ∀ (cenv : Env) (J : Nat → Shared → Prop) (RR : Result → Shared → Prop), (∀ k s, J k s → wpAny (model X.prog X.w) A (pyNext (.ref I)) (fun r s₁ => match r with
      | none => RR (.ok .next) s₁
      | some v => wpAny (model X.prog X.w) A (letOwnedTupleGo t (.ref I) v) (fun _ s₀ => wpAny (model X.prog X.w) A (assign t cenv v) (fun _ s₂ =>
          wpAny (model X.prog X.w) A (forIn ifs true fun c r => if r = true then do let ok ← isTrue c cenv (eval c cenv); pure (ForInStep.yield ok) else pure (ForInStep.yield r)) (fun ok s₃ =>
            if ok = true then B cenv (fun s₅ => ∃ m, m < k ∧ J m s₅) s₃ else ∃ m, m < k ∧ J m s₃) NEx s₂) NEx s₀) NEx s₁) NEx s) →
      ∀ k s, J k s → codeAny (model X.prog X.w) A (.compLoop e 0 (.ref I) (.ref D₀) cenv) RR s)
    (hstart : ∀ (cenv : Env) (RR : Result → Shared → Prop) s, codeAny (model X.prog X.w) A (.compLoop e 0 (.ref I) (.ref D₀) cenv) RR s → wpAny (model X.prog X.w) A (pyIter (.ref I)) (fun it s' => codeAny (model X.prog X.w) A (.compLoop e 0 it (.ref D₀) cenv) RR s') NEx s →
      codeAny (model X.prog X.w) A (.compStart e 0 (.ref I) (.ref D₀) cenv) RR s)
    (hc : CompM (CompT C n (inner ei sc) t ifs fE (freeOf (kdOf sc.names) ρ)) ds σ tot σ')
    {RR : Value → Addr → Result → Shared → Prop}
    (hRR : ∀ L g' am' s' m, Stp (fun a => Wx X am a ∨ s.heap.objs.size ≤ a ∨ a ∈ wr) g am s g' am' s' → St X g' am' σ' s'.heap → Acc g' am' s'.heap tot → g' D₀ = none → D₀ ∉ am' → ¬ X.isTab D₀ → D₀ ≠ L → s'.heap.Ns L m → g' L = none → L ∉ am' → ¬ X.isTab L → s.heap.objs.size ≤ L → TK C s'.toks → RR (.ref D₀) L (.ok .next) s') :
    wpAny (model X.prog X.w) A newAcc (fun acc s₃ => wpAny (model X.prog X.w) A (newFunctionEnv sc env.globals cl [] env.qual none .none (some env)) (fun cenv s₄ =>
      codeAny (model X.prog X.w) A (.compStart e 0 (.ref I) acc { cenv with scope := relabel sc env }) (RR acc cenv.locals) s₄) NEx s₃) NEx s := by
  subst hD₀
  obtain ⟨hk, hd, hdbg, hcd, hfree⟩ := scOk_parts hsc
  refine hnew _ ?_
  have keep0 : ∀ a o, s.heap.get? a = some o → (s.heap.push o₀).get? a = some o := fun a o e => Heap.get?_push_of_some _ e
  have x₁ : Stp (Wx X am) g am s g am { s with heap := s.heap.push o₀ } := Stp.keepG (tk := s.toks) keep0 (by rw [Heap.size_push]; lia)
  have S₁ : St X g am σ (s.heap.push o₀) := S.keepG keep0
  have fr := S.fresh (Nat.le_refl _)
  have hsz1 : (s.heap.push o₀).objs.size = s.heap.objs.size + 1 := Heap.size_push ..
  have hDlt1 : s.heap.objs.size < (s.heap.push o₀).objs.size := by rw [hsz1]; exact Nat.lt_succ_self _
  -- the closure's cells
  have cells : ∀ x, look (nm x) (kdOf sc.names) = some .free → ∃ c, cl.lookup x = some c ∧ c ∉ am ∧ ¬ X.isTab c ∧ c < s.heap.objs.size ∧ c ∉ wr ∧ ∃ ov, s.heap.IsCell c ov ∧ ∀ d, look (nm x) ρ = some d → ∃ v, ov = some v ∧ Rep X g am v d := by
    intro x hx
    have h2 := hfree x hx
    unfold inCells at h2
    have hk2 : look (nm x) ei.kd = some .cell ∨ look (nm x) ei.kd = some .free := by
      split at h2
      · rename_i q; exact .inl q
      · rename_i q; exact .inr q
      · cases h2
    obtain ⟨c, e1, e2, e3, e4, e5, e6, ov, e7, e8⟩ := F.cells x hk2
    exact ⟨c, (hcl x hx).trans e1, e2, e3, e7.lt, hold x c hk2 e1, ov, e7, e8⟩
  refine new_env (s := { s with heap := s.heap.push o₀ }) (ei := inner ei sc) S₁ hsc rfl rfl (ρ := freeOf (kdOf sc.names) ρ) (fun x hx => ?_) (fun x d hx => free_look _ _ d _ hx) fun s₄ cells' htk hfr x₂ S₄ hcge hF => ?_
  · obtain ⟨c, e1, e2, e3, e4, e5, ov, e6, e7⟩ := cells x hx
    exact ⟨c, e1, e2, e3, ov, e6.keeps keep0, fun d hd => e7 d (by rwa [look_freeOf _ _ hx] at hd)⟩
  · have wlt : ∀ b ∈ wr, g b = none ∧ b ∉ am ∧ ¬ X.isTab b ∧ b < s.heap.objs.size := fun b hb => by
      rcases hfp b (T.sub b hb) with h | h
      · exact h
      · exact absurd hb h.1
    have keep₄ : ∀ b o, b ∉ am → ¬ X.isTab b → s.heap.get? b = some o → s₄.heap.get? b = some o := fun b o h1 h2 e => x₂.keep b o (fun h => h.elim h1 h2) (keep0 b o e)
    have hDo : s₄.heap.get? s.heap.objs.size = some o₀ := x₂.keep _ _ (fun h => h.elim fr.2.1 fr.2.2) (Heap.get?_push_size _ ho₀)
    have sz₄ : s.heap.objs.size < s₄.heap.objs.size := Nat.lt_of_lt_of_le hDlt1 x₂.size
    show wpAny _ _ (forIn ([] : List (Str × Value)) PUnit.unit _ >>= fun _ => pure _) _ _ s₄
    rw [List.forIn_nil]
    refine wpAny_bind (wpAny_pure (wpAny_pure ?_))
    have F₀ : Frm X g am (inner ei sc) { newEnv sc (s.heap.push o₀).objs.size env.globals cells' env.qual none .none (some env) builtinsNs with scope := relabel sc env } (freeOf (kdOf sc.names) ρ) s₄.heap :=
      hF _ hk F.glob F.blt F.qual rfl rfl (fun x k h => kind_relabel hd x k h) (fun p h => nomatch h)
    generalize hce : ({ newEnv sc (s.heap.push o₀).objs.size env.globals cells' env.qual none .none (some env) builtinsNs with scope := relabel sc env } : Env) = cenv at F₀ ⊢
    have hL : cenv.locals = s.heap.objs.size + 1 := by rw [← hce]; exact hsz1
    have hcc : cenv.cells = cells' := by rw [← hce]; rfl
    show codeAny (model X.prog X.w) A (.compStart e 0 (.ref I) (.ref s.heap.objs.size) cenv) (RR (.ref s.heap.objs.size) (s.heap.push o₀).objs.size) s₄
    have hLn : (s.heap.push o₀).objs.size = cenv.locals := by rw [hL, hsz1]
    rw [hLn]
    have cellhi : ∀ x c, look (nm x) (kdOf sc.names) = some .cell → cenv.cells.lookup x = some c → s.heap.objs.size + 1 ≤ c := fun x c hx hc => by
      rw [hcc] at hc
      have := hcge x c hx hc
      rwa [hsz1] at this
    have celllo : ∀ x c, look (nm x) (kdOf sc.names) = some .free → cenv.cells.lookup x = some c → c < s.heap.objs.size ∧ c ∉ wr := fun x c hx hc => by
      rw [hcc, hfr x hx] at hc
      obtain ⟨c', e1, _, _, e4, e5, _⟩ := cells x hx
      rw [hc] at e1; cases e1
      exact ⟨e4, e5⟩
    have it₀ : St' 0 s₄.heap := T.frame 0 _ _ h0 fun b hb o e => by
      rcases hfp b hb with ⟨h1, h2, h3, _⟩ | ⟨_, o', ho'⟩
      · exact keep₄ b o h2 h3 e
      · exact keep₄ b o (fun hm => by rw [S.amg b hm] at ho'; cases ho') (fun ⟨t, ht, q⟩ => by rw [← q, S.tabg t ht] at ho'; cases ho') e
    have own_ge : ∀ a, Own (inner ei sc) cenv a → s.heap.objs.size + 1 ≤ a := fun a h => by
      rcases h with h | ⟨x, h1, h2⟩
      · rw [h, hL]; exact Nat.le_refl _
      · exact cellhi x a h1 h2
    have tk₄ : TK C s₄.toks := by rw [htk]; exact ht
    have H₀ : Turn C X (inner ei sc) cenv (freeOf (kdOf sc.names) ρ) s.heap.objs.size wr g am s₄ Acc St' 0 [] σ g am s₄ :=
      ⟨.refl, S₄, it₀, hAcc0 _ hDo, ⟨fr.1, fr.2.1⟩, fun b hb => ⟨(wlt b hb).1, (wlt b hb).2.1, (wlt b hb).2.2.1⟩, F₀, tk₄⟩
    have loop := hloop cenv (fun k s' => ∃ i rs σ₁ g' am' rest, i ≤ ds.length ∧ k = ds.length + 1 - i ∧ Turn C X (inner ei sc) cenv (freeOf (kdOf sc.names) ρ) s.heap.objs.size wr g am s₄ Acc St' i rs σ₁ g' am' s' ∧
      CompM (CompT C n (inner ei sc) t ifs fE (freeOf (kdOf sc.names) ρ)) (ds.drop i) σ₁ rest σ' ∧ rs ++ rest = tot) (RR (.ref s.heap.objs.size) cenv.locals) ?_ (ds.length + 1) s₄ ⟨0, [], σ, g, am, tot, Nat.zero_le _, rfl, H₀, hc, rfl⟩
    · exact hstart cenv _ s₄ loop (T.self 0 s₄ _ it₀ loop)
    · rintro k s' ⟨i, rs, σ₁, g', am', rest, hi, rfl, H, hc', htot⟩
      refine turn_ok W R T rfl (hB cenv) hAcc S₄ (G.Le.refl g) (fun _ _ e => e) fr.2.2 (fun hm => Nat.lt_irrefl _ (wlt _ hm).2.2.2) (by rw [hL]; exact Nat.ne_of_lt (Nat.lt_succ_self _)) (fun x c hx hc => ?_) (fun hm => ?_) (fun x c hx hc => ?_) (fun b hb => ?_) ⟨sz₄, fun b hb => Nat.lt_trans (wlt b hb).2.2.2 sz₄⟩
        (fun x d hx => free_look _ _ d _ hx) H hc' htot (P := fun _ s₅ => ∃ m, m < ds.length + 1 - i ∧ ∃ i rs σ₁ g' am' rest, i ≤ ds.length ∧ m = ds.length + 1 - i ∧ Turn C X (inner ei sc) cenv (freeOf (kdOf sc.names) ρ) s.heap.objs.size wr g am s₄ Acc St' i rs σ₁ g' am' s₅ ∧
      CompM (CompT C n (inner ei sc) t ifs fE (freeOf (kdOf sc.names) ρ)) (ds.drop i) σ₁ rest σ' ∧ rs ++ rest = tot) (Fin := fun s' => RR (.ref s.heap.objs.size) cenv.locals (.ok .next) s') hi (fun rs' rest' σ₂ g₂ am₂ s₂ hlt H₂ hc₂ ht₂ => ?_) fun g₂ am₂ s₂ H₂ => ?_
      · rcases hx with hx | hx
        · exact Nat.ne_of_gt (cellhi x c hx hc)
        · exact Nat.ne_of_lt (celllo x c hx hc).1
      · have := (wlt _ hm).2.2.2
        rw [hL] at this
        exact absurd this (Nat.not_lt.mpr (Nat.le_succ _))
      · rcases hx with hx | hx
        · exact fun hm => absurd (wlt _ hm).2.2.2 (Nat.not_lt.mpr (Nat.le_of_succ_le (cellhi x c hx hc)))
        · exact (celllo x c hx hc).2
      · by_cases hb' : b ∈ wr
        · exact .inl hb'
        · right
          rcases hfp b hb with ⟨h1, h2, h3, h4⟩ | ⟨_, o', ho'⟩
          · exact ⟨Nat.lt_trans h4 sz₄, .inl ⟨h1, h2, h3, Nat.ne_of_lt h4, fun h => absurd h4 (Nat.not_lt.mpr (Nat.le_of_succ_le (own_ge b h)))⟩⟩
          · exact ⟨Nat.lt_trans (Heap.lt_size (S.gin b o' ho')) sz₄, .inr ⟨o', ho'⟩⟩
      · exact ⟨ds.length + 1 - (i + 1), by lia, i + 1, rs', σ₂, g₂, am₂, rest', hlt, rfl, H₂, hc₂, ht₂⟩
      · obtain ⟨m, hn, _⟩ := H₂.frm.ns
        have x₁₂ := x₁.trans x₂ x₁.wx
        refine hRR cenv.locals g₂ am₂ s₂ m ((x₁₂.wide fun a h => .inl h).trans H₂.stp fun a ha h => ?_) H₂.st H₂.acc H₂.dn.1 H₂.dn.2 fr.2.2 (by rw [hL]; exact Nat.ne_of_lt (Nat.lt_succ_self _)) hn H₂.frm.Lg H₂.frm.Lam H₂.frm.Lt (by rw [hL]; exact Nat.le_succ _) H₂.tk
        rcases h with h | h | h | h
        · exact .inl h
        · exact .inr (.inr h)
        · exact .inr (.inl (Nat.le_of_eq h.symm))
        · exact .inr (.inl (Nat.le_of_succ_le (own_ge a h)))

variable {d : D}
theorem comp_loop {prog : Program} {w : World} {elt target iter : Expr} {ifs : List Expr} {scope : Scope} {pos : Pos} {it acc : Value} {env : Env} {R : Result → Shared → Prop} (I : Nat → Shared → Prop)
    (turn : ∀ n s, I n s → wpAny (model prog w) A (pyNext it) (fun r s₁ => match r with
      | none => R (.ok .next) s₁
      | some v => wpAny (model prog w) A (letOwnedTupleGo target it v) (fun _ s₀ => wpAny (model prog w) A (assign target env v) (fun _ s₂ =>
          wpAny (model prog w) A (forIn ifs true fun c r => if r = true then do let ok ← isTrue c env (eval c env); pure (ForInStep.yield ok) else pure (ForInStep.yield r)) (fun ok s₃ =>
            if ok = true then wpAny (model prog w) A (eval elt env) (fun x s₄ => wpAny (model prog w) A (call (.builtin "list.append") [acc, x]) (fun _ s₅ => ∃ m, m < n ∧ I m s₅) NEx s₄) NEx s₃
            else ∃ m, m < n ∧ I m s₃) NEx s₂) NEx s₀) NEx s₁) NEx s)
    (n : Nat) (s : Shared) (h : I n s) : codeAny (model prog w) A (.compLoop (.ListComp elt [⟨target, iter, ifs, 0⟩] scope pos) 0 it acc env) R s := by
  refine codeAny_loop rfl I (fun n s hI => ?_) n h
  show wpAny _ A ((compTurn (.ListComp elt [⟨target, iter, ifs, 0⟩] scope pos) 0 it acc env).onRaise (fun x => do noteFrame x env; theTreesLotGoes x)) _ _ s
  refine wpAny_noted ?_
  refine wpAny_mono (Q := fun fin s' => match fin with | .done f => R (.ok f) s' | .again c' => c' = .compLoop (.ListComp elt [⟨target, iter, ifs, 0⟩] scope pos) 0 it acc env ∧ ∃ m, m < n ∧ I m s') (E := NEx) ?_ (fun fin s' h => ?_) fun _ _ x => x.elim
  · rw [compTurn_list]
    refine wpAny_bind (wpAny_standAt (wpAny_bind (wpAny_mono (turn n s hI) (fun r s₁ h₁ => ?_) fun _ _ h' => h')))
    cases r with
    | none => exact wpAny_pure h₁
    | some v =>
      refine wpAny_bind (wpAny_mono h₁ (fun _ s₀ h₀' => ?_) fun _ _ h' => h')
      refine wpAny_bind (wpAny_mono h₀' (fun _ s₂ h₂ => ?_) fun _ _ h' => h')
      refine wpAny_bind (wpAny_mono h₂ (fun ok s₃ h₃ => ?_) fun _ _ h' => h')
      cases ok with
      | false => exact wpAny_pure ⟨rfl, h₃⟩
      | true =>
        exact wpAny_bind (wpAny_bind (wpAny_mono h₃ (fun x s₄ h₄ => wpAny_bind (wpAny_mono h₄ (fun _ s₅ h₅ => wpAny_pure (wpAny_pure ⟨rfl, h₅⟩)) fun _ _ h' => h')) fun _ _ h' => h'))
  · exact h

/- a list that is being filled -/
noncomputable def AccL (X : Cx) (D₀ : Addr) : G → List Addr → Heap → List D → Prop := fun g am h rs => ∃ ys k, h.get? D₀ = some { cls := .type "list", data := .seq ys.toArray k } ∧ Reps X g am ys rs
theorem accL_mono (D₀ : Addr) : ∀ g am g' am' h h' rs, G.Le g g' → (∀ (n : Nat) a, am[n]? = some a → am'[n]? = some a) → (∀ o, h.get? D₀ = some o → h'.get? D₀ = some o) → AccL X D₀ g am h rs → AccL X D₀ g' am' h' rs :=
  fun g am g' am' h h' rs h1 h2 h3 ⟨ys, k, e, r⟩ => ⟨ys, k, h3 _ e, r.mono h1 h2⟩
/- the names of a comprehension are let go -/
theorem let_go {Q : Value → Shared → Prop} {L : Addr} {m : Str → Option Value} {v : Value} {g' : G} {am' : List Addr} {s' : Shared} (P : Post X σ' d g am s Q) (x : Stp (Wx X am) g am s g' am' s') (S' : St X g' am' σ' s'.heap) (r : Rep X g' am' v d) (hn : s'.heap.Ns L m) (l1 : g' L = none) (l2 : L ∉ am')
    (l3 : ¬ X.isTab L) (l4 : s.heap.objs.size ≤ L) : compPost (model X.prog X.w) A NEx none Q v L (.ok .next) s' := by
  refine ⟨m, hn, fun h' hs => ?_⟩
  have x₂ : Stp (Wx X am) g am s g' am' { s' with heap := h' } := by
    refine x.trans (W₁ := fun a => a = L) ⟨⟨h', s'.toks, rfl⟩, fun a o hn e => (hs.2 a hn).trans e, fun _ _ => rfl, ⟨[], by simp⟩, Nat.le_of_eq hs.1.symm⟩ fun a ha h => ?_
    rw [h] at ha
    exact absurd ha (Nat.not_lt.mpr l4)
  exact P v g' am' _ x₂ (S'.keepW (fun a o hn e => (hs.2 a hn).trans e) l1 l2 l3) r


end
/- a comprehension, whatever is done with what it makes -/
structure EvC (C : Ctx) (n : Nat) (ei : EI) (e : Expr) (ρ : VarsN) (σ : Store) (d : D) (σ' : Store) : Prop where
  toE : EvE C n ei e ρ σ d σ'
  swap : ∀ x q l env, ∃ b : Bool, swapsWith e (some (.Name x q)) l env = pure b
  use : Runs1 C n ei ρ σ fun X A env g am s => ∀ (u : Value → Sem Unit) (Q : Shared → Prop),
    (∀ v L g' am' s' m, Stp (Wx X am) g am s g' am' s' → St X g' am' σ' s'.heap → Rep X g' am' v d → s'.heap.Ns L m → g' L = none → L ∉ am' → ¬ X.isTab L → s.heap.objs.size ≤ L → TK C s'.toks → compPost (model X.prog X.w) A NEx (some u) (fun _ => Q) v L (.ok .next) s') →
    wpAny (model X.prog X.w) A (evalThenUse e env u) (fun _ => Q) NEx s
noncomputable abbrev fElt (C : Ctx) (n : Nat) (ei : EI) (elt : Expr) (ρ : VarsN) (σ : Store) (r : List D) (σ' : Store) : Prop := ∃ d, EvE C n ei elt ρ σ d σ' ∧ r = [d]
section
variable {X : Cx} {C : Ctx} {g : G} {am : List Addr} {σ σ₁ σ₂ σ₃ : Store} {s : Shared} {A : Around} {n : Nat} {env : Env} {ei : EI} {ρ ρ₁ : VarsN} {d r : D} {ds es : List D} {p : Pos}
theorem bodyL (W : Good X C) (R : Room n A) {ei : EI} {elt : Expr} {D₀ : Addr} {tot : List D} (hl : tot.length ≤ lim) (cenv : Env) :
    BodyOk C X A ei cenv D₀ (AccL X D₀) (fElt C n ei elt) tot (fun KK s => wpAny (model X.prog X.w) A (eval elt cenv) (fun x s₄ => wpAny (model X.prog X.w) A (call (.builtin "list.append") [.ref D₀, x]) (fun _ s₅ => KK s₅) NEx s₄) NEx s) := by
  rintro ρ₁ σ r σ' g am s rs KK ⟨d, h1, rfl⟩ ht S F acc hD hDm hDt hq hK
  refine h1.run X W A cenv g am s ht R S F _ fun v g₁ am₁ s₁ x₁ S₁ r₁ ht₁ => ?_
  obtain ⟨ys, k, e, rr⟩ := acc
  have hlt := Heap.lt_size e
  have st := x₁.still hlt hD hDm
  have e₁ := x₁.keep _ _ (fun h => h.elim hDm hDt) e
  have hlen := rr.length
  refine append_at e₁ (fun h' hs e' => ?_) ?_
  · refine hK g₁ am₁ _ (x₁.wide (fun a h => .inl h) |>.trans (W₁ := fun a => a = D₀) ⟨⟨h', s₁.toks, rfl⟩, fun a o hn e => (hs.2 a hn).trans e, fun _ _ => rfl, ⟨[], by simp⟩, Nat.le_of_eq hs.1.symm⟩ fun a _ h => .inr h)
      (S₁.keepW (fun a o hn e => (hs.2 a hn).trans e) st.1 st.2 hDt) ⟨ys ++ [v], k + 1, ?_, (rr.stp x₁ S.gin).append (.cons r₁ .nil)⟩ ht₁
    rw [e']; simp
  · obtain ⟨q, hq⟩ := hq
    have := congrArg List.length hq
    simp only [List.length_append, List.length_cons, List.length_nil] at this
    rw [List.size_toArray, hlen]
    exact lim_size (by lia)
theorem lc_ok (W : Good X C) {elt t it : Expr} {ifs : List Expr} {sc : Scope} (hsc : scOk sc ei = true) (h1 : EvIt C n ei t it ρ σ ds σ₁) (h2 : CompM (CompT C n (inner ei sc) t ifs (fElt C n (inner ei sc) elt) (freeOf (kdOf sc.names) ρ)) ds σ₁ es σ₂) (hl : es.length ≤ lim) (ht : TK C s.toks) (R : Room (n + 1) A)
    (S : St X g am σ s.heap) (F : Frm X g am ei env ρ s.heap) {use : Option (Value → Sem Unit)} {Q : Value → Shared → Prop}
    (hQ : ∀ v L g' am' s' m, Stp (Wx X am) g am s g' am' s' → St X g' am' σ₂ s'.heap → Rep X g' am' v (.list es) → s'.heap.Ns L m → g' L = none → L ∉ am' → ¬ X.isTab L → s.heap.objs.size ≤ L → TK C s'.toks → compPost (model X.prog X.w) A NEx use Q v L (.ok .next) s') :
    wpAny (model X.prog X.w) A (comprehension (.ListComp elt [⟨t, it, ifs, 0⟩] sc p) sc env (firstIterPos [⟨t, it, ifs, 0⟩] p) (newList []) false (eval it env) use) Q NEx s := by
  obtain ⟨hk, hd, hdbg, hcd, hfree⟩ := scOk_parts hsc
  obtain ⟨cl, hcl, hcl2⟩ := clos_ok F hsc
  have R' := R.less (Nat.le_succ n)
  refine wpAny_comprehension_free rfl (h1.fold env) hcl hk (fun x hx hl => dist_mem hd (by rw [← hl]; exact hx)) ?_
  refine h1.run X W A env g am s ht R' S F _ fun I fp wr St' g₁ am₁ s₁ x₁ S₁ T h0 hfp hlen ht₁ => ?_
  have wlo : ∀ b ∈ wr, s.heap.objs.size ≤ b := fun b hb => by
    rcases hfp b (T.sub b hb) with h | h
    · exact h.2.2.2.1
    · exact absurd hb h.1
  refine comp_core W R' T h0 (fun b hb => (hfp b hb).imp (fun h => ⟨h.1, h.2.1, h.2.2.1, h.2.2.2.2⟩) id) S₁ (F.stp S x₁) ht₁ hsc hcl2 (fun x c hx hc hm => ?_) rfl rfl (fun Q hq => wpAny_newObj_type hq) (B := fun cenv KK s => wpAny (model X.prog X.w) A (eval elt cenv) (fun x s₄ => wpAny (model X.prog X.w) A (call (.builtin "list.append") [.ref s₁.heap.objs.size, x]) (fun _ s₅ => KK s₅) NEx s₄) NEx s)
    (fun cenv => bodyL W R' hl cenv) (accL_mono _) (fun h' e => ⟨[], 0, e, .nil⟩) (fun cenv J RR turn k s hJ => comp_loop J turn k s hJ) (fun cenv RR s h1 h2 => codeAny_compStart_list h1 (wpAny_mono h2 (fun _ _ x => x) fun _ _ x => x.elim)) h2 fun L g₂ am₂ s₂ m x₂ S₂ acc d1 d2 d3 d4 hn l1 l2 l3 l4 ht₂ => ?_
  · obtain ⟨c', e1, _, _, _, _, _, ov, e7, _⟩ := F.cells x hx
    rw [hc] at e1; cases e1
    exact absurd e7.lt (Nat.not_lt.mpr (wlo c hm))
  · obtain ⟨ys, k, e, rr⟩ := acc
    have x₃ : Stp (Wx X am) g am s g₂ am₂ s₂ := x₁.trans x₂ fun a ha h => by
      rcases h with h | h | h
      · exact x₁.wx a ha h
      · exact absurd ha (Nat.not_lt.mpr (Nat.le_trans x₁.size h))
      · exact absurd ha (Nat.not_lt.mpr (wlo a h))
    have x₄ : Stp (Wx X am) g am s (g₂.ext s₁.heap.objs.size { cls := .type "list", data := .seq ys.toArray k }) am₂ s₂ :=
      ⟨x₃.sh, x₃.keep, fun a ha => (G.ext_ne (Nat.ne_of_lt (Nat.lt_of_lt_of_le ha x₁.size))).trans (x₃.gext a ha), x₃.am, x₃.size⟩
    refine hQ (.ref s₁.heap.objs.size) L _ am₂ s₂ m x₄ (S₂.ext d1 d2 d3 e) (.list _ k ys es G.ext_at (rr.mono (G.ext_le d1) fun _ _ e => e)) hn ((G.ext_ne (Ne.symm d4)).trans l1) l2 l3 (Nat.le_trans x₁.size l4) ht₂
/- a comprehension's turn -/
noncomputable def cEI (sc : Scope) (ei : EI) : EI := ⟨kdOf sc.names, ei.qual, none, [], []⟩
noncomputable abbrev compB (C : Ctx) (n : Nat) (ei : EI) (t : Expr) (ifs : List Expr) (elt : Expr) (ρ : VarsN) : D → Store → List D → Store → Prop := CompT C n ei t ifs (fElt C n ei elt) ρ
theorem rLCc {t it elt : Expr} {ifs : List Expr} {sc : Scope} (h0 : scOk sc ei = true) (h1 : EvIt C n ei t it ρ σ ds σ₁) (h2 : CompM (compB C n (cEI sc ei) t ifs elt (freeOf (kdOf sc.names) ρ)) ds σ₁ es σ₂) (h3 : es.length ≤ lim) :
    EvC C (n + 1) ei (.ListComp elt [⟨t, it, ifs, 0⟩] sc p) ρ σ (.list es) σ₂ := by
  refine ⟨⟨nice_any, fun X W A env g am s ht R S F Q P => tpos ht ?_⟩, fun x q l env => ⟨_, rfl⟩, fun X W A env g am s ht R S F u Q hQ => ?_⟩
  · generalize TQ C Q = Q at P ⊢
    rw [eval_ListComp]
    exact lc_ok W h0 h1 h2 h3 ht R S F fun v L g' am' s' m x S' r hn l1 l2 l3 l4 ht' => let_go P x S' r hn l1 l2 l3 l4
  · rw [arm_evalThenUse_ListComp]
    exact wpAny_bind (wpAny_mono (lc_ok W h0 h1 h2 h3 ht R S F (use := some u) (Q := fun _ => Q) hQ) (fun _ _ e => wpAny_pure e) fun _ _ e => e)
theorem rLC {t it elt : Expr} {ifs : List Expr} {sc : Scope} (h0 : scOk sc ei = true) (h1 : EvIt C n ei t it ρ σ ds σ₁) (h2 : CompM (compB C n (cEI sc ei) t ifs elt (freeOf (kdOf sc.names) ρ)) ds σ₁ es σ₂) (h3 : es.length ≤ lim) :
    EvE C (n + 1) ei (.ListComp elt [⟨t, it, ifs, 0⟩] sc p) ρ σ (.list es) σ₂ := (rLCc h0 h1 h2 h3).toE
theorem cB {t elt : Expr} (h1 : AsgT C (n + 1) ei t d ρ σ ρ₁ σ₁) (h2 : EvE C (n + 1) ei elt ρ₁ σ₁ r σ₂) : compB C (n + 1) ei t [] elt ρ d σ [r] σ₂ :=
  ⟨ρ₁, σ₁, true, σ₁, h1, iNil, fun _ => ⟨r, h2, rfl⟩, fun h => nomatch h⟩
theorem cBi {t elt x : Expr} {c : Bool} (h1 : AsgT C (n + 2) ei t d ρ σ ρ₁ σ₁) (h2 : EvT C (n + 1) ei x ρ₁ σ₁ c σ₂) (h3 : EvE C (n + 2) ei elt ρ₁ σ₂ r σ₂) : compB C (n + 2) ei t [x] elt ρ d σ (if c then [r] else []) σ₂ :=
  ⟨ρ₁, σ₁, c, σ₂, h1, iOne h2, fun h => ⟨r, h3, by rw [h]; rfl⟩, fun h => ⟨by rw [h]; rfl, rfl⟩⟩
theorem cMap {α : Type} {F : D → Store → List D → Store → Prop} {g : α → D} {f : α → D} : ∀ {xs : List α}, (∀ x ∈ xs, F (g x) σ [f x] σ) → CompM F (xs.map g) σ (xs.map f) σ
  | [], _ => ⟨rfl, rfl⟩
  | x :: xs, h => ⟨[f x], σ, xs.map f, h x (List.mem_cons_self ..), cMap fun y hy => h y (List.mem_cons_of_mem _ hy), rfl⟩
theorem cFilter {α : Type} {F : D → Store → List D → Store → Prop} {g : α → D} {f : α → D} {c : α → Bool} : ∀ {xs : List α}, (∀ x ∈ xs, F (g x) σ (if c x then [f x] else []) σ) → CompM F (xs.map g) σ ((xs.filter c).map f) σ
  | [], _ => ⟨rfl, rfl⟩
  | x :: xs, h => ⟨_, σ, (xs.filter c).map f, h x (List.mem_cons_self ..), cFilter fun y hy => h y (List.mem_cons_of_mem _ hy), by cases hc : c x <;> simp [List.filter, hc]⟩
end
end
section
section
variable {X : Cx} {C : Ctx} {g : G} {am : List Addr} {σ σ' σ₁ σ₂ σ₃ : Store} {s : Shared} {A : Around} {n : Nat} {env : Env} {ei : EI} {ρ ρ₁ : VarsN} {d r a : D} {ds es : List D} {p : Pos}
theorem comp_loopD {prog : Program} {w : World} {kx vx target iter : Expr} {ifs : List Expr} {scope : Scope} {pos : Pos} {it : Value} {D₀ : Addr} {env : Env} {R : Result → Shared → Prop} (I : Nat → Shared → Prop)
    (turn : ∀ n s, I n s → wpAny (model prog w) A (pyNext it) (fun r s₁ => match r with
      | none => R (.ok .next) s₁
      | some v => wpAny (model prog w) A (letOwnedTupleGo target it v) (fun _ s₀ => wpAny (model prog w) A (assign target env v) (fun _ s₂ =>
          wpAny (model prog w) A (forIn ifs true fun c r => if r = true then do let ok ← isTrue c env (eval c env); pure (ForInStep.yield ok) else pure (ForInStep.yield r)) (fun ok s₃ =>
            if ok = true then wpAny (model prog w) A (eval kx env) (fun kv s₄ => wpAny (model prog w) A (eval vx env) (fun vv s₅ => wpAny (model prog w) A (dictSet D₀ kv vv) (fun _ s₆ => ∃ m, m < n ∧ I m s₆) NEx s₅) NEx s₄) NEx s₃
            else ∃ m, m < n ∧ I m s₃) NEx s₂) NEx s₀) NEx s₁) NEx s)
    (n : Nat) (s : Shared) (h : I n s) : codeAny (model prog w) A (.compLoop (.DictComp kx vx [⟨target, iter, ifs, 0⟩] scope pos) 0 it (.ref D₀) env) R s := by
  refine codeAny_loop rfl I (fun n s hI => ?_) n h
  show wpAny _ A ((compTurn (.DictComp kx vx [⟨target, iter, ifs, 0⟩] scope pos) 0 it (.ref D₀) env).onRaise (fun x => do noteFrame x env; theTreesLotGoes x)) _ _ s
  refine wpAny_noted ?_
  refine wpAny_mono (Q := fun fin s' => match fin with | .done f => R (.ok f) s' | .again c' => c' = .compLoop (.DictComp kx vx [⟨target, iter, ifs, 0⟩] scope pos) 0 it (.ref D₀) env ∧ ∃ m, m < n ∧ I m s') (E := NEx) ?_ (fun fin s' h => ?_) fun _ _ x => x.elim
  · rw [compTurn_dict]
    refine wpAny_bind (wpAny_standAt (wpAny_bind (wpAny_mono (turn n s hI) (fun r s₁ h₁ => ?_) fun _ _ h' => h')))
    cases r with
    | none => exact wpAny_pure h₁
    | some v =>
      refine wpAny_bind (wpAny_mono h₁ (fun _ s₀ h₀' => ?_) fun _ _ h' => h')
      refine wpAny_bind (wpAny_mono h₀' (fun _ s₂ h₂ => ?_) fun _ _ h' => h')
      refine wpAny_bind (wpAny_mono h₂ (fun ok s₃ h₃ => ?_) fun _ _ h' => h')
      cases ok with
      | false => exact wpAny_pure ⟨rfl, h₃⟩
      | true =>
        exact wpAny_bind (wpAny_bind (wpAny_mono h₃ (fun kv s₄ h₄ => wpAny_bind (wpAny_holding (wpAny_mono h₄ (fun vv s₅ h₅ => wpAny_bind (wpAny_standAt (wpAny_holding (wpAny_mono h₅ (fun _ s₆ h₆ => wpAny_pure ⟨rfl, h₆⟩) fun _ _ h' => h')))) fun _ _ h' => h'))) fun _ _ h' => h'))
  · exact h

/- a dict that is being filled -/
noncomputable def AccD (X : Cx) (D₀ : Addr) : G → List Addr → Heap → List D → Prop := fun g am h rs => ∃ (kvs : List (Str × Value)) (ls : List (List Nat)) (es : List D), h.DictOf (PySem.strKind X.prog X.w) D₀ kvs ∧ pairsD rs = some (ls, es) ∧ kvs.map (·.1.cps.toList) = ls ∧ Reps X g am (kvs.map (·.2)) es
theorem accD_mono (D₀ : Addr) : ∀ g am g' am' h h' rs, G.Le g g' → (∀ (n : Nat) a, am[n]? = some a → am'[n]? = some a) → (∀ o, h.get? D₀ = some o → h'.get? D₀ = some o) → AccD X D₀ g am h rs → AccD X D₀ g' am' h' rs :=
  fun g am g' am' h h' rs h1 h2 h3 ⟨kvs, ls, es, e, p, q, r⟩ => ⟨kvs, ls, es, e.at h3, p, q, r.mono h1 h2⟩
theorem pairs_cons {x : D} {r : List D} {p : List (List Nat) × List D} (h : pairsD (x :: r) = some p) : ∃ k v l e, x = .tup [.str k, v] ∧ pairsD r = some (l, e) ∧ p = (k :: l, v :: e) := by
  unfold pairsD at h
  split at h
  · rename_i heq; cases heq
  · rename_i k v r' heq
    cases heq
    obtain ⟨⟨l, e⟩, h1, h2⟩ := Option.map_eq_some_iff.mp h
    exact ⟨k, v, l, e, rfl, h1, h2.symm⟩
  · cases h
theorem pairs_app : ∀ {a b : List D} {ls es}, pairsD (a ++ b) = some (ls, es) → ∃ l1 e1 l2 e2, pairsD a = some (l1, e1) ∧ pairsD b = some (l2, e2) ∧ ls = l1 ++ l2 ∧ es = e1 ++ e2
  | [], b, ls, es, h => ⟨[], [], ls, es, rfl, h, rfl, rfl⟩
  | x :: a, b, ls, es, h => by
    obtain ⟨k, v, l, e, rfl, h1, h2⟩ := pairs_cons (show pairsD (x :: (a ++ b)) = _ from h)
    cases h2
    obtain ⟨l1, e1, l2, e2, p1, p2, p3, p4⟩ := pairs_app h1
    exact ⟨k :: l1, v :: e1, l2, e2, by simp only [pairsD, p1]; rfl, p2, by rw [p3]; rfl, by rw [p4]; rfl⟩
noncomputable abbrev fPair (C : Ctx) (n : Nat) (ei : EI) (k v : Expr) (ρ : VarsN) (σ : Store) (r : List D) (σ' : Store) : Prop := ∃ d σ₁ e, EvE C n ei k ρ σ d σ₁ ∧ EvE C n ei v ρ σ₁ e σ' ∧ r = [.tup [d, e]]
theorem pairs_one {d e : D} {l : List (List Nat)} {r : List D} (h : pairsD [.tup [d, e]] = some (l, r)) : ∃ k, d = .str k ∧ l = [k] ∧ r = [e] := by
  obtain ⟨k, v, l', e', h1, h2, h3⟩ := pairs_cons h
  cases h1
  cases h2
  cases h3
  exact ⟨k, rfl, rfl, rfl⟩
theorem bodyD (W : Good X C) (R : Room n A) {ei : EI} {kx vx : Expr} {D₀ : Addr} {tot : List D} {ls : List (List Nat)} {es : List D} (hp : pairsD tot = some (ls, es)) (hnd : ls.Nodup) (hl : ls.length ≤ lim) (cenv : Env) :
    BodyOk C X A ei cenv D₀ (AccD X D₀) (fPair C n ei kx vx) tot (fun KK s => wpAny (model X.prog X.w) A (eval kx cenv) (fun kv s₄ => wpAny (model X.prog X.w) A (eval vx cenv) (fun vv s₅ => wpAny (model X.prog X.w) A (dictSet D₀ kv vv) (fun _ s₆ => KK s₆) NEx s₅) NEx s₄) NEx s) := by
  rintro ρ₁ σ r σ' g am s rs KK ⟨d, σ₃, e, h1, h2, rfl⟩ ht S F acc hD hDm hDt hq hK
  obtain ⟨q, hq⟩ := hq
  rw [← hq, List.append_assoc] at hp
  obtain ⟨l1, e1, l2, e2, p1, p2, p3, p4⟩ := pairs_app hp
  obtain ⟨l3, e3, l4, e4, q1, q2, q3, q4⟩ := pairs_app p2
  obtain ⟨kvs, ls', es', hdict, a1, a2, a3⟩ := acc
  rw [p1] at a1; cases a1
  obtain ⟨k, rfl, rfl, rfl⟩ := pairs_one q1
  obtain ⟨o, es₀, ep, g1, _⟩ := id hdict
  have hlt := Heap.lt_size g1
  refine h1.run X W A cenv g am s ht R S F _ fun v g₁ am₁ s₁ x₁ S₁ r₁ ht₁ => ?_
  refine h2.run X W A cenv g₁ am₁ s₁ ht₁ R S₁ (F.stp S x₁) _ fun w g₂ am₂ s₂ x₂ S₂ r₂ ht₂ => ?_
  have x₁₂ := x₁.trans x₂ x₁.wx
  have st := x₁₂.still hlt hD hDm
  have hd₂ : s₂.heap.DictOf (PySem.strKind X.prog X.w) D₀ kvs := hdict.at fun o e => x₁₂.keep _ _ (fun h => h.elim hDm hDt) e
  obtain ⟨x, tk, rfl, hx, kx⟩ := rep_str r₁
  have hkn : x ∉ kvs.map (·.1) := by
    intro hm
    obtain ⟨p, hp, e⟩ := List.mem_map.mp hm
    have hmem : k ∈ l1 := by rw [← a2, ← hx, ← e]; exact List.mem_map_of_mem hp
    rw [p3, q3] at hnd
    have := (List.nodup_append.mp hnd).2.2 k hmem k (by simp)
    exact this rfl
  have hlen : kvs.length = l1.length := by rw [← a2, List.length_map]
  have hz : kvs.length ≤ sizeLine := by
    have : l1.length ≤ ls.length := by rw [p3]; simp
    exact lim_size (by lia)
  refine tpos ht₂ (wpAny_dictSet_pairs (hsz := hz) strKind_is hd₂ fun h' hd' hs ht' => ?_)
  · rw [stored_new hkn] at hd'
    refine hK g₂ am₂ _ (x₁₂.wide (fun a h => .inl h) |>.trans (W₁ := fun a => a = D₀) ⟨⟨h', _, rfl⟩, fun a o hn e => (hs.2 a hn).trans e, fun _ _ => rfl, ⟨[], by simp⟩, Nat.le_of_eq hs.1.symm⟩ fun a _ h => .inr h)
      (S₂.keepW (fun a o hn e => (hs.2 a hn).trans e) st.1 st.2 hDt) ⟨kvs ++ [(x, w)], l1 ++ [k], e1 ++ [e], hd', ?_, by simp [a2, hx], ?_⟩ ht'
    · have : ∀ {a : List D} {l e'}, pairsD a = some (l, e') → pairsD (a ++ [.tup [.str k, e]]) = some (l ++ [k], e' ++ [e]) := by
        intro a
        induction a with
        | nil => intro l e' h; simp only [pairsD] at h; cases h; rfl
        | cons z a ih =>
          intro l e' h
          obtain ⟨k', v', l', e'', rfl, h1, h2⟩ := pairs_cons h
          cases h2
          simp only [List.cons_append, pairsD, ih h1]; rfl
      exact this p1
    · rw [List.map_append]
      exact ((a3.stp x₁ S.gin).stp x₂ S₁.gin).append (.cons r₂ .nil)

theorem dc_ok (W : Good X C) {kx vx t it : Expr} {ifs : List Expr} {sc : Scope} {rs : List D} {ls : List (List Nat)} (hsc : scOk sc ei = true) (h1 : EvIt C n ei t it ρ σ ds σ₁) (h2 : CompM (CompT C n (inner ei sc) t ifs (fPair C n (inner ei sc) kx vx) (freeOf (kdOf sc.names) ρ)) ds σ₁ rs σ₂)
    (hp : pairsD rs = some (ls, es)) (hl : ls.Nodup ∧ ls.length ≤ lim) (ht : TK C s.toks) (R : Room (n + 1) A)
    (S : St X g am σ s.heap) (F : Frm X g am ei env ρ s.heap) {use : Option (Value → Sem Unit)} {Q : Value → Shared → Prop}
    (hQ : ∀ v L g' am' s' m, Stp (Wx X am) g am s g' am' s' → St X g' am' σ₂ s'.heap → Rep X g' am' v (.dict ls es) → s'.heap.Ns L m → g' L = none → L ∉ am' → ¬ X.isTab L → s.heap.objs.size ≤ L → TK C s'.toks → compPost (model X.prog X.w) A NEx use Q v L (.ok .next) s') :
    wpAny (model X.prog X.w) A (comprehension (.DictComp kx vx [⟨t, it, ifs, 0⟩] sc p) sc env (firstIterPos [⟨t, it, ifs, 0⟩] p) newDict false (eval it env) use) Q NEx s := by
  obtain ⟨hk, hd, hdbg, hcd, hfree⟩ := scOk_parts hsc
  obtain ⟨cl, hcl, hcl2⟩ := clos_ok F hsc
  have R' := R.less (Nat.le_succ n)
  refine wpAny_comprehension_free rfl (h1.fold env) hcl hk (fun x hx hl => dist_mem hd (by rw [← hl]; exact hx)) ?_
  refine h1.run X W A env g am s ht R' S F _ fun I fp wr St' g₁ am₁ s₁ x₁ S₁ T h0 hfp hlen ht₁ => ?_
  have wlo : ∀ b ∈ wr, s.heap.objs.size ≤ b := fun b hb => by
    rcases hfp b (T.sub b hb) with h | h
    · exact h.2.2.2.1
    · exact absurd hb h.1
  refine comp_core W R' T h0 (fun b hb => (hfp b hb).imp (fun h => ⟨h.1, h.2.1, h.2.2.1, h.2.2.2.2⟩) id) S₁ (F.stp S x₁) ht₁ hsc hcl2 (fun x c hx hc hm => ?_) rfl rfl (fun Q hq => wpAny_newObj_type hq)
    (B := fun cenv KK s => wpAny (model X.prog X.w) A (eval kx cenv) (fun kv s₄ => wpAny (model X.prog X.w) A (eval vx cenv) (fun vv s₅ => wpAny (model X.prog X.w) A (dictSet s₁.heap.objs.size kv vv) (fun _ s₆ => KK s₆) NEx s₅) NEx s₄) NEx s)
    (fun cenv => bodyD W R' hp hl.1 hl.2 cenv) (accD_mono _) (fun h' e => ⟨[], [], [], (Heap.DictOf.new s₁.heap).at fun o e' => by rw [Heap.get?_push_size _ rfl] at e'; cases e'; exact e, rfl, rfl, .nil⟩) (fun cenv J RR turn k s hJ => comp_loopD J turn k s hJ)
    (fun cenv RR s h1 h2 => codeAny_compStart_dict h1 (wpAny_mono h2 (fun _ _ x => x) fun _ _ x => x.elim)) h2 (RR := fun acc C => compPost (model X.prog X.w) A NEx use Q acc C) fun L g₂ am₂ s₂ m x₂ S₂ acc d1 d2 d3 d4 hn l1 l2 l3 l4 ht₂ => ?_
  · obtain ⟨c', e1, _, _, _, _, _, ov, e7, _⟩ := F.cells x hx
    rw [hc] at e1; cases e1
    exact absurd e7.lt (Nat.not_lt.mpr (wlo c hm))
  · obtain ⟨kvs, ls', es', hdict, a1, a2, a3⟩ := acc
    rw [hp] at a1; cases a1
    obtain ⟨o, es₀, ep, e, _⟩ := id hdict
    have x₃ : Stp (Wx X am) g am s g₂ am₂ s₂ := x₁.trans x₂ fun a ha h => by
      rcases h with h | h | h
      · exact x₁.wx a ha h
      · exact absurd ha (Nat.not_lt.mpr (Nat.le_trans x₁.size h))
      · exact absurd ha (Nat.not_lt.mpr (wlo a h))
    have x₄ : Stp (Wx X am) g am s (g₂.ext s₁.heap.objs.size o) am₂ s₂ :=
      ⟨x₃.sh, x₃.keep, fun a ha => (G.ext_ne (Nat.ne_of_lt (Nat.lt_of_lt_of_le ha x₁.size))).trans (x₃.gext a ha), x₃.am, x₃.size⟩
    refine hQ _ L _ am₂ s₂ m x₄ (S₂.ext d1 d2 d3 e) ?_ hn ((G.ext_ne (Ne.symm d4)).trans l1) l2 l3 (Nat.le_trans x₁.size l4) ht₂
    rw [← a2]
    exact dict_rep (W.o.sysne S₁ (Nat.le_refl _)) G.ext_at e hdict (a3.mono (G.ext_le d1) fun _ _ e => e)
noncomputable abbrev dictB (C : Ctx) (n : Nat) (ei : EI) (t : Expr) (ifs : List Expr) (k v : Expr) (ρ : VarsN) : D → Store → List D → Store → Prop := CompT C n ei t ifs (fPair C n ei k v) ρ
theorem rDCc {t it kx vx : Expr} {ifs : List Expr} {sc : Scope} {rs : List D} {ls : List (List Nat)} (h0 : scOk sc ei = true) (h1 : EvIt C n ei t it ρ σ ds σ₁) (h2 : CompM (dictB C n (cEI sc ei) t ifs kx vx (freeOf (kdOf sc.names) ρ)) ds σ₁ rs σ₂)
    (h3 : pairsD rs = some (ls, es)) (h4 : ls.Nodup ∧ ls.length ≤ lim) : EvC C (n + 1) ei (.DictComp kx vx [⟨t, it, ifs, 0⟩] sc p) ρ σ (.dict ls es) σ₂ := by
  refine ⟨⟨nice_any, fun X W A env g am s ht R S F Q P => tpos ht ?_⟩, fun x q l env => ⟨_, rfl⟩, fun X W A env g am s ht R S F u Q hQ => ?_⟩
  · generalize TQ C Q = Q at P ⊢
    rw [arm_eval_DictComp]
    exact dc_ok W h0 h1 h2 h3 h4 ht R S F fun v L g' am' s' m x S' r hn l1 l2 l3 l4 ht' => let_go P x S' r hn l1 l2 l3 l4
  · rw [arm_evalThenUse_DictComp]
    exact wpAny_bind (wpAny_mono (dc_ok W h0 h1 h2 h3 h4 ht R S F (use := some u) (Q := fun _ => Q) hQ) (fun _ _ e => wpAny_pure e) fun _ _ e => e)
theorem dB {t kx vx : Expr} (h1 : AsgT C (n + 1) ei t d ρ σ ρ₁ σ₁) (h2 : EvE C (n + 1) ei kx ρ₁ σ₁ r σ₂) (h3 : EvE C (n + 1) ei vx ρ₁ σ₂ a σ₃) : dictB C (n + 1) ei t [] kx vx ρ d σ [.tup [r, a]] σ₃ :=
  ⟨ρ₁, σ₁, true, σ₁, h1, iNil, fun _ => ⟨r, σ₂, a, h2, h3, rfl⟩, fun h => nomatch h⟩
end
end
section
section
variable {X : Cx} {C : Ctx} {g : G} {am : List Addr} {σ σ' : Store} {s : Shared} {A : Around} {n : Nat} {env : Env} {ei : EI} {ρ ρ' : VarsN} {d : D} {f : Flo}
/- a new thing that may change -/
theorem St.more {h : Heap} (S : St X g am σ h) {a : Addr} {so : SO} (hg : g a = none) (hm : a ∉ am) (ht : ¬ X.isTab a) (hso : SORep X g (am ++ [a]) h a so) : St X g (am ++ [a]) (σ ++ [so]) h := by
  have pre : ∀ (n : Nat) b, am[n]? = some b → (am ++ [a])[n]? = some b := fun n b e => by
    rw [List.getElem?_append_left (List.getElem?_eq_some_iff.mp e).1]; exact e
  refine ⟨S.gin, S.base, S.tabg, S.tab, fun b hb => ?_, fun b hb => ?_, ?_, by simp [S.len], fun i b so' e1 e2 => ?_⟩
  · rcases List.mem_append.mp hb with hb | hb
    · exact S.amg b hb
    · rw [List.mem_singleton.mp hb]; exact hg
  · rcases List.mem_append.mp hb with hb | hb
    · exact S.amt b hb
    · rw [List.mem_singleton.mp hb]; exact ht
  · rw [List.nodup_append]
    refine ⟨S.nodup, by simp, fun x hx y hy e => ?_⟩
    rw [List.mem_singleton.mp hy] at e
    exact hm (e ▸ hx)
  · by_cases hi : i < am.length
    · rw [List.getElem?_append_left hi] at e1
      rw [List.getElem?_append_left (S.len ▸ hi)] at e2
      exact (S.so i b so' e1 e2).at (G.Le.refl g) pre fun _ e => e
    · rw [List.getElem?_append_right (Nat.not_lt.mp hi)] at e1
      rw [List.getElem?_append_right (by rw [← S.len]; exact Nat.not_lt.mp hi), ← S.len] at e2
      cases h : i - am.length with
      | zero =>
        rw [h] at e1 e2
        simp at e1 e2
        subst e1; subst e2
        exact hso
      | succ k => rw [h] at e1; simp at e1

/- a new list, held to change -/
theorem list_more (S : St X g am σ s.heap) {vs : List Value} {ds : List D} (r : Reps X g am vs ds) {Q : Value → Shared → Prop} (P : Post X (σ ++ [.list ds]) (.loc σ.length) g am s Q) :
    Q (.ref s.heap.objs.size) { s with heap := s.heap.push { cls := .type "list", data := .seq vs.toArray } } := by
  obtain ⟨f1, f2, f3⟩ := S.fresh (Nat.le_refl _)
  have hk : ∀ a o, s.heap.get? a = some o → (s.heap.push { cls := .type "list", data := .seq vs.toArray }).get? a = some o := fun a o e => Heap.get?_push_of_some _ e
  have pre : ∀ (n : Nat) b, am[n]? = some b → (am ++ [s.heap.objs.size])[n]? = some b := fun n b e => by
    rw [List.getElem?_append_left (List.getElem?_eq_some_iff.mp e).1]; exact e
  refine P _ g (am ++ [s.heap.objs.size]) _ ⟨⟨_, s.toks, rfl⟩, fun a o _ e => hk a o e, fun _ _ => rfl, ⟨[s.heap.objs.size], rfl, fun a ha => Nat.le_of_eq (List.mem_singleton.mp ha).symm⟩, by rw [Heap.size_push]; lia⟩
    ((S.keepG hk).more f1 f2 f3 ⟨0, vs, Heap.get?_push_size _ rfl, r.mono (G.Le.refl g) pre⟩) (.loc _ _ ?_)
  rw [← S.len, List.getElem?_append_right (Nat.le_refl _)]; simp


end
section
variable {C : Ctx} {n : Nat} {ei : EI} {ρ ρ₁ ρ₂ : VarsN} {σ σ₁ σ₂ σ₃ : Store} {p q fp : Pos} {a b d r : D} {l : List Nat} {ds es : List D} {k : Nat} {f : Flo}

/-! displays that may change -/
noncomputable abbrev EvM := @EvE
theorem mList {xs : List Expr} (h0 : decide (xs.length < 1000) = true) (h : EvEs C n ei xs ρ σ ds σ₁) : EvM C (n + 1) ei (.List xs p) ρ σ (.loc σ₁.length) (σ₁ ++ [.list ds]) := by
  refine ⟨nice_any, fun X W A env g am s ht R S F Q P => tpos ht ?_⟩
  generalize TQ C Q = Q at P ⊢
  refine List_ (h.run X W A env g am s ht (R.less (Nat.le_succ _)) S F p _ fun vs g₁ am₁ s₁ x₁ S₁ r₁ ht₁ => ?_)
  refine wpAny_newObj_type ?_ (by show vs.toArray.size ≤ sizeLine; rw [List.size_toArray, r₁.length, h.len]; exact lim_size (Nat.le_trans (Nat.le_of_lt (of_decide_eq_true h0)) (by decide)))
  exact list_more S₁ r₁ (P.trans x₁)
theorem mAdd {x y : Expr} (h1 : EvE C n ei x ρ σ a σ₁) (h2 : EvE C n ei y ρ σ₁ b σ₂) (h3 : lstD σ₂ a = some ds) (h4 : lstD σ₂ b = some es) (h5 : ds.length + es.length ≤ lim) :
    EvM C (n + 1) ei (.BinOp x .Add y p) ρ σ (.loc σ₂.length) (σ₂ ++ [.list (ds ++ es)]) := by
  refine ⟨nice_any, fun X W A env g am s ht R S F Q P => tpos ht ?_⟩
  generalize TQ C Q = Q at P ⊢
  refine wpAny_BinOp (h1.run X W A env g am s ht (R.less (Nat.le_succ _)) S F _ fun v g₁ am₁ s₁ x₁ S₁ r₁ ht₁ => ?_)
  refine h2.run X W A env g₁ am₁ s₁ ht₁ (R.less (Nat.le_succ _)) S₁ (F.stp S x₁) _ fun w g₂ am₂ s₂ x₂ S₂ r₂ ht₂ => ?_
  obtain ⟨a1, n1, vs1, rfl, e1, q1⟩ := lst_ok S₂ (r₁.stp x₂ S₁.gin) h3
  obtain ⟨a2, n2, vs2, rfl, e2, q2⟩ := lst_ok S₂ r₂ h4
  refine PySem.P.add_list e1 e2 ?_ (by rw [List.size_toArray, List.size_toArray, q1.length, q2.length]; exact lim_size h5)
  have := list_more S₂ (q1.append q2) (P.trans (x₁.trans x₂ x₁.wx))
  simpa using this
structure EvVs (C : Ctx) (n : Nat) (ei : EI) (ts es : List Expr) (ρ : VarsN) (σ : Store) (ds : List D) (σ' : Store) : Prop where
  ev : EvEs C n ei es ρ σ ds σ'
  len : es.length = ts.length
  le : ts.length ≤ n
theorem v0 : EvVs C (n + 1) ei [] [] ρ σ [] σ := ⟨rEs0, rfl, Nat.zero_le _⟩
theorem vE {t x : Expr} {ts xs : List Expr} (h0 : isMu ei t = false) (h1 : EvE C n ei x ρ σ d σ₁) (h2 : EvVs C n ei ts xs ρ σ₁ ds σ₂) : EvVs C (n + 1) ei (t :: ts) (x :: xs) ρ σ (d :: ds) σ₂ := ⟨rEs h1 h2.ev, congrArg (· + 1) h2.len, Nat.succ_le_succ h2.le⟩
theorem vM {t x : Expr} {ts xs : List Expr} (h0 : isMu ei t = true) (h1 : EvM C n ei x ρ σ d σ₁) (h2 : EvVs C n ei ts xs ρ σ₁ ds σ₂) : EvVs C (n + 1) ei (t :: ts) (x :: xs) ρ σ (d :: ds) σ₂ := ⟨rEs h1 h2.ev, congrArg (· + 1) h2.len, Nat.succ_le_succ h2.le⟩

/-! statements -/
structure ExS (C : Ctx) (n : Nat) (ei : EI) (st : Stmt) (ρ : VarsN) (σ : Store) (f : Flo) (ρ' : VarsN) (σ' : Store) : Prop where
  run : Runs1 C n ei ρ σ fun X A env g am s => ∀ Q, PostX X ei env f ρ' σ' g am s (TQ C Q) → wpAny (model X.prog X.w) A (exec st env) Q NEx s
structure ExL (C : Ctx) (n : Nat) (ei : EI) (sts : List Stmt) (ρ : VarsN) (σ : Store) (f : Flo) (ρ' : VarsN) (σ' : Store) : Prop where
  run : Runs1 C n ei ρ σ fun X A env g am s => ∀ Q, PostX X ei env f ρ' σ' g am s (TQ C Q) → wpAny (model X.prog X.w) A (execs sts env) Q NEx s
theorem PostX.trans {X : Cx} {g : G} {am : List Addr} {s : Shared} {env : Env} {g₁ am₁ s₁} {Q : Flow → Shared → Prop} (P : PostX X ei env f ρ₁ σ₁ g am s Q) (x : Stp (Ws X am ei env) g am s g₁ am₁ s₁) : PostX X ei env f ρ₁ σ₁ g₁ am₁ s₁ Q :=
  fun fl g₂ am₂ s₂ y S F k => P fl g₂ am₂ s₂ (x.trans y x.ws) S F k
theorem L0 : ExL C (n + 1) ei [] ρ σ .next ρ σ := ExL.mk <| fun X W A env g am s ht R S F Q P => by
  rw [execs_nil]
  exact wpAny_pure (P _ g am s .refl S F trivial ht)
theorem L1 {st : Stmt} {rest : List Stmt} (h1 : ExS C n ei st ρ σ .next ρ₁ σ₁) (h2 : ExL C n ei rest ρ₁ σ₁ f ρ₂ σ₂) : ExL C (n + 1) ei (st :: rest) ρ σ f ρ₂ σ₂ := ExL.mk <| fun X W A env g am s ht R S F Q P => by
  rw [execs_cons]
  refine wpAny_bind (h1.run X W A env g am s ht (R.less (Nat.le_succ _)) S F _ fun fl g₁ am₁ s₁ x₁ S₁ F₁ k₁ ht₁ => ?_)
  cases fl <;> first | (exact k₁.elim) | skip
  exact h2.run X W A env g₁ am₁ s₁ ht₁ (R.less (Nat.le_succ _)) S₁ F₁ _ (P.trans x₁)
theorem LE {st : Stmt} {rest : List Stmt} (hf : f ≠ .next) (h1 : ExS C n ei st ρ σ f ρ₁ σ₁) : ExL C (n + 1) ei (st :: rest) ρ σ f ρ₁ σ₁ := ExL.mk <| fun X W A env g am s ht R S F Q P => by
  rw [execs_cons]
  refine wpAny_bind (h1.run X W A env g am s ht (R.less (Nat.le_succ _)) S F _ fun fl g₁ am₁ s₁ x₁ S₁ F₁ k₁ ht₁ => ?_)
  have := P fl g₁ am₁ s₁ x₁ S₁ F₁ k₁ ht₁
  cases fl with
  | next => cases f <;> first | (exact absurd rfl hf) | (exact k₁.elim)
  | brk => exact wpAny_pure this
  | cont => exact wpAny_pure this
  | ret v => exact wpAny_pure this
theorem LR {st : Stmt} {rest : List Stmt} (h1 : ExS C n ei st ρ σ (.ret d) ρ₁ σ₁) : ExL C (n + 1) ei (st :: rest) ρ σ (.ret d) ρ₁ σ₁ := LE (fun h => nomatch h) h1
theorem LB {st : Stmt} {rest : List Stmt} (h1 : ExS C n ei st ρ σ .brk ρ₁ σ₁) : ExL C (n + 1) ei (st :: rest) ρ σ .brk ρ₁ σ₁ := LE (fun h => nomatch h) h1
theorem sBrk : ExS C (n + 1) ei (.Break p) ρ σ .brk ρ σ := ExS.mk <| fun X W A env g am s ht R S F Q P => wpAny_Break (P _ g am s .refl S F trivial ht)
theorem sRet {e : Expr} (h : EvE C n ei e ρ σ d σ₁) : ExS C (n + 1) ei (.Return (some e) p) ρ σ (.ret d) ρ σ₁ := ExS.mk <| fun X W A env g am s ht R S F Q P =>
  wpAny_Return_some (h.run X W A env g am s ht (R.less (Nat.le_succ _)) S F _ fun v g₁ am₁ s₁ x₁ S₁ r₁ ht₁ => P (.ret v) g₁ am₁ s₁ x₁.toWs S₁ (F.stp S x₁) r₁ ht₁)
theorem sIf {t : Expr} {c : Bool} {x y : List Stmt} (h1 : EvT C n ei t ρ σ c σ₁) (h2 : c = true → ExL C n ei x ρ σ₁ f ρ₂ σ₂) (h3 : c = false → ExL C n ei y ρ σ₁ f ρ₂ σ₂) : ExS C (n + 1) ei (.If t x y p) ρ σ f ρ₂ σ₂ := ExS.mk <| fun X W A env g am s ht R S F Q P => by
  refine wpAny_If (h1.run X W A env g am s ht (R.less (Nat.le_succ _)) S F _ fun g₁ am₁ s₁ x₁ S₁ ht₁ => ?_)
  cases c
  · exact (h3 rfl).run X W A env g₁ am₁ s₁ ht₁ (R.less (Nat.le_succ _)) S₁ (F.stp S x₁) _ (P.trans x₁.toWs)
  · exact (h2 rfl).run X W A env g₁ am₁ s₁ ht₁ (R.less (Nat.le_succ _)) S₁ (F.stp S x₁) _ (P.trans x₁.toWs)
theorem sIfT {t : Expr} {x y : List Stmt} (h1 : EvT C n ei t ρ σ true σ₁) (h2 : ExL C n ei x ρ σ₁ f ρ₂ σ₂) : ExS C (n + 1) ei (.If t x y p) ρ σ f ρ₂ σ₂ := sIf h1 (fun _ => h2) (fun h => nomatch h)
theorem sIfF {t : Expr} {x y : List Stmt} (h1 : EvT C n ei t ρ σ false σ₁) (h2 : ExL C n ei y ρ σ₁ f ρ₂ σ₂) : ExS C (n + 1) ei (.If t x y p) ρ σ f ρ₂ σ₂ := sIf h1 (fun h => nomatch h) (fun _ => h2)
end
end
section
section
variable {X : Cx} {C : Ctx} {g : G} {am : List Addr} {σ σ' : Store} {s : Shared} {A : Around} {n : Nat} {env : Env} {ei : EI} {ρ ρ' : VarsN} {d : D} {f : Flo}
theorem getL_ok (S : St X g am σ s.heap) {k : Nat} {i : Int} {r : D} {v w : Value} (e : itemD σ (.loc k) (.int i) = some r) (rv : Rep X g am v (.loc k)) (rw' : Rep X g am w (.int i)) {Q : Value → Shared → Prop}
    (P : Post X σ r g am s Q) : wpAny (model X.prog X.w) A (getItem v w) Q NEx s := by
  simp only [itemD] at e
  split at e
  · rename_i l hs
    split at e
    · rename_i h
      obtain ⟨a, kk, vs, rfl, ho, rs⟩ := lst_ok S rv (ds := l) (by simp [lstD, hs])
      obtain ⟨u, rfl⟩ := rep_int rw'
      have hl : s.heap.IsList a vs.toArray := ⟨_, ho, rfl, kk, rfl⟩
      obtain ⟨x, hx, rx⟩ := rs.get e
      exact wpAny_getItem_list (x := x) hl (by lia) (by lia) (by simpa using hx) (P.here S rx)
    · cases e
  · cases e

theorem try_any {body orelse : Sem Flow} {hs : List ExceptHandler} {Q : Flow → Shared → Prop}
    (h : wpAny (model X.prog X.w) A body (fun f s₁ => match f with | .next => wpAny (model X.prog X.w) A orelse Q NEx s₁ | f => Q f s₁) NEx s) :
    wpAny (model X.prog X.w) A (tryStmt false body hs orelse [] env) Q NEx s := by
  unfold tryStmt
  simp only [List.isEmpty_nil, if_true]
  refine wpAny_bind (wpAny_attempt (wpAny_mono h (fun f s₁ h₁ => ?_) fun e s₁ h₁ => h₁.elim))
  cases f with
  | next => exact h₁
  | brk => exact wpAny_pure h₁
  | cont => exact wpAny_pure h₁
  | ret v => exact wpAny_pure h₁


end
/- an operator's answer in place -/
structure AugD (op : Operator) (a b d : D) : Prop where
  run : ∀ {X : Cx} {g : G} {am : List Addr} {σ : Store} {s : Shared} {A : Around} {Q : Value → Shared → Prop} {v w : Value}, St X g am σ s.heap → Rep X g am v a → Rep X g am w b → Post X σ d g am s Q → wpAny (model X.prog X.w) A (inplaceOp op v w) Q NEx s
theorem gAdd {a b : Int} : AugD .Add (.int a) (.int b) (.int (a + b)) := ⟨fun S ra rb P => by
  obtain ⟨t, rfl⟩ := rep_int ra; obtain ⟨u, rfl⟩ := rep_int rb
  exact PySem.P.iadd_int (P.tok S (.int _ _) _)⟩
theorem gAddS {x y : List Nat} (h : x.length + y.length ≤ lim) : AugD .Add (.str x) (.str y) (.str (x ++ y)) := ⟨fun S ra rb P => by
  obtain ⟨x, t, rfl, hx, kx⟩ := rep_str ra
  obtain ⟨y, u, rfl, hy, ky⟩ := rep_str rb
  subst hx hy
  exact SB.iadd (fun t' tk => P.tok S (.str _ _ _ Array.toList_append (okS_append kx ky)) _) (lim_size h)⟩
/- a loop's turns -/
noncomputable def ForM (F : D → VarsN → Store → Flo → VarsN → Store → Prop) : List D → VarsN → Store → Flo → VarsN → Store → Prop
  | [], ρ, σ, f, ρ', σ' => f = .next ∧ ρ' = ρ ∧ σ' = σ
  | d :: ds, ρ, σ, f, ρ', σ' => ∃ f₁ ρ₁ σ₁, F d ρ σ f₁ ρ₁ σ₁ ∧ (((f₁ = .next ∨ f₁ = .cont) ∧ ForM F ds ρ₁ σ₁ f ρ' σ') ∨ (f₁ = .brk ∧ f = .next ∧ ρ' = ρ₁ ∧ σ' = σ₁) ∨ ∃ d, f₁ = .ret d ∧ f = .ret d ∧ ρ' = ρ₁ ∧ σ' = σ₁)
structure loopB (C : Ctx) (n : Nat) (ei : EI) (t : Expr) (body : List Stmt) (d : D) (ρ : VarsN) (σ : Store) (f : Flo) (ρ' : VarsN) (σ' : Store) : Prop where
  run : ∃ ρ₁ σ₁, AsgT C n ei t d ρ σ ρ₁ σ₁ ∧ ExL C n ei body ρ₁ σ₁ f ρ' σ'
section
variable {C : Ctx} {n : Nat} {ei : EI} {ρ ρ₁ ρ₂ ρ' : VarsN} {σ σ₁ σ₂ σ₃ σ' : Store} {p q fp : Pos} {a b d r : D} {l : List Nat} {ds es : List D} {k : Nat} {f : Flo}
theorem f0 {F : D → VarsN → Store → Flo → VarsN → Store → Prop} : ForM F [] ρ σ .next ρ σ := ⟨rfl, rfl, rfl⟩
theorem fN {F : D → VarsN → Store → Flo → VarsN → Store → Prop} (h1 : F d ρ σ .next ρ₁ σ₁) (h2 : ForM F ds ρ₁ σ₁ f ρ₂ σ₂) : ForM F (d :: ds) ρ σ f ρ₂ σ₂ := ⟨_, _, _, h1, .inl ⟨.inl rfl, h2⟩⟩
theorem fB {F : D → VarsN → Store → Flo → VarsN → Store → Prop} (h1 : F d ρ σ .brk ρ₁ σ₁) : ForM F (d :: ds) ρ σ .next ρ₁ σ₁ := ⟨_, _, _, h1, .inr (.inl ⟨rfl, rfl, rfl, rfl⟩)⟩
theorem lB {t : Expr} {body : List Stmt} (h1 : AsgT C n ei t d ρ σ ρ₁ σ₁) (h2 : ExL C n ei body ρ₁ σ₁ f ρ₂ σ₂) : loopB C n ei t body d ρ σ f ρ₂ σ₂ := ⟨⟨_, _, h1, h2⟩⟩
theorem sFor {t it : Expr} {body : List Stmt} (h1 : EvIt C n ei t it ρ σ ds σ₁) (h : ForM (loopB C n ei t body) ds ρ σ₁ f ρ' σ') : ExS C (n + 1) ei (.For t it body [] p) ρ σ f ρ' σ' := ExS.mk <| fun X W A env g am s ht R S F Q P => by
  have R' := R.less (Nat.le_succ n)
  refine wpAny_For ?_ (h1.fold env)
  refine h1.run X W A env g am s ht R' S F _ fun I fp wr St' g₁ am₁ s₁ x₁ S₁ T h0 hfp hlen ht₁ => ?_
  have F₁ := F.stp S x₁
  have wlo : ∀ b ∈ wr, s.heap.objs.size ≤ b ∧ b < s₁.heap.objs.size ∧ g₁ b = none ∧ b ∉ am₁ ∧ ¬ X.isTab b := fun b hb => by
    rcases hfp b (T.sub b hb) with h | h
    · exact ⟨h.2.2.2.1, h.2.2.2.2, h.1, h.2.1, h.2.2.1⟩
    · exact absurd hb h.1
  -- the own frame is older than what is drawn from
  have ownlt : ∀ a, Own ei env a → a < s.heap.objs.size := fun a ho => by
    rcases ho with ho | ⟨x, e1, e2⟩
    · obtain ⟨m, hn, _⟩ := F.ns
      rw [ho]; exact hn.lt
    · obtain ⟨c, q1, _, _, _, _, _, ov, q7, _⟩ := F.cells x (.inl e1)
      rw [e2] at q1; cases q1
      exact q7.lt
  have celllt : ∀ y c, (look (nm y) ei.kd = some .cell ∨ look (nm y) ei.kd = some .free) → env.cells.lookup y = some c → c < s.heap.objs.size := fun y c hy e => by
    obtain ⟨c', q1, _, _, _, _, _, ov, q7, _⟩ := F.cells y hy
    rw [e] at q1; cases q1
    exact q7.lt
  let J : Nat → Shared → Prop := fun k s₂ => ∃ i g₂ am₂ ρ₂ σ₂, k + i = ds.length ∧ ForM (loopB C n ei t body) (ds.drop i) ρ₂ σ₂ f ρ' σ' ∧ Stp (fun a => Ws X am₁ ei env a ∨ a ∈ wr) g₁ am₁ s₁ g₂ am₂ s₂ ∧ St X g₂ am₂ σ₂ s₂.heap ∧ Frm X g₂ am₂ ei env ρ₂ s₂.heap ∧ St' i s₂.heap ∧ TK C s₂.toks
  -- the end
  have fin : ∀ fl g₂ am₂ s₂, Stp (fun a => Ws X am₁ ei env a ∨ a ∈ wr) g₁ am₁ s₁ g₂ am₂ s₂ → St X g₂ am₂ σ' s₂.heap → Frm X g₂ am₂ ei env ρ' s₂.heap → FloOk X g₂ am₂ fl f → TK C s₂.toks → Q fl s₂ := fun fl g₂ am₂ s₂ y S₂ F₂ k ht => by
    refine P fl g₂ am₂ s₂ ((x₁.toWs (ei := ei) (env := env)).trans y fun a ha hw => ?_) S₂ F₂ k ht
    rcases hw with (hw | hw) | hw
    · exact .inl (x₁.wx a ha hw)
    · exact .inr hw
    · exact absurd (wlo a hw).1 (Nat.not_le.mpr ha)
  refine codeAny_forLoop_any J (fun k s₂ hJ => ?_) ds.length ⟨0, g₁, am₁, ρ, σ₁, by simp, by simpa using h, .refl, S₁, F₁, h0, ht₁⟩
  obtain ⟨i, g₂, am₂, ρ₂, σ₂, hki, hf, y, S₂, F₂, it₂, ht₂⟩ := hJ
  have wr2 : ∀ b ∈ wr, g₂ b = none ∧ b ∉ am₂ ∧ ¬ X.isTab b := fun b hb => by
    obtain ⟨q1, q2, q3, q4, q5⟩ := wlo b hb
    exact ⟨(y.still q2 q3 q4).1, (y.still q2 q3 q4).2, q5⟩
  by_cases hlt : i < ds.length
  · have hd : ds[i]? = some ds[i] := List.getElem?_eq_getElem hlt
    rw [List.drop_eq_getElem_cons hlt] at hf
    generalize ds[i] = d at hd hf
    obtain ⟨f₄, ρ₄, σ₄, ⟨⟨ρ₃, σ₃, h3, h4⟩⟩, hf⟩ := hf
    refine wpAny_mono (draw_ok T hd it₂ ht₂ S₂ (y.le S₁.gin) y.pre wr2 (Q := fun r s₃ => ∃ v, r = some v ∧ wpAny (model X.prog X.w) A (letOwnedTupleGo t (.ref I) v) (fun _ s₀ => wpAny (model X.prog X.w) A (assign t env v) (fun _ s₂ => wpAny (model X.prog X.w) A (execs body env) (fun f s₃ => match f with
          | .next | .cont => ∃ m, m < k ∧ J m s₃
          | .brk => Q .next s₃
          | .ret v => Q (.ret v) s₃) NEx s₂) NEx s₀) NEx s₃) fun v s₃ hv => ⟨v, rfl, wpAny_mono hv (fun _ s₄ hx => ?_) fun _ _ e => e⟩) (fun r s₃ hr => ?_) fun _ _ e => e.elim
    · obtain ⟨g₄, x, S₄, r₄, it₄, ht₄⟩ := hx
      have F₄ : Frm X g₄ am₂ ei env ρ₂ s₄.heap := F₂.stpW S₂ x (fun h => absurd (wlo _ h).1 (Nat.not_le.mpr (ownlt _ (.inl rfl)))) fun z c hz hc h => absurd (wlo c h).1 (Nat.not_le.mpr (celllt z c hz hc))
      have y₁ : Stp (fun a => Ws X am₁ ei env a ∨ a ∈ wr) g₁ am₁ s₁ g₄ am₂ s₄ := y.trans x fun a _ h => .inr h
      refine h3.run X W A env g₄ am₂ s₄ ht₄ R' S₄ F₄ v r₄ _ fun g₅ am₅ s₅ x₅ S₅ F₅ ht₅ => ?_
      have wsw : ∀ {g am s g' am' s'}, Stp (fun a => Ws X am₁ ei env a ∨ a ∈ wr) g₁ am₁ s₁ g am s → Stp (Ws X am ei env) g am s g' am' s' → Stp (fun a => Ws X am₁ ei env a ∨ a ∈ wr) g₁ am₁ s₁ g' am' s' := fun y x => y.trans x fun a ha h => .inl (h.imp (fun h => y.wx a ha h) id)
      refine h4.run X W A env g₅ am₅ s₅ ht₅ R' S₅ F₅ _ fun fl g₆ am₆ s₆ x₆ S₆ F₆ k₆ ht₆ => ?_
      have x₄₆ : Stp (Ws X am₂ ei env) g₄ am₂ s₄ g₆ am₆ s₆ := x₅.trans x₆ x₅.ws
      have y₂ := wsw y₁ x₄₆
      have it₆ : St' (i + 1) s₆.heap := by
        refine T.frame _ _ _ it₄ fun b hb o e => ?_
        rcases hfp b hb with ⟨q1, q2, q3, q4, q5⟩ | ⟨q1, o', ho'⟩
        · refine x₄₆.keep b o (fun h => ?_) e
          rcases h with (h | h) | h
          · exact (y₁.still q5 q1 q2).2 h
          · exact q3 h
          · exact absurd q4 (Nat.not_le.mpr (ownlt b h))
        · have e4 := S₄.gin _ _ (y₁.le S₁.gin _ _ ho')
          have e6 := S₆.gin _ _ (y₂.le S₁.gin _ _ ho')
          rw [e] at e4; cases e4; exact e6
      rcases hf with ⟨hn, hf⟩ | ⟨rfl, rfl, rfl, rfl⟩ | ⟨d', rfl, rfl, rfl, rfl⟩
      · have hm : ∃ m, m < k ∧ J m s₆ := ⟨k - 1, by lia, i + 1, g₆, am₆, ρ₄, σ₄, by lia, hf, y₂, S₆, F₆, it₆, ht₆⟩
        rcases hn with rfl | rfl <;> (cases fl <;> first | (exact k₆.elim) | exact hm)
      · cases fl <;> first | (exact k₆.elim) | skip
        exact fin _ g₆ am₆ s₆ y₂ S₆ F₆ trivial ht₆
      · cases fl <;> first | (exact k₆.elim) | skip
        exact fin _ g₆ am₆ s₆ y₂ S₆ F₆ k₆ ht₆
    · obtain ⟨v, rfl, hv⟩ := hr
      refine wpAny_mono hv (fun _ s₄ h₄ => wpAny_mono h₄ (fun _ s₅ h₅ => wpAny_mono h₅ (fun fl s₆ h₆ => ?_) fun _ _ e => e.elim) fun _ _ e => e.elim) fun _ _ e => e.elim
      cases fl <;> exact h₆
  · have hin : i = ds.length := by lia
    subst hin
    rw [List.drop_length] at hf
    obtain ⟨rfl, rfl, rfl⟩ := hf
    refine wpAny_mono (Q := fun r s₃ => r = none ∧ Q .next s₃) (tpos ht₂ (with_size (T.done s₂ _ it₂ fun h' tk hk hz ht' => ⟨rfl, ?_⟩))) (fun r s₃ hr => ?_) fun _ _ e => e.elim
    · have x : Stp (fun a => a ∈ wr) g₂ am₂ s₂ g₂ am₂ { s₂ with heap := h', toks := tk } := ⟨⟨h', tk, rfl⟩, fun a o hn e => hk a o hn e, fun _ _ => rfl, ⟨[], by simp⟩, hz⟩
      have S' : St X g₂ am₂ _ h' := S₂.keepP (W := fun a => a ∈ wr) (fun a o hn e => hk a o hn e) wr2
      exact fin .next g₂ am₂ _ (y.trans x fun a _ h => .inr h) S' (F₂.stpW S₂ x (fun h => absurd (wlo _ h).1 (Nat.not_le.mpr (ownlt _ (.inl rfl)))) fun z c hz hc h => absurd (wlo c h).1 (Nat.not_le.mpr (celllt z c hz hc))) trivial ht'
    · obtain ⟨rfl, hq⟩ := hr
      rw [execs_nil]
      exact wpAny_pure hq
theorem sTry {body : List Stmt} {hs : List ExceptHandler} (h : ExL C n ei body ρ σ f ρ₁ σ₁) : ExS C (n + 1) ei (.Try body hs [] [] p) ρ σ f ρ₁ σ₁ := ExS.mk <| fun X W A env g am s ht R S F Q P => by
  rw [arm_exec_Try]
  refine wpAny_bind (wpAny_standAt (try_any (wpAny_mono (h.run X W A env g am s ht (R.less (Nat.le_succ _)) S F _ P) (fun fl s₁ hq => ?_) fun _ _ e => e.elim)))
  cases fl with
  | next => rw [execs_nil]; exact wpAny_pure hq
  | brk => exact hq
  | cont => exact hq
  | ret v => exact hq
theorem getV_own {x : Nat} {glob : Nat → Option D} (h : getV ei (fun _ => none) x ρ = some a) : getV ei glob x ρ = some a := by
  unfold getV at h ⊢
  split at h <;> first | exact h | cases h
theorem sAug {x : Str} {op : Operator} {v : Expr} (h1 : getV ei (fun _ => none) (nm x) ρ = some a) (h2 : EvE C n ei v ρ σ b σ₁) (h3 : AugD op a b d) (h4 : setV ei (nm x) d ρ = some ρ₁) : ExS C (n + 1) ei (.AugAssign (.Name x q) op v p) ρ σ .next ρ₁ σ₁ := ExS.mk <| fun X W A env g am s ht R S F Q P => by
  refine tpos ht (wpAny_AugAssign_Name (load_ok W.o S F (getV_own h1) fun w r => ?_))
  refine h2.run X W A env g am s ht (R.less (Nat.le_succ n)) S F _ fun u g₁ am₁ s₁ x₁ S₁ r₁ ht₁ => ?_
  refine h3.run S₁ (r.stp x₁ S.gin) r₁ fun y g₂ am₂ s₂ x₂ S₂ r₂ => ?_
  have x₁₂ := x₁.trans x₂ x₁.wx
  exact store_ok S₂ (F.stp S x₁₂) h4 r₂ fun s₃ x₃ S₃ F₃ => (P.trans x₁₂.toWs) _ g₂ am₂ s₃ x₃ S₃ F₃ trivial
theorem sAugI {x : Str} {op : Operator} {i v : Expr} {m : Nat} {j : Int} {q' : Pos} (h1 : getV ei (fun _ => none) (nm x) ρ = some (.loc m)) (h2 : EvE C n ei i ρ σ (.int j) σ₁) (h3 : itemD σ₁ (.loc m) (.int j) = some a) (h4 : EvE C n ei v ρ σ₁ b σ₂) (h5 : AugD op a b d)
    (h6 : storeD σ₂ (.loc m) (.int j) d = some σ₃) (h7 : noCut i = true := by rfl) : ExS C (n + 1) ei (.AugAssign (.Subscript (.Name x q) i q') op v p) ρ σ .next ρ σ₃ := ExS.mk <| fun X W A env g am s ht R S F Q P => by
  have R' := R.less (Nat.le_succ n)
  refine tpos ht (wpAny_AugAssign_SubscriptAny (Name_ok W.o S F (getV_own h1) fun w rw' => ?_) (fun ov iv new => ?_))
  · refine h2.run X W A env g am s ht R' S F _ fun iv g₁ am₁ s₁ x₁ S₁ r₁ ht₁ => ?_
    have rw₁ := rw'.stp x₁ S.gin
    refine tpos ht₁ (getL_ok S₁ h3 rw₁ r₁ fun old g₂ am₂ s₂ x₂ S₂ r₂ ht₂ => ?_)
    have x₁₂ := x₁.trans x₂ x₁.wx
    refine h4.run X W A env g₂ am₂ s₂ ht₂ R' S₂ (F.stp S x₁₂) _ fun u g₃ am₃ s₃ x₃ S₃ r₃ ht₃ => ?_
    have x₁₃ := x₁₂.trans x₃ x₁₂.wx
    refine h5.run S₃ (r₂.stp x₃ S₂.gin) r₃ fun y g₄ am₄ s₄ x₄ S₄ r₄ => ?_
    have x₁₄ := x₁₃.trans x₄ x₁₃.wx
    refine setL_ok S₄ h6 (((rw₁.stp x₂ S₁.gin).stp x₃ S₂.gin).stp x₄ S₃.gin) (((r₁.stp x₂ S₁.gin).stp x₃ S₂.gin).stp x₄ S₃.gin) r₄ fun s₅ x₅ S₅ => ?_
    have x₁₅ := x₁₄.trans x₅ x₁₄.wx
    exact P _ g₄ am₄ s₅ x₁₅.toWs S₅ (F.stp S x₁₅) trivial
  · cases i <;> first | rfl | cases h7
end
end
section
section
variable {X : Cx} {C : Ctx} {g : G} {am : List Addr} {σ σ' : Store} {s : Shared} {A : Around} {n : Nat} {env : Env} {ei : EI} {ρ ρ' : VarsN} {d : D} {f : Flo}
/- the same names, the same things -/
theorem Frm.congr {h : Heap} (F : Frm X g am ei env ρ h) (hs : ∀ x, look x ρ' = look x ρ) : Frm X g am ei env ρ' h := by
  obtain ⟨m, hn, hm⟩ := F.ns
  refine ⟨F.kind, F.glob, F.blt, F.qual, F.kd, F.nodbg, F.nocd, ⟨m, hn, fun x d h1 h2 => hm x d h1 (by rwa [hs] at h2)⟩, fun x hx => ?_, F.apart, F.Lg, F.Lam, F.Lt, F.tab⟩
  obtain ⟨c, h1, h2, h3, h4, h5, h6, ov, h7, h8⟩ := F.cells x hx
  exact ⟨c, h1, h2, h3, h4, h5, fun q => (by obtain ⟨o, v, d, e1, e2, e3, e4⟩ := h6 q; exact ⟨o, v, d, e1, e2, by rw [hs]; exact e3, e4⟩), ov, h7, fun d hd => h8 d (by rwa [hs] at hd)⟩


theorem Assign_one {t v : Expr} {p : Pos} {Q : Flow → Shared → Prop} (hst : assignEach [t] env = [(false, assign t env)])
    (hw : swappedStores [t] v env = pure none) (hs : swapsWith v (some t) p.line env = pure false)
    (h : wpAny (model X.prog X.w) A (eval v env) (fun x s₁ => wpAny (model X.prog X.w) A (assign t env x) (fun _ => Q .next) NEx s₁) NEx s) :
    wpAny (model X.prog X.w) A (exec (.Assign [t] v p) env) Q NEx s := by
  refine wpAny_Assign_stores (wpAny_mono h (fun x s₁ h₁ => ?_) fun _ _ e => e) hs hw
  rw [hst]
  exact h₁
theorem Assign_used {x : Str} {q : Pos} {v : Expr} {p : Pos} {Q : Flow → Shared → Prop} (hs : swapsWith v (some (.Name x q)) p.line env = pure true)
    (h : wpAny (model X.prog X.w) A (evalThenUse v env (assign (.Name x q) env)) (fun _ => Q .next) NEx s) :
    wpAny (model X.prog X.w) A (exec (.Assign [.Name x q] v p) env) Q NEx s := by
  rw [exec_Assign_Name_used _ _ _ _ hs]
  exact wpAny_bind (wpAny_standAt (wpAny_bind (wpAny_mono h (fun _ _ e => wpAny_pure e) fun _ _ e => e)))

/- what is made is put under its name at once -/
theorem use_ok (W : Good X C) (R : Room n A) (S : St X g am σ s.heap) (F : Frm X g am ei env ρ s.heap) {x : Str} {q : Pos} {σ₁ : Store} (h2 : AsgT C n ei (.Name x q) d ρ σ₁ ρ' σ') {Q : Flow → Shared → Prop} (P : PostX X ei env .next ρ' σ' g am s (TQ C Q))
    {v : Value} {L : Addr} {g' : G} {am' : List Addr} {s' : Shared} {m : Str → Option Value} (y : Stp (Wx X am) g am s g' am' s') (S' : St X g' am' σ₁ s'.heap) (r : Rep X g' am' v d) (hn : s'.heap.Ns L m) (l1 : g' L = none) (l2 : L ∉ am') (l3 : ¬ X.isTab L)
    (l4 : s.heap.objs.size ≤ L) (ht : TK C s'.toks) : compPost (model X.prog X.w) A NEx (some (assign (.Name x q) env)) (fun _ => Q .next) v L (.ok .next) s' := by
  show wpAny (model X.prog X.w) A (assign (.Name x q) env v) (fun _ s'' => ∃ m, s''.heap.Ns L m ∧ ∀ h', Heap.SameBut L s''.heap h' → Q .next { s'' with heap := h' }) NEx s'
  refine h2.run X W A env g' am' s' ht R S' (F.stp S y) v r _ fun g₂ am₂ s₂ x₂ S₂ F₂ ht₂ => ?_
  have ownlt : ∀ a, Own ei env a → a < s.heap.objs.size := fun a ho => by
    rcases ho with ho | ⟨x, e1, e2⟩
    · obtain ⟨m, hn, _⟩ := F.ns
      rw [ho]; exact hn.lt
    · obtain ⟨c, q1, _, _, _, _, _, ov, q7, _⟩ := F.cells x (.inl e1)
      rw [e2] at q1; cases q1
      exact q7.lt
  have celllt : ∀ y c, (look (nm y) ei.kd = some .cell ∨ look (nm y) ei.kd = some .free) → env.cells.lookup y = some c → c < s.heap.objs.size := fun y c hy e => by
    obtain ⟨c', q1, _, _, _, _, _, ov, q7, _⟩ := F.cells y hy
    rw [e] at q1; cases q1
    exact q7.lt
  have st := x₂.still hn.lt l1 l2
  refine ⟨m, hn.at' fun o e => x₂.keep L o (fun h => h.elim (fun h => h.elim l2 l3) fun h => absurd (ownlt L h) (Nat.not_lt.mpr l4)) e, fun h' hs => ?_⟩
  have z : Stp (fun a => a = L) g₂ am₂ s₂ g₂ am₂ { s₂ with heap := h' } := ⟨⟨h', s₂.toks, rfl⟩, fun a o hn e => (hs.2 a hn).trans e, fun _ _ => rfl, ⟨[], by simp⟩, Nat.le_of_eq hs.1.symm⟩
  have S₃ : St X g₂ am₂ σ' h' := S₂.keepW (fun a o hn e => (hs.2 a hn).trans e) st.1 st.2 l3
  have F₃ : Frm X g₂ am₂ ei env ρ' h' := F₂.stpW S₂ z (fun h => absurd (h ▸ ownlt _ (.inl rfl)) (Nat.not_lt.mpr l4)) fun y c hy hc h => absurd (h ▸ celllt y c hy hc) (Nat.not_lt.mpr l4)
  refine P .next g₂ am₂ _ (((y.toWs (ei := ei) (env := env)).trans x₂ fun a ha h => h.imp (fun h => y.wx a ha h) id).trans z fun a ha h => ?_) S₃ F₃ trivial ht₂
  rw [h] at ha
  exact absurd ha (Nat.not_lt.mpr l4)

/- the sources that are no constants -/
theorem moves_not {e : Expr} (h : moves e = true) : foldedForSure 8 e = false ∧ constantsAlone 8 e = false ∧ (∀ x p, e ≠ .Starred x p) := by
  cases e <;> first | (cases h; done) | skip
  case Name x p =>
    refine ⟨rfl, ?_, fun _ _ q => nomatch q⟩
    show (x == ("__debug__" : Str)) = false
    refine str_ne fun q => ?_
    have h' : (nm x != nm (Str.ofString "__debug__")) = true := h
    rw [q, bne_self_eq_false] at h'
    cases h'
  all_goals exact ⟨rfl, rfl, fun _ _ q => nomatch q⟩

theorem fm_all {α β : Type} {p : α → Option β} : ∀ {l : List α}, (l.filterMap p).length = l.length → l.map p = (l.filterMap p).map some
  | [], _ => rfl
  | a :: l, h => by
    have hle := List.length_filterMap_le p l
    cases hp : p a with
    | none =>
      rw [List.filterMap_cons, hp] at h
      simp only [List.length_cons] at h
      omega
    | some b =>
      rw [List.filterMap_cons, hp] at h
      simp only [List.length_cons] at h
      rw [List.filterMap_cons, hp, List.map_cons, hp, fm_all (l := l) (by simpa using h)]
      rfl

theorem fm_some {α β : Type} {p : α → Option β} {l : List α} (h : (l.filterMap p).length = l.length) (a : α) (ha : a ∈ l) : ∃ x, p a = some x := by
  have : p a ∈ l.map p := List.mem_map_of_mem ha
  rw [fm_all h] at this
  obtain ⟨x, _, hx⟩ := List.mem_map.mp this
  exact ⟨x, hx.symm⟩

theorem swapped_cases {ts vs : List Expr} {k k' : Nat} {p p' : Pos} (hv : vs.any moves = true) :
    swappedStores [.Tuple ts k p] (.Tuple vs k' p') env = pure none ∨ ∃ names, swappedStores [.Tuple ts k p] (.Tuple vs k' p') env = pure (some names) ∧ (ts.length = 2 ∨ ts.length = 3) ∧ ts.map nameOf = names.map some := by
  obtain ⟨e, he, hm⟩ := List.any_eq_true.mp hv
  obtain ⟨m1, m2, m3⟩ := moves_not hm
  have f1 : vs.all (foldedForSure 8) = false := by
    rw [List.all_eq_false]; exact ⟨e, he, by simp [m1]⟩
  have f2 : vs.all (constantsAlone 8) = false := by
    rw [List.all_eq_false]; exact ⟨e, he, by simp [m2]⟩
  unfold swappedStores
  dsimp only
  split
  · exact .inl rfl
  · rename_i c1
    split
    · exact .inl rfl
    · split
      · exact .inl rfl
      · rename_i c3
        rw [f1, f2]
        refine .inr ⟨_, rfl, ?_, ?_⟩
        · simp only [Bool.or_eq_true, Bool.not_eq_true', bne_iff_ne, ne_eq] at c1
          simp at c1
          omega
        · simp only [Bool.or_eq_true, bne_iff_ne, ne_eq] at c3
          have c4 := Classical.not_not.mp (fun q => c3 (.inl q))
          rw [← fm_all c4]
          refine List.map_congr_left fun a ha => ?_
          obtain ⟨x, hx⟩ := fm_some c4 a ha
          rw [hx]
          split at hx
          · split at hx
            · rename_i q
              simp only [nameOf]
              exact hx
            · cases hx
          · cases hx
/- values are bound one after another -/
theorem binds_in (S : St X g am σ s.heap) (ht : TK C s.toks) : ∀ {l : List (Str × D × Value)} {ρ : VarsN} {s₁ : Shared}, Stp (Ws X am ei env) g am s g am s₁ → St X g am σ s₁.heap → Frm X g am ei env ρ s₁.heap →
    (∀ p ∈ l, Rep X g am p.2.2 p.2.1 ∧ ∀ d₂ ρ₂, setV ei (nm p.1) d₂ ρ₂ = some (put (nm p.1) d₂ ρ₂)) → ∀ {Q : Unit → Shared → Prop},
    (∀ s₂, Stp (Ws X am ei env) g am s g am s₂ → St X g am σ s₂.heap → Frm X g am ei env (l.foldl (fun ρ p => put (nm p.1) p.2.1 ρ) ρ) s₂.heap → Q () s₂) →
    wpAny (model X.prog X.w) A (assignInOrder (l.map fun p => bindName env p.1) (l.map (·.2.2))) Q NEx s₁
  | [], ρ, s₁, y, S₁, F₁, hl, Q, hQ => assignInOrder_nil (hQ s₁ y S₁ F₁)
  | p :: l, ρ, s₁, y, S₁, F₁, hl, Q, hQ => by
    obtain ⟨r, hs⟩ := hl p (by simp)
    refine assignInOrder_cons (bindName_ (store_ok S₁ F₁ (hs p.2.1 ρ) r fun s₂ x₂ S₂ F₂ => ?_))
    exact binds_in S ht (y.trans x₂ fun a _ h => h) S₂ F₂ (fun q hq => hl q (by simp [hq])) hQ

theorem look_foldl_put {x : Nat} : ∀ (l : List (Str × D × Value)) (ρ : VarsN), (∀ p ∈ l, nm p.1 ≠ x) → look x (l.foldl (fun ρ p => put (nm p.1) p.2.1 ρ) ρ) = look x ρ
  | [], ρ, _ => rfl
  | p :: l, ρ, h => by
    rw [List.foldl_cons, look_foldl_put l _ fun q hq => h q (by simp [hq]), look_put, if_neg (h p (by simp))]
theorem look_foldl_rev {x : Nat} : ∀ (l : List (Str × D × Value)) (ρ : VarsN), (l.map fun p => nm p.1).Nodup → look x (l.reverse.foldl (fun ρ p => put (nm p.1) p.2.1 ρ) ρ) = look x (l.foldl (fun ρ p => put (nm p.1) p.2.1 ρ) ρ)
  | [], ρ, _ => rfl
  | p :: l, ρ, h => by
    rw [List.map_cons, List.nodup_cons] at h
    rw [List.reverse_cons, List.foldl_append, List.foldl_cons, List.foldl_nil, look_put, List.foldl_cons]
    by_cases q : nm p.1 = x
    · rw [if_pos q, look_foldl_put l _ fun z hz e => h.1 (by rw [q, ← e]; exact List.mem_map_of_mem hz), look_put, if_pos q]
    · rw [if_neg q, look_foldl_rev l ρ h.2]
      -- the first put is not seen
      have : ∀ (l : List (Str × D × Value)) (ρ₁ ρ₂ : VarsN), look x ρ₁ = look x ρ₂ → look x (l.foldl (fun ρ p => put (nm p.1) p.2.1 ρ) ρ₁) = look x (l.foldl (fun ρ p => put (nm p.1) p.2.1 ρ) ρ₂) := by
        intro l
        induction l with
        | nil => intro _ _ h; exact h
        | cons a l ih => intro _ _ h; exact ih _ _ (by rw [look_put, look_put, h])
      exact this l _ _ (by rw [look_put, if_neg q])


/- no display of several -/
noncomputable def noTup : Expr → Bool
  | .Tuple .. => false
  | _ => true
/- no comprehension -/
noncomputable def plainV : Expr → Bool
  | .ListComp .. => false
  | .SetComp .. => false
  | .DictComp .. => false
  | _ => true
theorem plain_swaps {v t : Expr} (h : plainV v = true) (l : Nat) : swapsWith v (some t) l env = pure false := by
  cases v <;> first | rfl | cases h
theorem swapped_one {t v : Expr} (h0 : (noTup t || noTup v) = true) (hl : ∀ es p, t ≠ .List es p) : swappedStores [t] v env = pure none := by
  cases t with
  | List es p => exact absurd rfl (hl _ _)
  | Tuple ts k p => cases v <;> first | rfl | cases h0
  | _ => rfl
end
section
variable {C : Ctx} {n : Nat} {ei : EI} {ρ ρ₁ ρ₂ ρ' : VarsN} {σ σ₁ σ₂ σ₃ σ' : Store} {p q fp : Pos} {a b d r : D} {l : List Nat} {ds es : List D} {k : Nat} {f : Flo}
theorem sAsg0 {t v : Expr} (h0 : ((noTup t || noTup v) && plainV v) = true) (h2 : EvE C n ei v ρ σ d σ₁) (h3 : AsgT C n ei t d ρ σ₁ ρ₂ σ₂) : ExS C (n + 1) ei (.Assign [t] v p) ρ σ .next ρ₂ σ₂ := ExS.mk <| fun X W A env g am s ht R S F Q P => by
  rw [Bool.and_eq_true] at h0
  have R' := R.less (Nat.le_succ n)
  refine Assign_one (h3.star [] env) (swapped_one h0.1 h3.list) (plain_swaps h0.2 _) (h2.run X W A env g am s ht R' S F _ fun w g₁ am₁ s₁ x₁ S₁ r₁ ht₁ => ?_)
  exact h3.run X W A env g₁ am₁ s₁ ht₁ R' S₁ (F.stp S x₁) w r₁ _ fun g₂ am₂ s₂ x₂ S₂ F₂ ht₂ => (P.trans x₁.toWs) _ g₂ am₂ s₂ x₂ S₂ F₂ trivial ht₂
theorem sAsg {t v : Expr} (h0 : ((noTup t || noTup v) && plainV v) = true) (h1 : isMu ei t = false) (h2 : EvE C n ei v ρ σ d σ₁) (h3 : AsgT C n ei t d ρ σ₁ ρ₂ σ₂) : ExS C (n + 1) ei (.Assign [t] v p) ρ σ .next ρ₂ σ₂ := sAsg0 h0 h2 h3
theorem sAsgM {t v : Expr} (h0 : ((noTup t || noTup v) && plainV v) = true) (h1 : isMu ei t = true) (h2 : EvM C n ei v ρ σ d σ₁) (h3 : AsgT C n ei t d ρ σ₁ ρ₂ σ₂) : ExS C (n + 1) ei (.Assign [t] v p) ρ σ .next ρ₂ σ₂ := sAsg0 h0 h2 h3
theorem sAsgC {x : Str} {v : Expr} (h0 : noTup v = true) (h1 : isMu ei (.Name x q) = false) (h2 : EvC C n ei v ρ σ d σ₁) (h3 : AsgT C n ei (.Name x q) d ρ σ₁ ρ₂ σ₂) : ExS C (n + 1) ei (.Assign [.Name x q] v p) ρ σ .next ρ₂ σ₂ := ExS.mk <| fun X W A env g am s ht R S F Q P => by
  have R' := R.less (Nat.le_succ n)
  obtain ⟨b, hs⟩ := h2.swap x q p.line env
  cases b with
  | false =>
    refine Assign_one (h3.star [] env) (swapped_one rfl h3.list) hs (h2.toE.run X W A env g am s ht R' S F _ fun w g₁ am₁ s₁ x₁ S₁ r₁ ht₁ => ?_)
    exact h3.run X W A env g₁ am₁ s₁ ht₁ R' S₁ (F.stp S x₁) w r₁ _ fun g₂ am₂ s₂ x₂ S₂ F₂ ht₂ => (P.trans x₁.toWs) _ g₂ am₂ s₂ x₂ S₂ F₂ trivial ht₂
  | true =>
    refine Assign_used hs ?_
    exact h2.use X W A env g am s ht R' S F _ (Q .next) fun v L g' am' s' m' y S' r hn l1 l2 l3 l4 ht' => use_ok W R' S F h3 P y S' r hn l1 l2 l3 l4 ht'
theorem swapped_two {t t' v : Expr} {ts : List Expr} {env : Env} : swappedStores (t :: t' :: ts) v env = pure none := by cases t <;> rfl
theorem sEach {t t' : Expr} {ts : List Expr} {v : Expr} (h0 : noComp v = true) (h1 : EvE C n ei v ρ σ d σ₁) (h2 : AsgEach C n ei (t :: t' :: ts) d ρ σ₁ ρ₂ σ₂) : ExS C (n + 1) ei (.Assign (t :: t' :: ts) v p) ρ σ .next ρ₂ σ₂ := ExS.mk <| fun X W A env g am s ht R S F Q P => by
  have R' := R.less (Nat.le_succ n)
  refine wpAny_Assign_stores (h1.run X W A env g am s ht R' S F _ fun w g₁ am₁ s₁ x₁ S₁ r₁ ht₁ => ?_) ?_ ?_
  · exact h2.run X W A env g₁ am₁ s₁ ht₁ R' S₁ (F.stp S x₁) w r₁ _ fun g₂ am₂ s₂ x₂ S₂ F₂ ht₂ => (P.trans x₁.toWs) _ g₂ am₂ s₂ x₂ S₂ F₂ trivial ht₂
  · rfl
  · exact swapped_two
theorem sAsgs {ts vs : List Expr} {k k' : Nat} {p1 p2 p : Pos} (h0 : (plainNames ts && vs.any moves) = true) (h1 : EvVs C n ei ts vs ρ σ ds σ₁) (h2 : AsgTs C n ei ts ds ρ σ₁ ρ' σ') : ExS C (n + 1) ei (.Assign [.Tuple ts k p1] (.Tuple vs k' p2) p) ρ σ .next ρ' σ' := ExS.mk <| fun X W A env g am s ht R S F Q P => by
  rw [Bool.and_eq_true] at h0
  obtain ⟨hp, hm⟩ := h0
  have R' := R.less (Nat.le_succ n)
  have hn : n ≤ 1000 := by
    have := R.depth
    have e : recursionLimit = 1000 := rfl
    lia
  have hval : ∀ {Q : Value → Shared → Prop}, Post X σ₁ (.tup ds) g am s (TQ C Q) → wpAny (model X.prog X.w) A (eval (.Tuple vs k' p2) env) Q NEx s := by
    intro Q P
    refine tpos ht ?_
    refine Tuple_ (h1.ev.run X W A env g am s ht R' S F p2 _ fun vs' g₁ am₁ s₁ x₁ S₁ r₁ ht₁ => ?_)
    refine wpAny_newObj_type ?_ (by show vs'.toArray.size ≤ sizeLine; rw [List.size_toArray, r₁.length, h1.ev.len, h1.len]; exact lim_size (Nat.le_trans (Nat.le_trans h1.le hn) (by decide)))
    exact tup_new S₁ r₁ (P.trans x₁)
  refine tpos ht ?_
  generalize TQ C Q = Q at P ⊢
  rcases swapped_cases (env := env) (ts := ts) (k := k) (k' := k') (p := p1) (p' := p2) hm with hw | ⟨names, hw, hlen, hnames⟩
  · refine Assign_Tuple (hval fun v g₁ am₁ s₁ x₁ S₁ r₁ ht₁ => ?_) rfl hw
    exact (gTup h2 (k := k) (p := p1)).run X W A env g₁ am₁ s₁ ht₁ R S₁ (F.stp S x₁) v r₁ _ fun g₂ am₂ s₂ x₂ S₂ F₂ ht₂ => (P.trans x₁.toWs) _ g₂ am₂ s₂ x₂ S₂ F₂ trivial
  · refine Assign_Tuple_swapped (hval fun v g₁ am₁ s₁ x₁ S₁ r₁ ht₁ => ?_) rfl hw
    obtain ⟨a, o, kk, ws, rfl, e1, e2, e3, rs⟩ := rep_tup r₁
    have hl : names.length = ws.toArray.size := by
      have := congrArg List.length hnames
      simp only [List.length_map] at this
      rw [List.size_toArray, rs.length, h1.ev.len, h1.len, this]
    rw [hl]
    refine with_size (wpAny_unpackItems_tuple R.handled ⟨o, S₁.gin _ _ e1, e2, kk, e3⟩ fun h' he hz => ?_)
    have hk : ∀ c o, s₁.heap.get? c = some o → h'.get? c = some o := fun c o e => he c o (Nat.ne_of_lt (Heap.lt_size e)) e
    have x₂ : Stp (Wx X am₁) g₁ am₁ s₁ g₁ am₁ { s₁ with heap := h' } := Stp.keepG (tk := s₁.toks) hk hz
    obtain ⟨rfl, hρ, hset, hnd⟩ := h2.names hp names hnames
    have S₂ : St X g₁ am₁ _ h' := S₁.keepG hk
    have F₂ : Frm X g₁ am₁ ei env ρ h' := (F.stp S x₁).stp S₁ x₂
    -- the triples
    have hzip : ∀ (names : List Str) (ds : List D) (ws : List Value), names.length = ws.length → Reps X g₁ am₁ ws ds → ∃ l : List (Str × D × Value), l.map (·.1) = names ∧ l.map (·.2.2) = ws ∧ (∀ ρ, l.foldl (fun ρ p => put (nm p.1) p.2.1 ρ) ρ = (names.zip ds).foldl (fun ρ p => put (nm p.1) p.2 ρ) ρ) ∧ ∀ p ∈ l, Rep X g₁ am₁ p.2.2 p.2.1 := by
      intro names
      induction names with
      | nil =>
        intro ds ws hl r
        cases ws with
        | nil => cases r; exact ⟨[], rfl, rfl, fun _ => rfl, fun p hp => nomatch hp⟩
        | cons w ws => simp at hl
      | cons a names ih =>
        intro ds ws hl r
        cases ws with
        | nil => simp at hl
        | cons w ws =>
          cases r with
          | @cons _ d₀ _ ds₀ r rs =>
            obtain ⟨l, l1, l2, l3, l4⟩ := ih _ ws (by simpa using hl) rs
            refine ⟨(a, d₀, w) :: l, by simp [l1], by simp [l2], fun ρ => ?_, fun p hp => ?_⟩
            · rw [List.foldl_cons, l3]; rfl
            · rcases List.mem_cons.mp hp with rfl | hp
              · exact r
              · exact l4 p hp
    obtain ⟨l, l1, l2, l3, l4⟩ := hzip names ds ws (by simpa using hl) rs
    have lnd : (l.map fun p => nm p.1).Nodup := by
      have : (l.map fun p => nm p.1) = (l.map (·.1)).map nm := by rw [List.map_map]; rfl
      rw [this, l1]; exact hnd
    have e4 : (names.reverse.map fun n => bindName env n) = l.reverse.map fun p => bindName env p.1 := by
      rw [← l1, ← List.map_reverse, List.map_map]; rfl
    have e5 : ws.toArray.toList.reverse = l.reverse.map (·.2.2) := by
      rw [← l2]; simp
    rw [e4, e5]
    refine binds_in (s := { s₁ with heap := h' }) S₂ ht₁ .refl S₂ F₂ (fun p hp => ?_) fun s₃ x₃ S₃ F₃ => ?_
    · have hp' := List.mem_reverse.mp hp
      exact ⟨l4 p hp', hset p.1 (by rw [← l1]; exact List.mem_map_of_mem hp')⟩
    · refine P _ g₁ am₁ s₃ (((x₁.trans x₂ x₁.wx).toWs (ei := ei) (env := env)).trans x₃ (x₁.trans x₂ x₁.wx).ws) S₃ (F₃.congr fun x => ?_) trivial
      rw [hρ, look_foldl_rev l ρ lnd, l3]
end
end
section
section
variable {X : Cx} {C : Ctx} {g : G} {am : List Addr} {σ σ' : Store} {s : Shared} {A : Around} {n : Nat} {env : Env} {ei : EI} {ρ ρ' : VarsN} {d : D} {f : Flo}
theorem clos_full {sc : Scope} (hc : ∀ x, (x, NameKind.free) ∈ sc.names → ∃ c, env.cells.lookup x = some c) :
    ∃ cl, closureFor sc env = pure cl ∧ cl.map (·.1) = freesOf sc.names ∧ ∀ p ∈ cl, env.cells.lookup p.1 = some p.2 := by
  have key : ∀ (names : List (Str × NameKind)) (acc : List (Str × Addr)), (∀ x, (x, NameKind.free) ∈ names → ∃ c, env.cells.lookup x = some c) → (∀ p ∈ acc, env.cells.lookup p.1 = some p.2) →
      ∃ cl, (forIn names acc (fun (p : Str × NameKind) cs => do if (p.2 == NameKind.free) = true then do let c ← cellOf env p.1; pure (ForInStep.yield ((p.1, c) :: cs)) else pure (ForInStep.yield cs)) : Sem (List (Str × Addr))) = pure cl ∧
        cl.map (·.1) = ((names.filter fun x => x.2 == .free).map (·.1)).reverse ++ acc.map (·.1) ∧ ∀ p ∈ cl, env.cells.lookup p.1 = some p.2 := by
    intro names
    induction names with
    | nil => intro acc _ h; exact ⟨acc, rfl, by simp, h⟩
    | cons p r ih =>
      intro acc hc hacc
      obtain ⟨y, k⟩ := p
      by_cases hk : (k == NameKind.free) = true
      · have hk' : k = .free := eq_of_beq hk
        subst hk'
        obtain ⟨c, hcc⟩ := hc y (List.mem_cons_self ..)
        obtain ⟨cl, e1, e2, e3⟩ := ih ((y, c) :: acc) (fun x hx => hc x (List.mem_cons_of_mem _ hx)) fun p hp => by
          rcases List.mem_cons.mp hp with rfl | hp
          · exact hcc
          · exact hacc p hp
        refine ⟨cl, ?_, ?_, e3⟩
        · rw [List.forIn_cons]
          have : cellOf env y = pure c := by unfold cellOf; rw [hcc]
          simp only [this, beq_self_eq_true, if_true, pure_bind]
          exact e1
        · rw [e2, List.filter_cons]; simp
      · obtain ⟨cl, e1, e2, e3⟩ := ih acc (fun x hx => hc x (List.mem_cons_of_mem _ hx)) hacc
        refine ⟨cl, ?_, ?_, e3⟩
        · rw [List.forIn_cons]
          simp only [hk, if_false, pure_bind, Bool.false_eq_true]
          exact e1
        · rw [e2, List.filter_cons]; simp [hk]
  obtain ⟨cl, e1, e2, e3⟩ := key sc.names [] hc fun p hp => nomatch hp
  refine ⟨cl, ?_, by rw [e2]; simp [freesOf], e3⟩
  unfold closureFor
  exact bind_eq_of_pure e1
where
  bind_eq_of_pure {cl : List (Str × Addr)} {t : Sem (List (Str × Addr))} (h : t = pure cl) : (t >>= fun r => pure r) = pure cl := by rw [h]; rfl

theorem capt_cells : ∀ {cl : List (Str × Addr)} {vs : List D}, (∀ p ∈ cl, ∃ o v d, g p.2 = some o ∧ o.data = .cell (some v) ∧ look (nm p.1) ρ = some d ∧ Rep X g am v d) → capt (cl.map (·.1)) ρ = some vs → ∃ ws, CellsR g cl ws ∧ Reps X g am ws vs
  | [], vs, _, h => by simp only [List.map_nil, capt] at h; cases h; exact ⟨[], .nil, .nil⟩
  | p :: cl, vs, hp, h => by
    simp only [List.map_cons, capt] at h
    split at h
    · rename_i d ds h1 h2
      cases h
      obtain ⟨o, v, d', e1, e2, e3, e4⟩ := hp p (List.mem_cons_self ..)
      rw [h1] at e3; cases e3
      obtain ⟨ws, q1, q2⟩ := capt_cells (fun q hq => hp q (List.mem_cons_of_mem _ hq)) h2
      exact ⟨v :: ws, .cons e1 e2 q1, .cons e4 q2⟩
    · cases h

theorem noAnn_trees {args : Arguments} (h1 : isNone args.kwonlyargs = true) (h2 : isNone args.posonlyargs = true) (h3 : noAnn args.args = true) (h4 : args.vararg.isNone = true) (h5 : args.kwarg.isNone = true) : annTrees args none env = [] := by
  obtain ⟨po, a, va, ko, kd, kwa, df⟩ := args
  simp only at h1 h2 h3 h4 h5
  cases po with
  | cons _ _ => cases h2
  | nil => cases ko with
    | cons _ _ => cases h1
    | nil => cases va with
      | some _ => cases h4
      | none => cases kwa with
        | some _ => cases h5
        | none =>
          unfold annTrees
          simp only [Option.toList_none, List.append_nil]
          show annotationsOf a env ++ _ = []
          have : annotationsOf a env = [] := by
            induction a with
            | nil => rfl
            | cons x r ih =>
              obtain ⟨x1, x2, x3⟩ := x
              cases x2 with
              | some _ => cases h3
              | none => exact ih h3
          rw [this]; rfl

/- a table grows by one -/
theorem St.tabs (T : TabX X) (S : St X g am σ s.heap) {t : Addr × Addr × Nat × Nat × Str} (ht : t ∈ X.tabs) {h' : Heap} {tk : Nat} (hk : ∀ b o, b ≠ t.2.1 → s.heap.get? b = some o → h'.get? b = some o) (hz : s.heap.objs.size ≤ h'.objs.size)
    (hn : TabOk X (gro g s.heap h') h' t) : St X (gro g s.heap h') am σ h' ∧ Stp (Wx X am) g am s (gro g s.heap h') am { s with heap := h', toks := tk } := by
  have le := gro_le (h' := h') S.gin
  refine ⟨⟨fun a o e => ?_, fun a o e => le _ _ (S.base a o e), fun t ht => ?_, fun t' ht' => ?_, fun a ha => ?_, S.amt, S.nodup, S.len, fun i a so e1 e2 => (S.so i a so e1 e2).at le (fun _ _ e => e) fun o e => hk a o (fun q => S.amt a (List.mem_of_getElem? e1) ⟨t, ht, q.symm⟩) e⟩,
    ⟨⟨h', tk, rfl⟩, fun a o hw e => hk a o (fun q => hw (.inr ⟨t, ht, q.symm⟩)) e, fun a ha => by unfold gro; rw [if_pos ha], ⟨[], by simp⟩, hz⟩⟩
  · unfold gro at e
    split at e
    · exact hk _ _ (fun q => by rw [q, S.tabg t ht] at e; cases e) (S.gin a o e)
    · exact e
  · unfold gro; rw [if_pos (S.tablt ht)]; exact S.tabg t ht
  · by_cases q : t'.2.1 = t.2.1
    · rw [T.one t' ht' t ht q]; exact hn
    · obtain ⟨ps, e, r⟩ := S.tab t' ht'
      exact ⟨ps, hk _ _ q e, r.imp id fun ⟨c', h2, h3⟩ => ⟨c', h2, h3.mono le⟩⟩
  · unfold gro; rw [if_pos (S.amlt ha)]; exact S.amg a ha


end
section
variable {C : Ctx} {n : Nat} {ei : EI} {ρ ρ₁ ρ₂ ρ' : VarsN} {σ σ₁ σ₂ σ₃ σ' : Store}
theorem sDef {name bind : Str} {args : Arguments} {body : List Stmt} {sc : Scope} {p : Pos} {vs : List D}
    (h0 : (ei.tab == some (p.line, p.col, ei.qual ++ name) && name == bind && isNone args.defaults && isNone args.kw_defaults && isNone args.kwonlyargs && isNone args.posonlyargs && noAnn args.args && args.vararg.isNone && args.kwarg.isNone && scOk sc ei && (freesOf sc.names).all (fun x => ei.sl.contains (nm x))) = true)
    (hcapt : capt (freesOf sc.names) ρ = some vs) (hset : setV ei (nm name) (.clos ⟨name, ei.qual ++ name, args, body, sc, p⟩ (freesOf sc.names) vs) ρ = some ρ₁) : ExS C (n + 1) ei (.FunctionDef name args body [] none [] sc none bind p) ρ σ .next ρ₁ σ := ExS.mk <| fun X W A env g am s ht R S F Q P => by
  refine tpos ht ?_
  generalize TQ C Q = Q at P ⊢
  simp only [Bool.and_eq_true] at h0
  obtain ⟨⟨⟨⟨⟨⟨⟨⟨⟨⟨c1, c2⟩, c3⟩, c4⟩, c5⟩, c6⟩, c7⟩, c8⟩, c9⟩, c10⟩, c11⟩ := h0
  have c1 := eq_of_beq c1
  have c2 := eq_of_beq c2
  subst c2
  obtain ⟨hk, hd, hdbg, hcd, hfree⟩ := scOk_parts c10
  have hall := List.all_eq_true.mp c11
  have hmem : ∀ x, (x, NameKind.free) ∈ sc.names → x ∈ freesOf sc.names := fun x hx => by
    unfold freesOf
    rw [List.mem_reverse]
    exact List.mem_map.mpr ⟨(x, .free), List.mem_filter.mpr ⟨hx, rfl⟩, rfl⟩
  have hcell : ∀ x, (x, NameKind.free) ∈ sc.names → look (nm x) ei.kd = some .cell ∨ look (nm x) ei.kd = some .free := fun x hx => by
    have h2 := hfree x (by rw [look_kdOf]; exact dist_mem hd hx)
    unfold inCells at h2
    split at h2
    · rename_i q; exact .inl q
    · rename_i q; exact .inr q
    · cases h2
  obtain ⟨cl, hcl, hcl1, hcl2⟩ := clos_full (env := env) (sc := sc) fun x hx => by
    obtain ⟨c, e1, _⟩ := F.cells x (hcell x hx)
    exact ⟨c, e1⟩
  rw [← hcl1] at hcapt
  obtain ⟨ws, hws, hrs⟩ := capt_cells (fun q hq => by
    have hqf : q.1 ∈ freesOf sc.names := by rw [← hcl1]; exact List.mem_map_of_mem hq
    have hqn : (q.1, NameKind.free) ∈ sc.names := by
      unfold freesOf at hqf
      rw [List.mem_reverse] at hqf
      obtain ⟨z, hz, e⟩ := List.mem_map.mp hqf
      obtain ⟨h1, h2⟩ := List.mem_filter.mp hz
      obtain ⟨z1, z2⟩ := z
      have : z2 = .free := eq_of_beq h2
      subst this
      rw [← e]; exact h1
    obtain ⟨c, e1, e2, e3, e4, e5, e6, _⟩ := F.cells q.1 (hcell q.1 hqn)
    rw [hcl2 q hq] at e1; cases e1
    exact e6 (hall _ hqf)) hcapt
  obtain ⟨c, Pt, hcode, htab⟩ := F.tab _ c1
  have hqual : qualnameIn env name name = ei.qual ++ name := by
    unfold qualnameIn
    have : (env.kindOf name == some .globalExplicit) = false := by
      unfold setV at hset
      split at hset
      · rename_i hk'
        rcases F.kd name _ hk' with q | ⟨q, _⟩
        · rw [q]; rfl
        · cases q
      · rename_i hk'
        rcases F.kd name _ hk' with q | ⟨q, _⟩
        · rw [q]; rfl
        · cases q
      · cases hset
    rw [this, F.qual]; rfl
  have up : ∀ a o, X.h₀.get? a = some o → s.heap.get? a = some o := fun a o e => S.gin _ _ (S.base _ _ e)
  have hg : s.heap.Ns mainGlobals X.mg := W.o.g.keeps up
  obtain ⟨ps, hP, hps⟩ := S.tab _ htab
  obtain ⟨bm, ob, b1, b2, b3, b4, b5, b6⟩ := W.t.bmain
  have hgP : mainGlobals ≠ Pt := fun q => by
    obtain ⟨o, es, ep, e, hd, _⟩ := hg
    rw [q, hP] at e; cases e; cases hd
  have hbP : bm ≠ Pt := fun q => by
    have e := up _ _ b3
    rw [q, hP] at e; cases e; cases b4
  have hbG : bm ≠ mainGlobals := fun q => by
    obtain ⟨o, es, ep, e, hd, _⟩ := W.o.g
    rw [q, e] at b3; cases b3; rw [hd] at b6; cases b6
  have hb : s.heap.BuiltinsAt X.mg Pt := ⟨bm, ob, b1, b2, hbG, hbP, up _ _ b3, b4, b5, b6⟩
  have hCd : CodeHd s.heap c Pt := by
    obtain ⟨o, vs, file, tf, flags, tg, inF, text, tt, e, r⟩ := W.t.hd _ htab
    exact ⟨o, vs, file, tf, flags, tg, inF, text, tt, up _ _ e, r⟩
  have d0 : args.defaults = [] := by
    cases h : args.defaults with
    | nil => rfl
    | cons _ _ => rw [h] at c3; cases c3
  have k0 : args.kw_defaults = [] := by
    cases h : args.kw_defaults with
    | nil => rfl
    | cons _ _ => rw [h] at c4; cases c4
  refine nestDef_K d0 k0 (noAnn_trees c5 c6 c7 c8 c9) ?_
  rw [hqual]
  -- the name is bound at the end
  have fin : ∀ (doc pm : Value) (c' : Addr) (ctv : Value) (h' : Heap) (tk : Nat) (St₁ : St X (gro g s.heap (h'.push (fnMade name (ei.qual ++ name) args body sc cl doc pm c' ctv))) am σ (h'.push (fnMade name (ei.qual ++ name) args body sc cl doc pm c' ctv)))
      (x : Stp (Wx X am) g am s (gro g s.heap (h'.push (fnMade name (ei.qual ++ name) args body sc cl doc pm c' ctv))) am { s with heap := h'.push (fnMade name (ei.qual ++ name) args body sc cl doc pm c' ctv), toks := tk }),
      CodeAt (gro g s.heap (h'.push (fnMade name (ei.qual ++ name) args body sc cl doc pm c' ctv))) c' (ei.qual ++ name) → s.heap.objs.size ≤ h'.objs.size →
      wpAny (model X.prog X.w) A (storeName env name (.ref h'.objs.size)) (fun _ s'' => Q .next s'') NEx { s with heap := h'.push (fnMade name (ei.qual ++ name) args body sc cl doc pm c' ctv), toks := tk } := by
    intro doc pm c' ctv h' tk S₁ x hca hz
    refine store_ok S₁ (F.stp S x) hset (.clos _ ⟨name, ei.qual ++ name, args, body, sc, p⟩ cl doc pm c' ctv _ ws vs (gro_new hz (Heap.get?_push_size _ rfl)) hca hcl1 (hws.mono (x.le S.gin)) (hrs.stp x S.gin)) fun s₂ x₂ S₂ F₂ => ?_
    exact P _ _ am s₂ ((x.toWs (ei := ei) (env := env)).trans x₂ x.ws) S₂ F₂ trivial
  rcases hps with rfl | ⟨c', rfl, hca⟩
  · refine makeFunction_K (mg := X.mg) hcl F.glob hg hcode hCd hP trivial rfl hgP hb fun c' ctv doc h' tk hx hge hlt hrec htb => ?_
    obtain ⟨c₂, oc, xs, t, e2, hoc, hd2, hv⟩ := hrec
    cases e2
    have hz : s.heap.objs.size ≤ h'.objs.size := Nat.le_trans hge (Nat.le_of_lt hlt)
    have hca : CodeAt (gro g s.heap (h'.push (fnMade name (ei.qual ++ name) args body sc cl doc ((X.mg "__name__").getD .none) c' ctv))) c' (ei.qual ++ name) := ⟨oc, xs, t, gro_new hge (Heap.get?_push_of_some _ hoc), hd2, hv⟩
    obtain ⟨S₁, x₁⟩ := St.tabs (tk := tk) W.t S htab (h' := h'.push (fnMade name (ei.qual ++ name) args body sc cl doc ((X.mg "__name__").getD .none) c' ctv)) (fun b o hb' e => Heap.get?_push_of_some _ (hx b o hb' e)) (by rw [Heap.size_push]; lia)
      ⟨_, Heap.get?_push_of_some _ htb, .inr ⟨c', rfl, hca⟩⟩
    exact fin doc _ c' ctv h' tk S₁ x₁ hca hz
  · have hf : codeAmong p [rawInt (p.line : Nat), rawInt (p.col : Nat), .ref c'] = some (.ref c') := by simp [codeAmong, rawInt]
    refine makeFunction_hit (mg := X.mg) hcl F.glob hg hcode hCd hP trivial hf hb fun ctv doc h' tk hk' hz => ?_
    have hkk : ∀ b o, s.heap.get? b = some o → (h'.push (fnMade name (ei.qual ++ name) args body sc cl doc ((X.mg "__name__").getD .none) c' ctv)).get? b = some o := fun b o e => Heap.get?_push_of_some _ (hk' b o e)
    exact fin doc _ c' ctv h' tk (S.grow hkk) (Stp.grow hkk (by rw [Heap.size_push]; lia)) (hca.mono (gro_le S.gin)) hz

end
end
section
section
variable {X : Cx} {C : Ctx} {g : G} {am : List Addr} {σ σ' : Store} {s : Shared} {A : Around} {n : Nat} {env : Env} {ei : EI} {ρ ρ' : VarsN} {d : D} {f : Flo}

/- one body's soundness -/
noncomputable def BodyS (X : Cx) (C : Ctx) (n : Nat) (ei : EI) (sts : List Stmt) (ρ : VarsN) (σ : Store) (f : Flo) (ρ' : VarsN) (σ' : Store) : Prop := ∀ A env g am s, TK C s.toks → Room n A → St X g am σ s.heap → Frm X g am ei env ρ s.heap →
  ∀ Q, PostX X ei env f ρ' σ' g am s (TQ C Q) → wpAny (model X.prog X.w) A (execs sts env) Q NEx s
theorem bindAll_sl {ei : EI} : ∀ (ps : List Nat) (ds : List D) (ρ : VarsN), bindAll { ei with sl := [] } ps ds ρ = bindAll ei ps ds ρ
  | [], [], ρ => rfl
  | [], _ :: _, ρ => rfl
  | _ :: _, [], ρ => rfl
  | p :: ps, d :: ds, ρ => by
    simp only [bindAll]
    split
    · exact bindAll_sl ps ds _
    · rfl

/- the body of a function runs in a new frame -/
theorem run_code (hlim : X.h₀.NoLimit) {a : Addr} {o : Obj} {fd : FuncData} {fi : FnI} {ei₀ : EI} (ho : s.heap.get? a = some o) (hd : o.data = .func fd) (hbody : fd.body = .stmts fi.body) (hglob : fd.globals = mainGlobals) (hblt : fd.builtins = builtinsNs)
    (hco : fd.scope.isCoroutine = false) (hgen : fd.scope.isGenerator = false) (hsc : scOk fd.scope ei₀ = true) (hkd : fi.ei.kd = kdOf fd.scope.names) (hqual : fi.ei.qual = fd.qualname ++ ".<locals>.") (hcode : s.heap.CodeRec fd.code fd.qualname)
    (htab : ∀ p, fi.ei.tab = some p → ∃ c P, fd.code = .ref c ∧ (c, P, p.1, p.2.1, p.2.2) ∈ X.tabs) {vs : List Value} {xs : List (Str × Value)} (hb : BindsTo s fd ⟨vs, []⟩ xs) {ds : List D} {ρ₀ ρ : VarsN} (hps : xs.map (fun p => nm p.1) = fi.params)
    (hrs : Reps X g am (xs.map (·.2)) ds) (hcl : ClosOk X g am s.heap fi.ei.kd fd.closure ρ₀) (hρ : ∀ x d, look (nm x) ρ₀ = some d → look (nm x) fi.ei.kd = some .free) (h1 : bindAll fi.ei fi.params ds ρ₀ = some ρ)
    (h2 : (fi.ei.sl.all fun x => (look x ρ).isSome && isCellK (look x fi.ei.kd)) = true) {fl : Flo} (h3 : BodyS X C n fi.ei fi.body ρ σ fl ρ' σ') {d : D} (hfl : (fl = .ret d) ∨ (fl = .next ∧ d = .none))
    (ht : TK C s.toks) (R : Room (n + 1) A) (S : St X g am σ s.heap) {RR : Result → Shared → Prop} (P : Post X σ' d g am s (fun v s' => RR (.ok (.ret v)) s')) : codeAny (model X.prog X.w) A (.call (.ref a) ⟨vs, []⟩) RR s := by
  have R₁ : ∀ env, Room n (A.deeper env) := fun env => by
    refine ⟨R.handled, ?_, ?_⟩
    · have := R.depth; show A.depth + 1 + 2 * n + 10 < _; lia
    · have := R.units; show A.units + 3 + 12 * n + 200 < _; lia
  refine codeAny_call_function (by have := R.depth; lia) ho hd hco hgen hbody hcode (hb _ _ _ _ ?_)
  rw [hglob, hblt]
  refine new_env (ei := { fi.ei with sl := [] }) S hsc hkd rfl hcl hρ fun s₁ cells htk hfr x₁ S₁ hge hF => ?_
  have F₁ := hF (newEnv fd.scope s.heap.objs.size mainGlobals cells (fd.qualname ++ ".<locals>.") (some a) fd.code none builtinsNs) (scOk_parts hsc).1 rfl rfl hqual rfl rfl
    (fun x k hk => .inl (by rw [show (({ fi.ei with sl := [] } : EI).kd) = kdOf fd.scope.names from hkd, look_kdOf] at hk; exact hk)) htab
  generalize hE : newEnv fd.scope s.heap.objs.size mainGlobals cells (fd.qualname ++ ".<locals>.") (some a) fd.code none builtinsNs = env at F₁ ⊢
  have hloc : env.locals = s.heap.objs.size := by rw [← hE]; rfl
  have hcells : env.cells = cells := by rw [← hE]; rfl
  refine wpAny_bind (wpAny_mono (tpos (by rw [htk]; exact ht) (binds_ok (ei := { fi.ei with sl := [] }) rfl _ (fun n v u => rfl) xs ds ρ₀ ρ s₁ (hrs.stp x₁ S.gin) (by rw [hps, bindAll_sl]; exact h1) S₁ F₁ fun s₂ x₂ S₂ F₂ ht₂ => ?_)) (fun _ _ h => wpAny_pure h) fun _ _ e => e.elim)
  have lim₂ : s₂.heap.NoLimit := hlim.keeps fun a o e => S₂.gin _ _ (S₂.base _ _ e)
  refine ⟨lim₂, codeAny_func ?_⟩
  have ownge : ∀ (b : Addr), Own fi.ei env b → s.heap.objs.size ≤ b := fun b hb => by
    rcases hb with hb | ⟨x, e1, e2⟩
    · rw [hb, hloc]; exact Nat.le_refl _
    · rw [hcells] at e2; exact hge x b e1 e2
  have z₂ : s.heap.objs.size ≤ s₂.heap.objs.size := Nat.le_trans x₁.size x₂.size
  obtain ⟨g₃, q1, q2, S₃, F₃⟩ := seal_ok S₂ F₂ z₂ (fun x hx => by
    have := List.all_eq_true.mp h2 (nm x) (by simpa using hx)
    simp only [Bool.and_eq_true] at this
    refine ⟨this.1, ?_⟩
    have h := this.2
    unfold isCellK at h
    split at h
    · assumption
    · cases h) (fun x c e1 e2 => by rw [hcells] at e2; exact hge x c e1 e2)
  have x₁₂ : Stp (Wx X am) g am s g am s₂ := x₁.trans x₂ fun b hb h => by
    rcases h with h | h
    · exact x₁.wx b hb h
    · exact absurd (ownge b h) (Nat.not_le.mpr hb)
  have x₃ : Stp (Wx X am) g am s g₃ am s₂ := ⟨x₁₂.sh, x₁₂.keep, fun b hb => q1 b hb, x₁₂.am, x₁₂.size⟩
  refine wpAny_mono (h3 (A.deeper env) env g₃ am s₂ ht₂ (R₁ env) S₃ F₃ (fun f s' => RR (.ok (.ret (match f with | .ret v => v | _ => .none))) s') fun fl' g₄ am₄ s₄ x₄ S₄ F₄ k₄ ht₄ => ?_) (fun f s' hq => ?_) fun _ _ e => e.elim
  · have x₅ : Stp (Wx X am) g am s g₄ am₄ s₄ := x₃.trans x₄ fun b hb h => by
      rcases h with h | h
      · exact h
      · exact absurd (ownge b h) (Nat.not_le.mpr hb)
    rcases hfl with rfl | ⟨rfl, rfl⟩
    · cases fl' <;> first | (exact k₄.elim) | skip
      exact P _ g₄ am₄ s₄ x₅ S₄ k₄
    · cases fl' <;> first | (exact k₄.elim) | skip
      exact P _ g₄ am₄ s₄ x₅ S₄ .none
  · cases f <;> exact hq

variable {K : Frag}
/- the callee sees no mutable thing -/
theorem St.bare {h : Heap} (S : St X g am σ h) : St X g [] [] h :=
  ⟨S.gin, S.base, S.tabg, S.tab, (fun a ha => nomatch ha), (fun a ha => nomatch ha), List.nodup_nil, rfl, fun i a so e => (by simp at e)⟩

/- what a callee did, seen by its caller -/
theorem St.back {am₂ : List Addr} {σ₂ : Store} {g' : G} {am' : List Addr} {s' : Shared} {am₃ : List Addr} (S : St X g am σ s.heap) (x : Stp (fun a => X.isTab a ∨ s.heap.objs.size ≤ a) g am₂ s g' am' s') (S' : St X g' am₃ σ₂ s'.heap) : St X g' am σ s'.heap ∧ Stp (Wx X am) g am s g' am s' := by
  have le := x.le S.gin
  have new : ∀ a o, s.heap.get? a = some o → ¬ X.isTab a → s'.heap.get? a = some o := fun a o e ht => x.keep a o (fun h => h.elim ht fun h => absurd (Heap.lt_size e) (Nat.not_lt.mpr h)) e
  refine ⟨⟨S'.gin, S'.base, S'.tabg, S'.tab, fun a ha => (x.gext a (S.amlt ha)).trans (S.amg a ha), S.amt, S.nodup, S.len, fun i a so e1 e2 => (S.so i a so e1 e2).at le (fun _ _ e => e) fun o e => new a o e (S.amt a (List.mem_of_getElem? e1))⟩,
    ⟨x.sh, fun a o hw e => new a o e fun h => hw (.inr h), x.gext, ⟨[], by simp⟩, x.size⟩⟩

/- a function of the fragment runs, its body sound -/
theorem fn_body {m : Nat} (H : KOk K X C) {a : Addr} {fi : FnI} (hf : C.fn a = some fi) {args : List D} {fl : Flo} (h1 : fi.ar.contains args.length = true) (h2 : bindAll fi.ei fi.params (args ++ fi.dflts.drop (args.length + fi.dflts.length - fi.params.length)) [] = some ρ)
    (h3 : (fi.ei.sl.all fun x => (look x ρ).isSome && isCellK (look x fi.ei.kd)) = true) (h4 : BodyS X C m fi.ei fi.body ρ σ fl ρ' σ') (h5 : fl = .ret d ∨ (fl = .next ∧ d = .none)) (ht : TK C s.toks) (R : Room (m + 1) A) (S : St X g am σ s.heap) {vs : List Value} (rs : Reps X g am vs args)
    {RR : Result → Shared → Prop} (P : Post X σ' d g am s (fun v s' => RR (.ok (.ret v)) s')) : codeAny (model X.prog X.w) A (.call (.ref a) ⟨vs, []⟩) RR s := by
  obtain ⟨fd, FA⟩ := H.fn a fi hf
  obtain ⟨o, ho, hd⟩ := FA.obj
  have hlen := rs.length
  obtain ⟨xs, dv, b1, b2, b3, b4, b5⟩ := FA.binds vs (by rw [hlen]; exact h1)
  have le : G.Le X.h₀.get? g := S.base
  rw [hlen] at b4 b5
  refine run_code H.nolim (S.old a o ho) hd FA.body FA.glob FA.blt FA.co FA.gen FA.sc FA.kd FA.qual (FA.code.keeps S.old) FA.tab (b1 s S.old) b2 (ds := args ++ fi.dflts.drop (args.length + fi.dflts.length - fi.params.length)) ?_ (ρ₀ := []) ?_ (fun x d e => by simp [look] at e) h2 h3 h4 h5 ht R S P
  · rw [b3]
    exact rs.append (b4.free le b5)
  · intro x hx
    have := (scOk_parts FA.sc).2.2.2.2 x (by rw [← FA.kd]; exact hx)
    simp [inCells, look] at this

theorem cells_clos : ∀ {cl : List (Str × Addr)} {ws : List Value} {ds : List D}, CellsR g cl ws → Reps X g am ws ds → ∀ x, nm x ∈ cl.map (fun p => nm p.1) →
    ∃ c o v, cl.lookup x = some c ∧ g c = some o ∧ o.data = .cell (some v) ∧ ∀ d, look (nm x) ((cl.map fun p => nm p.1).zip ds) = some d → Rep X g am v d
  | [], ws, ds, h, r, x, hx => nomatch hx
  | (y, c) :: cl, _, _, .cons (o := o) (v := v) e1 e2 hc, .cons r rs, x, hx => by
    by_cases q : nm y = nm x
    · have := nm_inj q
      subst this
      refine ⟨c, o, v, by simp, e1, e2, fun d hd => ?_⟩
      simp only [List.map_cons, List.zip_cons_cons, look, if_true] at hd
      cases hd; exact r
    · have hx' : nm x ∈ cl.map (fun p => nm p.1) := by
        rcases List.mem_cons.mp hx with h | h
        · exact absurd h.symm q
        · exact h
      obtain ⟨c', o', v', f1, f2, f3, f4⟩ := cells_clos hc rs x hx'
      have hb : (x == y) = false := str_ne fun e => q e.symm
      refine ⟨c', o', v', by rw [List.lookup_cons, hb]; exact f1, f2, f3, fun d hd => f4 d ?_⟩
      simp only [List.map_cons, List.zip_cons_cons, look, if_neg q] at hd
      exact hd
theorem look_zip_mem {x : Nat} {d : D} : ∀ {l : List Nat} {ds : List D}, look x (l.zip ds) = some d → x ∈ l
  | [], _, h => by simp [look] at h
  | _ :: _, [], h => by simp [look] at h
  | y :: l, e :: ds, h => by
    simp only [List.zip_cons_cons, look] at h
    by_cases q : y = x
    · rw [q]; exact List.mem_cons_self ..
    · rw [if_neg q] at h
      exact List.mem_cons_of_mem _ (look_zip_mem h)

end
structure RunF (C : Ctx) (n : Nat) (fi : FnI) (args : List D) (ρ₀ : VarsN) (σ : Store) (d : D) (σ' : Store) : Prop where
  run : ∃ m ρ fl ρ', n = m + 1 ∧ fi.ar.contains args.length = true ∧ bindAll fi.ei fi.params (args ++ fi.dflts.drop (args.length + fi.dflts.length - fi.params.length)) ρ₀ = some ρ ∧
    (fi.ei.sl.all fun x => (look x ρ).isSome && isCellK (look x fi.ei.kd)) = true ∧ ExL C m fi.ei fi.body ρ σ fl ρ' σ' ∧ (fl = .ret d ∨ (fl = .next ∧ d = .none))
section
variable {K : Frag} {X : Cx} {C : Ctx} {g : G} {am : List Addr} {σ σ' : Store} {s : Shared} {A : Around} {n : Nat} {env : Env} {ei : EI} {ρ ρ' : VarsN} {d : D} {f : Flo}
theorem fn_code (W : Good X C) (H : KOk K X C) {a : Addr} {fi : FnI} (hf : C.fn a = some fi) {args : List D} (h : RunF C n fi args [] σ d σ') (ht : TK C s.toks) (R : Room n A) (S : St X g am σ s.heap) {vs : List Value} (rs : Reps X g am vs args)
    {RR : Result → Shared → Prop} (P : Post X σ' d g am s (fun v s' => RR (.ok (.ret v)) s')) : codeAny (model X.prog X.w) A (.call (.ref a) ⟨vs, []⟩) RR s := by
  obtain ⟨m, ρ, fl, ρ', rfl, h1, h2, h3, h4, h5⟩ := h.run
  exact fn_body H hf h1 h2 h3 (h4.run X W) h5 ht R S rs P
end
section
variable {C : Ctx} {n : Nat} {ei : EI} {ρ ρ₁ ρ₂ ρ' : VarsN} {σ σ₁ σ₂ σ₃ σ' : Store} {d : D} {args ds : List D}
theorem rRunR {fi : FnI} {ei : EI} {cl ρ' : VarsN} {σ' : Store} {b : List Stmt} (he : fi.ei = ei) (hb : fi.body = b) (h0 : fi.ar.contains ds.length = true) (h1 : bindAll ei fi.params (ds ++ fi.dflts.drop (ds.length + fi.dflts.length - fi.params.length)) cl = some ρ)
    (h2 : (ei.sl.all fun x => (look x ρ).isSome && isCellK (look x ei.kd)) = true) (h3 : ExL C n ei b ρ σ (.ret d) ρ' σ') : RunF C (n + 1) fi ds cl σ d σ' := by
  subst he hb
  exact ⟨⟨n, ρ, _, ρ', rfl, h0, h1, h2, h3, .inl rfl⟩⟩
theorem rRunN {fi : FnI} {ei : EI} {cl ρ' : VarsN} {σ' : Store} {b : List Stmt} (he : fi.ei = ei) (hb : fi.body = b) (h0 : fi.ar.contains ds.length = true) (h1 : bindAll ei fi.params (ds ++ fi.dflts.drop (ds.length + fi.dflts.length - fi.params.length)) cl = some ρ)
    (h2 : (ei.sl.all fun x => (look x ρ).isSome && isCellK (look x ei.kd)) = true) (h3 : ExL C n ei b ρ σ .next ρ' σ') : RunF C (n + 1) fi ds cl σ .none σ' := by
  subst he hb
  exact ⟨⟨n, ρ, _, ρ', rfl, h0, h1, h2, h3, .inr ⟨rfl, rfl⟩⟩⟩
/- a def called -/
theorem rDef {a : Addr} {fi : FnI} {σ' : Store} (h0 : D.pures ds = true) (h1 : C.fn a = some fi) (h2 : RunF C n fi ds [] [] d σ') (h3 : d.pure = true) : CallD C (n + 1) (.old (.ref a)) ds σ d σ := by
  refine ⟨by show ((C.fn a).isSome || (C.cls a).isSome) = true; rw [h1]; rfl, fun X W A g am s ht R S v vs rf rs Q P => tpos ht ?_⟩
  generalize TQ C Q = Q at P ⊢
  obtain ⟨K, H⟩ := W.k
  cases rf
  refine wpAny_call (fn_code W H h1 h2 ht (R.less (Nat.le_succ _)) S.bare (rs.free (G.Le.refl g) h0) fun v' g' am' s' x S' r' => ?_)
  obtain ⟨S₂, x₂⟩ := S.back (x.wide fun a h => h.elim (fun h => nomatch h) .inl) S'
  exact P v' g' am s' x₂ S₂ (r'.free (G.Le.refl g') h3)
theorem rCls {c : Addr} {fi : FnI} {k : ClsI} {ns : List Str} {ds : List D} {σ₃ : Store} (hp : D.pures args = true) (hfn : C.fn c = none) (hk : C.cls c = some k) (hf : C.fn k.init = some fi)
    (hr : RunF C n fi (.loc 0 :: args) [] [.inst c 1, .attrs [] []] .none (.inst c 1 :: .attrs ns ds :: σ₃)) (hpure : D.pures ds = true) : CallD C (n + 1) (.old (.ref c)) args σ (.inst c ns ds) σ := by
  refine ⟨by show ((C.fn c).isSome || (C.cls c).isSome) = true; rw [hfn, hk]; rfl, fun X W A g am s ht R S v vs rf rs Q P => tpos ht ?_⟩
  generalize TQ C Q = Q at P ⊢
  obtain ⟨K, H⟩ := W.k
  cases rf
  obtain ⟨hh, gg, dd, tt, os⟩ := s
  have hK : K.In hh := fun b o e => S.old b o (H.kin b o e)
  obtain ⟨m1, m2, m3⟩ := H.make _ k hk
  refine wpAny_call (make_core (makes_of hK m1) (looks_findIn hK m2) (fun self => bind_fn hK self m3) (.inl rfl) ?_)
  have k1 : ∀ b o, hh.get? b = some o → ((hh.push emptyDict).push (instObj c hh.objs.size)).get? b = some o := fun b o e => Heap.get?_push_of_some _ (Heap.get?_push_of_some _ e)
  have z1 : (hh.push emptyDict).objs.size = hh.objs.size + 1 := Heap.size_push ..
  have z2 : ((hh.push emptyDict).push (instObj c hh.objs.size)).objs.size = hh.objs.size + 2 := by rw [Heap.size_push, z1]
  have e0 : ((hh.push emptyDict).push (instObj c hh.objs.size)).get? hh.objs.size = some emptyDict := Heap.get?_push_of_some _ (Heap.get?_push_size _ rfl)
  have e1 : ((hh.push emptyDict).push (instObj c hh.objs.size)).get? (hh.objs.size + 1) = some (instObj c hh.objs.size) := by
    rw [← z1]; exact Heap.get?_push_size _ rfl
  have fr : ∀ b, hh.objs.size ≤ b → g b = none ∧ ¬ X.isTab b := fun b hb => by
    obtain ⟨f1, f2, f3⟩ := S.fresh hb
    exact ⟨f1, f3⟩
  have S₁ : St X g [hh.objs.size + 1, hh.objs.size] [.inst c 1, .attrs [] []] ((hh.push emptyDict).push (instObj c hh.objs.size)) := by
    have S₀ : St X g [] [] ((hh.push emptyDict).push (instObj c hh.objs.size)) := S.bare.keepG k1
    refine ⟨S₀.gin, S₀.base, S₀.tabg, S₀.tab, fun a ha => ?_, fun a ha => ?_, ?_, rfl, fun i a so e2 e3 => ?_⟩
    · simp only [List.mem_cons, List.not_mem_nil, or_false] at ha
      rcases ha with rfl | rfl
      · exact (fr _ (Nat.le_succ _)).1
      · exact (fr _ (Nat.le_refl _)).1
    · simp only [List.mem_cons, List.not_mem_nil, or_false] at ha
      rcases ha with rfl | rfl
      · exact (fr _ (Nat.le_succ _)).2
      · exact (fr _ (Nat.le_refl _)).2
    · simp
    · match i, e2, e3 with
      | 0, e2, e3 =>
        simp at e2 e3
        subst e2; subst e3
        exact ⟨hh.objs.size, rfl, e1⟩
      | 1, e2, e3 =>
        simp at e2 e3
        subst e2; subst e3
        refine ⟨[], ⟨emptyDict, #[], 0, e0, rfl, ?_, fun name => rfl, Nat.le_refl _⟩, rfl, .nil⟩
        intro e he
        simp at he
      | j + 2, e2, e3 => simp at e2
  have hsz : hh.objs.size ≤ ((hh.push emptyDict).push (instObj c hh.objs.size)).objs.size := by rw [z2]; lia
  have y : Stp (fun a => X.isTab a ∨ hh.objs.size ≤ a) g [] ⟨hh, gg, dd, tt, os⟩ g [hh.objs.size + 1, hh.objs.size] ⟨(hh.push emptyDict).push (instObj c hh.objs.size), gg, dd, tt, os⟩ :=
    ⟨⟨_, tt, rfl⟩, fun a o _ e => k1 a o e, fun _ _ => rfl, ⟨[hh.objs.size + 1, hh.objs.size], rfl, fun a ha => by
      simp only [List.mem_cons, List.not_mem_nil, or_false] at ha
      rcases ha with rfl | rfl
      · exact Nat.le_succ _
      · exact Nat.le_refl _⟩, hsz⟩
  have Ru : Room n (A.under (.builtin "type.__call__" ⟨.ref c :: vs, []⟩)) := by
    have d1 := R.depth
    have d2 := R.units
    have hd1 : (A.under (.builtin "type.__call__" ⟨.ref c :: vs, []⟩)).depth = A.depth + 1 := rfl
    have hu1 : (A.under (.builtin "type.__call__" ⟨.ref c :: vs, []⟩)).units = A.units + 1 := rfl
    exact ⟨R.handled, by rw [hd1]; lia, by rw [hu1]; lia⟩
  have r0 : Reps X g [hh.objs.size + 1, hh.objs.size] (.ref (hh.objs.size + 1) :: vs) (.loc 0 :: args) := .cons (.loc 0 _ (by simp)) (rs.free (G.Le.refl g) hp)
  refine fn_code (s := ⟨(hh.push emptyDict).push (instObj c hh.objs.size), gg, dd, tt, os⟩) W H hf hr ht Ru S₁ r0 fun v' g' am' s' x S' r' => ?_
  cases r'
  refine ⟨rfl, ?_⟩
  obtain ⟨l, hl, hlq⟩ := x.am
  have a0 : am'[0]? = some (hh.objs.size + 1) := by rw [hl]; rfl
  have a1 : am'[1]? = some hh.objs.size := by rw [hl]; rfl
  obtain ⟨dx, q1, q2⟩ := S'.so 0 _ _ a0 rfl
  rw [a1] at q1; cases q1
  obtain ⟨vs', hn, hlen', rr⟩ := S'.so 1 _ _ a1 rfl
  obtain ⟨o, es, ep, p1, p2, p3, p4, p5⟩ := hn
  have n0 := S'.amg _ (List.mem_of_getElem? a0)
  have n1 := S'.amg _ (List.mem_of_getElem? a1)
  have t0 := S'.amt _ (List.mem_of_getElem? a0)
  have t1 := S'.amt _ (List.mem_of_getElem? a1)
  have n1' : (g'.ext (hh.objs.size + 1) (instObj c hh.objs.size)) hh.objs.size = none := (G.ext_ne (Nat.ne_of_lt (Nat.lt_succ_self _))).trans n1
  have S₂ := (S'.bare.ext n0 (fun h => nomatch h) t0 q2).ext n1' (fun h => nomatch h) t1 p1
  have y₂ := y.trans x fun a ha h => by
    rcases h with h | h
    · simp only [List.mem_cons, List.not_mem_nil, or_false] at h
      rcases h with rfl | rfl
      · exact absurd ha (Nat.not_lt.mpr (Nat.le_succ _))
      · exact absurd ha (Nat.lt_irrefl _)
    · exact Or.inl h
  have y₃ : Stp (fun a => X.isTab a ∨ hh.objs.size ≤ a) g [] ⟨hh, gg, dd, tt, os⟩ ((g'.ext (hh.objs.size + 1) (instObj c hh.objs.size)).ext hh.objs.size o) am' s' :=
    ⟨y₂.sh, y₂.keep, fun a ha => (G.ext_ne (Nat.ne_of_lt ha)).trans ((G.ext_ne (Nat.ne_of_lt (Nat.lt_succ_of_lt ha))).trans (y₂.gext a ha)), y₂.am, y₂.size⟩
  obtain ⟨S₃, x₃⟩ := S.back y₃ S₂
  exact P (.ref (hh.objs.size + 1)) _ am s' x₃ S₃ (.inst _ c hh.objs.size ns vs' ds ((G.ext_ne (Nat.ne_of_gt (Nat.lt_succ_self _))).trans G.ext_at) ⟨o, es, ep, G.ext_at, p2, p3, p4⟩ hlen' (rr.free ((G.ext_le n0).trans (G.ext_le n1')) hpure))

theorem rClos {b : FnBody} {ns : List Str} {ds : List D} {fi : FnI} {σ₂ : Store} (hp : (D.pures args && D.pures ds) = true) (hf : ClosF b ns fi) (hr : RunF C n fi args ((ns.map nm).zip ds) [] d σ₂) (hpure : d.pure = true) :
    CallD C (n + 1) (.clos b ns ds) args σ d σ := by
  refine ⟨rfl, fun X W A g am s ht R S v vs rf rs Q P => tpos ht ?_⟩
  generalize TQ C Q = Q at P ⊢
  obtain ⟨K, H⟩ := W.k
  rw [Bool.and_eq_true] at hp
  obtain ⟨m, ρ, fl, ρ', rfl, h1, h2, h3, h4, h5⟩ := hr.run
  obtain ⟨a, cl, doc, pm, c', ctv, ws, rfl, q2, q3, q4, q5, r⟩ := rep_clos rf
  · obtain ⟨x, tc, hparams, hc, rfl, hbind⟩ := hf.run
    simp only [Bool.and_eq_true, Bool.not_eq_true'] at hc
    obtain ⟨⟨⟨c1, c2⟩, c3⟩, c4⟩ := hc
    have hlen := rs.length
    have h1' : args.length = 1 := by simpa using h1
    obtain ⟨w, rfl⟩ : ∃ w, vs = [w] := by
      rw [h1'] at hlen
      obtain ⟨w, r, rfl⟩ := List.exists_cons_of_length_pos (by rw [hlen]; decide : 0 < vs.length)
      exact ⟨w, by rw [List.length_eq_zero_iff.mp (Nat.succ.inj hlen)]⟩
    have rs' : Reps X g [] [w] args := rs.free (G.Le.refl g) hp.1
    have r0 : Reps X g [] ws ds := r.free (G.Le.refl g) hp.2
    have hm : ns.map nm = cl.map fun p => nm p.1 := by rw [← q4, List.map_map]; rfl
    have mem_free : ∀ (ns : List Str) (x : Nat), inCells ⟨ns.map fun y => (nm y, .free), Str.empty, none, [], []⟩ x = true → x ∈ ns.map nm := by
      intro ns x hi
      unfold inCells at hi
      have : ∀ (l : List Str) k, look x (l.map fun y => (nm y, NameKind.free)) = some k → x ∈ l.map nm := by
        intro l k
        induction l with
        | nil => intro h; simp [look] at h
        | cons y l ih =>
          intro h
          simp only [List.map_cons, look] at h
          by_cases q : nm y = x
          · rw [List.map_cons, q]; exact List.mem_cons_self ..
          · rw [if_neg q] at h; exact List.mem_cons_of_mem _ (ih h)
      split at hi
      · rename_i q; exact this _ _ q
      · rename_i q; exact this _ _ q
      · cases hi
    refine wpAny_call (run_code H.nolim (fd := fnX b.name b.qual b.params b.body b.scope cl .none .none doc pm none (.ref c') ctv) (fi := { params := [nm x], dflts := [], ar := [1], body := b.body, ei := { kd := kdOf b.scope.names, qual := b.qual ++ ".<locals>.", tab := none, sl := [], mu := [] } }) (S.gin _ _ q2) rfl rfl rfl rfl c2 c3 c1 rfl rfl (q3.rec' S.gin) (fun p h => by cases h)
      (xs := [(x, w)]) (BindsTo.of_eq ?_) rfl (ds := args ++ ([] : List D).drop (args.length + 0 - 1)) ?_ (ρ₀ := (ns.map nm).zip ds) ?_ ?_ h2 h3 (h4.run X W) h5 ht (R.less (Nat.le_succ _)) S.bare fun v' g' am' s' x S' r' => ?_)
    · rw [hparams]; exact hbind _ _ _ _ _ _ _ _ _ _
    · simpa using rs'
    · intro y hy
      obtain ⟨cc, o, v, e1, e2, e3, e4⟩ := cells_clos q5 r0 y (by rw [← hm]; exact mem_free _ _ ((scOk_parts c1).2.2.2.2 y hy))
      exact ⟨cc, e1, (by simp), (fun ⟨t, ht, q⟩ => by rw [← q, S.tabg t ht] at e2; cases e2), some v, ⟨o, S.gin _ _ e2, e3⟩, fun d hd => ⟨v, rfl, e4 d (by rw [← hm]; exact hd)⟩⟩
    · intro y d hd
      obtain ⟨z, hz, e⟩ := List.mem_map.mp (look_zip_mem hd)
      have := List.all_eq_true.mp c4 z hz
      rw [e] at this
      exact eq_of_beq this
    · obtain ⟨S₂, x₂⟩ := S.back (x.wide fun a h => h.elim (fun h => nomatch h) .inl) S'
      exact P v' g' am s' x₂ S₂ (r'.free (G.Le.refl g') hpure)

end
end
section
/-! the law's context -/
/- how a def stands -/
noncomputable def fiAt (st : Stmt) (qual : String) (dfl : List D) (tab : Option (Nat × Nat × Str)) (sl mu : List String) (ar : List Nat) : FnI :=
  { params := (argOf st).args.map fun x => nm x.arg, dflts := dfl, ar := ar, body := bodyOf st, ei := { kd := kdOf (scopeOf st).names, qual := Str.ofString qual ++ Str.ofString ".<locals>.", tab := tab, sl := sl.map fun x => nm (Str.ofString x), mu := mu.map fun x => nm (Str.ofString x) } }
noncomputable def qmap : List (List Nat) := (List.range 256).map fun c =>
  if ([45, 33, 42, 43, 47].contains c) || (decide (97 ≤ c) && decide (c ≤ 122)) || (decide (65 ≤ c) && decide (c ≤ 90)) || (decide (48 ≤ c) && decide (c ≤ 57)) then [c] else if c == 32 then [95] else [61, hexd (c / 16), hexd (c % 16)]
noncomputable def dS (x : String) : D := .str (Str.ofString x).cps.toList
noncomputable def nS (x : String) : Nat := nm (Str.ofString x)

noncomputable def fiCdata : FnI := fiAt (topAt 27) "_escape_cdata" [] none [] [] [1]
noncomputable def fiAttrib : FnI := fiAt (topAt 28) "_escape_attrib" [] none [] [] [1]
noncomputable def fiHtml : FnI := fiAt (topAt 29) "_escape_attrib_html" [] none [] [] [1]
noncomputable def fiCdataN : FnI := fiAt (topAt 30) "_escape_cdata_c14n" [] none [] [] [1]
noncomputable def fiAttribN : FnI := fiAt (topAt 31) "_escape_attrib_c14n" [] none [] [] [1]
noncomputable def fiHeader : FnI := fiAt (topAt 19) "header_encode" [dS "iso-8859-1"] none [] [] [1, 2]
noncomputable def fiWorld : FnI := fiAt (topAt 33) "_law_world" [] none [] ["cells"] [1]
noncomputable def fiFilled : FnI := fiAt (topAt 34) "_law_filled" [] none [] [] [2]
noncomputable def fiKind : FnI := fiAt (topAt 35) "_law_kind" [] none [] [] [1]
noncomputable def fiLaw : FnI := fiAt (topAt 36) "law" [] none [] [] [1]
noncomputable def fiHInit : FnI := fiAt (nth (bodyOf (topAt 7)) 5) "HtmlDiff.__init__" [.int 8, .none, .none, .old (.ref 29)] none [] [] [1, 2]
noncomputable def fiTab : FnI := fiAt (nth (bodyOf (topAt 7)) 7) "HtmlDiff._tab_newline_replace" [] (some (29, 8, Str.ofString "HtmlDiff._tab_newline_replace.<locals>.expand_tabs")) ["self"] [] [3]
noncomputable def fiWInit : FnI := fiAt (nth (bodyOf (topAt 24)) 1) "Whitespace.__init__" [] none [] ["count"] [2]
noncomputable def fiLevel : FnI := fiAt (nth (bodyOf (topAt 24)) 3) "Whitespace.indent_level" [] none [] [] [2]
noncomputable def fiEqual : FnI := fiAt (nth (bodyOf (topAt 24)) 4) "Whitespace.equal" [] none [] [] [2]

noncomputable def fnTab : List (Nat × FnI) := [(224, fiCdata), (245, fiCdataN), (231, fiAttrib), (252, fiAttribN), (238, fiHtml), (139, fiHeader), (257, fiWorld), (264, fiFilled), (269, fiKind), (274, fiLaw), (44, fiHInit), (58, fiTab), (161, fiWInit), (175, fiLevel), (182, fiEqual)]
noncomputable def clsTab : List (Nat × ClsI) := [(111, ⟨44, [(nS "_tab_newline_replace", 58)], [], [nS "_tabsize"], [nS "_tabsize", nS "_wrapcolumn", nS "_linejunk", nS "_charjunk"]⟩),
    (206, ⟨161, [(nS "indent_level", 175), (nS "equal", 182)], [(nS "S", dS " "), (nS "T", dS "\t")], [nS "raw", nS "norm", nS "nt"], [nS "raw", nS "n", nS "nt", nS "norm", nS "is_simple"]⟩)]
noncomputable def globTab : List (Nat × D) := [(nS "_escape_cdata", .old (.ref 224)), (nS "_escape_cdata_c14n", .old (.ref 245)), (nS "_escape_attrib", .old (.ref 231)), (nS "_escape_attrib_c14n", .old (.ref 252)), (nS "_escape_attrib_html", .old (.ref 238)),
    (nS "header_encode", .old (.ref 139)), (nS "_law_world", .old (.ref 257)), (nS "_law_filled", .old (.ref 264)), (nS "_law_kind", .old (.ref 269)), (nS "HtmlDiff", .old (.ref 111)), (nS "Whitespace", .old (.ref 206)),
    (nS "len", .bi .len), (nS "ord", .bi .ord), (nS "abs", .bi .abs), (nS "sorted", .bi .sorted), (nS "bytes", .bi .bytes), (nS "tuple", .bi .tuple), (nS "range", .bi .range), (nS "enumerate", .bi .enumerate), (nS "zip", .bi .zip),
    (nS "_QUOPRI_HEADER_MAP", .list (qmap.map .str))]
noncomputable def lawB (b : Bool) : Ctx where
  glob x := look x globTab
  fn a := look a fnTab
  cls a := look a clsTab
  rep := b
noncomputable abbrev lawC : Ctx := lawB true
end
section
noncomputable def fdIn (K : Frag) (a : Addr) : FuncData := match K.lookup a with
  | some ⟨_, _, .func fd, _⟩ => fd
  | _ => default
noncomputable def fnHere (K : Frag) (a : Addr) : Bool := match K.lookup a with
  | some ⟨_, _, .func _, _⟩ => true
  | _ => false
theorem fn_obj {K : Frag} {h : Heap} {a : Addr} (X : K.In h) (e : fnHere K a = true) : ∃ o, h.get? a = some o ∧ o.data = .func (fdIn K a) := by
  unfold fnHere at e
  split at e
  · rename_i fd _ q
    refine ⟨_, X _ _ q, ?_⟩
    unfold fdIn
    rw [q]
  · cases e
noncomputable def codeIn (K : Frag) (fd : FuncData) : Bool := match fd.code with
  | .ref c => (match K.lookup c with
    | some ⟨_, _, .fields xs, _⟩ => (match (xs[1]? : Option Value) with | some (.str q _) => q == fd.qualname | _ => false)
    | _ => false)
  | _ => false
theorem code_of {K : Frag} {h : Heap} {fd : FuncData} (X : K.In h) (e : codeIn K fd = true) : h.CodeRec fd.code fd.qualname := by
  unfold codeIn at e
  split at e
  · rename_i c hc
    split at e
    · rename_i xs _ q
      split at e
      · rename_i q' t h1
        rw [eq_of_beq e] at h1
        exact ⟨c, _, xs, t, hc, X _ _ q, rfl, h1⟩
      · cases e
    · cases e
  · cases e
/- what a function's object is, as the written part shows it -/
structure FnK (K : Frag) (a : Addr) (fi : FnI) : Prop where
  fn : fnHere K a = true
  body : (fdIn K a).body = .stmts fi.body
  glob : (fdIn K a).globals = mainGlobals
  blt : (fdIn K a).builtins = builtinsNs
  clos : (fdIn K a).closure = []
  co : (fdIn K a).scope.isCoroutine = false
  gen : (fdIn K a).scope.isGenerator = false
  sc : scOk (fdIn K a).scope ⟨[], Str.empty, none, [], []⟩ = true
  kd : fi.ei.kd = kdOf (fdIn K a).scope.names
  qual : fi.ei.qual = (fdIn K a).qualname ++ ".<locals>."
  code : codeIn K (fdIn K a) = true
theorem FnK.at {K : Frag} {X : Cx} {a : Addr} {fi : FnI} (hin : K.In X.h₀) (k : FnK K a fi) (tab : ∀ p, fi.ei.tab = some p → ∃ c P, (fdIn K a).code = .ref c ∧ (c, P, p.1, p.2.1, p.2.2) ∈ X.tabs)
    (binds : ∀ vs : List Value, fi.ar.contains vs.length = true → ∃ (xs : List (Str × Value)) (dv : List Value),
    (∀ s : Shared, (∀ a o, X.h₀.get? a = some o → s.heap.get? a = some o) → BindsTo s (fdIn K a) ⟨vs, []⟩ xs) ∧ xs.map (fun p => nm p.1) = fi.params ∧ xs.map (·.2) = vs ++ dv ∧
    Reps X X.h₀.get? [] dv (fi.dflts.drop (vs.length + fi.dflts.length - fi.params.length)) ∧ D.pures (fi.dflts.drop (vs.length + fi.dflts.length - fi.params.length)) = true) : ∃ fd, FnAt X a fi fd :=
  ⟨fdIn K a, fn_obj hin k.fn, k.body, k.glob, k.blt, k.clos, k.co, k.gen, k.sc, k.kd, k.qual, code_of hin k.code, tab, binds⟩
variable (P : Params)
theorem kCdata : FnK (fK P) 224 fiCdata := ⟨by kernel_rfl, by kernel_rfl, by kernel_rfl, by kernel_rfl, by kernel_rfl, by kernel_rfl, by kernel_rfl, by kernel_rfl, by kernel_rfl, by kernel_rfl, by kernel_rfl⟩
theorem kCdataN : FnK (fK P) 245 fiCdataN := ⟨by kernel_rfl, by kernel_rfl, by kernel_rfl, by kernel_rfl, by kernel_rfl, by kernel_rfl, by kernel_rfl, by kernel_rfl, by kernel_rfl, by kernel_rfl, by kernel_rfl⟩
theorem kAttrib : FnK (fK P) 231 fiAttrib := ⟨by kernel_rfl, by kernel_rfl, by kernel_rfl, by kernel_rfl, by kernel_rfl, by kernel_rfl, by kernel_rfl, by kernel_rfl, by kernel_rfl, by kernel_rfl, by kernel_rfl⟩
theorem kAttribN : FnK (fK P) 252 fiAttribN := ⟨by kernel_rfl, by kernel_rfl, by kernel_rfl, by kernel_rfl, by kernel_rfl, by kernel_rfl, by kernel_rfl, by kernel_rfl, by kernel_rfl, by kernel_rfl, by kernel_rfl⟩
theorem kHtml : FnK (fK P) 238 fiHtml := ⟨by kernel_rfl, by kernel_rfl, by kernel_rfl, by kernel_rfl, by kernel_rfl, by kernel_rfl, by kernel_rfl, by kernel_rfl, by kernel_rfl, by kernel_rfl, by kernel_rfl⟩
theorem kHeader : FnK (fK P) 139 fiHeader := ⟨by kernel_rfl, by kernel_rfl, by kernel_rfl, by kernel_rfl, by kernel_rfl, by kernel_rfl, by kernel_rfl, by kernel_rfl, by kernel_rfl, by kernel_rfl, by kernel_rfl⟩
theorem kWorld : FnK (fK P) 257 fiWorld := ⟨by kernel_rfl, by kernel_rfl, by kernel_rfl, by kernel_rfl, by kernel_rfl, by kernel_rfl, by kernel_rfl, by kernel_rfl, by kernel_rfl, by kernel_rfl, by kernel_rfl⟩
theorem kFilled : FnK (fK P) 264 fiFilled := ⟨by kernel_rfl, by kernel_rfl, by kernel_rfl, by kernel_rfl, by kernel_rfl, by kernel_rfl, by kernel_rfl, by kernel_rfl, by kernel_rfl, by kernel_rfl, by kernel_rfl⟩
theorem kKind : FnK (fK P) 269 fiKind := ⟨by kernel_rfl, by kernel_rfl, by kernel_rfl, by kernel_rfl, by kernel_rfl, by kernel_rfl, by kernel_rfl, by kernel_rfl, by kernel_rfl, by kernel_rfl, by kernel_rfl⟩
theorem kLaw : FnK (fK P) 274 fiLaw := ⟨by kernel_rfl, by kernel_rfl, by kernel_rfl, by kernel_rfl, by kernel_rfl, by kernel_rfl, by kernel_rfl, by kernel_rfl, by kernel_rfl, by kernel_rfl, by kernel_rfl⟩
theorem kHInit : FnK (fK P) 44 fiHInit := ⟨by kernel_rfl, by kernel_rfl, by kernel_rfl, by kernel_rfl, by kernel_rfl, by kernel_rfl, by kernel_rfl, by kernel_rfl, by kernel_rfl, by kernel_rfl, by kernel_rfl⟩
theorem kTab : FnK (fK P) 58 fiTab := ⟨by kernel_rfl, by kernel_rfl, by kernel_rfl, by kernel_rfl, by kernel_rfl, by kernel_rfl, by kernel_rfl, by kernel_rfl, by kernel_rfl, by kernel_rfl, by kernel_rfl⟩
theorem kWInit : FnK (fK P) 161 fiWInit := ⟨by kernel_rfl, by kernel_rfl, by kernel_rfl, by kernel_rfl, by kernel_rfl, by kernel_rfl, by kernel_rfl, by kernel_rfl, by kernel_rfl, by kernel_rfl, by kernel_rfl⟩
theorem kLevel : FnK (fK P) 175 fiLevel := ⟨by kernel_rfl, by kernel_rfl, by kernel_rfl, by kernel_rfl, by kernel_rfl, by kernel_rfl, by kernel_rfl, by kernel_rfl, by kernel_rfl, by kernel_rfl, by kernel_rfl⟩
theorem kEqual : FnK (fK P) 182 fiEqual := ⟨by kernel_rfl, by kernel_rfl, by kernel_rfl, by kernel_rfl, by kernel_rfl, by kernel_rfl, by kernel_rfl, by kernel_rfl, by kernel_rfl, by kernel_rfl, by kernel_rfl⟩
end
section
/- what is asked of a call's binding -/
noncomputable def Bds (X : Cx) (fi : FnI) (fd : FuncData) : Prop := ∀ vs : List Value, fi.ar.contains vs.length = true → ∃ (xs : List (Str × Value)) (dv : List Value),
    (∀ s : Shared, (∀ a o, X.h₀.get? a = some o → s.heap.get? a = some o) → BindsTo s fd ⟨vs, []⟩ xs) ∧ xs.map (fun p => nm p.1) = fi.params ∧ xs.map (·.2) = vs ++ dv ∧
    Reps X X.h₀.get? [] dv (fi.dflts.drop (vs.length + fi.dflts.length - fi.params.length)) ∧ D.pures (fi.dflts.drop (vs.length + fi.dflts.length - fi.params.length)) = true
theorem zip_names : ∀ (ns : List Str) (vs : List Value), ns.length = vs.length → (ns.zip vs).map (fun p => nm p.1) = ns.map nm ∧ (ns.zip vs).map (·.2) = vs
  | [], [], _ => ⟨rfl, rfl⟩
  | x :: ns, v :: vs, h => by
    obtain ⟨a, b⟩ := zip_names ns vs (by simpa using h)
    exact ⟨by rw [List.zip_cons_cons, List.map_cons, a]; rfl, by rw [List.zip_cons_cons, List.map_cons, b]⟩
theorem bds_plain {X : Cx} {fi : FnI} {fd : FuncData} (ns : List Str) (har : fi.ar = [ns.length]) (hd : fi.dflts = []) (hp : ns.map nm = fi.params) (hb : ∀ vs : List Value, vs.length = ns.length → bindArgs fd ⟨vs, []⟩ = pure (ns.zip vs)) : Bds X fi fd := by
  intro vs hv
  have hl : vs.length = ns.length := by
    rw [har] at hv
    simpa using hv
  obtain ⟨a, b⟩ := zip_names ns vs hl.symm
  refine ⟨ns.zip vs, [], fun s _ => .of_eq (hb vs hl), a.trans hp, by rw [b, List.append_nil], ?_, ?_⟩
  · rw [hd, List.drop_nil]; exact .nil
  · rw [hd, List.drop_nil]; rfl
theorem len1 {vs : List Value} (h : vs.length = 1) : ∃ a, vs = [a] := by
  obtain ⟨a, r, rfl⟩ := List.exists_cons_of_length_pos (by rw [h]; decide : 0 < vs.length)
  exact ⟨a, by rw [List.length_eq_zero_iff.mp (Nat.succ.inj h)]⟩
theorem len2 {vs : List Value} (h : vs.length = 2) : ∃ a b, vs = [a, b] := by
  obtain ⟨a, r, rfl⟩ := List.exists_cons_of_length_pos (by rw [h]; decide : 0 < vs.length)
  obtain ⟨b, rfl⟩ := len1 (Nat.succ.inj h)
  exact ⟨a, b, rfl⟩
theorem len3 {vs : List Value} (h : vs.length = 3) : ∃ a b c, vs = [a, b, c] := by
  obtain ⟨a, r, rfl⟩ := List.exists_cons_of_length_pos (by rw [h]; decide : 0 < vs.length)
  obtain ⟨b, c, rfl⟩ := len2 (Nat.succ.inj h)
  exact ⟨a, b, c, rfl⟩
variable (P : Params) (X : Cx)
section
variable {X}
theorem bCdata : Bds X fiCdata (fdIn (fK P) 224) := bds_plain [S "text"] (by kernel_rfl) (by kernel_rfl) (by kernel_rfl) fun vs h => by obtain ⟨v, rfl⟩ := len1 h; kernel_rfl
theorem bCdataN : Bds X fiCdataN (fdIn (fK P) 245) := bds_plain [S "text"] (by kernel_rfl) (by kernel_rfl) (by kernel_rfl) fun vs h => by obtain ⟨v, rfl⟩ := len1 h; kernel_rfl
theorem bAttrib : Bds X fiAttrib (fdIn (fK P) 231) := bds_plain [S "text"] (by kernel_rfl) (by kernel_rfl) (by kernel_rfl) fun vs h => by obtain ⟨v, rfl⟩ := len1 h; kernel_rfl
theorem bAttribN : Bds X fiAttribN (fdIn (fK P) 252) := bds_plain [S "text"] (by kernel_rfl) (by kernel_rfl) (by kernel_rfl) fun vs h => by obtain ⟨v, rfl⟩ := len1 h; kernel_rfl
theorem bHtml : Bds X fiHtml (fdIn (fK P) 238) := bds_plain [S "text"] (by kernel_rfl) (by kernel_rfl) (by kernel_rfl) fun vs h => by obtain ⟨v, rfl⟩ := len1 h; kernel_rfl
theorem bWorld : Bds X fiWorld (fdIn (fK P) 257) := bds_plain [S "script"] (by kernel_rfl) (by kernel_rfl) (by kernel_rfl) fun vs h => by obtain ⟨v, rfl⟩ := len1 h; kernel_rfl
theorem bFilled : Bds X fiFilled (fdIn (fK P) 264) := bds_plain [S "line", S "sizes"] (by kernel_rfl) (by kernel_rfl) (by kernel_rfl) fun vs h => by obtain ⟨v, w, rfl⟩ := len2 h; kernel_rfl
theorem bKind : Bds X fiKind (fdIn (fK P) 269) := bds_plain [S "line"] (by kernel_rfl) (by kernel_rfl) (by kernel_rfl) fun vs h => by obtain ⟨v, rfl⟩ := len1 h; kernel_rfl
theorem bLaw : Bds X fiLaw (fdIn (fK P) 274) := bds_plain [S "script"] (by kernel_rfl) (by kernel_rfl) (by kernel_rfl) fun vs h => by obtain ⟨v, rfl⟩ := len1 h; kernel_rfl
theorem bTab : Bds X fiTab (fdIn (fK P) 58) := bds_plain [S "self", S "fromlines", S "tolines"] (by kernel_rfl) (by kernel_rfl) (by kernel_rfl) fun vs h => by obtain ⟨u, v, w, rfl⟩ := len3 h; kernel_rfl
theorem bWInit : Bds X fiWInit (fdIn (fK P) 161) := bds_plain [S "self", S "ws"] (by kernel_rfl) (by kernel_rfl) (by kernel_rfl) fun vs h => by obtain ⟨v, w, rfl⟩ := len2 h; kernel_rfl
theorem bLevel : Bds X fiLevel (fdIn (fK P) 175) := bds_plain [S "self", S "tabsize"] (by kernel_rfl) (by kernel_rfl) (by kernel_rfl) fun vs h => by obtain ⟨v, w, rfl⟩ := len2 h; kernel_rfl
theorem bEqual : Bds X fiEqual (fdIn (fK P) 182) := bds_plain [S "self", S "other"] (by kernel_rfl) (by kernel_rfl) (by kernel_rfl) fun vs h => by obtain ⟨v, w, rfl⟩ := len2 h; kernel_rfl
theorem one_two {n : Nat} (h : [1, 2].contains n = true) : n = 1 ∨ n = 2 := by simpa using h
theorem hb1 {fd : FuncData} (hp : fd.params = argOf (topAt 19)) (hdv : fd.defaults = .ref 132) {s : Shared} (ho : s.heap.get? 132 = some { cls := .type "tuple", data := .seq #[.str (S "iso-8859-1") 1889] }) (v : Value) :
    BindsTo s fd ⟨[v], []⟩ [(S "header_bytes", v), (S "charset", .str (S "iso-8859-1") 1889)] ∧ ∀ w, BindsTo s fd ⟨[v, w], []⟩ [(S "header_bytes", v), (S "charset", w)] := by
  obtain ⟨name, qual, params, body, scope, globals, closure, defaults, kwdefaults⟩ := fd
  dsimp only at hp hdv
  subst hdv
  conv at hp => rhs; whnf
  subst hp
  exact ⟨.of_defaults rfl ho rfl rfl rfl, fun w => .of_defaults rfl ho rfl rfl rfl⟩
theorem hb2 {fd : FuncData} (hp : fd.params = argOf (nth (bodyOf (topAt 7)) 5)) (hdv : fd.defaults = .ref 37) {s : Shared} (ho : s.heap.get? 37 = some { cls := .type "tuple", data := .seq #[.int 8 231, .none, .none, .ref 29] }) (v : Value) :
    BindsTo s fd ⟨[v], []⟩ [(S "self", v), (S "tabsize", .int 8 231), (S "wrapcolumn", .none), (S "linejunk", .none), (S "charjunk", .ref 29)] ∧ ∀ w, BindsTo s fd ⟨[v, w], []⟩ [(S "self", v), (S "tabsize", w), (S "wrapcolumn", .none), (S "linejunk", .none), (S "charjunk", .ref 29)] := by
  obtain ⟨name, qual, params, body, scope, globals, closure, defaults, kwdefaults⟩ := fd
  dsimp only at hp hdv
  subst hdv
  conv at hp => rhs; whnf
  subst hp
  exact ⟨.of_defaults rfl ho rfl rfl rfl, fun w => .of_defaults rfl ho rfl rfl rfl⟩
theorem bHeader (hin : (fK P).In X.h₀) : Bds X fiHeader (fdIn (fK P) 139) := by
  have ho : X.h₀.get? 132 = some { cls := .type "tuple", data := .seq #[.str (S "iso-8859-1") 1889] } := hin _ _ (by kernel_rfl)
  have hdv : (fdIn (fK P) 139).defaults = .ref 132 := by kernel_rfl
  have hp : (fdIn (fK P) 139).params = argOf (topAt 19) := by kernel_rfl
  intro vs hv
  have hv' : [1, 2].contains vs.length = true := hv
  rcases one_two hv' with e | e
  · obtain ⟨v, rfl⟩ := len1 e
    refine ⟨[(S "header_bytes", v), (S "charset", .str (S "iso-8859-1") 1889)], [.str (S "iso-8859-1") 1889], fun s hs => (hb1 hp hdv (hs _ _ ho) v).1, by kernel_rfl, rfl, ?_, by kernel_rfl⟩
    exact .cons (.str _ _ _ rfl (show ∀ c ∈ (S "iso-8859-1").cps.toList, c < 1114112 by decide +kernel)) .nil
  · obtain ⟨v, w, rfl⟩ := len2 e
    exact ⟨[(S "header_bytes", v), (S "charset", w)], [], fun s hs => (hb1 hp hdv (hs _ _ ho) v).2 w, by kernel_rfl, rfl, .nil, by kernel_rfl⟩
theorem bHInit (hin : (fK P).In X.h₀) : Bds X fiHInit (fdIn (fK P) 44) := by
  have ho : X.h₀.get? 37 = some { cls := .type "tuple", data := .seq #[.int 8 231, .none, .none, .ref 29] } := hin _ _ (by kernel_rfl)
  have hdv : (fdIn (fK P) 44).defaults = .ref 37 := by kernel_rfl
  have hp : (fdIn (fK P) 44).params = argOf (nth (bodyOf (topAt 7)) 5) := by kernel_rfl
  intro vs hv
  have hv' : [1, 2].contains vs.length = true := hv
  rcases one_two hv' with e | e
  · obtain ⟨v, rfl⟩ := len1 e
    exact ⟨[(S "self", v), (S "tabsize", .int 8 231), (S "wrapcolumn", .none), (S "linejunk", .none), (S "charjunk", .ref 29)], [.int 8 231, .none, .none, .ref 29], fun s hs => (hb2 hp hdv (hs _ _ ho) v).1, by kernel_rfl, rfl, .cons (.int _ _) (.cons .none (.cons .none (.cons (.old _) .nil))), by kernel_rfl⟩
  · obtain ⟨v, w, rfl⟩ := len2 e
    exact ⟨[(S "self", v), (S "tabsize", w), (S "wrapcolumn", .none), (S "linejunk", .none), (S "charjunk", .ref 29)], [.none, .none, .ref 29], fun s hs => (hb2 hp hdv (hs _ _ ho) v).2 w, by kernel_rfl, rfl, .cons .none (.cons .none (.cons (.old _) .nil)), by kernel_rfl⟩
end
end
section
/-! leaves -/
section
variable {σ : Store} {a b : Int} {x y : List Nat} {u v : List D} {d : D}
theorem eCut {i j : Option Int} (h : u.length ≤ lim) : cutD (.list u) i j = some (.list (cutL u i j)) := if_pos h
end

theorem eCutQ {u v : List D} {i j : Option Int} (h : cutL u i j = v) (hl : u.length ≤ lim) : cutD (.list u) i j = some (.list v) := by
  subst h
  exact eCut hl
theorem cut_init {α : Type} (l : List α) : cutL l none (some (-1)) = l.dropLast := by
  show (l.take ((-1 : Int) + (l.length : Int)).toNat).drop 0 = _
  rw [show ((-1 : Int) + (l.length : Int)).toNat = l.length - 1 by lia, List.drop_zero, List.dropLast_eq_take]
theorem cut_last {α : Type} (l : List α) : cutL l (some (-1)) none = l.drop (l.length - 1) := by
  show (l.take l.length).drop ((-1 : Int) + (l.length : Int)).toNat = _
  rw [show ((-1 : Int) + (l.length : Int)).toNat = l.length - 1 by lia, List.take_length]
theorem cut_to {α : Type} (l : List α) (n : Nat) : cutL l none (some (n : Int)) = l.take n := by
  have : cutFrom (n : Int) l.length = min n l.length := by
    unfold cutFrom
    rw [if_neg (by lia)]; rfl
  show (l.take (cutFrom (n : Int) l.length)).drop 0 = _
  rw [this, List.drop_zero, ← List.take_take, List.take_length]
theorem cut_from {α : Type} (l : List α) (n : Nat) : cutL l (some (n : Int)) none = l.drop n := by
  have : cutFrom (n : Int) l.length = min n l.length := by
    unfold cutFrom
    rw [if_neg (by lia)]; rfl
  show (l.take l.length).drop (cutFrom (n : Int) l.length) = _
  rw [this, List.take_length]
  rcases Nat.le_total n l.length with h | h
  · rw [Nat.min_eq_left h]
  · rw [Nat.min_eq_right h, List.drop_length, List.drop_eq_nil_of_le h]
theorem pures_ints : ∀ l : List Int, D.pures (l.map .int) = true
  | [] => rfl
  | x :: l => by
    show (true && D.pures (l.map .int)) = true
    rw [pures_ints l]; rfl

theorem pures_strs : ∀ l : List (List Nat), D.pures (l.map .str) = true
  | [] => rfl
  | x :: l => by
    show (true && D.pures (l.map .str)) = true
    rw [pures_strs l]; rfl
/- a loop that folds -/
theorem forFold {α β : Type} {F : D → VarsN → Store → Flo → VarsN → Store → Prop} (st : β → VarsN × Store) (step : β → α → β) (P : List α → β → Prop) (g : α → D) (xs : List α) (ys : List D)
    (hb : ∀ pre b x post, xs = pre ++ x :: post → P pre b → F (g x) (st b).1 (st b).2 .next (st (step b x)).1 (st (step b x)).2 ∧ P (pre ++ [x]) (step b x)) (b₀ : β) (h0 : P [] b₀) :
      (∀ f ρ' σ', ForM F ys (st (xs.foldl step b₀)).1 (st (xs.foldl step b₀)).2 f ρ' σ' → ForM F (xs.map g ++ ys) (st b₀).1 (st b₀).2 f ρ' σ') ∧ P xs (xs.foldl step b₀) := by
  have : ∀ (rest pre : List α) (b : β), xs = pre ++ rest → P pre b → (∀ f ρ' σ', ForM F ys (st (rest.foldl step b)).1 (st (rest.foldl step b)).2 f ρ' σ' → ForM F (rest.map g ++ ys) (st b).1 (st b).2 f ρ' σ') ∧ P xs (rest.foldl step b) := by
    intro rest
    induction rest with
    | nil => intro pre b e h; rw [List.append_nil] at e; subst e; exact ⟨fun _ _ _ h => h, h⟩
    | cons x rest ih =>
      intro pre b e h
      obtain ⟨e1, p1⟩ := hb pre b x rest e h
      obtain ⟨e2, p2⟩ := ih (pre ++ [x]) (step b x) (by rw [e, List.append_assoc]; rfl) p1
      exact ⟨fun f ρ' σ' h => fN e1 (e2 f ρ' σ' h), p2⟩
  exact this xs [] b₀ rfl h0
theorem forFold2 {α β : Type} {F : D → VarsN → Store → Flo → VarsN → Store → Prop} (st : β → VarsN × Store) (step : β → α → β) (P : List α → β → Prop) (g : α → D) (xs : List α) (b₀ : β)
    (hb : ∀ pre b x post, xs = pre ++ x :: post → P pre b → F (g x) (st b).1 (st b).2 .next (st (step b x)).1 (st (step b x)).2 ∧ P (pre ++ [x]) (step b x)) (h0 : P [] b₀) :
      ForM F (xs.map g) (st b₀).1 (st b₀).2 .next (st (xs.foldl step b₀)).1 (st (xs.foldl step b₀)).2 ∧ P xs (xs.foldl step b₀) := by
  have := forFold st step P g xs [] hb b₀ h0
  exact ⟨by rw [← List.append_nil (xs.map g)]; exact this.1 _ _ _ f0, this.2⟩
theorem forFold0 {α β : Type} {F : D → VarsN → Store → Flo → VarsN → Store → Prop} (st : β → VarsN × Store) (step : β → α → β) (P : List α → β → Prop) (g : α → D) (xs : List α) (b₀ : β)
    (hb : ∀ pre b x post, xs = pre ++ x :: post → P pre b → F (g x) (st b).1 (st b).2 .next (st (step b x)).1 (st (step b x)).2 ∧ P (pre ++ [x]) (step b x)) (h0 : P [] b₀) :
      ForM F (xs.map g) (st b₀).1 (st b₀).2 .next (st (xs.foldl step b₀)).1 (st (xs.foldl step b₀)).2 := (forFold2 st step P g xs b₀ hb h0).1
end
section
theorem look_mem {α : Type} {x : Nat} {v : α} : ∀ {t : List (Nat × α)}, look x t = some v → (x, v) ∈ t
  | [], h => nomatch h
  | p :: r, h => by
    have h' : (if p.1 = x then some p.2 else look x r) = some v := h
    by_cases e : p.1 = x
    · rw [if_pos e] at h'
      cases h'
      rw [← e]; exact List.mem_cons_self ..
    · rw [if_neg e] at h'
      exact List.mem_cons_of_mem _ (look_mem h')
noncomputable def strsB : List Value → List (List Nat) → Bool
  | [], [] => true
  | .str x _ :: vs, l :: ls => x.cps.toList == l && l.all (fun c => decide (c < 1114112)) && strsB vs ls
  | _, _ => false
theorem strs_rep {X : Cx} {g : G} {am : List Addr} : ∀ {vs : List Value} {ls : List (List Nat)}, strsB vs ls = true → Reps X g am vs (ls.map .str)
  | [], [], _ => .nil
  | .str x t :: vs, l :: ls, h => by
    have h' : (x.cps.toList == l && l.all (fun c => decide (c < 1114112)) && strsB vs ls) = true := h
    simp only [Bool.and_eq_true] at h'
    exact .cons (.str x l t (eq_of_beq h'.1.1) fun c hc => of_decide_eq_true (List.all_eq_true.mp h'.1.2 c hc)) (strs_rep h'.2)
noncomputable def listIn (K : Frag) (a : Addr) : List Value := match K.lookup a with
  | some ⟨_, _, .seq vs _, _⟩ => vs.toList
  | _ => []
/- the names that the functions read -/
noncomputable def GP (X : Cx) (p : Nat × D) : Prop := ∀ x, nm x = p.1 → ∃ v, (X.mg x = some v ∨ (X.mg x = none ∧ X.mb x = some v)) ∧ Rep X X.h₀.get? [] v p.2 ∧ p.2.pure = true
section
variable {P : Params} {X : Cx} (hin : (fK P).In X.h₀) (hg : X.h₀.Ns mainGlobals X.mg) (hb : ∀ x : Str, x ≠ "__name__" → X.mb x = bootBuiltins x)
include hin hg
theorem g_old {s : String} {a : Addr} (h : nsIn (fK P) mainGlobals (S s) = some (some (.ref a))) : GP X (nS s, .old (.ref a)) := fun x hx => by
  cases nm_inj (show nm x = nm (S s) from hx)
  exact ⟨.ref a, .inl (mg_of hin hg h), .old _, rfl⟩
include hb
theorem g_bi {s : String} {b : BI} (h1 : nsIn (fK P) mainGlobals (S s) = some none) (h2 : bootBuiltins (S s) = some b.val) (h3 : (S s == "__name__") = false) : GP X (nS s, .bi b) := fun x hx => by
  cases nm_inj (show nm x = nm (S s) from hx)
  refine ⟨b.val, .inr ⟨mg_none_of hin hg h1, (hb _ fun e => ?_).trans h2⟩, .bi _, rfl⟩
  rw [e] at h3
  simp at h3
omit hb
theorem g_map : GP X (nS "_QUOPRI_HEADER_MAP", .list (qmap.map .str)) := fun x hx => by
  cases nm_inj (show nm x = nm (S "_QUOPRI_HEADER_MAP") from hx)
  have h1 : (fK P).lookup 123 = some { cls := .type "list", data := .seq (listIn (fK P) 123).toArray 0 } := by kernel_rfl
  have h2 : strsB (listIn (fK P) 123) qmap = true := by kernel_rfl
  exact ⟨.ref 123, .inl (mg_of hin hg (by kernel_rfl)), .list 123 0 _ _ (hin _ _ h1) (strs_rep h2), by show D.pures _ = true; rw [pures_strs]⟩
include hb
theorem glob_ok : ∀ p ∈ globTab, GP X p := by
  refine List.forall_mem_cons.mpr ⟨g_old hin hg (by kernel_rfl), ?_⟩
  refine List.forall_mem_cons.mpr ⟨g_old hin hg (by kernel_rfl), ?_⟩
  refine List.forall_mem_cons.mpr ⟨g_old hin hg (by kernel_rfl), ?_⟩
  refine List.forall_mem_cons.mpr ⟨g_old hin hg (by kernel_rfl), ?_⟩
  refine List.forall_mem_cons.mpr ⟨g_old hin hg (by kernel_rfl), ?_⟩
  refine List.forall_mem_cons.mpr ⟨g_old hin hg (by kernel_rfl), ?_⟩
  refine List.forall_mem_cons.mpr ⟨g_old hin hg (by kernel_rfl), ?_⟩
  refine List.forall_mem_cons.mpr ⟨g_old hin hg (by kernel_rfl), ?_⟩
  refine List.forall_mem_cons.mpr ⟨g_old hin hg (by kernel_rfl), ?_⟩
  refine List.forall_mem_cons.mpr ⟨g_old hin hg (by kernel_rfl), ?_⟩
  refine List.forall_mem_cons.mpr ⟨g_old hin hg (by kernel_rfl), ?_⟩
  refine List.forall_mem_cons.mpr ⟨g_bi hin hg hb (by kernel_rfl) (by kernel_rfl) (by kernel_rfl), ?_⟩
  refine List.forall_mem_cons.mpr ⟨g_bi hin hg hb (by kernel_rfl) (by kernel_rfl) (by kernel_rfl), ?_⟩
  refine List.forall_mem_cons.mpr ⟨g_bi hin hg hb (by kernel_rfl) (by kernel_rfl) (by kernel_rfl), ?_⟩
  refine List.forall_mem_cons.mpr ⟨g_bi hin hg hb (by kernel_rfl) (by kernel_rfl) (by kernel_rfl), ?_⟩
  refine List.forall_mem_cons.mpr ⟨g_bi hin hg hb (by kernel_rfl) (by kernel_rfl) (by kernel_rfl), ?_⟩
  refine List.forall_mem_cons.mpr ⟨g_bi hin hg hb (by kernel_rfl) (by kernel_rfl) (by kernel_rfl), ?_⟩
  refine List.forall_mem_cons.mpr ⟨g_bi hin hg hb (by kernel_rfl) (by kernel_rfl) (by kernel_rfl), ?_⟩
  refine List.forall_mem_cons.mpr ⟨g_bi hin hg hb (by kernel_rfl) (by kernel_rfl) (by kernel_rfl), ?_⟩
  refine List.forall_mem_cons.mpr ⟨g_bi hin hg hb (by kernel_rfl) (by kernel_rfl) (by kernel_rfl), ?_⟩
  refine List.forall_mem_cons.mpr ⟨g_map hin hg, fun p hp => nomatch hp⟩
theorem globOk {rp : Bool} (hbn : X.h₀.Ns builtinsNs X.mb) : GlobOk X (lawB rp) where
  sys := ⟨274, _, by decide, (hin 274 _ (by kernel_rfl : (fK P).lookup 274 = some (((fK P).lookup 274).getD default)))⟩
  g := hg
  b := hbn
  glob := fun x d e => glob_ok hin hg hb _ (look_mem e) x rfl
end
end
section
noncomputable abbrev lawTab : Addr × Addr × Nat × Nat × Str := (57, 55, 29, 8, S "HtmlDiff._tab_newline_replace.<locals>.expand_tabs")
section
variable {P : Params} {X : Cx} {rp : Bool} (hin : (fK P).In X.h₀)
include hin
theorem fn_all (ht : X.tabs = [lawTab]) : ∀ p ∈ fnTab, ∃ fd, FnAt X p.1 p.2 fd := by
  refine List.forall_mem_cons.mpr ⟨(kCdata P).at hin (fun p h => nomatch (show (none : Option (Nat × Nat × Str)) = some p from h)) (bCdata P), ?_⟩
  refine List.forall_mem_cons.mpr ⟨(kCdataN P).at hin (fun p h => nomatch (show (none : Option (Nat × Nat × Str)) = some p from h)) (bCdataN P), ?_⟩
  refine List.forall_mem_cons.mpr ⟨(kAttrib P).at hin (fun p h => nomatch (show (none : Option (Nat × Nat × Str)) = some p from h)) (bAttrib P), ?_⟩
  refine List.forall_mem_cons.mpr ⟨(kAttribN P).at hin (fun p h => nomatch (show (none : Option (Nat × Nat × Str)) = some p from h)) (bAttribN P), ?_⟩
  refine List.forall_mem_cons.mpr ⟨(kHtml P).at hin (fun p h => nomatch (show (none : Option (Nat × Nat × Str)) = some p from h)) (bHtml P), ?_⟩
  refine List.forall_mem_cons.mpr ⟨(kHeader P).at hin (fun p h => nomatch (show (none : Option (Nat × Nat × Str)) = some p from h)) (bHeader P hin), ?_⟩
  refine List.forall_mem_cons.mpr ⟨(kWorld P).at hin (fun p h => nomatch (show (none : Option (Nat × Nat × Str)) = some p from h)) (bWorld P), ?_⟩
  refine List.forall_mem_cons.mpr ⟨(kFilled P).at hin (fun p h => nomatch (show (none : Option (Nat × Nat × Str)) = some p from h)) (bFilled P), ?_⟩
  refine List.forall_mem_cons.mpr ⟨(kKind P).at hin (fun p h => nomatch (show (none : Option (Nat × Nat × Str)) = some p from h)) (bKind P), ?_⟩
  refine List.forall_mem_cons.mpr ⟨(kLaw P).at hin (fun p h => nomatch (show (none : Option (Nat × Nat × Str)) = some p from h)) (bLaw P), ?_⟩
  refine List.forall_mem_cons.mpr ⟨(kHInit P).at hin (fun p h => nomatch (show (none : Option (Nat × Nat × Str)) = some p from h)) (bHInit P hin), ?_⟩
  refine List.forall_mem_cons.mpr ⟨(kTab P).at hin (fun p h => ?_) (bTab P), ?_⟩
  · have h' : some (29, 8, S "HtmlDiff._tab_newline_replace.<locals>.expand_tabs") = some p := h
    cases h'
    exact ⟨57, 55, by kernel_rfl, by rw [ht]; exact List.mem_singleton.mpr rfl⟩
  refine List.forall_mem_cons.mpr ⟨(kWInit P).at hin (fun p h => nomatch (show (none : Option (Nat × Nat × Str)) = some p from h)) (bWInit P), ?_⟩
  refine List.forall_mem_cons.mpr ⟨(kLevel P).at hin (fun p h => nomatch (show (none : Option (Nat × Nat × Str)) = some p from h)) (bLevel P), ?_⟩
  exact List.forall_mem_cons.mpr ⟨(kEqual P).at hin (fun p h => nomatch (show (none : Option (Nat × Nat × Str)) = some p from h)) (bEqual P), fun p hp => nomatch hp⟩
omit hin
noncomputable abbrev cHtml : ClsI := ⟨44, [(nS "_tab_newline_replace", 58)], [], [nS "_tabsize"], [nS "_tabsize", nS "_wrapcolumn", nS "_linejunk", nS "_charjunk"]⟩
noncomputable abbrev cWs : ClsI := ⟨161, [(nS "indent_level", 175), (nS "equal", 182)], [(nS "S", dS " "), (nS "T", dS "\t")], [nS "raw", nS "norm", nS "nt"], [nS "raw", nS "n", nS "nt", nS "norm", nS "is_simple"]⟩
theorem cls_two {c : Addr} {k : ClsI} (h : (lawB rp).cls c = some k) : (c = 111 ∧ k = cHtml) ∨ (c = 206 ∧ k = cWs) := by
  have := look_mem (show look c clsTab = some k from h)
  rcases List.mem_cons.mp this with e | e
  · cases e; exact .inl ⟨rfl, rfl⟩
  · cases List.mem_singleton.mp e; exact .inr ⟨rfl, rfl⟩
theorem mem_name {x : Str} {l : List Nat} (h : l.contains (nm x) = true) : nm x ∈ l := by simpa using h
theorem catt_S : findCls (fK P) (.ref 206) (.type "type") (S "S") = some (.val (.str (S " ") 1922)) := by kernel_rfl
theorem catt_T : findCls (fK P) (.ref 206) (.type "type") (S "T") = some (.val (.str (S "\t") 1923)) := by kernel_rfl
theorem kOk (hin : (fK P).In X.h₀) (hl : X.h₀.NoLimit) (ht : X.tabs = [lawTab]) : KOk (fK P) X (lawB rp) where
  kin := hin
  nolim := hl
  fn := fun a fi h => fn_all hin ht _ (look_mem h)
  meth := fun c k h x a e => by
    rcases cls_two h with ⟨rfl, rfl⟩ | ⟨rfl, rfl⟩
    · have e1 := List.mem_singleton.mp (look_mem e)
      obtain ⟨e2, rfl⟩ := Prod.mk.inj e1
      cases nm_inj (show nm x = nm (S "_tab_newline_replace") from e2)
      exact ⟨by kernel_rfl, by kernel_rfl, by kernel_rfl⟩
    · rcases List.mem_cons.mp (look_mem e) with e1 | e1
      · obtain ⟨e2, rfl⟩ := Prod.mk.inj e1
        cases nm_inj (show nm x = nm (S "indent_level") from e2)
        exact ⟨by kernel_rfl, by kernel_rfl, by kernel_rfl⟩
      · obtain ⟨e2, rfl⟩ := Prod.mk.inj (List.mem_singleton.mp e1)
        cases nm_inj (show nm x = nm (S "equal") from e2)
        exact ⟨by kernel_rfl, by kernel_rfl, by kernel_rfl⟩
  fld := fun c k h x e => by
    have e := mem_name e
    rcases cls_two h with ⟨rfl, rfl⟩ | ⟨rfl, rfl⟩
    · cases nm_inj (show nm x = nm (S "_tabsize") from List.mem_singleton.mp e)
      exact ⟨none, by kernel_rfl, by kernel_rfl, by kernel_rfl, by kernel_rfl⟩
    · rcases List.mem_cons.mp e with e | e
      · cases nm_inj (show nm x = nm (S "raw") from e)
        exact ⟨none, by kernel_rfl, by kernel_rfl, by kernel_rfl, by kernel_rfl⟩
      · rcases List.mem_cons.mp e with e | e
        · cases nm_inj (show nm x = nm (S "norm") from e)
          exact ⟨none, by kernel_rfl, by kernel_rfl, by kernel_rfl, by kernel_rfl⟩
        · cases nm_inj (show nm x = nm (S "nt") from List.mem_singleton.mp e)
          exact ⟨none, by kernel_rfl, by kernel_rfl, by kernel_rfl, by kernel_rfl⟩
  catt := fun c k h x d e => by
    rcases cls_two h with ⟨rfl, rfl⟩ | ⟨rfl, rfl⟩
    · exact absurd (look_mem e) List.not_mem_nil
    · rcases List.mem_cons.mp (look_mem e) with e1 | e1
      · obtain ⟨e2, rfl⟩ := Prod.mk.inj e1
        cases nm_inj (show nm x = nm (S "S") from e2)
        exact ⟨.type "type", .str (S " ") 1922, by kernel_rfl, catt_S, rfl, .str _ _ _ rfl (show ∀ c ∈ (S " ").cps.toList, c < 1114112 by decide +kernel), rfl⟩
      · obtain ⟨e2, rfl⟩ := Prod.mk.inj (List.mem_singleton.mp e1)
        cases nm_inj (show nm x = nm (S "T") from e2)
        exact ⟨.type "type", .str (S "\t") 1923, by kernel_rfl, catt_T, rfl, .str _ _ _ rfl (show ∀ c ∈ (S "\t").cps.toList, c < 1114112 by decide +kernel), rfl⟩
  keep := fun c k h => by rcases cls_two h with ⟨rfl, rfl⟩ | ⟨rfl, rfl⟩ <;> kernel_rfl
  sets := fun c k h => by rcases cls_two h with ⟨rfl, rfl⟩ | ⟨rfl, rfl⟩ <;> exact ⟨by kernel_rfl, by kernel_rfl, by kernel_rfl⟩
  taker := fun c k h x e => by
    have e := mem_name e
    rcases cls_two h with ⟨rfl, rfl⟩ | ⟨rfl, rfl⟩
    · rcases List.mem_cons.mp e with e | e
      · cases nm_inj (show nm x = nm (S "_tabsize") from e); kernel_rfl
      · rcases List.mem_cons.mp e with e | e
        · cases nm_inj (show nm x = nm (S "_wrapcolumn") from e); kernel_rfl
        · rcases List.mem_cons.mp e with e | e
          · cases nm_inj (show nm x = nm (S "_linejunk") from e); kernel_rfl
          · cases nm_inj (show nm x = nm (S "_charjunk") from List.mem_singleton.mp e); kernel_rfl
    · rcases List.mem_cons.mp e with e | e
      · cases nm_inj (show nm x = nm (S "raw") from e); kernel_rfl
      · rcases List.mem_cons.mp e with e | e
        · cases nm_inj (show nm x = nm (S "n") from e); kernel_rfl
        · rcases List.mem_cons.mp e with e | e
          · cases nm_inj (show nm x = nm (S "nt") from e); kernel_rfl
          · rcases List.mem_cons.mp e with e | e
            · cases nm_inj (show nm x = nm (S "norm") from e); kernel_rfl
            · cases nm_inj (show nm x = nm (S "is_simple") from List.mem_singleton.mp e); kernel_rfl
  make := fun c k h => by rcases cls_two h with ⟨rfl, rfl⟩ | ⟨rfl, rfl⟩ <;> exact ⟨by kernel_rfl, by kernel_rfl, by kernel_rfl⟩
end
end
section
/- a token is taken for sure -/
noncomputable def Bump {α : Type} (t : Sem α) : Prop := ∀ (M : Model) (Γ : PySem.Ctx) (Q : α → PySem.Pos → Shared → Prop) (E : Value → PySem.Pos → Shared → Prop) (p : PySem.Pos) (s : Shared), Sem.wp M Γ t Q E p s → Sem.wp M Γ t (fun a p' s' => 0 < s'.toks ∧ Q a p' s') E p s
theorem Bump.left {α β : Type} {x : Sem α} {f : α → Sem β} (h : Bump x) : Bump (x >>= f) := fun M Γ Q E p s hw => by
  rw [Sem.wp_bind'] at hw ⊢
  refine Sem.wp_mono M Γ x (fun a p' s' ⟨h0, hq⟩ => ?_) (fun _ _ _ e => e) p s (h M Γ _ E p s hw)
  exact Sem.wp_mono M Γ (f a) (fun _ _ _ x => x) (fun _ _ _ x => x.2) _ _ (Sem.wp_toks M Γ 1 (f a) _ _ p' s' h0 hq)
theorem Bump.right {α β : Type} {x : Sem α} {f : α → Sem β} (h : ∀ a, Bump (f a)) : Bump (x >>= f) := fun M Γ Q E p s hw => by
  rw [Sem.wp_bind'] at hw ⊢
  exact Sem.wp_mono M Γ x (fun a p' s' hq => h a M Γ _ E p' s' hq) (fun _ _ _ e => e) p s hw
theorem Bump.hold {α : Type} {vs : List Value} {x : Sem α} (h : Bump x) : Bump (holding vs x) := fun M Γ Q E p s hw => by
  rw [Sem.wp_holding] at hw ⊢
  exact h M Γ _ E p s hw
theorem bump_int {env : Env} {i : Int} {k : Nat} {p : PySem.Pos} : Bump (eval (.Constant (.int i) k p) env) := fun M Γ Q E p s hw => ⟨Nat.succ_pos _, hw⟩
theorem bump_item {env : Env} {e : Expr} {i : Int} {k : Nat} {p q : PySem.Pos} : Bump (eval (.Subscript e (.Constant (.int i) k p) q) env) := by
  rw [arm_eval_Subscript]
  exact .right fun o => .left (.hold bump_int)
theorem bump_asg {env : Env} {x : Str} {e : Expr} {i : Int} {k : Nat} {p q r t : PySem.Pos} : Bump (exec (.Assign [.Name x r] (.Subscript e (.Constant (.int i) k p) q) t) env) := by
  rw [arm_exec_Assign]
  refine .right fun _ => ?_
  show Bump (eval _ env >>= _)
  exact .left bump_item
theorem Bump.any {α : Type} {M : Model} {A : Around} {t : Sem α} {Q : α → Shared → Prop} {E : Value → Shared → Prop} {s : Shared} (h : Bump t) (hw : wpAny M A t (fun a s' => 0 < s'.toks → Q a s') E s) : wpAny M A t Q E s :=
  fun Γ p hΓ => Sem.wp_mono M Γ t (fun _ _ _ x => x.2 x.1) (fun _ _ _ e => e) p s (h M Γ _ _ p s (hw Γ p hΓ))
section
variable {X : Cx} {C : Ctx} {n : Nat} {ei : EI} {ρ ρ₁ ρ' : VarsN} {σ σ₁ σ' : Store} {f : Flo} {st : Stmt} {rest : List Stmt}
theorem body_of (W : Good X C) {sts : List Stmt} (h : ExL C n ei sts ρ σ f ρ' σ') : BodyS X C n ei sts ρ σ f ρ' σ' := h.run X W
theorem body_cons (W : Good X C) (h : ExS C n ei st ρ σ .next ρ₁ σ₁) (hr : BodyS X C n ei rest ρ₁ σ₁ f ρ' σ') : BodyS X C (n + 1) ei (st :: rest) ρ σ f ρ' σ' := by
  intro A env g am s ht R S F Q P
  rw [execs_cons]
  refine wpAny_bind (h.run X W A env g am s ht (R.less (Nat.le_succ _)) S F _ fun fl g₁ am₁ s₁ x₁ S₁ F₁ k₁ ht₁ => ?_)
  cases fl <;> first | (exact k₁.elim) | skip
  exact hr A env g₁ am₁ s₁ ht₁ (R.less (Nat.le_succ _)) S₁ F₁ _ (P.trans x₁)
/- from here on text may be replaced -/
theorem body_bump {C₁ : Ctx} (hc : C.rep = false) (W : Good X C) (hb : ∀ env, Bump (exec st env)) (h : ExS C n ei st ρ σ .next ρ₁ σ₁) (hr : BodyS X C₁ n ei rest ρ₁ σ₁ f ρ' σ') : BodyS X C (n + 1) ei (st :: rest) ρ σ f ρ' σ' := by
  intro A env g am s ht R S F Q P
  have T : ∀ n, TK C n := fun n e => by rw [hc] at e; cases e
  rw [execs_cons]
  refine wpAny_bind ((hb env).any (h.run X W A env g am s ht (R.less (Nat.le_succ _)) S F _ fun fl g₁ am₁ s₁ x₁ S₁ F₁ k₁ ht₁ hp => ?_))
  cases fl <;> first | (exact k₁.elim) | skip
  exact hr A env g₁ am₁ s₁ (fun _ => hp) (R.less (Nat.le_succ _)) S₁ F₁ _ fun a b c e x y z w _ => (P.trans x₁) a b c e x y z w (T _)
end
end
section
noncomputable abbrev k_text : Nat := 186070713419675363980626894819329161914404559424855528710782631274465797239101783663058423224390134000215947146601553085676537611240341504
noncomputable abbrev k_TypeError : Nat := 2379227053564452900476899997039840953487824159604953543326802842255193064204651545988171819533164427393662753992743629345346456684197266709017333389314196921525011042251292859611622218476516610590474014439916245391548991243298672300123255931944258761373504501121459578921103525760991232
noncomputable abbrev k_AttributeError : Nat := 267598435290787038785000518495795126632047969644144350988617617765264530235142029549311635819221197586131637979836360042308444099536123510782236142268330847165284107762024222146582687482692329832015968084023398443104158553756730123427159770761537607142459683145129164334433861627366182666837463957210571698790147390122700500377268616273813240049099414135812307185729791978784104111456610322968865426857830122771322436326089409581977379246314618880
noncomputable abbrev k__raise_serialization_error : Nat := 3062300818768444426026060100404531957616559323754034306044205639625218147577246876431644818906728993475606639456504977956696889313227845817239173592783056008296675540705091226698456374702371881478513532338229862810720564837906071762840099693389142050639895321435389051014037944295487794800846830877169341860595734288489691565155025120717230516576111335539052503329021912931290916171301970631365820155323926582300793975628359379340680841559614220616571112816318005949774452691237368072027655812983929861432206845363362309233841487871481588209923600473381308004473425102376653820790570247815793902282682391245314815600847064730312575826929929124351762506199177387883391424395293389777662631370127850231314572632781019507926202504483994472143821031671531700013198052468162961685404104529910561902625353132131825683674120736884010199057236869775360
noncomputable abbrev k_header_bytes : Nat := 325247881083262471310163760230127676996755904769296971376295458980051370971732325321745413708164765486495694513173494899153940522403829897972795732815515814649934991362489800508003694783424542296225604429108224489052571926427089957920142997853664508456453399041958575371327329605038620086231581707332109015983253594195618149807621864647337609262923293412078360083110462399395164848128
noncomputable abbrev k_charset : Nat := 23689546086131422960647270026588479074108343536483038618715995582612462481047878454808476916924757885738794839982991709897253426784941405832443760630481866098668504783269505474628545955121389567168664447744871707456690492276736
noncomputable abbrev k_encoded : Nat := 1412006979354108748474554421102870870227632790303064295984975036611480232703368429889250526179887065130236120224223730287687951674973359502667624258838674869762260038190876385095659214535177632696512595096111120201547776
noncomputable abbrev k__QUOPRI_HEADER_MAP : Nat := 14854697210674840878452708746277562480560572429935330578706116580824505158041942392580699813250066900617775289081837897532848947824297989851788125657470044379401499104037078606683010940327702264334301150438996009000779840500523984302907424974719210070385734385857390671013706486378776164812621200445521112382759594977330585041228165064243605628068951332755589938248769040064177791502360832962953150651329815697927180859575036280832
noncomputable abbrev k_script : Nat := 306180206916083902309240650087602477125394576658759860976285044661698369738672753739516803987132405806587480557617512730685992197447418003945789906845137575951154397880538226709669985333868131487055872
noncomputable abbrev k_cells : Nat := 112472844863579909570263462692149547825585052039977046481041440166413115010199753982576293135942935357181876009956753097872285224427358776887492865822932724613120
noncomputable abbrev k_left : Nat := 2772669694120814859578414184143083720123835793507926593881586660065892707696575909993479140497959814232019212915018231902734647296
noncomputable abbrev k_right : Nat := 230344386280611654799899571593522272560463339517465561403965777389302111641173451209561491061057716712216914496521774961303061878583938998140997426062351751553482752
noncomputable abbrev k_place : Nat := 6864797660130609714981900799082747059893517729273958931945315642268629716643408097570507689540227172783839429687492704938365462514448988580276378244246142976
noncomputable abbrev k_number : Nat := 74751027079122046462216955587793574866616173680038959026824893288009369608273281923305565756496916708933716265349662779186561677530919121579574835318200769192512008982968097179324826509542338592768
noncomputable abbrev k_one : Nat := 34175792574734561318320347298719573820310060017655111072924420635420073327863297757752917458157568
noncomputable abbrev k_two : Nat := 573374653997517877902705223825521845627082795941090879890491006279138041316614493300931577365860269948928
noncomputable abbrev k_more : Nat := 709803441694928604052074031140769412126114004059368883386178300408095650975211155068498074167347423468122660434876644357996852281344
noncomputable abbrev k_enumerate : Nat := 159667224762777584932509817042978574093261223704229972266810684653256895076716439703363717659750435195429905411822983513837478729138040958700805283402873906973312597472515216332930658582111126802375694530547736834826402294246800400290085214286244546123744123843584936268647432127777867271503872
noncomputable abbrev k_range : Nat := 1757388200993436087035366604565183247332740538694133486578000548102324896951502585575445227313332692577529022596489875911329359124154806045286575314139483209728
noncomputable abbrev k_line : Nat := 346583711765101857447301773017953814514704103544613712590907373270823022937557912443114613015385690891676314144640242235002060800
noncomputable abbrev k_sizes : Nat := 15095849699286165408966218323953075745377365955567484350835777173019466153853780447542941047572279973779011849761684433679578219461888726032338225029807907254702287355904
noncomputable abbrev k_out : Nat := 143343663499379469475676305956380434662503605171838043662943785246310863908067351293088293229946547994624
noncomputable abbrev k_run : Nat := 17917957937422433684459538244547561126719510768440983713955775084735808189737693872744089230682397605888
noncomputable abbrev k_tabs : Nat := 1386334847060407429789207092071541868405617255820018306296346869783264622153581189105816475184333034989247544234149848723723649024
noncomputable abbrev k_size : Nat := 181709681073901722637330951972036969504285185039198434146861644903613138349638629054080495880942189555502092488024077123080104706048000
noncomputable abbrev k_len : Nat := 4271974071841820164790043412339105874709966365919347694863265773319462987955573460408943543058432
noncomputable abbrev k_runs : Nat := 1488565707357402911845015158554633304274215444110061071916030172469510388775749715413022985817562867004249833987327005151968094817800421376
noncomputable abbrev k_sorted : Nat := 19136262932255243894327540630482702630014610983571147020230007520942542630767769122803207095393482695138418250162167256672256390229357044242157773829524500892784224551969521890268141945054019341778944
noncomputable abbrev k_wide : Nat := 693167423530203714894603546035907629029408207089227425181814800408883234342116820871300386228861477858979066753149228268168151040
noncomputable abbrev k_fronts : Nat := 39191066485258739495582803211213117307923157363667596720061647028464177134361321296684764225792969770691846961093554570700022468921811899629409010885021804505662879116359912371773619872735303379638550528
noncomputable abbrev k_which : Nat := 112472844863579909570263462692152319141436548772407494241703034586250100736874496947053414749826211349892409924468165793343937496206089119692574530991268844011520
noncomputable abbrev k_period : Nat := 1167984798111281975972139931059735267945227721165231141371460329213288130002201602715252450960462302646921569526749154694362252222821150536214159677681376746193187528917083046580028249419487903744
noncomputable abbrev k_plain : Nat := 224945689727159819140526925384299179589412797190560193480481033103025604940193454051417519235769583115046660548629424517220002320074141892403733778006993172168704
noncomputable abbrev k_lines : Nat := 28793048285076456849987446449190284243349773322234123899146608682669575031001625914655572981972274756582516765612446171903145918140854409685968641797779283674923008
noncomputable abbrev k_alike : Nat := 13729595320261219429963801598165494119787035458547917863890629156893922871442788809474862742513268867777143669888771259259746164926732571080360474713587187712
noncomputable abbrev k_ruler : Nat := 943490606205385338060388645247067245442940439341825436760420571566027228633685342921335949652120311738334485086409151672968821441545678894625886959135058704921404637184
noncomputable abbrev k_pair : Nat := 5545339388241629719156828368286167540372063895808513300029815796827895282837605099412901903080942187885356553906103630452756578304
noncomputable abbrev k_turn : Nat := 2977131414714805823690030317109267719461823008411010580323431506887396529380359640339790151541444366100214213927295538613311421371811627008
noncomputable abbrev k_marks : Nat := 230344386280611654799899571593522273946798186577872991193172869460818331514960937976481038385823470709361357317816470236631828640432492970601728337521723861664530432
noncomputable abbrev k_levels : Nat := 299004108316488185848867822351174295867333659085598729858868767001837929793333817473303965311467997406395402203062093152147298353704659989295098938124371444274589609182031993479620167018470338199552
noncomputable abbrev k_hand : Nat := 42307582002575910332922579714114033947736031819732709141296972529885056445240798584745169100087822141545962469453667915268096
noncomputable abbrev k_names : Nat := 224945689727159819140526925384299095651170104079954092962082880333356054929700202458246663921658396741488981896497990987364475306439777111946863666572264248180736
noncomputable abbrev k_table : Nat := 54918381281044877719855206392661976479148141834191671455562516610888292767639045219188343890629366272552754593807676036453083445165228023671858271840613957632
noncomputable abbrev k_written : Nat := 813966605576154086191388158047028853219054138211994597523297004679369491673145386295190728401460441957133019725606863371242602788512917673269370537077901550568017325359411275611736764457908524894462453485985355110583692495487898713325568
noncomputable abbrev k_words : Nat := 30191699398572330817932436647906151490754731911134968701671554346110604139457250629823720248122750167902049542163371886244667267521377192036834956192056424170671084404736
noncomputable abbrev k_word : Nat := 363419362147803445274661903944145610840320059813134706446701480027570302541917261127046502590481978850976343482180594855821475921788928
noncomputable abbrev k_fills : Nat := 14396524142538228424993723224595142121674886661117061949573304341300878721305568509769765521400695725719280129274464396527652508726625864405585393061245586558156800
noncomputable abbrev k_lacks : Nat := 3514776401986872174070733209129673369549532876249282702532545005200475029219985015510269750760245932756688477108936586732730549145316947360478654517639058030592
noncomputable abbrev k_page : Nat := 169230328010303641331690318856422760993507863058893414351028992487543107135863569385748042960232136945469366049110448186327040
noncomputable abbrev k_there : Nat := 3599131035634557106248430806149495290537452623245585380511745087534637688715853785957636365305109815684889998675142505082991482975877084087068115487312124382806016
noncomputable abbrev k_back : Nat := 41315998049390537434494706752048317304023813590647967983146075391219055435230955456462621182899865259500430421906824364032
noncomputable abbrev k_free : Nat := 5415370496329716522614090203405528351792251617884589259232927917569816931183414267220978900066928431726949243199831327706710016
noncomputable abbrev k__law_world : Nat := 404804506614621236704990693437994281323876077113216746530845663386152386683097947522935866548716560695573932748182292511697942214489518886561511301685901539709556209083583093599710141903513139607656960609820377793085587653844498038901348677854616309446373246992275294829308564487592193992906385032049757656090499980395020288
noncomputable abbrev k__law_kind : Nat := 148701690847778306279806249815048708488351056886486095575073352023415175507530782826489998276243269494149644338738894411510719791898705627176384653269631185375301252420342594857656324478583444635248183390142430400163610396176593353879214444300804345072759423895517867024843089557585920
noncomputable abbrev k_HtmlDiff : Nat := 3255866422304616344765552632188435211978736264162262345767391549161822165067626926274532400468569352763950350827885280238535356264831645959586547635138200619064714879640003506493635710567259660817483008753242498363383833911832806118391808
noncomputable abbrev k__escape_cdata : Nat := 1499941105714815242941825151443428255281117526513354754565620443426676376766072523454190554361932567803212664762565051076289672126041851305458585964921099835440362451139525310284980106141580785155506364074745512038157199703618153653336791863361316584256902050457067767904991173136251315951209021394028487652326947035498618244744279532947616500844059467412040936675127789195245174059704295009806607974400
noncomputable abbrev k__escape_cdata_c14n : Nat := 3966180083066495518662331305649575773620291820712596716801966358922529025449234748871812336285417263412654444203629805115929260676012887491178243443726195816107408588766655779356367712578821589335141783755726219125174047063061216103156707965362143432629460286214856199597046740961692803350107325658945184924885117178983041454365721097904363916311466487517581941289054801797464471449207771060290481499774509548325815157455675526021062646328963706063767817992296025729992256845492286935516287385815191742877555841737427127369728
noncomputable abbrev k__escape_attrib : Nat := 522653193927318435126954137687924445464157046684977601594471163677347787488740021356277365794405114222149917560830437298675075979949820110115697829375177595692647084534573806356543858006133629020899728972511656079805418415108109890453449035901951757464813139120781846208085214721139295629489762873987467718803266336960057245088169301931928604210986391460626307708895268594652034754612788413054208305426332701867378768843221400537782886441418752
noncomputable abbrev k__escape_attrib_c14n : Nat := 1382012053811764656063603814922462429563848737169695357986195190667476449835852992738890604749701457393783932562654254063680572747700306038717321425571221734372375282682974741678819615105045439817402518657131706807474707975209849266264758198987662631353446655011880443160904883531744535522202275062291661131362329400877964455181670726481840036738265362249574316151302369311214922381839371501999436618472830456829449193838273023284653937564716869449751142391579149983981231346783627093144098860183069130185079504940326344653190853669305852492663162152002772748818448384
noncomputable abbrev k__escape_attrib_html : Nat := 235137166392167326562884239601189632613938499818998776195179691536047613474534723063174807118253067072150754141256091245070286265284212652395217346181986228267748857516346975911542153818560549075305593312219007385317992537257101671096194828463279367052018176134828638238149233716889687982766258935244908276930433707332437971804238470954012952084618162716767828294550312891188554962172417373146646520162160900953718234274973475091834871933483789935058992702613038118718319606076371777062453628745022335469083701236827329163219830225426983007404722234828168494088511346594531955387819500318285335738756104192
noncomputable abbrev k_zip : Nat := 4479489484355608421114884561136888987602437668879535784472219594246991432537772314902529912442099597312
noncomputable abbrev k_header_encode : Nat := 1535939692251970808772428955073526872997883952207312982148996102362471327878631406461903479058427306436060650447625301028564416377436645641736779987292671372449178330192606428012344083911561417107780509720030575986523829245020202447979187698622450028469664178334125251332117645974444826203886697390358864215281859430173989501917306489922285387644121524155953405783931931912328829022548104589473860355620864
noncomputable abbrev k_bytes : Nat := 117936325775673167257548580655883404260760671527870971490904509164214579326982659746429226934158437296807198670042935328613913775563814656948599127234353344900914741248
noncomputable abbrev k__law_filled : Nat := 3823270468302941842002024607451865939872253469177260471773002079505125370875297081169627779881683891320599644761099570500873915768103285356583264976340540468176787313055507738402249210765927871500024745347876172376167474863725372756346081967182437507591779578372207137885939811937082749753369952306171179333302526210108765386765652136747302125568
noncomputable abbrev k_self : Nat := 1386334847060407429789207092071678554888517475933181568974434641853269810329358010693099869082352814123804035898029721967306735616
noncomputable abbrev k_tabsize : Nat := 6064523798049644277925701126807846622905476957105491608551326720708446817269827458634005799793004643016332039048841438424652326516404230471314150517215949318327349547593429065551748160309151946975021434635298928059797829543002112
noncomputable abbrev k_wrapcolumn : Nat := 434655529295803471768752457074965536576337903872427154110940209938312068057874763853233948953942005758432762669325470548223445699454191740808446957049478805475400588898634490611208352953235628365684658673535346467624077787731164890281881529209082209697020861763874736274490466145048525937150981475449027122932749240033079989580595200
noncomputable abbrev k_linejunk : Nat := 15744403932561434696684473303452677561404063652285751846560144516360173841267862423169979527046275823424577294116421326553804217198043585706943578265079007338752427848070892518354595539182501637166331193245905615632018659607838105200374894844791294820559550939136
noncomputable abbrev k_charjunk : Nat := 15375394465392026070980930960403005431058655910435304537656391129257982266863146897626933131881128733813063763785567701712699430857464439166937088149491218104250417753640284246332557575733557220000379237213894252694907906430773717279704852857960007829546860544
noncomputable abbrev k_fromlines : Nat := 81749619078542123485445026325988908650148049412526009442723916516211579178345310197166028262081800156817248629627696567885397700873547160607124299606426393397266176887482801359553674319720802243586788583637132520805910364549294294874772620926976182426762856412546786788319211967873354635709251584
noncomputable abbrev k_tolines : Nat := 24840289476811342962383671815400041183114284590355331627092654959650075674072490215964452442024246224388988077648700584709994503142848630337653069434596769903106930840331852407396013745984594378375577463527927310706050783630787084288
noncomputable abbrev k_expand_tabs : Nat := 32071917236569804359352919638254932483359858639789303978324815364366511975046104699039447754636452066331457714276805673536304848765325055482308475430782360747238991113594812289397834074670410288017700415205092660795457322502857948702155825119795253222694922278687911122326212381610213593335245946083849115381335961365230204378766654461959592242747277312
noncomputable abbrev k_ws : Nat := 55213970774324510299478046898216204284222869669821028893203723930566656
noncomputable abbrev k_S : Nat := 9671406556917033397649408
noncomputable abbrev k_T : Nat := 19342813113834066795298816
noncomputable abbrev k_count : Nat := 471745303102692669030194322623533614203828919331769469755321912093221826243292563201564199872891995302741733665636207623707637753047846728942169765713338175389272375296
noncomputable abbrev k_b : Nat := 316912650057057350374175801344
noncomputable abbrev k_n : Nat := 1298074214633706907132624082305024
noncomputable abbrev k_nt : Nat := 215679573337205118357336120696157046687171370014031486981452964298752
noncomputable abbrev k_ch : Nat := 25711008708143844408671393477459235465655362015225433716424704
noncomputable abbrev k_Whitespace : Nat := 754007150632555106105265567894865661322129309774843028974391990481166369155322944416616267155502427621291351535260976234674307812930513802872810874766294569537960146995296670581649760502779778354206443889724582290624252083337843510155532356975817978523124420935745050587493981955285376367244654320996683934450319360
noncomputable abbrev k_tuple : Nat := 943490606205385338060388645247253293442649980468090733988870904508887899785132105396316354698165830749680134434352756340147423661732005755917788951949755145733147721728
noncomputable abbrev k_trailing : Nat := 246006311446272417135694895366459457879059837649985983292115020542394794658360836702183820955364533113500516564405113930480343727347756826154136871319667290106173935816582552114591970460313823954284959252665139221097542826390456552446535476810221857964910706688
noncomputable abbrev k_il : Nat := 26328072917139296674479506920917648644542981153478125708080316416
noncomputable abbrev k_i : Nat := 40564819207303340847894502572032
noncomputable abbrev k_other : Nat := 3685510180489786476798393145496356427511486091179005612345392857679793861850333370786468553328595372127069089628382668727760764050500427758089561849841109079412441088
noncomputable abbrev k_d0 : Nat := 39614081257132239165516152832
noncomputable abbrev k_front : Nat := 471745303102692669030194322623533614203828919331769469755321912093221826243292563201564199872891995302949067239858679585019163870050072897006771585581972143409658331136
noncomputable abbrev k_mark : Nat := 2772669694120814859578414184143092247384580759016146155257304258823285406693380200406323565418391184826524492360261427472281632768
noncomputable abbrev k_sign : Nat := 177450860423732151013018507785157425371517122293174897451605290588373424319498585261780377181873878681843773813466029135949713113088
noncomputable abbrev k_lack : Nat := 42307582002575910332922579714097476919320385116823519214741581200608312765676498387417724091289462025728440752032588148768768
noncomputable abbrev k_fill : Nat := 173291855882550928723650886508942998463156807324748835325868244982839533215247197532133386057349044105400758144482477062221725696
noncomputable abbrev k_here : Nat := 21661481985318866090456360813622113407169006471538357036931710827883778411108738863174379704814089582308454760008534017798307840
noncomputable abbrev k_yonder : Nat := 19136262932255243894327540630475155165853740462089973510867172681730398619717960172366224833663103169739406829327406914242292504025941007285436001639697615364558458281656652165746239276152817895604224
noncomputable abbrev k_k : Nat := 162259276829213363391578010288128
noncomputable abbrev k__tabsize : Nat := 480481077043500814718154092512687197308297139679010815427491914924543459321405280410815378779051392827105826247342718543835125290589878587393397645315426616196480108247027407385808681047981096993693847720641077655878675993473321728301899150884151938043084800
noncomputable abbrev k__wrapcolumn : Nat := 34436958912771501236134755392105284231793922238806064192601516203776334884612907947048518340650240645736491905591190681847331015767108726999712371206886532095919444129781441872073892929994182222241680734782424819667690481666929994439978040358381728669344316115052502135979986902379297521945392703994299352159535488762318888239828129105404352183254763654891962368
noncomputable abbrev k__linejunk : Nat := 1247400193459199882285232945648027947640773385778678708671832127264251020669397652396449961894047163585875353379638293496969927450132848726708900968792313220337810861244107149345950701627528175456980058308803679539519409673284987183476276353403086560414026081057776916105091659349796914724864
noncomputable abbrev k__charjunk : Nat := 1218164251424999885044172798484402292617942759549490926437336061781495137372458644918408165912155433189331399784803020993134694775520360084676661102336243379236143413895896200180687917590224499375539522533536056034269475110084672965360790082930368471641207858250982006803484444909425917952
noncomputable abbrev k_raw : Nat := 8749002899132047697490008908470485467994695952857673914322959155889983204162586465942494146803531776
noncomputable abbrev k_norm : Nat := 363419362147803445274661903944002547144913452569185349821030170645861149249052903654236054609291158163331641823990603626706859750064128
noncomputable abbrev k_is_simple : Nat := 79833612381388792466254908521489287046630611852114986133405342350791784546212271271542074256995169439738948160794821630279220871359757099763459954097519810928141241330266151431299343702504815177866590679627802245825974527962474654153927196805318951064524557318873822479985257052307126529032192
noncomputable def eiCdata : EI := ⟨[(k_text, .local), (k_TypeError, .globalImplicit), (k_AttributeError, .globalImplicit), (k__raise_serialization_error, .globalImplicit)], Str.ofString "_escape_cdata" ++ Str.ofString ".<locals>.", none, [], []⟩
theorem eiCdata_ok : fiCdata.ei = eiCdata := by kernel_rfl
noncomputable def eiAttrib : EI := ⟨[(k_text, .local), (k_TypeError, .globalImplicit), (k_AttributeError, .globalImplicit), (k__raise_serialization_error, .globalImplicit)], Str.ofString "_escape_attrib" ++ Str.ofString ".<locals>.", none, [], []⟩
theorem eiAttrib_ok : fiAttrib.ei = eiAttrib := by kernel_rfl
noncomputable def eiHtml : EI := ⟨[(k_text, .local), (k_TypeError, .globalImplicit), (k_AttributeError, .globalImplicit), (k__raise_serialization_error, .globalImplicit)], Str.ofString "_escape_attrib_html" ++ Str.ofString ".<locals>.", none, [], []⟩
theorem eiHtml_ok : fiHtml.ei = eiHtml := by kernel_rfl
noncomputable def eiCdataN : EI := ⟨[(k_text, .local), (k_TypeError, .globalImplicit), (k_AttributeError, .globalImplicit), (k__raise_serialization_error, .globalImplicit)], Str.ofString "_escape_cdata_c14n" ++ Str.ofString ".<locals>.", none, [], []⟩
theorem eiCdataN_ok : fiCdataN.ei = eiCdataN := by kernel_rfl
noncomputable def eiAttribN : EI := ⟨[(k_text, .local), (k_TypeError, .globalImplicit), (k_AttributeError, .globalImplicit), (k__raise_serialization_error, .globalImplicit)], Str.ofString "_escape_attrib_c14n" ++ Str.ofString ".<locals>.", none, [], []⟩
theorem eiAttribN_ok : fiAttribN.ei = eiAttribN := by kernel_rfl
noncomputable def eiHeader : EI := ⟨[(k_header_bytes, .local), (k_charset, .local), (k_encoded, .local), (k__QUOPRI_HEADER_MAP, .globalImplicit)], Str.ofString "header_encode" ++ Str.ofString ".<locals>.", none, [], []⟩
theorem eiHeader_ok : fiHeader.ei = eiHeader := by kernel_rfl
noncomputable def eiWorld : EI := ⟨[(k_script, .local), (k_cells, .cell), (k_left, .local), (k_right, .local), (k_place, .local), (k_number, .local), (k_one, .local), (k_two, .local), (k_more, .local), (k_text, .local), (k_enumerate, .globalImplicit), (k_range, .globalImplicit)], Str.ofString "_law_world" ++ Str.ofString ".<locals>.", none, [], [k_cells]⟩
theorem eiWorld_ok : fiWorld.ei = eiWorld := by kernel_rfl
noncomputable def eiFilled : EI := ⟨[(k_line, .local), (k_sizes, .local), (k_out, .local), (k_run, .local), (k_tabs, .local), (k_size, .local), (k_len, .globalImplicit)], Str.ofString "_law_filled" ++ Str.ofString ".<locals>.", none, [], []⟩
theorem eiFilled_ok : fiFilled.ei = eiFilled := by kernel_rfl
noncomputable def eiKind : EI := ⟨[(k_line, .local), (k_runs, .local), (k_sorted, .globalImplicit)], Str.ofString "_law_kind" ++ Str.ofString ".<locals>.", none, [], []⟩
theorem eiKind_ok : fiKind.ei = eiKind := by kernel_rfl
noncomputable def eiLaw : EI := ⟨[(k_script, .local), (k_sizes, .cell), (k_wide, .local), (k_fronts, .local), (k_text, .cell), (k_which, .local), (k_size, .cell), (k_period, .local), (k_plain, .local), (k_lines, .local), (k_alike, .local), (k_ruler, .local), (k_pair, .local), (k_turn, .cell), (k_line, .local), (k_marks, .local), (k_levels, .local), (k_hand, .cell), (k_names, .cell), (k_table, .cell), (k_written, .local), (k_words, .local), (k_word, .local), (k_fills, .local), (k_lacks, .local), (k_page, .local), (k_one, .local), (k_two, .local), (k_there, .local), (k_back, .local), (k_free, .local), (k__law_world, .globalImplicit), (k_range, .globalImplicit), (k__law_kind, .globalImplicit), (k_HtmlDiff, .globalImplicit), (k__escape_cdata, .globalImplicit), (k__escape_cdata_c14n, .globalImplicit), (k__escape_attrib, .globalImplicit), (k__escape_attrib_c14n, .globalImplicit), (k__escape_attrib_html, .globalImplicit), (k_zip, .globalImplicit), (k_enumerate, .globalImplicit), (k_header_encode, .globalImplicit), (k_bytes, .globalImplicit), (k__law_filled, .globalImplicit)], Str.ofString "law" ++ Str.ofString ".<locals>.", none, [], []⟩
theorem eiLaw_ok : fiLaw.ei = eiLaw := by kernel_rfl
noncomputable def eiHInit : EI := ⟨[(k_self, .local), (k_tabsize, .local), (k_wrapcolumn, .local), (k_linejunk, .local), (k_charjunk, .local)], Str.ofString "HtmlDiff.__init__" ++ Str.ofString ".<locals>.", none, [], []⟩
theorem eiHInit_ok : fiHInit.ei = eiHInit := by kernel_rfl
noncomputable def eiTab : EI := ⟨[(k_self, .cell), (k_fromlines, .local), (k_tolines, .local), (k_expand_tabs, .cell)], Str.ofString "HtmlDiff._tab_newline_replace" ++ Str.ofString ".<locals>.", (some (29, 8, Str.ofString "HtmlDiff._tab_newline_replace.<locals>.expand_tabs")), [k_self], []⟩
theorem eiTab_ok : fiTab.ei = eiTab := by kernel_rfl
noncomputable def eiWInit : EI := ⟨[(k_self, .local), (k_ws, .local), (k_S, .local), (k_T, .local), (k_count, .local), (k_b, .local), (k_n, .local), (k_nt, .local), (k_ch, .local), (k_Whitespace, .globalImplicit), (k_len, .globalImplicit), (k_tuple, .globalImplicit)], Str.ofString "Whitespace.__init__" ++ Str.ofString ".<locals>.", none, [], [k_count]⟩
theorem eiWInit_ok : fiWInit.ei = eiWInit := by kernel_rfl
noncomputable def eiLevel : EI := ⟨[(k_self, .local), (k_tabsize, .local), (k_count, .local), (k_trailing, .local), (k_il, .local), (k_i, .local), (k_range, .globalImplicit), (k_len, .globalImplicit)], Str.ofString "Whitespace.indent_level" ++ Str.ofString ".<locals>.", none, [], []⟩
theorem eiLevel_ok : fiLevel.ei = eiLevel := by kernel_rfl
noncomputable def eiEqual : EI := ⟨[(k_self, .local), (k_other, .local)], Str.ofString "Whitespace.equal" ++ Str.ofString ".<locals>.", none, [], []⟩
theorem eiEqual_ok : fiEqual.ei = eiEqual := by kernel_rfl
end
section
/-! _law_filled -/
noncomputable def filledT (sz : List Int) (r : Int) : Int := sz.foldl (fun t s => t * s - r.fmod s) 1
noncomputable def runF9 (sz : List Int) (run : List Nat) : List Nat := run ++ reps [9] (filledT sz run.length).toNat
noncomputable def filledL (sz : List Int) (line : List Nat) : List Nat := ((splD 9 line).dropLast.map (runF9 sz)).flatten ++ (splD 9 line).getLastD []

noncomputable abbrev st1 (l : List Nat) (sz : List Int) (acc run : List Nat) (σ : Store) (b : Int × Option Int) : VarsN × Store :=
  ([(k_line, .str l), (k_sizes, .list (sz.map .int)), (k_out, .str acc), (k_run, .str run), (k_tabs, .int b.1)] ++ (match b.2 with | none => [] | some s => [(k_size, .int s)]), σ)
noncomputable def stepT (r : Int) (b : Int × Option Int) (s : Int) : Int × Option Int := (b.1 * s - r.fmod s, some s)
theorem stepT_fst (r : Int) : ∀ (sz : List Int) (b : Int × Option Int), (sz.foldl (stepT r) b).1 = sz.foldl (fun t s => t * s - r.fmod s) b.1
  | [], _ => rfl
  | s :: sz, b => stepT_fst r sz (stepT r b s)
theorem L1' {C : Ctx} {n : Nat} {ei : EI} {ρ ρ₁ : VarsN} {σ σ₁ : Store} {st : Stmt} (h : ExS C (n + 1) ei st ρ σ .next ρ₁ σ₁) : ExL C (n + 2) ei [st] ρ σ .next ρ₁ σ₁ := L1 h L0

theorem filled_in {n : Nat} {l acc run : List Nat} {sz : List Int} {σ : Store} {o : Option Int} (hsz : ∀ s ∈ sz, 1 ≤ s ∧ s ≤ 64) (hl : run.length ≤ lim) {t : Expr} {b : List Stmt}
    (hs : ∃ it q, (nth (bodyOf (nth (bodyOf (topAt 34)) 1)) 1) = .For t it b [] q) :
    ForM (loopB lawC (n + 8) eiFilled t b) (sz.map .int) (st1 l sz acc run σ (1, o)).1 σ .next (st1 l sz acc run σ (sz.foldl (stepT run.length) (1, o))).1 σ := by
  obtain ⟨it, q, hs⟩ := hs
  conv at hs => lhs; whnf
  cases hs
  refine forFold0 (st1 l sz acc run σ) (stepT run.length) (fun _ _ => True) .int sz (1, o) (fun pre b x post hx _ => ⟨?_, trivial⟩) trivial
  have hx' : x ∈ sz := by rw [hx]; simp
  obtain ⟨h1, h2⟩ := hsz x hx'
  obtain ⟨t, o⟩ := b
  cases o with
  | none =>
    refine' lB (gName rfl) (L1' (sAsg rfl rfl (rBin (rBin (rName rfl) (rName rfl) (bMul ?_)) (rBin (rCall rfl rfl (rEs (rName rfl) rEs0) (rBi (eLenS hl))) (rName rfl) (bMod ?_)) bSub) (gName rfl)))
    · lia
    · lia
  | some s =>
    refine' lB (gName rfl) (L1' (sAsg rfl rfl (rBin (rBin (rName rfl) (rName rfl) (bMul ?_)) (rBin (rCall rfl rfl (rEs (rName rfl) rEs0) (rBi (eLenS hl))) (rName rfl) (bMod ?_)) bSub) (gName rfl)))
    · lia
    · lia
noncomputable abbrev st2 (l : List Nat) (sz : List Int) (σ : Store) (b : List Nat × Option (List Nat × Int × Option Int)) : VarsN × Store :=
  ([(k_line, .str l), (k_sizes, .list (sz.map .int)), (k_out, .str b.1)] ++ (match b.2 with | none => [] | some (run, t, o) => [(k_run, .str run), (k_tabs, .int t)] ++ (match o with | none => [] | some s => [(k_size, .int s)])), σ)
noncomputable def lastO : Option (List Nat × Int × Option Int) → Option Int
  | none => none
  | some (_, _, o) => o
noncomputable def step2 (sz : List Int) (b : List Nat × Option (List Nat × Int × Option Int)) (run : List Nat) : List Nat × Option (List Nat × Int × Option Int) :=
  (b.1 ++ (run ++ reps [9] (sz.foldl (stepT run.length) (1, lastO b.2)).1.toNat), some (run, (sz.foldl (stepT run.length) (1, lastO b.2)).1, (sz.foldl (stepT run.length) (1, lastO b.2)).2))
theorem step2_fst (sz : List Int) (b : List Nat × Option (List Nat × Int × Option Int)) (run : List Nat) : (step2 sz b run).1 = b.1 ++ runF9 sz run := by
  show b.1 ++ (run ++ reps [9] (sz.foldl (stepT run.length) (1, lastO b.2)).1.toNat) = _
  rw [stepT_fst]
  rfl
theorem reps_len : ∀ (l : List Nat) (n : Nat), (reps l n).length = l.length * n
  | l, 0 => rfl
  | l, n + 1 => by
    show (l ++ reps l n).length = _
    rw [List.length_append, reps_len l n, Nat.mul_succ, Nat.add_comm]
theorem spl_len {c : Nat} : ∀ {l run : List Nat}, run ∈ splD c l → run.length ≤ l.length
  | [], run, h => by
    have : run = [] := by simpa [splD] using h
    rw [this]; exact Nat.le_refl _
  | x :: l, run, h => by
    unfold splD at h
    split at h
    · rcases List.mem_cons.mp h with rfl | h
      · exact Nat.zero_le _
      · exact Nat.le_succ_of_le (spl_len h)
    · split at h
      · rename_i y r hy
        rcases List.mem_cons.mp h with rfl | h
        · exact Nat.succ_le_succ (spl_len (by rw [hy]; exact List.mem_cons_self ..))
        · exact Nat.le_succ_of_le (spl_len (by rw [hy]; exact List.mem_cons_of_mem _ h))
      · have : run = [x] := by simpa using h
        rw [this]; simp
theorem spl_ne {c : Nat} : ∀ (l : List Nat), splD c l ≠ []
  | [] => by simp [splD]
  | x :: l => by
    unfold splD
    split
    · simp
    · split <;> simp
theorem spl_lens {c : Nat} : ∀ (l : List Nat), (splD c l).length ≤ l.length + 1
  | [] => by simp [splD]
  | x :: l => by
    have := spl_lens (c := c) l
    unfold splD
    split
    · simp; lia
    · split
      · rename_i y r hy
        rw [hy] at this
        simp at this ⊢; lia
      · simp
theorem fold2 (sz : List Int) : ∀ (runs : List (List Nat)) (b : List Nat × Option (List Nat × Int × Option Int)), (runs.foldl (step2 sz) b).1 = b.1 ++ (runs.map (runF9 sz)).flatten
  | [], b => by simp
  | r :: runs, b => by
    show (runs.foldl (step2 sz) (step2 sz b r)).1 = _
    rw [fold2 sz runs, step2_fst]
    simp
theorem filled_out {n : Nat} {l : List Nat} {sz : List Int} {σ : Store} (hszl : sz.length ≤ 100) (hsz : ∀ s ∈ sz, 1 ≤ s ∧ s ≤ 64) (hl : l.length ≤ 10000) (hT : ∀ run ∈ splD 9 l, 0 ≤ filledT sz run.length ∧ filledT sz run.length ≤ 1000000) (hlen : (filledL sz l).length ≤ lim) {t : Expr} {b : List Stmt}
    (hs : ∃ it q, (nth (bodyOf (topAt 34)) 1) = .For t it b [] q) :
    ForM (loopB lawC (n + 12) eiFilled t b) ((splD 9 l).dropLast.map .str) (st2 l sz σ ([], none)).1 σ .next (st2 l sz σ ((splD 9 l).dropLast.foldl (step2 sz) ([], none))).1 σ := by
  obtain ⟨it, q, hs⟩ := hs
  conv at hs => lhs; whnf
  cases hs
  refine forFold0 (st2 l sz σ) (step2 sz) (fun pre b => b.1 = (pre.map (runF9 sz)).flatten) .str (splD 9 l).dropLast ([], none) (fun pre b x post hx hb => ⟨?_, ?_⟩) rfl
  · have hm : x ∈ splD 9 l := List.dropLast_subset _ (by rw [hx]; simp)
    have hxl : x.length ≤ lim := Nat.le_trans (spl_len hm) (Nat.le_trans hl (by decide))
    have hfit : b.1.length + (x.length + (filledT sz x.length).toNat) ≤ lim := by
      refine Nat.le_trans ?_ hlen
      unfold filledL
      rw [hx, hb]
      simp only [List.map_append, List.map_cons, List.flatten_append, List.flatten_cons, List.length_append, runF9, reps_len, List.length_singleton, Nat.one_mul]
      lia
    obtain ⟨hT0, hT1⟩ := hT x hm
    have hlim : lim = 16777216 := rfl
    obtain ⟨acc, tl⟩ := b
    have hfit' : acc.length + (x ++ reps [9] (sz.foldl (stepT x.length) (1, lastO tl)).1.toNat).length ≤ lim := by
      rw [stepT_fst, List.length_append, reps_len]
      show acc.length + (x.length + 1 * (filledT sz x.length).toNat) ≤ lim
      rw [Nat.one_mul]; exact hfit
    have hfit2 : x.length + (reps [9] (sz.foldl (stepT x.length) (1, lastO tl)).1.toNat).length ≤ lim := by
      have := hfit'
      rw [List.length_append] at this
      lia
    have hm' : -16777216 ≤ (sz.foldl (stepT x.length) (1, lastO tl)).1 ∧ (sz.foldl (stepT x.length) (1, lastO tl)).1 < lim ∧ [9].length * (sz.foldl (stepT x.length) (1, lastO tl)).1.toNat ≤ lim := by
      rw [stepT_fst]
      show -16777216 ≤ filledT sz x.length ∧ filledT sz x.length < lim ∧ 1 * (filledT sz x.length).toNat ≤ lim
      lia
    have hsl : (sz.map D.int).length ≤ lim := by rw [List.length_map]; exact Nat.le_trans hszl (by decide)
    cases tl with
    | none =>
      refine' lB (gName rfl) (L1 (sAsg rfl rfl rInt (gName rfl)) (L1 (sFor (itE rfl (rName rfl) rfl ?_) (filled_in (o := none) hsz hxl ⟨_, _, rfl⟩)) (L1' (sAug rfl (rBin (rName rfl) (rBin (rStr rfl rfl) (rName rfl) (bMulS hm')) (bAddS hfit2)) (gAddS hfit') rfl))))
      exact hsl
    | some tl =>
      obtain ⟨run, t, o⟩ := tl
      cases o with
      | none =>
        refine' lB (gName rfl) (L1 (sAsg rfl rfl rInt (gName rfl)) (L1 (sFor (itE rfl (rName rfl) rfl ?_) (filled_in (o := none) hsz hxl ⟨_, _, rfl⟩)) (L1' (sAug rfl (rBin (rName rfl) (rBin (rStr rfl rfl) (rName rfl) (bMulS hm')) (bAddS hfit2)) (gAddS hfit') rfl))))
        exact hsl
      | some o =>
        refine' lB (gName rfl) (L1 (sAsg rfl rfl rInt (gName rfl)) (L1 (sFor (itE rfl (rName rfl) rfl ?_) (filled_in (o := some o) hsz hxl ⟨_, _, rfl⟩)) (L1' (sAug rfl (rBin (rName rfl) (rBin (rStr rfl rfl) (rName rfl) (bMulS hm')) (bAddS hfit2)) (gAddS hfit') rfl))))
        exact hsl
  · rw [step2_fst, hb]
    simp
theorem eLast {σ : Store} {u : List (List Nat)} (h : u.length ≤ lim) (hu : u ≠ []) : itemD σ (.list (u.map .str)) (.int (-1)) = some (.str (u.getLastD [])) := by
  have hl : 0 < u.length := List.length_pos_iff.mpr hu
  show (if (u.map D.str).length ≤ lim then if (-1 : Int) < 0 then (if 0 ≤ (-1 : Int) + (u.map D.str).length then (u.map D.str)[((-1 : Int) + (u.map D.str).length).toNat]? else none) else if (-1 : Int) < 2 ^ 62 then (u.map D.str)[(-1 : Int).toNat]? else none else none) = _
  rw [List.length_map, if_pos h, if_pos (by decide), if_pos (by lia), List.getElem?_map]
  have e : ((-1 : Int) + (u.length : Int)).toNat = u.length - 1 := by lia
  rw [e, ← List.getLast?_eq_getElem?]
  cases hq : u.getLast? with
  | none => exact absurd (List.getLast?_eq_none_iff.mp hq) hu
  | some x => rw [List.getLastD_eq_getLast?, hq]; rfl
theorem filled_ok {n : Nat} {l : List Nat} {sz : List Int} {σ : Store} (hszl : sz.length ≤ 100) (hsz : ∀ s ∈ sz, 1 ≤ s ∧ s ≤ 64) (hl : l.length ≤ 10000) (hT : ∀ run ∈ splD 9 l, 0 ≤ filledT sz run.length ∧ filledT sz run.length ≤ 1000000) (hlen : (filledL sz l).length ≤ lim) :
    CallD lawC (n + 20) (.old (.ref 264)) [.str l, .list (sz.map .int)] σ (.str (filledL sz l)) σ := by
  have hlim : lim = 16777216 := rfl
  have hs := spl_lens (c := 9) l
  have hu : (splD 9 l).length ≤ lim := by lia
  have hfin : ((splD 9 l).dropLast.foldl (step2 sz) ([], none)).1.length + ((splD 9 l).getLastD []).length ≤ lim := by
    rw [fold2]
    have := hlen
    unfold filledL at this
    rw [List.length_append] at this
    simpa using this
  have e : filledL sz l = ((splD 9 l).dropLast.foldl (step2 sz) ([], none)).1 ++ (splD 9 l).getLastD [] := by rw [fold2]; rfl
  rw [e]
  refine' rDef (by show (true && (D.pures (sz.map .int) && true)) = true; rw [pures_ints]; rfl) rfl (rRunR (ρ := [(k_line, .str l), (k_sizes, .list (sz.map .int))]) eiFilled_ok (by conv => lhs; whnf) rfl rfl rfl (L1 (sAsg rfl rfl (rStr rfl rfl) (gName rfl)) (L1 (sFor (itE rfl (rCut (rMeth rfl (rName rfl) rfl (rEs (rStr (l := [9]) rfl rfl) rEs0) rfl (eSplit ?_)) rO0 (rO (rNeg rInt)) rfl rfl (eCutQ (v := (splD 9 l).dropLast.map .str) ?_ ?_)) rfl ?_) (filled_out hszl hsz hl hT hlen ⟨_, _, rfl⟩))
    (LR (sRet (rBin (rName rfl) (rItem rfl (rMeth rfl (rName rfl) rfl (rEs (rStr (l := [9]) rfl rfl) rEs0) rfl (eSplit ?_)) (rNeg rInt) (eLast hu (spl_ne l))) (bAddS hfin))))))) rfl
  all_goals first | lia | (rw [cut_init, List.map_dropLast]; done) | (rw [List.length_map]; lia) | (simp only [List.length_map, List.length_dropLast]; lia) | trace_state
end
section
/-! _law_kind -/
theorem ins_len (x : Int) : ∀ l, (insD x l).length = l.length + 1
  | [] => rfl
  | y :: l => by
    unfold insD
    split
    · rfl
    · show (insD x l).length + 1 = _; rw [ins_len x l]; rfl
theorem sort_len : ∀ l : List Int, (sortD l).length = l.length
  | [] => rfl
  | x :: l => by show (insD x (sortD l)).length = _; rw [ins_len, sort_len l]; rfl
noncomputable def runsL (l : List Nat) : List Int := (splD 9 l).map fun r => (r.length : Int)
noncomputable def kindL (l : List Nat) : List Int := sortD (runsL l).dropLast ++ (runsL l).drop ((runsL l).length - 1)
theorem runs_len (l : List Nat) : (runsL l).length = (splD 9 l).length := List.length_map ..
theorem kind_ok {n : Nat} {l : List Nat} {σ : Store} (hl : l.length ≤ 62) : CallD lawC (n + 20) (.old (.ref 269)) [.str l] σ (.list ((kindL l).map .int)) σ := by
  have hlim : lim = 16777216 := rfl
  have hs := spl_lens (c := 9) l
  have hr := runs_len l
  have e : (kindL l).map D.int = (sortD (runsL l).dropLast).map .int ++ ((runsL l).drop ((runsL l).length - 1)).map .int := by unfold kindL; rw [List.map_append]
  rw [e]
  refine' rDef rfl rfl (rRunR (ρ := [(k_line, .str l)]) eiKind_ok (by conv => lhs; whnf) rfl rfl rfl
    (L1 (sAsgC rfl rfl (rLCc (σ₂ := []) (es := (runsL l).map .int) rfl (itE rfl (rMeth rfl (rName rfl) rfl (rEs (rStr (l := [9]) rfl rfl) rEs0) rfl (eSplit ?_)) rfl ?_) ?_ ?_) (gName rfl))
    (LR (sRet (rBin (rCall rfl rfl (rEs (rCut (rName rfl) rO0 (rO (rNeg rInt)) rfl rfl (eCutQ (v := (runsL l).dropLast.map .int) ?_ ?_)) rEs0) (rBi (eSorted ?_))) (rCut (rName rfl) (rO (rNeg rInt)) rO0 rfl rfl (eCutQ ?_ ?_)) (bAddL ?_)))))) ?_
  · omega
  · rw [List.length_map]; omega
  · show CompM _ _ _ (((splD 9 l).map fun r => (r.length : Int)).map D.int) _
    rw [List.map_map]
    exact cMap fun x hx => cB (gName rfl) (rCall rfl rfl (rEs (rName rfl) rEs0) (rBi (eLenS (Nat.le_trans (spl_len hx) (by omega)))))
  · rw [List.length_map]; omega
  · rw [cut_init, List.map_dropLast]
  · rw [List.length_map]; omega
  · rw [List.length_dropLast]; omega
  · rw [cut_last, List.length_map, List.map_drop]
  · rw [List.length_map]; omega
  · simp only [List.length_map, List.length_drop, sort_len, List.length_dropLast]; omega
  · rw [← List.map_append]; exact pures_ints _
end
section
/-! HtmlDiff -/
noncomputable def hdInst (s : Int) : D := .inst 111 [Str.ofString "_tabsize", Str.ofString "_wrapcolumn", Str.ofString "_linejunk", Str.ofString "_charjunk"] [.int s, .none, .none, .old (.ref 29)]
theorem hd_ok {n : Nat} {s : Int} {σ : Store} : CallD lawC (n + 20) (.old (.ref 111)) [.int s] σ (hdInst s) σ := by
  refine' rCls rfl rfl rfl rfl (rRunN (ρ := [(k_self, .loc 0), (k_tabsize, .int s), (k_wrapcolumn, .none), (k_linejunk, .none), (k_charjunk, .old (.ref 29))]) eiHInit_ok (by conv => lhs; whnf) rfl rfl rfl
    (L1 (sAsg rfl rfl (rName rfl) (gAttr (rName rfl) rfl)) (L1 (sAsg rfl rfl (rName rfl) (gAttr (rName rfl) rfl)) (L1 (sAsg rfl rfl (rName rfl) (gAttr (rName rfl) rfl)) (L1 (sAsg rfl rfl (rName rfl) (gAttr (rName rfl) rfl)) L0))))) rfl
theorem hd0_ok {n : Nat} {σ : Store} : CallD lawC (n + 20) (.old (.ref 111)) [] σ (hdInst 8) σ := by
  refine' rCls rfl rfl rfl rfl (rRunN (ρ := [(k_self, .loc 0), (k_tabsize, .int 8), (k_wrapcolumn, .none), (k_linejunk, .none), (k_charjunk, .old (.ref 29))]) eiHInit_ok (by conv => lhs; whnf) rfl rfl rfl
    (L1 (sAsg rfl rfl (rName rfl) (gAttr (rName rfl) rfl)) (L1 (sAsg rfl rfl (rName rfl) (gAttr (rName rfl) rfl)) (L1 (sAsg rfl rfl (rName rfl) (gAttr (rName rfl) rfl)) (L1 (sAsg rfl rfl (rName rfl) (gAttr (rName rfl) rfl)) L0))))) rfl

/-! expand_tabs -/
theorem eRepl {y z : Str} {c : Nat} {l zl : List Nat} {k k' : Nat} {p p' : Pos} (hy : y.cps.toList = [c]) (hz : z.cps.toList = zl) (h : (l.length + 1) * (zl.length + 1) ≤ lim) (h2 : okB zl = true) (h3 : (y == z) = false) :
    replD (nm (Str.ofString "replace")) (.str l) [.Constant (.str y) k p, .Constant (.str z) k' p'] = some (.str (repl c zl l)) := by
  subst hz
  show (match y.cps.toList with | [c] => if (l.length + 1) * (z.cps.toList.length + 1) ≤ lim ∧ okB z.cps.toList ∧ (y == z) = false then some (D.str (repl c z.cps.toList l)) else none | _ => none) = _
  rw [hy]
  exact if_pos ⟨h, h2, h3⟩
theorem repl1_len (a b : Nat) (l : List Nat) : (repl a [b] l).length = l.length := by
  unfold repl
  induction l with
  | nil => rfl
  | cons x l ih =>
    rw [List.flatMap_cons, List.length_append, ih]
    split <;> simp <;> lia
theorem exp_len {s : Nat} (hs : 1 ≤ s) : ∀ (l : List Nat) (col : Nat), (expD s l col).length ≤ l.length * s
  | [], _ => by simp [expD]
  | c :: l, col => by
    unfold expD
    split
    · have := exp_len hs l (col + (s - col % s))
      rw [List.length_append, List.length_replicate, List.length_cons, Nat.succ_mul]
      have : s - col % s ≤ s := Nat.sub_le _ _
      lia
    · have := exp_len hs l (if c = 10 ∨ c = 13 then 0 else col + 1)
      rw [List.length_cons, List.length_cons, Nat.succ_mul]
      lia
noncomputable def expL (s : Nat) (l : List Nat) : List Nat := ((repl 0 [32] (repl 32 [9] (expD s (repl 32 [0] l) 0))).reverse.dropWhile (· == 10)).reverse
theorem eStrip {l : List Nat} (h : l.length ≤ lim) : MethD (Str.ofString "rstrip") (.str l) [.str [10]] (.str (l.reverse.dropWhile (· == 10)).reverse) := eRstrip h
noncomputable def stExp : Stmt := nth (bodyOf (nth (bodyOf (topAt 7)) 7)) 0
noncomputable def clB : FnBody := ⟨Str.ofString "expand_tabs", eiTab.qual ++ Str.ofString "expand_tabs", argOf stExp, bodyOf stExp, scopeOf stExp, posOf stExp⟩
noncomputable def eiExp : EI := ⟨[(k_line, .local), (k_self, .free)], clB.qual ++ Str.ofString ".<locals>.", none, [], []⟩
noncomputable def fiExp : FnI := { params := [k_line], dflts := [], ar := [1], body := bodyOf stExp, ei := eiExp }
theorem clos_exp : ClosF clB [Str.ofString "self"] fiExp := ⟨_, _, rfl, by kernel_rfl, by kernel_rfl, fun _ _ _ _ _ _ _ _ _ _ => by kernel_rfl⟩
theorem exp_ok {n : Nat} {s : Nat} {l : List Nat} {σ : Store} (h1 : 1 ≤ s) (h2 : s ≤ 64) (hl : l.length ≤ 100000) : CallD lawC (n + 20) (.clos clB [Str.ofString "self"] [hdInst s]) [.str l] σ (.str (expL s l)) σ := by
  have hlim : lim = 16777216 := rfl
  have e1 := repl1_len 32 0 l
  have e2 := exp_len h1 (repl 32 [0] l) 0
  have e3 := repl1_len 32 9 (expD s (repl 32 [0] l) 0)
  have e4 := repl1_len 0 32 (repl 32 [9] (expD s (repl 32 [0] l) 0))
  have e5 : (expD s (repl 32 [0] l) 0).length ≤ 100000 * 64 := by
    refine Nat.le_trans e2 ?_
    rw [e1]
    exact Nat.mul_le_mul hl h2
  refine' rClos rfl clos_exp (rRunR (ρ := [(k_self, hdInst s), (k_line, .str l)]) (ei := eiExp) rfl (by conv => lhs; whnf) rfl rfl rfl
    (L1 (sAsg rfl rfl (rRepl rfl (rName rfl) (eRepl (c := 32) (zl := [0]) rfl rfl ?_ rfl rfl)) (gName rfl))
    (L1 (sAsg rfl rfl (rMeth rfl (rName rfl) rfl (rEs (rAttr rfl rfl) rEs0) rfl (eExp h1 h2 ?_)) (gName rfl))
    (L1 (sAsg rfl rfl (rRepl rfl (rName rfl) (eRepl (c := 32) (zl := [9]) rfl rfl ?_ rfl rfl)) (gName rfl))
    (LR (sRet (rMeth rfl (rRepl rfl (rName rfl) (eRepl (c := 0) (zl := [32]) rfl rfl ?_ rfl rfl)) rfl (rEs (rStr (l := [10]) rfl rfl) rEs0) rfl (eStrip ?_)))))))) rfl
  all_goals first | lia | (simp only [List.length_singleton]; lia) | trace_state

/-! _tab_newline_replace -/
theorem pures_tab {s : Int} (a b : List (List Nat)) : D.pures [hdInst s, .list (a.map .str), .list (b.map .str)] = true := by
  show (true && (D.pures (a.map .str) && (D.pures (b.map .str) && true))) = true
  rw [pures_strs, pures_strs]; rfl
theorem tab_ok {n : Nat} {s : Nat} {a b : List (List Nat)} {σ : Store} (h1 : 1 ≤ s) (h2 : s ≤ 64) (ha : a.length ≤ 1000) (hb : b.length ≤ 1000) (hla : ∀ l ∈ a, l.length ≤ 100000) (hlb : ∀ l ∈ b, l.length ≤ 100000) :
    CallD lawC (n + 40) (.old (.ref 58)) [hdInst s, .list (a.map .str), .list (b.map .str)] σ (.tup [.list ((a.map (expL s)).map .str), .list ((b.map (expL s)).map .str)]) σ := by
  have hlim : lim = 16777216 := rfl
  refine' rDef (pures_tab a b) rfl (rRunR (ρ := [(k_self, hdInst s), (k_fromlines, .list (a.map .str)), (k_tolines, .list (b.map .str))]) eiTab_ok (by conv => lhs; whnf) rfl rfl rfl
    (L1 (ρ₁ := [(k_self, hdInst s), (k_fromlines, .list (a.map .str)), (k_tolines, .list (b.map .str)), (k_expand_tabs, .clos clB [Str.ofString "self"] [hdInst s])]) (sDef (vs := [hdInst s]) (by kernel_rfl) rfl rfl)
    (L1 (ρ₁ := [(k_self, hdInst s), (k_fromlines, .list ((a.map (expL s)).map .str)), (k_tolines, .list (b.map .str)), (k_expand_tabs, .clos clB [Str.ofString "self"] [hdInst s])]) (sAsgC rfl rfl (rLCc (σ₂ := []) (es := (a.map (expL s)).map .str) rfl (itE rfl (rName rfl) rfl ?l1) ?c1 ?e1) (gName rfl))
    (L1 (ρ₁ := [(k_self, hdInst s), (k_fromlines, .list ((a.map (expL s)).map .str)), (k_tolines, .list ((b.map (expL s)).map .str)), (k_expand_tabs, .clos clB [Str.ofString "self"] [hdInst s])]) (sAsgC rfl rfl (rLCc (σ₂ := []) (es := (b.map (expL s)).map .str) rfl (itE rfl (rName rfl) rfl ?l2) ?c2 ?e2) (gName rfl))
    (LR (sRet (rTup rfl (rEs (rName rfl) (rEs (rName rfl) rEs0))))))))) ?pu
  case l1 => rw [List.length_map]; lia
  case c1 =>
    rw [List.map_map]
    exact cMap fun x hx => cB (gName rfl) (rCall rfl rfl (rEs (rName rfl) rEs0) (exp_ok h1 h2 (hla x hx)))
  case e1 => rw [List.length_map, List.length_map]; lia
  case l2 => rw [List.length_map]; lia
  case c2 =>
    rw [List.map_map (l := b)]
    exact cMap fun x hx => cB (gName rfl) (rCall rfl rfl (rEs (rName rfl) rEs0) (exp_ok h1 h2 (hlb x hx)))
  case e2 => rw [List.length_map, List.length_map]; lia
  case pu =>
    show (D.pures ((a.map (expL s)).map .str) && (D.pures ((b.map (expL s)).map .str) && true)) = true
    rw [pures_strs, pures_strs]; rfl
end
section
/-! the escapes -/
theorem repl_id {c : Nat} {z : List Nat} : ∀ {l : List Nat}, c ∉ l → repl c z l = l
  | [], _ => rfl
  | x :: l, h => by
    have h1 : x ≠ c := fun e => h (e ▸ List.mem_cons_self ..)
    show (if x = c then z else [x]) ++ repl c z l = _
    rw [if_neg h1, repl_id (fun e => h (List.mem_cons_of_mem _ e))]
    rfl
/- one step: «if sign in text: text = text.replace(sign, ..)» -/
theorem esc_step {n : Nat} {ei : EI} (hei : look (nm (Str.ofString "text")) ei.kd = some .local) (hmu : ei.mu = []) {x y z : Str} {c : Nat} {zl l : List Nat} {k k1 k2 : Nat} {p1 p2 p3 p4 p5 p6 p7 p8 p9 pa pb : Pos} {σ : Store} (hx : x.cps.toList = [c]) (hc : c < 1114112) (hy : y.cps.toList = [c]) (hz : z.cps.toList = zl) (h : (l.length + 1) * (zl.length + 1) ≤ lim) (h2 : okB zl = true) (h3 : (y == z) = false) (hp : p5.endLine = p8.line) :
    ExS lawC (n + 6) ei (.If (.Compare (.Constant (.str x) k p1) [.In] [.Name (Str.ofString "text") p2] p3) [.Assign [.Name (Str.ofString "text") p4] (.Call (.Attribute (.Name (Str.ofString "text") pa) (Str.ofString "replace") p5) [.Constant (.str y) k1 p6, .Constant (.str z) k2 p7] [] p8) p9] [] pb) [(k_text, .str l)] σ .next [(k_text, .str (repl c zl l))] σ := by
  have hg : ∀ g, getV ei g (nm (Str.ofString "text")) [(k_text, .str l)] = some (.str l) := fun g => by unfold getV; rw [hei]; rfl
  have hst : setV ei (nm (Str.ofString "text")) (.str (repl c zl l)) [(k_text, .str l)] = some [(k_text, .str (repl c zl l))] := by unfold setV; rw [hei]; rfl
  have hmu' : isMu ei (.Name (Str.ofString "text") p4) = false := by unfold isMu; rw [hmu]; rfl
  refine' sIf (c := decide (c ∈ l)) (tCmp (rStr hx (by simp [hc])) (rName (hg _)) cIn) (fun _ => ?_) fun hn => ?_
  · refine L1 (sAsg rfl hmu' (rRepl ?_ (rName (hg _)) (eRepl hy hz h h2 h3)) (gName hst)) L0
    show (true && p5.endLine == p8.line && true) = true
    rw [hp]; simp
  · have : repl c zl l = l := repl_id (by simpa using hn)
    rw [this]
    exact L0
noncomputable abbrev Chain := List (Nat × List Nat)
noncomputable def chainR (es : Chain) (l : List Nat) : List Nat := es.foldl (fun t p => repl p.1 p.2 t) l
noncomputable def chainE (es : Chain) (k : Nat) : List Nat := chainR es [k]
theorem repl_flat (c : Nat) (z : List Nat) (f : Nat → List Nat) (l : List Nat) : repl c z (l.flatMap f) = l.flatMap fun k => repl c z (f k) := List.flatMap_assoc
theorem chain_flat' : ∀ (es : Chain) (f : Nat → List Nat) (l : List Nat), chainR es (l.flatMap f) = l.flatMap fun k => chainR es (f k)
  | [], f, l => rfl
  | p :: es, f, l => by
    show chainR es (repl p.1 p.2 (l.flatMap f)) = _
    rw [repl_flat, chain_flat' es]
    rfl
theorem flat_one (l : List Nat) : (l.flatMap fun k => [k]) = l := by
  induction l with
  | nil => rfl
  | cons x l ih => rw [List.flatMap_cons, ih]; rfl
theorem chain_flat (es : Chain) (l : List Nat) : chainR es l = l.flatMap (chainE es) := by
  have := chain_flat' es (fun k => [k]) l
  rw [flat_one] at this
  exact this
theorem chain_other : ∀ {es : Chain} {k : Nat}, k ∉ es.map (·.1) → chainE es k = [k]
  | [], k, _ => rfl
  | p :: es, k, h => by
    have h1 : k ≠ p.1 := fun e => h (e ▸ List.mem_cons_self ..)
    show chainR es ((if k = p.1 then p.2 else [k]) ++ []) = _
    rw [if_neg h1, List.append_nil]
    exact chain_other (es := es) fun e => h (List.mem_cons_of_mem _ e)
noncomputable def chkE (es : Chain) : Bool := (es.map (·.1)).all fun k => decide ((chainE es k).length ≤ 6)
theorem chain_le {es : Chain} (h : chkE es = true) (l : List Nat) : (chainR es l).length ≤ l.length * 6 := by
  rw [chain_flat]
  have one : ∀ k, (chainE es k).length ≤ 6 := fun k => by
    by_cases hk : k ∈ es.map (·.1)
    · exact of_decide_eq_true (List.all_eq_true.mp h k hk)
    · rw [chain_other hk]; simp
  induction l with
  | nil => simp
  | cons x l ih =>
    rw [List.flatMap_cons, List.length_append, List.length_cons, Nat.succ_mul]
    have := one x
    lia
theorem chain_fit {es : Chain} (h : chkE es = true) {l : List Nat} (hl : l.length ≤ 10000) {z : List Nat} (hz : z.length ≤ 6) : ((chainR es l).length + 1) * (z.length + 1) ≤ lim := by
  have := chain_le h l
  have hlim : lim = 16777216 := rfl
  have : ((chainR es l).length + 1) * (z.length + 1) ≤ 60001 * 7 := Nat.mul_le_mul (by lia) (by lia)
  lia
theorem esc_chain {n : Nat} {ei : EI} (hei : look (nm (Str.ofString "text")) ei.kd = some .local) (hmu : ei.mu = []) {x y z : Str} {c : Nat} {zl l : List Nat} {pre pre' : Chain} {k k1 k2 : Nat} {p1 p2 p3 p4 p5 p6 p7 p8 p9 pa pb : Pos} {σ : Store} (hx : x.cps.toList = [c]) (hc : c < 1114112) (hy : y.cps.toList = [c]) (hz : z.cps.toList = zl) (hq : pre ++ [(c, zl)] = pre') (hpre : chkE pre = true) (hl : l.length ≤ 10000) (h6 : zl.length ≤ 6) (h2 : okB zl = true) (h3 : (y == z) = false) (hp : p5.endLine = p8.line) :
    ExS lawC (n + 6) ei (.If (.Compare (.Constant (.str x) k p1) [.In] [.Name (Str.ofString "text") p2] p3) [.Assign [.Name (Str.ofString "text") p4] (.Call (.Attribute (.Name (Str.ofString "text") pa) (Str.ofString "replace") p5) [.Constant (.str y) k1 p6, .Constant (.str z) k2 p7] [] p8) p9] [] pb) [(k_text, .str (chainR pre l))] σ .next [(k_text, .str (chainR pre' l))] σ := by
  subst hq
  have : chainR (pre ++ [(c, zl)]) l = repl c zl (chainR pre l) := by unfold chainR; rw [List.foldl_append]; rfl
  rw [this]
  exact esc_step hei hmu hx hc hy hz (chain_fit hpre hl h6) h2 h3 hp
noncomputable def esCdata : Chain := [(38, [38, 97, 109, 112, 59]), (60, [38, 108, 116, 59]), (62, [38, 103, 116, 59])]
noncomputable def esAttrib : Chain := [(38, [38, 97, 109, 112, 59]), (60, [38, 108, 116, 59]), (62, [38, 103, 116, 59]), (34, [38, 113, 117, 111, 116, 59]), (13, [38, 35, 49, 51, 59]), (10, [38, 35, 49, 48, 59]), (9, [38, 35, 48, 57, 59])]
noncomputable def esHtml : Chain := [(38, [38, 97, 109, 112, 59]), (62, [38, 103, 116, 59]), (34, [38, 113, 117, 111, 116, 59])]
noncomputable def esCdataN : Chain := [(38, [38, 97, 109, 112, 59]), (60, [38, 108, 116, 59]), (62, [38, 103, 116, 59]), (13, [38, 35, 120, 68, 59])]
noncomputable def esAttribN : Chain := [(38, [38, 97, 109, 112, 59]), (60, [38, 108, 116, 59]), (34, [38, 113, 117, 111, 116, 59]), (9, [38, 35, 120, 57, 59]), (10, [38, 35, 120, 65, 59]), (13, [38, 35, 120, 68, 59])]
theorem cdata_ok {n : Nat} {l : List Nat} {σ : Store} (hl : l.length ≤ 10000) : CallD lawC (n + 30) (.old (.ref 224)) [.str l] σ (.str (l.flatMap (chainE esCdata))) σ := by
  rw [← chain_flat]
  exact rDef rfl rfl (rRunR (ρ := [(k_text, .str (chainR [] l))]) eiCdata_ok (by conv => lhs; whnf) rfl rfl rfl (LR (sTry (L1 (esc_chain (l := l) (pre := []) (pre' := [(38, [38, 97, 109, 112, 59])]) (c := 38) (zl := [38, 97, 109, 112, 59]) rfl rfl rfl (by decide) rfl rfl rfl (by decide) hl (by decide) rfl rfl rfl) (L1 (esc_chain (l := l) (pre := [(38, [38, 97, 109, 112, 59])]) (pre' := [(38, [38, 97, 109, 112, 59]), (60, [38, 108, 116, 59])]) (c := 60) (zl := [38, 108, 116, 59]) rfl rfl rfl (by decide) rfl rfl rfl (by decide) hl (by decide) rfl rfl rfl) (L1 (esc_chain (l := l) (pre := [(38, [38, 97, 109, 112, 59]), (60, [38, 108, 116, 59])]) (pre' := esCdata) (c := 62) (zl := [38, 103, 116, 59]) rfl rfl rfl (by decide) rfl rfl rfl (by decide) hl (by decide) rfl rfl rfl) (LR (sRet (rName rfl))))))))) rfl
theorem attrib_ok {n : Nat} {l : List Nat} {σ : Store} (hl : l.length ≤ 10000) : CallD lawC (n + 30) (.old (.ref 231)) [.str l] σ (.str (l.flatMap (chainE esAttrib))) σ := by
  rw [← chain_flat]
  exact rDef rfl rfl (rRunR (ρ := [(k_text, .str (chainR [] l))]) eiAttrib_ok (by conv => lhs; whnf) rfl rfl rfl (LR (sTry (L1 (esc_chain (l := l) (pre := []) (pre' := [(38, [38, 97, 109, 112, 59])]) (c := 38) (zl := [38, 97, 109, 112, 59]) rfl rfl rfl (by decide) rfl rfl rfl (by decide) hl (by decide) rfl rfl rfl) (L1 (esc_chain (l := l) (pre := [(38, [38, 97, 109, 112, 59])]) (pre' := [(38, [38, 97, 109, 112, 59]), (60, [38, 108, 116, 59])]) (c := 60) (zl := [38, 108, 116, 59]) rfl rfl rfl (by decide) rfl rfl rfl (by decide) hl (by decide) rfl rfl rfl) (L1 (esc_chain (l := l) (pre := [(38, [38, 97, 109, 112, 59]), (60, [38, 108, 116, 59])]) (pre' := [(38, [38, 97, 109, 112, 59]), (60, [38, 108, 116, 59]), (62, [38, 103, 116, 59])]) (c := 62) (zl := [38, 103, 116, 59]) rfl rfl rfl (by decide) rfl rfl rfl (by decide) hl (by decide) rfl rfl rfl) (L1 (esc_chain (l := l) (pre := [(38, [38, 97, 109, 112, 59]), (60, [38, 108, 116, 59]), (62, [38, 103, 116, 59])]) (pre' := [(38, [38, 97, 109, 112, 59]), (60, [38, 108, 116, 59]), (62, [38, 103, 116, 59]), (34, [38, 113, 117, 111, 116, 59])]) (c := 34) (zl := [38, 113, 117, 111, 116, 59]) rfl rfl rfl (by decide) rfl rfl rfl (by decide) hl (by decide) rfl rfl rfl) (L1 (esc_chain (l := l) (pre := [(38, [38, 97, 109, 112, 59]), (60, [38, 108, 116, 59]), (62, [38, 103, 116, 59]), (34, [38, 113, 117, 111, 116, 59])]) (pre' := [(38, [38, 97, 109, 112, 59]), (60, [38, 108, 116, 59]), (62, [38, 103, 116, 59]), (34, [38, 113, 117, 111, 116, 59]), (13, [38, 35, 49, 51, 59])]) (c := 13) (zl := [38, 35, 49, 51, 59]) rfl rfl rfl (by decide) rfl rfl rfl (by decide) hl (by decide) rfl rfl rfl) (L1 (esc_chain (l := l) (pre := [(38, [38, 97, 109, 112, 59]), (60, [38, 108, 116, 59]), (62, [38, 103, 116, 59]), (34, [38, 113, 117, 111, 116, 59]), (13, [38, 35, 49, 51, 59])]) (pre' := [(38, [38, 97, 109, 112, 59]), (60, [38, 108, 116, 59]), (62, [38, 103, 116, 59]), (34, [38, 113, 117, 111, 116, 59]), (13, [38, 35, 49, 51, 59]), (10, [38, 35, 49, 48, 59])]) (c := 10) (zl := [38, 35, 49, 48, 59]) rfl rfl rfl (by decide) rfl rfl rfl (by decide) hl (by decide) rfl rfl rfl) (L1 (esc_chain (l := l) (pre := [(38, [38, 97, 109, 112, 59]), (60, [38, 108, 116, 59]), (62, [38, 103, 116, 59]), (34, [38, 113, 117, 111, 116, 59]), (13, [38, 35, 49, 51, 59]), (10, [38, 35, 49, 48, 59])]) (pre' := esAttrib) (c := 9) (zl := [38, 35, 48, 57, 59]) rfl rfl rfl (by decide) rfl rfl rfl (by decide) hl (by decide) rfl rfl rfl) (LR (sRet (rName rfl))))))))))))) rfl
theorem html_ok {n : Nat} {l : List Nat} {σ : Store} (hl : l.length ≤ 10000) : CallD lawC (n + 30) (.old (.ref 238)) [.str l] σ (.str (l.flatMap (chainE esHtml))) σ := by
  rw [← chain_flat]
  exact rDef rfl rfl (rRunR (ρ := [(k_text, .str (chainR [] l))]) eiHtml_ok (by conv => lhs; whnf) rfl rfl rfl (LR (sTry (L1 (esc_chain (l := l) (pre := []) (pre' := [(38, [38, 97, 109, 112, 59])]) (c := 38) (zl := [38, 97, 109, 112, 59]) rfl rfl rfl (by decide) rfl rfl rfl (by decide) hl (by decide) rfl rfl rfl) (L1 (esc_chain (l := l) (pre := [(38, [38, 97, 109, 112, 59])]) (pre' := [(38, [38, 97, 109, 112, 59]), (62, [38, 103, 116, 59])]) (c := 62) (zl := [38, 103, 116, 59]) rfl rfl rfl (by decide) rfl rfl rfl (by decide) hl (by decide) rfl rfl rfl) (L1 (esc_chain (l := l) (pre := [(38, [38, 97, 109, 112, 59]), (62, [38, 103, 116, 59])]) (pre' := esHtml) (c := 34) (zl := [38, 113, 117, 111, 116, 59]) rfl rfl rfl (by decide) rfl rfl rfl (by decide) hl (by decide) rfl rfl rfl) (LR (sRet (rName rfl))))))))) rfl
theorem cdataN_ok {n : Nat} {l : List Nat} {σ : Store} (hl : l.length ≤ 10000) : CallD lawC (n + 30) (.old (.ref 245)) [.str l] σ (.str (l.flatMap (chainE esCdataN))) σ := by
  rw [← chain_flat]
  exact rDef rfl rfl (rRunR (ρ := [(k_text, .str (chainR [] l))]) eiCdataN_ok (by conv => lhs; whnf) rfl rfl rfl (LR (sTry (L1 (esc_chain (l := l) (pre := []) (pre' := [(38, [38, 97, 109, 112, 59])]) (c := 38) (zl := [38, 97, 109, 112, 59]) rfl rfl rfl (by decide) rfl rfl rfl (by decide) hl (by decide) rfl rfl rfl) (L1 (esc_chain (l := l) (pre := [(38, [38, 97, 109, 112, 59])]) (pre' := [(38, [38, 97, 109, 112, 59]), (60, [38, 108, 116, 59])]) (c := 60) (zl := [38, 108, 116, 59]) rfl rfl rfl (by decide) rfl rfl rfl (by decide) hl (by decide) rfl rfl rfl) (L1 (esc_chain (l := l) (pre := [(38, [38, 97, 109, 112, 59]), (60, [38, 108, 116, 59])]) (pre' := [(38, [38, 97, 109, 112, 59]), (60, [38, 108, 116, 59]), (62, [38, 103, 116, 59])]) (c := 62) (zl := [38, 103, 116, 59]) rfl rfl rfl (by decide) rfl rfl rfl (by decide) hl (by decide) rfl rfl rfl) (L1 (esc_chain (l := l) (pre := [(38, [38, 97, 109, 112, 59]), (60, [38, 108, 116, 59]), (62, [38, 103, 116, 59])]) (pre' := esCdataN) (c := 13) (zl := [38, 35, 120, 68, 59]) rfl rfl rfl (by decide) rfl rfl rfl (by decide) hl (by decide) rfl rfl rfl) (LR (sRet (rName rfl)))))))))) rfl
theorem attribN_ok {n : Nat} {l : List Nat} {σ : Store} (hl : l.length ≤ 10000) : CallD lawC (n + 30) (.old (.ref 252)) [.str l] σ (.str (l.flatMap (chainE esAttribN))) σ := by
  rw [← chain_flat]
  exact rDef rfl rfl (rRunR (ρ := [(k_text, .str (chainR [] l))]) eiAttribN_ok (by conv => lhs; whnf) rfl rfl rfl (LR (sTry (L1 (esc_chain (l := l) (pre := []) (pre' := [(38, [38, 97, 109, 112, 59])]) (c := 38) (zl := [38, 97, 109, 112, 59]) rfl rfl rfl (by decide) rfl rfl rfl (by decide) hl (by decide) rfl rfl rfl) (L1 (esc_chain (l := l) (pre := [(38, [38, 97, 109, 112, 59])]) (pre' := [(38, [38, 97, 109, 112, 59]), (60, [38, 108, 116, 59])]) (c := 60) (zl := [38, 108, 116, 59]) rfl rfl rfl (by decide) rfl rfl rfl (by decide) hl (by decide) rfl rfl rfl) (L1 (esc_chain (l := l) (pre := [(38, [38, 97, 109, 112, 59]), (60, [38, 108, 116, 59])]) (pre' := [(38, [38, 97, 109, 112, 59]), (60, [38, 108, 116, 59]), (34, [38, 113, 117, 111, 116, 59])]) (c := 34) (zl := [38, 113, 117, 111, 116, 59]) rfl rfl rfl (by decide) rfl rfl rfl (by decide) hl (by decide) rfl rfl rfl) (L1 (esc_chain (l := l) (pre := [(38, [38, 97, 109, 112, 59]), (60, [38, 108, 116, 59]), (34, [38, 113, 117, 111, 116, 59])]) (pre' := [(38, [38, 97, 109, 112, 59]), (60, [38, 108, 116, 59]), (34, [38, 113, 117, 111, 116, 59]), (9, [38, 35, 120, 57, 59])]) (c := 9) (zl := [38, 35, 120, 57, 59]) rfl rfl rfl (by decide) rfl rfl rfl (by decide) hl (by decide) rfl rfl rfl) (L1 (esc_chain (l := l) (pre := [(38, [38, 97, 109, 112, 59]), (60, [38, 108, 116, 59]), (34, [38, 113, 117, 111, 116, 59]), (9, [38, 35, 120, 57, 59])]) (pre' := [(38, [38, 97, 109, 112, 59]), (60, [38, 108, 116, 59]), (34, [38, 113, 117, 111, 116, 59]), (9, [38, 35, 120, 57, 59]), (10, [38, 35, 120, 65, 59])]) (c := 10) (zl := [38, 35, 120, 65, 59]) rfl rfl rfl (by decide) rfl rfl rfl (by decide) hl (by decide) rfl rfl rfl) (L1 (esc_chain (l := l) (pre := [(38, [38, 97, 109, 112, 59]), (60, [38, 108, 116, 59]), (34, [38, 113, 117, 111, 116, 59]), (9, [38, 35, 120, 57, 59]), (10, [38, 35, 120, 65, 59])]) (pre' := esAttribN) (c := 13) (zl := [38, 35, 120, 68, 59]) rfl rfl rfl (by decide) rfl rfl rfl (by decide) hl (by decide) rfl rfl rfl) (LR (sRet (rName rfl)))))))))))) rfl
end
section
/-! header_encode -/
theorem tNotT {C : Ctx} {n : Nat} {ei : EI} {x : Expr} {p : Pos} {ρ : VarsN} {σ σ₁ : Store} (h : EvT C n ei x ρ σ false σ₁) : EvT C (n + 1) ei (.UnaryOp .Not x p) ρ σ true σ₁ := tNot h
theorem tNotF {C : Ctx} {n : Nat} {ei : EI} {x : Expr} {p : Pos} {ρ : VarsN} {σ σ₁ : Store} (h : EvT C n ei x ρ σ true σ₁) : EvT C (n + 1) ei (.UnaryOp .Not x p) ρ σ false σ₁ := tNot h
noncomputable def qAt (c : Nat) : List Nat := (qmap[c]?).getD []
theorem qmap_len : qmap.length = 256 := by unfold qmap; rw [List.length_map, List.length_range]
theorem qmap_three : (qmap.all fun x => decide (x.length ≤ 3)) = true := by decide +kernel
theorem tr_all : ∀ {l : List Nat}, (∀ c ∈ l, c < 256) → trD qmap l = some (l.flatMap qAt)
  | [], _ => rfl
  | c :: l, h => by
    have hc : c < qmap.length := by rw [qmap_len]; exact h c (List.mem_cons_self ..)
    show (match qmap[c]?, trD qmap l with | some t, some r => some (t ++ r) | _, _ => none) = _
    rw [tr_all fun x hx => h x (List.mem_cons_of_mem _ hx), List.flatMap_cons]
    unfold qAt
    rw [List.getElem?_eq_getElem hc]
    rfl
theorem eTrans {l : List Nat} (h : ∀ c ∈ l, c < 256) (hl : l.length * 4 ≤ lim) : MethD (Str.ofString "translate") (.str l) [.list (qmap.map .str)] (.str (l.flatMap qAt)) := eTranslate qmap_len hl (fun x hx => of_decide_eq_true (List.all_eq_true.mp qmap_three x hx)) (tr_all h)
theorem eTruthB {b : List UInt8} (h : b.length ≤ lim) : TruthD (.bytes b) (b != []) := uBytes h
theorem q_three (c : Nat) : (qAt c).length ≤ 3 := by
  unfold qAt
  cases h : qmap[c]? with
  | none => simp
  | some x => exact of_decide_eq_true (List.all_eq_true.mp qmap_three x (List.mem_of_getElem? h))
theorem q_len (l : List Nat) : (l.flatMap qAt).length ≤ l.length * 3 := by
  induction l with
  | nil => simp
  | cons x l ih =>
    rw [List.flatMap_cons, List.length_append, List.length_cons, Nat.succ_mul]
    have := q_three x
    lia
noncomputable def headW (cs l : List Nat) : List Nat := [61, 63] ++ (cs ++ ([63, 113, 63] ++ (l.flatMap qAt ++ ([63, 61] ++ []))))
theorem header_nil1 {n : Nat} {σ : Store} : CallD lawC (n + 30) (.old (.ref 139)) [.bytes []] σ (.str []) σ := by
  exact rDef rfl rfl (rRunR (ρ := [(k_header_bytes, .bytes []), (k_charset, dS "iso-8859-1")]) eiHeader_ok (by conv => lhs; whnf) rfl rfl rfl (LR (sIfT (tNotT (tE rfl (rName rfl) (uBytes (Nat.zero_le _)))) (LR (sRet (rStr (l := []) rfl rfl)))))) rfl
theorem byte_lt {b : List UInt8} : ∀ c ∈ b.map (·.toNat), c < 256 := fun c hc => by
  obtain ⟨x, _, rfl⟩ := List.mem_map.mp hc
  exact x.toNat_lt
theorem head_body {n : Nat} {b : List UInt8} {cs : List Nat} {σ : Store} (hb : b ≠ []) (hl : b.length ≤ 10000) (hc : cs.length ≤ 100) (bd : List Stmt) (hbd : bodyOf (topAt 19) = bd) :
    ∃ ρ', ExL lawC (n + 20) eiHeader bd [(k_header_bytes, .bytes b), (k_charset, .str cs)] σ (.ret (.str (headW cs (b.map (·.toNat))))) ρ' σ := by
  have hlim : lim = 16777216 := rfl
  have h1 : (b != []) = true := by simpa using hb
  have h2 := q_len (b.map (·.toNat))
  rw [List.length_map] at h2
  conv at hbd => lhs; whnf
  subst hbd
  refine' ⟨_, L1 (sIfF (σ₁ := σ) ?t L0) (L1 (sAsg rfl rfl (rMeth rfl (rMeth rfl (rName rfl) rfl (rEs (rStr (l := [108, 97, 116, 105, 110, 49]) rfl rfl) rEs0) rfl (eDecode hb ?a)) rfl (rEs (rName rfl) rEs0) rfl (eTrans byte_lt ?b)) (gName rfl))
    (LR (sRet (rJ rfl (jC (u := [61, 63]) rfl rfl (jV (rName rfl) (jC (u := [63, 113, 63]) rfl rfl (jV (rName rfl) (jC (u := [63, 61]) rfl rfl j0))))) ?c))))⟩
  case t => exact tNotF (tE rfl (rName rfl) (by rw [← h1]; exact eTruthB (by lia)))
  case a => lia
  case b => rw [List.length_map]; lia
  case c =>
    show (headW cs (b.map (·.toNat))).length ≤ lim
    unfold headW
    simp only [List.length_append, List.length_cons, List.length_nil]; lia
theorem header_ok {n : Nat} {b : List UInt8} {cs : List Nat} {σ : Store} (hb : b ≠ []) (hl : b.length ≤ 10000) (hc : cs.length ≤ 100) :
    CallD lawC (n + 30) (.old (.ref 139)) [.bytes b, .str cs] σ (.str (headW cs (b.map (·.toNat)))) σ := by
  obtain ⟨ρ', h⟩ := head_body (n := n + 8) (σ := []) hb hl hc _ rfl
  exact rDef rfl rfl (rRunR eiHeader_ok rfl rfl rfl rfl h) rfl
theorem header_ok1 {n : Nat} {b : List UInt8} {σ : Store} (hb : b ≠ []) (hl : b.length ≤ 10000) :
    CallD lawC (n + 30) (.old (.ref 139)) [.bytes b] σ (.str (headW (Str.ofString "iso-8859-1").cps.toList (b.map (·.toNat)))) σ := by
  obtain ⟨ρ', h⟩ := head_body (n := n + 8) (σ := []) (cs := (Str.ofString "iso-8859-1").cps.toList) hb hl (by decide +kernel) _ rfl
  exact rDef rfl rfl (rRunR eiHeader_ok rfl rfl rfl rfl h) rfl
end
section
/-! Whitespace -/
structure Wst where
  b : Int
  n : Int
  nt : Int
  cnt : List Int
  junk : List SO
  ch : Option Nat
noncomputable abbrev stW (l : List Nat) (w : Wst) : VarsN × Store :=
  (([(k_self, .loc 0), (k_ws, .str l), (k_S, .str [32]), (k_T, .str [9]), (k_count, .loc (w.junk.length + 2)), (k_b, .int w.b), (k_n, .int w.n), (k_nt, .int w.nt)] : VarsN) ++ (match w.ch with | none => ([] : VarsN) | some c => ([(k_ch, .str [c])] : VarsN)),
   ([.inst 206 1, .attrs [Str.ofString "raw"] [.str l]] : Store) ++ (w.junk ++ ([.list (w.cnt.map .int)] : Store)))
noncomputable def stepW (w : Wst) (c : Nat) : Wst :=
  if c = 32 then { w with n := w.n + 1, b := w.b + 1, ch := some c }
  else if w.b ≥ w.cnt.length then
    { b := 0, n := w.n + 1, nt := w.nt + 1, cnt := (w.cnt ++ List.replicate (w.b - w.cnt.length + 1).toNat 0).set w.b.toNat ((w.cnt ++ List.replicate (w.b - w.cnt.length + 1).toNat 0).getD w.b.toNat 0 + 1), junk := w.junk ++ [.list (w.cnt.map .int)], ch := some c }
  else { w with b := 0, n := w.n + 1, nt := w.nt + 1, cnt := w.cnt.set w.b.toNat (w.cnt.getD w.b.toNat 0 + 1), ch := some c }
section
variable {C : Ctx} {n m : Nat} {ei : EI} {ρ ρ₁ : VarsN} {σ σ₁ σ₂ : Store} {p : Pos} {u ds es v : List D} {i : Int} {d : D} {a b : D}
theorem eItemLoc (h : σ[m]? = some (.list u)) (h0 : 0 ≤ i ∧ i < 2 ^ 62 ∧ u.length ≤ lim) (hx : u[i.toNat]? = some d) : itemD σ (.loc m) (.int i) = some d := by
  show (match σ[m]? with | some (.list l) => if 0 ≤ i ∧ i < 2 ^ 62 ∧ l.length ≤ lim then l[i.toNat]? else none | _ => none) = _
  rw [h]
  exact (if_pos h0).trans hx
theorem eStoreLoc {σ' : Store} (h : σ[m]? = some (.list u)) (h0 : 0 ≤ i ∧ i < u.length ∧ i < 2 ^ 62) (hv : σ.set m (.list (u.set i.toNat d)) = σ') : storeD σ (.loc m) (.int i) d = some σ' := by
  show (match σ[m]? with | some (.list l) => if 0 ≤ i ∧ i < l.length ∧ i < 2 ^ 62 then some (σ.set m (.list (l.set i.toNat d))) else none | _ => none) = _
  rw [h, ← hv]
  exact if_pos h0
theorem eLst (h : σ[m]? = some (.list u)) : lstD σ (.loc m) = some u := by
  show (match σ[m]? with | some (.list l) => some l | _ => none) = _
  rw [h]
theorem mAddQ {x y : Expr} (h1 : EvE C n ei x ρ σ a σ₁) (h2 : EvE C n ei y ρ σ₁ b σ₂) (h3 : lstD σ₂ a = some ds) (h4 : lstD σ₂ b = some es) (h5 : ds.length + es.length ≤ lim) (hv : ds ++ es = v) :
    EvM C (n + 1) ei (.BinOp x .Add y p) ρ σ (.loc σ₂.length) (σ₂ ++ [.list v]) := hv ▸ mAdd h1 h2 h3 h4 h5
theorem get_last {α : Type} (i a x : α) : ∀ (j : List α), ([i, a] ++ (j ++ [x]))[j.length + 2]? = some x := fun j => by
  show (j ++ [x])[j.length]? = some x
  rw [List.getElem?_append_right (Nat.le_refl _)]
  simp
theorem set_last {α : Type} (i a x y : α) : ∀ (j : List α), ([i, a] ++ (j ++ [x])).set (j.length + 2) y = [i, a] ++ (j ++ [y]) := fun j => by
  show i :: a :: (j ++ [x]).set j.length y = _
  rw [List.set_append_right _ _ (Nat.le_refl _)]
  simp
end
theorem map_get {l : List Int} {k : Nat} (h : k < l.length) : (l.map D.int)[k]? = some (.int (l.getD k 0)) := by
  rw [List.getElem?_map, List.getElem?_eq_getElem h, List.getD_eq_getElem?_getD, List.getElem?_eq_getElem h]
  rfl
noncomputable def PW (pre : List Nat) (w : Wst) : Prop := 0 ≤ w.b ∧ w.b ≤ pre.length ∧ w.cnt.length ≤ pre.length
noncomputable def wBody : List Stmt := match bodyOf (nth (bodyOf (nth (bodyOf (topAt 24)) 1)) 4) with
  | [.If _ _ [.If _ x _ _] _] => x
  | _ => []
noncomputable abbrev rW (l : List Nat) (m : Nat) (b nn nt : Int) (c : Nat) : VarsN := [(k_self, .loc 0), (k_ws, .str l), (k_S, .str [32]), (k_T, .str [9]), (k_count, .loc m), (k_b, .int b), (k_n, .int nn), (k_nt, .int nt), (k_ch, .str [c])]
theorem w_ext {n : Nat} {l : List Nat} {b nn nt : Int} {c : Nat} {i a : SO} {junk : List SO} {u v : List D} (hu : u.length ≤ lim) (hge : b ≥ u.length) (hb : b + 1 ≤ lim) (hv : u ++ List.replicate (b - (u.length : Int) + 1).toNat (.int 0) = v) {st : Stmt} (hs : nth wBody 2 = st) :
    ExS lawC (n + 10) eiWInit st (rW l (junk.length + 2) b nn nt c) ([i, a] ++ (junk ++ [.list u])) .next (rW l ((junk ++ [SO.list u]).length + 2) b nn nt c) ([i, a] ++ ((junk ++ [.list u]) ++ [.list v])) := by
  conv at hs => lhs; whnf
  subst hs
  have get := get_last i a (SO.list u) junk
  have hc : CmpD .GtE (.int b) (.int (u.length : Int)) true := by
    rw [← decide_eq_true hge]; exact cGe
  have hlim : lim = 16777216 := rfl
  have hkk : 0 ≤ b - (u.length : Int) + 1 ∧ b - (u.length : Int) + 1 ≤ lim := by lia
  have hap : u.length + (List.replicate (b - (u.length : Int) + 1).toNat (D.int 0)).length ≤ lim := by rw [List.length_replicate]; lia
  generalize hr : List.replicate (b - (u.length : Int) + 1).toNat (D.int 0) = r at hv hap
  have hm : BinD .Mult (.list [.int 0]) (.int (b - (u.length : Int) + 1)) (.list r) := by rw [← hr]; exact bMulL hkk
  have hset : setV eiWInit (nm (Str.ofString "count")) (.loc ((junk ++ [SO.list u]).length + 2)) (rW l (junk.length + 2) b nn nt c) = some (rW l ((junk ++ [SO.list u]).length + 2) b nn nt c) := rfl
  exact sIfT (tCmp (rName rfl) (rCall rfl rfl (rEs (rName rfl) rEs0) (rBi (eLenLoc get hu))) hc)
    (L1' (sAsgM rfl rfl (mAddQ (rName rfl) (rBin (rList rfl (rEs rInt rEs0)) (rBin (rBin (rName rfl) (rCall rfl rfl (rEs (rName rfl) rEs0) (rBi (eLenLoc get hu))) bSub) rInt bAdd) hm) (eLst get) rfl hap hv) (gName hset)))
theorem w_noext {n : Nat} {l : List Nat} {b nn nt : Int} {c : Nat} {i a : SO} {junk : List SO} {u : List D} (hu : u.length ≤ lim) (hge : ¬ b ≥ u.length) {st : Stmt} (hs : nth wBody 2 = st) :
    ExS lawC (n + 10) eiWInit st (rW l (junk.length + 2) b nn nt c) ([i, a] ++ (junk ++ [.list u])) .next (rW l (junk.length + 2) b nn nt c) ([i, a] ++ (junk ++ [.list u])) := by
  conv at hs => lhs; whnf
  subst hs
  have get := get_last i a (SO.list u) junk
  have hc : CmpD .GtE (.int b) (.int (u.length : Int)) false := by
    rw [← decide_eq_false hge]; exact cGe
  exact sIfF (tCmp (rName rfl) (rCall rfl rfl (rEs (rName rfl) rEs0) (rBi (eLenLoc get hu))) hc) L0
theorem w_cnt {n : Nat} {l : List Nat} {b nn nt : Int} {c : Nat} {i a : SO} {junk : List SO} {u v : List D} {x : Int} (hb : 0 ≤ b ∧ b < u.length ∧ b < 2 ^ 62) (hu : u.length ≤ lim) (hx : u[b.toNat]? = some (.int x)) (hv : u.set b.toNat (.int (x + 1)) = v) {sts : List Stmt} (hs : wBody.drop 3 = sts) :
    ExL lawC (n + 10) eiWInit sts (rW l (junk.length + 2) b nn nt c) ([i, a] ++ (junk ++ [.list u])) .next (rW l (junk.length + 2) 0 nn nt c) ([i, a] ++ (junk ++ [.list v])) := by
  conv at hs => lhs; whnf
  subst hs
  have get := get_last i a (SO.list u) junk
  have hst : ([i, a] ++ (junk ++ [SO.list u])).set (junk.length + 2) (.list (u.set b.toNat (.int (x + 1)))) = [i, a] ++ (junk ++ [.list v]) := by rw [set_last, hv]
  exact L1 (sAsg rfl rfl (rBin (rItem rfl (rName rfl) (rName rfl) (eItemLoc get ⟨hb.1, hb.2.2, hu⟩ hx)) rInt bAdd) (gItem (rName rfl) (rName rfl) (eStoreLoc get hb hst))) (L1' (sAsg rfl rfl rInt (gName rfl)))
theorem w_tab {n : Nat} {l : List Nat} {b nn nt : Int} {c : Nat} {i a : SO} {junk junk' : List SO} {u u' v : List D} {x : Int} (hif : ∀ st, nth wBody 2 = st → ∀ nn nt, ExS lawC (n + 12) eiWInit st (rW l (junk.length + 2) b nn nt c) ([i, a] ++ (junk ++ [.list u])) .next (rW l (junk'.length + 2) b nn nt c) ([i, a] ++ (junk' ++ [.list u'])))
    (hb : 0 ≤ b ∧ b < u'.length ∧ b < 2 ^ 62) (hu : u'.length ≤ lim) (hx : u'[b.toNat]? = some (.int x)) (hv : u'.set b.toNat (.int (x + 1)) = v) {sts : List Stmt} (hs : wBody = sts) :
    ExL lawC (n + 15) eiWInit sts (rW l (junk.length + 2) b nn nt c) ([i, a] ++ (junk ++ [.list u])) .next (rW l (junk'.length + 2) 0 (nn + 1) (nt + 1) c) ([i, a] ++ (junk' ++ [.list v])) := by
  conv at hs => lhs; whnf
  subst hs
  exact L1 (sAsg rfl rfl (rBin (rName rfl) rInt bAdd) (gName rfl)) (L1 (sAsg rfl rfl (rBin (rName rfl) rInt bAdd) (gName rfl)) (L1 (hif _ rfl _ _) (w_cnt hb hu hx hv rfl)))
theorem wloop {n : Nat} {l : List Nat} (front : List Nat) (ys : List D) (hf : ∀ c ∈ front, c = 32 ∨ c = 9) (hl : front.length ≤ 10000) {t : Expr} {b : List Stmt} (hs : ∃ it q, nth (bodyOf (nth (bodyOf (topAt 24)) 1)) 4 = .For t it b [] q) (w : Wst) (hw : PW [] w) :
    (∀ f ρ' σ', ForM (loopB lawC (n + 20) eiWInit t b) ys (stW l (front.foldl stepW w)).1 (stW l (front.foldl stepW w)).2 f ρ' σ' → ForM (loopB lawC (n + 20) eiWInit t b) (front.map (fun c => D.str [c]) ++ ys) (stW l w).1 (stW l w).2 f ρ' σ') ∧ PW front (front.foldl stepW w) := by
  have hlim : lim = 16777216 := rfl
  obtain ⟨it, q, hs⟩ := hs
  conv at hs => lhs; whnf
  cases hs
  refine forFold (stW l) stepW PW (fun c => D.str [c]) front ys (fun pre w c post hx hp => ?_) w hw
  have hc : c = 32 ∨ c = 9 := hf c (by rw [hx]; simp)
  have hpl : pre.length + 1 ≤ 10000 := by
    have := hl
    rw [hx, List.length_append, List.length_cons] at this
    lia
  obtain ⟨b, nn, nt, cnt, junk, ch⟩ := w
  obtain ⟨h1, h2, h3⟩ := hp
  dsimp only at h1 h2 h3
  rcases hc with rfl | rfl
  · refine ⟨?_, ?_⟩
    · have e : stepW ⟨b, nn, nt, cnt, junk, ch⟩ 32 = ⟨b + 1, nn + 1, nt, cnt, junk, some 32⟩ := rfl
      rw [e]
      cases ch <;> exact lB (gName rfl) (L1' (sIfT (tCmp (rName rfl) (rName rfl) (eq_str _ _)) (L1 (sAsg rfl rfl (rBin (rName rfl) rInt bAdd) (gName rfl)) (L1' (sAsg rfl rfl (rBin (rName rfl) rInt bAdd) (gName rfl))))))
    · show 0 ≤ b + 1 ∧ b + 1 ≤ ((pre ++ [32]).length : Int) ∧ cnt.length ≤ (pre ++ [32]).length
      rw [List.length_append, List.length_singleton]
      lia
  · have hlen : (cnt.map D.int).length ≤ lim := by rw [List.length_map]; lia
    by_cases hb : b ≥ cnt.length
    · have hv : cnt.map D.int ++ List.replicate (b - ((cnt.map D.int).length : Int) + 1).toNat (D.int 0) = (cnt ++ List.replicate (b - cnt.length + 1).toNat 0).map D.int := by rw [List.map_append, List.map_replicate, List.length_map]
      have hc1 : (cnt ++ List.replicate (b - cnt.length + 1).toNat (0 : Int)).length = (b + 1).toNat := by rw [List.length_append, List.length_replicate]; lia
      have e : stepW ⟨b, nn, nt, cnt, junk, ch⟩ 9 = ⟨0, nn + 1, nt + 1, (cnt ++ List.replicate (b - cnt.length + 1).toNat 0).set b.toNat ((cnt ++ List.replicate (b - cnt.length + 1).toNat 0).getD b.toNat 0 + 1), junk ++ [.list (cnt.map .int)], some 9⟩ := by
        unfold stepW; rw [if_neg (by decide), if_pos hb]
      rw [e]
      generalize hg : cnt ++ List.replicate (b - cnt.length + 1).toNat (0 : Int) = c1 at hv hc1
      have hbn : b.toNat < c1.length := by lia
      refine ⟨?_, ?_⟩
      · have T := w_tab (n := n + 1) (l := l) (b := b) (nn := nn) (nt := nt) (c := 9) (i := .inst 206 1) (a := .attrs [Str.ofString "raw"] [.str l]) (junk := junk) (junk' := junk ++ [.list (cnt.map .int)]) (u := cnt.map .int) (u' := c1.map .int) (v := (c1.set b.toNat (c1.getD b.toNat 0 + 1)).map .int) (x := c1.getD b.toNat 0)
          (fun st hst nn nt => w_ext hlen (by rw [List.length_map]; exact hb) (by lia) hv hst) (by rw [List.length_map]; lia) (by rw [List.length_map]; lia) (map_get hbn) (List.map_set ..).symm rfl
        cases ch <;> exact lB (gName rfl) (L1' (sIfF (tCmp (rName rfl) (rName rfl) (eq_str _ _)) (L1' (sIfT (tCmp (rName rfl) (rName rfl) (eq_str _ _)) T))))
      · show 0 ≤ (0 : Int) ∧ (0 : Int) ≤ ((pre ++ [9]).length : Int) ∧ _ ≤ (pre ++ [9]).length
        rw [List.length_append, List.length_singleton, List.length_set, hc1]
        lia
    · have e : stepW ⟨b, nn, nt, cnt, junk, ch⟩ 9 = ⟨0, nn + 1, nt + 1, cnt.set b.toNat (cnt.getD b.toNat 0 + 1), junk, some 9⟩ := by
        unfold stepW; rw [if_neg (by decide), if_neg hb]
      have hbn : b.toNat < cnt.length := by lia
      rw [e]
      refine ⟨?_, ?_⟩
      · have T := w_tab (n := n + 1) (l := l) (b := b) (nn := nn) (nt := nt) (c := 9) (i := .inst 206 1) (a := .attrs [Str.ofString "raw"] [.str l]) (junk := junk) (junk' := junk) (u := cnt.map .int) (u' := cnt.map .int) (v := (cnt.set b.toNat (cnt.getD b.toNat 0 + 1)).map .int) (x := cnt.getD b.toNat 0)
          (fun st hst nn nt => w_noext hlen (by rw [List.length_map]; exact hb) hst) (by rw [List.length_map]; lia) (by rw [List.length_map]; lia) (map_get hbn) (List.map_set ..).symm rfl
        cases ch <;> exact lB (gName rfl) (L1' (sIfF (tCmp (rName rfl) (rName rfl) (eq_str _ _)) (L1' (sIfT (tCmp (rName rfl) (rName rfl) (eq_str _ _)) T))))
      · show 0 ≤ (0 : Int) ∧ (0 : Int) ≤ ((pre ++ [9]).length : Int) ∧ (cnt.set b.toNat (cnt.getD b.toNat 0 + 1)).length ≤ (pre ++ [9]).length
        rw [List.length_append, List.length_singleton, List.length_set]
        lia
end
section
noncomputable def w0 : Wst := ⟨0, 0, 0, [], [], none⟩
noncomputable def wsInst (l : List Nat) (w : Wst) : D := .inst 206 [Str.ofString "raw", Str.ofString "n", Str.ofString "nt", Str.ofString "norm", Str.ofString "is_simple"] [.str l, .int w.n, .int w.nt, .tup [.tup (w.cnt.map .int), .int w.b], .bool (decide ((w.cnt.length : Int) ≤ 1))]
/- the white front ends here -/
noncomputable def endsF (rest : List Nat) : Prop := ∀ c r, rest = c :: r → c ≠ 32 ∧ c ≠ 9
theorem wbreak {n : Nat} {l rest : List Nat} (hr : endsF rest) {t : Expr} {b : List Stmt} (hs : ∃ it q, nth (bodyOf (nth (bodyOf (topAt 24)) 1)) 4 = .For t it b [] q) (w : Wst) :
    ∃ ch', ForM (loopB lawC (n + 20) eiWInit t b) (rest.map (fun c => D.str [c])) (stW l w).1 (stW l w).2 .next (stW l { w with ch := ch' }).1 (stW l { w with ch := ch' }).2 := by
  obtain ⟨it, q, hs⟩ := hs
  conv at hs => lhs; whnf
  cases hs
  obtain ⟨b, nn, nt, cnt, junk, ch⟩ := w
  cases rest with
  | nil => exact ⟨ch, f0⟩
  | cons c r =>
    obtain ⟨h1, h2⟩ := hr c r rfl
    have e1 : CmpD .Eq (.str [c]) (.str [32]) false := by
      rw [← show ([c] == [32]) = false by simp [h1]]; exact eq_str _ _
    have e2 : CmpD .Eq (.str [c]) (.str [9]) false := by
      rw [← show ([c] == [9]) = false by simp [h2]]; exact eq_str _ _
    refine ⟨some c, ?_⟩
    cases ch <;> exact fB (lB (gName rfl) (LB (sIfF (tCmp (rName rfl) (rName rfl) e1) (LB (sIfF (tCmp (rName rfl) (rName rfl) e2) (LB sBrk))))))
theorem wend {n : Nat} {l : List Nat} (w : Wst) (hc : w.cnt.length ≤ 10000) {sts : List Stmt} (hs : (bodyOf (nth (bodyOf (topAt 24)) 1)).drop 5 = sts) :
    ∃ ρ', ExL lawC (n + 20) eiWInit sts (stW l w).1 (stW l w).2 .next ρ' (([.inst 206 1, .attrs [Str.ofString "raw", Str.ofString "n", Str.ofString "nt", Str.ofString "norm", Str.ofString "is_simple"] [.str l, .int w.n, .int w.nt, .tup [.tup (w.cnt.map .int), .int w.b], .bool (decide ((w.cnt.length : Int) ≤ 1))]] : Store) ++ (w.junk ++ ([.list (w.cnt.map .int)] : Store))) := by
  conv at hs => lhs; whnf
  subst hs
  obtain ⟨b, nn, nt, cnt, junk, ch⟩ := w
  have hlen : (cnt.map D.int).length ≤ lim := by rw [List.length_map]; exact Nat.le_trans hc (by decide)
  have hcm : CmpD .LtE (.int ((cnt.map D.int).length : Int)) (.int 1) (decide ((cnt.length : Int) ≤ 1)) := by
    rw [List.length_map]; exact cLe
  refine ⟨(stW l ⟨b, nn, nt, cnt, junk, ch⟩).1, ?_⟩
  exact L1 (ρ₁ := (stW l ⟨b, nn, nt, cnt, junk, ch⟩).1) (σ₁ := ([.inst 206 1, .attrs [Str.ofString "raw", Str.ofString "n"] [.str l, .int nn]] : Store) ++ (junk ++ ([.list (cnt.map .int)] : Store))) (sAsg rfl rfl (rName rfl) (gAttr (rName rfl) rfl))
    (L1 (ρ₁ := (stW l ⟨b, nn, nt, cnt, junk, ch⟩).1) (σ₁ := ([.inst 206 1, .attrs [Str.ofString "raw", Str.ofString "n", Str.ofString "nt"] [.str l, .int nn, .int nt]] : Store) ++ (junk ++ ([.list (cnt.map .int)] : Store))) (sAsg rfl rfl (rName rfl) (gAttr (rName rfl) rfl))
    (L1 (ρ₁ := (stW l ⟨b, nn, nt, cnt, junk, ch⟩).1) (σ₁ := ([.inst 206 1, .attrs [Str.ofString "raw", Str.ofString "n", Str.ofString "nt", Str.ofString "norm"] [.str l, .int nn, .int nt, .tup [.tup (cnt.map .int), .int b]]] : Store) ++ (junk ++ ([.list (cnt.map .int)] : Store))) (sAsg rfl rfl (rTup rfl (rEs (rCall rfl rfl (rEs (rName rfl) rEs0) (rBi (eTupLoc (get_last _ _ _ junk) hlen))) (rEs (rName rfl) rEs0))) (gAttr (rName rfl) rfl))
    (L1' (sAsg rfl rfl (rCmp (rCall rfl rfl (rEs (rName rfl) rEs0) (rBi (eLenLoc (get_last _ _ _ junk) hlen))) rInt hcm) (gAttr (rName rfl) rfl)))))
theorem ws_ok {n : Nat} {front rest : List Nat} {σ : Store} (hf : ∀ c ∈ front, c = 32 ∨ c = 9) (hr : endsF rest) (hl : (front ++ rest).length ≤ 10000) :
    CallD lawC (n + 30) (.old (.ref 206)) [.str (front ++ rest)] σ (wsInst (front ++ rest) (front.foldl stepW w0)) σ := by
  have hfl : front.length ≤ 10000 := by rw [List.length_append] at hl; lia
  have hp0 : PW [] w0 := ⟨Int.le_refl _, Int.le_refl _, Nat.le_refl _⟩
  have hm : (front ++ rest).map (fun c => D.str [c]) = front.map (fun c => D.str [c]) ++ rest.map (fun c => D.str [c]) := List.map_append
  have hlim : lim = 16777216 := rfl
  have A := fun t b hs => wloop (n := n + 2) (l := front ++ rest) (t := t) (b := b) front (rest.map (fun c => D.str [c])) hf hfl hs w0 hp0
  have P := (A _ _ ⟨_, _, rfl⟩).2
  obtain ⟨ch', B⟩ := wbreak (n := n + 2) (l := front ++ rest) hr ⟨_, _, rfl⟩ (front.foldl stepW w0)
  have AB := (A _ _ ⟨_, _, rfl⟩).1 _ _ _ B
  rw [← hm] at AB
  obtain ⟨ρ', E⟩ := wend (n := n + 3) (l := front ++ rest) { front.foldl stepW w0 with ch := ch' } (by have := P.2.2; dsimp only; lia) rfl
  refine rCls rfl rfl rfl rfl (rRunN (ρ := [(k_self, .loc 0), (k_ws, .str (front ++ rest))]) eiWInit_ok (by (conv => lhs; whnf); try rfl) rfl rfl rfl
    (L1 (ρ₁ := [(k_self, .loc 0), (k_ws, .str (front ++ rest))]) (σ₁ := [.inst 206 1, .attrs [Str.ofString "raw"] [.str (front ++ rest)]]) (sAsg rfl rfl (rName rfl) (gAttr (rName rfl) rfl))
    (L1 (ρ₁ := [(k_self, .loc 0), (k_ws, .str (front ++ rest)), (k_S, .str [32]), (k_T, .str [9])]) (sAsgs rfl (vE rfl (rAttr rfl rfl) (vE rfl (rAttr rfl rfl) v0)) (gs (gName rfl) (gs (gName rfl) gs0)))
    (L1 (ρ₁ := [(k_self, .loc 0), (k_ws, .str (front ++ rest)), (k_S, .str [32]), (k_T, .str [9]), (k_count, .loc 2)]) (sAsgM rfl rfl (mList rfl rEs0) (gName rfl))
    (L1 (ρ₁ := (stW (front ++ rest) w0).1) (σ₁ := (stW (front ++ rest) w0).2) (sEach rfl rInt (gEach (gName rfl) (gEach (gName rfl) (gEach (gName rfl) gEach0))))
    (L1 (sFor (itE rfl (rAttr rfl rfl) rfl (by rw [List.length_map]; lia)) AB) E)))))) ?_
  show (true && (true && (true && ((D.pures ((front.foldl stepW w0).cnt.map .int) && true) && (true && true))))) = true
  rw [pures_ints]; rfl
end
section
/-! indent_level, equal -/
noncomputable def lvStep (cnt : List Int) (s : Int) (b : Int × Option Int) (k : Nat) : Int × Option Int := (b.1 + (s + (k : Int)).fdiv s * cnt.getD (s + (k : Int)).toNat 0, some (s + (k : Int)))
noncomputable def levelW (w : Wst) (s : Int) : Int := w.b + s * (((List.range ((w.cnt.length : Int) - s).toNat).foldl (lvStep w.cnt s) (0, none)).1 + w.nt)
noncomputable abbrev stLv (l : List Nat) (w : Wst) (s : Int) (σ : Store) (b : Int × Option Int) : VarsN × Store :=
  (([(k_self, wsInst l w), (k_tabsize, .int s), (k_count, .tup (w.cnt.map .int)), (k_trailing, .int w.b), (k_il, .int b.1)] : VarsN) ++ (match b.2 with | none => ([] : VarsN) | some i => ([(k_i, .int i)] : VarsN)), σ)
theorem eItemT {σ : Store} {u : List D} {i : Int} {d : D} (h0 : 0 ≤ i ∧ i < 2 ^ 62) (hx : u[i.toNat]? = some d) : itemD σ (.tup u) (.int i) = some d := (if_pos h0).trans hx
theorem lvloop {n : Nat} {l : List Nat} {w : Wst} {s : Int} {σ : Store} (hs1 : 1 ≤ s ∧ s ≤ 64) (hc : w.cnt.length ≤ 10000) {t : Expr} {b : List Stmt} (hs : ∃ it q, nth (bodyOf (nth (bodyOf (topAt 24)) 3)) 2 = .For t it b [] q) :
    ForM (loopB lawC (n + 10) eiLevel t b) ((List.range ((w.cnt.length : Int) - s).toNat).map fun (k : Nat) => D.int (s + (k : Int))) (stLv l w s σ (0, none)).1 σ .next (stLv l w s σ ((List.range ((w.cnt.length : Int) - s).toNat).foldl (lvStep w.cnt s) (0, none))).1 σ := by
  obtain ⟨it, q, hs⟩ := hs
  conv at hs => lhs; whnf
  cases hs
  refine forFold0 (stLv l w s σ) (lvStep w.cnt s) (fun _ _ => True) (fun (k : Nat) => D.int (s + (k : Int))) _ (0, none) (fun pre b k post hx _ => ⟨?_, trivial⟩) trivial
  have hk : k < ((w.cnt.length : Int) - s).toNat := List.mem_range.mp (by rw [hx]; simp)
  have hi : 0 ≤ s + (k : Int) ∧ s + (k : Int) < 2 ^ 62 := by lia
  have hg : (w.cnt.map D.int)[(s + (k : Int)).toNat]? = some (.int (w.cnt.getD (s + (k : Int)).toNat 0)) := map_get (by lia)
  have hd : s ≠ 0 ∧ s.natAbs < 2 ^ 32 := by lia
  have hm : ((s + (k : Int)).fdiv s).natAbs < 2 ^ 32 ∨ (w.cnt.getD (s + (k : Int)).toNat 0).natAbs < 2 ^ 32 := by
    left
    have h1 : (s + (k : Int)).fdiv s = (s + (k : Int)) / s := Int.fdiv_eq_ediv_of_nonneg _ (by lia)
    have h2 : (s + (k : Int)) / s ≤ s + (k : Int) := Int.ediv_le_self _ (by lia)
    have h3 : 0 ≤ (s + (k : Int)) / s := Int.ediv_nonneg (by lia) (by lia)
    rw [h1]; lia
  obtain ⟨il, o⟩ := b
  cases o <;> exact lB (gName rfl) (L1' (sAsg rfl rfl (rBin (rName rfl) (rBin (rBin (rName rfl) (rName rfl) (bDiv hd)) (rItem rfl (rName rfl) (rName rfl) (eItemT hi hg)) (bMul hm)) bAdd) (gName rfl)))
theorem pures_ws {l : List Nat} {w : Wst} : (wsInst l w).pure = true := by
  show (true && (true && (true && ((D.pures (w.cnt.map .int) && true) && (true && true))))) = true
  rw [pures_ints]; rfl
theorem level_ok {n : Nat} {l : List Nat} {w : Wst} {s : Int} {σ : Store} (hs1 : 1 ≤ s ∧ s ≤ 64) (hc : w.cnt.length ≤ 10000) : CallD lawC (n + 30) (.old (.ref 175)) [wsInst l w, .int s] σ (.int (levelW w s)) σ := by
  have hlim : lim = 16777216 := rfl
  have hlen : (w.cnt.map D.int).length ≤ lim := by rw [List.length_map]; lia
  refine' rDef (by show ((wsInst l w).pure && true) = true; rw [pures_ws]; rfl) rfl (rRunR (ρ := [(k_self, wsInst l w), (k_tabsize, .int s)]) eiLevel_ok (by (conv => lhs; whnf); try rfl) rfl rfl rfl
    (L1 (ρ₁ := [(k_self, wsInst l w), (k_tabsize, .int s), (k_count, .tup (w.cnt.map .int)), (k_trailing, .int w.b)]) (sAsg rfl rfl (rAttr rfl rfl) (gTup (gs (gName rfl) (gs (gName rfl) gs0))))
    (L1 (ρ₁ := (stLv l w s [] (0, none)).1) (sAsg rfl rfl rInt (gName rfl))
    (L1 (ρ₁ := (stLv l w s [] ((List.range ((w.cnt.length : Int) - s).toNat).foldl (lvStep w.cnt s) (0, none))).1) (sFor (itRange2 rfl rfl (rEs (rName rfl) (rEs (rCall rfl rfl (rEs (rName rfl) rEs0) (rBi (eLenT hlen))) rEs0)) ?r) ?f)
    (LR (sRet (rBin (rName rfl) (rBin (rName rfl) (rBin (rName rfl) (rAttr rfl rfl) bAdd) (bMul ?m)) bAdd))))))) rfl
  case r => rw [List.length_map]; lia
  case m => left; lia
  case f =>
    unfold rangeD
    rw [List.length_map]
    exact lvloop hs1 hc ⟨_, _, rfl⟩
theorem eq_norm (a b : List Int) (x y : Int) : CmpD .Eq (.tup [.tup (a.map .int), .int x]) (.tup [.tup (b.map .int), .int y]) ((a == b) && (x == y)) :=
  cEq ⟨_, _, psTup (pl1 (psTup (plMap (fun _ => psInt) a)) (pl1 psInt pl0)), psTup (pl1 (psTup (plMap (fun _ => psInt) b)) (pl1 psInt pl0)), fun _ => by
    show (PyData.eqvAll (a.map .int) (b.map .int) && ((x == y) && true)) = _
    rw [eqv_ints, Bool.and_true]⟩
theorem equal_ok {n : Nat} {l l' : List Nat} {w w' : Wst} {σ : Store} : CallD lawC (n + 30) (.old (.ref 182)) [wsInst l w, wsInst l' w'] σ (.bool ((w.cnt == w'.cnt) && (w.b == w'.b))) σ := by
  refine' rDef (by show ((wsInst l w).pure && ((wsInst l' w').pure && true)) = true; rw [pures_ws, pures_ws]; rfl) rfl (rRunR (ρ := [(k_self, wsInst l w), (k_other, wsInst l' w')]) eiEqual_ok (by (conv => lhs; whnf); try rfl) rfl rfl rfl
    (LR (sRet (rCmp (rAttr rfl rfl) (rAttr rfl rfl) (eq_norm _ _ _ _))))) rfl
end
section
variable {rp : Bool}

/-! _law_world -/
theorem forFold1 {α β : Type} {F : D → VarsN → Store → Flo → VarsN → Store → Prop} (st : β → VarsN × Store) (step : β → α → β) (P : β → Prop) (g : α → D) (xs : List α) (b₀ : β)
    (hb : ∀ pre b x post, xs = pre ++ x :: post → P b → F (g x) (st b).1 (st b).2 .next (st (step b x)).1 (st (step b x)).2 ∧ P (step b x)) (h0 : P b₀) :
      ForM F (xs.map g) (st b₀).1 (st b₀).2 .next (st (xs.foldl step b₀)).1 (st (xs.foldl step b₀)).2 ∧ P (xs.foldl step b₀) := by
  exact forFold2 st step (fun _ => P) g xs b₀ hb h0
noncomputable abbrev tlP (o : Option (Int × Int)) : VarsN := match o with | none => [] | some (p, q) => [(k_place, .int p), (k_number, .int q)]
noncomputable abbrev stC (sc : List Int) (b : List Int × Option (Int × Int)) : VarsN × Store :=
  (([(k_script, .list (sc.map .int)), (k_cells, .loc 0), (k_left, .str []), (k_right, .str [])] : VarsN) ++ tlP b.2, ([.list (b.1.map .int)] : Store))
noncomputable def stepC (b : List Int × Option (Int × Int)) (x : Int × Nat) : List Int × Option (Int × Int) :=
  (b.1.set ((x.2 : Int).fmod 6).toNat (b.1.getD ((x.2 : Int).fmod 6).toNat 0 + x.1.fmod (10 ^ (6 : Int).toNat)), some ((x.2 : Int), x.1))
theorem eStoreLoc0 {u v : List D} {i : Int} {d : D} (h0 : 0 ≤ i ∧ i < u.length ∧ i < 2 ^ 62) (hv : u.set i.toNat d = v) : storeD [.list u] (.loc 0) (.int i) d = some [.list v] := eStoreLoc rfl h0 (by rw [← hv]; rfl)
theorem fmod_six (k : Int) : 0 ≤ k.fmod 6 ∧ k.fmod 6 < 6 := ⟨Int.fmod_nonneg_of_pos _ (by decide), Int.fmod_lt_of_pos _ (by decide)⟩
theorem cloop {n : Nat} {sc : List Int} (xs : List (Int × Nat)) (c0 : List Int) (hc0 : c0.length = 6) {t : Expr} {b : List Stmt} (hs : ∃ it q, nth (bodyOf (topAt 33)) 1 = .For t it b [] q) :
    ForM (loopB (lawB rp) (n + 12) eiWorld t b) (xs.map fun p => D.tup [.int (p.2 : Int), .int p.1]) (stC sc (c0, none)).1 (stC sc (c0, none)).2 .next (stC sc (xs.foldl stepC (c0, none))).1 (stC sc (xs.foldl stepC (c0, none))).2 ∧ (xs.foldl stepC (c0, none)).1.length = 6 := by
  obtain ⟨it, q, hs⟩ := hs
  conv at hs => lhs; whnf
  cases hs
  refine forFold1 (stC sc) stepC (fun b => b.1.length = 6) (fun (p : Int × Nat) => D.tup [.int (p.2 : Int), .int p.1]) xs (c0, none) (fun pre b x post hx hp => ?_) hc0
  · obtain ⟨cs, o⟩ := b
    obtain ⟨m, k⟩ := x
    dsimp only at hp
    obtain ⟨h1, h2⟩ := fmod_six (k : Int)
    have hi : ((k : Int).fmod 6).toNat < cs.length := by omega
    have hit : 0 ≤ (k : Int).fmod 6 ∧ (k : Int).fmod 6 < 2 ^ 62 ∧ (cs.map D.int).length ≤ lim := ⟨h1, by omega, by rw [List.length_map, hp]; decide⟩
    have hst : 0 ≤ (k : Int).fmod 6 ∧ (k : Int).fmod 6 < (cs.map D.int).length ∧ (k : Int).fmod 6 < 2 ^ 62 := ⟨h1, by rw [List.length_map]; omega, by omega⟩
    refine ⟨?_, ?_⟩
    · cases o <;> exact lB (gTup (gs (gName rfl) (gs (gName rfl) gs0))) (L1' (sAugI rfl (rBin (rName rfl) rInt (bMod (by decide))) (eItemLoc (u := cs.map .int) rfl hit (map_get hi)) (rBin (rName rfl) (rBin rInt rInt (bPow (by decide))) (bMod (by decide))) gAdd (eStoreLoc0 hst (List.map_set ..).symm)))
    · show (cs.set _ _).length = 6
      rw [List.length_set]; exact hp

noncomputable def blanks (l : List Nat) : Prop := ∀ c ∈ l, c = 32 ∨ c = 9
theorem blanks_app {a b : List Nat} (h : blanks a) (k : blanks b) : blanks (a ++ b) := fun c hc => (List.mem_append.mp hc).elim (h c) (k c)
theorem blanks_reps {x : Nat} (hx : x = 32 ∨ x = 9) : ∀ n, blanks (reps [x] n)
  | 0 => fun c hc => by simp [reps] at hc
  | n + 1 => blanks_app (fun c hc => by rw [List.mem_singleton.mp hc]; exact hx) (blanks_reps hx n)
noncomputable def tabN (x : Int) : Int := [(1 : Int), 1, 2, 0].getD ((x.fdiv 6).fmod 4).toNat 0
theorem tabN_le (x : Int) : 0 ≤ tabN x ∧ tabN x ≤ 2 := by
  unfold tabN
  have h1 : 0 ≤ (x.fdiv 6).fmod 4 := Int.fmod_nonneg_of_pos _ (by decide)
  have h2 : (x.fdiv 6).fmod 4 < 4 := Int.fmod_lt_of_pos _ (by decide)
  generalize (x.fdiv 6).fmod 4 = i at h1 h2
  have : i = 0 ∨ i = 1 ∨ i = 2 ∨ i = 3 := by omega
  rcases this with rfl | rfl | rfl | rfl <;> decide
theorem eTabs {σ : Store} (x : Int) : itemD σ (.list [.int 1, .int 1, .int 2, .int 0]) (.int ((x.fdiv 6).fmod 4)) = some (.int (tabN x)) := by
  unfold tabN
  have h1 : 0 ≤ (x.fdiv 6).fmod 4 := Int.fmod_nonneg_of_pos _ (by decide)
  have h2 : (x.fdiv 6).fmod 4 < 4 := Int.fmod_lt_of_pos _ (by decide)
  generalize (x.fdiv 6).fmod 4 = i at h1 h2
  have : i = 0 ∨ i = 1 ∨ i = 2 ∨ i = 3 := by omega
  rcases this with rfl | rfl | rfl | rfl <;> rfl
noncomputable abbrev tlQ (o : Option (Int × Int × Int)) : VarsN := match o with | none => [] | some (a, b, c) => [(k_one, .int a), (k_two, .int b), (k_more, .int c)]
noncomputable abbrev stD (sc cs : List Int) (o : Option (Int × Int)) (b : List Nat × List Nat × Option (Int × Int × Int)) : VarsN × Store :=
  (([(k_script, .list (sc.map .int)), (k_cells, .loc 0), (k_left, .str b.1), (k_right, .str b.2.1)] : VarsN) ++ (tlP o ++ tlQ b.2.2), ([.list (cs.map .int)] : Store))
noncomputable def stepD (b : List Nat × List Nat × Option (Int × Int × Int)) (x : Int × Int × Int) : List Nat × List Nat × Option (Int × Int × Int) :=
  (b.1 ++ (reps [32] (x.1.fmod 6).toNat ++ reps [9] (tabN x.1).toNat), b.2.1 ++ (reps [32] (x.2.1.fmod 6 + x.2.2).toNat ++ reps [9] (tabN x.2.1).toNat), some x)
noncomputable def PD (pre : List (Int × Int × Int)) (b : List Nat × List Nat × Option (Int × Int × Int)) : Prop := b.1.length ≤ 10 * pre.length ∧ b.2.1.length ≤ 10 * pre.length ∧ blanks b.1 ∧ blanks b.2.1
theorem dloop {n : Nat} {sc cs : List Int} {o : Option (Int × Int)} (xs : List (Int × Int × Int)) (hx3 : xs.length ≤ 3) (hm : ∀ x ∈ xs, 0 ≤ x.2.2 ∧ x.2.2 ≤ 2) {t : Expr} {b : List Stmt} (hs : ∃ it q, nth (bodyOf (topAt 33)) 2 = .For t it b [] q) :
    ForM (loopB (lawB rp) (n + 20) eiWorld t b) (xs.map fun p => D.tup [.int p.1, .int p.2.1, .int p.2.2]) (stD sc cs o ([], [], none)).1 (stD sc cs o ([], [], none)).2 .next (stD sc cs o (xs.foldl stepD ([], [], none))).1 (stD sc cs o (xs.foldl stepD ([], [], none))).2 ∧ PD xs (xs.foldl stepD ([], [], none)) := by
  have hlim : lim = 16777216 := rfl
  obtain ⟨it, q, hs⟩ := hs
  conv at hs => lhs; whnf
  cases hs
  refine forFold2 (stD sc cs o) stepD PD (fun (p : Int × Int × Int) => D.tup [.int p.1, .int p.2.1, .int p.2.2]) xs ([], [], none) (fun pre b x post hx hp => ?_) ⟨Nat.le_refl _, Nat.le_refl _, fun _ h => absurd h List.not_mem_nil, fun _ h => absurd h List.not_mem_nil⟩
  obtain ⟨l, r, q⟩ := b
  obtain ⟨one, two, more⟩ := x
  obtain ⟨p1, p2, p3, p4⟩ := hp
  dsimp only at p1 p2 p3 p4
  have hpl : pre.length + 1 ≤ 3 := by rw [hx, List.length_append, List.length_cons] at hx3; lia
  obtain ⟨m1, m2⟩ := hm (one, two, more) (by rw [hx]; simp)
  dsimp only at m1 m2
  obtain ⟨a1, a2⟩ := fmod_six one
  obtain ⟨b1, b2⟩ := fmod_six two
  obtain ⟨t1, t2⟩ := tabN_le one
  obtain ⟨u1, u2⟩ := tabN_le two
  have L1' : (reps [32] (one.fmod 6).toNat).length = (one.fmod 6).toNat := by rw [reps_len]; simp
  have L2' : (reps [9] (tabN one).toNat).length = (tabN one).toNat := by rw [reps_len]; simp
  have L3' : (reps [32] (two.fmod 6 + more).toNat).length = (two.fmod 6 + more).toNat := by rw [reps_len]; simp
  have L4' : (reps [9] (tabN two).toNat).length = (tabN two).toNat := by rw [reps_len]; simp
  have e1 : (l ++ (reps [32] (one.fmod 6).toNat ++ reps [9] (tabN one).toNat)).length = l.length + (one.fmod 6).toNat + (tabN one).toNat := by simp only [List.length_append, L1', L2']; lia
  have e2 : (r ++ (reps [32] (two.fmod 6 + more).toNat ++ reps [9] (tabN two).toNat)).length = r.length + (two.fmod 6 + more).toNat + (tabN two).toNat := by simp only [List.length_append, L3', L4']; lia
  have c1 : l.length + (reps [32] (one.fmod 6).toNat ++ reps [9] (tabN one).toNat).length ≤ lim := by rw [List.length_append, L1', L2']; omega
  have c2 : r.length + (reps [32] (two.fmod 6 + more).toNat ++ reps [9] (tabN two).toNat).length ≤ lim := by rw [List.length_append, L3', L4']; omega
  have d1 : (reps [32] (one.fmod 6).toNat).length + (reps [9] (tabN one).toNat).length ≤ lim := by omega
  have d2 : (reps [32] (two.fmod 6 + more).toNat).length + (reps [9] (tabN two).toNat).length ≤ lim := by omega
  refine ⟨?_, ?_, ?_, ?_, ?_⟩
  · cases o <;> cases q <;> exact lB (gTup (gs (gName rfl) (gs (gName rfl) (gs (gName rfl) gs0)))) (L1 (sAug rfl (rBin (rBin (rStr (l := [32]) rfl rfl) (rBin (rName rfl) rInt (bMod (by decide))) (bMulS (by simp; omega))) (rBin (rStr (l := [9]) rfl rfl) (rItem rfl (rList rfl (rEs rInt (rEs rInt (rEs rInt (rEs rInt rEs0))))) (rBin (rBin (rName rfl) rInt (bDiv (by decide))) rInt (bMod (by decide))) (eTabs one)) (bMulS (by simp; omega))) (bAddS d1)) (gAddS c1) rfl)
      (Mine.L1' (sAug rfl (rBin (rBin (rStr (l := [32]) rfl rfl) (rBin (rBin (rName rfl) rInt (bMod (by decide))) (rName rfl) bAdd) (bMulS (by simp; omega))) (rBin (rStr (l := [9]) rfl rfl) (rItem rfl (rList rfl (rEs rInt (rEs rInt (rEs rInt (rEs rInt rEs0))))) (rBin (rBin (rName rfl) rInt (bDiv (by decide))) rInt (bMod (by decide))) (eTabs two)) (bMulS (by simp; omega))) (bAddS d2)) (gAddS c2) rfl)))
  · show (l ++ _).length ≤ 10 * (pre ++ [_]).length
    rw [e1, List.length_append, List.length_singleton]; omega
  · show (r ++ _).length ≤ 10 * (pre ++ [_]).length
    rw [e2, List.length_append, List.length_singleton]; omega
  · exact blanks_app p3 (blanks_app (blanks_reps (.inl rfl) _) (blanks_reps (.inr rfl) _))
  · exact blanks_app p4 (blanks_app (blanks_reps (.inl rfl) _) (blanks_reps (.inr rfl) _))
end
section
variable {rp : Bool}

noncomputable def texts : List (List Nat) := [[], [120], [97, 9, 38], [60, 98, 62, 9], [61, 9, 9, 34], [233, 32, 9, 95]]
theorem eTexts {σ : Store} {i : Int} (h1 : 0 ≤ i) (h2 : i < 6) : itemD σ (.list [.str [], .str [120], .str [97, 9, 38], .str [60, 98, 62, 9], .str [61, 9, 9, 34], .str [233, 32, 9, 95]]) (.int i) = some (.str (texts.getD i.toNat [])) := by
  have : i = 0 ∨ i = 1 ∨ i = 2 ∨ i = 3 ∨ i = 4 ∨ i = 5 := by lia
  rcases this with rfl | rfl | rfl | rfl | rfl | rfl <;> rfl
theorem enum_ints (l : List Int) : enumD (l.map .int) = l.zipIdx.map fun p => D.tup [.int (p.2 : Int), .int p.1] := by
  unfold enumD
  rw [List.zipIdx_map, List.map_map]
  rfl
noncomputable def sizeN (c : Int) (k : Nat) : Int := 1 + (c.fdiv (4 ^ ((0 : Int) + (k : Int)).toNat)).fmod 4
theorem sizeN_le (c : Int) (k : Nat) : 1 ≤ sizeN c k ∧ sizeN c k ≤ 4 := by
  unfold sizeN
  have h1 := Int.fmod_nonneg_of_pos (c.fdiv (4 ^ ((0 : Int) + (k : Int)).toNat)) (show (0 : Int) < 4 by decide)
  have h2 := Int.fmod_lt_of_pos (c.fdiv (4 ^ ((0 : Int) + (k : Int)).toNat)) (show (0 : Int) < 4 by decide)
  omega
/- what the world is -/
structure WorldIs (s0 s1 s2 wide which : Int) (left right text : List Nat) : Prop where
  s0 : 1 ≤ s0 ∧ s0 ≤ 4
  s1 : 1 ≤ s1 ∧ s1 ≤ 4
  s2 : 1 ≤ s2 ∧ s2 ≤ 4
  wide : 5 ≤ wide ∧ wide ≤ 16
  which : 0 ≤ which ∧ which < 5
  left : blanks left ∧ left.length ≤ 40
  right : blanks right ∧ right.length ≤ 40
  text : ∃ i, i < 6 ∧ text = texts.getD i []
theorem pow_four {k : Nat} (h : k < 3) : (4 : Int) ^ ((0 : Int) + (k : Int)).toNat ≠ 0 ∧ ((4 : Int) ^ ((0 : Int) + (k : Int)).toNat).natAbs < 2 ^ 32 := by
  have : k = 0 ∨ k = 1 ∨ k = 2 := by lia
  rcases this with rfl | rfl | rfl <;> decide
theorem wtail {n : Nat} {sc : List Int} {c0 c1 c2 c3 c4 c5 : Int} {o : Option (Int × Int)} {l r : List Nat} {x : Int × Int × Int} (hl : l.length ≤ 30) (hr : r.length ≤ 30) {sts : List Stmt} (hs : (bodyOf (topAt 33)).drop 3 = sts) :
    ∃ ρ', ExL (lawB rp) (n + 30) eiWorld sts (stD sc [c0, c1, c2, c3, c4, c5] o (l, r, some x)).1 (stD sc [c0, c1, c2, c3, c4, c5] o (l, r, some x)).2 
      (.ret (.tup [.list [.int (sizeN c0 0), .int (sizeN c0 1), .int (sizeN c0 2)], .int (5 + (c5.fdiv 10).fmod 12), .list [.str (l ++ reps [32] ((c4.fdiv 3).fmod 3).toNat), .str (r ++ reps [32] ((c4.fdiv 3).fmod 3 + (c5.fdiv 2).fmod 2).toNat)], .str (texts.getD ((c4.fdiv 9).fmod 6).toNat []), .int (c5.fmod 5)])) ρ' (stD sc [c0, c1, c2, c3, c4, c5] o (l, r, some x)).2 := by
  have hlim : lim = 16777216 := rfl
  conv at hs => lhs; whnf
  subst hs
  have a1 := Int.fmod_nonneg_of_pos (c4.fdiv 3) (show (0 : Int) < 3 by decide)
  have a2 := Int.fmod_lt_of_pos (c4.fdiv 3) (show (0 : Int) < 3 by decide)
  have b1 := Int.fmod_nonneg_of_pos (c5.fdiv 2) (show (0 : Int) < 2 by decide)
  have b2 := Int.fmod_lt_of_pos (c5.fdiv 2) (show (0 : Int) < 2 by decide)
  obtain ⟨d1, d2⟩ := fmod_six (c4.fdiv 9)
  have e1 : l.length + (reps [32] ((c4.fdiv 3).fmod 3).toNat).length ≤ lim := by rw [reps_len, List.length_singleton]; omega
  have e2 : r.length + (reps [32] ((c4.fdiv 3).fmod 3 + (c5.fdiv 2).fmod 2).toNat).length ≤ lim := by rw [reps_len, List.length_singleton]; omega
  cases o <;> refine ⟨_, L1 (sAug rfl (rBin (rStr (l := [32]) rfl rfl) (rBin (rBin (rItem rfl (rName rfl) rInt rfl) rInt (bDiv (by decide))) rInt (bMod (by decide))) (bMulS (by simp; omega))) (gAddS e1) rfl)
    (L1 (sAug rfl (rBin (rStr (l := [32]) rfl rfl) (rBin (rBin (rBin (rItem rfl (rName rfl) rInt rfl) rInt (bDiv (by decide))) rInt (bMod (by decide))) (rBin (rBin (rItem rfl (rName rfl) rInt rfl) rInt (bDiv (by decide))) rInt (bMod (by decide))) bAdd) (bMulS (by simp; omega))) (gAddS e2) rfl)
    (L1 (sAsg rfl rfl (rItem rfl (rList rfl (rEs (rStr (l := []) rfl rfl) (rEs (rStr (l := [120]) rfl rfl) (rEs (rStr (l := [97, 9, 38]) rfl rfl) (rEs (rStr (l := [60, 98, 62, 9]) rfl rfl) (rEs (rStr (l := [61, 9, 9, 34]) rfl rfl) (rEs (rStr (l := [233, 32, 9, 95]) rfl rfl) rEs0))))))) (rBin (rBin (rItem rfl (rName rfl) rInt rfl) rInt (bDiv (by decide))) rInt (bMod (by decide))) (eTexts d1 d2)) (gName rfl))
    (LR (sRet (rTup rfl (rEs (rLC (es := [.int (sizeN c0 0), .int (sizeN c0 1), .int (sizeN c0 2)]) (σ₂ := [.list [.int c0, .int c1, .int c2, .int c3, .int c4, .int c5]]) rfl (itRange1 rfl rfl (rEs rInt rEs0) ⟨by decide, by decide⟩) ?_ (show 3 ≤ lim by decide)) (rEs (rBin rInt (rBin (rBin (rItem rfl (rName rfl) rInt rfl) rInt (bDiv (by decide))) rInt (bMod (by decide))) bAdd) (rEs (rList rfl (rEs (rName rfl) (rEs (rName rfl) rEs0))) (rEs (rName rfl) (rEs (rBin (rItem rfl (rName rfl) rInt rfl) rInt (bMod (by decide))) rEs0))))))))))⟩
  all_goals exact cMap (xs := List.range 3) (g := fun (k : Nat) => D.int ((0 : Int) + (k : Int))) (f := fun (k : Nat) => .int (sizeN c0 k)) (fun k hk => cB (gName rfl) (rBin rInt (rBin (rBin (rItem rfl (rName rfl) rInt rfl) (rBin rInt (rName rfl) (bPow (by have := List.mem_range.mp hk; lia))) (bDiv (pow_four (List.mem_range.mp hk)))) rInt (bMod (by decide))) bAdd))

theorem six {l : List Int} (h : l.length = 6) : ∃ a b c d e f, l = [a, b, c, d, e, f] := by
  match l, h with
  | [a, b, c, d, e, f], _ => exact ⟨a, b, c, d, e, f, rfl⟩
theorem world_ok (script : List Int) (hsc : script.length ≤ 63) : ∃ s0 s1 s2 wide which left right text, WorldIs s0 s1 s2 wide which left right text ∧
    ∀ (rp : Bool) n σ, CallD (lawB rp) (n + 60) (.old (.ref 257)) [.list (script.map .int)] σ (.tup [.list [.int s0, .int s1, .int s2], .int wide, .list [.str left, .str right], .str text, .int which]) σ := by
  have hlim : lim = 16777216 := rfl
  have A := fun rp n => cloop (rp := rp) (n := n) (sc := script) ((script.take 60).zipIdx) [30, 9, 5, 6, 21, 12] rfl (t := _) (b := _) ⟨_, _, rfl⟩
  obtain ⟨c0, c1, c2, c3, c4, c5, hc⟩ := six (A true 0).2
  have hm : ∀ x ∈ [(c1, c3, (0 : Int)), (c2, c2, c4.fmod 3), (c3, c1, 0)], 0 ≤ x.2.2 ∧ x.2.2 ≤ 2 := by
    have a1 := Int.fmod_nonneg_of_pos c4 (show (0 : Int) < 3 by decide)
    have a2 := Int.fmod_lt_of_pos c4 (show (0 : Int) < 3 by decide)
    intro x hx
    rcases List.mem_cons.mp hx with rfl | hx
    · exact ⟨by simp, by simp⟩
    · rcases List.mem_cons.mp hx with rfl | hx
      · exact ⟨a1, by dsimp only; omega⟩
      · rcases List.mem_singleton.mp hx with rfl
        exact ⟨by simp, by simp⟩
  generalize ho : (List.foldl stepC ([30, 9, 5, 6, 21, 12], none) (script.take 60).zipIdx).2 = o
  have B := fun rp n => dloop (rp := rp) (n := n) (sc := script) (cs := [c0, c1, c2, c3, c4, c5]) (o := o) [(c1, c3, 0), (c2, c2, c4.fmod 3), (c3, c1, 0)] (Nat.le_refl 3) hm (t := _) (b := _) ⟨_, _, rfl⟩
  have hq : (List.foldl stepD ([], [], none) [(c1, c3, (0 : Int)), (c2, c2, c4.fmod 3), (c3, c1, 0)]).2.2 = some (c3, c1, 0) := rfl
  generalize hB : List.foldl stepD ([], [], none) [(c1, c3, (0 : Int)), (c2, c2, c4.fmod 3), (c3, c1, 0)] = Bv at B hq
  obtain ⟨l, r, q⟩ := Bv
  dsimp only at hq
  subst hq
  obtain ⟨p1, p2, p3, p4⟩ := (B true 0).2
  have p1' : l.length ≤ 30 := p1
  have p2' : r.length ≤ 30 := p2
  have d1 := fmod_six (c4.fdiv 9)
  have e1 := Int.fmod_nonneg_of_pos (c4.fdiv 3) (show (0 : Int) < 3 by decide)
  have e2 := Int.fmod_lt_of_pos (c4.fdiv 3) (show (0 : Int) < 3 by decide)
  have f1 := Int.fmod_nonneg_of_pos (c5.fdiv 2) (show (0 : Int) < 2 by decide)
  have f2 := Int.fmod_lt_of_pos (c5.fdiv 2) (show (0 : Int) < 2 by decide)
  have g1 := Int.fmod_nonneg_of_pos (c5.fdiv 10) (show (0 : Int) < 12 by decide)
  have g2 := Int.fmod_lt_of_pos (c5.fdiv 10) (show (0 : Int) < 12 by decide)
  have i1 := Int.fmod_nonneg_of_pos c5 (show (0 : Int) < 5 by decide)
  have i2 := Int.fmod_lt_of_pos c5 (show (0 : Int) < 5 by decide)
  refine ⟨sizeN c0 0, sizeN c0 1, sizeN c0 2, 5 + (c5.fdiv 10).fmod 12, c5.fmod 5, l ++ reps [32] ((c4.fdiv 3).fmod 3).toNat, r ++ reps [32] ((c4.fdiv 3).fmod 3 + (c5.fdiv 2).fmod 2).toNat, texts.getD ((c4.fdiv 9).fmod 6).toNat [], ⟨sizeN_le c0 0, sizeN_le c0 1, sizeN_le c0 2, ?_, ⟨i1, i2⟩, ⟨blanks_app p3 (blanks_reps (.inl rfl) ((c4.fdiv 3).fmod 3).toNat), ?_⟩, ⟨blanks_app p4 (blanks_reps (.inl rfl) ((c4.fdiv 3).fmod 3 + (c5.fdiv 2).fmod 2).toNat), ?_⟩, ⟨((c4.fdiv 9).fmod 6).toNat, by omega, rfl⟩⟩, fun rp n σ => ?_⟩
  · constructor <;> omega
  · rw [List.length_append, reps_len, List.length_singleton]; omega
  · rw [List.length_append, reps_len, List.length_singleton]; omega
  · have C1 := (A rp (n + 43)).1
    obtain ⟨ρ', T⟩ := wtail (rp := rp) (n := n + 25) (sc := script) (c0 := c0) (c1 := c1) (c2 := c2) (c3 := c3) (c4 := c4) (c5 := c5) (o := o) (x := (c3, c1, 0)) p1' p2' rfl
    have B1 := (B rp (n + 34)).1
    have hst : stC script (List.foldl stepC ([30, 9, 5, 6, 21, 12], none) (script.take 60).zipIdx) = stD script [c0, c1, c2, c3, c4, c5] o ([], [], none) := by
      show ((([(k_script, .list (script.map .int)), (k_cells, .loc 0), (k_left, .str []), (k_right, .str [])] : VarsN) ++ tlP _, ([.list (_)] : Store)) : VarsN × Store) = _
      rw [hc, ho]
      show _ = ((([(k_script, .list (script.map .int)), (k_cells, .loc 0), (k_left, .str []), (k_right, .str [])] : VarsN) ++ (tlP o ++ []), _) : VarsN × Store)
      rw [List.append_nil]
    rw [hst] at C1
    refine' rDef (by show (D.pures (script.map .int) && true) = true; rw [pures_ints]; rfl) rfl (rRunR (ρ := [(k_script, .list (script.map .int))]) eiWorld_ok (by (conv => lhs; whnf); try rfl) rfl rfl rfl
      (L1 (ρ₁ := (stC script ([30, 9, 5, 6, 21, 12], none)).1) (σ₁ := (stC script ([30, 9, 5, 6, 21, 12], none)).2) (sAsgs rfl (vM rfl (mList rfl (rEs rInt (rEs rInt (rEs rInt (rEs rInt (rEs rInt (rEs rInt rEs0))))))) (vE rfl (rStr (l := []) rfl rfl) (vE rfl (rStr (l := []) rfl rfl) v0))) (gs (gName rfl) (gs (gName rfl) (gs (gName rfl) gs0))))
      (L1 (ρ₁ := (stD script [c0, c1, c2, c3, c4, c5] o ([], [], none)).1) (σ₁ := (stD script [c0, c1, c2, c3, c4, c5] o ([], [], none)).2) (sFor (itEnum rfl rfl (rEs (rCut (rName rfl) rO0 (rO rInt) rfl rfl (eCutQ (v := (script.take 60).map .int) ?hv ?hl)) rEs0) ?hl2) ?hC1)
      (L1 (ρ₁ := (stD script [c0, c1, c2, c3, c4, c5] o (l, r, some (c3, c1, 0))).1) (σ₁ := (stD script [c0, c1, c2, c3, c4, c5] o (l, r, some (c3, c1, 0))).2) (sFor (itE rfl (rList rfl (rEs (rTup rfl (rEs (rItem rfl (rName rfl) rInt rfl) (rEs (rItem rfl (rName rfl) rInt rfl) (rEs rInt rEs0)))) (rEs (rTup rfl (rEs (rItem rfl (rName rfl) rInt rfl) (rEs (rItem rfl (rName rfl) rInt rfl) (rEs (rBin (rItem rfl (rName rfl) rInt rfl) rInt (bMod (by decide))) rEs0)))) (rEs (rTup rfl (rEs (rItem rfl (rName rfl) rInt rfl) (rEs (rItem rfl (rName rfl) rInt rfl) (rEs rInt rEs0)))) rEs0)))) rfl ?hl3) B1) T)))) rfl
    case hv => rw [show (60 : Int) = ((60 : Nat) : Int) from rfl, cut_to, List.map_take]
    case hl => rw [List.length_map]; omega
    case hl2 => rw [List.length_map, List.length_take]; omega
    case hC1 => rw [enum_ints]; exact C1
    case hl3 => exact (show 3 ≤ lim by decide)
end
section
/-! the fill, sign by sign -/
noncomputable def tabC (sz : List Int) (k : Nat) : Nat := (filledT sz (k : Int)).toNat
noncomputable def fillR (sz : List Int) : Nat → List Nat → List Nat
  | _, [] => []
  | k, c :: l => if c = 9 then List.replicate (tabC sz k) 9 ++ fillR sz 0 l else c :: fillR sz (k + 1) l
theorem reps_one (c : Nat) : ∀ n, reps [c] n = List.replicate n c
  | 0 => rfl
  | n + 1 => by show c :: reps [c] n = _; rw [reps_one c n]; rfl
theorem spl_cons {l : List Nat} {c : Nat} : ∃ y r, splD c l = y :: r := by
  cases h : splD c l with
  | nil => exact absurd h (spl_ne l)
  | cons y r => exact ⟨y, r, rfl⟩
/- the rest of a line, its first run k signs along -/
noncomputable def fillS (sz : List Int) (k : Nat) : List (List Nat) → List Nat
  | [] => []
  | [y] => y
  | y :: r => y ++ List.replicate (tabC sz (k + y.length)) 9 ++ ((r.dropLast.map (runF9 sz)).flatten ++ r.getLastD [])
theorem runF9_eq (sz : List Int) (y : List Nat) : runF9 sz y = y ++ List.replicate (tabC sz y.length) 9 := by
  unfold runF9 tabC; rw [reps_one]
theorem fillS_zero (sz : List Int) : ∀ (r : List (List Nat)), r ≠ [] → fillS sz 0 r = (r.dropLast.map (runF9 sz)).flatten ++ r.getLastD []
  | [], h => absurd rfl h
  | [y], _ => rfl
  | y :: z :: r, _ => by
    show y ++ List.replicate (tabC sz (0 + y.length)) 9 ++ (((z :: r).dropLast.map (runF9 sz)).flatten ++ (z :: r).getLastD []) = _
    rw [Nat.zero_add, ← runF9_eq, List.dropLast_cons_cons, List.map_cons, List.flatten_cons, List.append_assoc]
    rfl
theorem fill_spl (sz : List Int) : ∀ (l : List Nat) (k : Nat), fillR sz k l = fillS sz k (splD 9 l)
  | [], k => rfl
  | c :: l, k => by
    obtain ⟨y, r, h⟩ := spl_cons (l := l) (c := 9)
    unfold fillR splD
    by_cases hc : c = 9
    · rw [if_pos hc, if_pos hc, fill_spl sz l 0, fillS_zero sz _ (spl_ne l), h]
      show _ = [] ++ List.replicate (tabC sz (k + 0)) 9 ++ (((y :: r).dropLast.map (runF9 sz)).flatten ++ (y :: r).getLastD [])
      rw [List.nil_append, Nat.add_zero]
    · rw [if_neg hc, if_neg hc, fill_spl sz l (k + 1), h]
      show _ = fillS sz k ((c :: y) :: r)
      cases r with
      | nil => rfl
      | cons z r =>
        show c :: (y ++ List.replicate (tabC sz (k + 1 + y.length)) 9 ++ (((z :: r).dropLast.map (runF9 sz)).flatten ++ (z :: r).getLastD [])) = (c :: y) ++ List.replicate (tabC sz (k + (y.length + 1))) 9 ++ (((z :: r).dropLast.map (runF9 sz)).flatten ++ (z :: r).getLastD [])
        rw [show k + 1 + y.length = k + (y.length + 1) by lia]
        rfl
theorem filled_eq (sz : List Int) (l : List Nat) : filledL sz l = fillR sz 0 l := by
  rw [fill_spl, fillS_zero sz _ (spl_ne l)]
  rfl
/- good sizes -/
noncomputable def okZ (sz : List Int) : Prop := ∀ s ∈ sz, 1 ≤ s ∧ s ≤ 16
theorem filledT_app (sz : List Int) (s r : Int) : filledT (sz ++ [s]) r = filledT sz r * s - r.fmod s := by
  unfold filledT; rw [List.foldl_append]; rfl
theorem filledT_pos' (r : Int) : ∀ (sz : List Int), okZ sz → ∀ t : Int, 1 ≤ t → 1 ≤ sz.foldl (fun t s => t * s - r.fmod s) t ∧ sz.foldl (fun t s => t * s - r.fmod s) t ≤ t * 16 ^ sz.length
  | [], _, t, ht => ⟨ht, by simp⟩
  | s :: sz, h, t, ht => by
    obtain ⟨h1, h2⟩ := h s (List.mem_cons_self ..)
    have m1 := Int.fmod_nonneg_of_pos r (show 0 < s by lia)
    have m2 := Int.fmod_lt_of_pos r (show 0 < s by lia)
    have hts : s ≤ t * s := by
      have := Int.mul_le_mul_of_nonneg_right ht (show 0 ≤ s by lia)
      rwa [Int.one_mul] at this
    have hts2 : t * s ≤ t * 16 := Int.mul_le_mul_of_nonneg_left h2 (by lia)
    obtain ⟨q1, q2⟩ := filledT_pos' r sz (fun x hx => h x (List.mem_cons_of_mem _ hx)) (t * s - r.fmod s) (by lia)
    refine ⟨q1, Int.le_trans q2 ?_⟩
    have hp : (0 : Int) ≤ 16 ^ sz.length := Int.pow_nonneg (by decide)
    have : (t * s - r.fmod s) * 16 ^ sz.length ≤ (t * 16) * 16 ^ sz.length := Int.mul_le_mul_of_nonneg_right (by lia) hp
    rw [List.length_cons, Int.pow_succ, Int.mul_comm (16 ^ sz.length) 16, ← Int.mul_assoc]
    exact this
theorem filledT_pos {sz : List Int} (h : okZ sz) (hl : sz.length ≤ 3) (r : Int) : 1 ≤ filledT sz r ∧ filledT sz r ≤ 4096 := by
  obtain ⟨a, b⟩ := filledT_pos' r sz h 1 (Int.le_refl _)
  refine ⟨a, Int.le_trans b ?_⟩
  rw [Int.one_mul]
  have : sz.length = 0 ∨ sz.length = 1 ∨ sz.length = 2 ∨ sz.length = 3 := by lia
  rcases this with e | e | e | e <;> rw [e] <;> decide
theorem tabC_pos {sz : List Int} (h : okZ sz) (hl : sz.length ≤ 3) (k : Nat) : 1 ≤ tabC sz k ∧ tabC sz k ≤ 4096 := by
  have := filledT_pos h hl (k : Int)
  unfold tabC
  lia
theorem fmod_nat (k s : Nat) : (k : Int).fmod (s : Int) = ((k % s : Nat) : Int) := by
  rw [Int.fmod_eq_emod_of_nonneg _ (by lia)]
  rfl
theorem tabC_one (s k : Nat) (hs : 1 ≤ s) : tabC [(s : Int)] k = s - k % s := by
  unfold tabC
  show ((1 : Int) * s - (k : Int).fmod s).toNat = _
  rw [fmod_nat, Int.one_mul]
  have := Nat.mod_lt k (show 0 < s by lia)
  lia
theorem tabC_app {sz : List Int} (h : okZ sz) (hl : sz.length ≤ 3) {s : Nat} (hs : 1 ≤ s) (k : Nat) : tabC (sz ++ [(s : Int)]) k = (tabC sz k - 1) * s + (s - k % s) := by
  have h1 := (filledT_pos h hl (k : Int)).1
  have hm := Nat.mod_lt k (show 0 < s by lia)
  obtain ⟨m, hmm⟩ : ∃ m : Nat, filledT sz (k : Int) = (m : Int) + 1 := ⟨(filledT sz (k : Int)).toNat - 1, by lia⟩
  unfold tabC
  rw [filledT_app, hmm, fmod_nat]
  have e1 : (((m : Int) + 1).toNat - 1) = m := by lia
  rw [e1]
  have e2 : ((m : Int) + 1) * (s : Int) = ((m * s + s : Nat) : Int) := by rw [Int.add_mul, Int.one_mul]; simp
  rw [e2]
  lia
theorem fill_nil : ∀ (l : List Nat) (k : Nat), fillR [] k l = l
  | [], _ => rfl
  | c :: l, k => by
    unfold fillR
    split
    · rename_i h; rw [fill_nil l 0, h]; rfl
    · rw [fill_nil l]
theorem fill_tabs (s : Nat) (hs : 1 ≤ s) (X : List Nat) : ∀ m, fillR [(s : Int)] 0 (List.replicate m 9 ++ X) = List.replicate (m * s) 9 ++ fillR [(s : Int)] 0 X
  | 0 => by simp
  | m + 1 => by
    rw [List.replicate_succ, List.cons_append]
    show (if (9 : Nat) = 9 then List.replicate (tabC [(s : Int)] 0) 9 ++ fillR [(s : Int)] 0 (List.replicate m 9 ++ X) else _) = _
    rw [if_pos rfl, fill_tabs s hs X m, tabC_one s 0 hs, Nat.zero_mod, Nat.sub_zero, ← List.append_assoc, List.replicate_append_replicate, Nat.succ_mul, Nat.add_comm]
theorem fill_fill {sz : List Int} (h : okZ sz) (hl : sz.length ≤ 3) {s : Nat} (hs : 1 ≤ s) : ∀ (l : List Nat) (k : Nat), fillR [(s : Int)] k (fillR sz k l) = fillR (sz ++ [(s : Int)]) k l
  | [], k => rfl
  | c :: l, k => by
    show fillR [(s : Int)] k (if c = 9 then List.replicate (tabC sz k) 9 ++ fillR sz 0 l else c :: fillR sz (k + 1) l) = if c = 9 then List.replicate (tabC (sz ++ [(s : Int)]) k) 9 ++ fillR (sz ++ [(s : Int)]) 0 l else c :: fillR (sz ++ [(s : Int)]) (k + 1) l
    by_cases hc : c = 9
    · rw [if_pos hc, if_pos hc]
      have h1 := (tabC_pos h hl k).1
      obtain ⟨m, hm⟩ : ∃ m, tabC sz k = m + 1 := ⟨tabC sz k - 1, by lia⟩
      rw [tabC_app h hl hs, hm, List.replicate_succ, List.cons_append]
      show (if (9 : Nat) = 9 then List.replicate (tabC [(s : Int)] k) 9 ++ fillR [(s : Int)] 0 (List.replicate m 9 ++ fillR sz 0 l) else _) = _
      rw [if_pos rfl, fill_tabs s hs, fill_fill h hl hs l 0, tabC_one s k hs, ← List.append_assoc, List.replicate_append_replicate, Nat.add_sub_cancel, Nat.add_comm]
    · rw [if_neg hc, if_neg hc]
      show (if c = 9 then _ else c :: fillR [(s : Int)] (k + 1) (fillR sz (k + 1) l)) = _
      rw [if_neg hc, fill_fill h hl hs l (k + 1)]
/- where the run stands at the end -/
noncomputable def kEnd : Nat → List Nat → Nat
  | k, [] => k
  | k, c :: l => if c = 9 then kEnd 0 l else kEnd (k + 1) l
theorem fill_app (sz : List Int) (b : List Nat) : ∀ (a : List Nat) (k : Nat), fillR sz k (a ++ b) = fillR sz k a ++ fillR sz (kEnd k a) b
  | [], k => rfl
  | c :: a, k => by
    show (if c = 9 then List.replicate (tabC sz k) 9 ++ fillR sz 0 (a ++ b) else c :: fillR sz (k + 1) (a ++ b)) = (if c = 9 then List.replicate (tabC sz k) 9 ++ fillR sz 0 a else c :: fillR sz (k + 1) a) ++ fillR sz (if c = 9 then kEnd 0 a else kEnd (k + 1) a) b
    by_cases hc : c = 9
    · simp only [if_pos hc]; rw [fill_app sz b a 0, List.append_assoc]
    · simp only [if_neg hc]; rw [fill_app sz b a (k + 1)]; rfl
theorem fill_ends {sz : List Int} {k : Nat} {t : List Nat} (h : endsF t) : endsF (fillR sz k t) := by
  intro c r hr
  cases t with
  | nil => cases hr
  | cons d t =>
    obtain ⟨h1, h2⟩ := h d t rfl
    have : fillR sz k (d :: t) = d :: fillR sz (k + 1) t := if_neg h2
    rw [this] at hr
    cases hr
    exact ⟨h1, h2⟩
theorem fill_mem {sz : List Int} {x : Nat} : ∀ {l : List Nat} {k : Nat}, x ∈ fillR sz k l → x ∈ l
  | [], _, h => h
  | c :: l, k, h => by
    unfold fillR at h
    split at h
    · rename_i hc
      rcases List.mem_append.mp h with h | h
      · rw [(List.mem_replicate.mp h).2, hc]; exact List.mem_cons_self ..
      · exact List.mem_cons_of_mem _ (fill_mem h)
    · rcases List.mem_cons.mp h with h | h
      · rw [h]; exact List.mem_cons_self ..
      · exact List.mem_cons_of_mem _ (fill_mem h)
theorem fill_len {sz : List Int} (h : okZ sz) (hl : sz.length ≤ 3) : ∀ (l : List Nat) (k : Nat), (fillR sz k l).length ≤ l.length * 4096
  | [], _ => Nat.le_refl _
  | c :: l, k => by
    unfold fillR
    have h1 := (tabC_pos h hl k).2
    split
    · have := fill_len h hl l 0
      rw [List.length_append, List.length_replicate, List.length_cons, Nat.succ_mul]; lia
    · have := fill_len h hl l (k + 1)
      rw [List.length_cons, List.length_cons, Nat.succ_mul]; lia
end
section
noncomputable def clean (l : List Nat) : Prop := ∀ c ∈ l, c ≠ 0 ∧ c ≠ 10 ∧ c ≠ 13
theorem repl_cons (c : Nat) (z : List Nat) (x : Nat) (l : List Nat) : repl c z (x :: l) = (if x = c then z else [x]) ++ repl c z l := rfl
theorem repl_app (c : Nat) (z : List Nat) (a b : List Nat) : repl c z (a ++ b) = repl c z a ++ repl c z b := List.flatMap_append
theorem repl_rep32 : ∀ n, repl 0 [32] (repl 32 [9] (List.replicate n 32)) = List.replicate n 9
  | 0 => rfl
  | n + 1 => by
    rw [List.replicate_succ, repl_cons, if_pos rfl, repl_app, repl_rep32 n]
    rfl
theorem exp_fill (s : Nat) (hs : 1 ≤ s) (t : List Nat) (ht : t = [] ∨ t = [10]) : ∀ (l : List Nat), clean l → ∀ (col k : Nat), col % s = k % s →
    repl 0 [32] (repl 32 [9] (expD s (repl 32 [0] (l ++ t)) col)) = fillR [(s : Int)] k l ++ t
  | [], _, col, k, _ => by
    rcases ht with rfl | rfl
    · rfl
    · rfl
  | c :: l, hc, col, k, hk => by
    obtain ⟨h0, h10, h13⟩ := hc c (List.mem_cons_self ..)
    have hl : clean l := fun x hx => hc x (List.mem_cons_of_mem _ hx)
    have hlt := Nat.mod_lt col (show 0 < s by lia)
    rw [List.cons_append, repl_cons]
    show _ = (if c = 9 then List.replicate (tabC [(s : Int)] k) 9 ++ fillR [(s : Int)] 0 l else c :: fillR [(s : Int)] (k + 1) l) ++ t
    by_cases h32 : c = 32
    · subst h32
      rw [if_pos rfl, if_neg (by decide)]
      show repl 0 [32] (repl 32 [9] (if (0 : Nat) = 9 then _ else 0 :: expD s (repl 32 [0] (l ++ t)) (if (0 : Nat) = 10 ∨ (0 : Nat) = 13 then 0 else col + 1))) = _
      rw [if_neg (by decide), if_neg (by decide), repl_cons, if_neg (by decide), repl_app, exp_fill s hs t ht l hl (col + 1) (k + 1) (by rw [Nat.add_mod, hk, ← Nat.add_mod])]
      rfl
    · rw [if_neg h32]
      by_cases h9 : c = 9
      · subst h9
        rw [if_pos rfl]
        show repl 0 [32] (repl 32 [9] (if (9 : Nat) = 9 then List.replicate (s - col % s) 32 ++ expD s (repl 32 [0] (l ++ t)) (col + (s - col % s)) else _)) = _
        have hm : (col + (s - col % s)) % s = 0 % s := by
          have h1 := Nat.div_add_mod col s
          have : col + (s - col % s) = s * (col / s + 1) := by rw [Nat.mul_succ]; lia
          rw [this, Nat.mul_mod_right, Nat.zero_mod]
        rw [if_pos rfl, repl_app, repl_app, repl_rep32, exp_fill s hs t ht l hl _ 0 hm, tabC_one s k hs, hk, List.append_assoc]
      · rw [if_neg h9]
        show repl 0 [32] (repl 32 [9] (if c = 9 then _ else c :: expD s (repl 32 [0] (l ++ t)) (if c = 10 ∨ c = 13 then 0 else col + 1))) = _
        rw [if_neg h9, if_neg (by lia), repl_cons, if_neg h32, repl_app, exp_fill s hs t ht l hl (col + 1) (k + 1) (by rw [Nat.add_mod, hk, ← Nat.add_mod]), repl_cons, if_neg h0]
        rfl
theorem strip_none : ∀ (x : List Nat), (10 : Nat) ∉ x → x.dropWhile (· == 10) = x
  | [], _ => rfl
  | c :: x, h => by
    have hne : c ≠ 10 := fun e => h (by rw [e]; exact List.mem_cons_self ..)
    have : (c == 10) = false := by simpa using hne
    rw [List.dropWhile_cons, this]
    rfl
theorem expL_fill {s : Nat} (hs : 1 ≤ s) {l : List Nat} (h : clean l) : expL s l = fillR [(s : Int)] 0 l := by
  have h10 : (10 : Nat) ∉ fillR [(s : Int)] 0 l := fun hm => (h 10 (fill_mem hm)).2.1 rfl
  have e := exp_fill s hs [] (.inl rfl) l h 0 0 rfl
  rw [List.append_nil, List.append_nil] at e
  unfold expL
  rw [e, strip_none _ (by simpa using h10), List.reverse_reverse]
theorem expL_fill_nl {s : Nat} (hs : 1 ≤ s) {l : List Nat} (h : clean l) : expL s (l ++ [10]) = fillR [(s : Int)] 0 l := by
  have h10 : (10 : Nat) ∉ fillR [(s : Int)] 0 l := fun hm => (h 10 (fill_mem hm)).2.1 rfl
  have e := exp_fill s hs [10] (.inr rfl) l h 0 0 rfl
  unfold expL
  rw [e, List.reverse_append]
  show ((10 :: (fillR [(s : Int)] 0 l).reverse).dropWhile (· == 10)).reverse = _
  rw [List.dropWhile_cons]
  show ((fillR [(s : Int)] 0 l).reverse.dropWhile (· == 10)).reverse = _
  rw [strip_none _ (by simpa using h10), List.reverse_reverse]
theorem clean_fill {sz : List Int} {k : Nat} {l : List Nat} (h : clean l) : clean (fillR sz k l) := fun c hc => h c (fill_mem hc)
theorem clean_app {a b : List Nat} (ha : clean a) (hb : clean b) : clean (a ++ b) := fun c hc => (List.mem_append.mp hc).elim (ha c) (hb c)
theorem clean_blanks {l : List Nat} (h : blanks l) : clean l := fun c hc => by rcases h c hc with rfl | rfl <;> decide
theorem blanks_fill {sz : List Int} {k : Nat} {l : List Nat} (h : blanks l) : blanks (fillR sz k l) := fun c hc => h c (fill_mem hc)

/-! runs -/
noncomputable def runsC : Nat → List Nat → List Nat × Nat
  | k, [] => ([], k)
  | k, c :: l => if c = 9 then (k :: (runsC 0 l).1, (runsC 0 l).2) else runsC (k + 1) l
theorem runs_eq : ∀ (l : List Nat) (k : Nat), (match splD 9 l with | [] => [] | y :: r => (k + y.length) :: r.map (·.length)) = (runsC k l).1 ++ [(runsC k l).2]
  | [], k => rfl
  | c :: l, k => by
    obtain ⟨y, r, h⟩ := spl_cons (l := l) (c := 9)
    have ih0 := runs_eq l 0
    have ih1 := runs_eq l (k + 1)
    rw [h] at ih0 ih1
    unfold splD runsC
    by_cases hc : c = 9
    · rw [if_pos hc, if_pos hc, h]
      show (k + 0) :: (y :: r).map (·.length) = k :: ((runsC 0 l).1 ++ [(runsC 0 l).2])
      rw [← ih0]
      show _ = k :: (0 + y.length) :: r.map (·.length)
      rw [Nat.zero_add]; rfl
    · rw [if_neg hc, if_neg hc, h]
      show (k + (y.length + 1)) :: r.map (·.length) = _
      rw [← ih1]
      show _ = (k + 1 + y.length) :: r.map (·.length)
      rw [show k + (y.length + 1) = k + 1 + y.length by lia]
theorem runsL_eq (l : List Nat) : runsL l = ((runsC 0 l).1 ++ [(runsC 0 l).2]).map fun (x : Nat) => (x : Int) := by
  obtain ⟨y, r, h⟩ := spl_cons (l := l) (c := 9)
  have := runs_eq l 0
  rw [h] at this
  rw [← this]
  unfold runsL
  rw [h]
  show _ = ((0 + y.length) :: r.map (·.length)).map fun (x : Nat) => (x : Int)
  rw [Nat.zero_add, List.map_cons, List.map_cons, List.map_map]
  rfl
theorem kindL_eq (l : List Nat) : kindL l = sortD ((runsC 0 l).1.map fun (x : Nat) => (x : Int)) ++ [((runsC 0 l).2 : Int)] := by
  unfold kindL
  rw [runsL_eq, List.map_append, List.map_cons, List.map_nil, List.dropLast_concat, List.length_append, List.length_singleton, Nat.add_sub_cancel]
  congr 1
  rw [List.drop_append_of_le_length (Nat.le_refl _), List.drop_length]
  rfl
/- a run's fill: the run and then empty ones -/
noncomputable def fillRun (sz : List Int) (r : Nat) : List Nat := r :: List.replicate (tabC sz r - 1) 0
theorem runs_tabs (X : List Nat) : ∀ m, runsC 0 (List.replicate m 9 ++ X) = (List.replicate m 0 ++ (runsC 0 X).1, (runsC 0 X).2)
  | 0 => by simp
  | m + 1 => by
    rw [List.replicate_succ, List.cons_append]
    show (if (9 : Nat) = 9 then (0 :: (runsC 0 (List.replicate m 9 ++ X)).1, (runsC 0 (List.replicate m 9 ++ X)).2) else _) = _
    rw [if_pos rfl, runs_tabs X m]
    rfl
theorem runs_fill {sz : List Int} (h : okZ sz) (hl : sz.length ≤ 3) : ∀ (l : List Nat) (k : Nat), runsC k (fillR sz k l) = ((runsC k l).1.flatMap (fillRun sz), (runsC k l).2)
  | [], k => rfl
  | c :: l, k => by
    show runsC k (if c = 9 then List.replicate (tabC sz k) 9 ++ fillR sz 0 l else c :: fillR sz (k + 1) l) = ((if c = 9 then (k :: (runsC 0 l).1, (runsC 0 l).2) else runsC (k + 1) l).1.flatMap (fillRun sz), (if c = 9 then (k :: (runsC 0 l).1, (runsC 0 l).2) else runsC (k + 1) l).2)
    by_cases hc : c = 9
    · simp only [if_pos hc]
      have h1 := (tabC_pos h hl k).1
      obtain ⟨m, hm⟩ : ∃ m, tabC sz k = m + 1 := ⟨tabC sz k - 1, by lia⟩
      rw [hm, List.replicate_succ, List.cons_append]
      show (if (9 : Nat) = 9 then (k :: (runsC 0 (List.replicate m 9 ++ fillR sz 0 l)).1, (runsC 0 (List.replicate m 9 ++ fillR sz 0 l)).2) else _) = _
      rw [if_pos rfl, runs_tabs, runs_fill h hl l 0, List.flatMap_cons]
      unfold fillRun
      rw [hm]
      rfl
    · simp only [if_neg hc]
      show (if c = 9 then _ else runsC (k + 1) (fillR sz (k + 1) l)) = _
      rw [if_neg hc, runs_fill h hl l (k + 1)]
end
section
/-! counts -/
noncomputable def g0 (l : List Int) (i : Nat) : Int := l.getD i 0
theorem g0_eq (l : List Int) (i : Nat) : g0 l i = (l[i]?).getD 0 := List.getD_eq_getElem?_getD
theorem g0_app (l : List Int) (m i : Nat) : g0 (l ++ List.replicate m 0) i = g0 l i := by
  rw [g0_eq, g0_eq]
  by_cases h : i < l.length
  · rw [List.getElem?_append_left h]
  · rw [List.getElem?_append_right (by lia), List.getElem?_eq_none (l := l) (by lia), List.getElem?_replicate]
    split <;> rfl
theorem g0_set (l : List Int) (b i : Nat) (x : Int) (h : b < l.length) : g0 (l.set b x) i = if i = b then x else g0 l i := by
  rw [g0_eq, g0_eq, List.getElem?_set]
  by_cases e : b = i
  · subst e; rw [if_pos rfl, if_pos h, if_pos rfl]; rfl
  · rw [if_neg e, if_neg (fun q => e q.symm)]
noncomputable def Norm (l : List Int) : Prop := (∀ i, 0 ≤ g0 l i) ∧ (l ≠ [] → 0 < g0 l (l.length - 1))
theorem g0_none {l : List Int} {i : Nat} (h : l.length ≤ i) : g0 l i = 0 := by rw [g0_eq, List.getElem?_eq_none h]; rfl
theorem norm_len {l m : List Int} (hm : Norm m) (h : ∀ i, g0 l i = g0 m i) : m.length ≤ l.length := by
  by_cases e : m = []
  · rw [e]; simp
  · have := hm.2 e
    rw [← h] at this
    by_cases q : m.length ≤ l.length
    · exact q
    · rw [g0_none (by lia)] at this; lia
theorem norm_eq {l m : List Int} (hl : Norm l) (hm : Norm m) (h : ∀ i, g0 l i = g0 m i) : l = m := by
  have h1 := norm_len hm h
  have h2 := norm_len hl fun i => (h i).symm
  refine List.ext_getElem (by lia) fun i a b => ?_
  have := h i
  rw [g0_eq, g0_eq, List.getElem?_eq_getElem a, List.getElem?_eq_getElem b] at this
  exact this
/- what the white front's walk has counted -/
structure Cnt (w w' : Wst) (R : List Nat) (e : Nat) : Prop where
  b : w'.b = (e : Int)
  nt : w'.nt = w.nt + (R.length : Int)
  cnt : ∀ i, g0 w'.cnt i = g0 w.cnt i + (R.count i : Int)
  norm : Norm w.cnt → Norm w'.cnt
/- a tab's turn -/
theorem tab_step (w : Wst) (k : Nat) (hb : w.b = (k : Int)) : (stepW w 9).b = 0 ∧ (stepW w 9).nt = w.nt + 1 ∧ (∃ c1, (∀ i, g0 c1 i = g0 w.cnt i) ∧ k < c1.length ∧ (w.cnt.length ≤ k → c1.length = k + 1) ∧ (¬ w.cnt.length ≤ k → c1 = w.cnt) ∧ (∃ m, c1 = w.cnt ++ List.replicate m 0) ∧ (stepW w 9).cnt = c1.set k (g0 c1 k + 1)) := by
  have hk : w.b.toNat = k := by lia
  unfold stepW
  rw [if_neg (by decide)]
  by_cases h : w.b ≥ w.cnt.length
  · rw [if_pos h]
    have hl : (w.cnt ++ List.replicate (w.b - w.cnt.length + 1).toNat (0 : Int)).length = k + 1 := by rw [List.length_append, List.length_replicate]; lia
    refine ⟨rfl, rfl, w.cnt ++ List.replicate (w.b - w.cnt.length + 1).toNat 0, fun i => g0_app .., by lia, fun _ => hl, fun q => absurd (by lia) q, ⟨_, rfl⟩, ?_⟩
    show (_ : List Int).set w.b.toNat _ = _
    rw [hk]; rfl
  · rw [if_neg h]
    refine ⟨rfl, rfl, w.cnt, fun _ => rfl, by lia, fun q => by lia, fun _ => rfl, ⟨0, by simp⟩, ?_⟩
    show (_ : List Int).set w.b.toNat _ = _
    rw [hk]; rfl
theorem cnt_fold : ∀ (F : List Nat), blanks F → ∀ (w : Wst) (k : Nat), w.b = (k : Int) → Cnt w (F.foldl stepW w) (runsC k F).1 (runsC k F).2
  | [], _, w, k, hb => ⟨hb, by simp [runsC], fun i => by simp [runsC], id⟩
  | c :: F, h, w, k, hb => by
    have hF : blanks F := fun x hx => h x (List.mem_cons_of_mem _ hx)
    show Cnt w (F.foldl stepW (stepW w c)) (if c = 9 then (k :: (runsC 0 F).1, (runsC 0 F).2) else runsC (k + 1) F).1 (if c = 9 then (k :: (runsC 0 F).1, (runsC 0 F).2) else runsC (k + 1) F).2
    rcases h c (List.mem_cons_self ..) with rfl | rfl
    · have e : stepW w 32 = { w with n := w.n + 1, b := w.b + 1, ch := some 32 } := if_pos rfl
      have ih := cnt_fold F hF (stepW w 32) (k + 1) (by rw [e]; show w.b + 1 = _; rw [hb]; rfl)
      rw [if_neg (by decide)]
      exact ⟨ih.b, by rw [ih.nt, e], fun i => by rw [ih.cnt, e], fun q => ih.norm (by rw [e]; exact q)⟩
    · obtain ⟨s1, s2, c1, q1, q2, q3, q3', q4, q5⟩ := tab_step w k hb
      have ih := cnt_fold F hF (stepW w 9) 0 s1
      rw [if_pos rfl]
      have hg : ∀ i, g0 (stepW w 9).cnt i = g0 w.cnt i + (if i = k then 1 else 0) := fun i => by
        rw [q5, g0_set _ _ _ _ q2]
        by_cases e : i = k
        · rw [if_pos e, if_pos e, q1, e]
        · rw [if_neg e, if_neg e, q1, Int.add_zero]
      refine ⟨ih.b, ?_, fun i => ?_, fun hn => ih.norm ⟨fun i => ?_, fun _ => ?_⟩⟩
      · rw [ih.nt, s2, List.length_cons]; lia
      · rw [ih.cnt, hg, List.count_cons]
        by_cases e : i = k
        · subst e; simp; lia
        · have : (k == i) = false := by simpa using fun q => e q.symm
          rw [if_neg e, this]; simp
      · rw [hg]; have := hn.1 i; split <;> lia
      · rw [hg]
        have hlen : (stepW w 9).cnt.length = c1.length := by rw [q5, List.length_set]
        rw [hlen]
        by_cases e : w.cnt.length ≤ k
        · rw [q3 e, Nat.add_sub_cancel, if_pos rfl]
          have := hn.1 k; lia
        · rw [q3' e]
          have := hn.2 (fun z => e (by rw [z]; simp))
          split <;> lia
theorem norm_nil : Norm [] := ⟨fun i => by rw [g0_none (Nat.zero_le _)]; exact Int.le_refl _, fun h => absurd rfl h⟩
theorem cnt_w0 {F : List Nat} (h : blanks F) : Cnt w0 (F.foldl stepW w0) (runsC 0 F).1 (runsC 0 F).2 := cnt_fold F h w0 0 rfl
theorem cnt_perm {F G : List Nat} (hF : blanks F) (hG : blanks G) : (F.foldl stepW w0).cnt = (G.foldl stepW w0).cnt ↔ ((runsC 0 F).1).Perm (runsC 0 G).1 := by
  have a := cnt_w0 hF
  have b := cnt_w0 hG
  have z : ∀ i, g0 w0.cnt i = 0 := fun i => g0_none (Nat.zero_le _)
  constructor
  · intro e
    rw [List.perm_iff_count]
    intro i
    have h1 := a.cnt i
    have h2 := b.cnt i
    rw [e, h2] at h1
    lia
  · intro p
    refine norm_eq (a.norm norm_nil) (b.norm norm_nil) fun i => ?_
    rw [a.cnt, b.cnt, p.count_eq]
theorem sort_perm {R S : List Nat} : sortD (R.map fun (x : Nat) => (x : Int)) = sortD (S.map fun (x : Nat) => (x : Int)) ↔ R.Perm S := by
  constructor
  · intro e
    have p1 := sortD_perm (R.map fun (x : Nat) => (x : Int))
    have p2 := sortD_perm (S.map fun (x : Nat) => (x : Int))
    rw [e] at p1
    have p := p1.symm.trans p2
    have q := p.map Int.toNat
    rw [List.map_map, List.map_map] at q
    have id1 : ∀ l : List Nat, l.map (Int.toNat ∘ fun (x : Nat) => (x : Int)) = l := fun l => by
      induction l with
      | nil => rfl
      | cons x l ih => rw [List.map_cons, ih]; rfl
    rw [id1, id1] at q
    exact q
  · intro p
    have q := p.map fun (x : Nat) => (x : Int)
    exact sort_uniq (((sortD_perm _).trans q).trans (sortD_perm _).symm) (sortD_sorted _) (sortD_sorted _)
theorem kind_iff {F G : List Nat} : kindL F = kindL G ↔ ((runsC 0 F).1).Perm (runsC 0 G).1 ∧ (runsC 0 F).2 = (runsC 0 G).2 := by
  rw [kindL_eq, kindL_eq]
  constructor
  · intro e
    have h1 := List.append_inj_left' e rfl
    have h2 := List.append_inj_right' e rfl
    exact ⟨sort_perm.mp h1, Int.ofNat.inj (List.cons.inj h2).1⟩
  · rintro ⟨p, e⟩
    rw [sort_perm.mpr p, e]
theorem fill_perm {sz : List Int} (h : okZ sz) (hl : sz.length ≤ 3) {R S : List Nat} : (R.flatMap (fillRun sz)).Perm (S.flatMap (fillRun sz)) ↔ R.Perm S := by
  have pos := (tabC_pos h hl 0).1
  have cn : ∀ (i : Nat), i ≠ 0 → ∀ R : List Nat, (R.flatMap (fillRun sz)).count i = R.count i := by
    intro i hi R
    induction R with
    | nil => rfl
    | cons r R ih =>
      rw [List.flatMap_cons, List.count_append, ih]
      show (r :: List.replicate (tabC sz r - 1) 0).count i + _ = _
      rw [List.count_cons, List.count_replicate, List.count_cons]
      have : ((0 : Nat) == i) = false := by simpa using fun q => hi q.symm
      rw [this]; simp; lia
  have cz : ∀ R : List Nat, (R.flatMap (fillRun sz)).count 0 = ((R.filter (· != 0)).map fun r => tabC sz r - 1).sum + R.count 0 * tabC sz 0 := by
    intro R
    induction R with
    | nil => simp
    | cons r R ih =>
      rw [List.flatMap_cons, List.count_append, ih]
      show (r :: List.replicate (tabC sz r - 1) 0).count 0 + _ = _
      rw [List.count_cons, List.count_replicate, List.count_cons, List.filter_cons]
      by_cases e : r = 0
      · subst e
        simp [Nat.add_mul]; lia
      · have e1 : (r == 0) = false := by simpa using e
        have e2 : (r != 0) = true := by simpa using e
        rw [e1, e2]
        simp; lia
  constructor
  · intro p
    have h1 : ∀ i, i ≠ 0 → R.count i = S.count i := fun i hi => by rw [← cn i hi R, ← cn i hi S]; exact p.count_eq i
    have h2 : (R.filter (· != 0)).Perm (S.filter (· != 0)) := by
      rw [List.perm_iff_count]
      intro i
      by_cases hi : i = 0
      · subst hi
        rw [List.count_eq_zero.mpr (by simp), List.count_eq_zero.mpr (by simp)]
      · rw [List.count_filter (by simpa using hi), List.count_filter (by simpa using hi)]
        exact h1 i hi
    have h3 := p.count_eq 0
    rw [cz, cz, (h2.map fun r => tabC sz r - 1).sum_nat] at h3
    rw [List.perm_iff_count]
    intro i
    by_cases hi : i = 0
    · subst hi
      exact Nat.eq_of_mul_eq_mul_right (show 0 < tabC sz 0 by lia) (by lia)
    · exact h1 i hi
  · intro p
    exact p.flatMap_right _
/- whatever the sizes, equal says the same -/
theorem alike_fill {sz : List Int} (h : okZ sz) (hl : sz.length ≤ 3) {F G : List Nat} (hF : blanks F) (hG : blanks G) :
    ((((fillR sz 0 F).foldl stepW w0).cnt == ((fillR sz 0 G).foldl stepW w0).cnt) && (((fillR sz 0 F).foldl stepW w0).b == ((fillR sz 0 G).foldl stepW w0).b)) = (kindL F == kindL G) := by
  rw [Bool.eq_iff_iff, Bool.and_eq_true, beq_iff_eq, beq_iff_eq, beq_iff_eq, kind_iff, cnt_perm (blanks_fill hF) (blanks_fill hG), runs_fill h hl, runs_fill h hl, fill_perm h hl]
  rw [(cnt_w0 (blanks_fill (sz := sz) (k := 0) hF)).b, (cnt_w0 (blanks_fill (sz := sz) (k := 0) hG)).b, runs_fill h hl, runs_fill h hl]
  simp
  intro _
  exact ⟨fun q => Int.ofNat.inj q, fun q => by rw [q]⟩

/-! levels -/
noncomputable def sumS (s : Nat) : Nat → List Int → Int
  | _, [] => 0
  | i, x :: l => ((i / s : Nat) : Int) * x + sumS s (i + 1) l
theorem sum_set (s : Nat) : ∀ (l : List Int) (i b : Nat) (x : Int), b < l.length → sumS s i (l.set b x) = sumS s i l + (((i + b) / s : Nat) : Int) * (x - g0 l b)
  | [], _, _, _, h => by simp at h
  | y :: l, i, 0, x, _ => by
    show ((i / s : Nat) : Int) * x + sumS s (i + 1) l = ((i / s : Nat) : Int) * y + sumS s (i + 1) l + (((i + 0) / s : Nat) : Int) * (x - y)
    simp only [Nat.add_zero, Int.mul_sub]; lia
  | y :: l, i, b + 1, x, h => by
    show ((i / s : Nat) : Int) * y + sumS s (i + 1) (l.set b x) = ((i / s : Nat) : Int) * y + sumS s (i + 1) l + (((i + (b + 1)) / s : Nat) : Int) * (x - g0 l b)
    rw [sum_set s l (i + 1) b x (by simpa using h), show i + 1 + b = i + (b + 1) by lia]; lia
theorem sum_zeros (s : Nat) : ∀ (m i : Nat), sumS s i (List.replicate m 0) = 0
  | 0, _ => rfl
  | m + 1, i => by show ((i / s : Nat) : Int) * 0 + sumS s (i + 1) (List.replicate m 0) = 0; rw [sum_zeros s m]; simp
theorem sum_app (s m : Nat) : ∀ (l : List Int) (i : Nat), sumS s i (l ++ List.replicate m 0) = sumS s i l
  | [], i => sum_zeros s m i
  | x :: l, i => by show ((i / s : Nat) : Int) * x + sumS s (i + 1) (l ++ List.replicate m 0) = _; rw [sum_app s m l]; rfl
theorem lv_fold (s : Nat) (hs : 1 ≤ s) (cnt : List Int) : ∀ (n o : Nat) (a : Int) (q : Option Int), s + o + n = cnt.length →
    (((List.range' o n).foldl (lvStep cnt (s : Int)) (a, q)).1) = a + sumS s (s + o) (cnt.drop (s + o))
  | 0, o, a, q, h => by
    rw [List.drop_of_length_le (by lia)]
    show a = a + 0; lia
  | n + 1, o, a, q, h => by
    rw [List.range'_succ, List.foldl_cons]
    have hlt : s + o < cnt.length := by lia
    rw [List.drop_eq_getElem_cons hlt]
    show ((List.range' (o + 1) n).foldl (lvStep cnt (s : Int)) (lvStep cnt (s : Int) (a, q) o)).1 = a + (((s + o) / s : Nat) * cnt[s + o] + sumS s (s + o + 1) (cnt.drop (s + o + 1)))
    unfold lvStep
    have e := lv_fold s hs cnt n (o + 1) (a + ((s : Int) + (o : Int)).fdiv s * cnt.getD ((s : Int) + (o : Int)).toNat 0) (some ((s : Int) + (o : Int))) (by lia)
    unfold lvStep at e
    rw [e]
    have e1 : ((s : Int) + (o : Int)).toNat = s + o := by lia
    have e2 : ((s : Int) + (o : Int)).fdiv s = (((s + o) / s : Nat) : Int) := by
      rw [Int.fdiv_eq_ediv_of_nonneg _ (by lia)]
      have : ((s : Int) + (o : Int)) = ((s + o : Nat) : Int) := by lia
      rw [this]; rfl
    rw [e1, e2, List.getD_eq_getElem?_getD, List.getElem?_eq_getElem hlt, show s + (o + 1) = s + o + 1 by lia]
    show a + _ * cnt[s + o] + _ = _
    lia
theorem sum_take (s : Nat) (hs : 1 ≤ s) : ∀ (l : List Int) (i : Nat), i ≤ s → sumS s i l = sumS s s (l.drop (s - i))
  | [], i, _ => by simp [sumS]
  | x :: l, i, h => by
    by_cases e : i = s
    · subst e; rw [Nat.sub_self]; rfl
    · obtain ⟨m, hm⟩ : ∃ m, s - i = m + 1 := ⟨s - i - 1, by lia⟩
      rw [hm, List.drop_succ_cons]
      show ((i / s : Nat) : Int) * x + sumS s (i + 1) l = _
      rw [sum_take s hs l (i + 1) (by lia), Nat.div_eq_of_lt (by lia), show s - (i + 1) = m by lia]
      simp
noncomputable def lvS (s : Nat) (w : Wst) : Int := w.b + (s : Int) * (sumS s 0 w.cnt + w.nt)
theorem level_eq (s : Nat) (hs : 1 ≤ s) (w : Wst) : levelW w (s : Int) = lvS s w := by
  unfold levelW lvS
  have e : (((List.range ((w.cnt.length : Int) - (s : Int)).toNat).foldl (lvStep w.cnt (s : Int)) (0, none)).1) = sumS s 0 w.cnt := by
    rw [sum_take s hs w.cnt 0 (Nat.zero_le _), Nat.sub_zero, List.range_eq_range']
    by_cases h : s ≤ w.cnt.length
    · rw [lv_fold s hs w.cnt _ 0 0 none (by lia)]
      show 0 + sumS s (s + 0) (w.cnt.drop (s + 0)) = _
      rw [Nat.add_zero, Int.zero_add]
    · have : ((w.cnt.length : Int) - (s : Int)).toNat = 0 := by lia
      rw [this, List.drop_of_length_le (by lia)]
      rfl
  rw [e]
theorem lv_step9 (s : Nat) (hs : 1 ≤ s) (w : Wst) (k : Nat) (hb : w.b = (k : Int)) : lvS s (stepW w 9) = lvS s w + ((s - k % s : Nat) : Int) := by
  obtain ⟨s1, s2, c1, q1, q2, q3, q3', ⟨m, q4⟩, q5⟩ := tab_step w k hb
  unfold lvS
  rw [s1, s2, q5, sum_set s c1 0 k _ q2, q4, sum_app, hb, Nat.zero_add]
  have e1 : (g0 (w.cnt ++ List.replicate m 0) k + 1 - g0 (w.cnt ++ List.replicate m 0) k) = 1 := by lia
  rw [e1, Int.mul_one]
  have h1 := Nat.div_add_mod k s
  have h2 := Nat.mod_lt k (show 0 < s by lia)
  have e2 : (s : Int) * (sumS s 0 w.cnt + ((k / s : Nat) : Int) + (w.nt + 1)) = (s : Int) * (sumS s 0 w.cnt + w.nt) + ((s * (k / s) : Nat) : Int) + (s : Int) := by
    rw [show sumS s 0 w.cnt + ((k / s : Nat) : Int) + (w.nt + 1) = (sumS s 0 w.cnt + w.nt) + ((k / s : Nat) : Int) + 1 by lia, Int.mul_add, Int.mul_add, Int.mul_one, Int.natCast_mul]
  rw [e2]
  lia
theorem lv_fill (s : Nat) (hs : 1 ≤ s) : ∀ (F : List Nat), blanks F → ∀ (w : Wst) (k : Nat), w.b = (k : Int) → lvS s (F.foldl stepW w) = lvS s w + ((fillR [(s : Int)] k F).length : Int)
  | [], _, w, k, hb => by simp [fillR]
  | c :: F, h, w, k, hb => by
    have hF : blanks F := fun x hx => h x (List.mem_cons_of_mem _ hx)
    show lvS s (F.foldl stepW (stepW w c)) = lvS s w + ((if c = 9 then List.replicate (tabC [(s : Int)] k) 9 ++ fillR [(s : Int)] 0 F else c :: fillR [(s : Int)] (k + 1) F).length : Int)
    rcases h c (List.mem_cons_self ..) with rfl | rfl
    · have e : stepW w 32 = { w with n := w.n + 1, b := w.b + 1, ch := some 32 } := if_pos rfl
      rw [lv_fill s hs F hF (stepW w 32) (k + 1) (by rw [e]; show w.b + 1 = _; rw [hb]; rfl), if_neg (by decide), e]
      unfold lvS
      rw [List.length_cons]
      dsimp only
      lia
    · have s1 := (tab_step w k hb).1
      rw [lv_fill s hs F hF (stepW w 9) 0 s1, lv_step9 s hs w k hb, if_pos rfl, List.length_append, List.length_replicate, tabC_one s k hs]
      lia
theorem level_len (s : Nat) (hs : 1 ≤ s) {F : List Nat} (h : blanks F) : levelW (F.foldl stepW w0) (s : Int) = ((fillR [(s : Int)] 0 F).length : Int) := by
  rw [level_eq s hs, lv_fill s hs F h w0 0 rfl]
  show (0 : Int) + (s : Int) * (0 + 0) + _ = _
  simp
theorem cnt_len : ∀ (F : List Nat), blanks F → ∀ (w : Wst), 0 ≤ w.b → w.b + F.length ≤ 10000 → w.cnt.length ≤ 10000 → (F.foldl stepW w).cnt.length ≤ 10000
  | [], _, w, _, _, h => h
  | c :: F, hf, w, h0, h1, h2 => by
    have hF : blanks F := fun x hx => hf x (List.mem_cons_of_mem _ hx)
    rw [List.length_cons] at h1
    rcases hf c (List.mem_cons_self ..) with rfl | rfl
    · have e : stepW w 32 = { w with n := w.n + 1, b := w.b + 1, ch := some 32 } := if_pos rfl
      exact cnt_len F hF (stepW w 32) (by rw [e]; dsimp only; lia) (by rw [e]; dsimp only; lia) (by rw [e]; exact h2)
    · obtain ⟨k, hk⟩ := Int.eq_ofNat_of_zero_le h0
      obtain ⟨s1, s2, c1, q1, q2, q3, q3', q4, q5⟩ := tab_step w k hk
      refine cnt_len F hF (stepW w 9) (by rw [s1]; exact Int.le_refl _) (by rw [s1]; lia) ?_
      rw [q5, List.length_set]
      by_cases e : w.cnt.length ≤ k
      · rw [q3 e]; lia
      · rw [q3' e]; exact h2
end
section
structure LD where
  sc : List Int
  a0 : Nat
  a1 : Nat
  a2 : Nat
  w : Nat
  F0 : List Nat
  F1 : List Nat
  T : List Nat
  q : Nat
  p : Nat
noncomputable abbrev LD.S (d : LD) : List Int := [(d.a0 : Int), (d.a1 : Int), (d.a2 : Int)]
noncomputable def LD.at (d : LD) (k : Nat) : Nat := [d.a0, d.a1, d.a2].getD k 1
structure LD.Ok (d : LD) : Prop where
  a0 : 1 ≤ d.a0 ∧ d.a0 ≤ 4
  a1 : 1 ≤ d.a1 ∧ d.a1 ≤ 4
  a2 : 1 ≤ d.a2 ∧ d.a2 ≤ 4
  w : 5 ≤ d.w ∧ d.w ≤ 16
  q : d.q < 5
  f0 : blanks d.F0 ∧ d.F0.length ≤ 40
  f1 : blanks d.F1 ∧ d.F1.length ≤ 40
  t : ∃ i, i < 6 ∧ d.T = texts.getD i []
  p : 1 ≤ d.p ∧ d.p ≤ 12
theorem LD.Ok.okS {d : LD} (h : d.Ok) : okZ d.S := fun s hs => by
  rcases List.mem_cons.mp hs with rfl | hs
  · have := h.a0; lia
  · rcases List.mem_cons.mp hs with rfl | hs
    · have := h.a1; lia
    · rcases List.mem_singleton.mp hs with rfl
      have := h.a2; lia
theorem okZ_take {sz : List Int} (h : okZ sz) (k : Nat) : okZ (sz.take k) := fun s hs => h s (List.mem_of_mem_take hs)
theorem text_facts : ∀ i, i < 6 → (texts.getD i []).length ≤ 4 ∧ (∀ c ∈ texts.getD i [], c ≠ 0 ∧ c ≠ 10 ∧ c ≠ 13 ∧ c < 256) ∧ (∀ c r, texts.getD i [] = c :: r → c ≠ 32 ∧ c ≠ 9) := by
  intro i hi
  have : i = 0 ∨ i = 1 ∨ i = 2 ∨ i = 3 ∨ i = 4 ∨ i = 5 := by lia
  rcases this with rfl | rfl | rfl | rfl | rfl | rfl
  all_goals
    refine ⟨by decide, by decide, fun c r e => ?_⟩
    cases e
    try decide
theorem LD.Ok.tlen {d : LD} (h : d.Ok) : d.T.length ≤ 4 := by obtain ⟨i, hi, e⟩ := h.t; rw [e]; exact (text_facts i hi).1
theorem LD.Ok.tends {d : LD} (h : d.Ok) : endsF d.T := by obtain ⟨i, hi, e⟩ := h.t; rw [e]; exact (text_facts i hi).2.2
theorem LD.Ok.tclean {d : LD} (h : d.Ok) : clean d.T := by
  obtain ⟨i, hi, e⟩ := h.t; rw [e]; intro c hc
  have := (text_facts i hi).2.1 c hc
  exact ⟨this.1, this.2.1, this.2.2.1⟩
theorem LD.Ok.tlow {d : LD} (h : d.Ok) : ∀ c ∈ d.T, c < 256 := by
  obtain ⟨i, hi, e⟩ := h.t; rw [e]; intro c hc
  exact ((text_facts i hi).2.1 c hc).2.2.2
theorem LD.Ok.lineclean {d : LD} (h : d.Ok) {F : List Nat} (hF : blanks F) : clean (F ++ d.T) := clean_app (clean_blanks hF) h.tclean
/- a line, filled -/
noncomputable def pr (sz : List Int) (F T : List Nat) : List Nat := fillR sz 0 F ++ fillR sz (kEnd 0 F) T
theorem pr_eq (sz : List Int) (F T : List Nat) : pr sz F T = fillR sz 0 (F ++ T) := (fill_app sz T F 0).symm
noncomputable def plainR (r : Nat) : List Nat := reps [32] r ++ [9]
noncomputable def rulerN (sz : List Int) (p : Nat) : List (List Nat) := (List.range (p + 1)).map fun r => fillR sz 0 (plainR r)
noncomputable abbrev tlT (o : Option (Int × D × D)) : VarsN := match o with | none => [] | some (t, m, l) => [(k_turn, .int t), (k_marks, m), (k_levels, l)]
noncomputable abbrev rB (d : LD) (ruler : List (List Nat)) (P0 P1 : List Nat) (tl : VarsN) : VarsN :=
  ([(k_script, .list (d.sc.map .int)), (k_sizes, .list [.int (d.a0 : Int), .int (d.a1 : Int), .int (d.a2 : Int)]), (k_wide, .int (d.w : Int)), (k_fronts, .list [.str d.F0, .str d.F1]), (k_text, .str d.T), (k_which, .int (d.q : Int)), (k_period, .int (d.p : Int)),
    (k_plain, .list ((rulerN [] d.p).map .str)), (k_lines, .list [.str (d.F0 ++ d.T), .str (d.F1 ++ d.T)]), (k_alike, .bool (kindL d.F0 == kindL d.F1)), (k_ruler, .list (ruler.map .str)), (k_pair, .list [.str P0, .str P1])] : VarsN) ++ tl
theorem cTwo {F : D → Store → List D → Store → Prop} {x y a b : D} {σ : Store} (h1 : F x σ [a] σ) (h2 : F y σ [b] σ) : CompM F [x, y] σ [a, b] σ := ⟨[a], σ, [b], h1, ⟨[b], σ, [], h2, ⟨rfl, rfl⟩, rfl⟩, rfl⟩
theorem eSize {σ : Store} {d : LD} {k : Nat} (hk : k < 3) : itemD σ (.list [.int (d.a0 : Int), .int (d.a1 : Int), .int (d.a2 : Int)]) (.int (k : Int)) = some (.int (d.at k : Int)) := by
  have : k = 0 ∨ k = 1 ∨ k = 2 := by lia
  rcases this with rfl | rfl | rfl <;> rfl
theorem endK {k : Nat} (hk : k < 3) : endD (some (some (.int ((k : Int) + 1)))) = some (some ((k : Int) + 1)) := by
  have : k = 0 ∨ k = 1 ∨ k = 2 := by lia
  rcases this with rfl | rfl | rfl <;> rfl
theorem cutK {d : LD} {k : Nat} (hk : k < 3) : cutD (.list [.int (d.a0 : Int), .int (d.a1 : Int), .int (d.a2 : Int)]) none (some ((k : Int) + 1)) = some (.list ((d.S.take (k + 1)).map .int)) := by
  have : k = 0 ∨ k = 1 ∨ k = 2 := by lia
  rcases this with rfl | rfl | rfl <;> rfl
theorem take_at {d : LD} {k : Nat} (hk : k < 3) : d.S.take (k + 1) = d.S.take k ++ [(d.at k : Int)] := by
  have : k = 0 ∨ k = 1 ∨ k = 2 := by lia
  rcases this with rfl | rfl | rfl <;> rfl
theorem LD.Ok.at {d : LD} (h : d.Ok) {k : Nat} (hk : k < 3) : 1 ≤ d.at k ∧ d.at k ≤ 4 := by
  have : k = 0 ∨ k = 1 ∨ k = 2 := by lia
  rcases this with rfl | rfl | rfl
  · exact h.a0
  · exact h.a1
  · exact h.a2
theorem okZ_le {sz : List Int} (h : okZ sz) : ∀ s ∈ sz, 1 ≤ s ∧ s ≤ 64 := fun s hs => by have := h s hs; lia
/- _law_filled of a short line -/
theorem filled_short {n : Nat} {sz : List Int} {l : List Nat} {σ : Store} (h : okZ sz) (hl3 : sz.length ≤ 3) (hl : l.length ≤ 1000) : CallD lawC (n + 20) (.old (.ref 264)) [.str l, .list (sz.map .int)] σ (.str (fillR sz 0 l)) σ := by
  rw [← filled_eq]
  have := fill_len h hl3 l 0
  have hlim : lim = 16777216 := rfl
  refine filled_ok (by lia) (okZ_le h) (by lia) (fun run hr => ?_) (by rw [filled_eq]; lia)
  have := filledT_pos h hl3 (run.length : Int)
  lia
theorem ne_strs (a : List (List Nat)) : CmpD .NotEq (.list (a.map .str)) (.list (a.map .str)) false := cNe (EqS.self (psList (plMap (fun _ => psStr) a)))
theorem ne_ints (a : List Int) : CmpD .NotEq (.list (a.map .int)) (.list (a.map .int)) false := cNe (EqS.self (psList (plMap (fun _ => psInt) a)))
theorem isnot_same (a b : Bool) (h : a = b) : CmpD .IsNot (.bool a) (.bool b) false := by
  rw [← show (a != b) = false by rw [h]; simp]; exact cIsNot
end
section
section
variable {n : Nat} {d : LD} {k : Nat} {σ : Store} {R : List (List Nat)} {P0 P1 : List Nat}
noncomputable abbrev frontS (sz : List Int) (F : List Nat) : Wst := (fillR sz 0 F).foldl stepW w0
noncomputable abbrev marksD (sz : List Int) (d : LD) : D := .list [wsInst (pr sz d.F0 d.T) (frontS sz d.F0), wsInst (pr sz d.F1 d.T) (frontS sz d.F1)]
noncomputable abbrev levsD (sz : List Int) (d : LD) (s : Nat) : D := .list [.int (levelW (frontS sz d.F0) (s : Int)), .int (levelW (frontS sz d.F1) (s : Int))]
noncomputable abbrev trnB (i : Nat) : Stmt := nth (bodyOf (nth (bodyOf (topAt 36)) 5)) i
/- better: a tab grows 64 fold at most with sizes of 4 -/
noncomputable def okF (sz : List Int) : Prop := ∀ s ∈ sz, 1 ≤ s ∧ s ≤ 4
theorem tab64' (r : Int) : ∀ (sz : List Int), okF sz → ∀ t : Int, 1 ≤ t → 1 ≤ sz.foldl (fun t s => t * s - r.fmod s) t ∧ sz.foldl (fun t s => t * s - r.fmod s) t ≤ t * 4 ^ sz.length
  | [], _, t, ht => ⟨ht, by simp⟩
  | s :: sz, h, t, ht => by
    obtain ⟨h1, h2⟩ := h s (List.mem_cons_self ..)
    have m1 := Int.fmod_nonneg_of_pos r (show 0 < s by lia)
    have m2 := Int.fmod_lt_of_pos r (show 0 < s by lia)
    have hts : s ≤ t * s := by
      have := Int.mul_le_mul_of_nonneg_right ht (show 0 ≤ s by lia)
      rwa [Int.one_mul] at this
    have hts2 : t * s ≤ t * 4 := Int.mul_le_mul_of_nonneg_left h2 (by lia)
    obtain ⟨q1, q2⟩ := tab64' r sz (fun x hx => h x (List.mem_cons_of_mem _ hx)) (t * s - r.fmod s) (by lia)
    refine ⟨q1, Int.le_trans q2 ?_⟩
    have hp : (0 : Int) ≤ 4 ^ sz.length := Int.pow_nonneg (by decide)
    have : (t * s - r.fmod s) * 4 ^ sz.length ≤ (t * 4) * 4 ^ sz.length := Int.mul_le_mul_of_nonneg_right (by lia) hp
    rw [List.length_cons, Int.pow_succ, Int.mul_comm (4 ^ sz.length) 4, ← Int.mul_assoc]
    exact this
theorem tab64 {sz : List Int} (h : okF sz) (hl : sz.length ≤ 3) (k : Nat) : tabC sz k ≤ 64 := by
  obtain ⟨a, b⟩ := tab64' (k : Int) sz h 1 (Int.le_refl _)
  have : filledT sz (k : Int) ≤ 64 := by
    refine Int.le_trans b ?_
    rw [Int.one_mul]
    have : sz.length = 0 ∨ sz.length = 1 ∨ sz.length = 2 ∨ sz.length = 3 := by lia
    rcases this with e | e | e | e <;> rw [e] <;> decide
  unfold tabC; lia
theorem fill64 {sz : List Int} (h : okF sz) (hl : sz.length ≤ 3) : ∀ (l : List Nat) (k : Nat), (fillR sz k l).length ≤ l.length * 64
  | [], _ => Nat.le_refl _
  | c :: l, k => by
    unfold fillR
    have h1 := tab64 h hl k
    split
    · have := fill64 h hl l 0
      rw [List.length_append, List.length_replicate, List.length_cons, Nat.succ_mul]; lia
    · have := fill64 h hl l (k + 1)
      rw [List.length_cons, List.length_cons, Nat.succ_mul]; lia
theorem LD.Ok.okF {d : LD} (h : d.Ok) (k : Nat) : Mine.okF (d.S.take k) := fun s hs => by
  have hs := List.mem_of_mem_take hs
  rcases List.mem_cons.mp hs with rfl | hs
  · have := h.a0; lia
  · rcases List.mem_cons.mp hs with rfl | hs
    · have := h.a1; lia
    · rcases List.mem_singleton.mp hs with rfl
      have := h.a2; lia
theorem pr64 (h : d.Ok) (k : Nat) {F : List Nat} (hF : F.length ≤ 40) : (pr (d.S.take k) F d.T).length ≤ 2816 := by
  rw [pr_eq]
  have h2 := h.tlen
  have := fill64 (h.okF k) (by rw [List.length_take]; exact Nat.min_le_right ..) (F ++ d.T) 0
  rw [List.length_append] at this
  lia
theorem mk_ws (h : d.Ok) (k : Nat) {F : List Nat} (hF : blanks F ∧ F.length ≤ 40) : CallD lawC (n + 30) (.old (.ref 206)) [.str (pr (d.S.take k) F d.T)] σ (wsInst (pr (d.S.take k) F d.T) (frontS (d.S.take k) F)) σ :=
  ws_ok (blanks_fill hF.1) (fill_ends h.tends) (by have := pr64 h k hF.2; unfold pr at this; lia)
/- marks = .. -/
theorem t0 (h : d.Ok) {st : Stmt} (hs : trnB 0 = st) {q : Int} {tl tl' : VarsN} (ht : (∃ q', tl = [(k_turn, .int q')] ∧ tl' = [(k_turn, .int q'), (k_marks, marksD (d.S.take k) d)]) ∨ ∃ q' m l, tl = tlT (some (q', m, l)) ∧ tl' = tlT (some (q', marksD (d.S.take k) d, l))) :
    ExS lawC (n + 60) eiLaw st (rB d R (pr (d.S.take k) d.F0 d.T) (pr (d.S.take k) d.F1 d.T) tl) σ .next (rB d R (pr (d.S.take k) d.F0 d.T) (pr (d.S.take k) d.F1 d.T) tl') σ := by
  conv at hs => lhs; whnf
  subst hs
  rcases ht with ⟨q', rfl, rfl⟩ | ⟨q', m, l, rfl, rfl⟩
  all_goals
    refine' sAsgC rfl rfl (rLCc (σ₂ := σ) (es := [wsInst (pr (d.S.take k) d.F0 d.T) (frontS (d.S.take k) d.F0), wsInst (pr (d.S.take k) d.F1 d.T) (frontS (d.S.take k) d.F1)]) rfl (itE rfl (rName rfl) rfl ?hl) ?hc ?hl2) (gName rfl)
    case hl => exact (show 2 ≤ lim by decide)
    case hl2 => exact (show 2 ≤ lim by decide)
    case hc => exact cTwo (cB (gName rfl) (rCall rfl rfl (rEs (rName rfl) rEs0) (mk_ws h k h.f0))) (cB (gName rfl) (rCall rfl rfl (rEs (rName rfl) rEs0) (mk_ws h k h.f1)))
theorem front64 (h : d.Ok) (k : Nat) {F : List Nat} (hF : blanks F ∧ F.length ≤ 40) : (frontS (d.S.take k) F).cnt.length ≤ 10000 := by
  have := fill64 (h.okF k) (by rw [List.length_take]; exact Nat.min_le_right ..) F 0
  exact cnt_len _ (blanks_fill hF.1) w0 (Int.le_refl _) (by show (0 : Int) + _ ≤ _; lia) (Nat.zero_le _)
theorem lv_one (h : d.Ok) (hk : k < 3) {F : List Nat} (hF : blanks F ∧ F.length ≤ 40) : CallD lawC (n + 30) (.old (.ref 175)) [wsInst (pr (d.S.take k) F d.T) (frontS (d.S.take k) F), .int (d.at k : Int)] σ (.int (levelW (frontS (d.S.take k) F) (d.at k : Int))) σ :=
  level_ok (by have := h.at hk; lia) (front64 h k hF)
/- levels = .. -/
theorem t1 (h : d.Ok) (hk : k < 3) {st : Stmt} (hs : trnB 1 = st) {tl : VarsN} (ht : tl = [(k_turn, .int (k : Int)), (k_marks, marksD (d.S.take k) d)] ∨ ∃ l, tl = tlT (some ((k : Int), marksD (d.S.take k) d, l))) :
    ExS lawC (n + 60) eiLaw st (rB d R P0 P1 tl) σ .next (rB d R P0 P1 (tlT (some ((k : Int), marksD (d.S.take k) d, levsD (d.S.take k) d (d.at k))))) σ := by
  conv at hs => lhs; whnf
  subst hs
  rcases ht with rfl | ⟨l, rfl⟩
  all_goals
    refine' sAsgC rfl rfl (rLCc (σ₂ := σ) (es := [.int (levelW (frontS (d.S.take k) d.F0) (d.at k : Int)), .int (levelW (frontS (d.S.take k) d.F1) (d.at k : Int))]) rfl (itE rfl (rName rfl) rfl ?hl) ?hc ?hl2) (gName rfl)
    case hl => exact (show 2 ≤ lim by decide)
    case hl2 => exact (show 2 ≤ lim by decide)
    case hc => exact cTwo (cB (gName rfl) (rMethF rfl (rName rfl) rfl (rEs (rItem rfl (rName rfl) (rName rfl) (eSize hk)) rEs0) rfl (lv_one h hk h.f0))) (cB (gName rfl) (rMethF rfl (rName rfl) rfl (rEs (rItem rfl (rName rfl) (rName rfl) (eSize hk)) rEs0) rfl (lv_one h hk h.f1)))
/- equal, either way round -/
theorem t2 (h : d.Ok) {q : Int} {L : D} {st : Stmt} (hs : trnB 2 = st) :
    ExS lawC (n + 60) eiLaw st (rB d R P0 P1 (tlT (some (q, marksD (d.S.take k) d, L)))) σ .next (rB d R P0 P1 (tlT (some (q, marksD (d.S.take k) d, L)))) σ := by
  conv at hs => lhs; whnf
  subst hs
  have hz : (d.S.take k).length ≤ 3 := by rw [List.length_take]; exact Nat.min_le_right ..
  have e1 := alike_fill (okZ_take h.okS k) hz h.f0.1 h.f1.1
  have e2 := alike_fill (okZ_take h.okS k) hz h.f1.1 h.f0.1
  have e3 : (kindL d.F1 == kindL d.F0) = (kindL d.F0 == kindL d.F1) := BEq.comm
  exact sIfF (tOp (aOrF (tCmp (rMethF rfl (rItem rfl (rName rfl) rInt rfl) rfl (rEs (rItem rfl (rName rfl) rInt rfl) rEs0) rfl equal_ok) (rName rfl) (isnot_same _ _ e1)) (aOrF (tCmp (rMethF rfl (rItem rfl (rName rfl) rInt rfl) rfl (rEs (rItem rfl (rName rfl) rInt rfl) rEs0) rfl equal_ok) (rName rfl) (isnot_same _ _ (e2.trans e3))) aNil))) L0
theorem plain_clean (r : Nat) : clean (plainR r) := fun c hc => by
  unfold plainR at hc
  rcases List.mem_append.mp hc with hc | hc
  · rw [reps_one] at hc; rw [(List.mem_replicate.mp hc).2]; decide
  · rw [List.mem_singleton.mp hc]; decide
theorem ruler_next (h : d.Ok) (hk : k < 3) : ((rulerN (d.S.take k) d.p).map (· ++ [10])).map (expL (d.at k)) = rulerN (d.S.take (k + 1)) d.p := by
  have hz : (d.S.take k).length ≤ 3 := by rw [List.length_take]; exact Nat.min_le_right ..
  unfold rulerN
  rw [List.map_map, List.map_map]
  refine List.map_congr_left fun r _ => ?_
  show expL (d.at k) (fillR (d.S.take k) 0 (plainR r) ++ [10]) = _
  rw [expL_fill_nl (h.at hk).1 (clean_fill (plain_clean r)), fill_fill (okZ_take h.okS k) hz (h.at hk).1, take_at hk]
theorem pr_next (h : d.Ok) (hk : k < 3) {F : List Nat} (hF : blanks F) : expL (d.at k) (pr (d.S.take k) F d.T) = pr (d.S.take (k + 1)) F d.T ∧ expL (d.at k) (pr (d.S.take k) F d.T ++ [10]) = pr (d.S.take (k + 1)) F d.T := by
  have hz : (d.S.take k).length ≤ 3 := by rw [List.length_take]; exact Nat.min_le_right ..
  have hc : clean (fillR (d.S.take k) 0 (F ++ d.T)) := clean_fill (h.lineclean hF)
  rw [pr_eq, pr_eq, expL_fill (h.at hk).1 hc, expL_fill_nl (h.at hk).1 hc, fill_fill (okZ_take h.okS k) hz (h.at hk).1, take_at hk]
  exact ⟨rfl, rfl⟩
theorem ruler64 (h : d.Ok) (k : Nat) : ∀ l ∈ rulerN (d.S.take k) d.p, l.length ≤ 13 * 64 := by
  intro l hl
  obtain ⟨r, hr, rfl⟩ := List.mem_map.mp hl
  have := List.mem_range.mp hr
  have hp := h.p
  have h1 := fill64 (h.okF k) (by rw [List.length_take]; exact Nat.min_le_right ..) (plainR r) 0
  have : (plainR r).length = r + 1 := by unfold plainR; rw [List.length_append, reps_len, List.length_singleton, List.length_singleton]; lia
  lia
theorem ruler_len {sz : List Int} {p : Nat} : (rulerN sz p).length = p + 1 := by unfold rulerN; rw [List.length_map, List.length_range]
/- ruler, pair = .. -/
theorem t3 (h : d.Ok) (hk : k < 3) {m L : D} {st : Stmt} (hs : trnB 3 = st) :
    ExS lawC (n + 60) eiLaw st (rB d (rulerN (d.S.take k) d.p) (pr (d.S.take k) d.F0 d.T) (pr (d.S.take k) d.F1 d.T) (tlT (some ((k : Int), m, L)))) σ .next (rB d (rulerN (d.S.take (k + 1)) d.p) (pr (d.S.take (k + 1)) d.F0 d.T) (pr (d.S.take (k + 1)) d.F1 d.T) (tlT (some ((k : Int), m, L)))) σ := by
  conv at hs => lhs; whnf
  subst hs
  have hlim : lim = 16777216 := rfl
  have hat := h.at hk
  have hp := h.p
  have l0 := pr64 h k h.f0.2
  have l1 := pr64 h k h.f1.2
  have hrl := ruler_len (sz := d.S.take k) (p := d.p)
  have tb : ∀ m, CallD lawC (m + 40) (.old (.ref 58)) [hdInst (d.at k), .list (((rulerN (d.S.take k) d.p).map (· ++ [10])).map .str), .list ([pr (d.S.take k) d.F0 d.T, pr (d.S.take k) d.F1 d.T ++ [10]].map .str)] σ (.tup [.list ((rulerN (d.S.take (k + 1)) d.p).map .str), .list [.str (pr (d.S.take (k + 1)) d.F0 d.T), .str (pr (d.S.take (k + 1)) d.F1 d.T)]]) σ := by
    intro m
    have := tab_ok (n := m) (s := d.at k) (a := (rulerN (d.S.take k) d.p).map (· ++ [10])) (b := [pr (d.S.take k) d.F0 d.T, pr (d.S.take k) d.F1 d.T ++ [10]]) (σ := σ) hat.1 (by lia) (by rw [List.length_map]; lia) (by simp) (fun l hl => by
      obtain ⟨r, hr, rfl⟩ := List.mem_map.mp hl
      have := ruler64 h k r hr
      rw [List.length_append, List.length_singleton]; lia) (fun l hl => by
      rcases List.mem_cons.mp hl with rfl | hl
      · lia
      · rw [List.mem_singleton.mp hl, List.length_append, List.length_singleton]; lia)
    rw [ruler_next h hk] at this
    rw [← (pr_next h hk h.f0.1).1, ← (pr_next h hk h.f1.1).2]
    exact this
  refine' sAsg rfl rfl (rMethF rfl (rCall rfl rfl (rEs (rItem rfl (rName rfl) (rName rfl) (eSize hk)) rEs0) hd_ok) rfl (rEs (rLC (σ₂ := σ) (es := ((rulerN (d.S.take k) d.p).map (· ++ [10])).map .str) rfl (itE rfl (rName rfl) rfl ?hl) ?hc ?hl2) (rEs (rList rfl (rEs (rItem rfl (rName rfl) rInt rfl) (rEs (rBin (rItem rfl (rName rfl) rInt rfl) (rStr (l := [10]) rfl rfl) (bAddS ?hl3)) rEs0))) rEs0)) rfl (tb _)) (gTup (gs (gName rfl) (gs (gName rfl) gs0)))
  case hl => rw [List.length_map]; lia
  case hl2 => rw [List.length_map, List.length_map]; lia
  case hl3 => rw [List.length_singleton]; lia
  case hc =>
    rw [List.map_map (g := D.str) (f := fun x => x ++ [10])]
    exact cMap fun l hl => cB (gName rfl) (rBin (rName rfl) (rStr (l := [10]) rfl rfl) (bAddS (by have := ruler64 h k l hl; rw [List.length_singleton]; lia)))
theorem fl_line (h : d.Ok) (k : Nat) {F : List Nat} (hF : F.length ≤ 40) : CallD lawC (n + 20) (.old (.ref 264)) [.str (F ++ d.T), .list ((d.S.take k).map .int)] σ (.str (pr (d.S.take k) F d.T)) σ := by
  rw [pr_eq]
  have := h.tlen
  exact filled_short (okZ_take h.okS k) (by rw [List.length_take]; exact Nat.min_le_right ..) (by rw [List.length_append]; lia)
theorem fl_front (h : d.Ok) (k : Nat) {F : List Nat} (hF : F.length ≤ 40) : CallD lawC (n + 20) (.old (.ref 264)) [.str F, .list ((d.S.take k).map .int)] σ (.str (fillR (d.S.take k) 0 F)) σ :=
  filled_short (okZ_take h.okS k) (by rw [List.length_take]; exact Nat.min_le_right ..) (by lia)
theorem lv_len (h : d.Ok) (hk : k < 3) {F : List Nat} (hF : blanks F) : levelW (frontS (d.S.take k) F) (d.at k : Int) = ((fillR (d.S.take (k + 1)) 0 F).length : Int) := by
  have hz : (d.S.take k).length ≤ 3 := by rw [List.length_take]; exact Nat.min_le_right ..
  rw [level_len _ (h.at hk).1 (blanks_fill hF), fill_fill (okZ_take h.okS k) hz (h.at hk).1, take_at hk]
theorem fr_len (h : d.Ok) (k : Nat) {F : List Nat} (hF : F.length ≤ 40) : (fillR (d.S.take k) 0 F).length ≤ lim := by
  have := fill64 (h.okF k) (by rw [List.length_take]; exact Nat.min_le_right ..) F 0
  have hlim : lim = 16777216 := rfl
  lia
/- what is asked of a turn -/
theorem t4 (h : d.Ok) (hk : k < 3) {m : D} {st : Stmt} (hs : trnB 4 = st) :
    ExS lawC (n + 60) eiLaw st (rB d R (pr (d.S.take (k + 1)) d.F0 d.T) (pr (d.S.take (k + 1)) d.F1 d.T) (tlT (some ((k : Int), m, levsD (d.S.take k) d (d.at k))))) σ .next (rB d R (pr (d.S.take (k + 1)) d.F0 d.T) (pr (d.S.take (k + 1)) d.F1 d.T) (tlT (some ((k : Int), m, levsD (d.S.take k) d (d.at k))))) σ := by
  conv at hs => lhs; whnf
  subst hs
  have c1 := ne_strs [pr (d.S.take (k + 1)) d.F0 d.T, pr (d.S.take (k + 1)) d.F1 d.T]
  have c2 := ne_ints [((fillR (d.S.take (k + 1)) 0 d.F0).length : Int), ((fillR (d.S.take (k + 1)) 0 d.F1).length : Int)]
  have c2' : CmpD .NotEq (levsD (d.S.take k) d (d.at k)) (.list [.int ((fillR (d.S.take (k + 1)) 0 d.F0).length : Int), .int ((fillR (d.S.take (k + 1)) 0 d.F1).length : Int)]) false := by
    rw [← lv_len h hk h.f0.1, ← lv_len h hk h.f1.1] at c2 ⊢
    exact c2
  refine' sIfF (tOp (aOrF (tCmp (rName rfl) (rLC (σ₂ := σ) (es := [.str (pr (d.S.take (k + 1)) d.F0 d.T), .str (pr (d.S.take (k + 1)) d.F1 d.T)]) rfl (itE rfl (rName rfl) rfl ?h1) ?h2 ?h3) c1) (aOrF (tCmp (rName rfl) (rLC (σ₂ := σ) (es := [.int ((fillR (d.S.take (k + 1)) 0 d.F0).length : Int), .int ((fillR (d.S.take (k + 1)) 0 d.F1).length : Int)]) rfl (itE rfl (rName rfl) rfl ?h4) ?h5 ?h6) c2') aNil))) L0
  case h1 => exact (show 2 ≤ lim by decide)
  case h3 => exact (show 2 ≤ lim by decide)
  case h4 => exact (show 2 ≤ lim by decide)
  case h6 => exact (show 2 ≤ lim by decide)
  case h2 => exact cTwo (cB (gName rfl) (rCall rfl rfl (rEs (rName rfl) (rEs (rCut (rName rfl) rO0 (rO (rBin (rName rfl) rInt bAdd)) rfl (endK hk) (cutK hk)) rEs0)) (fl_line h (k + 1) h.f0.2))) (cB (gName rfl) (rCall rfl rfl (rEs (rName rfl) (rEs (rCut (rName rfl) rO0 (rO (rBin (rName rfl) rInt bAdd)) rfl (endK hk) (cutK hk)) rEs0)) (fl_line h (k + 1) h.f1.2)))
  case h5 => exact cTwo (cB (gName rfl) (rCall rfl rfl (rEs (rCall rfl rfl (rEs (rName rfl) (rEs (rCut (rName rfl) rO0 (rO (rBin (rName rfl) rInt bAdd)) rfl (endK hk) (cutK hk)) rEs0)) (fl_front h (k + 1) h.f0.2)) rEs0) (rBi (eLenS (fr_len h (k + 1) h.f0.2))))) (cB (gName rfl) (rCall rfl rfl (rEs (rCall rfl rfl (rEs (rName rfl) (rEs (rCut (rName rfl) rO0 (rO (rBin (rName rfl) rInt bAdd)) rfl (endK hk) (cutK hk)) rEs0)) (fl_front h (k + 1) h.f1.2)) rEs0) (rBi (eLenS (fr_len h (k + 1) h.f1.2)))))
/- a turn -/
theorem turn_ok' (h : d.Ok) (hk : k < 3) {o : Option (Int × D × D)} {t : Expr} {b : List Stmt} (hs : ∃ it q, nth (bodyOf (topAt 36)) 5 = .For t it b [] q) :
    loopB lawC (n + 70) eiLaw t b (.int (k : Int)) (rB d (rulerN (d.S.take k) d.p) (pr (d.S.take k) d.F0 d.T) (pr (d.S.take k) d.F1 d.T) (tlT o)) σ .next (rB d (rulerN (d.S.take (k + 1)) d.p) (pr (d.S.take (k + 1)) d.F0 d.T) (pr (d.S.take (k + 1)) d.F1 d.T) (tlT (some ((k : Int), marksD (d.S.take k) d, levsD (d.S.take k) d (d.at k))))) σ := by
  obtain ⟨it, q, hs⟩ := hs
  conv at hs => lhs; whnf
  cases hs
  have u2 := fun m => t2 (n := m) (σ := σ) (k := k) (R := rulerN (d.S.take k) d.p) (P0 := pr (d.S.take k) d.F0 d.T) (P1 := pr (d.S.take k) d.F1 d.T) (q := (k : Int)) (L := levsD (d.S.take k) d (d.at k)) h rfl
  have u3 := fun m => t3 (n := m) (σ := σ) (m := marksD (d.S.take k) d) (L := levsD (d.S.take k) d (d.at k)) h hk rfl
  have u4 := fun m => t4 (n := m) (σ := σ) (R := rulerN (d.S.take (k + 1)) d.p) (m := marksD (d.S.take k) d) h hk rfl
  cases o with
  | none =>
    have u0 := fun m => t0 (n := m) (σ := σ) (k := k) (R := rulerN (d.S.take k) d.p) h rfl (q := 0) (.inl ⟨(k : Int), rfl, rfl⟩)
    have u1 := fun m => t1 (n := m) (σ := σ) (R := rulerN (d.S.take k) d.p) (P0 := pr (d.S.take k) d.F0 d.T) (P1 := pr (d.S.take k) d.F1 d.T) h hk rfl (.inl rfl)
    exact lB (ρ₁ := rB d (rulerN (d.S.take k) d.p) (pr (d.S.take k) d.F0 d.T) (pr (d.S.take k) d.F1 d.T) [(k_turn, .int (k : Int))]) (gName rfl) (L1 (u0 (n + 9)) (L1 (u1 (n + 8)) (L1 (u2 (n + 7)) (L1 (u3 (n + 6)) (L1 (u4 (n + 5)) L0)))))
  | some x =>
    obtain ⟨q, m, l⟩ := x
    have u0 := fun m' => t0 (n := m') (σ := σ) (k := k) (R := rulerN (d.S.take k) d.p) h rfl (q := 0) (.inr ⟨(k : Int), m, l, rfl, rfl⟩)
    have u1 := fun m => t1 (n := m) (σ := σ) (R := rulerN (d.S.take k) d.p) (P0 := pr (d.S.take k) d.F0 d.T) (P1 := pr (d.S.take k) d.F1 d.T) h hk rfl (.inr ⟨l, rfl⟩)
    exact lB (ρ₁ := rB d (rulerN (d.S.take k) d.p) (pr (d.S.take k) d.F0 d.T) (pr (d.S.take k) d.F1 d.T) (tlT (some ((k : Int), m, l)))) (gName rfl) (L1 (u0 (n + 9)) (L1 (u1 (n + 8)) (L1 (u2 (n + 7)) (L1 (u3 (n + 6)) (L1 (u4 (n + 5)) L0)))))
end
end
section
section
variable {n : Nat} {d : LD} {σ : Store}
noncomputable abbrev lawS (i : Nat) : Stmt := nth (bodyOf (topAt 36)) i
noncomputable abbrev rA (d : LD) : VarsN := [(k_script, .list (d.sc.map .int)), (k_sizes, .list [.int (d.a0 : Int), .int (d.a1 : Int), .int (d.a2 : Int)]), (k_wide, .int (d.w : Int)), (k_fronts, .list [.str d.F0, .str d.F1]), (k_text, .str d.T), (k_which, .int (d.q : Int))]
theorem x0 {rp : Bool} (hw : ∀ n σ, CallD (lawB rp) (n + 60) (.old (.ref 257)) [.list (d.sc.map .int)] σ (.tup [.list [.int (d.a0 : Int), .int (d.a1 : Int), .int (d.a2 : Int)], .int (d.w : Int), .list [.str d.F0, .str d.F1], .str d.T, .int (d.q : Int)]) σ) {st : Stmt} (hs : lawS 0 = st) :
    ExS (lawB rp) (n + 70) eiLaw st [(k_script, .list (d.sc.map .int))] σ .next (rA d) σ := by
  conv at hs => lhs; whnf
  subst hs
  exact sAsg rfl rfl (rCall rfl rfl (rEs (rName rfl) rEs0) (hw (n + 8) σ)) (gTup (gs (gName rfl) (gs (gName rfl) (gs (gName rfl) (gs (gName rfl) (gs (gName rfl) gs0))))))
noncomputable def perC (S : List Int) (k : Nat) : Bool := (S.filter fun s => (1 + (k : Int)).fmod s != 0) == []
theorem eq_ints (a b : List Int) : CmpD .Eq (.list (a.map .int)) (.list (b.map .int)) (a == b) := cEq ⟨_, _, psList (plMap (fun _ => psInt) a), psList (plMap (fun _ => psInt) b), fun _ => eqv_ints a b⟩
theorem eq_nil (l : List Int) : CmpD .Eq (.list (l.map .int)) (.list []) (l == []) := eq_ints l []
theorem x1 {rp : Bool} (h : d.Ok) (hp : ∃ r, (List.range 12).filter (perC d.S) = (d.p - 1) :: r) {st : Stmt} (hs : lawS 1 = st) :
    ExS (lawB rp) (n + 70) eiLaw st (rA d) σ .next (rA d ++ [(k_period, .int (d.p : Int))]) σ := by
  conv at hs => lhs; whnf
  subst hs
  obtain ⟨r, hr⟩ := hp
  have hp1 := h.p.1
  have hlim : lim = 16777216 := rfl
  have hlen : (((List.range 12).filter (perC d.S)).map fun (k : Nat) => D.int (1 + (k : Int))).length ≤ lim := by
    rw [List.length_map]
    have := List.length_filter_le (perC d.S) (List.range 12)
    rw [List.length_range] at this
    lia
  have hit : itemD σ (.list (((List.range 12).filter (perC d.S)).map fun (k : Nat) => D.int (1 + (k : Int)))) (.int 0) = some (.int (d.p : Int)) := by
    show (if _ ≤ lim then (if (0 : Int) < 0 then _ else if (0 : Int) < 2 ^ 62 then (((List.range 12).filter (perC d.S)).map fun (k : Nat) => D.int (1 + (k : Int)))[(0 : Int).toNat]? else none) else none) = _
    rw [if_pos hlen, if_neg (by decide), if_pos (by decide), hr]
    show some (D.int (1 + ((d.p - 1 : Nat) : Int))) = _
    rw [show (1 + ((d.p - 1 : Nat) : Int)) = (d.p : Int) by lia]
  refine' sAsg rfl rfl (rItem rfl (rLC (σ₂ := σ) (es := ((List.range 12).filter (perC d.S)).map fun (k : Nat) => D.int (1 + (k : Int))) rfl (itRange2 rfl rfl (rEs rInt (rEs rInt rEs0)) (by decide)) ?hc hlen) rInt hit) (gName rfl)
  case hc =>
    refine cFilter (xs := List.range 12) (g := fun (k : Nat) => D.int (1 + (k : Int))) (f := fun (k : Nat) => D.int (1 + (k : Int))) (c := perC d.S) (fun k hk => ?_)
    refine' cBi (gName rfl) (tCmp (rLC (σ₂ := σ) (es := (d.S.filter fun s => (1 + (k : Int)).fmod s != 0).map .int) rfl (itE rfl (rName rfl) rfl ?hl) ?hc2 ?hl2) (rList rfl rEs0) (eq_nil _)) (rName rfl)
    case hl => exact (show 3 ≤ lim by decide)
    case hl2 =>
      rw [List.length_map]
      have := List.length_filter_le (fun s => (1 + (k : Int)).fmod s != 0) d.S
      exact Nat.le_trans this (show 3 ≤ lim by decide)
    case hc2 =>
      exact cFilter (xs := d.S) (g := .int) (f := .int) (c := fun s => (1 + (k : Int)).fmod s != 0) (fun s hs => cBi (gName rfl) (tE rfl (rBin (rName rfl) (rName rfl) (bMod (by have := h.okS s hs; lia))) uInt) (rName rfl))
theorem rangeD_nat (m : Nat) : rangeD 0 (m : Int) = (List.range m).map fun (k : Nat) => D.int (k : Int) := by
  unfold rangeD
  have : ((m : Int) - 0).toNat = m := by lia
  rw [this]
  refine List.map_congr_left fun k _ => ?_
  rw [Int.zero_add]
noncomputable abbrev rA1 (d : LD) : VarsN := [(k_script, .list (d.sc.map .int)), (k_sizes, .list [.int (d.a0 : Int), .int (d.a1 : Int), .int (d.a2 : Int)]), (k_wide, .int (d.w : Int)), (k_fronts, .list [.str d.F0, .str d.F1]), (k_text, .str d.T), (k_which, .int (d.q : Int)), (k_period, .int (d.p : Int))]
noncomputable abbrev rA2 (d : LD) : VarsN := [(k_script, .list (d.sc.map .int)), (k_sizes, .list [.int (d.a0 : Int), .int (d.a1 : Int), .int (d.a2 : Int)]), (k_wide, .int (d.w : Int)), (k_fronts, .list [.str d.F0, .str d.F1]), (k_text, .str d.T), (k_which, .int (d.q : Int)), (k_period, .int (d.p : Int)), (k_plain, .list ((rulerN [] d.p).map .str))]
noncomputable abbrev rA3 (d : LD) : VarsN := [(k_script, .list (d.sc.map .int)), (k_sizes, .list [.int (d.a0 : Int), .int (d.a1 : Int), .int (d.a2 : Int)]), (k_wide, .int (d.w : Int)), (k_fronts, .list [.str d.F0, .str d.F1]), (k_text, .str d.T), (k_which, .int (d.q : Int)), (k_period, .int (d.p : Int)), (k_plain, .list ((rulerN [] d.p).map .str)), (k_lines, .list [.str (d.F0 ++ d.T), .str (d.F1 ++ d.T)]), (k_alike, .bool (kindL d.F0 == kindL d.F1))]
theorem ruler_nil (p : Nat) : rulerN [] p = (List.range (p + 1)).map plainR := by
  unfold rulerN
  refine List.map_congr_left fun r _ => ?_
  rw [fill_nil]
theorem plain_len (r : Nat) : (plainR r).length = r + 1 := by unfold plainR; rw [List.length_append, reps_len, List.length_singleton, List.length_singleton]; lia
theorem plain_el {ei : EI} {ρ : VarsN} {p1 p2 p3 p4 p5 : Pos} {k1 k2 : Nat} {r : Nat} (hr : r ≤ 100) (hg : getV ei lawC.glob (nm (Str.ofString "run")) ρ = some (.int (r : Int))) :
    EvE lawC (n + 3) ei (.BinOp (.BinOp (.Constant (.str (Str.ofString " ")) k1 p1) .Mult (.Name (Str.ofString "run") p2) p3) .Add (.Constant (.str (Str.ofString "\t")) k2 p4) p5) ρ σ (.str (plainR r)) σ := by
  have hlim : lim = 16777216 := rfl
  have e : (reps [32] ((r : Int)).toNat).length = r := by rw [reps_len, List.length_singleton]; lia
  exact rBin (rBin (rStr (l := [32]) rfl rfl) (rName hg) (bMulS (by rw [List.length_singleton]; lia))) (rStr (l := [9]) rfl rfl) (bAddS (by rw [e, List.length_singleton]; lia))
theorem x2 (h : d.Ok) {st : Stmt} (hs : lawS 2 = st) : ExS lawC (n + 70) eiLaw st (rA1 d) σ .next (rA2 d) σ := by
  conv at hs => lhs; whnf
  subst hs
  have hp := h.p
  have hlim : lim = 16777216 := rfl
  refine' sAsgC rfl rfl (rLCc (σ₂ := σ) (es := (rulerN [] d.p).map .str) rfl (itRange1 (i := ((d.p + 1 : Nat) : Int)) rfl rfl (rEs (rBin (rName rfl) rInt bAdd) rEs0) ?h0) ?hc ?hl) (gName rfl)
  case h0 => lia
  case hl => rw [List.length_map, ruler_len]; lia
  case hc =>
    rw [rangeD_nat, ruler_nil, List.map_map]
    exact cMap fun r hr => cB (gName rfl) (plain_el (by have := List.mem_range.mp hr; lia) rfl)
theorem x3 (h : d.Ok) {st : Stmt} (hs : lawS 3 = st) : ExS lawC (n + 70) eiLaw st (rA2 d) σ .next (rA3 d) σ := by
  conv at hs => lhs; whnf
  subst hs
  have hlim : lim = 16777216 := rfl
  have f0 := h.f0.2
  have f1 := h.f1.2
  have ht := h.tlen
  refine' sAsgs rfl (vE rfl (rLC (σ₂ := σ) (es := [.str (d.F0 ++ d.T), .str (d.F1 ++ d.T)]) rfl (itE rfl (rName rfl) rfl ?hl) ?hc ?hl2) (vE rfl (rCmp (rCall rfl rfl (rEs (rItem rfl (rName rfl) rInt rfl) rEs0) (kind_ok (by lia))) (rCall rfl rfl (rEs (rItem rfl (rName rfl) rInt rfl) rEs0) (kind_ok (by lia))) (eq_ints _ _)) v0)) (gs (gName rfl) (gs (gName rfl) gs0))
  case hl => exact (show 2 ≤ lim by decide)
  case hl2 => exact (show 2 ≤ lim by decide)
  case hc => exact cTwo (cB (gName rfl) (rBin (rName rfl) (rName rfl) (bAddS (by lia)))) (cB (gName rfl) (rBin (rName rfl) (rName rfl) (bAddS (by lia))))
theorem pr_nil (F T : List Nat) : pr [] F T = F ++ T := by rw [pr_eq, fill_nil]
theorem x4 {st : Stmt} (hs : lawS 4 = st) : ExS lawC (n + 70) eiLaw st (rA3 d) σ .next (rB d (rulerN (d.S.take 0) d.p) (pr (d.S.take 0) d.F0 d.T) (pr (d.S.take 0) d.F1 d.T) (tlT none)) σ := by
  rw [show d.S.take 0 = [] from rfl, pr_nil, pr_nil]
  conv at hs => lhs; whnf
  subst hs
  exact sAsgs rfl (vE rfl (rName rfl) (vE rfl (rName rfl) v0)) (gs (gName rfl) (gs (gName rfl) gs0))
noncomputable abbrev tl3 (d : LD) : VarsN := tlT (some (((2 : Nat) : Int), marksD (d.S.take 2) d, levsD (d.S.take 2) d (d.at 2)))
theorem x5 (h : d.Ok) {st : Stmt} (hs : lawS 5 = st) : ExS lawC (n + 72) eiLaw st (rB d (rulerN (d.S.take 0) d.p) (pr (d.S.take 0) d.F0 d.T) (pr (d.S.take 0) d.F1 d.T) (tlT none)) σ .next (rB d (rulerN d.S d.p) (pr d.S d.F0 d.T) (pr d.S d.F1 d.T) (tl3 d)) σ := by
  have A := turn_ok' (n := n + 1) (σ := σ) h (k := 0) (by decide) (o := none) ⟨_, _, rfl⟩
  have B := turn_ok' (n := n + 1) (σ := σ) h (k := 1) (by decide) (o := some (((0 : Nat) : Int), marksD (d.S.take 0) d, levsD (d.S.take 0) d (d.at 0))) ⟨_, _, rfl⟩
  have E := turn_ok' (n := n + 1) (σ := σ) h (k := 2) (by decide) (o := some (((1 : Nat) : Int), marksD (d.S.take 1) d, levsD (d.S.take 1) d (d.at 1))) ⟨_, _, rfl⟩
  conv at hs => lhs; whnf
  subst hs
  exact sFor (itRange1 rfl rfl (rEs rInt rEs0) (by decide)) (fN A (fN B (fN E f0)))
end
end
section
noncomputable def hA (q : Nat) : Addr := [224, 245, 231, 252, 238].getD q 224
noncomputable def chn (q : Nat) : Chain := [esCdata, esCdataN, esAttrib, esAttribN, esHtml].getD q esCdata
noncomputable def tabE (q : Nat) : List Nat := if q % 2 = 0 then [38, 35, 48, 57, 59] else [38, 35, 120, 57, 59]
noncomputable def sgn (q : Nat) : List Nat := [[38, 60, 62], [38, 60, 62], [38, 60, 62, 34, 9], [38, 60, 34, 9], [38, 62, 34]].getD q []
noncomputable def nmE (q c : Nat) : List Nat := if c = 38 then [38, 97, 109, 112, 59] else if c = 60 then [38, 108, 116, 59] else if c = 62 then [38, 103, 116, 59] else if c = 34 then [38, 113, 117, 111, 116, 59] else tabE q
noncomputable def tblE (q c : Nat) : List Nat := if c ∈ sgn q then nmE q c else [c]
theorem five {q : Nat} (h : q < 5) : q = 0 ∨ q = 1 ∨ q = 2 ∨ q = 3 ∨ q = 4 := by lia
theorem hand_ok {n q : Nat} {l : List Nat} {σ : Store} (hq : q < 5) (hl : l.length ≤ 10000) : CallD lawC (n + 30) (.old (.ref (hA q))) [.str l] σ (.str (l.flatMap (chainE (chn q)))) σ := by
  rcases five hq with rfl | rfl | rfl | rfl | rfl
  · exact cdata_ok hl
  · exact cdataN_ok hl
  · exact attrib_ok hl
  · exact attribN_ok hl
  · exact html_ok hl
theorem chain_tbl {q c : Nat} (hq : q < 5) (h10 : c ≠ 10) (h13 : c ≠ 13) : chainE (chn q) c = tblE q c := by
  by_cases hc : c = 38 ∨ c = 60 ∨ c = 62 ∨ c = 34 ∨ c = 9
  · rcases five hq with rfl | rfl | rfl | rfl | rfl <;> rcases hc with rfl | rfl | rfl | rfl | rfl <;> decide
  · have h1 : c ∉ sgn q := by
      intro hm
      rcases five hq with rfl | rfl | rfl | rfl | rfl <;> simp [sgn] at hm <;> lia
    have h2 : c ∉ (chn q).map (·.1) := by
      intro hm
      rcases five hq with rfl | rfl | rfl | rfl | rfl <;> simp [chn, esCdata, esCdataN, esAttrib, esAttribN, esHtml] at hm <;> lia
    unfold tblE
    rw [if_neg h1, chain_other h2]
theorem look_tbl (g : Nat → List Nat) (c : Nat) : ∀ (cs : List Nat), lookK [c] (cs.map fun x => [x]) (cs.map fun x => D.str (g x)) = if c ∈ cs then some (.str (g c)) else none
  | [] => rfl
  | x :: cs => by
    show (if [x] = [c] then some (D.str (g x)) else lookK [c] (cs.map fun x => [x]) (cs.map fun x => D.str (g x))) = _
    by_cases h : x = c
    · subst h; rw [if_pos rfl, if_pos (List.mem_cons_self ..)]
    · rw [if_neg (by simpa using h), look_tbl g c cs]
      have : c ∈ x :: cs ↔ c ∈ cs := by rw [List.mem_cons]; exact ⟨fun q => q.resolve_left fun e => h e.symm, .inr⟩
      simp only [this]
noncomputable abbrev tabD (q : Nat) : D := .dict ((sgn q).map fun x => [x]) ((sgn q).map fun x => D.str (nmE q x))
theorem get_tbl (q c : Nat) : MethD (Str.ofString "get") (tabD q) [.str [c], .str [c]] (.str (tblE q c)) := by
  rw [← show (lookK [c] ((sgn q).map fun x => [x]) ((sgn q).map fun x => D.str (nmE q x))).getD (.str [c]) = .str (tblE q c) by
    rw [look_tbl]
    unfold tblE
    split <;> rfl]
  exact eGet
theorem pairs_map (g : Nat → List Nat) : ∀ (cs : List Nat), pairsD (cs.map fun c => D.tup [.str [c], .str (g c)]) = some (cs.map fun x => [x], cs.map fun x => D.str (g x))
  | [] => rfl
  | c :: cs => by
    show (pairsD (cs.map fun c => D.tup [.str [c], .str (g c)])).map (fun p => ([c] :: p.1, D.str (g c) :: p.2)) = _
    rw [pairs_map g cs]; rfl
noncomputable abbrev namD (q : Nat) : D := .dict [[38], [60], [62], [34], [9]] [.str [38, 97, 109, 112, 59], .str [38, 108, 116, 59], .str [38, 103, 116, 59], .str [38, 113, 117, 111, 116, 59], .str (tabE q)]
section
variable {n : Nat} {d : LD} {σ : Store}
noncomputable abbrev rC (d : LD) (ext : VarsN) : VarsN := rB d (rulerN d.S d.p) (pr d.S d.F0 d.T) (pr d.S d.F1 d.T) (tl3 d ++ ext)
noncomputable abbrev e6 (d : LD) : VarsN := [(k_hand, .old (.ref (hA d.q)))]
noncomputable abbrev e7 (d : LD) : VarsN := [(k_hand, .old (.ref (hA d.q))), (k_names, namD d.q)]
noncomputable abbrev e8 (d : LD) : VarsN := [(k_hand, .old (.ref (hA d.q))), (k_names, namD d.q), (k_table, tabD d.q)]
theorem eHand {q : Nat} (hq : q < 5) : itemD σ (.list [.old (.ref 224), .old (.ref 245), .old (.ref 231), .old (.ref 252), .old (.ref 238)]) (.int (q : Int)) = some (.old (.ref (hA q))) := by
  rcases five hq with rfl | rfl | rfl | rfl | rfl <;> rfl
theorem x6 (h : d.Ok) {st : Stmt} (hs : lawS 6 = st) : ExS lawC (n + 70) eiLaw st (rC d []) σ .next (rC d (e6 d)) σ := by
  conv at hs => lhs; whnf
  subst hs
  exact sAsg rfl rfl (rItem rfl (rList rfl (rEs (rName rfl) (rEs (rName rfl) (rEs (rName rfl) (rEs (rName rfl) (rEs (rName rfl) rEs0)))))) (rName rfl) (eHand h.q)) (gName rfl)
theorem eTabE {q : Nat} (hq : q < 5) : itemD σ (.list [.str [38, 35, 48, 57, 59], .str [38, 35, 120, 57, 59]]) (.int ((q : Int).fmod 2)) = some (.str (tabE q)) := by
  rcases five hq with rfl | rfl | rfl | rfl | rfl <;> rfl
theorem x7 (h : d.Ok) {st : Stmt} (hs : lawS 7 = st) : ExS lawC (n + 70) eiLaw st (rC d (e6 d)) σ .next (rC d (e7 d)) σ := by
  conv at hs => lhs; whnf
  subst hs
  exact sAsg rfl rfl (rDict rfl (kv (rStr (l := [38]) rfl rfl) (rStr (l := [38, 97, 109, 112, 59]) rfl rfl) (kv (rStr (l := [60]) rfl rfl) (rStr (l := [38, 108, 116, 59]) rfl rfl) (kv (rStr (l := [62]) rfl rfl) (rStr (l := [38, 103, 116, 59]) rfl rfl) (kv (rStr (l := [34]) rfl rfl) (rStr (l := [38, 113, 117, 111, 116, 59]) rfl rfl) (kv (rStr (l := [9]) rfl rfl) (rItem rfl (rList rfl (rEs (rStr (l := [38, 35, 48, 57, 59]) rfl rfl) (rEs (rStr (l := [38, 35, 120, 57, 59]) rfl rfl) rEs0))) (rBin (rName rfl) rInt (bMod (by decide))) (eTabE h.q)) kv0))))) rfl rfl) (gName rfl)
theorem eSgn {q : Nat} (hq : q < 5) : itemD σ (.list [.str [38, 60, 62], .str [38, 60, 62], .str [38, 60, 62, 34, 9], .str [38, 60, 34, 9], .str [38, 62, 34]]) (.int (q : Int)) = some (.str (sgn q)) := by
  rcases five hq with rfl | rfl | rfl | rfl | rfl <;> rfl
theorem eNam {q c : Nat} (hc : c ∈ sgn q) (hq : q < 5) : itemD σ (namD q) (.str [c]) = some (.str (nmE q c)) := by
  rcases five hq with rfl | rfl | rfl | rfl | rfl <;> simp [sgn] at hc
  · rcases hc with rfl | rfl | rfl <;> rfl
  · rcases hc with rfl | rfl | rfl <;> rfl
  · rcases hc with rfl | rfl | rfl | rfl | rfl <;> rfl
  · rcases hc with rfl | rfl | rfl | rfl <;> rfl
  · rcases hc with rfl | rfl | rfl <;> rfl
theorem x8 (h : d.Ok) {st : Stmt} (hs : lawS 8 = st) : ExS lawC (n + 70) eiLaw st (rC d (e7 d)) σ .next (rC d (e8 d)) σ := by
  conv at hs => lhs; whnf
  subst hs
  have hq := h.q
  have hn : ((sgn d.q).map fun x => [x]).Nodup ∧ ((sgn d.q).map fun x => [x]).length ≤ 5 := by
    generalize d.q = q at hq
    rcases five hq with rfl | rfl | rfl | rfl | rfl <;> decide
  have hlen : (sgn d.q).length ≤ 5 := by have := hn.2; rwa [List.length_map] at this
  have hlim : lim = 16777216 := rfl
  refine' sAsgC rfl rfl (rDCc (σ₂ := σ) (rs := (sgn d.q).map fun c => D.tup [.str [c], .str (nmE d.q c)]) rfl (itE rfl (rItem rfl (rList rfl (rEs (rStr (l := [38, 60, 62]) rfl rfl) (rEs (rStr (l := [38, 60, 62]) rfl rfl) (rEs (rStr (l := [38, 60, 62, 34, 9]) rfl rfl) (rEs (rStr (l := [38, 60, 34, 9]) rfl rfl) (rEs (rStr (l := [38, 62, 34]) rfl rfl) rEs0)))))) (rName rfl) (eSgn hq)) rfl ?hl) ?hc (pairs_map _ _) ⟨hn.1, ?hl2⟩) (gName rfl)
  case hl => rw [List.length_map]; lia
  case hl2 => have := hn.2; lia
  case hc => exact cMap fun c hc => dB (gName rfl) (rName rfl) (rItem rfl (rName rfl) (rName rfl) (eNam hc hq))
end
end
section
theorem fill_blank (sz : List Int) : ∀ (r k : Nat), fillR sz k (List.replicate r 32) = List.replicate r 32 ∧ kEnd k (List.replicate r 32) = k + r
  | 0, k => ⟨rfl, rfl⟩
  | r + 1, k => by
    obtain ⟨a, b⟩ := fill_blank sz r (k + 1)
    rw [List.replicate_succ]
    refine ⟨?_, ?_⟩
    · show (if (32 : Nat) = 9 then _ else 32 :: fillR sz (k + 1) (List.replicate r 32)) = _
      rw [if_neg (by decide), a]
    · show (if (32 : Nat) = 9 then _ else kEnd (k + 1) (List.replicate r 32)) = _
      rw [if_neg (by decide), b]; lia
theorem rl_eq (sz : List Int) (r : Nat) : fillR sz 0 (plainR r) = List.replicate r 32 ++ List.replicate (tabC sz r) 9 := by
  unfold plainR
  rw [reps_one, fill_app, (fill_blank sz r 0).1, (fill_blank sz r 0).2, Nat.zero_add]
  show _ ++ (if (9 : Nat) = 9 then List.replicate (tabC sz r) 9 ++ fillR sz 0 [] else _) = _
  rw [if_pos rfl]
  show _ ++ (List.replicate (tabC sz r) 9 ++ []) = _
  rw [List.append_nil]
theorem flat_rep (f : Nat → List Nat) (c : Nat) : ∀ n, (List.replicate n c).flatMap f = reps (f c) n
  | 0 => rfl
  | n + 1 => by rw [List.replicate_succ, List.flatMap_cons, flat_rep f c n]; rfl
theorem q32 : qAt 32 = [95] := by decide +kernel
theorem q9 : qAt 9 = [61, 48, 57] := by decide +kernel
section
variable {n : Nat} {d : LD} {σ : Store}
noncomputable def tR (d : LD) (r : Nat) : Nat := tabC d.S r
noncomputable def wrR (d : LD) (r : Nat) : List Nat := (fillR d.S 0 (plainR r)).flatMap (chainE (chn d.q))
noncomputable def wdR (d : LD) (r : Nat) : List Nat := headW [120] (fillR d.S 0 (plainR r))
theorem wr_eq (h : d.Ok) (r : Nat) : wrR d r = reps [32] r ++ reps (tblE d.q 9) (tR d r) := by
  have h32 : chainE (chn d.q) 32 = [32] := by
    have hq := h.q
    generalize d.q = q at hq
    rcases five hq with rfl | rfl | rfl | rfl | rfl <;> decide
  unfold wrR tR
  rw [rl_eq, List.flatMap_append, flat_rep, flat_rep, h32, chain_tbl h.q (by decide) (by decide)]
theorem wd_eq (r : Nat) : wdR d r = [61, 63] ++ ([120] ++ ([63, 113, 63] ++ ((reps [95] r ++ reps [61, 48, 57] (tR d r)) ++ ([63, 61] ++ [])))) := by
  unfold wdR headW tR
  rw [rl_eq, List.flatMap_append, flat_rep, flat_rep, q32, q9]
theorem wd_len (r : Nat) : (wdR d r).length = r + 3 * tR d r + 8 := by
  rw [wd_eq]
  simp only [List.length_append, List.length_cons, List.length_nil, reps_len]
  lia
theorem tr64 (h : d.Ok) (r : Nat) : 1 ≤ tR d r ∧ tR d r ≤ 64 := ⟨(tabC_pos h.okS (Nat.le_refl 3) r).1, by have := tab64 (h.okF 3) (Nat.le_refl 3) r; exact this⟩
theorem wr_len (h : d.Ok) (r : Nat) : ∃ c, (c = 1 ∨ c = 5) ∧ (wrR d r).length = r + c * tR d r := by
  have hc : (tblE d.q 9).length = 1 ∨ (tblE d.q 9).length = 5 := by
    have hq := h.q
    generalize d.q = q at hq
    rcases five hq with rfl | rfl | rfl | rfl | rfl <;> decide
  refine ⟨_, hc, ?_⟩
  rw [wr_eq h, List.length_append, reps_len, reps_len, List.length_singleton, Nat.one_mul]
noncomputable abbrev wL (d : LD) : List (List Nat) := (List.range (d.p + 1)).map (wrR d)
noncomputable abbrev vL (d : LD) : List (List Nat) := (List.range (d.p + 1)).map (wdR d)
noncomputable abbrev fL (d : LD) : List Int := (List.range (d.p + 1)).map fun r => (tR d r : Int)
noncomputable def lkR (d : LD) (r : Nat) : Int := (d.a0 : Int) * (d.a1 : Int) * (d.a2 : Int) - (tR d r : Int)
noncomputable abbrev kL (d : LD) : List Int := (List.range (d.p + 1)).map (lkR d)
noncomputable abbrev e9 (d : LD) : VarsN := e8 d ++ [(k_written, .list ((wL d).map .str))]
noncomputable abbrev e10 (d : LD) : VarsN := e8 d ++ [(k_written, .list ((wL d).map .str)), (k_words, .list ((vL d).map .str))]
noncomputable abbrev e11 (d : LD) : VarsN := e8 d ++ [(k_written, .list ((wL d).map .str)), (k_words, .list ((vL d).map .str)), (k_fills, .list ((fL d).map .int))]
noncomputable abbrev e12 (d : LD) : VarsN := e8 d ++ [(k_written, .list ((wL d).map .str)), (k_words, .list ((vL d).map .str)), (k_fills, .list ((fL d).map .int)), (k_lacks, .list ((kL d).map .int))]
theorem rul_str (d : LD) : (rulerN d.S d.p).map D.str = (List.range (d.p + 1)).map fun r => D.str (fillR d.S 0 (plainR r)) := by
  unfold rulerN; rw [List.map_map]; rfl
theorem rl_len (h : d.Ok) {r : Nat} (hr : r ∈ List.range (d.p + 1)) : (fillR d.S 0 (plainR r)).length ≤ 1000 := by
  have hp := h.p
  have := List.mem_range.mp hr
  have ht := (tr64 h r).2
  unfold tR at ht
  rw [rl_eq, List.length_append, List.length_replicate, List.length_replicate]
  lia
theorem x9 (h : d.Ok) {st : Stmt} (hs : lawS 9 = st) : ExS lawC (n + 70) eiLaw st (rC d (e8 d)) σ .next (rC d (e9 d)) σ := by
  conv at hs => lhs; whnf
  subst hs
  have hp := h.p
  have hlim : lim = 16777216 := rfl
  refine' sAsgC rfl rfl (rLCc (σ₂ := σ) (es := (wL d).map .str) rfl (itE rfl (rName rfl) rfl ?hl) ?hc ?hl2) (gName rfl)
  case hl => rw [List.length_map, ruler_len]; lia
  case hl2 => simp only [List.length_map, List.length_range]; lia
  case hc =>
    rw [rul_str, List.map_map]
    exact cMap fun r hr => cB (gName rfl) (rCall rfl rfl (rEs (rName rfl) rEs0) (hand_ok h.q (by have := rl_len h hr; lia)))
/- the octets of a line -/
noncomputable def bytesL (l : List Nat) : List UInt8 := l.map fun (c : Nat) => ((c : Int).toNat).toUInt8
theorem bytes_back : ∀ {l : List Nat}, (∀ c ∈ l, c < 256) → (bytesL l).map (·.toNat) = l
  | [], _ => rfl
  | c :: l, h => by
    show (((c : Int).toNat).toUInt8).toNat :: (bytesL l).map (·.toNat) = _
    rw [bytes_back fun x hx => h x (List.mem_cons_of_mem _ hx), Int.toNat_natCast]
    have := h c (List.mem_cons_self ..)
    congr 1
    show c % 256 = c
    exact Nat.mod_eq_of_lt this
theorem eBytes {l : List Nat} (h : ∀ c ∈ l, c < 256) (hl : l.length ≤ 16384) : BuiltD .bytes σ [.list ((l.map fun (c : Nat) => (c : Int)).map .int)] (.bytes (bytesL l)) := by
  have := eBytesI (σ := σ) (l := l.map fun (c : Nat) => (c : Int)) (fun i hi => by
    obtain ⟨c, hc, rfl⟩ := List.mem_map.mp hi
    have := h c hc
    lia) (by rw [List.length_map]; exact hl)
  rw [show bytesL l = (l.map fun (c : Nat) => (c : Int)).map fun i => i.toNat.toUInt8 by unfold bytesL; rw [List.map_map]; rfl]
  exact this
/- «[ord(sign) for sign in line]» -/
theorem ord_ok {m : Nat} {ei : EI} {ρ : VarsN} {l : List Nat} (hl : l.length ≤ 16384) {p1 p2 p3 p4 p5 p6 : Pos} {sc : Scope} (h0 : scOk sc ei = true) (hline : getV ei lawC.glob (nm (Str.ofString "line")) ρ = some (.str l))
    (hc : ∀ c, compB lawC (m + 5) (cEI sc ei) (.Name (Str.ofString "sign") p1) [] (.Call (.Name (Str.ofString "ord") p2) [.Name (Str.ofString "sign") p3] [] p4) (freeOf (kdOf sc.names) ρ) (.str [c]) σ [.int (c : Int)] σ) :
    EvE lawC (m + 6) ei (.ListComp (.Call (.Name (Str.ofString "ord") p2) [.Name (Str.ofString "sign") p3] [] p4) [⟨.Name (Str.ofString "sign") p1, .Name (Str.ofString "line") p5, [], 0⟩] sc p6) ρ σ (.list ((l.map fun (c : Nat) => (c : Int)).map .int)) σ := by
  have hlim : lim = 16777216 := rfl
  refine rLC (σ₂ := σ) h0 (itE rfl (rName hline) rfl (by rw [List.length_map]; lia)) ?_ (by rw [List.length_map, List.length_map]; lia)
  rw [List.map_map]
  exact cMap fun c _ => hc c
theorem low_rl (sz : List Int) (r : Nat) : ∀ c ∈ fillR sz 0 (plainR r), c < 256 := by
  intro c hc
  rw [rl_eq] at hc
  rcases List.mem_append.mp hc with hc | hc <;> rw [(List.mem_replicate.mp hc).2] <;> decide
theorem x10 (h : d.Ok) {st : Stmt} (hs : lawS 10 = st) : ExS lawC (n + 70) eiLaw st (rC d (e9 d)) σ .next (rC d (e10 d)) σ := by
  conv at hs => lhs; whnf
  subst hs
  have hp := h.p
  have hlim : lim = 16777216 := rfl
  refine' sAsgC rfl rfl (rLCc (σ₂ := σ) (es := (vL d).map .str) rfl (itE rfl (rName rfl) rfl ?hl) ?hc ?hl2) (gName rfl)
  case hl => rw [List.length_map, ruler_len]; lia
  case hl2 => simp only [List.length_map, List.length_range]; lia
  case hc =>
    rw [rul_str, List.map_map]
    refine cMap fun r hr => ?_
    have hlen := rl_len h hr
    have hne : bytesL (fillR d.S 0 (plainR r)) ≠ [] := by
      rw [rl_eq]
      have := (tr64 h r).1
      unfold tR at this
      intro e
      have := congrArg List.length e
      unfold bytesL at this
      rw [List.length_map, List.length_append, List.length_replicate, List.length_replicate, List.length_nil] at this
      lia
    have hh : ∀ m, CallD lawC (m + 30) (.old (.ref 139)) [.bytes (bytesL (fillR d.S 0 (plainR r))), .str [120]] σ (.str (wdR d r)) σ := fun m => by
      have := header_ok (n := m) (σ := σ) (cs := [120]) hne (by unfold bytesL; rw [List.length_map]; lia) (by decide)
      rw [bytes_back (low_rl _ _)] at this
      exact this
    exact cB (gName rfl) (rCall rfl rfl (rEs (rCall rfl rfl (rEs (ord_ok (by lia) rfl rfl fun c => cB (gName rfl) (rCall rfl rfl (rEs (rName rfl) rEs0) (rBi eOrd))) rEs0) (rBi (eBytes (low_rl _ _) (by lia)))) (rEs (rStr (l := [120]) rfl rfl) rEs0)) (hh _))
end
end
section
theorem zip2 (f g : Nat → D) : ∀ l : List Nat, zipD (l.map f) (l.map g) = l.map fun r => .tup [f r, g r]
  | [] => rfl
  | x :: l => by
    show D.tup [f x, g x] :: zipD (l.map f) (l.map g) = _
    rw [zip2 f g l]; rfl
theorem tab_form (x y z a0 a1 a2 : Int) (r : Int) : filledT [a0, a1, a2] r = a0 * a1 * a2 - (r.fmod a0 * a1 * a2 + r.fmod a1 * a2 + r.fmod a2) := by
  show ((1 * a0 - r.fmod a0) * a1 - r.fmod a1) * a2 - r.fmod a2 = _
  rw [Int.one_mul, Int.sub_mul, Int.sub_mul, Int.sub_mul]
  lia
theorem half (c t : Nat) (h : c = 1 ∨ c = 5) (r : Nat) : (((((((r + c * t : Nat) : Int) - ((r + 3 * t + 8 : Nat) : Int)) + 8).natAbs : Nat) : Int)).fdiv 2 = (t : Int) := by
  rw [Int.fdiv_eq_ediv_of_nonneg _ (by decide)]
  rcases h with rfl | rfl <;> lia
section
variable {n : Nat} {d : LD} {σ : Store}
theorem wr_le (h : d.Ok) {r : Nat} (hr : r ∈ List.range (d.p + 1)) : (wrR d r).length ≤ 1000 ∧ (wdR d r).length ≤ 1000 := by
  have hp := h.p
  have := List.mem_range.mp hr
  have ht := (tr64 h r).2
  obtain ⟨c, hc, e⟩ := wr_len h r
  rw [e, wd_len]
  rcases hc with rfl | rfl <;> lia
theorem x11 (h : d.Ok) {st : Stmt} (hs : lawS 11 = st) : ExS lawC (n + 70) eiLaw st (rC d (e10 d)) σ .next (rC d (e11 d)) σ := by
  conv at hs => lhs; whnf
  subst hs
  have hp := h.p
  have hlim : lim = 16777216 := rfl
  refine' sAsgC rfl rfl (rLCc (σ₂ := σ) (es := (fL d).map .int) rfl (itZip rfl rfl (rEs (rName rfl) (rEs (rName rfl) rEs0)) ?hl) ?hc ?hl2) (gName rfl)
  case hl =>
    have e1 : ((wL d).map D.str).length = d.p + 1 := by rw [List.length_map, List.length_map, List.length_range]
    have e2 : ((vL d).map D.str).length = d.p + 1 := by rw [List.length_map, List.length_map, List.length_range]
    exact ⟨e1.trans e2.symm, by lia⟩
  case hl2 => simp only [List.length_map, List.length_range]; lia
  case hc =>
    rw [List.map_map, List.map_map, zip2, List.map_map]
    refine cMap fun r hr => ?_
    obtain ⟨c, hc, e⟩ := wr_len h r
    have hle := wr_le h hr
    refine cB (gTup (gs (gName rfl) (gs (gName rfl) gs0))) ?_
    show EvE _ _ _ _ _ _ (D.int (tR d r : Int)) σ
    rw [← half c (tR d r) hc r, ← e, ← wd_len]
    exact rBin (rCall rfl rfl (rEs (rBin (rBin (rCall rfl rfl (rEs (rName rfl) rEs0) (rBi (eLenS (by lia)))) (rCall rfl rfl (rEs (rName rfl) rEs0) (rBi (eLenS (by lia)))) bSub) rInt bAdd) rEs0) (rBi eAbs)) rInt (bDiv (by decide))
theorem x12 (h : d.Ok) {st : Stmt} (hs : lawS 12 = st) : ExS lawC (n + 70) eiLaw st (rC d (e11 d)) σ .next (rC d (e12 d)) σ := by
  conv at hs => lhs; whnf
  subst hs
  have hp := h.p
  have hlim : lim = 16777216 := rfl
  have h0 := h.a0
  have h1 := h.a1
  have h2 := h.a2
  refine' sAsgC rfl rfl (rLCc (σ₂ := σ) (es := (kL d).map .int) rfl (itE rfl (rName rfl) rfl ?hl) ?hc ?hl2) (gName rfl)
  case hl => simp only [List.length_map, List.length_range]; lia
  case hl2 => simp only [List.length_map, List.length_range]; lia
  case hc =>
    rw [List.map_map, List.map_map]
    exact cMap fun r hr => cB (gName rfl) (rBin (rBin (rBin (rItem rfl (rName rfl) rInt rfl) (rItem rfl (rName rfl) rInt rfl) (bMul (by lia))) (rItem rfl (rName rfl) rInt rfl) (bMul (by lia))) (rName rfl) bSub)
noncomputable def rowR (d : LD) (r : Nat) : List Int := [(r : Int).fmod d.a0, (r : Int).fmod d.a1, (r : Int).fmod d.a2]
theorem lk_eq (h : d.Ok) (r : Nat) : lkR d r = (r : Int).fmod d.a0 * d.a1 * d.a2 + (r : Int).fmod d.a1 * d.a2 + (r : Int).fmod d.a2 := by
  have h1 := tab_form 0 0 0 (d.a0 : Int) (d.a1 : Int) (d.a2 : Int) (r : Int)
  have h2 : ((tR d r : Nat) : Int) = filledT d.S (r : Int) := by
    unfold tR tabC
    refine Int.toNat_of_nonneg ?_
    have := (tab64' (r : Int) d.S (h.okF 3) 1 (by decide)).1
    have e : filledT d.S (r : Int) = List.foldl (fun t s => t * s - (r : Int).fmod s) 1 d.S := rfl
    rw [e]; lia
  unfold lkR
  rw [h2, h1]; lia
theorem row_eq (h : d.Ok) (r : Nat) : [((lkR d r).fdiv d.a2).fdiv d.a1, ((lkR d r).fdiv d.a2).fmod d.a1, (lkR d r).fmod d.a2] = rowR d r := by
  have h0 := h.a0
  have h1 := h.a1
  have h2 := h.a2
  have y1 := Int.fmod_nonneg_of_pos (r : Int) (show (0 : Int) < d.a1 by lia)
  have y2 := Int.fmod_lt_of_pos (r : Int) (show (0 : Int) < d.a1 by lia)
  have z1 := Int.fmod_nonneg_of_pos (r : Int) (show (0 : Int) < d.a2 by lia)
  have z2 := Int.fmod_lt_of_pos (r : Int) (show (0 : Int) < d.a2 by lia)
  rw [lk_eq h]
  unfold rowR
  generalize (r : Int).fmod d.a0 = x at *
  generalize (r : Int).fmod d.a1 = y at *
  generalize (r : Int).fmod d.a2 = z at *
  have e : x * d.a1 * d.a2 + y * d.a2 + z = z + (x * d.a1 + y) * d.a2 := by rw [Int.add_mul]; lia
  have q1 : (x * d.a1 * d.a2 + y * d.a2 + z).fdiv d.a2 = x * d.a1 + y := by
    rw [e, Int.fdiv_eq_ediv_of_nonneg _ (by lia), Int.add_mul_ediv_right _ _ (by lia), Int.ediv_eq_zero_of_lt z1 z2, Int.zero_add]
  have q2 : (x * d.a1 * d.a2 + y * d.a2 + z).fmod d.a2 = z := by
    rw [e, Int.fmod_eq_emod_of_nonneg _ (by lia), Int.add_mul_emod_self_right, Int.emod_eq_of_lt z1 z2]
  have e2 : x * d.a1 + y = y + x * d.a1 := Int.add_comm _ _
  have q3 : (x * d.a1 + y).fdiv d.a1 = x := by
    rw [e2, Int.fdiv_eq_ediv_of_nonneg _ (by lia), Int.add_mul_ediv_right _ _ (by lia), Int.ediv_eq_zero_of_lt y1 y2, Int.zero_add]
  have q4 : (x * d.a1 + y).fmod d.a1 = y := by
    rw [e2, Int.fmod_eq_emod_of_nonneg _ (by lia), Int.add_mul_emod_self_right, Int.emod_eq_of_lt y1 y2]
  rw [q1, q2, q3, q4]
noncomputable abbrev rowD (d : LD) (r : Nat) : D := .list ((rowR d r).map .int)
theorem x13 (h : d.Ok) {st : Stmt} (hs : lawS 13 = st) : ExS lawC (n + 70) eiLaw st (rC d (e12 d)) σ .next (rC d (e12 d)) σ := by
  conv at hs => lhs; whnf
  subst hs
  have hp := h.p
  have hlim : lim = 16777216 := rfl
  have h0 := h.a0
  have h1 := h.a1
  have h2 := h.a2
  refine' sIfF (tCmp (rLC (σ₂ := σ) (es := (List.range (d.p + 1)).map (rowD d)) rfl (itE rfl (rName rfl) rfl ?hl) ?hc ?hl2) (rLC (σ₂ := σ) (es := (List.range (d.p + 1)).map (rowD d)) rfl (itRange1 (i := ((d.p + 1 : Nat) : Int)) rfl rfl (rEs (rBin (rName rfl) rInt bAdd) rEs0) ?h0) ?hd ?hl3) ?hn) L0
  case h0 => lia
  case hl => simp only [List.length_map, List.length_range]; lia
  case hl2 => simp only [List.length_map, List.length_range]; lia
  case hl3 => simp only [List.length_map, List.length_range]; lia
  case hn =>
    exact cNe (EqS.self (psList (plMap (fun r => psList (plMap (fun _ => psInt) (rowR d r))) (List.range (d.p + 1)))))
  case hc =>
    rw [List.map_map]
    refine cMap fun r hr => cB (gName rfl) ?_
    show EvE _ _ _ _ _ _ (D.list ((rowR d r).map .int)) σ
    rw [← row_eq h r]
    exact rList rfl (rEs (rBin (rBin (rName rfl) (rItem rfl (rName rfl) rInt rfl) (bDiv (by lia))) (rItem rfl (rName rfl) rInt rfl) (bDiv (by lia))) (rEs (rBin (rBin (rName rfl) (rItem rfl (rName rfl) rInt rfl) (bDiv (by lia))) (rItem rfl (rName rfl) rInt rfl) (bMod (by lia))) (rEs (rBin (rName rfl) (rItem rfl (rName rfl) rInt rfl) (bMod (by lia))) rEs0)))
  case hd =>
    rw [rangeD_nat]
    refine cMap fun r hr => cB (gName rfl) (rLC (σ₂ := σ) (es := (d.S.map fun s => (r : Int).fmod s).map .int) rfl (itE rfl (rName rfl) rfl (show 3 ≤ lim by lia)) ?_ (show 3 ≤ lim by lia))
    rw [List.map_map]
    show CompM _ (d.S.map .int) _ _ _
    exact cMap fun s hs => cB (gName rfl) (rBin (rName rfl) (rName rfl) (bMod (by have := h.okS s hs; lia)))
end
end
section
theorem enum_from (f : Nat → D) : ∀ (l : List Nat) (k : Nat), (∀ i (h : i < l.length), l[i] = k + i) → ((l.map f).zipIdx k).map (fun p => D.tup [.int (p.2 : Int), p.1]) = l.map fun (r : Nat) => D.tup [.int (r : Int), f r]
  | [], _, _ => rfl
  | x :: l, k, h => by
    have hx : x = k := h 0 (by simp)
    subst hx
    show D.tup [.int (x : Int), f x] :: ((l.map f).zipIdx (x + 1)).map _ = _
    rw [enum_from f l (x + 1) fun i hi => by
      have := h (i + 1) (by simpa using hi)
      rw [List.getElem_cons_succ] at this
      lia]
    rfl
theorem enum_range (f : Nat → D) (m : Nat) : enumD ((List.range m).map f) = (List.range m).map fun (r : Nat) => D.tup [.int (r : Int), f r] :=
  enum_from f _ 0 fun i hi => by rw [List.getElem_range]; lia
section
variable {n : Nat} {d : LD} {σ : Store}
theorem tbl_len (h : d.Ok) (c : Nat) : (tblE d.q c).length ≤ 6 := by
  have hq := h.q
  have hn : ∀ q, (nmE q c).length ≤ 6 := by
    intro q
    unfold nmE tabE
    repeat (first | (split; decide) | split)
    all_goals decide
  unfold tblE
  split
  · exact hn _
  · show 1 ≤ 6; decide
theorem x14 (h : d.Ok) {st : Stmt} (hs : lawS 14 = st) : ExS lawC (n + 70) eiLaw st (rC d (e12 d)) σ .next (rC d (e12 d)) σ := by
  conv at hs => lhs; whnf
  subst hs
  have hp := h.p
  have hlim : lim = 16777216 := rfl
  have hT := tbl_len h 9
  have hen : (fL d).map D.int = (List.range (d.p + 1)).map fun r => D.int (tR d r : Int) := by rw [List.map_map]; rfl
  have hfl : ((fL d).map D.int).length ≤ lim := by rw [List.length_map, List.length_map, List.length_range]; lia
  refine' sIfF (tOp (aOrF (tCmp (rName rfl) (rLC (σ₂ := σ) (es := (wL d).map .str) rfl (itEnum rfl rfl (rEs (rName rfl) rEs0) hfl) ?hc ?hl) (ne_strs (wL d))) (aOrF (tCmp (rName rfl) (rLC (σ₂ := σ) (es := (vL d).map .str) rfl (itEnum rfl rfl (rEs (rName rfl) rEs0) hfl) ?hd ?hl2) (ne_strs (vL d))) aNil))) L0
  case hl => rw [List.length_map, List.length_map, List.length_range]; lia
  case hl2 => rw [List.length_map, List.length_map, List.length_range]; lia
  case hc =>
    rw [hen, enum_range, List.map_map]
    refine cMap fun r hr => cB (gTup (gs (gName rfl) (gs (gName rfl) gs0))) ?_
    have hr' := List.mem_range.mp hr
    have ht := (tr64 h r).2
    show EvE _ _ _ _ _ _ (D.str (wrR d r)) σ
    rw [wr_eq h]
    have hm : tR d r * (tblE d.q 9).length ≤ 64 * 6 := Nat.mul_le_mul ht hT
    exact rBin (rBin (rStr (l := [32]) rfl rfl) (rName rfl) (bMulS ⟨by lia, by lia, by show 1 * r ≤ lim; lia⟩)) (rBin (rMeth rfl (rName rfl) rfl (rEs (rStr (l := [9]) rfl rfl) (rEs (rStr (l := [9]) rfl rfl) rEs0)) rfl (get_tbl _ _)) (rName rfl) (bMulS ⟨by lia, by lia, by show (tblE d.q 9).length * tR d r ≤ lim; rw [Nat.mul_comm]; lia⟩)) (bAddS (by rw [reps_len, reps_len]; show 1 * r + (tblE d.q 9).length * tR d r ≤ lim; rw [Nat.mul_comm (tblE d.q 9).length]; lia))
  case hd =>
    rw [hen, enum_range, List.map_map]
    refine cMap fun r hr => cB (gTup (gs (gName rfl) (gs (gName rfl) gs0))) ?_
    have hr' := List.mem_range.mp hr
    have ht := (tr64 h r).2
    show EvE _ _ _ _ _ _ (D.str (wdR d r)) σ
    have e : wdR d r = (([61, 63, 120, 63, 113, 63] ++ reps [95] r) ++ reps [61, 48, 57] (tR d r)) ++ [63, 61] := by
      rw [wd_eq]; simp only [List.append_assoc, List.cons_append, List.nil_append, List.append_nil]
    rw [e]
    refine rBin (rBin (rBin (rStr (l := [61, 63, 120, 63, 113, 63]) rfl rfl) (rBin (rStr (l := [95]) rfl rfl) (rName rfl) (bMulS ⟨by lia, by lia, by show 1 * r ≤ lim; lia⟩)) (bAddS ?a)) (rBin (rStr (l := [61, 48, 57]) rfl rfl) (rName rfl) (bMulS ⟨by lia, by lia, by show 3 * tR d r ≤ lim; lia⟩)) (bAddS ?b)) (rStr (l := [63, 61]) rfl rfl) (bAddS ?c)
    all_goals simp only [List.length_append, List.length_cons, List.length_nil, reps_len, Int.toNat_natCast]; lia
end
end
section
theorem ne_str (a : List Nat) : CmpD .NotEq (.str a) (.str a) false := cNe (EqS.self psStr)
noncomputable def letters : List Nat := [32, 9, 120, 97, 38, 60, 98, 62, 61, 34, 233, 95]
theorem letter_q : ∀ c ∈ letters, (c = 32 ∧ qAt c = [95]) ∨ (c ≠ 32 ∧ c ∈ [97, 98, 120] ∧ qAt c = [c]) ∨ (c ≠ 32 ∧ c ∉ [97, 98, 120] ∧ c < 256 ∧ qAt c = [61, hexd (c / 16), hexd (c % 16)]) := by decide +kernel
theorem letter_low : ∀ c ∈ letters, c ≠ 10 ∧ c ≠ 13 ∧ c < 256 := by decide
theorem text_letters : ∀ i, i < 6 → ∀ c ∈ texts.getD i [], c ∈ letters := by decide
section
variable {n : Nat} {d : LD} {σ : Store}
theorem line_chars (h : d.Ok) {F : List Nat} (hF : blanks F) : ∀ c ∈ F ++ d.T, c ∈ letters := by
  intro c hc
  rcases List.mem_append.mp hc with hc | hc
  · rcases hF c hc with rfl | rfl <;> decide
  · obtain ⟨i, hi, e⟩ := h.t
    rw [e] at hc
    exact text_letters i hi c hc
noncomputable abbrev eT : Option (List Nat × List Nat) → VarsN
  | none => []
  | some (l, w) => [(k_line, .str l), (k_word, .str w)]
noncomputable abbrev e13 (d : LD) (o : Option (List Nat × List Nat)) : VarsN := e8 d ++ ([(k_written, .list ((wL d).map .str)), (k_words, .list ((vL d).map .str)), (k_fills, .list ((fL d).map .int)), (k_lacks, .list ((kL d).map .int))] ++ eT o)
noncomputable abbrev lnB (i : Nat) : Stmt := nth (bodyOf (lawS 15)) i
theorem y0 (h : d.Ok) {l : List Nat} (hl : ∀ c ∈ l, c ∈ letters) (hn : l.length ≤ 44) {st : Stmt} (hs : lnB 0 = st) {ext ext' : VarsN} (he : (ext = [(k_line, .str l)] ∨ ∃ w, ext = [(k_line, .str l), (k_word, .str w)]) ∧ ext' = [(k_line, .str l), (k_word, .str (l.flatMap qAt))]) :
    ExS lawC (n + 50) eiLaw st (rC d (e8 d ++ ([(k_written, .list ((wL d).map .str)), (k_words, .list ((vL d).map .str)), (k_fills, .list ((fL d).map .int)), (k_lacks, .list ((kL d).map .int))] ++ ext))) σ .next (rC d (e8 d ++ ([(k_written, .list ((wL d).map .str)), (k_words, .list ((vL d).map .str)), (k_fills, .list ((fL d).map .int)), (k_lacks, .list ((kL d).map .int))] ++ ext'))) σ := by
  conv at hs => lhs; whnf
  subst hs
  have hlim : lim = 16777216 := rfl
  have hq := q_len l
  obtain ⟨he, rfl⟩ := he
  have hj : MethD (Str.ofString "join") (.str []) [.list ((l.map qAt).map .str)] (.str (l.flatMap qAt)) := eJoin (ls := l.map qAt) (show (l.flatMap qAt).length ≤ lim by lia)
  have em : (l.map qAt).map D.str = l.map fun c => D.str (qAt c) := by rw [List.map_map]; rfl
  rcases he with rfl | ⟨w, rfl⟩
  all_goals
    refine sAsg rfl rfl (rMeth rfl (rStr (l := []) rfl rfl) rfl (rEs (rLC (σ₂ := σ) (es := (l.map qAt).map .str) rfl (itE rfl (rName rfl) rfl (by rw [List.length_map]; lia)) ?_ (by rw [List.length_map, List.length_map]; lia)) rEs0) rfl hj) (gName rfl)
    rw [em]
    refine cMap fun c hc => ?_
    rcases letter_q c (hl c hc) with ⟨rfl, e⟩ | ⟨h1, h2, e⟩ | ⟨h1, h2, h3, e⟩
    · show compB _ _ _ _ _ _ _ _ _ [D.str (qAt 32)] σ
      rw [e]
      exact cB (gName rfl) (rIfT (tCmp (rName rfl) (rStr (l := [32]) rfl rfl) (eq_str _ _)) (rStr (l := [95]) rfl rfl))
    · show compB _ _ _ _ _ _ _ _ _ [D.str (qAt c)] σ
      rw [e]
      exact cB (gName rfl) (rIfF (tCmp (rName rfl) (rStr (l := [32]) rfl rfl) (by rw [← beq_eq_false_iff_ne.mpr (show ¬ [c] = [32] by simpa using h1)]; exact eq_str _ _)) (rIfT (tCmp (rName rfl) (rStr (l := [97, 98, 120]) rfl rfl) (by rw [← decide_eq_true h2]; exact cIn)) (rName rfl)))
    · show compB _ _ _ _ _ _ _ _ _ [D.str (qAt c)] σ
      rw [e]
      exact cB (gName rfl) (rIfF (tCmp (rName rfl) (rStr (l := [32]) rfl rfl) (by rw [← beq_eq_false_iff_ne.mpr (show ¬ [c] = [32] by simpa using h1)]; exact eq_str _ _)) (rIfF (tCmp (rName rfl) (rStr (l := [97, 98, 120]) rfl rfl) (by rw [← decide_eq_false h2]; exact cIn)) (rBin (rStr (l := [61, 37, 48, 50, 88]) rfl rfl) (rCall rfl rfl (rEs (rName rfl) rEs0) (rBi eOrd)) (bHex ⟨by lia, by lia⟩))))
noncomputable def isoW (l : List Nat) : List Nat := if l = [] then [] else headW (Str.ofString "iso-8859-1").cps.toList l
theorem y1 (h : d.Ok) {l : List Nat} (hl : ∀ c ∈ l, c ∈ letters) (hn : l.length ≤ 44) {st : Stmt} (hs : lnB 1 = st) :
    ExS lawC (n + 50) eiLaw st (rC d (e13 d (some (l, l.flatMap qAt)))) σ .next (rC d (e13 d (some (l, l.flatMap qAt)))) σ := by
  conv at hs => lhs; whnf
  subst hs
  have hlim : lim = 16777216 := rfl
  have hq := q_len l
  have hlow : ∀ c ∈ l, c < 256 := fun c hc => (letter_low c (hl c hc)).2.2
  have ht : l.flatMap (chainE (chn d.q)) = (l.map (tblE d.q)).flatten := congrArg List.flatten (List.map_congr_left fun c hc => chain_tbl h.q (letter_low c (hl c hc)).1 (letter_low c (hl c hc)).2.1)
  have hlen : ∀ l : List Nat, (l.map (tblE d.q)).flatten.length ≤ l.length * 6 := by
    intro l
    induction l with
    | nil => exact Nat.le_refl _
    | cons c l ih =>
      have := tbl_len h c
      rw [List.map_cons, List.flatten_cons, List.length_append, List.length_cons]; lia
  have hlen := hlen l
  have hj : MethD (Str.ofString "join") (.str []) [.list ((l.map (tblE d.q)).map .str)] (.str (l.map (tblE d.q)).flatten) := eJoin (by lia)
  have hb : bytesL l = [] ↔ l = [] := by unfold bytesL; exact List.map_eq_nil_iff
  have hh : ∀ m, CallD lawC (m + 30) (.old (.ref 139)) [.bytes (bytesL l)] σ (.str (isoW l)) σ := fun m => by
    unfold isoW
    by_cases e : l = []
    · subst e; rw [if_pos rfl]; exact header_nil1
    · have := header_ok1 (n := m) (σ := σ) (b := bytesL l) (fun x => e (hb.mp x)) (by unfold bytesL; rw [List.length_map]; lia)
      rw [bytes_back hlow] at this
      rw [if_neg e]; exact this
  refine' sIfF (tOp (aOrF (tCmp (rCall rfl rfl (rEs (rName rfl) rEs0) (hand_ok h.q (by lia))) (rMeth rfl (rStr (l := []) rfl rfl) rfl (rEs (rLC (σ₂ := σ) (es := (l.map (tblE d.q)).map .str) rfl (itE rfl (rName rfl) rfl ?hl1) ?hc ?hl2) rEs0) rfl hj) ?hne) (aOrF (tCmp (rCall rfl rfl (rEs (rCall rfl rfl (rEs (ord_ok (by lia) rfl rfl fun c => cB (gName rfl) (rCall rfl rfl (rEs (rName rfl) rEs0) (rBi eOrd))) rEs0) (rBi (eBytes hlow (by lia)))) rEs0) (hh _)) ?hif (ne_str (isoW l))) aNil))) L0
  case hl1 => rw [List.length_map]; lia
  case hl2 => rw [List.length_map, List.length_map]; lia
  case hne => rw [ht]; exact ne_str _
  case hc =>
    have em : (l.map (tblE d.q)).map D.str = l.map fun c => D.str (tblE d.q c) := by rw [List.map_map]; rfl
    rw [em]
    exact cMap fun c hc => cB (gName rfl) (rMeth rfl (rName rfl) rfl (rEs (rName rfl) (rEs (rName rfl) rEs0)) rfl (get_tbl _ _))
  case hif =>
    unfold isoW
    by_cases e : l = []
    · subst e
      rw [if_pos rfl]
      exact rIfF (tE rfl (rName rfl) (uStr (Nat.zero_le _))) (rStr (l := []) rfl rfl)
    · rw [if_neg e]
      have ei : headW (Str.ofString "iso-8859-1").cps.toList l = ([61, 63, 105, 115, 111, 45, 56, 56, 53, 57, 45, 49, 63, 113, 63] ++ l.flatMap qAt) ++ [63, 61] := by
        unfold headW
        rw [show (Str.ofString "iso-8859-1").cps.toList = [105, 115, 111, 45, 56, 56, 53, 57, 45, 49] by decide +kernel]
        simp only [List.append_assoc, List.cons_append, List.nil_append, List.append_nil]
      rw [ei]
      exact rIfT (tE rfl (rName rfl) (by rw [← bne_iff_ne.mpr e]; exact uStr (by lia))) (rBin (rBin (rStr (l := [61, 63, 105, 115, 111, 45, 56, 56, 53, 57, 45, 49, 63, 113, 63]) rfl rfl) (rName rfl) (bAddS (by show 15 + _ ≤ _; lia))) (rStr (l := [63, 61]) rfl rfl) (bAddS (by rw [List.length_append]; show 15 + _ + 2 ≤ _; lia)))
theorem line_len (h : d.Ok) {F : List Nat} (hF : F.length ≤ 40) : (F ++ d.T).length ≤ 44 := by
  have := h.tlen
  rw [List.length_append]; lia
noncomputable abbrev oLast (d : LD) : Option (List Nat × List Nat) := some (d.F1 ++ d.T, (d.F1 ++ d.T).flatMap qAt)
theorem x15 (h : d.Ok) {st : Stmt} (hs : lawS 15 = st) : ExS lawC (n + 70) eiLaw st (rC d (e12 d)) σ .next (rC d (e13 d (oLast d))) σ := by
  have A0 := y0 (n := n + 18) (σ := σ) h (line_chars h h.f0.1) (line_len h h.f0.2) (st := _) rfl (ext := _) ⟨.inl rfl, rfl⟩
  have A1 := y1 (n := n + 17) (σ := σ) h (line_chars h h.f0.1) (line_len h h.f0.2) (st := _) rfl
  have B0 := y0 (n := n + 18) (σ := σ) h (line_chars h h.f1.1) (line_len h h.f1.2) (st := _) rfl (ext := _) ⟨.inr ⟨(d.F0 ++ d.T).flatMap qAt, rfl⟩, rfl⟩
  have B1 := y1 (n := n + 17) (σ := σ) h (line_chars h h.f1.1) (line_len h h.f1.2) (st := _) rfl
  conv at hs => lhs; whnf
  subst hs
  exact sFor (itE rfl (rName rfl) rfl (show 2 ≤ lim by decide)) (fN (lB (gName rfl) (L1 A0 (L1 A1 L0))) (fN (lB (gName rfl) (L1 B0 (L1 B1 L0))) f0))
end
end
section
theorem ne_two (a b : List (List Nat)) : CmpD .NotEq (.tup [.list (a.map .str), .list (b.map .str)]) (.tup [.list (a.map .str), .list (b.map .str)]) false :=
  cNe (EqS.self (psTup (pl1 (psList (plMap (fun _ => psStr) a)) (pl1 (psList (plMap (fun _ => psStr) b)) pl0))))
section
variable {n : Nat} {d : LD} {σ : Store}
noncomputable abbrev eP : Option Nat → VarsN
  | none => []
  | some s => [(k_size, .int (s : Int)), (k_page, hdInst (s : Int))]
noncomputable abbrev e14 (d : LD) (o : Option Nat) : VarsN := e8 d ++ ([(k_written, .list ((wL d).map .str)), (k_words, .list ((vL d).map .str)), (k_fills, .list ((fL d).map .int)), (k_lacks, .list ((kL d).map .int)), (k_line, .str (d.F1 ++ d.T)), (k_word, .str ((d.F1 ++ d.T).flatMap qAt))] ++ eP o)
noncomputable abbrev pgB (i : Nat) : Stmt := nth (bodyOf (lawS 16)) i
theorem okZ1 {s : Nat} (hs : 1 ≤ s ∧ s ≤ 16) : okZ [(s : Int)] := fun x hx => by rw [List.mem_singleton.mp hx]; lia
theorem z0 (h : d.Ok) {s : Nat} (hz : 1 ≤ s ∧ s ≤ 16) {st : Stmt} (hs : pgB 0 = st) :
    ExS lawC (n + 60) eiLaw st (rC d (e14 d (some s))) σ .next (rC d (e14 d (some s))) σ := by
  conv at hs => lhs; whnf
  subst hs
  have hlim : lim = 16777216 := rfl
  have l0 := line_len h h.f0.2
  have l1 := line_len h h.f1.2
  have c0 := h.lineclean h.f0.1
  have c1 := h.lineclean h.f1.1
  have tb : ∀ m, CallD lawC (m + 40) (.old (.ref 58)) [hdInst s, .list [.str ((d.F0 ++ d.T) ++ [10])], .list [.str (d.F1 ++ d.T)]] σ (.tup [.list ([fillR [(s : Int)] 0 (d.F0 ++ d.T)].map .str), .list ([fillR [(s : Int)] 0 (d.F1 ++ d.T)].map .str)]) σ := by
    intro m
    have := tab_ok (n := m) (s := s) (a := [(d.F0 ++ d.T) ++ [10]]) (b := [d.F1 ++ d.T]) (σ := σ) hz.1 (by lia) (by simp) (by simp) (fun l hl => by
      rw [List.mem_singleton.mp hl, List.length_append, List.length_singleton]; lia) (fun l hl => by rw [List.mem_singleton.mp hl]; lia)
    have e : ([(d.F0 ++ d.T) ++ [10]].map (expL s), [d.F1 ++ d.T].map (expL s)) = ([fillR [(s : Int)] 0 (d.F0 ++ d.T)], [fillR [(s : Int)] 0 (d.F1 ++ d.T)]) := by
      show ([expL s ((d.F0 ++ d.T) ++ [10])], [expL s (d.F1 ++ d.T)]) = _
      rw [expL_fill_nl hz.1 c0, expL_fill hz.1 c1]
    rw [(Prod.mk.inj e).1, (Prod.mk.inj e).2] at this
    exact this
  have fl : ∀ m (l : List Nat), l.length ≤ 44 → CallD lawC (m + 20) (.old (.ref 264)) [.str l, .list [.int (s : Int)]] σ (.str (fillR [(s : Int)] 0 l)) σ := fun m l hl => filled_short (sz := [(s : Int)]) (okZ1 hz) (by simp) (by lia)
  exact sIfF (tCmp (rMethF rfl (rName rfl) rfl (rEs (rList rfl (rEs (rBin (rItem rfl (rName rfl) rInt rfl) (rStr (l := [10]) rfl rfl) (bAddS (by rw [List.length_singleton]; lia))) rEs0)) (rEs (rCut (rName rfl) (rO rInt) rO0 rfl rfl (eCutQ (cut_from _ 1) (show 2 ≤ lim by lia))) rEs0)) rfl (tb _)) (rTup rfl (rEs (rList rfl (rEs (rCall rfl rfl (rEs (rItem rfl (rName rfl) rInt rfl) (rEs (rList rfl (rEs (rName rfl) rEs0)) rEs0)) (fl _ _ l0)) rEs0)) (rEs (rList rfl (rEs (rCall rfl rfl (rEs (rItem rfl (rName rfl) rInt rfl) (rEs (rList rfl (rEs (rName rfl) rEs0)) rEs0)) (fl _ _ l1)) rEs0)) rEs0))) (ne_two [fillR [(s : Int)] 0 (d.F0 ++ d.T)] [fillR [(s : Int)] 0 (d.F1 ++ d.T)])) L0
theorem z1 (h : d.Ok) {s : Nat} (hz : 1 ≤ s ∧ s ≤ 16) {st : Stmt} (hs : pgB 1 = st) :
    ExS lawC (n + 60) eiLaw st (rC d (e14 d (some s))) σ .next (rC d (e14 d (some s))) σ := by
  conv at hs => lhs; whnf
  subst hs
  have hlim : lim = 16777216 := rfl
  have key : ∀ F : List Nat, blanks F ∧ F.length ≤ 40 → ∀ m, CallD lawC (m + 30) (.old (.ref 206)) [.str (F ++ d.T)] σ (wsInst (F ++ d.T) (F.foldl stepW w0)) σ ∧ CallD lawC (m + 30) (.old (.ref 175)) [wsInst (F ++ d.T) (F.foldl stepW w0), .int (s : Int)] σ (.int ((fillR [(s : Int)] 0 F).length : Int)) σ ∧
      CallD lawC (m + 30) (.old (.ref 264)) [.str F, .list [.int (s : Int)]] σ (.str (fillR [(s : Int)] 0 F)) σ ∧ (fillR [(s : Int)] 0 F).length ≤ lim := by
    intro F hF m
    have hn := h.tlen
    have hf := fill_len (okZ1 hz) (by simp) F 0
    refine ⟨ws_ok hF.1 h.tends (by rw [List.length_append]; lia), ?_, filled_short (n := m + 10) (sz := [(s : Int)]) (okZ1 hz) (by simp) (by lia), by lia⟩
    rw [← level_len s hz.1 hF.1]
    exact level_ok (by lia) (cnt_len F hF.1 w0 (Int.le_refl _) (by show (0 : Int) + _ ≤ _; lia) (Nat.zero_le _))
  have K0 := key d.F0 h.f0
  have K1 := key d.F1 h.f1
  refine' sIfF (tCmp (rLC (σ₂ := σ) (es := [((fillR [(s : Int)] 0 d.F0).length : Int), ((fillR [(s : Int)] 0 d.F1).length : Int)].map .int) rfl (itE rfl (rName rfl) rfl ?h1) ?c1 ?h2) (rLC (σ₂ := σ) (es := [((fillR [(s : Int)] 0 d.F0).length : Int), ((fillR [(s : Int)] 0 d.F1).length : Int)].map .int) rfl (itE rfl (rName rfl) rfl ?h3) ?c2 ?h4) (ne_ints _)) L0
  case h1 => exact (show 2 ≤ lim by decide)
  case h2 => exact (show 2 ≤ lim by decide)
  case h3 => exact (show 2 ≤ lim by decide)
  case h4 => exact (show 2 ≤ lim by decide)
  case c1 => exact cTwo (cB (gName rfl) (rMethF rfl (rCall rfl rfl (rEs (rName rfl) rEs0) (K0 _).1) rfl (rEs (rName rfl) rEs0) rfl (K0 _).2.1)) (cB (gName rfl) (rMethF rfl (rCall rfl rfl (rEs (rName rfl) rEs0) (K1 _).1) rfl (rEs (rName rfl) rEs0) rfl (K1 _).2.1))
  case c2 => exact cTwo (cB (gName rfl) (rCall rfl rfl (rEs (rCall rfl rfl (rEs (rName rfl) (rEs (rList rfl (rEs (rName rfl) rEs0)) rEs0)) (K0 _).2.2.1) rEs0) (rBi (eLenS (K0 0).2.2.2)))) (cB (gName rfl) (rCall rfl rfl (rEs (rCall rfl rfl (rEs (rName rfl) (rEs (rList rfl (rEs (rName rfl) rEs0)) rEs0)) (K1 _).2.2.1) rEs0) (rBi (eLenS (K1 0).2.2.2))))
theorem x16 (h : d.Ok) {st : Stmt} (hs : lawS 16 = st) : ExS lawC (n + 70) eiLaw st (rC d (e13 d (oLast d))) σ .next (rC d (e14 d (some d.w))) σ := by
  have hw := h.w
  have A0 := z0 (n := n + 8) (σ := σ) h (s := 8) (by decide) rfl
  have A1 := z1 (n := n + 7) (σ := σ) h (s := 8) (by decide) rfl
  have B0 := z0 (n := n + 8) (σ := σ) h (s := d.w) (by lia) rfl
  have B1 := z1 (n := n + 7) (σ := σ) h (s := d.w) (by lia) rfl
  conv at hs => lhs; whnf
  subst hs
  exact sFor (itE rfl (rList rfl (rEs (rTup rfl (rEs rInt (rEs (rCall rfl rfl rEs0 hd0_ok) rEs0))) (rEs (rTup rfl (rEs (rName rfl) (rEs (rCall rfl rfl (rEs (rName rfl) rEs0) hd_ok) rEs0))) rEs0))) rfl (show 2 ≤ lim by decide)) (fN (lB (gTup (gs (gName rfl) (gs (gName rfl) gs0))) (L1 A0 (L1 A1 L0))) (fN (lB (gTup (gs (gName rfl) (gs (gName rfl) gs0))) (L1 B0 (L1 B1 L0))) f0))
end
end
section
theorem ne_bools (a : List Bool) : CmpD .NotEq (.list (a.map .bool)) (.list (a.map .bool)) false := cNe (EqS.self (psList (plMap (fun _ => psBool) a)))
theorem eq_strs (a : List (List Nat)) : CmpD .Eq (.list (a.map .str)) (.list (a.map .str)) true := cEq (EqS.self (psList (plMap (fun _ => psStr) a)))
noncomputable def bfR (a b r : Nat) : Bool := ((a : Int) - 1) * (r : Int).fmod b == ((b : Int) - 1) * (r : Int).fmod a
theorem tab_two {a b : Nat} (h : okZ [(a : Int), (b : Int)]) (r : Nat) : ((tabC [(a : Int), (b : Int)] r : Nat) : Int) = (a : Int) * b - (r : Int).fmod a * b - (r : Int).fmod b := by
  unfold tabC
  have := (filledT_pos h (by simp) (r : Int)).1
  rw [Int.toNat_of_nonneg (by lia)]
  show (1 * (a : Int) - (r : Int).fmod a) * b - (r : Int).fmod b = _
  rw [Int.one_mul, Int.sub_mul]
theorem free_eq {a b : Nat} (h : okZ [(a : Int), (b : Int)]) (h' : okZ [(b : Int), (a : Int)]) (r : Nat) : (fillR [(a : Int), (b : Int)] 0 (plainR r) == fillR [(b : Int), (a : Int)] 0 (plainR r)) = bfR a b r := by
  have e1 := tab_two h r
  have e2 := tab_two h' r
  rw [rl_eq, rl_eq]
  have m1 : ((a : Int) - 1) * (r : Int).fmod b = (r : Int).fmod b * a - (r : Int).fmod b := by rw [Int.sub_mul, Int.one_mul, Int.mul_comm]
  have m2 : ((b : Int) - 1) * (r : Int).fmod a = (r : Int).fmod a * b - (r : Int).fmod a := by rw [Int.sub_mul, Int.one_mul, Int.mul_comm]
  have m3 : (a : Int) * b = (b : Int) * a := Int.mul_comm ..
  unfold bfR
  rw [m1, m2]
  by_cases e : tabC [(a : Int), (b : Int)] r = tabC [(b : Int), (a : Int)] r
  · rw [e, beq_self_eq_true]
    symm
    rw [beq_iff_eq]
    rw [e, e2] at e1
    lia
  · have n1 : ¬ (List.replicate r 32 ++ List.replicate (tabC [(a : Int), (b : Int)] r) 9 = List.replicate r 32 ++ List.replicate (tabC [(b : Int), (a : Int)] r) 9) := by
      intro q
      have := congrArg List.length (List.append_cancel_left q)
      rw [List.length_replicate, List.length_replicate] at this
      exact e this
    rw [beq_eq_false_iff_ne.mpr n1]
    symm
    rw [beq_eq_false_iff_ne]
    intro q
    apply e
    lia
section
variable {n : Nat} {d : LD} {σ : Store}
noncomputable abbrev eX (d : LD) (t : VarsN) : VarsN := e8 d ++ ([(k_written, .list ((wL d).map .str)), (k_words, .list ((vL d).map .str)), (k_fills, .list ((fL d).map .int)), (k_lacks, .list ((kL d).map .int)), (k_line, .str (d.F1 ++ d.T)), (k_word, .str ((d.F1 ++ d.T).flatMap qAt)), (k_size, .int (d.w : Int)), (k_page, hdInst (d.w : Int))] ++ t)
noncomputable abbrev g17 (d : LD) : VarsN := [(k_one, hdInst (d.a0 : Int)), (k_two, hdInst (d.a1 : Int))]
noncomputable abbrev thD (d : LD) : D := .tup [.list ((rulerN [(d.a0 : Int), (d.a1 : Int)] d.p).map .str), .list []]
noncomputable abbrev bkD (d : LD) : D := .tup [.list [], .list ((rulerN [(d.a1 : Int), (d.a0 : Int)] d.p).map .str)]
noncomputable abbrev frD (d : LD) : List Bool := (List.range (d.p + 1)).map (bfR d.a0 d.a1)
noncomputable abbrev g18 (d : LD) : VarsN := [(k_one, hdInst (d.a0 : Int)), (k_two, hdInst (d.a1 : Int)), (k_there, thD d)]
noncomputable abbrev g19 (d : LD) : VarsN := [(k_one, hdInst (d.a0 : Int)), (k_two, hdInst (d.a1 : Int)), (k_there, thD d), (k_back, bkD d)]
noncomputable abbrev g20 (d : LD) : VarsN := [(k_one, hdInst (d.a0 : Int)), (k_two, hdInst (d.a1 : Int)), (k_there, thD d), (k_back, bkD d), (k_free, .list ((frD d).map .bool))]
theorem x17 (h : d.Ok) {st : Stmt} (hs : lawS 17 = st) : ExS lawC (n + 70) eiLaw st (rC d (e14 d (some d.w))) σ .next (rC d (eX d (g17 d))) σ := by
  conv at hs => lhs; whnf
  subst hs
  exact sAsgs rfl (vE rfl (rCall rfl rfl (rEs (rItem rfl (rName rfl) rInt rfl) rEs0) hd_ok) (vE rfl (rCall rfl rfl (rEs (rItem rfl (rName rfl) rInt rfl) rEs0) hd_ok) v0)) (gs (gName rfl) (gs (gName rfl) gs0))
theorem ruler_step {sz : List Int} (h : okZ sz) (hl : sz.length ≤ 3) {s : Nat} (hs : 1 ≤ s) (p : Nat) : (rulerN sz p).map (expL s) = rulerN (sz ++ [(s : Int)]) p := by
  unfold rulerN
  rw [List.map_map]
  refine List.map_congr_left fun r _ => ?_
  show expL s (fillR sz 0 (plainR r)) = _
  rw [expL_fill hs (clean_fill (plain_clean r)), fill_fill h hl hs]
theorem okZ0 : okZ [] := fun s hs => nomatch hs
theorem ruler_le {sz : List Int} (h : okZ sz) (hl : sz.length ≤ 3) {p : Nat} (hp : p ≤ 12) : ∀ l ∈ rulerN sz p, l.length ≤ 100000 := by
  intro l hl'
  obtain ⟨r, hr, rfl⟩ := List.mem_map.mp hl'
  have := List.mem_range.mp hr
  have h1 := fill_len h hl (plainR r) 0
  rw [plain_len] at h1
  lia
theorem tb1 (h : d.Ok) {sz : List Int} (hz : okZ sz) (hl : sz.length ≤ 3) {s : Nat} (hs : 1 ≤ s ∧ s ≤ 16) {m : Nat} : CallD lawC (m + 40) (.old (.ref 58)) [hdInst s, .list ((rulerN sz d.p).map .str), .list []] σ (.tup [.list ((rulerN (sz ++ [(s : Int)]) d.p).map .str), .list []]) σ := by
  have hp := h.p
  have := tab_ok (n := m) (s := s) (a := rulerN sz d.p) (b := []) (σ := σ) hs.1 (by lia) (by rw [ruler_len]; lia) (by simp) (ruler_le hz hl hp.2) (fun l hl => nomatch hl)
  rw [ruler_step hz hl hs.1] at this
  exact this
theorem tb2 (h : d.Ok) {sz : List Int} (hz : okZ sz) (hl : sz.length ≤ 3) {s : Nat} (hs : 1 ≤ s ∧ s ≤ 16) {m : Nat} : CallD lawC (m + 40) (.old (.ref 58)) [hdInst s, .list [], .list ((rulerN sz d.p).map .str)] σ (.tup [.list [], .list ((rulerN (sz ++ [(s : Int)]) d.p).map .str)]) σ := by
  have hp := h.p
  have := tab_ok (n := m) (s := s) (b := rulerN sz d.p) (a := []) (σ := σ) hs.1 (by lia) (by simp) (by rw [ruler_len]; lia) (fun l hl => nomatch hl) (ruler_le hz hl hp.2)
  rw [ruler_step hz hl hs.1] at this
  exact this
theorem x18 (h : d.Ok) {st : Stmt} (hs : lawS 18 = st) : ExS lawC (n + 70) eiLaw st (rC d (eX d (g17 d))) σ .next (rC d (eX d (g18 d))) σ := by
  have h0 := h.a0
  have h1 := h.a1
  conv at hs => lhs; whnf
  subst hs
  exact sAsg rfl rfl (rMethF rfl (rName rfl) rfl (rEs (rItem rfl (rMethF rfl (rName rfl) rfl (rEs (rName rfl) (rEs (rList rfl rEs0) rEs0)) rfl (tb1 (sz := []) h okZ0 (by decide) (by lia))) rInt rfl) (rEs (rList rfl rEs0) rEs0)) rfl (tb1 (sz := [(d.a0 : Int)]) h (okZ1 (by lia)) (by show 1 ≤ 3; decide) (by lia))) (gName rfl)
theorem x19 (h : d.Ok) {st : Stmt} (hs : lawS 19 = st) : ExS lawC (n + 70) eiLaw st (rC d (eX d (g18 d))) σ .next (rC d (eX d (g19 d))) σ := by
  have h0 := h.a0
  have h1 := h.a1
  conv at hs => lhs; whnf
  subst hs
  exact sAsg rfl rfl (rMethF rfl (rName rfl) rfl (rEs (rList rfl rEs0) (rEs (rItem rfl (rMethF rfl (rName rfl) rfl (rEs (rList rfl rEs0) (rEs (rName rfl) rEs0)) rfl (tb2 (sz := []) h okZ0 (by decide) (by lia))) rInt rfl) rEs0)) rfl (tb2 (sz := [(d.a1 : Int)]) h (okZ1 (by lia)) (by show 1 ≤ 3; decide) (by lia))) (gName rfl)
theorem mulS {a b : Nat} {r : Nat} (ha : 1 ≤ a ∧ a ≤ 4) : ((a : Int) - 1).natAbs < 2 ^ 32 ∨ ((r : Int).fmod b).natAbs < 2 ^ 32 := .inl (by lia)
theorem x20 (h : d.Ok) {st : Stmt} (hs : lawS 20 = st) : ExS lawC (n + 70) eiLaw st (rC d (eX d (g19 d))) σ .next (rC d (eX d (g20 d))) σ := by
  have hp := h.p
  have hlim : lim = 16777216 := rfl
  have h0 := h.a0
  have h1 := h.a1
  conv at hs => lhs; whnf
  subst hs
  refine' sAsgC rfl rfl (rLCc (σ₂ := σ) (es := (frD d).map .bool) rfl (itRange1 (i := ((d.p + 1 : Nat) : Int)) rfl rfl (rEs (rBin (rName rfl) rInt bAdd) rEs0) ?hr) ?hc ?hl) (gName rfl)
  case hr => lia
  case hl => rw [List.length_map, List.length_map, List.length_range]; lia
  case hc =>
    have em : (frD d).map D.bool = (List.range (d.p + 1)).map fun r => D.bool (bfR d.a0 d.a1 r) := by rw [List.map_map]; rfl
    rw [em, rangeD_nat]
    exact cMap fun r hr => cB (gName rfl) (rCmp (rBin (rBin (rItem rfl (rName rfl) rInt rfl) rInt bSub) (rBin (rName rfl) (rItem rfl (rName rfl) rInt rfl) (bMod (by lia))) (bMul (mulS h0))) (rBin (rBin (rItem rfl (rName rfl) rInt rfl) rInt bSub) (rBin (rName rfl) (rItem rfl (rName rfl) rInt rfl) (bMod (by lia))) (bMul (mulS h1))) (cEq eqS_int))
theorem x21 (h : d.Ok) {st : Stmt} (hs : lawS 21 = st) : ExS lawC (n + 70) eiLaw st (rC d (eX d (g20 d))) σ .next (rC d (eX d (g20 d))) σ := by
  have hp := h.p
  have hlim : lim = 16777216 := rfl
  have h0 := h.a0
  have h1 := h.a1
  have z1 : okZ [(d.a0 : Int), (d.a1 : Int)] := fun s hs => by
    rcases List.mem_cons.mp hs with rfl | hs
    · lia
    · rw [List.mem_singleton.mp hs]; lia
  have z2 : okZ [(d.a1 : Int), (d.a0 : Int)] := fun s hs => by
    rcases List.mem_cons.mp hs with rfl | hs
    · lia
    · rw [List.mem_singleton.mp hs]; lia
  conv at hs => lhs; whnf
  subst hs
  refine' sIfF (tOp (aOrF (tCmp (rBin (rItem rfl (rName rfl) rInt rfl) (rItem rfl (rName rfl) rInt rfl) (bAddL (u := []) (v := []) (by show 0 ≤ lim; lia))) (rList rfl rEs0) (cNe (EqS.self (psList pl0)))) (aOrF (tCmp (rLC (σ₂ := σ) (es := (frD d).map .bool) rfl (itZip rfl rfl (rEs (rItem rfl (rName rfl) rInt rfl) (rEs (rItem rfl (rName rfl) rInt rfl) rEs0)) ?hl) ?hc ?hl2) (rName rfl) (ne_bools (frD d))) aNil))) L0
  case hl =>
    have e1 : ((rulerN [(d.a0 : Int), (d.a1 : Int)] d.p).map D.str).length = d.p + 1 := by rw [List.length_map, ruler_len]
    have e2 : ((rulerN [(d.a1 : Int), (d.a0 : Int)] d.p).map D.str).length = d.p + 1 := by rw [List.length_map, ruler_len]
    exact ⟨e1.trans e2.symm, by lia⟩
  case hl2 => rw [List.length_map, List.length_map, List.length_range]; lia
  case hc =>
    have em : (frD d).map D.bool = (List.range (d.p + 1)).map fun r => D.bool (bfR d.a0 d.a1 r) := by rw [List.map_map]; rfl
    have m1 : (rulerN [(d.a0 : Int), (d.a1 : Int)] d.p).map D.str = (List.range (d.p + 1)).map fun r => D.str (fillR [(d.a0 : Int), (d.a1 : Int)] 0 (plainR r)) := by unfold rulerN; rw [List.map_map]; rfl
    have m2 : (rulerN [(d.a1 : Int), (d.a0 : Int)] d.p).map D.str = (List.range (d.p + 1)).map fun r => D.str (fillR [(d.a1 : Int), (d.a0 : Int)] 0 (plainR r)) := by unfold rulerN; rw [List.map_map]; rfl
    rw [em]
    have mz : zipD ((rulerN [(d.a0 : Int), (d.a1 : Int)] d.p).map D.str) ((rulerN [(d.a1 : Int), (d.a0 : Int)] d.p).map D.str) = (List.range (d.p + 1)).map fun r => D.tup [D.str (fillR [(d.a0 : Int), (d.a1 : Int)] 0 (plainR r)), D.str (fillR [(d.a1 : Int), (d.a0 : Int)] 0 (plainR r))] := by rw [m1, m2, zip2]
    rw [mz]
    refine cMap fun r hr => ?_
    show compB _ _ _ _ _ _ _ _ _ [D.bool (bfR d.a0 d.a1 r)] σ
    rw [← free_eq z1 z2 r]
    exact cB (gTup (gs (gName rfl) (gs (gName rfl) gs0))) (rCmp (rName rfl) (rName rfl) (eq_str _ _))
theorem x22 (h : d.Ok) {st : Stmt} (hs : lawS 22 = st) : ExS lawC (n + 70) eiLaw st (rC d (eX d (g20 d))) σ (.ret (.bool true)) (rC d (eX d (g20 d))) σ := by
  have hp := h.p
  have hlim : lim = 16777216 := rfl
  conv at hs => lhs; whnf
  subst hs
  refine' sRet (rCmp (rName rfl) (rLC (σ₂ := σ) (es := (rulerN [] d.p).map .str) rfl (itRange1 (i := ((d.p + 1 : Nat) : Int)) rfl rfl (rEs (rBin (rName rfl) rInt bAdd) rEs0) ?h0) ?hc ?hl) (eq_strs (rulerN [] d.p)))
  case h0 => lia
  case hl => rw [List.length_map, ruler_len]; lia
  case hc =>
    have em : (rulerN [] d.p).map D.str = (List.range (d.p + 1)).map fun r => D.str (plainR r) := by rw [ruler_nil, List.map_map]; rfl
    rw [em, rangeD_nat]
    exact cMap fun r hr => cB (gName rfl) (plain_el (by have := List.mem_range.mp hr; lia) rfl)
end
end
section
theorem per_all : ∀ a : Nat, a < 5 → 1 ≤ a → ((1 + ((11 : Nat) : Int)).fmod (a : Int) != 0) = false := by decide +kernel
theorem per_some {d : LD} (h0 : 1 ≤ d.a0 ∧ d.a0 ≤ 4) (h1 : 1 ≤ d.a1 ∧ d.a1 ≤ 4) (h2 : 1 ≤ d.a2 ∧ d.a2 ≤ 4) : ∃ k r, (List.range 12).filter (perC d.S) = k :: r ∧ k < 12 := by
  have hm : 11 ∈ (List.range 12).filter (perC d.S) := by
    rw [List.mem_filter]
    refine ⟨by decide, ?_⟩
    unfold perC
    have e : (d.S.filter fun s => (1 + ((11 : Nat) : Int)).fmod s != 0) = [] := by
      rw [List.filter_eq_nil_iff]
      intro s hs
      rcases List.mem_cons.mp hs with rfl | hs
      · rw [per_all d.a0 (by lia) h0.1]; decide
      · rcases List.mem_cons.mp hs with rfl | hs
        · rw [per_all d.a1 (by lia) h1.1]; decide
        · rw [List.mem_singleton.mp hs, per_all d.a2 (by lia) h2.1]; decide
    rw [e]; rfl
  match hf : (List.range 12).filter (perC d.S) with
  | [] => rw [hf] at hm; exact absurd hm (by simp)
  | k :: r =>
    refine ⟨k, r, rfl, ?_⟩
    have : k ∈ (List.range 12).filter (perC d.S) := by rw [hf]; exact List.mem_cons_self ..
    exact List.mem_range.mp (List.mem_filter.mp this).1
theorem body_law : fiLaw.body = [lawS 0, lawS 1, lawS 2, lawS 3, lawS 4, lawS 5, lawS 6, lawS 7, lawS 8, lawS 9, lawS 10, lawS 11, lawS 12, lawS 13, lawS 14, lawS 15, lawS 16, lawS 17, lawS 18, lawS 19, lawS 20, lawS 21, lawS 22] := by kernel_rfl
theorem law_rest {d : LD} (h : d.Ok) {n : Nat} {σ : Store} :
    ExL lawC (n + 100) eiLaw [lawS 2, lawS 3, lawS 4, lawS 5, lawS 6, lawS 7, lawS 8, lawS 9, lawS 10, lawS 11, lawS 12, lawS 13, lawS 14, lawS 15, lawS 16, lawS 17, lawS 18, lawS 19, lawS 20, lawS 21, lawS 22] (rA1 d) σ (.ret (.bool true)) (rC d (eX d (g20 d))) σ :=
  L1 (x2 h rfl) <| L1 (x3 h rfl) <| L1 (x4 rfl) <| L1 (x5 h rfl) <| L1 (x6 h rfl) <| L1 (x7 h rfl) <| L1 (x8 h rfl) <| L1 (x9 h rfl) <| L1 (x10 h rfl) <| L1 (x11 h rfl) <| L1 (x12 h rfl) <|
  L1 (x13 h rfl) <| L1 (x14 h rfl) <| L1 (x15 h rfl) <| L1 (x16 h rfl) <| L1 (x17 h rfl) <| L1 (x18 h rfl) <| L1 (x19 h rfl) <| L1 (x20 h rfl) <| L1 (x21 h rfl) <| LR (x22 h rfl)
theorem law_world {script : List Int} (hsc : script.length ≤ 63) : ∃ d : LD, d.sc = script ∧ d.Ok ∧ (∃ r, (List.range 12).filter (perC d.S) = (d.p - 1) :: r) ∧
    ∀ (rp : Bool) n σ, CallD (lawB rp) (n + 60) (.old (.ref 257)) [.list (d.sc.map .int)] σ (.tup [.list [.int (d.a0 : Int), .int (d.a1 : Int), .int (d.a2 : Int)], .int (d.w : Int), .list [.str d.F0, .str d.F1], .str d.T, .int (d.q : Int)]) σ := by
  obtain ⟨s0, s1, s2, wide, which, left, right, text, hW, hw⟩ := world_ok script hsc
  obtain ⟨b0, b1, b2, b3, b4, b5, b6, b7⟩ := hW
  obtain ⟨a0, rfl⟩ : ∃ a : Nat, s0 = (a : Int) := ⟨s0.toNat, by lia⟩
  obtain ⟨a1, rfl⟩ : ∃ a : Nat, s1 = (a : Int) := ⟨s1.toNat, by lia⟩
  obtain ⟨a2, rfl⟩ : ∃ a : Nat, s2 = (a : Int) := ⟨s2.toNat, by lia⟩
  obtain ⟨w, rfl⟩ : ∃ a : Nat, wide = (a : Int) := ⟨wide.toNat, by lia⟩
  obtain ⟨q, rfl⟩ : ∃ a : Nat, which = (a : Int) := ⟨which.toNat, by lia⟩
  obtain ⟨k, r, hf, hk⟩ := per_some (d := ⟨script, a0, a1, a2, w, left, right, text, q, 1⟩) (by dsimp only; lia) (by dsimp only; lia) (by dsimp only; lia)
  exact ⟨⟨script, a0, a1, a2, w, left, right, text, q, k + 1⟩, rfl, ⟨by dsimp only; lia, by dsimp only; lia, by dsimp only; lia, by dsimp only; lia, by dsimp only; lia, b5, b6, b7, by dsimp only; lia⟩, ⟨r, hf⟩, hw⟩
end
section
theorem pw_list : PySem.Challenge.rw_if0006_01.row.prog.main.body = (List.range 37).map topAt := by kernel_rfl
theorem roadC (lk : Look) (s : Stmt) (r : List Stmt) (h1 : noRoadLS lk s = true) (h2 : noRoadLSs lk r = true) : noRoadLSs lk (s :: r) = true := by
  unfold noRoadLSs; rw [h1, h2]; rfl
set_option maxHeartbeats 0 in
theorem road_ok : noRoadLSs { strict := false, foot := none, bare := [] } PySem.Challenge.rw_if0006_01.row.prog.main.body = true := by
  rw [pw_list]
  show noRoadLSs _ [topAt 0, topAt 1, topAt 2, topAt 3, topAt 4, topAt 5, topAt 6, topAt 7, topAt 8, topAt 9, topAt 10, topAt 11, topAt 12, topAt 13, topAt 14, topAt 15, topAt 16, topAt 17, topAt 18, topAt 19, topAt 20, topAt 21, topAt 22, topAt 23, topAt 24, topAt 25, topAt 26, topAt 27, topAt 28, topAt 29, topAt 30, topAt 31, topAt 32, topAt 33, topAt 34, topAt 35, topAt 36] = true
  refine roadC _ _ _ ?_ (roadC _ _ _ ?_ (roadC _ _ _ ?_ (roadC _ _ _ ?_ (roadC _ _ _ ?_ (roadC _ _ _ ?_ (roadC _ _ _ ?_ ?_))))))
  · decide +kernel
  · decide +kernel
  · decide +kernel
  · conv in topAt _ => whnf
    k_qdec
  · conv in topAt _ => whnf
    k_qdec
  · conv in topAt _ => whnf
    k_qdec
  · conv in topAt _ => whnf
    k_qdec
  repeat' (refine roadC _ _ _ ?_ ?_)
  all_goals (first | exact (rfl : noRoadLSs _ [] = true) | decide +kernel)
end
section
set_option maxHeartbeats 4000000 in
theorem said_ok : PySem.Challenge.rw_if0006_01.wellSaid = true := by
  unfold OpenLaw.wellSaid OpenRow.wellSaid OpenRow.partSaid looksOpen
  repeat' with_reducible refine look_both ?_ ?_
  all_goals (try rw [show (!(importedModules PySem.Challenge.rw_if0006_01.row.prog.main.body).all cThrough.contains) = false by decide +kernel, show List.filter (readsOut PySem.Challenge.rw_if0006_01.row.prog PySem.Challenge.rw_if0006_01.row.prog.main.body) [Str.ofString "vars", Str.ofString "dir", Str.ofString "locals"] = [] by rw [PySem.W.Fast.te13343964577679436407]; decide +kernel])
  all_goals (try with_reducible exact road_ok)
  all_goals (try simp only [PySem.W.Fast.te10501279942588096481, PySem.W.Fast.te10792542408131684335,PySem.W.Fast.te11788848310118352699,PySem.W.Fast.te12749700546528644094,PySem.W.Fast.te12862048085361865435,PySem.W.Fast.te12879404354523853263,PySem.W.Fast.te13343964577679436407,PySem.W.Fast.te13582783067957832011,PySem.W.Fast.te14412699480532031325,PySem.W.Fast.te16286561074155671207,PySem.W.Fast.te17095254045102204799,PySem.W.Fast.te17119622794617984870,PySem.W.Fast.te17691160309236699985,PySem.W.Fast.te17868728402115742887,PySem.W.Fast.te18344453789297297638,PySem.W.Fast.te2357444279172408678,PySem.W.Fast.te3471404346716756564,PySem.W.Fast.te4274047373036748609,PySem.W.Fast.te4579403493507170074,PySem.W.Fast.te482687673346738481,PySem.W.Fast.te4857012375875476094,PySem.W.Fast.te5318747976498570220,PySem.W.Fast.te5923862056798008813,PySem.W.Fast.te6984425678791042302,PySem.W.Fast.te7723801398212525404,PySem.W.Fast.te797321630700447069,PySem.W.Fast.te8179353310426384613,PySem.W.Fast.te8326940854005059898,PySem.W.Fast.te8377067652309620493,PySem.W.Fast.te9558739934217749035,PySem.W.Fast.te9572597257264208301,PySem.W.Fast.te9706382859710513879,PySem.W.Fast.te9807087744658564304])
  all_goals decide +kernel
end
section
noncomputable def dLaw : DefRec := { name := S "law", params := argOf (topAt 36), body := bodyOf (topAt 36), scope := scopeOf (topAt 36), pos := posOf (topAt 36) }
noncomputable abbrev rLaw : OpenRow := PySem.Challenge.rw_if0006_01.row
theorem def_ok : defOf vw rLaw.name = some (dLaw, []) := by kernel_rfl
theorem def_ok2 : rLaw.prog.theDef rLaw.name = some (dLaw.params, dLaw.body, dLaw.scope) := by kernel_rfl
theorem def_ok3 : kwWritten? dLaw.params.kwonlyargs dLaw.params.kw_defaults = some [] := by kernel_rfl
theorem wr_ok : (!rLaw.writes || rLaw.records.isEmpty) = true := by kernel_rfl
theorem ok_ok : (chainsOk vw && opensWell rLaw.prog && (frees rLaw.toRowW && rLaw.within.isEmpty)) = true := by decide +kernel
theorem bare_ok : rLaw.prog.bare := ⟨by kernel_rfl, by kernel_rfl, by kernel_rfl, by kernel_rfl, by kernel_rfl, by decide +kernel⟩
theorem prom_ok : rLaw.toRowW.promised := ⟨[.list []], by decide +kernel, by decide +kernel⟩
theorem holds_of_walk (hc : WalkO vw lo (XL vw []) hk.says rLaw.toRowW dLaw [] fun f vs => PySem.call f vs) : PySem.Challenge.rw_if0006_01.Holds :=
  holds_law said_ok fun said => holds_open (r := rLaw) (q := vw) (loose := lo) (Xt := hXt) (XP := XL vw []) (Yf := hk.obs) (Ya := hk.val) (YP := hk.says) (d := dLaw) (kwd := []) (N := 30000) left_ok hk.of hk.keeps
    (fun s e => xl_of s (Bool.and_eq_true_iff.mp e).1) XL.keeps def_ok def_ok2 def_ok3 (fun s e => recFacts_of (Bool.and_eq_true_iff.mp e).2) wr_ok said ok_ok bare_ok prom_ok hc
end
section
theorem ints_all : ∀ {xs : List WData}, WShape.hasItems [] xs .int = true → ∃ is : List Int, xs = is.map .int
  | [], _ => ⟨[], rfl⟩
  | x :: xs, h => by
    have h1 := hasItemsW_at h
    obtain ⟨i, rfl⟩ := hasW_int (h1 x (List.mem_cons_self ..))
    have h2 : WShape.hasItems [] xs .int = true := by
      rw [hasItems_all] at h ⊢
      rw [List.all_cons, Bool.and_eq_true] at h
      exact h.2
    obtain ⟨is, rfl⟩ := ints_all h2
    exact ⟨i :: is, rfl⟩
theorem well_reps {P : Params} {h : Heap} {X : Cx} {g : G} {am : List Addr} : ∀ {vs : List Value} {is : List Int}, WellAll P h vs (is.map .int) → Reps X g am vs (is.map .int)
  | vs, [], h => by cases h; exact .nil
  | vs, i :: is, h => by
    cases h with
    | cons hv hr => cases hv; exact .cons (.int _ _) (well_reps hr)
theorem args_law {args : List WData} (h : rLaw.toRowW.claim.pre args = true) : ∃ is : List Int, args = [.list (is.map .int)] ∧ is.length ≤ 63 := by
  obtain ⟨h1, h2⟩ := pre_splitW h
  obtain ⟨d, r, rfl, e1, e2⟩ := hasAllW_cons (show WShape.hasAll [] args [.list .int] = true from h1)
  cases hasAllW_nil e2
  obtain ⟨xs, rfl, e3⟩ := hasW_list e1
  obtain ⟨is, rfl⟩ := ints_all e3
  refine ⟨is, rfl, ?_⟩
  have h3 : (WTm.and (.not (.lt (.lit (.int 63)) (.len (.arg 0)))) (.lit (.bool true))).holds [] { args := [.list (is.map .int)] } = true := h2
  simp [WTm.holds, WTm.value] at h3
  rw [show W.less? (WData.int 63) (WData.int (is.length : Int)) = some (decide ((63 : Int) < (is.length : Int))) from rfl] at h3
  cases hq : decide ((63 : Int) < (is.length : Int)) with
  | true => rw [hq] at h3; exact absurd h3 (by decide)
  | false => have := of_decide_eq_false hq; omega
theorem post_law {args : List WData} : rLaw.toRowW.claim.post args (.bool true) args = true :=
  postW_of (r := rLaw.toRowW) (X := W.same (.bool true) (.bool true)) (show WShape.has [] (.bool true) .bool = true by simp [WShape.has, WShape.arms]) rfl (W.same_self _)
theorem law_body {X : Cx} {d : LD} (h : d.Ok) (hp : ∃ r, (List.range 12).filter (perC d.S) = (d.p - 1) :: r) {σ : Store}
    (hw : ∀ (rp : Bool) n σ, CallD (lawB rp) (n + 60) (.old (.ref 257)) [.list (d.sc.map .int)] σ (.tup [.list [.int (d.a0 : Int), .int (d.a1 : Int), .int (d.a2 : Int)], .int (d.w : Int), .list [.str d.F0, .str d.F1], .str d.T, .int (d.q : Int)]) σ)
    (W0 : Good X (lawB false)) (W1 : Good X (lawB true)) : BodyS X (lawB false) 102 eiLaw (lawS 0 :: lawS 1 :: [lawS 2, lawS 3, lawS 4, lawS 5, lawS 6, lawS 7, lawS 8, lawS 9, lawS 10, lawS 11, lawS 12, lawS 13, lawS 14, lawS 15, lawS 16, lawS 17, lawS 18, lawS 19, lawS 20, lawS 21, lawS 22]) [(k_script, .list (d.sc.map .int))] σ (.ret (.bool true)) (rC d (eX d (g20 d))) σ :=
  body_cons (n := 101) W0 (x0 (n := 31) (fun n σ => hw false n σ) rfl) (body_bump (n := 100) rfl W0 (fun env => bump_asg) (x1 (n := 30) h hp rfl) (body_of W1 (law_rest (n := 0) h)))
theorem walk : WalkO vw lo (XL vw []) hk.says rLaw.toRowW dLaw [] fun f vs => PySem.call f vs := by
  intro w s₀ s₁ mg mb G Y fa o pm cd doc dV kV ho hd hcd hD hmg hg args vals as hpre hlay hrd hwl hlo
  have KX := km_in_of Y
  have hT8 := km_tabs_of Y
  have T := G.T
  have hT : TabsAt [(57, 55)] s₁.heap := fun q hq => by
    rw [List.mem_singleton.mp hq]
    exact ⟨codeHd_of_K KX (by kernel_rfl), hT8 55 (List.mem_singleton.mpr rfl)⟩
  have GK := ghost_K hT KX (by kernel_rfl)
  have hfa : fa = 274 := by
    have := mg_of (n := S "law") (v := .ref 274) KX T.g (by kernel_rfl)
    have e : mg (S "law") = some (.ref fa) := hmg
    rw [e] at this
    cases this; rfl
  subst hfa
  obtain ⟨is, rfl, hlen⟩ := args_law hpre
  obtain ⟨dd, rfl, hOk, hper, hw⟩ := law_world hlen
  cases hwl with
  | cons hv hnil =>
    cases hnil
    cases hv with
    | list ha hall =>
      rename_i a vs
      let X : Cx := { prog := rLaw.prog, w := w, h₀ := ghostOf s₁.heap [(57, 55)], tabs := [lawTab], mg := mg, mb := mb }
      have O : ∀ rp, GlobOk X (lawB rp) := fun rp => globOk (X := X) GK (ghost_ns hT T.g) T.builtins (ghost_ns hT T.b)
      have H : ∀ rp, KOk (fK w.params) X (lawB rp) := fun rp => kOk (X := X) GK (let ⟨mc, a, r⟩ := T.nolimit; ⟨mc, ghost_ns hT a, r⟩) rfl
      have TX : TabX X := by
        refine ⟨fun t ht => ?_, fun t ht t' ht' _ => ?_, ?_⟩
        · rw [List.mem_singleton.mp ht]
          exact (ghost_code hT).1
        · rw [List.mem_singleton.mp ht, List.mem_singleton.mp ht']
        · exact (ghost_top hT T).bmain
      have St0 : St X X.h₀.get? [] [] s₁.heap := by
        refine ⟨fun a o e => of_hideAll _ e, fun a o e => e, fun t ht => ?_, fun t ht => ?_, (fun a ha => nomatch ha), (fun a ha => nomatch ha), List.nodup_nil, rfl, fun i a so e1 e2 => (by simp at e1)⟩
        · rw [List.mem_singleton.mp ht]
          exact hideAll_none _ (List.mem_singleton.mpr rfl)
        · rw [List.mem_singleton.mp ht]
          exact ⟨#[], hT8 55 (List.mem_singleton.mpr rfl), .inl rfl⟩
      have rs : Reps X X.h₀.get? [] [.ref a] [.list (dd.sc.map .int)] := .cons (.list a 0 vs _ (ghost_get hT ha (by simp [tabObj])) (well_reps hall)) .nil
      refine enter_call (kn_post hT (fun a x => rfl) ?_)
      refine fn_body (C := lawB false) (X := X) (m := 102) (fi := fiLaw) (args := [.list (dd.sc.map .int)]) (ρ := [(k_script, .list (dd.sc.map .int))]) (σ := []) (σ' := []) (d := .bool true) (fl := .ret (.bool true)) (H false) (by kernel_rfl) (by kernel_rfl) ?_ ?_ (by rw [eiLaw_ok, body_law]; exact law_body hOk hper hw ⟨⟨_, H false⟩, O false, TX⟩ ⟨⟨_, H true⟩, O true, TX⟩) (.inl rfl) (fun e => nomatch e) ⟨rfl, by decide, by decide⟩ St0 rs fun v g' am' s' x S' r' => ?_
      · rw [eiLaw_ok]; rfl
      · rw [eiLaw_ok]; rfl
      · cases r'
        obtain ⟨h', tk, rfl⟩ := x.sh
        obtain ⟨ps, hps, _⟩ := S'.tab lawTab (List.mem_singleton.mpr rfl)
        exact ⟨⟨.inl ⟨.bool true, .bool true, [], rfl, fun _ => rfl, .bool true, post_law, fun _ => ⟨List.nodup_nil, fun a ha => nomatch ha⟩⟩, fun b o e => S'.gin b o (S'.base b o e), rfl, hg⟩, ⟨ps, hps⟩, trivial⟩
theorem done : PySem.Challenge.rw_if0006_01.Holds := holds_of_walk walk
end
end Mine
set_option maxRecDepth 100000 in
theorem PySem.Challenge.cw_if0006_01_holds : PySem.Challenge.rw_if0006_01.Holds := by
  exact Mine.done
