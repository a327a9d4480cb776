import PyProof.Rows.All
import Wide.All
import OpenK.AllK
import Wide.FinOn
import PySem.Challenge.RW_ox0114_01
set_option Elab.async false
set_option compiler.extract_closed false
set_option linter.all false
section
open PySem PySem.W PySem.W.X PyProof.Rows
set_option maxRecDepth 100000
namespace Mine

noncomputable abbrev pw : Program := PySem.Challenge.pw_ox0114_01

/- the text's own objects, as the top leaves them: those that a call of the law reads -/
noncomputable def stAt (i : Nat) : Stmt := (pw.main.body[i]?).getD (.Pass default)
noncomputable def stIn (i j : Nat) : Stmt := match stAt i with
  | .ClassDef _ _ _ b _ _ _ _ _ _ _ => (b[j]?).getD (.Pass default)
  | s => s
noncomputable abbrev sv (s : String) (t : Nat) : Value := .str (Str.ofString s) t
noncomputable def hsh (P : Params) (s : Str) : Int := if s.cps.isEmpty then 0 else reduceHash (P.strHash s.cps)
noncomputable def en (P : Params) (s : String) (t : Nat) (v : Value) : DictEntry := ⟨hsh P (Str.ofString s), sv s t, v⟩
noncomputable def fd (st : Stmt) (name qual : String) (g : Addr) (dV kV doc pm cd ct : Value) (b : Addr) : FuncData := match st with
  | .FunctionDef _ a body _ _ _ sc _ _ _ => ⟨Str.ofString name, Str.ofString qual, a, .stmts body, sc, g, [], dV, kV, doc, pm, none, cd, ct, b⟩
  | _ => default
noncomputable def o0 (P : Params) : Obj := ⟨(.type "dict"), none, (.dict ⟨[en P "__name__" 1 (sv "builtins" 160), en P "__doc__" 2 (.builtin "builtins.__doc__:str#opaque"), en P "__package__" 3 (.builtin "builtins.__package__:str#opaque"), en P "__loader__" 4 (.builtin "builtins.__loader__:shared#opaque"), en P "__spec__" 5 (.builtin "builtins.__spec__#opaque"), en P "__build_class__" 6 (.builtin "__build_class__"), en P "__import__" 7 (.builtin "__import__"), en P "abs" 8 (.builtin "abs"), en P "all" 9 (.builtin "all"), en P "any" 10 (.builtin "any"), en P "ascii" 11 (.builtin "ascii"), en P "bin" 12 (.builtin "bin"), en P "breakpoint" 13 (.builtin "breakpoint"), en P "callable" 14 (.builtin "callable"), en P "chr" 15 (.builtin "chr"), en P "compile" 16 (.builtin "compile"), en P "delattr" 17 (.builtin "delattr"), en P "dir" 18 (.builtin "dir"), en P "divmod" 19 (.builtin "divmod"), en P "eval" 20 (.builtin "eval"), en P "exec" 21 (.builtin "exec"), en P "format" 22 (.builtin "format"), en P "getattr" 23 (.builtin "getattr"), en P "globals" 24 (.builtin "globals"), en P "hasattr" 25 (.builtin "hasattr"), en P "hash" 26 (.builtin "hash"), en P "hex" 27 (.builtin "hex"), en P "id" 28 (.builtin "id"), en P "input" 29 (.builtin "input"), en P "isinstance" 30 (.builtin "isinstance"), en P "issubclass" 31 (.builtin "issubclass"), en P "iter" 32 (.builtin "iter"), en P "aiter" 33 (.builtin "aiter"), en P "len" 34 (.builtin "len"), en P "locals" 35 (.builtin "locals"), en P "max" 36 (.builtin "max"), en P "min" 37 (.builtin "min"), en P "next" 38 (.builtin "next"), en P "anext" 39 (.builtin "anext"), en P "oct" 40 (.builtin "oct"), en P "ord" 41 (.builtin "ord"), en P "pow" 42 (.builtin "pow"), en P "print" 43 (.builtin "print"), en P "repr" 44 (.builtin "repr"), en P "round" 45 (.builtin "round"), en P "setattr" 46 (.builtin "setattr"), en P "sorted" 47 (.builtin "sorted"), en P "sum" 48 (.builtin "sum"), en P "vars" 49 (.builtin "vars"), en P "None" 50 .none, en P "Ellipsis" 51 .ellipsis, en P "NotImplemented" 52 .notImplemented, en P "False" 53 (.bool false), en P "True" 54 (.bool true), en P "bool" 55 (.type "bool"), en P "memoryview" 56 (.type "memoryview"), en P "bytearray" 57 (.type "bytearray"), en P "bytes" 58 (.type "bytes"), en P "classmethod" 59 (.type "classmethod"), en P "complex" 60 (.type "complex"), en P "dict" 61 (.type "dict"), en P "enumerate" 62 (.type "enumerate"), en P "filter" 63 (.type "filter"), en P "float" 64 (.type "float"), en P "frozenset" 65 (.type "frozenset"), en P "property" 66 (.type "property"), en P "int" 67 (.type "int"), en P "list" 68 (.type "list"), en P "map" 69 (.type "map"), en P "object" 70 (.type "object"), en P "range" 71 (.type "range"), en P "reversed" 72 (.type "reversed"), en P "set" 73 (.type "set"), en P "slice" 74 (.type "slice"), en P "staticmethod" 75 (.type "staticmethod"), en P "str" 76 (.type "str"), en P "super" 77 (.type "super"), en P "tuple" 78 (.type "tuple"), en P "type" 79 (.type "type"), en P "zip" 80 (.type "zip"), en P "__debug__" 81 (.bool true), en P "BaseException" 82 (.type "BaseException"), en P "BaseExceptionGroup" 83 (.type "BaseExceptionGroup"), en P "Exception" 84 (.type "Exception"), en P "GeneratorExit" 85 (.type "GeneratorExit"), en P "KeyboardInterrupt" 86 (.type "KeyboardInterrupt"), en P "SystemExit" 87 (.type "SystemExit"), en P "ArithmeticError" 88 (.type "ArithmeticError"), en P "AssertionError" 89 (.type "AssertionError"), en P "AttributeError" 90 (.type "AttributeError"), en P "BufferError" 91 (.type "BufferError"), en P "EOFError" 92 (.type "EOFError"), en P "ImportError" 93 (.type "ImportError"), en P "LookupError" 94 (.type "LookupError"), en P "MemoryError" 95 (.type "MemoryError"), en P "NameError" 96 (.type "NameError"), en P "OSError" 97 (.type "OSError"), en P "ReferenceError" 98 (.type "ReferenceError"), en P "RuntimeError" 99 (.type "RuntimeError"), en P "StopAsyncIteration" 100 (.type "StopAsyncIteration"), en P "StopIteration" 101 (.type "StopIteration"), en P "SyntaxError" 102 (.type "SyntaxError"), en P "SystemError" 103 (.type "SystemError"), en P "TypeError" 104 (.type "TypeError"), en P "ValueError" 105 (.type "ValueError"), en P "Warning" 106 (.type "Warning"), en P "FloatingPointError" 107 (.type "FloatingPointError"), en P "OverflowError" 108 (.type "OverflowError"), en P "ZeroDivisionError" 109 (.type "ZeroDivisionError"), en P "BytesWarning" 110 (.type "BytesWarning"), en P "DeprecationWarning" 111 (.type "DeprecationWarning"), en P "EncodingWarning" 112 (.type "EncodingWarning"), en P "FutureWarning" 113 (.type "FutureWarning"), en P "ImportWarning" 114 (.type "ImportWarning"), en P "PendingDeprecationWarning" 115 (.type "PendingDeprecationWarning"), en P "ResourceWarning" 116 (.type "ResourceWarning"), en P "RuntimeWarning" 117 (.type "RuntimeWarning"), en P "SyntaxWarning" 118 (.type "SyntaxWarning"), en P "UnicodeWarning" 119 (.type "UnicodeWarning"), en P "UserWarning" 120 (.type "UserWarning"), en P "BlockingIOError" 121 (.type "BlockingIOError"), en P "ChildProcessError" 122 (.type "ChildProcessError"), en P "ConnectionError" 123 (.type "ConnectionError"), en P "FileExistsError" 124 (.type "FileExistsError"), en P "FileNotFoundError" 125 (.type "FileNotFoundError"), en P "InterruptedError" 126 (.type "InterruptedError"), en P "IsADirectoryError" 127 (.type "IsADirectoryError"), en P "NotADirectoryError" 128 (.type "NotADirectoryError"), en P "PermissionError" 129 (.type "PermissionError"), en P "ProcessLookupError" 130 (.type "ProcessLookupError"), en P "TimeoutError" 131 (.type "TimeoutError"), en P "IndentationError" 132 (.type "IndentationError"), en P "_IncompleteInputError" 133 (.type "_IncompleteInputError"), en P "IndexError" 134 (.type "IndexError"), en P "KeyError" 135 (.type "KeyError"), en P "ModuleNotFoundError" 136 (.type "ModuleNotFoundError"), en P "NotImplementedError" 137 (.type "NotImplementedError"), en P "PythonFinalizationError" 138 (.type "PythonFinalizationError"), en P "RecursionError" 139 (.type "RecursionError"), en P "UnboundLocalError" 140 (.type "UnboundLocalError"), en P "UnicodeError" 141 (.type "UnicodeError"), en P "BrokenPipeError" 142 (.type "BrokenPipeError"), en P "ConnectionAbortedError" 143 (.type "ConnectionAbortedError"), en P "ConnectionRefusedError" 144 (.type "ConnectionRefusedError"), en P "ConnectionResetError" 145 (.type "ConnectionResetError"), en P "TabError" 146 (.type "TabError"), en P "UnicodeDecodeError" 147 (.type "UnicodeDecodeError"), en P "UnicodeEncodeError" 148 (.type "UnicodeEncodeError"), en P "UnicodeTranslateError" 149 (.type "UnicodeTranslateError"), en P "ExceptionGroup" 150 (.type "ExceptionGroup"), en P "EnvironmentError" 151 (.type "OSError"), en P "IOError" 152 (.type "OSError"), en P "open" 153 (.builtin "open"), en P "quit" 154 (.builtin "builtins.quit#opaque"), en P "exit" 155 (.builtin "builtins.exit#opaque"), en P "copyright" 156 (.builtin "builtins.copyright#opaque"), en P "credits" 157 (.builtin "builtins.credits#opaque"), en P "license" 158 (.builtin "builtins.license#opaque"), en P "help" 159 (.builtin "builtins.help#opaque")]⟩ 159), ⟨[]⟩⟩
noncomputable def o2 (P : Params) : Obj := ⟨.none, none, (.dict ⟨[en P "\x69mport.loaded._sre" 183 (.bool true), en P "class._frozen_importlib.BuiltinImporter" 185 (.ref 14), en P "watched.\x69mport" 206 (.ref 18), en P "class._frozen_importlib.ModuleSpec" 216 (.ref 22), en P "sys.modules.booked-epoch" 245 (.int (4) 0), en P "\x69mport.later-laid._sre" 270 (.bool true), en P "watched.library" 272 (.ref 27), en P "watched.library-objects" 0 (sv "\x0c\x1e" 0), en P "watched.library-deep._sre" 273 (sv "\x04\x00\x00\x0b\x04\x00\x00\x0b\x04\x00\x00\x03\x04\x00\x00\x0b\x08\x04dict\x02" 0), en P "\x69mport.loaded._collections" 280 (.bool true), en P "sys.modules.landed._collections" 294 (.bool true), en P "\x69mport.later-laid._collections" 309 (.bool true), en P "watched.library-deep._collections" 311 (sv "\x04\x00\x00\x1d\x04\x00\x00\x1d\x04\x00\x00\x03\x04\x00\x00\x1d\x08\x04dict\x02" 0), en P "type.__subclasses__.OSError.0" 469 (.int (89) 0), en P "type.__subclasses__.OSError.n" 470 (.int (1) 0)]⟩ 15), ⟨[]⟩⟩
noncomputable def o3 (P : Params) : Obj := ⟨(.type "dict"), none, (.dict ⟨[en P "__name__" 165 (sv "law_ox0114_01" 1289), en P "__doc__" 166 .none, en P "__package__" 167 .none, en P "__loader__" 168 (.builtin "__main__.__loader__#opaque"), en P "__spec__" 169 .none, en P "__annotations__" 170 (.ref 6), en P "__builtins__" 171 (.ref 4), en P "__file__" 173 (sv "/claim/cut.py" 172), en P "__cached__" 174 .none, en P "_sre" 275 (.ref 12), en P "deque" 317 (.type "collections.deque"), en P "_wall" 330 (.ref 44), en P "_twin_re_1" 379 (.ref 49), en P "_ver_stages" 410 (.ref 50), en P "_comparable_version" 421 (.ref 57), en P "_norm_version" 432 (.ref 65), en P "_whence" 442 (.ref 72), en P "_index" 450 (.ref 79), en P "UnsupportedOperation" 472 (.ref 89), en P "IOBase" 504 (.ref 109), en P "BufferedIOBase" 522 (.ref 124), en P "TextIOBase" 540 (.ref 136), en P "BytesIO" 802 (.ref 366), en P "StringIO" 1089 (.ref 613), en P "_kind" 1100 (.ref 622), en P "_fspath" 1109 (.ref 629), en P "_check_arg_types" 1119 (.ref 636), en P "isabs" 1126 (.ref 643), en P "join" 1137 (.ref 650), en P "dirname" 1147 (.ref 657), en P "shlex" 1288 (.ref 748), en P "_law_version" 1300 (.ref 759), en P "_law_tokens" 1309 (.ref 766), en P "_law_runs" 1320 (.ref 773), en P "_law_number" 1329 (.ref 780), en P "_law_told" 1339 (.ref 787), en P "_law_short" 1345 (.ref 792), en P "_law_all_short" 1351 (.ref 797), en P "law" 1357 (.ref 802)]⟩ 39), ⟨[]⟩⟩
noncomputable def o48 (P : Params) : Obj := ⟨(.type "tuple"), none, (.seq ⟨[(.int (14) 0), (.int (4) 0), (.int (0) 0), (.int (1) 0), (.int (4294967295) 0), (.int (17) 0), (.int (0) 0), (.int (7) 0), (.int (14) 0), (.int (24) 0), (.int (10) 0), (.int (1) 0), (.int (4294967295) 0), (.int (13) 0), (.int (5) 0), (.int (22) 0), (.int (48) 0), (.int (57) 0), (.int (0) 0), (.int (1) 0), (.int (15) 0), (.int (17) 0), (.int (15) 0), (.int (13) 0), (.int (11) 0), (.int (9) 0), (.int (0) 0), (.int (26624) 0), (.int (2147483648) 0), (.int (0) 0), (.int (0) 0), (.int (0) 0), (.int (0) 0), (.int (0) 0), (.int (0) 0), (.int (15) 0), (.int (2) 0), (.int (0) 0), (.int (17) 0), (.int (1) 0), (.int (1) 0)]⟩ 0), ⟨[]⟩⟩
noncomputable def o49 (P : Params) : Obj := ⟨(.type "re.Pattern"), none, (.fields ⟨[(sv "([0-9]+|[._+-])" 334), (.int (32) 378), (.int (1) 0), .none, .none, (.ref 48), (.int (0) 0)]⟩), ⟨[]⟩⟩
noncomputable def o50 (P : Params) : Obj := ⟨(.type "dict"), none, (.dict ⟨[en P "dev" 380 (.int (10) 381), en P "alpha" 382 (.int (20) 383), en P "a" 384 (.int (20) 385), en P "beta" 386 (.int (30) 387), en P "b" 388 (.int (30) 389), en P "c" 390 (.int (40) 391), en P "RC" 392 (.int (50) 393), en P "rc" 394 (.int (50) 395), en P "pl" 396 (.int (200) 397), en P "p" 398 (.int (200) 399)]⟩ 10), ⟨[]⟩⟩
noncomputable def o56 (P : Params) : Obj := ⟨(.type "code"), none, (.fields ⟨[(sv "_comparable_version" 411), (sv "_comparable_version" 412), (sv "/claim/cut.py" 413), (.int (9) 0), (.int (1) 0), (.int (0) 0), (.int (0) 0), (.int (3) 0), (.ref 51), (.bool true), (.int (318) 0), (.ref 52), .none, (.ref 53), (.ref 54), (.ref 55), (.int (419) 0), (.int (9) 0), (sv "/claim/cut.py" 420)]⟩), ⟨[]⟩⟩
noncomputable def o57 (P : Params) : Obj := ⟨(.type "function"), none, (.func (fd (stAt 6) "_comparable_version" "_comparable_version" 3 .none .none .none (sv "cpy313.platform" 331) (.ref 56) .none 0)), ⟨[]⟩⟩
noncomputable def o58 (P : Params) : Obj := ⟨(.type "tuple"), none, (.seq ⟨[(sv "" 422)]⟩ 0), ⟨[]⟩⟩
noncomputable def o64 (P : Params) : Obj := ⟨(.type "code"), none, (.fields ⟨[(sv "_norm_version" 423), (sv "_norm_version" 424), (sv "/claim/cut.py" 425), (.int (21) 0), (.int (2) 0), (.int (0) 0), (.int (0) 0), (.int (3) 0), (.ref 59), (.bool true), (.int (318) 0), (.ref 60), .none, (.ref 61), (.ref 62), (.ref 63), (.int (430) 0), (.int (21) 0), (sv "/claim/cut.py" 431)]⟩), ⟨[]⟩⟩
noncomputable def o65 (P : Params) : Obj := ⟨(.type "function"), none, (.func (fd (stAt 7) "_norm_version" "_norm_version" 3 (.ref 58) .none .none (sv "cpy313.platform" 331) (.ref 64) .none 0)), ⟨[]⟩⟩
noncomputable def o78 (P : Params) : Obj := ⟨(.type "code"), none, (.fields ⟨[(sv "_index" 443), (sv "_index" 444), (sv "/claim/cut.py" 445), (.int (37) 0), (.int (2) 0), (.int (0) 0), (.int (0) 0), (.int (3) 0), (.ref 73), (.bool true), (.int (318) 0), (.ref 74), .none, (.ref 75), (.ref 76), (.ref 77), (.int (448) 0), (.int (37) 0), (sv "/claim/cut.py" 449)]⟩), ⟨[]⟩⟩
noncomputable def o79 (P : Params) : Obj := ⟨(.type "function"), none, (.func (fd (stAt 10) "_index" "_index" 3 .none .none .none (sv "io" 433) (.ref 78) .none 0)), ⟨[]⟩⟩
noncomputable def o105 (P : Params) : Obj := ⟨(.type "code"), none, (.fields ⟨[(sv "__new__" 487), (sv "IOBase.__new__" 488), (sv "/claim/cut.py" 489), (.int (49) 0), (.int (1) 0), (.int (1) 0), (.int (0) 0), (.int (15) 0), (.ref 100), (.bool true), (.int (318) 0), (.ref 101), .none, (.ref 102), (.ref 103), (.ref 104), (.int (493) 0), (.int (49) 0), (sv "/claim/cut.py" 494)]⟩), ⟨[]⟩⟩
noncomputable def o106 (P : Params) : Obj := ⟨(.type "function"), none, (.func (fd (stIn 12 1) "__new__" "IOBase.__new__" 3 .none .none .none (sv "io" 433) (.ref 105) .none 0)), ⟨[]⟩⟩
noncomputable def o108 (P : Params) : Obj := ⟨(.type "dict"), none, (.dict ⟨[en P "__module__" 480 (sv "io" 485), en P "__firstlineno__" 484 (.int (46) 483), en P "__new__" 495 (.ref 110), en P "__static_attributes__" 496 (.ref 107), en P "__dict__" 499 (.ref 111), en P "__weakref__" 501 (.ref 112), en P "__doc__" 502 .none]⟩ 4), ⟨[]⟩⟩
noncomputable def o109 (P : Params) : Obj := ⟨(.type "type"), none, (.cls { name := Str.ofString "IOBase", bases := [(.type "object")], mro := [(.ref 109), (.type "object")], ns := 108, qualname := Str.ofString "IOBase", hasDict := true, slotNames := [], subclasses := [(.ref 124), (.ref 136)], abstract := false, collection := none, hasDel := false }), ⟨[none, none, some (sv "IOBase" 473), some (sv "IOBase" 481), some .none, some (.bool true)]⟩⟩
noncomputable def o110 (P : Params) : Obj := ⟨(.type "staticmethod"), none, (.fields ⟨[(.ref 106)]⟩), ⟨[]⟩⟩
noncomputable def o135 (P : Params) : Obj := ⟨(.type "dict"), none, (.dict ⟨[en P "__module__" 530 (sv "io" 535), en P "__firstlineno__" 534 (.int (55) 533), en P "__static_attributes__" 537 (.ref 134), en P "__doc__" 538 .none]⟩ 2), ⟨[]⟩⟩
noncomputable def o136 (P : Params) : Obj := ⟨(.type "type"), none, (.cls { name := Str.ofString "TextIOBase", bases := [(.ref 109)], mro := [(.ref 136), (.ref 109), (.type "object")], ns := 135, qualname := Str.ofString "TextIOBase", hasDict := true, slotNames := [], subclasses := [(.ref 613)], abstract := false, collection := none, hasDel := false }), ⟨[some (.ref 127), none, some (sv "TextIOBase" 523), some (sv "TextIOBase" 531), some .none, some (.bool true)]⟩⟩
noncomputable def o366 (P : Params) : Obj := ⟨(.type "type"), none, (.cls { name := Str.ofString "BytesIO", bases := [(.ref 124)], mro := [(.ref 366), (.ref 124), (.ref 109), (.type "object")], ns := 365, qualname := Str.ofString "BytesIO", hasDict := true, slotNames := [], subclasses := [], abstract := false, collection := none, hasDel := false }), ⟨[some (.ref 139), none, some (sv "BytesIO" 541), some (sv "BytesIO" 549), some .none, some (.bool true)]⟩⟩
noncomputable def o376 (P : Params) : Obj := ⟨(.type "tuple"), none, (.seq ⟨[(sv "" 817), (sv "\n" 818)]⟩ 0), ⟨[]⟩⟩
noncomputable def o382 (P : Params) : Obj := ⟨(.type "code"), none, (.fields ⟨[(sv "__init__" 819), (sv "StringIO.__init__" 820), (sv "/claim/cut.py" 821), (.int (230) 0), (.int (3) 0), (.int (0) 0), (.int (0) 0), (.int (3) 0), (.ref 377), (.bool true), (.int (318) 0), (.ref 378), .none, (.ref 379), (.ref 380), (.ref 381), (.int (825) 0), (.int (230) 0), (sv "/claim/cut.py" 826)]⟩), ⟨[]⟩⟩
noncomputable def o383 (P : Params) : Obj := ⟨(.type "function"), none, (.func (fd (stIn 16 1) "__init__" "StringIO.__init__" 3 (.ref 376) .none .none (sv "io" 433) (.ref 382) .none 0)), ⟨[]⟩⟩
noncomputable def o389 (P : Params) : Obj := ⟨(.type "code"), none, (.fields ⟨[(sv "__translated" 828), (sv "StringIO.__translated" 829), (sv "/claim/cut.py" 830), (.int (243) 0), (.int (2) 0), (.int (0) 0), (.int (0) 0), (.int (3) 0), (.ref 384), (.bool true), (.int (318) 0), (.ref 385), .none, (.ref 386), (.ref 387), (.ref 388), (.int (834) 0), (.int (243) 0), (sv "/claim/cut.py" 835)]⟩), ⟨[]⟩⟩
noncomputable def o390 (P : Params) : Obj := ⟨(.type "function"), none, (.func (fd (stIn 16 2) "__translated" "StringIO.__translated" 3 .none .none .none (sv "io" 433) (.ref 389) .none 0)), ⟨[]⟩⟩
noncomputable def o396 (P : Params) : Obj := ⟨(.type "code"), none, (.fields ⟨[(sv "__check" 837), (sv "StringIO.__check" 838), (sv "/claim/cut.py" 839), (.int (251) 0), (.int (1) 0), (.int (0) 0), (.int (0) 0), (.int (3) 0), (.ref 391), (.bool true), (.int (318) 0), (.ref 392), .none, (.ref 393), (.ref 394), (.ref 395), (.int (841) 0), (.int (251) 0), (sv "/claim/cut.py" 842)]⟩), ⟨[]⟩⟩
noncomputable def o397 (P : Params) : Obj := ⟨(.type "function"), none, (.func (fd (stIn 16 3) "__check" "StringIO.__check" 3 .none .none .none (sv "io" 433) (.ref 396) .none 0)), ⟨[]⟩⟩
noncomputable def o552 (P : Params) : Obj := ⟨(.type "tuple"), none, (.seq ⟨[(.int (-1) 1010)]⟩ 0), ⟨[]⟩⟩
noncomputable def o558 (P : Params) : Obj := ⟨(.type "code"), none, (.fields ⟨[(sv "read" 1011), (sv "StringIO.read" 1012), (sv "/claim/cut.py" 1013), (.int (373) 0), (.int (2) 0), (.int (2) 0), (.int (0) 0), (.int (3) 0), (.ref 553), (.bool true), (.int (318) 0), (.ref 554), .none, (.ref 555), (.ref 556), (.ref 557), (.int (1018) 0), (.int (373) 0), (sv "/claim/cut.py" 1019)]⟩), ⟨[]⟩⟩
noncomputable def o559 (P : Params) : Obj := ⟨(.type "function"), none, (.func (fd (stIn 16 25) "read" "StringIO.read" 3 (.ref 552) .none .none (sv "io" 433) (.ref 558) .none 0)), ⟨[]⟩⟩
noncomputable def o612 (P : Params) : Obj := ⟨(.type "dict"), none, (.dict ⟨[en P "__module__" 810 (sv "_io" 815), en P "__firstlineno__" 814 (.int (227) 813), en P "__init__" 827 (.ref 383), en P "_StringIO__translated" 836 (.ref 390), en P "_StringIO__check" 843 (.ref 397), en P "_StringIO__check_dot" 850 (.ref 404), en P "_StringIO__line" 865 (.ref 411), en P "closed" 873 (.ref 419), en P "line_buffering" 881 (.ref 427), en P "newlines" 889 (.ref 435), en P "encoding" 897 (.ref 443), en P "errors" 905 (.ref 451), en P "close" 912 (.ref 458), en P "__enter__" 919 (.ref 465), en P "__exit__" 927 (.ref 472), en P "readable" 934 (.ref 479), en P "writable" 941 (.ref 486), en P "seekable" 948 (.ref 493), en P "isatty" 955 (.ref 500), en P "flush" 962 (.ref 507), en P "fileno" 969 (.ref 514), en P "detach" 976 (.ref 521), en P "getvalue" 983 (.ref 528), en P "tell" 990 (.ref 535), en P "seek" 1000 (.ref 543), en P "truncate" 1008 (.ref 551), en P "read" 1020 (.ref 559), en P "readline" 1030 (.ref 567), en P "readlines" 1040 (.ref 575), en P "__iter__" 1047 (.ref 582), en P "__next__" 1055 (.ref 589), en P "write" 1067 (.ref 596), en P "writelines" 1075 (.ref 603), en P "__repr__" 1082 (.ref 610), en P "__static_attributes__" 1086 (.ref 611), en P "__doc__" 1087 .none]⟩ 2), ⟨[]⟩⟩
noncomputable def o613 (P : Params) : Obj := ⟨(.type "type"), none, (.cls { name := Str.ofString "StringIO", bases := [(.ref 136)], mro := [(.ref 613), (.ref 136), (.ref 109), (.type "object")], ns := 612, qualname := Str.ofString "StringIO", hasDict := true, slotNames := [], subclasses := [], abstract := false, collection := none, hasDel := false }), ⟨[some (.ref 369), none, some (sv "StringIO" 803), some (sv "StringIO" 811), some .none, some (.bool true)]⟩⟩
noncomputable def o665 (P : Params) : Obj := ⟨(.type "tuple"), none, (.seq ⟨[.none, .none, (.bool false), (.bool false)]⟩ 0), ⟨[]⟩⟩
noncomputable def o671 (P : Params) : Obj := ⟨(.type "code"), none, (.fields ⟨[(sv "__init__" 1162), (sv "shlex.__init__" 1163), (sv "/claim/cut.py" 1164), (.int (498) 0), (.int (5) 0), (.int (0) 0), (.int (0) 0), (.int (3) 0), (.ref 666), (.bool true), (.int (318) 0), (.ref 667), .none, (.ref 668), (.ref 669), (.ref 670), (.int (1171) 0), (.int (498) 0), (sv "/claim/cut.py" 1172)]⟩), ⟨[]⟩⟩
noncomputable def o672 (P : Params) : Obj := ⟨(.type "function"), none, (.func (fd (stIn 25 0) "__init__" "shlex.__init__" 3 (.ref 665) .none .none (sv "cpy313.shlex" 1148) (.ref 671) .none 0)), ⟨[]⟩⟩
noncomputable def o678 (P : Params) : Obj := ⟨(.type "code"), none, (.fields ⟨[(sv "punctuation_chars" 1174), (sv "shlex.punctuation_chars" 1175), (sv "/claim/cut.py" 1176), (.int (539) 0), (.int (1) 0), (.int (0) 0), (.int (0) 0), (.int (3) 0), (.ref 673), (.bool true), (.int (318) 0), (.ref 674), .none, (.ref 675), (.ref 676), (.ref 677), (.int (1178) 0), (.int (539) 0), (sv "/claim/cut.py" 1179)]⟩), ⟨[]⟩⟩
noncomputable def o679 (P : Params) : Obj := ⟨(.type "function"), none, (.func (fd (stIn 25 1) "punctuation_chars" "shlex.punctuation_chars" 3 .none .none .none (sv "cpy313.shlex" 1148) (.ref 678) .none 0)), ⟨[]⟩⟩
noncomputable def o680 (P : Params) : Obj := ⟨(.type "property"), none, (.fields ⟨[(.ref 679), .none, .none, .none, (sv "punctuation_chars" 1181), (.bool false)]⟩), ⟨[]⟩⟩
noncomputable def o708 (P : Params) : Obj := ⟨(.type "code"), none, (.fields ⟨[(sv "get_token" 1206), (sv "shlex.get_token" 1207), (sv "/claim/cut.py" 1208), (.int (566) 0), (.int (1) 0), (.int (0) 0), (.int (0) 0), (.int (3) 0), (.ref 703), (.bool true), (.int (318) 0), (.ref 704), .none, (.ref 705), (.ref 706), (.ref 707), (.int (1215) 0), (.int (566) 0), (sv "/claim/cut.py" 1216)]⟩), ⟨[]⟩⟩
noncomputable def o709 (P : Params) : Obj := ⟨(.type "function"), none, (.func (fd (stIn 25 5) "get_token" "shlex.get_token" 3 .none .none .none (sv "cpy313.shlex" 1148) (.ref 708) .none 0)), ⟨[]⟩⟩
noncomputable def o715 (P : Params) : Obj := ⟨(.type "code"), none, (.fields ⟨[(sv "read_token" 1218), (sv "shlex.read_token" 1219), (sv "/claim/cut.py" 1220), (.int (593) 0), (.int (1) 0), (.int (0) 0), (.int (0) 0), (.int (3) 0), (.ref 710), (.bool true), (.int (318) 0), (.ref 711), .none, (.ref 712), (.ref 713), (.ref 714), (.int (1226) 0), (.int (593) 0), (sv "/claim/cut.py" 1227)]⟩), ⟨[]⟩⟩
noncomputable def o716 (P : Params) : Obj := ⟨(.type "function"), none, (.func (fd (stIn 25 6) "read_token" "shlex.read_token" 3 .none .none .none (sv "cpy313.shlex" 1148) (.ref 715) .none 0)), ⟨[]⟩⟩
noncomputable def o737 (P : Params) : Obj := ⟨(.type "code"), none, (.fields ⟨[(sv "__iter__" 1246), (sv "shlex.__iter__" 1247), (sv "/claim/cut.py" 1248), (.int (740) 0), (.int (1) 0), (.int (0) 0), (.int (0) 0), (.int (3) 0), (.ref 732), (.bool true), (.int (318) 0), (.ref 733), .none, (.ref 734), (.ref 735), (.ref 736), (.int (1250) 0), (.int (740) 0), (sv "/claim/cut.py" 1251)]⟩), ⟨[]⟩⟩
noncomputable def o738 (P : Params) : Obj := ⟨(.type "function"), none, (.func (fd (stIn 25 9) "__iter__" "shlex.__iter__" 3 .none .none .none (sv "cpy313.shlex" 1148) (.ref 737) .none 0)), ⟨[]⟩⟩
noncomputable def o744 (P : Params) : Obj := ⟨(.type "code"), none, (.fields ⟨[(sv "__next__" 1253), (sv "shlex.__next__" 1254), (sv "/claim/cut.py" 1255), (.int (743) 0), (.int (1) 0), (.int (0) 0), (.int (0) 0), (.int (3) 0), (.ref 739), (.bool true), (.int (318) 0), (.ref 740), .none, (.ref 741), (.ref 742), (.ref 743), (.int (1258) 0), (.int (743) 0), (sv "/claim/cut.py" 1259)]⟩), ⟨[]⟩⟩
noncomputable def o745 (P : Params) : Obj := ⟨(.type "function"), none, (.func (fd (stIn 25 10) "__next__" "shlex.__next__" 3 .none .none .none (sv "cpy313.shlex" 1148) (.ref 744) .none 0)), ⟨[]⟩⟩
noncomputable def o747 (P : Params) : Obj := ⟨(.type "dict"), none, (.dict ⟨[en P "__module__" 1157 (sv "cpy313.shlex" 1148), en P "__firstlineno__" 1161 (.int (496) 1160), en P "__init__" 1173 (.ref 672), en P "punctuation_chars" 1181 (.ref 680), en P "push_token" 1189 (.ref 687), en P "push_source" 1198 (.ref 695), en P "pop_source" 1205 (.ref 702), en P "get_token" 1217 (.ref 709), en P "read_token" 1228 (.ref 716), en P "sourcehook" 1236 (.ref 723), en P "error_leader" 1245 (.ref 731), en P "__iter__" 1252 (.ref 738), en P "__next__" 1260 (.ref 745), en P "__static_attributes__" 1281 (.ref 746), en P "__dict__" 1283 (.ref 749), en P "__weakref__" 1285 (.ref 750), en P "__doc__" 1286 .none]⟩ 4), ⟨[]⟩⟩
noncomputable def o748 (P : Params) : Obj := ⟨(.type "type"), none, (.cls { name := Str.ofString "shlex", bases := [(.type "object")], mro := [(.ref 748), (.type "object")], ns := 747, qualname := Str.ofString "shlex", hasDict := true, slotNames := [], subclasses := [], abstract := false, collection := none, hasDel := false }), ⟨[none, none, some (sv "shlex" 1150), some (sv "shlex" 1158), some (.builtin "object.__new__"), some (.bool true)]⟩⟩
noncomputable def o758 (P : Params) : Obj := ⟨(.type "code"), none, (.fields ⟨[(sv "_law_version" 1291), (sv "_law_version" 1292), (sv "/claim/cut.py" 1293), (.int (749) 0), (.int (1) 0), (.int (0) 0), (.int (0) 0), (.int (3) 0), (.ref 753), (.bool true), (.int (318) 0), (.ref 754), .none, (.ref 755), (.ref 756), (.ref 757), (.int (1298) 0), (.int (749) 0), (sv "/claim/cut.py" 1299)]⟩), ⟨[]⟩⟩
noncomputable def o759 (P : Params) : Obj := ⟨(.type "function"), none, (.func (fd (stAt 27) "_law_version" "_law_version" 3 .none .none .none (sv "law_ox0114_01" 1289) (.ref 758) .none 0)), ⟨[]⟩⟩
noncomputable def o765 (P : Params) : Obj := ⟨(.type "code"), none, (.fields ⟨[(sv "_law_tokens" 1301), (sv "_law_tokens" 1302), (sv "/claim/cut.py" 1303), (.int (764) 0), (.int (2) 0), (.int (0) 0), (.int (0) 0), (.int (3) 0), (.ref 760), (.bool true), (.int (318) 0), (.ref 761), .none, (.ref 762), (.ref 763), (.ref 764), (.int (1307) 0), (.int (764) 0), (sv "/claim/cut.py" 1308)]⟩), ⟨[]⟩⟩
noncomputable def o766 (P : Params) : Obj := ⟨(.type "function"), none, (.func (fd (stAt 28) "_law_tokens" "_law_tokens" 3 .none .none .none (sv "law_ox0114_01" 1289) (.ref 765) .none 0)), ⟨[]⟩⟩
noncomputable def o772 (P : Params) : Obj := ⟨(.type "code"), none, (.fields ⟨[(sv "_law_runs" 1310), (sv "_law_runs" 1311), (sv "/claim/cut.py" 1312), (.int (772) 0), (.int (1) 0), (.int (0) 0), (.int (0) 0), (.int (3) 0), (.ref 767), (.bool true), (.int (318) 0), (.ref 768), .none, (.ref 769), (.ref 770), (.ref 771), (.int (1318) 0), (.int (772) 0), (sv "/claim/cut.py" 1319)]⟩), ⟨[]⟩⟩
noncomputable def o773 (P : Params) : Obj := ⟨(.type "function"), none, (.func (fd (stAt 29) "_law_runs" "_law_runs" 3 .none .none .none (sv "law_ox0114_01" 1289) (.ref 772) .none 0)), ⟨[]⟩⟩
noncomputable def o779 (P : Params) : Obj := ⟨(.type "code"), none, (.fields ⟨[(sv "_law_number" 1321), (sv "_law_number" 1322), (sv "/claim/cut.py" 1323), (.int (783) 0), (.int (1) 0), (.int (0) 0), (.int (0) 0), (.int (3) 0), (.ref 774), (.bool true), (.int (318) 0), (.ref 775), .none, (.ref 776), (.ref 777), (.ref 778), (.int (1327) 0), (.int (783) 0), (sv "/claim/cut.py" 1328)]⟩), ⟨[]⟩⟩
noncomputable def o780 (P : Params) : Obj := ⟨(.type "function"), none, (.func (fd (stAt 30) "_law_number" "_law_number" 3 .none .none .none (sv "law_ox0114_01" 1289) (.ref 779) .none 0)), ⟨[]⟩⟩
noncomputable def o786 (P : Params) : Obj := ⟨(.type "code"), none, (.fields ⟨[(sv "_law_told" 1330), (sv "_law_told" 1331), (sv "/claim/cut.py" 1332), (.int (788) 0), (.int (1) 0), (.int (0) 0), (.int (0) 0), (.int (3) 0), (.ref 781), (.bool true), (.int (318) 0), (.ref 782), .none, (.ref 783), (.ref 784), (.ref 785), (.int (1337) 0), (.int (788) 0), (sv "/claim/cut.py" 1338)]⟩), ⟨[]⟩⟩
noncomputable def o787 (P : Params) : Obj := ⟨(.type "function"), none, (.func (fd (stAt 31) "_law_told" "_law_told" 3 .none .none .none (sv "law_ox0114_01" 1289) (.ref 786) .none 0)), ⟨[]⟩⟩
noncomputable def o791 (P : Params) : Obj := ⟨(.type "code"), none, (.fields ⟨[(sv "_law_short" 1340), (sv "_law_short" 1341), (sv "/claim/cut.py" 1342), (.int (799) 0), (.int (1) 0), (.int (0) 0), (.int (0) 0), (.int (3) 0), (.ref 788), (.bool true), (.int (318) 0), (.ref 789), .none, .none, .none, (.ref 790), (.int (1343) 0), (.int (799) 0), (sv "/claim/cut.py" 1344)]⟩), ⟨[]⟩⟩
noncomputable def o792 (P : Params) : Obj := ⟨(.type "function"), none, (.func (fd (stAt 32) "_law_short" "_law_short" 3 .none .none .none (sv "law_ox0114_01" 1289) (.ref 791) .none 0)), ⟨[]⟩⟩
noncomputable def o796 (P : Params) : Obj := ⟨(.type "code"), none, (.fields ⟨[(sv "_law_all_short" 1346), (sv "_law_all_short" 1347), (sv "/claim/cut.py" 1348), (.int (803) 0), (.int (1) 0), (.int (0) 0), (.int (0) 0), (.int (3) 0), (.ref 793), (.bool true), (.int (318) 0), (.ref 794), .none, .none, .none, (.ref 795), (.int (1349) 0), (.int (803) 0), (sv "/claim/cut.py" 1350)]⟩), ⟨[]⟩⟩
noncomputable def o797 (P : Params) : Obj := ⟨(.type "function"), none, (.func (fd (stAt 33) "_law_all_short" "_law_all_short" 3 .none .none .none (sv "law_ox0114_01" 1289) (.ref 796) .none 0)), ⟨[]⟩⟩
noncomputable def o801 (P : Params) : Obj := ⟨(.type "code"), none, (.fields ⟨[(sv "law" 1352), (sv "law" 1353), (sv "/claim/cut.py" 1354), (.int (810) 0), (.int (1) 0), (.int (0) 0), (.int (0) 0), (.int (3) 0), (.ref 798), (.bool true), (.int (318) 0), (.ref 799), .none, .none, .none, (.ref 800), (.int (1355) 0), (.int (810) 0), (sv "/claim/cut.py" 1356)]⟩), ⟨[]⟩⟩
noncomputable def o802 (P : Params) : Obj := ⟨(.type "function"), none, (.func (fd (stAt 34) "law" "law" 3 .none .none .none (sv "law_ox0114_01" 1289) (.ref 801) .none 0)), ⟨[]⟩⟩

/- the run of the top over a tree of objects -/
noncomputable def topRunG (st : SharedT → Thread → Option (SharedT × Thread)) (n₀ : Nat) (ann : Option Value) : Nat → SharedT → Thread → Option SharedT
  | 0, _, _ => none
  | n + 1, s, t => match through t with
    | true => some s
    | false => match stepOk n₀ ann t with
      | false => none
      | true => match st s t with
        | some (s', t') => topRunG st n₀ ann n s' t'
        | none => none
theorem topRunG_spec {tb : String → Option Builtin} {p : Program} {w : World} {n₀ : Nat} {ann : Option Value} : ∀ {n : Nat} {s s' : SharedT} {t : Thread},
    topRunG (stepT (denote tb) p w) n₀ ann n s t = some s' → topRun tb p w n₀ ann n s.abs t = some s'.abs
  | 0, _, _, _, h => by cases h
  | n + 1, s, s', t, h => by
    unfold topRunG at h
    unfold topRun
    cases ht : through t with
    | true => rw [ht] at h; cases h; rfl
    | false =>
      rw [ht] at h
      cases hk : stepOk n₀ ann t with
      | false => rw [hk] at h; cases h
      | true =>
        rw [hk] at h
        cases hs : stepT (denote tb) p w s t with
        | none => rw [hs] at h; cases h
        | some r => obtain ⟨s₂, t₂⟩ := r; rw [hs] at h; rw [stepT_spec hs]; exact topRunG_spec h
noncomputable def layBT : List Obj → Nat → BT → Option BT
  | [], _, t => some t
  | o :: r, n, t => match ((t.ins n o).get n).isSome with
    | true => layBT r (n + 1) (t.ins n o)
    | false => none
theorem layBT_spec {life : Life} : ∀ {l : List Obj} {n : Nat} {t t' : BT}, layBT l n t = some t' → absHeap t' (n + l.length) life = ⟨(absHeap t n life).objs ++ l.toArray, life⟩
  | [], n, t, t', h => by cases h; simp [absHeap]
  | o :: r, n, t, t', h => by
    unfold layBT at h
    cases e : ((t.ins n o).get n).isSome with
    | false => rw [e] at h; cases h
    | true =>
      rw [e] at h
      have q := layBT_spec (life := life) h
      rw [absHeap_ins e] at q
      rw [show n + (o :: r).length = n + 1 + r.length by simp; omega, q]
      show Heap.mk ((absHeap t n life).objs.push o ++ r.toArray) life = Heap.mk ((absHeap t n life).objs ++ (o :: r).toArray) life
      congr 1
      apply Array.ext'
      simp
noncomputable def headT (en : Option Shared) (st : SharedT → Thread → Option (SharedT × Thread)) (p : Program) (N : Nat) : Option (Shared × SharedT) :=
  en.bind fun s₀ => match s₀.heap.isNs mainGlobals && s₀.gens.size == 0 with
    | true => (layBT s₀.heap.objs.toList 0 .nil).bind fun T =>
        (topRunG st s₀.heap.objs.size (s₀.heap.nsMap mainGlobals "__annotations__") N ⟨T, s₀.heap.objs.toList.length, s₀.heap.life, s₀.gens, s₀.drawn, s₀.toks, s₀.os⟩ (topStub p)).map fun s₁ => (s₀, s₁)
    | false => none
theorem headT_spec {p : Program} {w : World} {N : Nat} {s₀ : Shared} {s₁ : SharedT} (h : headT (fencedOpening treeTable p w N) (stepT (denote treeTable) p w) p N = some (s₀, s₁)) :
    fencedOpening treeTable p w N = some s₀ ∧ (s₀.heap.isNs mainGlobals && s₀.gens.size == 0) = true ∧ topRun treeTable p w s₀.heap.objs.size (s₀.heap.nsMap mainGlobals "__annotations__") N s₀ (topStub p) = some s₁.abs := by
  obtain ⟨s, e, h⟩ := Option.bind_eq_some_iff.mp h
  cases q : (s.heap.isNs mainGlobals && s.gens.size == 0) with
  | false => rw [q] at h; cases h
  | true =>
    rw [q] at h
    obtain ⟨T, hT, h⟩ := Option.bind_eq_some_iff.mp h
    obtain ⟨s', hs, h⟩ := Option.map_eq_some_iff.mp h
    cases h
    refine ⟨e, q, ?_⟩
    have r := topRunG_spec hs
    have a : (⟨T, s₀.heap.objs.toList.length, s₀.heap.life, s₀.gens, s₀.drawn, s₀.toks, s₀.os⟩ : SharedT).abs = s₀ := by
      have z := layBT_spec (life := s₀.heap.life) hT
      rw [Nat.zero_add] at z
      show (⟨absHeap T s₀.heap.objs.toList.length s₀.heap.life, s₀.gens, s₀.drawn, s₀.toks, s₀.os⟩ : Shared) = s₀
      rw [z]
      obtain ⟨⟨objs, life⟩, gens, drawn, toks, os⟩ := s₀
      simp [absHeap, BT.list]
    rw [a] at r
    exact r
theorem left_of {p q : Program} {loose : List Str} {Xt : Shared → Bool} {α : Type} {Yf : Shared → α} {Ya : World → α} {N : Nat} {g0 : Bool}
    (h : ∀ w : World, (headT (fencedOpening treeTable p w N) (stepT (denote treeTable) p w) p N).map (fun x =>
      ((staticsOk (importedModules p.main.body) x.1.heap x.2.abs.heap && namesBound p x.2.abs.heap && gensDone x.2.abs && laidKept x.1.heap x.2.abs.heap),
        openSeen q loose (importedModules p.main.body) Xt g0 x.2.abs, Yf x.2.abs)) = some (true, openGood q loose, Ya w)) : LeftO p q loose Xt Yf Ya N g0 := fun w => by
  obtain ⟨⟨s₀, s₁⟩, e, e'⟩ := Option.map_eq_some_iff.mp (h w)
  obtain ⟨h1, h2, h3⟩ := headT_spec e
  obtain ⟨l1, l2, l3⟩ : _ ∧ _ ∧ _ := by simpa only [Prod.mk.injEq] using e'
  have t : topFrom treeTable p w N s₀ = some s₁.abs := by
    unfold topFrom
    rw [h2, h3]
    show (match staticsOk (importedModules p.main.body) s₀.heap s₁.abs.heap && namesBound p s₁.abs.heap && gensDone s₁.abs && laidKept s₀.heap s₁.abs.heap with | true => _ | false => _) = _
    rw [l1]
  unfold openEnds
  rw [h1]
  show (topFrom treeTable p w N _).map _ = _
  rw [t]
  exact congrArg some (Prod.ext l2 l3)
theorem left_row {P : World → Prop} (row : String) (f : ∀ w : World, P (w.withFollow row false)) (t : ∀ w : World, P (w.withFollow row true)) : ∀ w, P w := fun w => by
  have e := World.withFollow_self w row
  cases hb : w.params.followText row <;> rw [hb] at e
  · rw [← e]; exact f w
  · rw [← e]; exact t w

noncomputable def q1 : Program := view pw [34]
noncomputable def loose1 : List Str := ["_sre", "deque", "_wall", "_twin_re_1", "_ver_stages", "_comparable_version", "_norm_version", "_whence", "_index", "UnsupportedOperation", "IOBase", "BufferedIOBase", "TextIOBase", "BytesIO", "StringIO", "_kind", "_fspath", "_check_arg_types", "isabs", "join", "dirname", "shlex", "_law_version", "_law_tokens", "_law_runs", "_law_number", "_law_told", "_law_short", "_law_all_short"]
noncomputable def asK : List Addr := [0, 2, 3, 48, 49, 50, 56, 57, 58, 64, 65, 78, 79, 105, 106, 108, 109, 110, 135, 136, 366, 376, 382, 383, 389, 390, 396, 397, 552, 558, 559, 612, 613, 665, 671, 672, 678, 679, 680, 708, 709, 715, 716, 737, 738, 744, 745, 747, 748, 758, 759, 765, 766, 772, 773, 779, 780, 786, 787, 791, 792, 796, 797, 801, 802]
noncomputable def K1 (P : Params) : Frag := [(nat_lit 0, o0 P), (nat_lit 2, o2 P), (nat_lit 3, o3 P), (nat_lit 48, o48 P), (nat_lit 49, o49 P), (nat_lit 50, o50 P), (nat_lit 56, o56 P), (nat_lit 57, o57 P), (nat_lit 58, o58 P), (nat_lit 64, o64 P), (nat_lit 65, o65 P), (nat_lit 78, o78 P), (nat_lit 79, o79 P), (nat_lit 105, o105 P), (nat_lit 106, o106 P), (nat_lit 108, o108 P), (nat_lit 109, o109 P), (nat_lit 110, o110 P), (nat_lit 135, o135 P), (nat_lit 136, o136 P), (nat_lit 366, o366 P), (nat_lit 376, o376 P), (nat_lit 382, o382 P), (nat_lit 383, o383 P), (nat_lit 389, o389 P), (nat_lit 390, o390 P), (nat_lit 396, o396 P), (nat_lit 397, o397 P), (nat_lit 552, o552 P), (nat_lit 558, o558 P), (nat_lit 559, o559 P), (nat_lit 612, o612 P), (nat_lit 613, o613 P), (nat_lit 665, o665 P), (nat_lit 671, o671 P), (nat_lit 672, o672 P), (nat_lit 678, o678 P), (nat_lit 679, o679 P), (nat_lit 680, o680 P), (nat_lit 708, o708 P), (nat_lit 709, o709 P), (nat_lit 715, o715 P), (nat_lit 716, o716 P), (nat_lit 737, o737 P), (nat_lit 738, o738 P), (nat_lit 744, o744 P), (nat_lit 745, o745 P), (nat_lit 747, o747 P), (nat_lit 748, o748 P), (nat_lit 758, o758 P), (nat_lit 759, o759 P), (nat_lit 765, o765 P), (nat_lit 766, o766 P), (nat_lit 772, o772 P), (nat_lit 773, o773 P), (nat_lit 779, o779 P), (nat_lit 780, o780 P), (nat_lit 786, o786 P), (nat_lit 787, o787 P), (nat_lit 791, o791 P), (nat_lit 792, o792 P), (nat_lit 796, o796 P), (nat_lit 797, o797 P), (nat_lit 801, o801 P), (nat_lit 802, o802 P)]

theorem stepQ (w : World) : stepT (denote treeTable) pw w = PySem.W.Fast.tw10156331382660048174 (PySem.W.Fast.tw11892475500146522536 PySem.W.Fast.tw14364793385576792824) pw w := by
  rw [PySem.W.Fast.te10156331382660048174, PySem.W.Fast.te11892475500146522536, PySem.W.Fast.te14364793385576792824]
theorem openQ (w : World) (N : Nat) : fencedOpening treeTable pw w N = (PySem.W.Fast.tw10274390034422433532 PySem.W.Fast.tw14364793385576792824 (opening pw) w N (start (opening pw)).1 (start (opening pw)).2).bind (fenceModules? pw) := by
  unfold fencedOpening
  rw [PySem.W.Fast.te10274390034422433532, PySem.W.Fast.te14364793385576792824]
set_option maxHeartbeats 0 in
theorem leftF (w : World) : (headT (fencedOpening treeTable pw (w.withFollow "special-get-raises" false) 10000) (stepT (denote treeTable) pw (w.withFollow "special-get-raises" false)) pw 10000).map (fun x =>
      ((staticsOk (importedModules pw.main.body) x.1.heap x.2.abs.heap && namesBound pw x.2.abs.heap && gensDone x.2.abs && laidKept x.1.heap x.2.abs.heap),
        openSeen q1 loose1 (importedModules pw.main.body) (fun _ => true) true x.2.abs, obsZ asK x.2.abs)) = some (true, openGood q1 loose1, valZ K1 803 1358 (w.withFollow "special-get-raises" false)) := by
  rw [openQ, stepQ]
  kernel_rfl
end Mine
end
section
open PySem PySem.W PySem.W.X PyProof.Rows
set_option maxRecDepth 100000
namespace Mine
set_option maxHeartbeats 0 in
theorem leftT (w : World) : (headT (fencedOpening treeTable pw (w.withFollow "special-get-raises" true) 10000) (stepT (denote treeTable) pw (w.withFollow "special-get-raises" true)) pw 10000).map (fun x =>
      ((staticsOk (importedModules pw.main.body) x.1.heap x.2.abs.heap && namesBound pw x.2.abs.heap && gensDone x.2.abs && laidKept x.1.heap x.2.abs.heap),
        openSeen q1 loose1 (importedModules pw.main.body) (fun _ => true) true x.2.abs, obsZ asK x.2.abs)) = some (true, openGood q1 loose1, valZ K1 803 1358 (w.withFollow "special-get-raises" true)) := by
  rw [openQ, stepQ]
  kernel_rfl
theorem left1 : LeftO pw q1 loose1 (fun _ => true) (obsZ asK) (valZ K1 803 1358) 10000 true :=
  left_of (left_row (P := fun w => (headT (fencedOpening treeTable pw w 10000) (stepT (denote treeTable) pw w) pw 10000).map (fun x =>
      ((staticsOk (importedModules pw.main.body) x.1.heap x.2.abs.heap && namesBound pw x.2.abs.heap && gensDone x.2.abs && laidKept x.1.heap x.2.abs.heap),
        openSeen q1 loose1 (importedModules pw.main.body) (fun _ => true) true x.2.abs, obsZ asK x.2.abs)) = some (true, openGood q1 loose1, valZ K1 803 1358 w)) "special-get-raises" leftF leftT)
end Mine
end
section
open PySem PySem.W PySem.W.X PyProof.Rows
set_option maxRecDepth 100000
set_option maxHeartbeats 0
namespace Mine
theorem said0 : PySem.Challenge.rw_ox0114_01.wellSaid = true := by
  rw [PySem.W.Fast.te9446332074065402090]
  unfold PySem.W.Fast.tw9446332074065402090
  with_reducible repeat' (refine Bool.and_eq_true_iff.mpr ⟨?_, ?_⟩)
  all_goals (try unfold PySem.W.Fast.tw17960256430627541270)
  with_reducible repeat' (refine Bool.and_eq_true_iff.mpr ⟨?_, ?_⟩)
  all_goals (try unfold PySem.W.Fast.tw2436336058641802641)
  with_reducible repeat' (refine Bool.and_eq_true_iff.mpr ⟨?_, ?_⟩)
  all_goals (try unfold PySem.W.Fast.tw12908688711261696721)
  with_reducible repeat' (refine Bool.and_eq_true_iff.mpr ⟨?_, ?_⟩)
  all_goals decide +kernel
end Mine
end
section
open PySem PySem.W PySem.W.X PyProof.Rows PySem.Calls
set_option maxRecDepth 100000
namespace Mine
noncomputable def K2 (P : Params) : Frag := (nat_lit 0, o0 P) :: (nat_lit 2, o2 P) :: (nat_lit 3, o3 P) :: (nat_lit 48, o48 P) :: (nat_lit 49, o49 P) :: (nat_lit 50, o50 P) :: (nat_lit 56, o56 P) :: (nat_lit 57, o57 P) :: (nat_lit 58, o58 P) :: (nat_lit 64, o64 P) :: (nat_lit 65, o65 P) :: (nat_lit 78, o78 P) :: (nat_lit 79, o79 P) :: (nat_lit 105, o105 P) :: (nat_lit 106, o106 P) :: (nat_lit 108, o108 P) :: (nat_lit 109, o109 P) :: (nat_lit 110, o110 P) :: (nat_lit 135, o135 P) :: (nat_lit 136, o136 P) :: (nat_lit 366, o366 P) :: (nat_lit 376, o376 P) :: (nat_lit 382, o382 P) :: (nat_lit 383, o383 P) :: (nat_lit 389, o389 P) :: (nat_lit 390, o390 P) :: (nat_lit 396, o396 P) :: (nat_lit 397, o397 P) :: (nat_lit 552, o552 P) :: (nat_lit 558, o558 P) :: (nat_lit 559, o559 P) :: (nat_lit 612, o612 P) :: (nat_lit 613, o613 P) :: (nat_lit 665, o665 P) :: (nat_lit 671, o671 P) :: (nat_lit 672, o672 P) :: (nat_lit 678, o678 P) :: (nat_lit 679, o679 P) :: (nat_lit 680, o680 P) :: (nat_lit 708, o708 P) :: (nat_lit 709, o709 P) :: (nat_lit 715, o715 P) :: (nat_lit 716, o716 P) :: (nat_lit 737, o737 P) :: (nat_lit 738, o738 P) :: (nat_lit 744, o744 P) :: (nat_lit 745, o745 P) :: (nat_lit 747, o747 P) :: (nat_lit 748, o748 P) :: (nat_lit 758, o758 P) :: (nat_lit 759, o759 P) :: (nat_lit 765, o765 P) :: (nat_lit 766, o766 P) :: (nat_lit 772, o772 P) :: (nat_lit 773, o773 P) :: (nat_lit 779, o779 P) :: (nat_lit 780, o780 P) :: (nat_lit 786, o786 P) :: (nat_lit 787, o787 P) :: (nat_lit 791, o791 P) :: (nat_lit 792, o792 P) :: (nat_lit 796, o796 P) :: (nat_lit 797, o797 P) :: (nat_lit 801, o801 P) :: (nat_lit 802, o802 P) :: []
/-- the same without the interpreter's statics, which a refusal may mark -/
noncomputable def K3 (P : Params) : Frag := (nat_lit 0, o0 P) :: (nat_lit 3, o3 P) :: (nat_lit 48, o48 P) :: (nat_lit 49, o49 P) :: (nat_lit 50, o50 P) :: (nat_lit 56, o56 P) :: (nat_lit 57, o57 P) :: (nat_lit 58, o58 P) :: (nat_lit 64, o64 P) :: (nat_lit 65, o65 P) :: (nat_lit 78, o78 P) :: (nat_lit 79, o79 P) :: (nat_lit 105, o105 P) :: (nat_lit 106, o106 P) :: (nat_lit 108, o108 P) :: (nat_lit 109, o109 P) :: (nat_lit 110, o110 P) :: (nat_lit 135, o135 P) :: (nat_lit 136, o136 P) :: (nat_lit 366, o366 P) :: (nat_lit 376, o376 P) :: (nat_lit 382, o382 P) :: (nat_lit 383, o383 P) :: (nat_lit 389, o389 P) :: (nat_lit 390, o390 P) :: (nat_lit 396, o396 P) :: (nat_lit 397, o397 P) :: (nat_lit 552, o552 P) :: (nat_lit 558, o558 P) :: (nat_lit 559, o559 P) :: (nat_lit 612, o612 P) :: (nat_lit 613, o613 P) :: (nat_lit 665, o665 P) :: (nat_lit 671, o671 P) :: (nat_lit 672, o672 P) :: (nat_lit 678, o678 P) :: (nat_lit 679, o679 P) :: (nat_lit 680, o680 P) :: (nat_lit 708, o708 P) :: (nat_lit 709, o709 P) :: (nat_lit 715, o715 P) :: (nat_lit 716, o716 P) :: (nat_lit 737, o737 P) :: (nat_lit 738, o738 P) :: (nat_lit 744, o744 P) :: (nat_lit 745, o745 P) :: (nat_lit 747, o747 P) :: (nat_lit 748, o748 P) :: (nat_lit 758, o758 P) :: (nat_lit 759, o759 P) :: (nat_lit 765, o765 P) :: (nat_lit 766, o766 P) :: (nat_lit 772, o772 P) :: (nat_lit 773, o773 P) :: (nat_lit 779, o779 P) :: (nat_lit 780, o780 P) :: (nat_lit 786, o786 P) :: (nat_lit 787, o787 P) :: (nat_lit 791, o791 P) :: (nat_lit 792, o792 P) :: (nat_lit 796, o796 P) :: (nat_lit 797, o797 P) :: (nat_lit 801, o801 P) :: (nat_lit 802, o802 P) :: []
theorem K3_sub {P : Params} {h : Heap} (X : (K2 P).In h) : (K3 P).In h := by
  intro a o e
  refine X a o ?_
  obtain ⟨R, hR⟩ : ∃ R, R = (K3 P).tail := ⟨_, rfl⟩
  have e1 : K2 P = (0, o0 P) :: (2, o2 P) :: R := by rw [hR]; rfl
  have e2 : K3 P = (0, o0 P) :: R := by rw [hR]; rfl
  by_cases h2 : a = 2
  · subst h2
    have : (K3 P).lookup 2 = none := rfl
    rw [this] at e
    cases e
  · rw [e2, List.lookup_cons] at e
    rw [e1, List.lookup_cons, List.lookup_cons]
    have : (a == 2) = false := by simpa using h2
    rw [this]
    exact e
/-- a call's surroundings: nothing handled, so deep, these frames -/
noncomputable abbrev actx (dp un : Nat) (gd : Option (List Code)) (outer : List Env) : Around := { handled := none, depth := dp, frames := some outer, guards := gd, units := un }

/-- entering a def of the text: all that stands is the base, which the call leaves as it is -/
theorem enterP {w : World} {K : Frag} {A : Around} {base : Heap} {outer : List Env} {s : Shared} {mean : ExcName → Option Value} {mg mb : Str → Option Value} {f : Addr} {args : Args} {binds : List (Str × Value)}
    {name qual : Str} {params : Arguments} {body : List Stmt} {scope : Scope} {dV kV doc pm cdv ct oc : Value} {an od : Option Addr} {osl : Array (Option Value)} {Q E : Value → Shared → Prop}
    (B : Below A base outer s.heap) (X : K.In s.heap) (T : Top q1 loose1 mean mg mb s.heap)
    (ho : K.lookup f = some ⟨oc, od, .func (fnOf name qual params body scope dV kV doc pm an cdv ct), osl⟩) (hcd : codeIn K cdv qual = true) (hroom : A.depth < recursionLimit)
    (hbind : BindsTo s (fnOf name qual params body scope dV kV doc pm an cdv ct) args binds) (hloc : ∀ y ∈ binds, scope.names.lookup y.1 = some .local)
    (h : ∀ g L h₁, g = s.heap → Fr g L h₁ (fun y => binds.reverse.lookup y) → News g L h₁ [] → Below A base outer g → K.In g → Top q1 loose1 mean mg mb g →
      wpAny (model pw w) (A.deeper (envOf qual scope L f cdv)) (execs body (envOf qual scope L f cdv)) (fun fl s' => Q (match fl with | .ret v => v | _ => .none) s')
        (fun e s' => wpAny (model pw w) (A.deeper (envOf qual scope L f cdv)) (leaving (envOf qual scope L f cdv) e) (fun _ s'' => E e s'') (fun e' s'' => E e' s'') s')
        { s with heap := h₁, toks := s.toks + binds.length })
    (hco : scope.isCoroutine = false) (hgen : scope.isGenerator = false) (hk : scope.kind = .function) (hcell : ∀ x ∈ scope.names, x.2 ≠ .cell) :
    wpAny (model pw w) A (PySem.call (.ref f) args.pos args.kw) Q E s := by
  refine wpAny_call (codeAny_call_def (fd := fnOf name qual params body scope dV kV doc pm an cdv ct) (body := body) (binds := binds) hroom (X _ _ ho) rfl T.nolimit (codeRec_of X hcd) rfl hbind hcell hloc (fun h₁ hns hk₁ => ?_) hco hgen hk)
  exact h s.heap s.heap.objs.size h₁ rfl ⟨hns, hk₁, Nat.le_refl _⟩ News.nil B X T
end Mine
end
section
open PySem PySem.W PySem.W.X PyProof.Rows PySem.Calls
open Sem (wp)
set_option maxRecDepth 100000
set_option maxHeartbeats 4000000
namespace Mine
/-- in the contexts of a kind -/
noncomputable def wpOn (P : Ctx → Prop) {α : Type} (M : Model) (A : Around) (t : Sem α) (Q : α → Shared → Prop) (E : Value → Shared → Prop) (s : Shared) : Prop :=
  ∀ Γ p, P Γ → Γ.In A → wp M Γ t (fun a _ s' => Q a s') (fun e _ s' => E e s') p s
noncomputable def codeOn (P : Ctx → Prop) (M : Model) (A : Around) (c : Code) (R : Result → Shared → Prop) (s : Shared) : Prop :=
  ∀ Γ p, P Γ → Γ.code = c → Γ.Below A → wpCode M Γ R p s
section
variable {P P' : Ctx → Prop} {α β : Type} {M : Model} {A : Around} {E : Value → Shared → Prop} {s : Shared} {R : Result → Shared → Prop} {c : Code}
theorem on_any {t : Sem α} {Q : α → Shared → Prop} (h : wpAny M A t Q E s) : wpOn P M A t Q E s := fun Γ p _ hΓ => h Γ p hΓ
theorem on_mono {t : Sem α} {Q Q' : α → Shared → Prop} {E' : Value → Shared → Prop} (h : wpOn P M A t Q E s) (hQ : ∀ a s, Q a s → Q' a s) (hE : ∀ e s, E e s → E' e s) : wpOn P M A t Q' E' s :=
  fun Γ p hP hΓ => Sem.wp_mono M Γ t (fun a _ s => hQ a s) (fun e _ s => hE e s) p s (h Γ p hP hΓ)
theorem on_bind {m : Sem α} {f : α → Sem β} {Q : β → Shared → Prop} (h : wpOn P M A m (fun a s' => wpOn P M A (f a) Q E s') E s) : wpOn P M A (m >>= f) Q E s := fun Γ p hP hΓ => by
  rw [Sem.wp_bind']
  exact Sem.wp_mono M Γ m (fun a p' s' h' => h' Γ p' hP hΓ) (fun _ _ _ h' => h') p s (h Γ p hP hΓ)
theorem on_pure {a : α} {Q : α → Shared → Prop} (h : Q a s) : wpOn P M A (pure a) Q E s := fun _ _ _ _ => h
theorem on_onRaise {m : Sem α} {k : Value → Sem Unit} {Q : α → Shared → Prop} (h : wpOn P M A m Q (fun e s' => wpOn P M A (k e) (fun _ s'' => E e s'') E s') s) : wpOn P M A (m.onRaise k) Q E s := fun Γ p hP hΓ => by
  rw [Sem.wp_onRaise]
  exact Sem.wp_mono M Γ m (fun _ _ _ h' => h') (fun e p' s' h' => h' Γ p' hP hΓ) p s (h Γ p hP hΓ)
theorem on_attempt {m : Sem α} {Q : Except Value α → Shared → Prop} (h : wpOn P M A m (fun a => Q (.ok a)) (fun e => Q (.error e)) s) : wpOn P M A m.attempt Q E s := fun Γ p hP hΓ => by
  rw [Sem.wp_attempt]
  exact h Γ p hP hΓ
theorem on_holding {vs : List Value} {m : Sem α} {Q : α → Shared → Prop} (h : wpOn P M A m Q E s) : wpOn P M A (holding vs m) Q E s := fun Γ p hP hΓ => by
  rw [Sem.wp_holding]
  exact h Γ p hP hΓ
theorem on_standAt {pos : Pos} {Q : Unit → Shared → Prop} (h : Q () s) : wpOn P M A (standAt pos) Q E s := fun _ _ _ _ => h
theorem on_stack {Q : List (Code × Pos) → Shared → Prop} (h : ∀ Γ p, P Γ → Γ.In A → Q ((Γ.code, p) :: Γ.below) s) : wpOn P M A stack Q E s := fun Γ p hP hΓ => h Γ p hP hΓ
theorem codeOn_any (h : codeAny M A c R s) : codeOn P M A c R s := fun Γ p _ hc hΓ => h Γ p hc hΓ
theorem on_run {h : Option Value} {Q : Flow → Shared → Prop} (hen : ∀ Γ p, P Γ → P' (Γ.enter c h p))
    (hc : codeOn P' M (A.mark h) c (fun r s' => match r with | .ok f => Q f s' | .error e => E e s') s) (hnb : h ≠ some byPass := by intro x; cases x) : wpOn P M A (run c h) Q E s :=
  fun Γ p hP hΓ => by
  rw [Sem.wp_run]
  exact hc _ p (hen Γ p hP) rfl (hΓ.enter c h p hnb)
theorem on_runValue {Q : Value → Shared → Prop} (hen : ∀ Γ p, P Γ → P' (Γ.enter c none p))
    (hc : codeOn P' M A c (fun r s' => match r with | .ok (.ret v) => Q v s' | .ok _ => False | .error e => E e s') s) : wpOn P M A (runValue c) Q E s := fun Γ p hP hΓ => by
  rw [Sem.wp_runValue]
  exact hc _ p (hen Γ p hP) rfl (hΓ.enter c none p (by intro x; cases x))
theorem on_call {f : Value} {pos : List Value} {kw : List (Str × Value)} {Q : Value → Shared → Prop} (hen : ∀ Γ p, P Γ → P' (Γ.enter (.call f ⟨pos, kw⟩) none p))
    (hc : codeOn P' M A (.call f ⟨pos, kw⟩) (fun r s' => match r with | .ok (.ret v) => Q v s' | .ok _ => False | .error e => E e s') s) : wpOn P M A (call f pos kw) Q E s := on_runValue hen hc
theorem codeOn_of_tree
    (h : wpOn P M (A.under c) (M.den c) (fun fin s' => match fin with | .done f => R (.ok f) s' | .again c' => c'.quiet = true ∧ ∃ P', (∀ Γ, P Γ → P' (Γ.goto c')) ∧ codeOn P' M A c' R s') (fun e s' => R (.error e) s') s) : codeOn P M A c R s := fun Γ p hP hc hΓ => by
  rw [wpCode_iff_wp, hc]
  refine Sem.wp_mono M Γ _ (fun fin p' s' h' => ?_) (fun _ _ _ h' => h') p s (h Γ p hP (hc ▸ hΓ.in))
  cases fin with
  | done f => exact h'
  | again c' =>
    obtain ⟨hq, P', hgo, hc'⟩ := h'
    exact ⟨hq, hc' (Γ.goto c') p' (hgo Γ hP) rfl (hΓ.goto c')⟩
theorem codeOn_loop (hgo : ∀ Γ, P Γ → P (Γ.goto c)) (hq : c.quiet = true) (I : Nat → Shared → Prop)
    (turn : ∀ n s, I n s → wpOn P M (A.under c) (M.den c)
      (fun fin s' => match fin with | .done f => R (.ok f) s' | .again c' => (c' = c ∧ ∃ m, m < n ∧ I m s') ∨ (c'.quiet = true ∧ ∃ P', (∀ Γ, P Γ → P' (Γ.goto c')) ∧ codeOn P' M A c' R s')) (fun e s' => R (.error e) s') s)
    (n : Nat) (h : I n s) : codeOn P M A c R s := by
  induction n using Nat.strongRecOn generalizing s with
  | ind n ih =>
    refine codeOn_of_tree (on_mono (turn n s h) (fun fin s' hf => ?_) fun _ _ h' => h')
    cases fin with
    | done f => exact hf
    | again c' =>
      rcases hf with ⟨rfl, m, hm, hI⟩ | hf
      · exact ⟨hq, P, hgo, ih m hm hI⟩
      · exact hf
end
section
variable {P : Ctx → Prop} {prog : Program} {w : World} {A : Around} {E : Value → Shared → Prop} {s : Shared} {R : Result → Shared → Prop}
noncomputable def PostOn (P : Ctx → Prop) (M : Model) (A : Around) (R : Result → Shared → Prop) (fin : Fin) (s' : Shared) : Prop :=
  match fin with | .done f => R (.ok f) s' | .again c' => c'.quiet = true ∧ ∃ P', (∀ Γ, P Γ → P' (Γ.goto c')) ∧ codeOn P' M A c' R s'
theorem codeOn_builtin {id : String} {args : Args} {b : Builtin} (hb : entryFor table id = some b)
    (h : wpOn P (model prog w) (A.under (.builtin id args)) (b args) (PostOn P (model prog w) A R) (fun e s' => R (.error e) s') s) : codeOn P (model prog w) A (.builtin id args) R s := by
  refine codeOn_of_tree ?_
  show wpOn _ _ _ (match entryFor table id with | some b => b args | none => unsupported ((withoutEnding? id "#data").getD id)) _ _ s
  rw [hb]
  exact h
theorem codeOn_call_builtin {id : String} {args : Args} (hq : (Code.builtin id args).quiet = true) (hc : checkBuiltinCall id args = pure ()) (hgo : ∀ Γ, P Γ → P (Γ.goto (.builtin id args)))
    (h : codeOn P (model prog w) A (.builtin id args) R s) : codeOn P (model prog w) A (.call (.builtin id) args) R s := by
  refine codeOn_of_tree ?_
  show wpOn _ _ A.in1 (do checkBuiltinCall id args; again (.builtin id args)) _ _ s
  rw [hc]
  exact on_bind (on_pure (on_pure ⟨hq, P, hgo, h⟩))
end
/-- the claim's caller stands below -/
noncomputable def HasC (Γ : Ctx) : Prop := Γ.below.any (fun x => x.1.isCaller) = true
theorem HasC.enter {Γ : Ctx} {c : Code} {h : Option Value} {p : Pos} (x : HasC Γ) : HasC (Γ.enter c h p) := by
  show List.any ((Γ.code, p) :: Γ.below) _ = true
  rw [List.any_cons, x, Bool.or_true]
theorem HasC.goto {Γ : Ctx} {c : Code} (x : HasC Γ) : HasC (Γ.goto c) := x
theorem HasC.first {Γ : Ctx} {c : Code} {h : Option Value} {p : Pos} (x : Γ.code.isCaller = true) : HasC (Γ.enter c h p) := by
  show List.any ((Γ.code, p) :: Γ.below) _ = true
  rw [List.any_cons, x, Bool.true_or]
end Mine
end
section
open PySem PySem.W PySem.W.X PyProof.Rows PySem.Calls
set_option maxRecDepth 100000
namespace Mine
/-- the first context of a claim's thread -/
noncomputable def IsC (Γ : Ctx) : Prop := Γ.code.isCaller = true
theorem thread_on {prog : Program} {w : World} {t : Sem Fin} {s : Shared} {R : Result → Shared → Prop} (hreg : s.asleep)
    (h : wpOn IsC (model prog w) callerA t (fun fin s' => ∃ f, fin = .done f ∧ (R (.ok f) s' ∧ leftWithCleanup s'.gens = false)) (fun e s' => R (.error e) s' ∧ leftWithCleanup s'.gens = false) s) :
    ∃ n r s' s'', runN (denote table) prog w n s ⟨t, .builtin "claim.caller" {}, default, []⟩ = .halted (outcomeOf r) s' ∧
      schedN (denote table) prog w n (.single s ⟨t, .builtin "claim.caller" {}, default, []⟩) = .halted (outcomeOf r) s' ∧ s'.forget = s''.forget ∧ R r s'' := by
  obtain ⟨n, r, s₁, s₂, hs, hn, hfo, hR⟩ := wp_halts_full (M := model prog w) (R := R) hreg (Sem.wp_mono (model prog w) _ t (fun fin p' s' h' => by
    obtain ⟨f, rfl, hf⟩ := h'
    exact hf) (fun _ _ _ h' => h') default s (h ⟨.builtin "claim.caller" {}, none, none, [], none⟩ default rfl caller_in))
  exact ⟨n, r, s₂, s₁, hn, hs, hfo, hR⟩
theorem callFrom_on {c : ClaimW} {tree : List Value → Sem Fin} {w : World} {s : Shared} {free : Addr → Prop} {gens : Prop} {kept : Heap → Prop} (hz : s.asleep) (hgens : s.gens = #[])
    (hspec : ∀ args, c.pre args = true → WData.layableAll args = true →
      ∀ ord : List DictEntry → List DictEntry, (∀ l, (ord l).Perm l) →
      ∃ vs s₁, layAllW c.records (classAt s.heap) w.params ord args s = some (vs, s₁) ∧
        wpOn IsC (model c.prog w) callerA (tree vs) (fun fin s' => ∃ f, fin = .done f ∧ (c.Ends s args vs s₁ (.ok f) s' ∧ s'.os = s.os ∧ AllBare s'.gens ∧ kept s'.heap))
          (fun e s' => c.Ends s args vs s₁ (.error e) s' ∧ s'.os = s.os ∧ AllBare s'.gens ∧ kept s'.heap) s₁) :
    c.CallFrom (fun vs => ⟨tree vs, .builtin "claim.caller" {}, default, []⟩) w free gens kept s := by
  intro args hpre hlay ord hord
  obtain ⟨vs, s₁, hlaid, hcode⟩ := hspec args hpre hlay ord hord
  have hal := layAllW_rest _ _ _ hlaid
  obtain ⟨k, r, s', s'', hrun, hsched, hfo, hcase, hos, hkp⟩ := thread_on (prog := c.prog) (w := w) (t := tree vs) (s := s₁)
    (R := fun r s' => c.Ends s args vs s₁ r s' ∧ s'.os = s.os ∧ kept s'.heap) (Shared.asleep_of_life hal.2.2.2 hz)
    (on_mono hcode (by
      rintro fin s' ⟨f, e, h1, h2, h3, h4⟩
      exact ⟨f, e, ⟨h1, h2, h4⟩, leftWithCleanup_false_of_bare h3⟩) (by
      rintro e s' ⟨h1, h2, h3, h4⟩
      exact ⟨⟨h1, h2, h4⟩, leftWithCleanup_false_of_bare h3⟩))
  obtain ⟨eh, _, _, eo, _⟩ := Shared.forget_eq hfo
  have hcase := hcase.congr eh
  have hkp : kept s'.heap := by first | exact eh ▸ hkp | (rw [eh] at hkp; exact hkp) | (rw [← eh] at hkp; exact hkp)
  rw [← eo] at hos
  have hlife : s'.heap.life = s.heap.life := (runN_life _ _ _ hrun).trans hal.2.2.2
  refine ⟨vs, s₁, hlaid, k, _, s', hsched, ?_, (fun _ i x hx => by rw [hgens] at hx; simp at hx), hkp, by rw [hlife], Shared.rest_eq hos⟩
  rcases hcase with ⟨v, rfl, d1, d2, d3, d4, d5⟩ | ⟨e, ob, cls, rfl, d1, d2, d3, d4, d5⟩
  · exact .inl ⟨v, rfl, d1, d2, d3, fun b o y _ => d4 b o y, d5⟩
  · exact .inr ⟨e, ob, cls, rfl, d1, d2, d3, d4, fun b o y _ => d5 b o y⟩
/-- what the walk has to show, where the claim's caller is the code at hand -/
noncomputable abbrev WalkOn (q : Program) (loose : List Str) (XP : (Str → Option Value) → Heap → Prop) {α : Type} (Yf : Shared → α) (Ya : World → α) (r : RowW) : Prop :=
  ∀ (w : World) (s₀ s₁ : Shared) (mg mb : Str → Option Value), Ground q loose r.records XP w s₀ mg mb s₁.heap → Yf s₀ = Ya w → ∀ (args : List WData) (vals : List Value) (as : List Addr), s₁.gens = #[] → r.claim.pre args = true → WData.layableAll args = true → Laid r.records w s₀ s₁ args vals as →
    ∃ f, mg r.name = some f ∧ wpOn IsC (model r.prog w) callerA (PySem.call f vals) (fun v s' => GoodWG r.claim (classAt s₀.heap) (ExcName.means s₀.heap) args s₁ (.ok (.ret v)) s')
      (fun e s' => GoodWG r.claim (classAt s₀.heap) (ExcName.means s₀.heap) args s₁ (.error e) s') s₁
theorem holds_on {r : OpenRow} {q : Program} {loose : List Str} {Xt : Shared → Bool} {XP : (Str → Option Value) → Heap → Prop} {α : Type} {Yf : Shared → α} {Ya : World → α} {d : DefRec} {kwd : List (Str × PySem.Expr)} {N : Nat}
    (left : LeftO r.prog q loose Xt Yf Ya N)
    (hX : ∀ s, Xt s = true → XP (s.heap.nsMap mainGlobals) s.heap) (hXk : ∀ mg h h', XP mg h → (∀ b o, h.get? b = some o → h'.get? b = some o) → XP mg h')
    (hdef : defOf q r.name = some (d, kwd)) (hp : r.prog.theDef r.name = some (d.params, d.body, d.scope)) (hk : kwWritten? d.params.kwonlyargs d.params.kw_defaults = some kwd) (hRf : ∀ s, Xt s = true → RecFacts r.records s.heap) (hwr : (!r.writes || r.records.isEmpty) = true)
    (k1 : r.wellSaid = true) (ok : (chainsOk q && opensWell r.prog && (frees r.toRowW && r.within.isEmpty)) = true) (hb : r.prog.bare) (hw : r.toRowW.promised)
    (call : WalkOn q loose XP Yf Ya r.toRowW) : r.Holds := by
  refine ⟨k1, hw, ?_⟩
  obtain ⟨ok, k5⟩ := Bool.and_eq_true_iff.mp ok
  obtain ⟨hch, o1⟩ := Bool.and_eq_true_iff.mp ok
  obtain ⟨k5, k6⟩ := Bool.and_eq_true_iff.mp k5
  obtain ⟨hsame, hu, ha, hap, hm⟩ := frees_parts k5
  refine ⟨⟨hb, o1, by show r.toRowW.makers.map _ = []; rw [hm]; rfl⟩, hw.witness, fun w => ⟨(left.behind hX hch w).1, fun s' hs' => ?_⟩⟩
  obtain ⟨s₀, hf, hg0, s, hT, hz, hgens, hg, G00, y⟩ := (left.behind (XP := fun mg h => XP mg h ∧ RecFacts r.records h) (fun s hs => ⟨hX s hs, hRf s hs⟩) hch w).2 s' hs'
  have G0 : Ground q loose [] XP w s (s.heap.nsMap mainGlobals) (s.heap.nsMap builtinsNs) s.heap := ⟨G00.T, G00.B, G00.D, G00.TE, G00.TD, G00.W, G00.X.1, G00.cls, G00.has, G00.apart, G00.once, G00.K⟩
  have RF := G00.X.2
  have hT' := hT
  refine ⟨s₀, hf, hg0, s, hT, fun n hn => ?_, RF.1, RF.2.1, ?_⟩
  · obtain rfl : n = r.name := by split at hn <;> simp_all
    exact pinned_of_view hg G0 hdef hp hk
  have hgens : s.gens = #[] := Array.eq_empty_of_size_eq_zero (beq_iff_eq.mp hgens)
  have G : Ground q loose r.records XP w s _ _ s.heap := RF.ground G0
  refine callFrom_on (c := r.toRowW.claim) hz hgens fun args hpre hlay ord hord => ?_
  obtain ⟨⟨vs, s₁⟩, hlaid⟩ := Option.isSome_iff_exists.mp (layAllW_isSome (P := w.params) (ord := ord) G.has args r.args s (pre_splitW hpre).1)
  have keeps := layAllW_keeps _ _ _ hlaid
  have hal := layAllW_rest _ _ _ hlaid
  obtain ⟨as, hrd, hin, hold⟩ := reads_layAllW hord _ _ _ hlaid hlay s₁.heap (fun _ _ e => e)
  have L : Laid r.records w s s₁ args vs as := ⟨⟨ord, hord, hlaid⟩, hrd, hin, hold, keeps, hal.1.trans hgens, hal.2.2.1⟩
  have G₁ := G.keeps hXk keeps
  obtain ⟨f, hf, h⟩ := call w s s₁ _ _ G₁ y args vs as L.gens hpre hlay L
  have hi := ident_freeW hu ha hap
  have hwi : r.toRowW.claim.within = [] := List.isEmpty_iff.mp k6
  refine ⟨vs, s₁, hlaid, ?_⟩
  refine on_bind (on_any (wpAny_nsGet G₁.T.g ?_))
  rw [hf]
  refine on_bind (on_mono h (fun v s' g => on_pure ⟨_, rfl, ?_⟩) fun e s' g => ?_)
  · have z := g.laid (c := r.toRowW.claim) hsame hwi hi L
    exact ⟨z.1, z.2.1, z.2.2, fun q => ⟨namesKept_of hT' hg _ keeps g.2.1.old, noTable hwr q⟩⟩
  · have z := g.laid (c := r.toRowW.claim) hsame hwi hi L
    exact ⟨z.1, z.2.1, z.2.2, fun q => ⟨namesKept_of hT' hg _ keeps g.2.1.old, noTable hwr q⟩⟩
end Mine
end
section
open PySem PySem.W PySem.W.X PyProof.Rows PySem.Calls
set_option maxRecDepth 100000
namespace Mine
/-- entering a def of the text: the objects of the ledger may change, all else stays -/
theorem enterM {w : World} {K : Frag} {A : Around} {base : Heap} {outer : List Env} {s : Shared} {mean : ExcName → Option Value} {mg mb : Str → Option Value} {f : Addr} {args : Args} {binds : List (Str × Value)}
    {name qual : Str} {params : Arguments} {body : List Stmt} {scope : Scope} {dV kV doc pm cdv ct oc : Value} {an od : Option Addr} {osl : Array (Option Value)} {R : Result → Shared → Prop} {g : Heap} {led : List (Addr × Obj)}
    (hg : g = hideAll s.heap (led.map (·.1))) (hl : ∀ p ∈ led, s.heap.get? p.1 = some p.2) (B : Below A base outer g) (X : K.In g) (T : Top q1 loose1 mean mg mb g)
    (ho : K.lookup f = some ⟨oc, od, .func (fnOf name qual params body scope dV kV doc pm an cdv ct), osl⟩) (hcd : codeIn K cdv qual = true) (hroom : A.depth < recursionLimit)
    (hbind : BindsTo s (fnOf name qual params body scope dV kV doc pm an cdv ct) args binds) (hloc : ∀ y ∈ binds, scope.names.lookup y.1 = some .local)
    (h : ∀ L h₁, Fr g L h₁ (fun y => binds.reverse.lookup y) → News g L h₁ led → 
      wpAny (model pw w) (A.deeper (envOf qual scope L f cdv)) (execs body (envOf qual scope L f cdv)) (fun fl s' => R (.ok (.ret (match fl with | .ret v => v | _ => .none))) s')
        (fun e s' => wpAny (model pw w) (A.deeper (envOf qual scope L f cdv)) (leaving (envOf qual scope L f cdv) e) (fun _ s'' => R (.error e) s'') (fun e' s'' => R (.error e') s'') s')
        { s with heap := h₁, toks := s.toks + binds.length })
    (hco : scope.isCoroutine = false) (hgen : scope.isGenerator = false) (hk : scope.kind = .function) (hcell : ∀ x ∈ scope.names, x.2 ≠ .cell) :
    codeAny (model pw w) A (.call (.ref f) args) R s := by
  subst hg
  have up : ∀ b o, (hideAll s.heap (led.map (·.1))).get? b = some o → s.heap.get? b = some o := fun b o e => of_hideAll _ e
  refine codeAny_call_def (fd := fnOf name qual params body scope dV kV doc pm an cdv ct) (body := body) (binds := binds) hroom (X.keeps up _ _ ho) rfl (T.nolimit.keeps up) (codeRec_of (X.keeps up) hcd) rfl hbind hcell hloc (fun h₁ hns hk₁ => ?_) hco hgen hk
  exact h s.heap.objs.size h₁ ⟨hns, fun b o e => hk₁ b o (up b o e), Nat.le_of_eq (hideAll_size _ _)⟩
    (fun p hp => ⟨hk₁ _ _ (hl p hp), Nat.ne_of_lt (Heap.lt_size (hl p hp)), hideAll_none _ (List.mem_map_of_mem hp)⟩)
/-- at the place of a call: what the callee is given, and what is had back -/
theorem siteM {K : Frag} {A A₀ : Around} {base h₀ : Heap} {outer : List Env} {env : Env} {L : Addr} {m : Str → Option Value} {s : Shared} {led rest : List (Addr × Obj)} {mean : ExcName → Option Value} {mg mb : Str → Option Value}
    (B : Below A₀ base outer h₀) (F : Fr h₀ L s.heap m) (N : News h₀ L s.heap (led ++ rest)) (X : K.In h₀) (T : Top q1 loose1 mean mg mb h₀) (hA : A.frames = some (env :: outer)) (hf : env.frame = some L) (hke : env.scope.kind = .function)
    (hap : ∀ p ∈ rest, p.1 ∉ led.map (·.1)) :
    Below A base (env :: outer) (hideAll s.heap (led.map (·.1))) ∧ K.In (hideAll s.heap (led.map (·.1))) ∧ Top q1 loose1 mean mg mb (hideAll s.heap (led.map (·.1))) ∧ (∀ p ∈ led, s.heap.get? p.1 = some p.2) ∧
    (∀ h' led', (∀ b o, (hideAll s.heap (led.map (·.1))).get? b = some o → h'.get? b = some o) → (∀ p ∈ led', h'.get? p.1 = some p.2 ∧ (hideAll s.heap (led.map (·.1))).get? p.1 = none) → Fr h₀ L h' m ∧ News h₀ L h' (led' ++ rest)) := by
  have nm : ∀ b o, h₀.get? b = some o → b ∉ led.map (·.1) := fun b o e q => by
    obtain ⟨p, hp, rfl⟩ := List.mem_map.mp q
    rw [(N p (List.mem_append_left _ hp)).2.2] at e; cases e
  have st : h₀.StaysIn (hideAll s.heap (led.map (·.1))) := fun b o e => hideAll_get _ (F.keep b o e) (nm b o e)
  obtain ⟨oL, es, ep, hL, hLd, hLk, hLf⟩ := F.ns
  have nL : L ∉ led.map (·.1) := fun q => by
    obtain ⟨p, hp, e⟩ := List.mem_map.mp q
    exact (N p (List.mem_append_left _ hp)).2.1 e
  have hLg := hideAll_get (led.map (·.1)) hL nL
  have hnew : base.get? L = none := by
    cases hq : base.get? L with
    | none => rfl
    | some o => exact absurd (Nat.lt_of_lt_of_le (Heap.lt_size (B.stays L o hq)) F.above) (Nat.lt_irrefl _)
  refine ⟨⟨hA, fun b o e => st b o (B.stays b o e), ?_⟩, X.keeps st, T.keeps st, fun p hp => (N p (List.mem_append_left _ hp)).1, fun h' led' hk hl' => ⟨⟨⟨oL, es, ep, hk _ _ hLg, hLd, hLk, hLf⟩, fun b o e => hk _ _ (st b o e), F.above⟩, fun p hp => ?_⟩⟩
  · exact .cons (by rw [hke]; decide) hf ⟨oL, es, ep, hLg, hLd, hLk, hLf⟩ hnew (B.frames.of_keeps fun b o e _ => ⟨o, st b o e, rfl⟩)
  · rcases List.mem_append.mp hp with q | q
    · refine ⟨(hl' p q).1, fun z => ?_, ?_⟩
      · have := (hl' p q).2; rw [z, hLg] at this; cases this
      · cases e : h₀.get? p.1 with
        | none => rfl
        | some o => have := (hl' p q).2; rw [st _ _ e] at this; cases this
    · have P := N p (List.mem_append_right _ q)
      exact ⟨hk _ _ (hideAll_get _ P.1 (hap p q)), P.2⟩
end Mine
end
local macro_rules | `(tactic| k_room) => `(tactic| ((try simp only [PyProof.Rows.depth_under_make, PySem.W.depth_under_kw, PySem.W.depth_in1, PyProof.Rows.depth_deeper, PyProof.Rows.depth_caller]); (try dsimp only); omega))
section
open PySem PySem.W PySem.W.X PyProof.Rows PySem.Calls
set_option maxRecDepth 100000
set_option maxHeartbeats 8000000
namespace Mine
noncomputable def kent (P : Params) (n : Str) (t : Tok) (v : Value) : DictEntry := ⟨PyData.keyHash P n, .str n t, v⟩
/-- the dict of a text stream -/
noncomputable abbrev sioD (P : Params) (k1 k2 k3 t1 t2 t3 : Tok) (buf : Str) (pos : Int) : Obj :=
  dictOf [⟨PyData.keyHash P (Str.ofString "_StringIO__newline"), .str (Str.ofString "_StringIO__newline") k1, .str (Str.ofString "\n") t1⟩, ⟨PyData.keyHash P (Str.ofString "_StringIO__buf"), .str (Str.ofString "_StringIO__buf") k2, .str buf t2⟩, ⟨PyData.keyHash P (Str.ofString "_StringIO__pos"), .str (Str.ofString "_StringIO__pos") k3, .int pos t3⟩] 3
theorem slice_one {x : Str} {p c : Nat} {j : Int} (hj : j = (p : Int) + 1) (hc : x.cps.toList[p]? = some c) : Txt.slice x (some (p : Int)) (some j) = ⟨#[c]⟩ := by
  subst hj
  have hp : p < x.length := by
    have := (List.getElem?_eq_some_iff.mp hc).1
    simpa [Str.length] using this
  have e := PySem.StrLaws.sliceText_nat x (a := p) (b := p + 1) (by omega) (by omega)
  have e2 : (x.cps.toList.drop p).take (p + 1 - p) = [c] := by
    rw [Nat.add_sub_cancel_left, List.take_one, List.head?_drop, hc]; rfl
  rw [e2] at e
  exact e
/-- what a read of one sign gives -/
noncomputable def readAt (buf : Str) (pos : Nat) (x : Str) (pos' : Nat) : Prop := (∃ c, buf.cps.toList[pos]? = some c ∧ x = ⟨#[c]⟩ ∧ pos' = pos + 1) ∨ (buf.cps.toList[pos]? = none ∧ x = Str.ofString "" ∧ pos' = pos)
theorem read_done {w : World} {g : Heap} {s : Shared} {Q : Value → Shared → Prop} {y dy L' : Addr} {k1 k2 k3 t1 t2 t3' ts : Tok} {buf x : Str} {pos pos' tk' : Nat} {pi : Int} {h' : Heap} {m' : Str → Option Value}
    (hret : ∀ x ts pos' t3' h' tk', readAt buf pos x pos' → (∀ b o, g.get? b = some o → h'.get? b = some o) → (∀ p ∈ [(y, instObj 613 dy), (dy, sioD w.params k1 k2 k3 t1 t2 t3' buf pos')], h'.get? p.1 = some p.2 ∧ g.get? p.1 = none) → Q (.str x ts) { s with heap := h', toks := tk' })
    (F : Fr g L' h' m') (N : News g L' h' [(y, instObj 613 dy), (dy, sioD w.params k1 k2 k3 t1 t2 t3' buf pi)]) (hp : pi = (pos' : Int)) (hr : readAt buf pos x pos') : Q (.str x ts) { s with heap := h', toks := tk' } := by
  subst hp
  exact hret _ _ _ _ _ _ hr F.keep fun p hp => ⟨(N p hp).1, (N p hp).2.2⟩
theorem readAt_none {buf : Str} {pos : Nat} (h : (buf.length : Int) ≤ (pos : Int)) : readAt buf pos (Str.ofString "") pos := by
  refine .inr ⟨?_, rfl, rfl⟩
  have := h
  rw [List.getElem?_eq_none_iff]
  simp only [Str.length] at this
  simp
  omega
theorem readAt_some {buf : Str} {pos : Nat} {j : Int} (h : pos < buf.length) (hj : j = (pos : Int) + 1) : readAt buf pos (Txt.slice buf (some (pos : Int)) (some j)) (pos + 1) := by
  have e : ∃ c, buf.cps.toList[pos]? = some c := by
    simp only [Str.length] at h
    exact ⟨buf.cps[pos], by simp [h]⟩
  obtain ⟨c, hc⟩ := e
  exact .inl ⟨c, hc, slice_one hj hc, rfl⟩
theorem read_spec {w : World} {mean : ExcName → Option Value} {mg mb : Str → Option Value} {dp un : Nat} {gd : Option (List Code)} {outer : List Env} {base g : Heap} {s : Shared} {Q E : Value → Shared → Prop} {y dy : Addr} {k1 k2 k3 t1 t2 t3 ti : Tok} {buf : Str} {pos : Nat}
    (hg : g = hideAll s.heap [y, dy]) (hl : ∀ p ∈ [(y, instObj 613 dy), (dy, sioD w.params k1 k2 k3 t1 t2 t3 buf pos)], s.heap.get? p.1 = some p.2)
    (B : Below (actx dp un gd outer) base outer g) (X : (K2 w.params).In g) (T : Top q1 loose1 mean mg mb g) (hd : dp + 20 < recursionLimit) (hu : un + 200 < cLine) (hlen : buf.length ≤ 100) (hne : dy < y)
    (hret : ∀ x ts pos' t3' h' tk', readAt buf pos x pos' → (∀ b o, g.get? b = some o → h'.get? b = some o) → (∀ p ∈ [(y, instObj 613 dy), (dy, sioD w.params k1 k2 k3 t1 t2 t3' buf pos')], h'.get? p.1 = some p.2 ∧ g.get? p.1 = none) → Q (.str x ts) { s with heap := h', toks := tk' }) :
    wpAny (model pw w) (actx dp un gd outer) (call (.ref 559) [.ref y, .int 1 ti]) Q E s := by
  have hfill : PySem.Challenge.rw_ox0114_01 = PySem.Challenge.rw_ox0114_01 ∧ K2 = K2 := by
    k_fill
    exact ⟨rfl, rfl⟩
  clear hfill
  replace hne := ltN hne
  refine wpAny_call ?_
  k_dflt (refine' enterM (led := [(y, instObj 613 dy), (dy, sioD w.params k1 k2 k3 t1 t2 t3 buf pos)]) (binds := [(Str.ofString "self", .ref y), (Str.ofString "size", .int 1 ti)]) hg hl B X T ?k6 ?k7 ?k8 ?k9 ?kB ?_ ?c2 ?c3 ?c4 ?c5; (case k6 => k_is); (case k7 => k_is); (case k8 => (dsimp only; omega)); (case k9 => exact kp_binds (X.keeps fun b o e => of_hideAll _ (hg ▸ e)) (fun _ => by rfl)); (case c5 => decide); (case kB => exact locs rfl); (case c2 => exact rfl); (case c3 => exact rfl); (case c4 => exact rfl); k_whole)
  intro L' h' F' N'
  (try dsimp only); (try k_fold)
  k_steps
  · exact read_done hret (by assumption) (by assumption) rfl (readAt_none (by assumption))
  · refine read_done hret (by assumption) (by assumption) (by omega) (readAt_some ?_ rfl)
    omega
  · refine read_done hret (by assumption) (by assumption) (pos' := pos + 1) (by omega) (readAt_some ?_ ?_)
    · omega
    · omega
end Mine
end
section
open PySem PySem.W PySem.W.X PyProof.Rows PySem.Calls Builtin
set_option maxRecDepth 100000
set_option maxHeartbeats 4000000
namespace Mine
namespace DF
theorem pa : PlainAttrs "collections.deque" :=
  ⟨⟨"collections.deque.__getattribute__", by rw [typeLookup_type, builtinLookup_eq_fast]; kernel_rfl, by decide +kernel⟩, by rw [typeLookup_type, builtinLookup_eq_fast]; kernel_rfl⟩
theorem s_init : Slot "collections.deque" "__init__" "collections.deque.__init__" :=
  .of (owner := "collections.deque") (n := "__init__") (by rw [typeLookup_type, builtinLookup_eq_fast]; kernel_rfl) (by decide +kernel) (by decide +kernel) (by decide +kernel)
    (by first | exact .inl (by decide +kernel) | exact .inr (by decide +kernel)) (by rw [isSubtype_type]; kernel_rfl)
theorem s_len : Slot "collections.deque" "__len__" "collections.deque.__len__" :=
  .of (owner := "collections.deque") (n := "__len__") (by rw [typeLookup_type, builtinLookup_eq_fast]; kernel_rfl) (by decide +kernel) (by decide +kernel) (by decide +kernel)
    (by first | exact .inl (by decide +kernel) | exact .inr (by decide +kernel)) (by rw [isSubtype_type]; kernel_rfl)
theorem s_pop : Slot "collections.deque" "pop" "collections.deque.pop" :=
  .of (owner := "collections.deque") (n := "pop") (by rw [typeLookup_type, builtinLookup_eq_fast]; kernel_rfl) (by decide +kernel) (by decide +kernel) (by decide +kernel)
    (by first | exact .inl (by decide +kernel) | exact .inr (by decide +kernel)) (by rw [isSubtype_type]; kernel_rfl)
theorem s_app : Slot "collections.deque" "append" "collections.deque.append" :=
  .of (owner := "collections.deque") (n := "append") (by rw [typeLookup_type, builtinLookup_eq_fast]; kernel_rfl) (by decide +kernel) (by decide +kernel) (by decide +kernel)
    (by first | exact .inl (by decide +kernel) | exact .inr (by decide +kernel)) (by rw [isSubtype_type]; kernel_rfl)
theorem e_init : entryFor table "collections.deque.__init__" = some Builtin.«collections.deque.__init__» := entryFor_of_tree (by kernel_rfl)
theorem e_new : entryFor table "collections.deque.__new__" = some Builtin.«collections.deque.__new__» := entryFor_of_tree (by kernel_rfl)
theorem e_len : entryFor table "collections.deque.__len__" = some Builtin.«collections.deque.__len__» := entryFor_of_tree (by kernel_rfl)
theorem e_pop : entryFor table "collections.deque.pop" = some Builtin.«collections.deque.pop» := entryFor_of_tree (by kernel_rfl)
theorem e_app : entryFor table "collections.deque.append" = some Builtin.«collections.deque.append» := entryFor_of_tree (by kernel_rfl)
theorem mro : mroOf (.type "collections.deque") = pure [.type "collections.deque", .type "object"] := by rw [mroOf_type]; kernel_rfl
theorem look_new : typeLookup (.type "collections.deque") "__new__" = pure (some (.builtin "collections.deque.__new__")) := by rw [typeLookup_type, builtinLookup_eq_fast]; kernel_rfl
theorem sub : isSubtype (.type "collections.deque") (.type "collections.deque") = pure true := by rw [isSubtype_type]; kernel_rfl
theorem called : TypeCalled "collections.deque" "collections.deque.__new__" "collections.deque.__init__" :=
  ⟨by decide +kernel, by decide +kernel, ⟨_, _, mro⟩, madeBy_type mro look_new (by decide +kernel), by decide +kernel, sub, s_init⟩
theorem check0 : checkTypeCall "collections.deque" ⟨[], []⟩ = pure () := by kernel_rfl
theorem new0 : checkBuiltinCall "collections.deque.__new__" ⟨[.type "collections.deque"], []⟩ = pure () := by kernel_rfl
theorem plain_new : plainId "collections.deque.__new__" = true := by decide +kernel
theorem a_init (a : Value) : argsOk "collections.deque.__init__" ⟨[a], []⟩ := by unfold argsOk; kernel_rfl
theorem a_len (a : Value) : argsOk "collections.deque.__len__" ⟨[a], []⟩ := by unfold argsOk; kernel_rfl
theorem a_pop (a : Value) : argsOk "collections.deque.pop" ⟨[a], []⟩ := by unfold argsOk; kernel_rfl
theorem a_app (a b : Value) : argsOk "collections.deque.append" ⟨[a, b], []⟩ := by unfold argsOk; kernel_rfl
theorem nobool : typeLookup (.type "collections.deque") "__bool__" = pure none := by rw [typeLookup_type, builtinLookup_eq_fast]; kernel_rfl
theorem ty_pop : typeOf (.builtin "collections.deque.pop") = pure (.type "method_descriptor") := by kernel_rfl
theorem ty_app : typeOf (.builtin "collections.deque.append") = pure (.type "method_descriptor") := by kernel_rfl
end DF
end Mine
end
section
open PySem PySem.W PySem.W.X PyProof.Rows PySem.Calls Builtin
set_option maxRecDepth 100000
set_option maxHeartbeats 4000000
namespace Mine
/-- a double-ended queue that holds these values, changed so often -/
noncomputable abbrev dqOf (n : Int) (its : List Value) : Obj := { cls := .type "collections.deque", data := .fields (.none :: .int n 0 :: its).toArray }
theorem ext2 (a b : Value) (l : List Value) : ((a :: b :: l : List Value).toArray.extract 2 (a :: b :: l : List Value).toArray.size) = l.toArray := by simp
section
variable {prog : Program} {w : World} {A : Around} {E : Value → Shared → Prop} {s : Shared} {h₀ : Heap} {L D : Addr} {m : Str → Option Value} {news news' : List (Addr × Obj)} {n : Int} {its : List Value}
theorem dq_method {name : Str} {id : String} {pl : Sem Bool} {Q : Value × List Value → Shared → Prop} (N : News h₀ L s.heap news) (hm : (D, dqOf n its) ∈ news) (slot : Slot "collections.deque" name id) (hty : typeOf (.builtin id) = pure (.type "method_descriptor"))
    (h : Q (.builtin id, [.ref D]) s) : wpAny (model prog w) A (getMethod (.ref D) name pl) Q E s :=
  getMethod_builtin ⟨_, (N _ hm).1, rfl⟩ DF.pa slot hty (fun a e => by cases e; exact ⟨_, (N _ hm).1, rfl⟩) h
theorem dq_truthy {Q : Bool → Shared → Prop} (N : News h₀ L s.heap news) (hm : (D, dqOf n its) ∈ news) (hz : its.length ≤ 100) (h : ∀ tk, Q (!its.isEmpty) { s with toks := tk }) : wpAny (model prog w) A (truthy (.ref D)) Q E s := by
  have hd := (N _ hm).1
  have hT : s.TypeIs (.ref D) "collections.deque" := ⟨_, hd, rfl⟩
  have key : wpAny (model prog w) A (runValue (.builtin "len" ⟨[.ref D], []⟩)) (fun r s' => ∃ t, r = .int its.length t ∧ Q (!its.isEmpty) s') E s := by
    refine wpAny_runValue (codeAny_builtin entry_len ?_)
    rw [Around.under_plainId plain_len _]
    unfold Builtin.«len»
    refine wpAny_bind (m := oneArg "len" _) (wpAny_pure ?_)
    refine wpAny_bind (m := callSpecial? (.ref D) (Str.ofString "__len__")) (wpAny_callSpecial?_slot (name := Str.ofString "__len__") hT DF.s_len (wpAny_call_entry DF.s_len hT DF.e_len ?_ (DF.a_len _)))
    refine wpAny_bind (m := slotArgs _ _ _) (wpAny_pure ?_)
    refine wpAny_bind (m := Deque.size _) (wpAny_bind (m := fieldsOf _) (wpAny_bind (wpAny_load hd (wpAny_pure (wpAny_pure ?_)))))
    have e : (((.none :: .int n 0 :: its : List Value).toArray.size - 2 : Nat) : Int) = (its.length : Int) := by simp
    rw [e]
    refine wpAny_bind (wpAny_mkInt (wpAny_pure ⟨_, rfl, ?_⟩))
    refine wpAny_bind (wpAny_holding (wpAny_pure ?_))
    refine wpAny_bind (wpAny_letGo ?_)
    show wpAny _ _ (if ((its.length : Nat) : Int) < 0 then _ else _) _ _ _
    rw [if_neg (by omega)]
    show wpAny _ _ (if ((its.length : Nat) : Int) ≥ 2 ^ 63 then _ else _) _ _ _
    rw [if_neg (by omega)]
    exact wpAny_bind (wpAny_mkInt (wpAny_pure ⟨_, rfl, h _⟩))
  have hne : ((its.length : Int) != 0) = !its.isEmpty := by cases its <;> simp <;> omega
  unfold truthy
  first
    | refine wpAny_bind (wpAny_callSpecial?_none (name := Str.ofString "__bool__") hT DF.nobool ?_)
    | refine wpAny_bind (wpAny_pure (wpAny_bind (wpAny_callSpecial?_none (name := Str.ofString "__bool__") hT DF.nobool ?_)))
  first
    | refine wpAny_bind (wpAny_specialOf (name := Str.ofString "__len__") hT DF.s_len.lookup ?_)
    | refine wpAny_bind (wpAny_pure (wpAny_bind (wpAny_specialOf (name := Str.ofString "__len__") hT DF.s_len.lookup ?_)))
  first
    | exact wpAny_bind (wpAny_mono key (fun r s' h' => by obtain ⟨t, rfl, hq⟩ := h'; exact wpAny_pure (hne ▸ hq)) fun _ _ e => e)
    | exact wpAny_bind (wpAny_pure (wpAny_bind (wpAny_mono key (fun r s' h' => by obtain ⟨t, rfl, hq⟩ := h'; exact wpAny_pure (hne ▸ hq)) fun _ _ e => e)))
theorem dq_pop {Q : Value → Shared → Prop} {y : Value} (F : Fr h₀ L s.heap m) (N : News h₀ L s.heap news) (U : Upd D (dqOf n (its ++ [y])) (dqOf (n + 1) its) news news') (hz : its.length ≤ 100)
    (h : ∀ h', Fr h₀ L h' m → News h₀ L h' news' → Q y { s with heap := h' }) : wpAny (model prog w) A (call (.builtin "collections.deque.pop") [.ref D]) Q E s := by
  obtain ⟨pre, post, rfl, rfl, a, b⟩ := U.split
  have z := N (D, dqOf n (its ++ [y])) (List.mem_append.mpr (.inr (.head _)))
  have hT : s.TypeIs (.ref D) "collections.deque" := ⟨_, z.1, rfl⟩
  refine wpAny_call_entry DF.s_pop hT DF.e_pop ?_ (DF.a_pop _)
  have U1 := news_upd (f := Obj.mapFields fun vs => #[vs.getD 0 .none, rawInt (n + 1)] ++ (vs.extract 2 vs.size).pop) F N a b (o' := dqOf (n + 1) its) (by show ({ cls := _, data := _ } : Obj) = _; dsimp only; rw [ext2]; simp [rawInt]) rfl
  have U2 := (U1.2 (D, dqOf (n + 1) its) (List.mem_append.mpr (.inr (.head _)))).1
  refine wpAny_bind (m := selfOnly _ _) (wpAny_pure ?_)
  refine wpAny_bind (m := Deque.items _) (wpAny_bind (wpAny_bind (wpAny_load z.1 (wpAny_pure (wpAny_pure ?_)))))
  have e : ((.none :: .int n 0 :: (its ++ [y]) : List Value).toArray.extract 2 (.none :: .int n 0 :: (its ++ [y]) : List Value).toArray.size).back? = some y := by rw [ext2]; simp
  rw [e]
  refine wpAny_bind (m := Deque.change _ _ _) (wpAny_bind (m := Deque.state _) (wpAny_bind (m := field _ _) (wpAny_bind (m := fieldsOf _) (wpAny_bind (wpAny_load z.1 (wpAny_pure (wpAny_pure (wpAny_pure ?_))))))))
  refine wpAny_bind (wpAny_load z.1 ?_)
  refine wpAny_bind (wpAny_update z.1 ?_)
  refine wpAny_lookBehind U2 (pastItsLine_fields ?_) (wpAny_pure ⟨_, rfl, h _ U1.1 U1.2⟩)
  rw [sizeLine_eq]; simp; omega
theorem dq_append {Q : Value → Shared → Prop} {y : Value} (F : Fr h₀ L s.heap m) (N : News h₀ L s.heap news) (U : Upd D (dqOf n its) (dqOf (n + 1) (its ++ [y])) news news') (hz : its.length ≤ 100)
    (h : ∀ h', Fr h₀ L h' m → News h₀ L h' news' → Q .none { s with heap := h' }) : wpAny (model prog w) A (call (.builtin "collections.deque.append") [.ref D, y]) Q E s := by
  obtain ⟨pre, post, rfl, rfl, a, b⟩ := U.split
  have z := N (D, dqOf n its) (List.mem_append.mpr (.inr (.head _)))
  have hT : s.TypeIs (.ref D) "collections.deque" := ⟨_, z.1, rfl⟩
  refine wpAny_call_entry DF.s_app hT DF.e_app ?_ (DF.a_app _ _)
  have U1 := news_upd (f := Obj.mapFields fun vs => #[vs.getD 0 .none, rawInt (n + 1)] ++ (vs.extract 2 vs.size).push y) F N a b (o' := dqOf (n + 1) (its ++ [y])) (by show ({ cls := _, data := _ } : Obj) = _; dsimp only; rw [ext2]; simp [rawInt]) rfl
  have U2 := (U1.2 (D, dqOf (n + 1) (its ++ [y])) (List.mem_append.mpr (.inr (.head _)))).1
  refine wpAny_bind (m := selfAndOne _ _) (wpAny_pure ?_)
  refine wpAny_bind (m := Deque.pushRight _ _) (wpAny_bind (m := Deque.change _ _ _) (wpAny_bind (m := Deque.state _) (wpAny_bind (m := field _ _) (wpAny_bind (m := fieldsOf _) (wpAny_bind (wpAny_load z.1 (wpAny_pure (wpAny_pure (wpAny_pure ?_)))))))))
  refine wpAny_bind (wpAny_load z.1 ?_)
  refine wpAny_bind (wpAny_update z.1 ?_)
  refine wpAny_lookBehind U2 (pastItsLine_fields ?_) ?_
  · rw [sizeLine_eq]; simp; omega
  refine wpAny_bind (m := Deque.maxlen _) (wpAny_bind (m := field _ _) (wpAny_bind (m := fieldsOf _) (wpAny_bind (wpAny_load U2 (wpAny_pure (wpAny_pure (wpAny_pure ?_)))))))
  exact wpAny_pure (wpAny_pure ⟨_, rfl, h _ U1.1 U1.2⟩)
theorem dq_new {Q : Value → Shared → Prop} (F : Fr h₀ L s.heap m) (N : News h₀ L s.heap news)
    (h : ∀ D h', Fr h₀ L h' m → News h₀ L h' ((D, dqOf 0 []) :: news) → (∀ p ∈ news, p.1 < D) → Q (.ref D) { s with heap := h' }) : wpAny (model prog w) A (call (.type "collections.deque") []) Q E s := by
  refine callType_codes (Q₁ := fun obj s₁ => obj = .ref s.heap.objs.size ∧ s₁ = { s with heap := s.heap.push (dqOf 0 []) }) DF.called DF.check0 DF.e_init ?_ fun obj s₁ h₁ => ?_
  · refine codeAny_of_tree ?_
    show wpAny _ A.in1.in1 (do checkBuiltinCall "collections.deque.__new__" ⟨[.type "collections.deque"], []⟩; again (.builtin "collections.deque.__new__" ⟨[.type "collections.deque"], []⟩)) _ _ s
    refine wpAny_bind (wpAny_of_eq DF.new0 (wpAny_pure ⟨plainId_quiet DF.plain_new _, codeAny_builtin DF.e_new ?_⟩))
    rw [Around.under_plainId DF.plain_new _]
    have e : Builtin.«collections.deque.__new__» ⟨[.type "collections.deque"], []⟩ = (alloc (dqOf 0 []) >>= fun a => ret (.ref a)) := by kernel_rfl
    rw [e]
    exact wpAny_bind (wpAny_alloc (wpAny_pure ⟨rfl, rfl⟩))
  · obtain ⟨rfl, rfl⟩ := h₁
    have N1 := N.push F (dqOf 0 [])
    have F1 := F.push (dqOf 0 [])
    have z := N1 _ (.head _)
    refine ⟨⟨_, z.1, rfl⟩, DF.a_init _, ?_⟩
    have e : Builtin.«collections.deque.__init__» ⟨[.ref s.heap.objs.size], []⟩ = (setField (.ref s.heap.objs.size) 0 .none >>= fun _ => Deque.clear (.ref s.heap.objs.size) >>= fun _ => ret .none) := by kernel_rfl
    rw [e]
    have U1 := news_upd (pre := []) (f := Obj.mapFields fun vs => vs.setIfInBounds 0 .none) F1 N1 (fun _ h => nomatch h) (fun p hp => Nat.ne_of_lt (Heap.lt_size (N p hp).1)) (o' := dqOf 0 []) rfl rfl
    have U2 := (U1.2 _ (.head _)).1
    refine wpAny_bind (m := setField _ _ _) ?_
    refine wpAny_bind (wpAny_load z.1 ?_)
    refine wpAny_update z.1 ?_
    refine wpAny_bind (m := Deque.clear _) (wpAny_bind (m := Deque.items _) (wpAny_bind (m := fieldsOf _) (wpAny_bind (wpAny_load U2 (wpAny_pure (wpAny_pure (wpAny_pure ?_)))))))
    exact wpAny_pure ⟨rfl, h _ _ U1.1 U1.2 (fun p hp => Heap.lt_size (N p hp).1)⟩
end
end Mine
end
section
open PySem PySem.W PySem.W.X PyProof.Rows PySem.Calls Builtin
set_option maxRecDepth 100000
namespace Mine
/-- the marks of a lexer's names and of the values that do not change -/
structure LexT where
  k0 : Tok
  k1 : Tok
  k2 : Tok
  k3 : Tok
  k4 : Tok
  k5 : Tok
  k6 : Tok
  k7 : Tok
  k8 : Tok
  k9 : Tok
  k10 : Tok
  k11 : Tok
  k12 : Tok
  k13 : Tok
  k14 : Tok
  k15 : Tok
  k16 : Tok
  k17 : Tok
  k18 : Tok
  k19 : Tok
  tcm : Tok
  twc : Tok
  tws : Tok
  tq : Tok
  te : Tok
  teq : Tok
  tdb : Tok
  tpu : Tok
noncomputable abbrev ent (P : Params) (n : String) (t : Tok) (v : Value) : DictEntry := ⟨PyData.keyHash P (Str.ofString n), .str (Str.ofString n) t, v⟩
/-- the dict of a lexer -/
noncomputable abbrev lexD (P : Params) (T : LexT) (y : Addr) (b : Bool) (ev : Value) (cm wc ws : Str) (sp : Bool) (q e : Str) (st : Value) (d1 : Addr) (ln tok : Value) (d2 d3 : Addr) : Obj :=
  dictOf [⟨PyData.keyHash P (Str.ofString "instream"), .str (Str.ofString "instream") T.k0, .ref y⟩, ⟨PyData.keyHash P (Str.ofString "infile"), .str (Str.ofString "infile") T.k1, .none⟩, ⟨PyData.keyHash P (Str.ofString "posix"), .str (Str.ofString "posix") T.k2, .bool b⟩, ⟨PyData.keyHash P (Str.ofString "eof"), .str (Str.ofString "eof") T.k3, ev⟩, ⟨PyData.keyHash P (Str.ofString "commenters"), .str (Str.ofString "commenters") T.k4, .str cm T.tcm⟩, ⟨PyData.keyHash P (Str.ofString "wordchars"), .str (Str.ofString "wordchars") T.k5, .str wc T.twc⟩, ⟨PyData.keyHash P (Str.ofString "whitespace"), .str (Str.ofString "whitespace") T.k6, .str ws T.tws⟩, ⟨PyData.keyHash P (Str.ofString "whitespace_split"), .str (Str.ofString "whitespace_split") T.k7, .bool sp⟩, ⟨PyData.keyHash P (Str.ofString "quotes"), .str (Str.ofString "quotes") T.k8, .str q T.tq⟩, ⟨PyData.keyHash P (Str.ofString "escape"), .str (Str.ofString "escape") T.k9, .str e T.te⟩, ⟨PyData.keyHash P (Str.ofString "escapedquotes"), .str (Str.ofString "escapedquotes") T.k10, .str (Str.ofString "\"") T.teq⟩, ⟨PyData.keyHash P (Str.ofString "state"), .str (Str.ofString "state") T.k11, st⟩, ⟨PyData.keyHash P (Str.ofString "pushback"), .str (Str.ofString "pushback") T.k12, .ref d1⟩, ⟨PyData.keyHash P (Str.ofString "lineno"), .str (Str.ofString "lineno") T.k13, ln⟩, ⟨PyData.keyHash P (Str.ofString "debug"), .str (Str.ofString "debug") T.k14, .int 0 T.tdb⟩, ⟨PyData.keyHash P (Str.ofString "token"), .str (Str.ofString "token") T.k15, tok⟩, ⟨PyData.keyHash P (Str.ofString "filestack"), .str (Str.ofString "filestack") T.k16, .ref d2⟩, ⟨PyData.keyHash P (Str.ofString "source"), .str (Str.ofString "source") T.k17, .none⟩, ⟨PyData.keyHash P (Str.ofString "_punctuation_chars"), .str (Str.ofString "_punctuation_chars") T.k18, .str (Str.ofString "0123456789") T.tpu⟩, ⟨PyData.keyHash P (Str.ofString "_pushback_chars"), .str (Str.ofString "_pushback_chars") T.k19, .ref d3⟩] 20
/-- a store into a dict of a new object; the state is written out, so the marks stay short -/
theorem set_dictR {prog : Program} {w : World} {A : Around} {E : Value → Shared → Prop} {s : Shared} {K : Frag} {x C dx L : Addr} {h₀ h : Heap} {m : Str → Option Value} {news news' : List (Addr × Obj)} {ox : Obj} {es es' : List DictEntry} {n n' : Nat} {name : Str} {v : Value} {t : Tok} {Q : Unit → Shared → Prop} (F : Fr h₀ L h m) (X₀ : K.In h₀) (N : News h₀ L h news) (I : InstAt h x ox C (some (dictOf es n))) (hd : ox.dict = some dx)
    (hs : findIn K (.ref C) "__setattr__" = some (some (.builtin "object.__setattr__"))) (hp : plainOver K C = true) (ht : takerIn K C name = some none) (hh : hasDictIn K C = true) (hl : (getL name es).isSome = true)
    (e : (putL name (PyData.keyHash w.params name) (.str name (t + 1)) v es, putN name es n) = (es', n')) (U : Upd dx (dictOf es n) (dictOf es' n') news news') (hz : es'.length ≤ 1000)
    (H : ∀ h', Fr h₀ L h' m → News h₀ L h' news' → Q () { s with heap := h', toks := t + 2 }) :
    wpAny (model prog w) A (setAttr (.ref x) name v) Q E { s with heap := h, toks := t } :=
  set_dict (s := { s with heap := h, toks := t }) F X₀ N I hd hs hp ht hh hl e U hz H
theorem key_tok {α : Type} {M : Model} {A : Around} {p : Sem α} {Q : α → Shared → Prop} {E : Value → Shared → Prop} {s : Shared} {h : Heap} {t : Tok} (H : ∀ k, t + 1 = k → wpAny M A p Q E { s with heap := h, toks := t }) : wpAny M A p Q E { s with heap := h, toks := t } := H _ rfl
theorem set_dictK {prog : Program} {w : World} {A : Around} {E : Value → Shared → Prop} {s : Shared} {K : Frag} {x C dx L : Addr} {h₀ h : Heap} {m : Str → Option Value} {news news' : List (Addr × Obj)} {ox : Obj} {es es' : List DictEntry} {n n' : Nat} {name : Str} {v : Value} {t k : Tok} {Q : Unit → Shared → Prop} (ek : t + 1 = k) (F : Fr h₀ L h m) (X₀ : K.In h₀) (N : News h₀ L h news) (I : InstAt h x ox C (some (dictOf es n))) (hd : ox.dict = some dx)
    (hs : findIn K (.ref C) "__setattr__" = some (some (.builtin "object.__setattr__"))) (hp : plainOver K C = true) (ht : takerIn K C name = some none) (hh : hasDictIn K C = true) (hl : (getL name es).isSome = true)
    (e : (putL name (PyData.keyHash w.params name) (.str name k) v es, putN name es n) = (es', n')) (U : Upd dx (dictOf es n) (dictOf es' n') news news') (hz : es'.length ≤ 1000)
    (H : ∀ h' t', Fr h₀ L h' m → News h₀ L h' news' → Q () { s with heap := h', toks := t' }) :
    wpAny (model prog w) A (setAttr (.ref x) name v) Q E { s with heap := h, toks := t } := by
  subst ek
  exact set_dictR F X₀ N I hd hs hp ht hh hl e U hz fun h' a b => H h' _ a b
end Mine
end
section
open PySem PySem.W PySem.W.X PyProof.Rows PySem.Calls
set_option maxRecDepth 100000
set_option maxHeartbeats 8000000
namespace Mine
noncomputable def numOf (run : Str) : Int := (signs run).foldl (fun (T : Int) (a : Str) => T * 10 + Txt.find (Str.ofString "0123456789") a) 0
end Mine
end
section
open PySem PySem.W PySem.W.X PyProof.Rows PySem.Calls
set_option maxRecDepth 100000
set_option maxHeartbeats 8000000
namespace Mine
/-- a sign stands in a text, as the model asks it -/
noncomputable def inS (x a : Str) : Bool := !(Builtin.Str.occurrences x a 0 x.length 1).isEmpty
noncomputable def sWhite : Str := Str.ofString "white"
noncomputable def sFigure : Str := Str.ofString "figure"
noncomputable def sOther : Str := Str.ofString "other"
noncomputable def kindOf (a : Str) : Str := if inS (Str.ofString "._+-") a then sWhite else if inS (Str.ofString "0123456789") a then sFigure else sOther
noncomputable def signOf (c : Int) : Str := ⟨#[c.toNat]⟩
noncomputable def runStep (x : List Str × Str) (c : Int) : List Str × Str :=
  if kindOf (signOf c) = sWhite then (x.1, sWhite)
  else if kindOf (signOf c) = x.2 then (x.1.dropLast ++ [x.1.getLastD (Str.ofString "") ++ signOf c], kindOf (signOf c))
  else (x.1 ++ [signOf c], kindOf (signOf c))
noncomputable def runFold (l : List Int) : List Str × Str := l.foldl runStep ([], sWhite)
theorem runFold_snoc (l : List Int) (c : Int) : runFold (l ++ [c]) = runStep (runFold l) c := by simp [runFold]

structure RunSt where
  vs : List Value
  n : Nat
  bf : Str
  tb : Tok
  rs : List Str
noncomputable def runPs (c : RunSt) : List (Str × Value) := [(Str.ofString "before", .str c.bf c.tb)]
noncomputable def runStored : List Str := [Str.ofString "kind", Str.ofString "before", Str.ofString "sign"]
noncomputable def RunP (pre : List Int) (c : RunSt) : Prop := runFold pre = (c.rs, c.bf) ∧ c.rs.length ≤ pre.length ∧ (∀ r ∈ c.rs, r.length ≤ pre.length) ∧ (c.rs = [] → c.bf = sWhite)
section
variable {prog : Program} {w : World} {A : Around} {E : Value → Shared → Prop} {s : Shared} {env : Env} {h₀ : Heap} {body : List Stmt} {Q : Flow → Shared → Prop}
theorem runs_loop {xt : Str} {tx : Tok} {m₀ : Str → Option Value} {lr : Addr} {tb : Tok} {n0 : Nat}
    (hh : A.handled = none) (F : Fr h₀ env.locals s.heap m₀) (N : News h₀ env.locals s.heap [(lr, listOf #[] n0)]) (hb : m₀ (Str.ofString "before") = some (.str (Str.ofString "white") tb))
    (turn : ∀ (c : RunSt) (pre post : List Int) (n : Nat) t (u : Str → Option Value) h tk own, KStt.codes xt = pre ++ (n : Int) :: post → OwnOff own [lr] → StrsAre c.vs c.rs → RunP pre c →
      Fr h₀ env.locals h (fun y => if y = Str.ofString "sign" then some (.str ⟨#[n]⟩ t) else kstB (fun z => if runStored.contains z then u z else m₀ z) (runPs c) y) → News h₀ env.locals h ((lr, listOf c.vs.toArray c.n) :: own) →
      wpAny (model prog w) A (execs body env) (InvPostN h₀ env.locals (KstS (fun c => [(lr, listOf c.vs.toArray c.n)]) runPs (fun c => StrsAre c.vs c.rs) (Str.ofString "sign") runStored m₀ RunP (pre ++ [(n : Int)])) own [lr] { s with heap := h, toks := tk } Q) E { s with heap := h, toks := tk })
    (done : ∀ (c : RunSt) (u : Str → Option Value) h tk, StrsAre c.vs c.rs → RunP (KStt.codes xt) c → Fr h₀ env.locals h (fun y => if y = Str.ofString "sign" then u y else kstB (fun z => if runStored.contains z then u z else m₀ z) (runPs c) y) → News h₀ env.locals h [(lr, listOf c.vs.toArray c.n)] → Q .next { s with heap := h, toks := tk }) :
    wpAny (model prog w) A (pyIter (.str xt tx)) (fun it s₂ => LoopAtV prog w A h₀ env (Str.ofString "sign") body Q E it s₂) E s :=
  KStt.kst_text (σ := RunSt) (fun c => [(lr, listOf c.vs.toArray c.n)]) runPs (fun c => StrsAre c.vs c.rs) runStored RunP ⟨[], n0, Str.ofString "white", tb, []⟩ hh F N .nil
    (by intro p hp'; rw [List.mem_singleton.mp hp']; exact hb) ⟨rfl, Nat.le_refl _, fun _ h => (nomatch h), fun _ => rfl⟩ turn done
theorem runs_end {L lr : Addr} {m₀ u : Str → Option Value} {c : RunSt} {pre : List Int} {own : List (Addr × Obj)} {s₁ : Shared} {h' : Heap} {tk : Nat} {b : Str} {tb : Tok} {v2 v3 : Value} {arr : Array Value} (vs' : List Value) {n' : Nat} (rs' : List Str)
    (F : Fr h₀ L h' (fun y => if y = Str.ofString "before" then some (.str b tb) else if y = Str.ofString "kind" then some v2 else if y = Str.ofString "sign" then some v3 else kstB (fun z => if runStored.contains z then u z else m₀ z) (runPs c) y))
    (N : News h₀ L h' ((lr, listOf arr n') :: own)) (ha : arr = vs'.toArray) (hs : StrsAre vs' rs') (hp : RunP pre ⟨vs', n', b, tb, rs'⟩) :
    InvPostN h₀ L (KstS (fun c => [(lr, listOf c.vs.toArray c.n)]) runPs (fun c => StrsAre c.vs c.rs) (Str.ofString "sign") runStored m₀ RunP pre) own [lr] s₁ Q .next { s₁ with heap := h', toks := tk } := by
  subst ha
  refine kst_end (σ := RunSt) (⟨vs', n', b, tb, rs'⟩ : RunSt) F N (fun p hp => by rw [List.mem_singleton.mp hp]; exact List.Mem.head _) (fun p hp => List.Mem.tail _ hp) rfl hs ?_ ?_ hp
  · intro p hp'
    rw [List.mem_singleton.mp hp']
    rfl
  · intro z h1 h2 h3
    have hb : z ≠ Str.ofString "before" := h2 _ (.head _)
    have hk : z ≠ Str.ofString "kind" := by
      rintro rfl
      exact absurd h3 (by decide +kernel)
    show (if z = Str.ofString "before" then _ else if z = Str.ofString "kind" then _ else if z = Str.ofString "sign" then _ else (if z = Str.ofString "before" then _ else if runStored.contains z = true then u z else m₀ z)) = _
    rw [if_neg hb, if_neg hk, if_neg h1, if_neg hb, h3]
    rfl
end
theorem inS_f {x a : Str} (h : (Builtin.Str.occurrences x a 0 x.length 1).isEmpty = false) : inS x a = true := by simp [inS, h]
theorem inS_t {x a : Str} (h : (Builtin.Str.occurrences x a 0 x.length 1).isEmpty = true) : inS x a = false := by simp [inS, h]
theorem signOf_nat (n : Nat) : signOf (n : Int) = ⟨#[n]⟩ := by simp [signOf]
theorem runP_white {pre : List Int} {vs : List Value} {n0 : Nat} {bf : Str} {tb : Tok} {rs : List Str} {c : Nat} {n' : Nat} {tb' : Tok} (h : RunP pre ⟨vs, n0, bf, tb, rs⟩) (hk : kindOf ⟨#[c]⟩ = sWhite) : RunP (pre ++ [(c : Int)]) ⟨vs, n', sWhite, tb', rs⟩ := by
  obtain ⟨h1, h2, h3, h4⟩ := h
  refine ⟨?_, ?_, ?_, fun _ => rfl⟩
  · rw [runFold_snoc, h1, runStep, signOf_nat, if_pos hk]
  · simp only [List.length_append, List.length_singleton] at *; omega
  · intro r hr; have := h3 r hr; simp only [List.length_append, List.length_singleton]; omega
theorem runP_new {pre : List Int} {vs vs' : List Value} {n0 : Nat} {bf k : Str} {tb : Tok} {rs : List Str} {c : Nat} {n' : Nat} {tb' : Tok} (h : RunP pre ⟨vs, n0, bf, tb, rs⟩) (hk : kindOf ⟨#[c]⟩ = k) (hw : k ≠ sWhite) (hb : k ≠ bf) : RunP (pre ++ [(c : Int)]) ⟨vs', n', k, tb', rs ++ [⟨#[c]⟩]⟩ := by
  obtain ⟨h1, h2, h3, h4⟩ := h
  refine ⟨?_, ?_, ?_, ?_⟩
  · rw [runFold_snoc, h1, runStep, signOf_nat, hk, if_neg hw, if_neg hb]
  · simp only [List.length_append, List.length_singleton] at *; omega
  · intro r hr
    simp only [List.length_append, List.length_singleton]
    rcases List.mem_append.mp hr with hr | hr
    · have := h3 r hr; omega
    · rw [List.mem_singleton.mp hr]; simp [Str.length]
  · intro e; simp at e
theorem runP_more {pre : List Int} {vs vs' : List Value} {n0 : Nat} {k bf : Str} {tb : Tok} {init : List Str} {last : Str} {c : Nat} {n' : Nat} {tb' : Tok} (h : RunP pre ⟨vs, n0, bf, tb, init ++ [last]⟩) (hk : kindOf ⟨#[c]⟩ = k) (hw : k ≠ sWhite) (hb : k = bf) : RunP (pre ++ [(c : Int)]) ⟨vs', n', k, tb', init ++ [last ++ ⟨#[c]⟩]⟩ := by
  obtain ⟨h1, h2, h3, h4⟩ := h
  refine ⟨?_, ?_, ?_, ?_⟩
  · rw [runFold_snoc, h1, runStep, signOf_nat, hk, if_neg hw, if_pos hb]
    simp
  · simp only [List.length_append, List.length_singleton] at *; omega
  · intro r hr
    simp only [List.length_append, List.length_singleton]
    rcases List.mem_append.mp hr with hr | hr
    · have := h3 r (List.mem_append.mpr (.inl hr)); omega
    · have := h3 last (List.mem_append.mpr (.inr (.head _)))
      rw [List.mem_singleton.mp hr]
      show (last.cps ++ #[c]).size ≤ _
      have e : last.cps.size ≤ pre.length := this
      simp only [Array.size_append]
      simp
      omega
  · intro e; simp at e
theorem kind_w {a : Str} (h : inS (Str.ofString "._+-") a = true) : kindOf a = sWhite := by simp [kindOf, h]
theorem kind_f {a : Str} (h : inS (Str.ofString "._+-") a = false) (h' : inS (Str.ofString "0123456789") a = true) : kindOf a = sFigure := by simp [kindOf, h, h']
theorem kind_o {a : Str} (h : inS (Str.ofString "._+-") a = false) (h' : inS (Str.ofString "0123456789") a = false) : kindOf a = sOther := by simp [kindOf, h, h']
theorem fig_white : sFigure ≠ sWhite := by decide +kernel
theorem oth_white : sOther ≠ sWhite := by decide +kernel
end Mine
end
section
open PySem PySem.W PySem.W.X PyProof.Rows PySem.Calls
set_option maxRecDepth 100000
namespace Mine
/-- the runs of these signs -/
noncomputable def rOf (l : List Nat) : List Str := (runFold (l.map fun (n : Nat) => (n : Int))).1
noncomputable def kd (c : Nat) : Str := kindOf ⟨#[c]⟩
noncomputable abbrev foldN (x : List Str × Str) (l : List Nat) : List Str × Str := (l.map fun (n : Nat) => (n : Int)).foldl runStep x
theorem stepN (x : List Str × Str) (c : Nat) : runStep x (c : Int) = if kd c = sWhite then (x.1, sWhite) else if kd c = x.2 then (x.1.dropLast ++ [x.1.getLastD (Str.ofString "") ++ ⟨#[c]⟩], kd c) else (x.1 ++ [⟨#[c]⟩], kd c) := by
  simp only [runStep, signOf_nat, kd]; rfl
theorem foldN_pre (pre : List Str) : ∀ (l : List Nat) (rs : List Str) (bf : Str), (bf ≠ sWhite → rs ≠ []) → foldN (pre ++ rs, bf) l = (pre ++ (foldN (rs, bf) l).1, (foldN (rs, bf) l).2)
  | [], rs, bf, _ => rfl
  | c :: l, rs, bf, h => by
    show foldN (runStep (pre ++ rs, bf) (c : Int)) l = (pre ++ (foldN (runStep (rs, bf) (c : Int)) l).1, (foldN (runStep (rs, bf) (c : Int)) l).2)
    rw [stepN, stepN]
    by_cases hw : kd c = sWhite
    · rw [if_pos hw, if_pos hw]
      exact foldN_pre pre l rs sWhite fun h => absurd rfl h
    · rw [if_neg hw, if_neg hw]
      by_cases hb : kd c = bf
      · rw [if_pos hb, if_pos hb]
        have hr : rs ≠ [] := h (hb ▸ hw)
        have e1 : (pre ++ rs).dropLast = pre ++ rs.dropLast := List.dropLast_append_of_ne_nil hr
        have e2 : (pre ++ rs).getLastD (Str.ofString "") = rs.getLastD (Str.ofString "") := by
          rw [List.getLastD_eq_getLast?, List.getLastD_eq_getLast?, List.getLast?_append]
          cases hq : rs.getLast? with
          | none => exact absurd (List.getLast?_eq_none_iff.mp hq) hr
          | some v => rfl
        rw [e1, e2, List.append_assoc]
        exact foldN_pre pre l _ _ fun _ => by simp
      · rw [if_neg hb, if_neg hb, List.append_assoc]
        exact foldN_pre pre l _ _ fun _ => by simp
theorem foldN_app (x : List Str × Str) (a b : List Nat) : foldN x (a ++ b) = foldN (foldN x a) b := by simp [foldN]
theorem str_snoc (l : List Nat) (c : Nat) : (⟨l.toArray⟩ : Str) ++ ⟨#[c]⟩ = ⟨(l ++ [c]).toArray⟩ := by
  show (⟨l.toArray ++ #[c]⟩ : Str) = _
  simp
/-- a token's signs: one kind, not white -/
noncomputable def IsTok (k : Str) (tk : List Nat) : Prop := tk ≠ [] ∧ k ≠ sWhite ∧ ∀ c ∈ tk, kd c = k
theorem foldN_tok {k : Str} : ∀ (tk : List Nat) (a : List Nat), a ≠ [] → k ≠ sWhite → (∀ c ∈ tk, kd c = k) → foldN ([⟨a.toArray⟩], k) tk = ([⟨(a ++ tk).toArray⟩], k)
  | [], a, _, _, _ => by simp [foldN]
  | c :: tk, a, ha, hk, h => by
    show foldN (runStep ([⟨a.toArray⟩], k) (c : Int)) tk = _
    have hc := h c (.head _)
    rw [stepN, if_neg (by rw [hc]; exact hk), if_pos (by exact hc)]
    have e : (([⟨a.toArray⟩] : List Str).dropLast ++ [([⟨a.toArray⟩] : List Str).getLastD (Str.ofString "") ++ ⟨#[c]⟩]) = [⟨(a ++ [c]).toArray⟩] := by
      show [(⟨a.toArray⟩ : Str) ++ ⟨#[c]⟩] = _
      rw [str_snoc]
    rw [e, hc, foldN_tok tk (a ++ [c]) (by simp) hk fun c hc => h c (.tail _ hc)]
    simp
theorem tok_fold {k : Str} {tk : List Nat} (h : IsTok k tk) : foldN ([], sWhite) tk = ([⟨tk.toArray⟩], k) := by
  obtain ⟨h0, hk, h⟩ := h
  cases tk with
  | nil => exact absurd rfl h0
  | cons c tk =>
    show foldN (runStep ([], sWhite) (c : Int)) tk = _
    have hc := h c (.head _)
    rw [stepN, if_neg (by rw [hc]; exact hk), if_neg (by rw [hc]; exact hk), hc]
    exact foldN_tok tk [c] (by simp) hk fun c hc => h c (.tail _ hc)
theorem rOf_eq (l : List Nat) : rOf l = (foldN ([], sWhite) l).1 := rfl
theorem rOf_nil : rOf [] = [] := rfl
theorem rOf_white {c : Nat} {l : List Nat} (h : kd c = sWhite) : rOf (c :: l) = rOf l := by
  show (foldN (runStep ([], sWhite) (c : Int)) l).1 = _
  rw [stepN, if_pos h]
  rfl
theorem rOf_tok {k : Str} {tk : List Nat} (h : IsTok k tk) : rOf tk = [⟨tk.toArray⟩] := by rw [rOf_eq, tok_fold h]
theorem rOf_tokW {k : Str} {tk : List Nat} {c : Nat} {l : List Nat} (h : IsTok k tk) (hc : kd c = sWhite) : rOf (tk ++ c :: l) = ⟨tk.toArray⟩ :: rOf l := by
  rw [rOf_eq, foldN_app, tok_fold h]
  show (foldN (runStep ([⟨tk.toArray⟩], k) (c : Int)) l).1 = _
  rw [stepN, if_pos hc]
  exact congrArg Prod.fst (foldN_pre [⟨tk.toArray⟩] l [] sWhite fun h => absurd rfl h)
theorem rOf_tokO {k : Str} {tk : List Nat} {c : Nat} {l : List Nat} (h : IsTok k tk) (hc : kd c ≠ sWhite) (hk : kd c ≠ k) : rOf (tk ++ c :: l) = ⟨tk.toArray⟩ :: rOf (c :: l) := by
  rw [rOf_eq, foldN_app, tok_fold h]
  show (foldN (runStep ([⟨tk.toArray⟩], k) (c : Int)) l).1 = _ :: (foldN (runStep ([], sWhite) (c : Int)) l).1
  rw [stepN, if_neg hc, if_neg (by exact hk), stepN, if_neg hc, if_neg (by exact hc)]
  exact congrArg Prod.fst (foldN_pre [⟨tk.toArray⟩] l [⟨#[c]⟩] (kd c) fun _ => by simp)
theorem IsTok.one {c : Nat} {k : Str} (h : kd c = k) (hk : k ≠ sWhite) : IsTok k [c] := ⟨by simp, hk, fun d hd => by rw [List.mem_singleton.mp hd]; exact h⟩
theorem IsTok.more {c : Nat} {k : Str} {tk : List Nat} (t : IsTok k tk) (h : kd c = k) : IsTok k (tk ++ [c]) := ⟨by simp, t.2.1, fun d hd => by
  rcases List.mem_append.mp hd with hd | hd
  · exact t.2.2 d hd
  · rw [List.mem_singleton.mp hd]; exact h⟩
end Mine
end
section
open PySem PySem.W PySem.W.X PyProof.Rows PySem.Calls
set_option maxRecDepth 100000
namespace Mine
theorem str_empty {x : Str} (h : x.cps.toList = []) : x = Str.ofString "" := by
  obtain ⟨a⟩ := x
  have : a = #[] := by simpa using h
  subst this
  rfl
theorem execs_app (env : PySem.Env) : ∀ (a b : List Stmt), execs (a ++ b) env = (do match ← execs a env with | .next => execs b env | f => pure f)
  | [], b => by
    show execs b env = (pure Flow.next >>= _)
    rw [pure_bind]
  | st :: a, b => by
    show execs (st :: (a ++ b)) env = _
    rw [execs_cons, execs_cons, bind_assoc]
    congr 1
    funext fl
    cases fl with
    | next => exact execs_app env a b
    | _ => simp only [pure_bind]
/-- fallen through, in such a state -/
noncomputable def AtNext (J : Shared → Prop) (fl : Flow) (s' : Shared) : Prop := fl = .next ∧ J s'
section
variable {M : Model} {A : Around} {E : Value → Shared → Prop} {s : Shared} {env : PySem.Env} {Q : Flow → Shared → Prop}
/-- the first statements end by falling through, in a state of this kind -/
theorem cut_app (J : Shared → Prop) {a b : List Stmt} (h1 : wpAny M A (execs a env) (AtNext J) E s) (h2 : ∀ s', J s' → wpAny M A (execs b env) Q E s') : wpAny M A (execs (a ++ b) env) Q E s := by
  rw [execs_app]
  refine wpAny_bind (wpAny_mono h1 (fun fl s' h => ?_) fun _ _ e => e)
  obtain ⟨rfl, h⟩ := h
  exact h2 s' h
theorem cut3 (J : Shared → Prop) {x y z : Stmt} {b : List Stmt} (h1 : wpAny M A (execs [x, y, z] env) (AtNext J) E s) (h2 : ∀ s', J s' → wpAny M A (execs b env) Q E s') : wpAny M A (execs (x :: y :: z :: b) env) Q E s :=
  cut_app (a := [x, y, z]) J h1 h2
theorem cut2 (J : Shared → Prop) {x y : Stmt} {b : List Stmt} (h1 : wpAny M A (execs [x, y] env) (AtNext J) E s) (h2 : ∀ s', J s' → wpAny M A (execs b env) Q E s') : wpAny M A (execs (x :: y :: b) env) Q E s :=
  cut_app (a := [x, y]) J h1 h2
end
/-- a test came out so, and nothing but marks was drawn -/
noncomputable def CameOut (b : Bool) (s : Shared) (r : Bool) (s' : Shared) : Prop := r = b ∧ ∃ tk, s' = { s with toks := tk }
theorem CameOut.intro {b : Bool} {s : Shared} {tk : Nat} : CameOut b s b { s with toks := tk } := ⟨rfl, tk, rfl⟩
section
variable {M : Model} {A : Around} {E : Value → Shared → Prop} {s : Shared} {env : PySem.Env} {Q : Flow → Shared → Prop}
theorem if_cut (b : Bool) {test : PySem.Expr} {body orelse : List Stmt} {pos : Pos} (h1 : wpAny M A (isTrue test env (eval test env)) (CameOut b s) E s)
    (h2 : ∀ tk, wpAny M A (if b then execs body env else execs orelse env) Q E { s with toks := tk }) : wpAny M A (exec (.If test body orelse pos) env) Q E s := by
  refine wpAny_If ?_
  refine wpAny_mono h1 (fun r s' h => ?_) fun _ _ e => e
  obtain ⟨rfl, tk, rfl⟩ := h
  have := h2 tk
  cases r <;> exact this
theorem if_no {test : PySem.Expr} {body orelse : List Stmt} {pos : Pos} (h1 : wpAny M A (isTrue test env (eval test env)) (CameOut false s) E s)
    (h2 : ∀ tk, wpAny M A (execs orelse env) Q E { s with toks := tk }) : wpAny M A (exec (.If test body orelse pos) env) Q E s := if_cut false h1 h2
end
/-- a frame's map, known at these names -/
theorem fr_at {h₀ h : Heap} {L : Addr} {m : Str → Option Value} (ps : List (Str × Value)) (hp : ∀ p ∈ ps, m p.1 = some p.2) (F : Fr h₀ L h m) : Fr h₀ L h (kstB m ps) := by
  have e : kstB m ps = m := by
    funext y
    exact kstB_eq hp fun _ => rfl
  rw [e]
  exact F
/-- the objects of a lexer at work -/
structure RtSt where
  st : Value
  tks : Str
  tt : Tok
  pos : Nat
  t3 : Tok
  ivs : List Value
  n : Int
  ln : Int
  tl : Tok
noncomputable abbrev RtSt.tk (c : RtSt) : List Nat := c.tks.cps.toList
noncomputable abbrev ledR (P : Params) (T : LexT) (x dx y dy d1 d2 d3 : Addr) (b : Bool) (ev : Value) (wc buf : Str) (k1 k2 k3 t1 t2 : Tok) (c : RtSt) : List (Addr × Obj) :=
  [(y, instObj 613 dy), (dy, sioD P k1 k2 k3 t1 t2 c.t3 buf c.pos), (x, instObj 748 dx),
   (dx, lexD P T y b ev (Str.ofString "") wc (Str.ofString "._+-") true (Str.ofString "") (Str.ofString "") c.st d1 (.int c.ln c.tl) (.str c.tks c.tt) d2 d3), (d3, dqOf c.n c.ivs)]
/-- the signs that are still to come -/
noncomputable def RestIs (buf : Str) (c : RtSt) (r : List Nat) : Prop :=
  ∃ its, ((c.ivs = [] ∧ its = []) ∨ ∃ a t, c.ivs = [.str ⟨#[a]⟩ t] ∧ its = [a]) ∧ r = its ++ buf.cps.toList.drop c.pos ∧ c.pos ≤ buf.length ∧ c.tk.length + r.length ≤ buf.length
noncomputable def stIs (st : Value) (s : String) : Prop := ∃ t, st = .str (Str.ofString s) t
/-- between the turns of read_token -/
noncomputable def RtP (buf : Str) (due : List Str) (c : RtSt) : Prop :=
  ∃ r, RestIs buf c r ∧ rOf (c.tk ++ r) = due ∧ ((stIs c.st " " ∧ c.tk = []) ∨ (stIs c.st "a" ∧ IsTok sOther c.tk) ∨ (stIs c.st "c" ∧ IsTok sFigure c.tk) ∨ (c.st = .none ∧ c.tk = [] ∧ r = []))
/-- behind the loop of read_token -/
noncomputable def RtE (buf : Str) (due : List Str) (c : RtSt) : Prop :=
  ∃ r, RestIs buf { c with tks := ⟨#[]⟩ } r ∧ ((c.tk = [] ∧ due = []) ∨ (c.tk ≠ [] ∧ c.tk.length ≤ buf.length ∧ due = c.tks :: rOf r ∧ (stIs c.st " " ∨ (c.st = .none ∧ r = []))))
/-- what read_token gives -/
noncomputable def RtV (b : Bool) (due : List Str) (buf : Str) (v : Value) (c : RtSt) : Prop :=
  ∃ r, RestIs buf c r ∧ c.tk = [] ∧ ((∃ tk tt, v = .str tk tt ∧ tk.length ≠ 0 ∧ tk.length ≤ buf.length ∧ due = tk :: rOf r ∧ (stIs c.st " " ∨ (c.st = .none ∧ r = []))) ∨ (due = [] ∧ ((b = true ∧ v = .none) ∨ (b = false ∧ ∃ te, v = .str (Str.ofString "") te))))
noncomputable def rtMu (buf : Str) (c : RtSt) : Nat := 2 * (buf.length - c.pos) + c.ivs.length
theorem news_tl {h₀ h : Heap} {L : Addr} {p : Addr × Obj} {l : List (Addr × Obj)} (N : News h₀ L h (p :: l)) : News h₀ L h l := fun q hq => N q (.tail _ hq)
end Mine
end
section
open PySem PySem.W PySem.W.X PyProof.Rows PySem.Calls
set_option maxRecDepth 100000
namespace Mine
/-- all stays; of the frames around, up to their slots -/
noncomputable def KeepF (outer : List PySem.Env) (g h' : Heap) : Prop := (∀ b o, g.get? b = some o → b ∉ outer.filterMap (·.frame) → h'.get? b = some o) ∧ g.UpToSlots h'
theorem KeepF.of_keeps {outer : List PySem.Env} {g h' : Heap} (k : ∀ b o, g.get? b = some o → h'.get? b = some o) : KeepF outer g h' := ⟨fun b o e _ => k b o e, Heap.UpToSlots.of_keeps k⟩
theorem KeepF.trans {outer : List PySem.Env} {a b c : Heap} (x : KeepF outer a b) (y : KeepF outer b c) : KeepF outer a c := ⟨fun z o e n => y.1 z o (x.1 z o e n) n, x.2.trans y.2⟩
section
variable {M : Model} {A : Around} {E : Value → Shared → Prop} {s' : Shared} {base g h : Heap} {outer : List PySem.Env} {L a e : Addr} {m : Str → Option Value} {name : Str} {scope : Scope} {cd : Value} {Q : Unit → Shared → Prop} {news : List (Addr × Obj)}
theorem leave_raiseF {cls : Value} {vs : List Value} (K : Below A base outer g) (hx : Heap.MadeExcOf h s'.heap e cls vs) (F : Fr g L h m) (N : News g L h news)
    (hQ : ∀ h', KeepF outer g h' → (∀ p ∈ news, h'.get? p.1 = some p.2 ∧ g.get? p.1 = none) → (∃ ob, h'.get? e = some ob ∧ ob.cls = cls) → Q () { s' with heap := h' }) (hk : scope.kind = .function := by rfl) :
    wpAny M (A.deeper (envOf name scope L a cd)) (leaving (envOf name scope L a cd) (.ref e)) Q E s' := by
  have K' := K.push (name := name) (a := a) (cd := cd) F hk
  have hin : ∀ env ∈ (envOf name scope L a cd :: outer), ∀ b, env.frame = some b → b ∈ (envOf name scope L a cd :: outer).filterMap (·.frame) := fun env he b hb => List.mem_filterMap.mpr ⟨env, he, hb⟩
  have hLg : g.get? L = none := by
    cases q : g.get? L with
    | none => rfl
    | some o => exact absurd (Nat.lt_of_lt_of_le (Heap.lt_size q) F.above) (Nat.lt_irrefl _)
  have out : ∀ b o, h.get? b = some o → b ≠ L → b ∉ outer.filterMap (·.frame) → (hideAll h ((envOf name scope L a cd :: outer).filterMap (·.frame))).get? b = some o := fun b o q nL nO => hideAll_get _ q fun hm => by
    obtain ⟨env, he, hf⟩ := List.mem_filterMap.mp hm
    rcases List.mem_cons.mp he with rfl | he
    · exact nL (Option.some.inj hf).symm
    · exact nO (List.mem_filterMap.mpr ⟨env, he, hf⟩)
  refine wpAny_leaves_madeW K'.stack rfl (fun b o q => of_hideAll _ q) (funFrames_hide K'.frames hin) hx fun h' t x1 x2 x3 x4 => ?_
  refine hQ h' ⟨fun b o q nO => x1.1 b o (out b o (F.keep b o q) (fun z => by rw [z, hLg] at q; cases q) nO), ((Heap.UpToSlots.of_keeps F.keep).trans (Heap.UpToSlots.of_keeps hx.keeps)).trans x4⟩ (fun p hp => ⟨x1.1 _ _ (out p.1 p.2 (N p hp).1 (N p hp).2.1 fun hm => ?_), (N p hp).2.2⟩) x1.there
  obtain ⟨o, ho, _⟩ := (K.frames.mem hm).2
  rw [(N p hp).2.2] at ho
  cases ho
end
end Mine
end
section
open PySem PySem.W PySem.W.X PyProof.Rows PySem.Calls PySem.NumText Builtin
set_option maxRecDepth 100000
set_option maxHeartbeats 4000000
namespace Mine
theorem fold_bad : ∀ (cs : List Nat) (p : Array Nat × Bool), (∀ c ∈ cs, ¬ (48 ≤ c ∧ c ≤ 57) ∧ c ≠ 95) → cs ≠ [] → cs.foldlM (NumText.step 10) p = none
  | [], p, _, h => absurd rfl h
  | c :: cs, p, h, _ => by
    have hc := h c (.head _)
    have e : NumText.step 10 p c = none := by
      unfold NumText.step
      have h95 : (c == 95) = false := by simpa using hc.2
      rw [h95]
      simp only [Bool.false_eq_true, if_false]
      unfold digit?
      have h1 : (decide (48 ≤ c) && decide (c ≤ 57)) = false := by
        have := hc.1
        simp only [Bool.and_eq_false_iff, decide_eq_false_iff_not]
        omega
      rw [h1]
      simp only [Bool.false_eq_true, if_false]
      split
      · rename_i d hd
        split at hd
        · rename_i hq
          injection hd with hd
          simp at hq
          rw [if_neg (by omega)]
        · split at hd
          · rename_i hq
            injection hd with hd
            simp at hq
            rw [if_neg (by omega)]
          · cases hd
      · rfl
    rw [List.foldlM_cons, e]
    rfl
theorem digits_bad {cs : List Nat} (h : ∀ c ∈ cs, ¬ (48 ≤ c ∧ c ≤ 57) ∧ c ≠ 95) : digits? 10 cs = none := by
  unfold digits?
  cases cs with
  | nil => rfl
  | cons c cs => rw [fold_bad (c :: cs) _ h (by simp)]; rfl
theorem core_sub {t : List Nat} : ∀ c ∈ core t, c ∈ t := by
  intro c hc
  unfold core at hc
  have h1 : c ∈ (sign (t.dropWhile blank)).2 := by
    have := List.mem_reverse.mp hc
    exact List.mem_reverse.mp ((List.dropWhile_sublist _).subset this)
  have h2 : c ∈ t.dropWhile blank := by
    unfold sign at h1
    split at h1
    · rename_i r hr; rw [hr]; exact .tail _ h1
    · rename_i r hr; rw [hr]; exact .tail _ h1
    · exact h1
  exact (List.dropWhile_sublist _).subset h2
/-- a sign that no numeral has -/
noncomputable def badC (c : Nat) : Prop := ¬ (48 ≤ c ∧ c ≤ 57) ∧ c ≠ 95 ∧ (c < 128 ∨ c = 233)
theorem uni_bad : ∀ (l : List Nat), (∀ c ∈ l, badC c) → ∀ c ∈ Unicode.numberText l, ¬ (48 ≤ c ∧ c ≤ 57) ∧ c ≠ 95
  | [], _, c, hc => by cases hc
  | a :: l, h, c, hc => by
    have ih := uni_bad l fun c hc => h c (.tail _ hc)
    have ha := h a (.head _)
    unfold Unicode.numberText at hc
    by_cases h127 : a < 127
    · rw [if_pos h127] at hc
      rcases List.mem_cons.mp hc with rfl | hc
      · exact ⟨ha.1, ha.2.1⟩
      · exact ih c hc
    · rw [if_neg h127] at hc
      have h2 : a = 127 ∨ a = 233 := by
        rcases ha.2.2 with h | h
        · left; omega
        · exact .inr h
      have hs : Unicode.isSpace a = false := by rcases h2 with rfl | rfl <;> decide +kernel
      have hd : Unicode.decimalValue? a = none := by rcases h2 with rfl | rfl <;> decide +kernel
      rw [hs, hd] at hc
      simp at hc
      subst hc
      exact ⟨by omega, by omega⟩
theorem text_bad {x : Str} (h : ∀ c ∈ x.cps.toList, badC c) : ∀ c ∈ numSeenOf x, ¬ (48 ≤ c ∧ c ≤ 57) ∧ c ≠ 95 := by
  intro c hc
  have hc := (List.takeWhile_sublist _).subset hc
  unfold numTextOf at hc
  split at hc
  · exact ⟨(h c hc).1, (h c hc).2.1⟩
  · exact uni_bad _ h c hc
theorem read_bad {x : Str} (h : ∀ c ∈ x.cps.toList, badC c) : (int_private% "readNumeral") 0 10 (numSeenOf x) = int_private% "Numeral.invalid" := by
  rw [readNumeral_ten, digits_bad fun c hc => text_bad h c (core_sub c hc)]
  rfl
/-- only the interpreter's statics are marked -/
noncomputable def Mk (h h' : Heap) : Prop := (∀ b o, b ≠ 2 → h.get? b = some o → h'.get? b = some o) ∧ (∀ o es n, h.get? 2 = some o → o.data = .dict es n → ∃ o' es' n', h'.get? 2 = some o' ∧ o'.data = .dict es' n') ∧ (∀ b, h.get? b = none → h'.get? b = none)
section
variable {M : Model} {A : Around} {E : Value → Shared → Prop} {s : Shared}
end
end Mine
end
section
open PySem
set_option maxRecDepth 100000
namespace Mine
namespace SR
noncomputable def cvCode : Array Nat := #[14, 4, 0, 1, 4294967295, 17, 0, 7, 14, 24, 10, 1, 4294967295, 13, 5, 22, 48, 57, 0, 1, 15, 17, 15, 13, 11, 9, 0, 26624, 2147483648, 0, 0, 0, 0, 0, 0, 15, 2, 0, 17, 1, 1]
noncomputable def isFig (c : Nat) : Bool := 48 ≤ c && c ≤ 57
noncomputable def isSep (c : Nat) : Bool := c == 43 || c == 45 || c == 46 || c == 95
theorem acc_fig (c : Nat) (seen : Sre.Seen) : ∃ seen', Sre.accepts cvCode 13 c seen = .ok (isFig c, seen') := by
  cases h : isFig c with
  | true =>
    refine ⟨seen.add 22, ?_⟩
    show (if (48 ≤ c && c ≤ 57) = true then Except.ok (true, seen.add 22) else _) = _
    rw [show (48 ≤ c && c ≤ 57) = true from h]
    rfl
  | false =>
    refine ⟨(seen.add 22).add 0, ?_⟩
    show (if (48 ≤ c && c ≤ 57) = true then Except.ok (true, seen.add 22) else _) = _
    rw [show (48 ≤ c && c ≤ 57) = false from h]
    rfl
theorem sep_bits : ∀ c < 256, (cvCode.getD (25 + (1 + c / 32)) 0).testBit (c % 32) = isSep c := by decide +kernel
theorem acc_sep (c : Nat) (seen : Sre.Seen) : ∃ seen', Sre.accepts cvCode 23 c seen = .ok (isSep c, seen') := by
  have key : (decide (c < 256) && (cvCode.getD (25 + (1 + c / 32)) 0).testBit (c % 32)) = isSep c := by
    by_cases h : c < 256
    · rw [sep_bits c h]; simp [h]
    · have : isSep c = false := by simp [isSep]; omega
      rw [this]; simp [h]
  have e : Sre.accepts cvCode 23 c seen = if (decide (c < 256) && (cvCode.getD (25 + (1 + c / 32)) 0).testBit (c % 32)) = true then .ok (true, seen.add 9) else .ok (false, (seen.add 9).add 0) := rfl
  rw [e, key]
  cases isSep c with
  | true => exact ⟨_, rfl⟩
  | false => exact ⟨_, rfl⟩
/-- how many figures stand here, n signs at the most -/
noncomputable def figs (text : Array Nat) : Nat → Nat → Nat
  | 0, _ => 0
  | n + 1, p => if isFig (text.getD p 0) then figs text n (p + 1) + 1 else 0
theorem run_figs (text : Array Nat) : ∀ (n p found : Nat) (seen : Sre.Seen), ∃ seen', Sre.run cvCode text 13 n p found seen = .ok (found + figs text n p, seen')
  | 0, p, found, seen => ⟨seen, rfl⟩
  | n + 1, p, found, seen => by
    obtain ⟨s1, h1⟩ := acc_fig (text.getD p 0) seen
    unfold Sre.run
    rw [h1]
    cases hf : isFig (text.getD p 0) with
    | true =>
      obtain ⟨s2, h2⟩ := run_figs text n (p + 1) (found + 1) s1
      refine ⟨s2, ?_⟩
      show Sre.run cvCode text 13 n (p + 1) (found + 1) s1 = _
      rw [h2]
      simp only [figs, hf, if_true]
      congr 2
      omega
    | false =>
      refine ⟨s1, ?_⟩
      show Except.ok (found, s1) = _
      simp only [figs, hf]
      rfl
noncomputable abbrev st (text : Array Nat) (start pc pos handed : Nat) (om : Bool) (m0 m1 : Option Nat) (lm li : Int) (fr : List Sre.Frame) (wt : Nat) (an : Option Bool) (seen : Sre.Seen) : Sre.M :=
  { code := cvCode, text, lim := text.size, start, lastStart := text.size, wholeText := false, mustAdvance := false, pc, pos, handed, outermost := om, marks := #[m0, m1], lastmark := lm, lastindex := li, loops := #[], inner := none, frames := fr, weight := wt, answer := an, seen, outcome := none }
open Sre (M Seen)
variable {text : Array Nat} {s p h : Nat} {om : Bool} {m0 m1 : Option Nat} {fr : List Sre.Frame} {seen : Seen} {lm li : Int}
noncomputable abbrev kp : Sre.Kept := { lastmark := 0, lastindex := -1, whole := false, marks := #[] }
noncomputable abbrev fS (p : Nat) (om : Bool) : Sre.Frame := { wait := .nextStart, pc := 5, pos := p, outermost := om }
noncomputable abbrev fB (pc p : Nat) (om : Bool) : Sre.Frame := { wait := .nextBranch, pc := pc, pos := p, outermost := om, kept := kp }
noncomputable abbrev fG (p : Nat) (om : Bool) (n : Nat) : Sre.Frame := { wait := .giveBack, pc := 9, pos := p, outermost := om, count := n, kept := kp }
/-- so many steps lead from one state of the machine to another -/
noncomputable def Go (n : Nat) (m m' : M) : Prop := ∀ k, M.runFor (n + k) m = M.runFor k m'
theorem Go.one {m m' : M} (e : m.outcome.isSome = false) (h : m.step = m') : Go 1 m m' := fun k => by
  rw [Nat.add_comm]
  show (if m.outcome.isSome = true then m else M.runFor k m.step) = _
  rw [if_neg (by rw [e]; decide), h]
theorem Go.trans {a b : Nat} {m m' m'' : M} (x : Go a m m') (y : Go b m' m'') : Go (a + b) m m'' := fun k => by rw [Nat.add_assoc, x, y]
-- the single steps
theorem s_mark0 : Go 1 (st text s 5 p h om m0 m1 (-1) (-1) fr 1 none seen) (st text s 7 p h om (some p) m1 0 (-1) fr 1 none (seen.add 17)) := Go.one rfl rfl
theorem s_branch : Go 1 (st text s 7 p h om m0 m1 0 (-1) fr 1 none seen) (st text s 9 p p om m0 m1 0 (-1) (fB 8 p om :: fr) 2 none (seen.add 7)) := Go.one rfl rfl
theorem s_rep_eq : (st text s 9 p h om m0 m1 0 (-1) fr 2 none seen).step = (if ((1 : Nat) : Int) > ((text.size : Int) - p) then st text s 9 p h om m0 m1 0 (-1) fr 2 (some false) (seen.add 24) else
    match Sre.run cvCode text 13 (min 4294967295 ((text.size : Int) - p).toNat) p 0 ((seen.add 24).add 13) with
    | .error why => ({ st text s 9 p h om m0 m1 0 (-1) fr 2 none (seen.add 24) with outcome := some (.stuck why) } : M)
    | .ok (n, seen') => if n < 1 then st text s 9 p h om m0 m1 0 (-1) fr 2 (some false) seen' else st text s 20 (p + n) (p + n) om m0 m1 0 (-1) (fG (p + n) om n :: fr) 3 none seen') := rfl
theorem s_repNo (hp : text.size ≤ p ∨ isFig (text.getD p 0) = false) : ∃ seen', Go 1 (st text s 9 p h om m0 m1 0 (-1) fr 2 none seen) (st text s 9 p h om m0 m1 0 (-1) fr 2 (some false) seen') := by
  by_cases hsz : ((1 : Nat) : Int) > ((text.size : Int) - p)
  · exact ⟨_, Go.one rfl (s_rep_eq.trans (if_pos hsz))⟩
  · have hf : isFig (text.getD p 0) = false := by
      rcases hp with hp | hp
      · exfalso; omega
      · exact hp
    obtain ⟨s1, h1⟩ := run_figs text (min 4294967295 ((text.size : Int) - p).toNat) p 0 ((seen.add 24).add 13)
    have hn : figs text (min 4294967295 ((text.size : Int) - p).toNat) p = 0 := by
      cases (min 4294967295 ((text.size : Int) - p).toNat) with
      | zero => rfl
      | succ n => simp only [figs, hf]; rfl
    rw [hn] at h1
    refine ⟨s1, Go.one rfl (s_rep_eq.trans ((if_neg hsz).trans ?_))⟩
    rw [h1]
    rfl
theorem s_repYes (hp : p < text.size) (hz : text.size ≤ 1000) (hf : isFig (text.getD p 0) = true) : ∃ seen', Go 1 (st text s 9 p h om m0 m1 0 (-1) fr 2 none seen) (st text s 20 (p + figs text (text.size - p) p) (p + figs text (text.size - p) p) om m0 m1 0 (-1) (fG (p + figs text (text.size - p) p) om (figs text (text.size - p) p) :: fr) 3 none seen') := by
  have hsz : ¬ ((1 : Nat) : Int) > ((text.size : Int) - p) := by omega
  have hm : min 4294967295 ((text.size : Int) - p).toNat = text.size - p := by omega
  obtain ⟨s1, h1⟩ := run_figs text (text.size - p) p 0 ((seen.add 24).add 13)
  have hn : ¬ figs text (text.size - p) p < 1 := by
    obtain ⟨n, hn⟩ : ∃ n, text.size - p = n + 1 := ⟨text.size - p - 1, by omega⟩
    rw [hn]
    simp only [figs, hf, if_true]
    omega
  refine ⟨s1, Go.one rfl (s_rep_eq.trans ((if_neg hsz).trans ?_))⟩
  rw [hm, h1, Nat.zero_add]
  exact if_neg hn
theorem s_alt2 : Go 1 (st text s 9 p h om m0 m1 0 (-1) (fB 8 p om :: fr) 2 (some false) seen) (st text s 23 p p om m0 m1 0 (-1) (fB 22 p om :: fr) 2 none seen) := Go.one rfl rfl
theorem s_in_eq : (st text s 23 p h om m0 m1 0 (-1) fr 2 none seen).step = (if p ≥ text.size then st text s 23 p h om m0 m1 0 (-1) fr 2 (some false) (seen.add 13) else
    match Sre.accepts cvCode 23 (text.getD p 0) (seen.add 13) with
    | .error why => ({ st text s 23 p h om m0 m1 0 (-1) fr 2 none (seen.add 13) with outcome := some (.stuck why) } : M)
    | .ok (false, seen') => st text s 23 p h om m0 m1 0 (-1) fr 2 (some false) seen'
    | .ok (true, seen') => st text s 35 (p + 1) h om m0 m1 0 (-1) fr 2 none seen') := rfl
theorem s_inNo (hp : text.size ≤ p ∨ isSep (text.getD p 0) = false) : ∃ seen', Go 1 (st text s 23 p h om m0 m1 0 (-1) fr 2 none seen) (st text s 23 p h om m0 m1 0 (-1) fr 2 (some false) seen') := by
  by_cases hsz : p ≥ text.size
  · exact ⟨_, Go.one rfl (s_in_eq.trans (if_pos hsz))⟩
  · have hf : isSep (text.getD p 0) = false := by
      rcases hp with hp | hp
      · exact absurd hp hsz
      · exact hp
    obtain ⟨s1, h1⟩ := acc_sep (text.getD p 0) (seen.add 13)
    rw [hf] at h1
    refine ⟨s1, Go.one rfl (s_in_eq.trans ((if_neg hsz).trans ?_))⟩
    rw [h1]
theorem s_inYes (hp : p < text.size) (hf : isSep (text.getD p 0) = true) : ∃ seen', Go 1 (st text s 23 p h om m0 m1 0 (-1) fr 2 none seen) (st text s 35 (p + 1) h om m0 m1 0 (-1) fr 2 none seen') := by
  obtain ⟨s1, h1⟩ := acc_sep (text.getD p 0) (seen.add 13)
  rw [hf] at h1
  refine ⟨s1, Go.one rfl (s_in_eq.trans ((if_neg (by omega)).trans ?_))⟩
  rw [h1]
theorem s_jump1 {wt : Nat} : Go 1 (st text s 20 p h om m0 m1 0 (-1) fr wt none seen) (st text s 38 p h om m0 m1 0 (-1) fr wt none (seen.add 15)) := Go.one rfl rfl
theorem s_jump2 {wt : Nat} : Go 1 (st text s 35 p h om m0 m1 0 (-1) fr wt none seen) (st text s 38 p h om m0 m1 0 (-1) fr wt none (seen.add 15)) := Go.one rfl rfl
theorem s_mark1 {wt : Nat} : Go 1 (st text s 38 p h om m0 m1 0 (-1) fr wt none seen) (st text s 40 p h om m0 (some p) 1 1 fr wt none (seen.add 17)) := by
  refine Go.one rfl ?_
  show M.mark _ _ = _
  unfold M.mark
  dsimp only
  congr 1
  all_goals first | rfl | decide | (simp [M.word, cvCode]; done) | (show (if (1 % 2 == 1) = true then (((1 / 2 + 1 : Nat)) : Int) else (-1)) = 1; decide)
theorem s_succ {wt : Nat} : Go 1 (st text s 40 p h om m0 m1 1 1 fr wt none seen) (st text s 40 p p om m0 m1 1 1 fr wt (some true) (seen.add 1)) := by
  cases om <;> exact Go.one rfl rfl
theorem s_upG {q pc n : Nat} : Go 1 (st text s pc p h om m0 m1 1 1 (fG q om n :: fr) 3 (some true) seen) (st text s 9 q h om m0 m1 1 1 fr 2 (some true) seen) := Go.one rfl rfl
theorem s_upB {q pc pb : Nat} : Go 1 (st text s pc p h om m0 m1 1 1 (fB pb q om :: fr) 2 (some true) seen) (st text s pb q h om m0 m1 1 1 fr 1 (some true) seen) := Go.one rfl rfl
theorem s_upS {q pc : Nat} {om' : Bool} : Go 1 (st text s pc p h om m0 m1 1 1 (fS q om' :: fr) 1 (some true) seen) (st text s 5 q h om' m0 m1 1 1 fr 0 (some true) seen) := Go.one rfl rfl
theorem s_end {pc : Nat} {b : Bool} : Go 1 (st text s pc p h om m0 m1 lm li [] 0 (some b) seen) ({ st text s pc p h om m0 m1 lm li [] 0 (some b) seen with outcome := some (if b then .matched else .failed) } : M) := Go.one rfl rfl
theorem s_alt3 : Go 1 (st text s 23 p h om m0 m1 0 (-1) (fB 22 p om :: fr) 2 (some false) seen) (st text s 22 p h om m0 m1 0 (-1) fr 1 (some false) seen) := Go.one rfl rfl
theorem s_next_eq {q pc : Nat} {om' : Bool} : (st text s pc p h om m0 m1 0 (-1) [fS q om'] 1 (some false) seen).step = (if q < text.size then st text (q + 1) 5 (q + 1) (q + 1) false m0 m1 (-1) (-1) [fS (q + 1) false] 1 none seen else st text s 5 q h om' m0 m1 0 (-1) [] 0 (some false) seen) := rfl
end SR
end Mine
end
section
open PySem PySem.W PySem.W.X PyProof.Rows PySem.Calls
set_option maxRecDepth 100000
namespace Mine
namespace SR
open Sre (M)
variable {text : Array Nat} {s p h : Nat} {om : Bool} {m0 m1 : Option Nat} {seen : Sre.Seen}
noncomputable abbrev stA (text : Array Nat) (p h : Nat) (om : Bool) (m0 m1 : Option Nat) (seen : Sre.Seen) : M := st text p 5 p h om m0 m1 (-1) (-1) [fS p om] 1 none seen
/-- a match from here to there -/
noncomputable def Matched (f : M) (q e : Nat) : Prop := f.outcome = some .matched ∧ f.start = q ∧ f.handed = e ∧ f.marks = #[some q, some e] ∧ f.lastmark = 1
noncomputable def isOth (c : Nat) : Bool := !isFig c && !isSep c
theorem att_fig (hp : p < text.size) (hz : text.size ≤ 1000) (hf : isFig (text.getD p 0) = true) : ∃ f, Go 10 (stA text p h om m0 m1 seen) f ∧ Matched f p (p + figs text (text.size - p) p) := by
  obtain ⟨s1, h1⟩ := s_repYes (s := p) (h := p) (om := om) (m0 := some p) (m1 := m1) (fr := [fB 8 p om, fS p om]) (seen := (seen.add 17).add 7) hp hz hf
  refine ⟨_, ((((((((s_mark0.trans s_branch).trans h1).trans s_jump1).trans s_mark1).trans s_succ).trans s_upG).trans s_upB).trans s_upS).trans s_end, ?_⟩
  exact ⟨rfl, rfl, rfl, rfl, rfl⟩
theorem fig_sep {c : Nat} (h : isSep c = true) : isFig c = false := by
  simp [isSep, isFig] at *
  omega
theorem att_sep (hp : p < text.size) (hf : isSep (text.getD p 0) = true) : ∃ f, Go 11 (stA text p h om m0 m1 seen) f ∧ Matched f p (p + 1) := by
  obtain ⟨s1, h1⟩ := s_repNo (s := p) (h := p) (om := om) (m0 := some p) (m1 := m1) (fr := [fB 8 p om, fS p om]) (seen := (seen.add 17).add 7) (.inr (fig_sep hf))
  obtain ⟨s2, h2⟩ := s_inYes (s := p) (h := p) (om := om) (m0 := some p) (m1 := m1) (fr := [fB 22 p om, fS p om]) (seen := s1) hp hf
  refine ⟨_, (((((((((s_mark0.trans s_branch).trans h1).trans s_alt2).trans h2).trans s_jump2).trans s_mark1).trans s_succ).trans s_upB).trans s_upS).trans s_end, ?_⟩
  exact ⟨rfl, rfl, rfl, rfl, rfl⟩
theorem att_next (hp : p < text.size) (ho : isOth (text.getD p 0) = true) : ∃ seen', Go 7 (stA text p h om m0 m1 seen) (stA text (p + 1) (p + 1) false (some p) m1 seen') := by
  simp only [isOth, Bool.and_eq_true, Bool.not_eq_true'] at ho
  obtain ⟨s1, h1⟩ := s_repNo (s := p) (h := p) (om := om) (m0 := some p) (m1 := m1) (fr := [fB 8 p om, fS p om]) (seen := (seen.add 17).add 7) (.inr ho.1)
  obtain ⟨s2, h2⟩ := s_inNo (s := p) (h := p) (om := om) (m0 := some p) (m1 := m1) (fr := [fB 22 p om, fS p om]) (seen := s1) (.inr ho.2)
  exact ⟨s2, (((((s_mark0.trans s_branch).trans h1).trans s_alt2).trans h2).trans s_alt3).trans (Go.one rfl (s_next_eq.trans (if_pos hp)))⟩
theorem att_end (hp : text.size ≤ p) : ∃ f, Go 8 (stA text p h om m0 m1 seen) f ∧ f.outcome = some .failed := by
  obtain ⟨s1, h1⟩ := s_repNo (s := p) (h := p) (om := om) (m0 := some p) (m1 := m1) (fr := [fB 8 p om, fS p om]) (seen := (seen.add 17).add 7) (.inl hp)
  obtain ⟨s2, h2⟩ := s_inNo (s := p) (h := p) (om := om) (m0 := some p) (m1 := m1) (fr := [fB 22 p om, fS p om]) (seen := s1) (.inl hp)
  refine ⟨_, ((((((s_mark0.trans s_branch).trans h1).trans s_alt2).trans h2).trans s_alt3).trans (Go.one rfl (s_next_eq.trans (if_neg (by omega))))).trans s_end, ?_⟩
  rfl
/-- where the next match begins -/
noncomputable def skip (text : Array Nat) : Nat → Nat → Nat
  | 0, p => p
  | n + 1, p => if isOth (text.getD p 0) then skip text n (p + 1) else p
noncomputable def endOf (text : Array Nat) (q : Nat) : Nat := if isFig (text.getD q 0) then q + figs text (text.size - q) q else q + 1
theorem search (hz : text.size ≤ 1000) : ∀ (n p h : Nat) (om : Bool) (m0 m1 : Option Nat) (seen : Sre.Seen), p + n = text.size → ∃ N f, N ≤ 7 * n + 11 ∧ Go N (stA text p h om m0 m1 seen) f ∧
    ((skip text n p = text.size ∧ f.outcome = some .failed) ∨ (skip text n p < text.size ∧ isOth (text.getD (skip text n p) 0) = false ∧ Matched f (skip text n p) (endOf text (skip text n p))))
  | 0, p, h, om, m0, m1, seen, hp => by
    obtain ⟨f, h1, h2⟩ := att_end (text := text) (p := p) (h := h) (om := om) (m0 := m0) (m1 := m1) (seen := seen) (by omega)
    exact ⟨8, f, by omega, h1, .inl ⟨hp, h2⟩⟩
  | n + 1, p, h, om, m0, m1, seen, hp => by
    have hlt : p < text.size := by omega
    cases ho : isOth (text.getD p 0) with
    | true =>
      obtain ⟨s1, h1⟩ := att_next (h := h) (om := om) (m0 := m0) (m1 := m1) (seen := seen) hlt ho
      obtain ⟨N, f, hN, h2, h3⟩ := search hz n (p + 1) (p + 1) false (some p) m1 s1 (by omega)
      have e : skip text (n + 1) p = skip text n (p + 1) := by simp only [skip, ho, if_true]
      rw [e]
      exact ⟨7 + N, f, by omega, h1.trans h2, h3⟩
    | false =>
      have e : skip text (n + 1) p = p := by simp only [skip, ho]; rfl
      rw [e]
      have ho2 := ho
      simp only [isOth, Bool.and_eq_false_iff, Bool.not_eq_false'] at ho2
      cases hf : isFig (text.getD p 0) with
      | true =>
        obtain ⟨f, h1, h2⟩ := att_fig (h := h) (om := om) (m0 := m0) (m1 := m1) (seen := seen) hlt hz hf
        refine ⟨10, f, by omega, h1, .inr ⟨hlt, ho, ?_⟩⟩
        unfold endOf
        rw [hf]
        exact h2
      | false =>
        have hs : isSep (text.getD p 0) = true := by
          rcases ho2 with ho2 | ho2
          · rw [hf] at ho2; cases ho2
          · exact ho2
        obtain ⟨f, h1, h2⟩ := att_sep (h := h) (om := om) (m0 := m0) (m1 := m1) (seen := seen) hlt hs
        refine ⟨11, f, by omega, h1, .inr ⟨hlt, ho, ?_⟩⟩
        unfold endOf
        rw [hf]
        exact h2
theorem run_more {m f : M} : ∀ (N k : Nat), M.runFor N m = f → f.outcome.isSome = true → M.runFor (N + k) m = f
  | 0, k, e, hf => by
    subst e
    rw [Nat.zero_add]
    cases k with
    | zero => rfl
    | succ k =>
      have hf' : m.outcome.isSome = true := hf
      show (if m.outcome.isSome = true then m else M.runFor k m.step) = m
      rw [if_pos hf']
  | N + 1, k, e, hf => by
    rw [Nat.add_right_comm]
    show (if m.outcome.isSome = true then m else M.runFor (N + k) m.step) = f
    change (if m.outcome.isSome = true then m else M.runFor N m.step) = f at e
    split at e
    · rename_i hm
      rw [if_pos hm]
      exact e
    · rename_i hm
      rw [if_neg hm]
      exact run_more N k e hf
theorem run_split {m : M} : ∀ (a b : Nat), M.runFor (a + b) m = M.runFor b (M.runFor a m) := by
  intro a
  induction a generalizing m with
  | zero => intro b; rw [Nat.zero_add]; rfl
  | succ a ih =>
    intro b
    rw [Nat.add_right_comm]
    show (if m.outcome.isSome = true then m else M.runFor (a + b) m.step) = M.runFor b (if m.outcome.isSome = true then m else M.runFor a m.step)
    by_cases hm : m.outcome.isSome = true
    · rw [if_pos hm, if_pos hm]
      have := run_more (m := m) 0 b rfl hm
      rw [Nat.zero_add] at this
      exact this.symm
    · rw [if_neg hm, if_neg hm]
      exact ih b
section
variable {Mo : Model} {A : Around} {E : Value → Shared → Prop} {σ : Shared}
theorem drive {f : M} {Q : M → Shared → Prop} (hf : f.outcome.isSome = true) (h : Q f σ) : ∀ (t N : Nat) (m : M), M.runFor N m = f → N ≤ 4 * t → wpAny Mo A (Builtin.Re.reDrive (t + 1) m) Q E σ := by
  intro t
  induction t with
  | zero =>
    intro N m e hN
    have hN : N = 0 := by omega
    subst hN
    unfold Builtin.Re.reDrive
    have e4 : M.runFor Builtin.Re.reTurnSteps m = f := by
      have := run_more 0 4 e hf
      rwa [Nat.zero_add] at this
    simp only [e4, hf, if_true]
    exact wpAny_pure h
  | succ t ih =>
    intro N m e hN
    unfold Builtin.Re.reDrive
    by_cases h4 : (M.runFor 4 m).outcome.isSome = true
    · have e4 : M.runFor Builtin.Re.reTurnSteps m = f := by
        show M.runFor 4 m = f
        have a := run_more 4 N rfl h4
        have b := run_more N 4 e hf
        rw [Nat.add_comm] at a
        exact a.symm.trans b
      simp only [e4, hf, if_true]
      exact wpAny_pure h
    · have h4' : ¬ (M.runFor Builtin.Re.reTurnSteps m).outcome.isSome = true := h4
      simp only [h4', if_false]
      refine wpAny_bind (wpAny_rule (ih (N - 4) _ ?_ (by omega)))
      show M.runFor (N - 4) (M.runFor 4 m) = f
      have hN4 : 4 ≤ N := by
        by_cases q : 4 ≤ N
        · exact q
        · exfalso
          have := run_more N (4 - N) e hf
          rw [show N + (4 - N) = 4 by omega] at this
          rw [this] at h4
          exact h4 hf
      rw [← run_split, show 4 + (N - 4) = N by omega]
      exact e
end
end SR
end Mine
end
section
open PySem PySem.W PySem.W.X PyProof.Rows PySem.Calls
set_option maxRecDepth 100000
namespace Mine
/-- the next sign was taken -/
noncomputable def NextP (buf : Str) (c c1 : RtSt) (nx : Str) : Prop :=
  c1.st = c.st ∧ c1.tks = c.tks ∧ c1.ivs = [] ∧ ∀ r, RestIs buf c r → (∃ a r', r = a :: r' ∧ nx = ⟨#[a]⟩ ∧ RestIs buf c1 r' ∧ c1.tk.length + r'.length + 1 ≤ buf.length ∧ rtMu buf c1 < rtMu buf c) ∨ (r = [] ∧ nx = Str.ofString "" ∧ RestIs buf c1 [])
theorem drop_step {l : List Nat} {p c : Nat} (h : l[p]? = some c) : l.drop p = c :: l.drop (p + 1) := by
  obtain ⟨hp, rfl⟩ := List.getElem?_eq_some_iff.mp h
  exact List.drop_eq_getElem_cons hp
theorem cps_len (x : Str) : x.cps.toList.length = x.length := by simp [Str.length]
theorem next_read {buf tks nx : Str} {st : Value} {pos pos' : Nat} {tt t3 t3' tl tl' : Tok} {n n' ln ln' : Int} (hr : readAt buf pos nx pos') :
    NextP buf ⟨st, tks, tt, pos, t3, [], n, ln, tl⟩ ⟨st, tks, tt, pos', t3', [], n', ln', tl'⟩ nx := by
  refine ⟨rfl, rfl, rfl, ?_⟩
  rintro r ⟨its, hi, hre, hp, hz⟩
  dsimp only at hi hre hp hz ⊢
  have hi : its = [] := by
    rcases hi with ⟨_, h⟩ | ⟨a, t, h, _⟩
    · exact h
    · cases h
  subst hi
  rw [List.nil_append] at hre
  rcases hr with ⟨c, hc, rfl, rfl⟩ | ⟨hn, rfl, e9⟩
  · have hd := drop_step hc
    have hlt : pos < buf.length := by
      have := (List.getElem?_eq_some_iff.mp hc).1
      rw [cps_len] at this
      exact this
    rw [hd] at hre
    subst hre
    refine .inl ⟨c, _, rfl, rfl, ⟨[], .inl ⟨rfl, rfl⟩, rfl, hlt, ?_⟩, ?_, ?_⟩
    · simp only [RtSt.tk, List.length_cons] at hz ⊢; omega
    · simp only [RtSt.tk, List.length_cons] at hz ⊢; omega
    · simp only [rtMu]
      simp
      omega
  · subst e9
    have hd : buf.cps.toList.drop pos' = [] := by
      rw [List.drop_eq_nil_iff]
      exact List.getElem?_eq_none_iff.mp hn
    rw [hd] at hre
    subst hre
    refine .inr ⟨rfl, rfl, [], .inl ⟨rfl, rfl⟩, ?_, hp, hz⟩
    show [] = [] ++ buf.cps.toList.drop pos'
    rw [hd]
    rfl
theorem next_pop {buf tks : Str} {st : Value} {pos : Nat} {a : Nat} {ta tt t3 tl tl' : Tok} {n n' ln ln' : Int} :
    NextP buf ⟨st, tks, tt, pos, t3, [.str ⟨#[a]⟩ ta], n, ln, tl⟩ ⟨st, tks, tt, pos, t3, [], n', ln', tl'⟩ ⟨#[a]⟩ := by
  refine ⟨rfl, rfl, rfl, ?_⟩
  rintro r ⟨its, hi, hre, hp, hz⟩
  dsimp only at hi hre hp hz ⊢
  have hi : its = [a] := by
    rcases hi with ⟨h, _⟩ | ⟨b, t, h, e⟩
    · cases h
    · cases h
      exact e
  subst hi
  subst hre
  refine .inl ⟨a, buf.cps.toList.drop pos, rfl, rfl, ⟨[], .inl ⟨rfl, rfl⟩, rfl, hp, ?_⟩, ?_, ?_⟩
  · simp only [RtSt.tk, List.length_cons, List.length_append, List.length_nil] at hz ⊢; omega
  · simp only [RtSt.tk, List.length_cons, List.length_append, List.length_nil] at hz ⊢; omega
  · simp only [rtMu]
    simp
theorem fr_name {h₀ h : Heap} {L : Addr} {m : Str → Option Value} (F : Fr h₀ L h m) : ∃ M, M = m ∧ Fr h₀ L h M := ⟨m, rfl, F⟩
/-- the state behind the first three statements of a turn -/
noncomputable def NextJ (g : Heap) (L' : Addr) (s : Shared) (P : Params) (T : LexT) (x dx y dy d1 d2 d3 : Addr) (b : Bool) (ev : Value) (wc buf : Str) (k1 k2 k3 t1 t2 : Tok) (M : Str → Option Value) (c : RtSt) (s' : Shared) : Prop :=
  ∃ nx tn c1 h' tk m', s' = { s with heap := h', toks := tk } ∧ (m' (Str.ofString "nextchar") = some (.str nx tn) ∧ ∀ z, z ≠ Str.ofString "nextchar" → m' z = M z) ∧ Fr g L' h' m' ∧ News g L' h' (ledR P T x dx y dy d1 d2 d3 b ev wc buf k1 k2 k3 t1 t2 c1) ∧ NextP buf c c1 nx
theorem next_done {g : Heap} {L' : Addr} {s : Shared} {P : Params} {T : LexT} {x dx y dy d1 d2 d3 : Addr} {b : Bool} {ev : Value} {wc buf nx : Str} {k1 k2 k3 t1 t2 tn : Tok} {M m' : Str → Option Value} {c c1 : RtSt} {h' : Heap} {tk : Nat}
    (F : Fr g L' h' m') (N : News g L' h' (ledR P T x dx y dy d1 d2 d3 b ev wc buf k1 k2 k3 t1 t2 c1)) (h1 : m' (Str.ofString "nextchar") = some (.str nx tn)) (h2 : ∀ z, z ≠ Str.ofString "nextchar" → m' z = M z) (hP : NextP buf c c1 nx) :
    AtNext (NextJ g L' s P T x dx y dy d1 d2 d3 b ev wc buf k1 k2 k3 t1 t2 M c) .next { s with heap := h', toks := tk } :=
  ⟨rfl, nx, tn, c1, h', tk, m', rfl, ⟨h1, h2⟩, F, N, hP⟩
theorem kd_cases (a : Nat) : (kd a = sWhite ∧ inS (Str.ofString "._+-") ⟨#[a]⟩ = true) ∨ (kd a = sFigure ∧ inS (Str.ofString "._+-") ⟨#[a]⟩ = false ∧ inS (Str.ofString "0123456789") ⟨#[a]⟩ = true) ∨
    (kd a = sOther ∧ inS (Str.ofString "._+-") ⟨#[a]⟩ = false ∧ inS (Str.ofString "0123456789") ⟨#[a]⟩ = false) := by
  unfold kd kindOf
  cases h1 : inS (Str.ofString "._+-") ⟨#[a]⟩ with
  | true => exact .inl ⟨rfl, rfl⟩
  | false =>
    cases h2 : inS (Str.ofString "0123456789") ⟨#[a]⟩ with
    | true => exact .inr (.inl ⟨rfl, rfl, rfl⟩)
    | false => exact .inr (.inr ⟨rfl, rfl, rfl⟩)
theorem fig_oth : sFigure ≠ sOther := by decide +kernel
section
variable {prog : Program} {w : World} {A : Around} {E : Value → Shared → Prop} {s : Shared} {Q : Value → Shared → Prop} {x a : Str} {t u : Tok}
theorem in_known {r : Bool} (h : inS x a = r) (hq : Q (.bool r) s) : wpAny (model prog w) A (compareOp .In (.str a u) (.str x t)) Q E s := by
  refine in_str ?_
  subst h
  exact hq
theorem notin_t (h : inS x a = true) (hq : Q (.bool false) s) : wpAny (model prog w) A (compareOp .NotIn (.str a u) (.str x t)) Q E s := by
  refine notIn_str ?_
  have e : (!(Builtin.Str.occurrences x a 0 x.length 1).isEmpty) = true := h
  rw [e]
  exact hq
theorem notin_f (h : inS x a = false) (hq : Q (.bool true) s) : wpAny (model prog w) A (compareOp .NotIn (.str a u) (.str x t)) Q E s := by
  refine notIn_str ?_
  have e : (!(Builtin.Str.occurrences x a 0 x.length 1).isEmpty) = false := h
  rw [e]
  exact hq
theorem inS_one (x : Str) (c : Nat) : inS x ⟨#[c]⟩ = decide (c ∈ x.cps.toList) := StrLaws.found_one x c
theorem inS_nil (c : Nat) : inS (Str.ofString "") ⟨#[c]⟩ = false := by rw [inS_one]; rfl
theorem in_nil {c : Nat} (hq : Q (.bool false) s) : wpAny (model prog w) A (compareOp .In (.str ⟨#[c]⟩ u) (.str (Str.ofString "") t)) Q E s := in_known (inS_nil c) hq
theorem in_nil_a (hq : Q (.bool false) s) : wpAny (model prog w) A (compareOp .In (.str (Str.ofString "a") u) (.str (Str.ofString "") t)) Q E s := in_known (by decide +kernel) hq
theorem in_nil_c (hq : Q (.bool false) s) : wpAny (model prog w) A (compareOp .In (.str (Str.ofString "c") u) (.str (Str.ofString "") t)) Q E s := in_known (by decide +kernel) hq
end
section
variable {buf tks : Str} {st st' : Value} {pos a : Nat} {r' : List Nat} {tt tt' t3 tl tn : Tok} {n n' ln : Int} {due : List Str}
theorem rest_same (h : RestIs buf ⟨st, tks, tt, pos, t3, [], n, ln, tl⟩ r') : RestIs buf ⟨st', tks, tt', pos, t3, [], n', ln, tl⟩ r' := h
theorem rest_less {tks' : Str} (h : RestIs buf ⟨st, tks, tt, pos, t3, [], n, ln, tl⟩ r') (hz : tks'.cps.toList.length + r'.length ≤ buf.length) : RestIs buf ⟨st', tks', tt', pos, t3, [], n', ln, tl⟩ r' := by
  obtain ⟨its, hi, hr, hp, _⟩ := h
  exact ⟨its, hi, hr, hp, hz⟩
theorem rest_back {tks' : Str} (h : RestIs buf ⟨st, tks, tt, pos, t3, [], n, ln, tl⟩ r') (hz : tks'.cps.toList.length + r'.length + 1 ≤ buf.length) : RestIs buf ⟨st', tks', tt', pos, t3, [.str ⟨#[a]⟩ tn], n', ln, tl⟩ (a :: r') := by
  obtain ⟨its, hi, hr, hp, _⟩ := h
  have hi : its = [] := by
    rcases hi with ⟨_, h⟩ | ⟨a, t, h, _⟩
    · exact h
    · cases h
  subst hi
  exact ⟨[a], .inr ⟨a, tn, rfl, rfl⟩, by rw [hr]; rfl, hp, by simp only [RtSt.tk, List.length_cons]; omega⟩
theorem snoc_cps (x : Str) (a : Nat) : (x ++ ⟨#[a]⟩ : Str).cps.toList = x.cps.toList ++ [a] := by
  show (x.cps ++ #[a]).toList = _
  simp
theorem str_of (x : Str) : (⟨x.cps.toList.toArray⟩ : Str) = x := by
  obtain ⟨l⟩ := x
  simp
-- between the turns
theorem p_skip (hR : RestIs buf ⟨st, tks, tt, pos, t3, [], n, ln, tl⟩ r') (hd : rOf (tks.cps.toList ++ a :: r') = due) (h0 : tks.cps.toList = []) (hk : kd a = sWhite) (hs : stIs st' " ") :
    RtP buf due ⟨st', tks, tt', pos, t3, [], n', ln, tl⟩ := by
  refine ⟨r', rest_same hR, ?_, .inl ⟨hs, h0⟩⟩
  rw [h0] at hd
  show rOf (tks.cps.toList ++ r') = due
  rw [h0]
  exact (rOf_white hk).symm.trans hd
theorem p_first (hR : RestIs buf ⟨st, tks, tt, pos, t3, [], n, ln, tl⟩ r') (hd : rOf (tks.cps.toList ++ a :: r') = due) (h0 : tks.cps.toList = []) (hz : tks.cps.toList.length + r'.length + 1 ≤ buf.length)
    (hk : (kd a = sOther ∧ stIs st' "a") ∨ (kd a = sFigure ∧ stIs st' "c")) : RtP buf due ⟨st', ⟨#[a]⟩, tt', pos, t3, [], n', ln, tl⟩ := by
  refine ⟨r', rest_less hR (by simp only [List.length_cons, List.length_nil]; omega), ?_, ?_⟩
  · rw [h0] at hd
    exact hd
  · rcases hk with ⟨hk, hs⟩ | ⟨hk, hs⟩
    · exact .inr (.inl ⟨hs, IsTok.one hk oth_white⟩)
    · exact .inr (.inr (.inl ⟨hs, IsTok.one hk fig_white⟩))
theorem p_more (hR : RestIs buf ⟨st, tks, tt, pos, t3, [], n, ln, tl⟩ r') (hd : rOf (tks.cps.toList ++ a :: r') = due) (hz : tks.cps.toList.length + r'.length + 1 ≤ buf.length)
    (hk : (kd a = sOther ∧ stIs st' "a" ∧ IsTok sOther tks.cps.toList) ∨ (kd a = sFigure ∧ stIs st' "c" ∧ IsTok sFigure tks.cps.toList)) : RtP buf due ⟨st', tks ++ ⟨#[a]⟩, tt', pos, t3, [], n', ln, tl⟩ := by
  refine ⟨r', rest_less hR (by rw [snoc_cps]; simp only [List.length_append, List.length_cons, List.length_nil]; omega), ?_, ?_⟩
  · rw [RtSt.tk, snoc_cps, List.append_assoc]
    exact hd
  · rw [RtSt.tk, snoc_cps]
    rcases hk with ⟨hk, hs, ht⟩ | ⟨hk, hs, ht⟩
    · exact .inr (.inl ⟨hs, ht.more hk⟩)
    · exact .inr (.inr (.inl ⟨hs, ht.more hk⟩))
-- the ends
theorem e_none (hR : RestIs buf ⟨st, tks, tt, pos, t3, [], n, ln, tl⟩ []) (hd : rOf (tks.cps.toList ++ []) = due) (h0 : tks.cps.toList = []) {tks' : Str} (h1 : tks'.cps.toList = []) : RtE buf due ⟨st', tks', tt', pos, t3, [], n', ln, tl⟩ := by
  refine ⟨[], rest_less hR (by simp), .inl ⟨h1, ?_⟩⟩
  rw [h0] at hd
  rw [← hd]
  rfl
theorem e_last {k : Str} (hR : RestIs buf ⟨st, tks, tt, pos, t3, [], n, ln, tl⟩ []) (hd : rOf (tks.cps.toList ++ []) = due) (ht : IsTok k tks.cps.toList) (hz : tks.cps.toList.length ≤ buf.length) (hs : st' = .none) : RtE buf due ⟨st', tks, tt', pos, t3, [], n', ln, tl⟩ := by
  refine ⟨[], rest_less hR (by simp), .inr ⟨ht.1, hz, ?_, .inr ⟨hs, rfl⟩⟩⟩
  rw [List.append_nil, rOf_tok ht, str_of] at hd
  exact hd.symm
theorem e_white {k : Str} (hR : RestIs buf ⟨st, tks, tt, pos, t3, [], n, ln, tl⟩ r') (hd : rOf (tks.cps.toList ++ a :: r') = due) (ht : IsTok k tks.cps.toList) (hz : tks.cps.toList.length + r'.length + 1 ≤ buf.length) (hk : kd a = sWhite) (hs : stIs st' " ") :
    RtE buf due ⟨st', tks, tt', pos, t3, [], n', ln, tl⟩ := by
  refine ⟨r', rest_less hR (by simp; omega), .inr ⟨ht.1, by dsimp only [RtSt.tk]; omega, ?_, .inl hs⟩⟩
  rw [rOf_tokW ht hk, str_of] at hd
  exact hd.symm
theorem e_back {k : Str} (hR : RestIs buf ⟨st, tks, tt, pos, t3, [], n, ln, tl⟩ r') (hd : rOf (tks.cps.toList ++ a :: r') = due) (ht : IsTok k tks.cps.toList) (hz : tks.cps.toList.length + r'.length + 1 ≤ buf.length) (hw : kd a ≠ sWhite) (hk : kd a ≠ k) (hs : stIs st' " ") :
    RtE buf due ⟨st', tks, tt', pos, t3, [.str ⟨#[a]⟩ tn], n', ln, tl⟩ := by
  refine ⟨a :: r', rest_back hR (by simp; omega), .inr ⟨ht.1, by dsimp only [RtSt.tk]; omega, ?_, .inl hs⟩⟩
  rw [rOf_tokO ht hw hk, str_of] at hd
  exact hd.symm
end
/-- the state behind the loop of read_token -/
noncomputable def RtJ (g : Heap) (L' : Addr) (s : Shared) (P : Params) (T : LexT) (x dx y dy d1 d2 d3 : Addr) (b : Bool) (ev : Value) (wc buf : Str) (k1 k2 k3 t1 t2 : Tok) (due : List Str) (s' : Shared) : Prop :=
  ∃ c h' tk m', s' = { s with heap := h', toks := tk } ∧ (∀ p ∈ [(Str.ofString "self", Value.ref x), (Str.ofString "quoted", Value.bool false)], m' p.1 = some p.2) ∧ Fr g L' h' m' ∧ News g L' h' (ledR P T x dx y dy d1 d2 d3 b ev wc buf k1 k2 k3 t1 t2 c) ∧ RtE buf due c
section
variable {g : Heap} {L' : Addr} {s : Shared} {P : Params} {T : LexT} {x dx y dy d1 d2 d3 : Addr} {b : Bool} {ev : Value} {wc buf nx : Str} {k1 k2 k3 t1 t2 tn : Tok} {m' m2 M U : Str → Option Value} {c c' : RtSt} {h' : Heap} {tk : Nat} {due : List Str} {v : Value}
theorem brk_done (F : Fr g L' h' m') (hm : ∀ p ∈ [(Str.ofString "self", Value.ref x), (Str.ofString "quoted", Value.bool false)], m' p.1 = some p.2) (N : News g L' h' (ledR P T x dx y dy d1 d2 d3 b ev wc buf k1 k2 k3 t1 t2 c')) (hE : RtE buf due c') :
    AtNext (RtJ g L' s P T x dx y dy d1 d2 d3 b ev wc buf k1 k2 k3 t1 t2 due) .next { s with heap := h', toks := tk } := ⟨rfl, c', h', tk, m', rfl, hm, F, N, hE⟩
theorem turn_done (F : Fr g L' h' m') (N : News g L' h' (ledR P T x dx y dy d1 d2 d3 b ev wc buf k1 k2 k3 t1 t2 c')) (hm : ∀ p ∈ [(Str.ofString "self", Value.ref x), (Str.ofString "quoted", Value.bool false)], m' p.1 = some p.2)
    (hr : ∀ z, (∀ p ∈ [(Str.ofString "self", Value.ref x), (Str.ofString "quoted", Value.bool false)], z ≠ p.1) → [Str.ofString "nextchar", Str.ofString "escapedstate"].contains z = false → m' z = M z) (hP : RtP buf due c') (hmu : rtMu buf c' < rtMu buf c) :
    KswEnd g L' s (fun c => ledR P T x dx y dy d1 d2 d3 b ev wc buf k1 k2 k3 t1 t2 c) (fun _ => [(Str.ofString "self", .ref x), (Str.ofString "quoted", .bool false)]) (fun _ => True) [Str.ofString "nextchar", Str.ofString "escapedstate"] M (RtP buf due) (rtMu buf) c { s with heap := h', toks := tk } :=
  ksw_end c' F N (fun _ h => h) trivial hm hr hP hmu
end
theorem len_pos {x : Str} (h : x.cps.toList ≠ []) : 1 ≤ x.length := by
  rw [← cps_len]
  exact List.length_pos_iff.mpr h
theorem len_le {x buf : Str} {n : Nat} (h : x.cps.toList.length + n + 1 ≤ buf.length) (hb : buf.length ≤ 100) : x.length ≤ 100 := by
  rw [cps_len] at h
  omega
theorem rest_len {buf : Str} {c : RtSt} {r : List Nat} (h : RestIs buf c r) : c.tks.cps.toList.length ≤ buf.length := by
  obtain ⟨its, _, _, _, hz⟩ := h
  exact Nat.le_trans (Nat.le_add_right _ _) hz
theorem v_none {b : Bool} (h : b = true) : (b = true ∧ Value.none = .none) ∨ (b = false ∧ ∃ te, Value.none = .str (Str.ofString "") te) := .inl ⟨h, rfl⟩
theorem v_str {b : Bool} {t : Tok} (h : b = false) : (b = true ∧ Value.str (Str.ofString "") t = .none) ∨ (b = false ∧ ∃ te, Value.str (Str.ofString "") t = .str (Str.ofString "") te) := .inr ⟨h, t, rfl⟩
theorem v_eof {b : Bool} {buf : Str} {due : List Str} {st v : Value} {tt tt' t3 tl : Tok} {pos : Nat} {ivs : List Value} {n ln : Int} {r : List Nat} (hR : RestIs buf ⟨st, ⟨#[]⟩, tt, pos, t3, ivs, n, ln, tl⟩ r) (hd : due = []) (hv : (b = true ∧ v = .none) ∨ (b = false ∧ ∃ te, v = .str (Str.ofString "") te)) :
    RtV b due buf v ⟨st, Str.ofString "", tt', pos, t3, ivs, n, ln, tl⟩ := ⟨r, hR, rfl, .inr ⟨hd, hv⟩⟩
theorem v_tok {b : Bool} {buf tks : Str} {due : List Str} {st : Value} {tt tt' tv t3 tl : Tok} {pos : Nat} {ivs : List Value} {n ln : Int} {r : List Nat} (hR : RestIs buf ⟨st, ⟨#[]⟩, tt, pos, t3, ivs, n, ln, tl⟩ r) (h0 : tks.cps.toList ≠ []) (hz : tks.cps.toList.length ≤ buf.length) (hd : due = tks :: rOf r) (hs : stIs st " " ∨ (st = .none ∧ r = [])) :
    RtV b due buf (.str tks tv) ⟨st, Str.ofString "", tt', pos, t3, ivs, n, ln, tl⟩ := ⟨r, hR, rfl, .inl ⟨tks, tv, rfl, fun e => h0 (List.length_eq_zero_iff.mp (by rw [cps_len]; exact e)), by rw [← cps_len tks]; exact hz, hd, hs⟩⟩
section
variable {g : Heap} {L' : Addr} {s : Shared} {P : Params} {T : LexT} {x dx y dy d1 d2 d3 : Addr} {b : Bool} {ev : Value} {wc buf nx : Str} {k1 k2 k3 t1 t2 tn : Tok} {m' : Str → Option Value} {c' : RtSt} {h' : Heap} {tk : Nat} {due : List Str} {v : Value} {Q : Value → Shared → Prop}
theorem rt_done (hret : ∀ v c' h' tk', RtV b due buf v c' → (∀ b o, g.get? b = some o → h'.get? b = some o) → (∀ p ∈ ledR P T x dx y dy d1 d2 d3 b ev wc buf k1 k2 k3 t1 t2 c', h'.get? p.1 = some p.2 ∧ g.get? p.1 = none) → Q v { s with heap := h', toks := tk' })
    (F : Fr g L' h' m') (N : News g L' h' (ledR P T x dx y dy d1 d2 d3 b ev wc buf k1 k2 k3 t1 t2 c')) (hV : RtV b due buf v c') : Q v { s with heap := h', toks := tk } :=
  hret v c' h' tk hV F.keep fun p hp => ⟨(N p hp).1, (N p hp).2.2⟩
end
end Mine
end
section
open PySem PySem.W PySem.W.X PyProof.Rows PySem.Calls
set_option maxRecDepth 100000
namespace Mine
open SR
theorem W_mem (c : Nat) : decide (c ∈ (Str.ofString "._+-").cps.toList) = isSep c := by
  have e : (Str.ofString "._+-").cps.toList = [46, 95, 43, 45] := by decide +kernel
  rw [e, Bool.eq_iff_iff]
  simp [isSep]
  omega
theorem D_mem (c : Nat) : decide (c ∈ (Str.ofString "0123456789").cps.toList) = isFig c := by
  have e : (Str.ofString "0123456789").cps.toList = [48, 49, 50, 51, 52, 53, 54, 55, 56, 57] := by decide +kernel
  rw [e, Bool.eq_iff_iff]
  simp [isFig]
  omega
theorem kd_eq (c : Nat) : kd c = if isSep c then sWhite else if isFig c then sFigure else sOther := by
  unfold kd kindOf
  rw [inS_one, inS_one, W_mem, D_mem]
theorem kd_sep {c : Nat} (h : isSep c = true) : kd c = sWhite := by rw [kd_eq, h]; rfl
theorem kd_fig {c : Nat} (h : isFig c = true) : kd c = sFigure := by
  have : isSep c = false := by
    cases hs : isSep c with
    | false => rfl
    | true => rw [fig_sep hs] at h; cases h
  rw [kd_eq, this, h]
  rfl
theorem kd_oth {c : Nat} (h : isOth c = true) : kd c = sOther := by
  simp only [isOth, Bool.and_eq_true, Bool.not_eq_true'] at h
  rw [kd_eq, h.2, h.1]
  rfl
/-- a figure's or another sign's run -/
noncomputable def TokOf (x : Str) : Prop := IsTok sFigure x.cps.toList ∨ IsTok sOther x.cps.toList
noncomputable def keepP (x : Str) : Bool := !inS (Str.ofString "._+-") x
theorem keep_tok {x : Str} (h : TokOf x) : keepP x = true := by
  have key : ∀ k, k ≠ sWhite → IsTok k x.cps.toList → inS (Str.ofString "._+-") x = false := by
    intro k hk ht
    cases hi : inS (Str.ofString "._+-") x with
    | false => rfl
    | true =>
      obtain ⟨i, h1, h2⟩ := (StrLaws.found_iff (Str.ofString "._+-") x).mp hi
      rw [StrLaws.subAt_eq] at h2
      exfalso
      obtain ⟨h0, _, hall⟩ := ht
      cases hx : x.cps.toList with
      | nil => exact h0 hx
      | cons c cs =>
        have hc := hall c (by rw [hx]; exact .head _)
        have hm : c ∈ (Str.ofString "._+-").cps.toList := by
          have : (((Str.ofString "._+-").cps.toList.drop i).take x.length) = x.cps.toList := by simpa using h2
          have hc2 : c ∈ ((Str.ofString "._+-").cps.toList.drop i).take x.length := by rw [this, hx]; exact .head _
          exact List.mem_of_mem_drop (List.mem_of_mem_take hc2)
        have : isSep c = true := by rw [← W_mem]; exact decide_eq_true hm
        rw [kd_sep this] at hc
        exact hk hc.symm
  unfold keepP
  rcases h with h | h
  · rw [key _ fig_white h]; rfl
  · rw [key _ oth_white h]; rfl
theorem keep_sep {c : Nat} (h : isSep c = true) : keepP ⟨#[c]⟩ = false := by
  unfold keepP
  rw [inS_one, W_mem, h]
  rfl
theorem keep_nil : keepP ⟨#[]⟩ = false := by decide +kernel
-- the runs of a text that begins so
theorem r_oth {o : List Nat} {r : List Nat} (ho : ∀ c ∈ o, isOth c = true) (h0 : o ≠ []) (hr : r = [] ∨ ∃ c r', r = c :: r' ∧ isOth c = false) : rOf (o ++ r) = ⟨o.toArray⟩ :: rOf r := by
  have ht : IsTok sOther o := ⟨h0, oth_white, fun c hc => kd_oth (ho c hc)⟩
  rcases hr with rfl | ⟨c, r', rfl, hc⟩
  · rw [List.append_nil, rOf_tok ht]; rfl
  · cases hs : isSep c with
    | true => rw [rOf_tokW ht (kd_sep hs), rOf_white (kd_sep hs)]
    | false =>
      have hf : isFig c = true := by
        simp only [isOth, hs, Bool.not_false, Bool.and_true, Bool.not_eq_false'] at hc
        exact hc
      exact rOf_tokO ht (by rw [kd_fig hf]; exact fig_white) (by rw [kd_fig hf]; exact fig_oth)
theorem r_fig {f : List Nat} {r : List Nat} (hf : ∀ c ∈ f, isFig c = true) (h0 : f ≠ []) (hr : r = [] ∨ ∃ c r', r = c :: r' ∧ isFig c = false) : rOf (f ++ r) = ⟨f.toArray⟩ :: rOf r := by
  have ht : IsTok sFigure f := ⟨h0, fig_white, fun c hc => kd_fig (hf c hc)⟩
  rcases hr with rfl | ⟨c, r', rfl, hc⟩
  · rw [List.append_nil, rOf_tok ht]; rfl
  · cases hs : isSep c with
    | true => rw [rOf_tokW ht (kd_sep hs), rOf_white (kd_sep hs)]
    | false =>
      have ho : isOth c = true := by simp [isOth, hs, hc]
      exact rOf_tokO ht (by rw [kd_oth ho]; exact oth_white) (by rw [kd_oth ho]; exact fig_oth.symm)
theorem r_sep {c : Nat} {r : List Nat} (h : isSep c = true) : rOf (c :: r) = rOf r := rOf_white (kd_sep h)
-- places in the text
variable {text : Array Nat}
theorem getD_at {p : Nat} (h : p < text.size) : text.toList.drop p = text.getD p 0 :: text.toList.drop (p + 1) := by
  have e := List.drop_eq_getElem_cons (l := text.toList) (i := p) (by simpa using h)
  rw [e]
  simp [Array.getD, h]
theorem cut_at {p q : Nat} (h : p ≤ q) : text.toList.drop p = (text.extract p q).toList ++ text.toList.drop q := by
  have e := List.take_append_drop (q - p) (text.toList.drop p)
  rw [List.drop_drop, show p + (q - p) = q by omega] at e
  rw [← e]
  congr 1
  simp [List.extract]
theorem skip_spec : ∀ (n p : Nat), p + n = text.size → p ≤ skip text n p ∧ skip text n p ≤ text.size ∧ ∀ c ∈ (text.extract p (skip text n p)).toList, isOth c = true
  | 0, p, h => ⟨Nat.le_refl _, by show p ≤ _; omega, by intro c hc; simp [skip] at hc⟩
  | n + 1, p, h => by
    have hp : p < text.size := by omega
    cases ho : isOth (text.getD p 0) with
    | true =>
      have e : skip text (n + 1) p = skip text n (p + 1) := by simp only [skip, ho, if_true]
      obtain ⟨h1, h2, h3⟩ := skip_spec n (p + 1) (by omega)
      rw [e]
      refine ⟨by omega, h2, fun c hc => ?_⟩
      have e2 : text.getD p 0 :: text.toList.drop (p + 1) = (text.extract p (skip text n (p + 1))).toList ++ text.toList.drop (skip text n (p + 1)) := by rw [← getD_at hp, ← cut_at (by omega)]
      have e3 := cut_at (text := text) (p := p + 1) (q := skip text n (p + 1)) h1
      rw [e3, ← List.cons_append] at e2
      have e4 := List.append_cancel_right e2
      rw [← e4] at hc
      rcases List.mem_cons.mp hc with rfl | hc
      · exact ho
      · exact h3 c hc
    | false =>
      have e : skip text (n + 1) p = p := by simp only [skip, ho]; rfl
      rw [e]
      exact ⟨Nat.le_refl _, by omega, by intro c hc; simp at hc⟩
theorem figs_spec : ∀ (n p : Nat), p + n = text.size → p + figs text n p ≤ text.size ∧ (∀ c ∈ (text.extract p (p + figs text n p)).toList, isFig c = true) ∧ (p + figs text n p = text.size ∨ isFig (text.getD (p + figs text n p) 0) = false)
  | 0, p, h => ⟨by simp only [figs]; omega, by intro c hc; simp [figs] at hc, .inl (by simp only [figs]; omega)⟩
  | n + 1, p, h => by
    have hp : p < text.size := by omega
    cases hf : isFig (text.getD p 0) with
    | true =>
      have e : p + figs text (n + 1) p = (p + 1) + figs text n (p + 1) := by simp only [figs, hf, if_true]; omega
      obtain ⟨h1, h2, h3⟩ := figs_spec n (p + 1) (by omega)
      rw [e]
      refine ⟨h1, fun c hc => ?_, h3⟩
      have e2 : text.getD p 0 :: text.toList.drop (p + 1) = (text.extract p ((p + 1) + figs text n (p + 1))).toList ++ text.toList.drop ((p + 1) + figs text n (p + 1)) := by rw [← getD_at hp, ← cut_at (by omega)]
      have e3 := cut_at (text := text) (p := p + 1) (q := (p + 1) + figs text n (p + 1)) (by omega)
      rw [e3, ← List.cons_append] at e2
      have e4 := List.append_cancel_right e2
      rw [← e4] at hc
      rcases List.mem_cons.mp hc with rfl | hc
      · exact hf
      · exact h2 c hc
    | false =>
      have e : p + figs text (n + 1) p = p := by simp only [figs, hf]; rfl
      rw [e]
      exact ⟨by omega, by intro c hc; simp at hc, .inr hf⟩
/-- the pieces so far, and what is still to come -/
noncomputable def PcsP (text : Array Nat) (p : Nat) (ps : List Str) : Prop :=
  ps.filter keepP ++ rOf (text.toList.drop p) = rOf text.toList ∧ (∀ x ∈ ps, keepP x = true → TokOf x) ∧ (∀ x ∈ ps, ∀ c ∈ x.cps.toList, c ∈ text.toList) ∧ ps.length ≤ 2 * p ∧ p ≤ text.size
theorem drop_head {p : Nat} (h : p < text.size) (hc : isOth (text.getD p 0) = false) : text.toList.drop p = [] ∨ ∃ c r', text.toList.drop p = c :: r' ∧ isOth c = false := .inr ⟨_, _, getD_at h, hc⟩
theorem sub_mem {p q : Nat} : ∀ c ∈ (text.extract p q).toList, c ∈ text.toList := by
  intro c hc
  rw [Array.toList_extract] at hc
  exact List.mem_of_mem_drop (List.mem_of_mem_take hc)
theorem arr_eq (a : Array Nat) : (⟨a.toList.toArray⟩ : Str) = ⟨a⟩ := by simp
theorem oth_part {p q : Nat} {r : List Nat} (ho : ∀ c ∈ (text.extract p q).toList, isOth c = true) (hr : r = [] ∨ ∃ c r', r = c :: r' ∧ isOth c = false) :
    ([(⟨text.extract p q⟩ : Str)].filter keepP ++ rOf r = rOf ((text.extract p q).toList ++ r)) ∧ (keepP ⟨text.extract p q⟩ = true → TokOf ⟨text.extract p q⟩) := by
  by_cases h0 : (text.extract p q).toList = []
  · have e : (⟨text.extract p q⟩ : Str) = ⟨#[]⟩ := by
      rw [← arr_eq, h0]
    rw [h0, e]
    refine ⟨by rw [List.filter_cons_of_neg (by rw [keep_nil]; decide)]; rfl, fun h => ?_⟩
    rw [keep_nil] at h
    cases h
  · have ht : TokOf ⟨text.extract p q⟩ := .inr ⟨h0, oth_white, fun c hc => kd_oth (ho c hc)⟩
    refine ⟨?_, fun _ => ht⟩
    rw [List.filter_cons_of_pos (keep_tok ht), r_oth ho h0 hr, arr_eq]
    rfl
theorem pcs_turn {p : Nat} {ps : List Str} (I : PcsP text p ps) (hq : skip text (text.size - p) p < text.size) (hn : isOth (text.getD (skip text (text.size - p) p) 0) = false) :
    PcsP text (SR.endOf text (skip text (text.size - p) p)) (ps ++ [⟨text.extract p (skip text (text.size - p) p)⟩, ⟨text.extract (skip text (text.size - p) p) (SR.endOf text (skip text (text.size - p) p))⟩]) ∧
      p < SR.endOf text (skip text (text.size - p) p) ∧ skip text (text.size - p) p < SR.endOf text (skip text (text.size - p) p) := by
  obtain ⟨h1, h2, h3, h4, h5⟩ := I
  obtain ⟨q1, q2, q3⟩ := skip_spec (text := text) (text.size - p) p (by omega)
  generalize skip text (text.size - p) p = q at *
  have hcut := cut_at (text := text) (p := p) (q := q) q1
  obtain ⟨ho1, ho2⟩ := oth_part (text := text) (p := p) (q := q) (r := text.toList.drop q) q3 (drop_head hq hn)
  -- the token
  have tok : q < SR.endOf text q ∧ SR.endOf text q ≤ text.size ∧ ([(⟨text.extract q (SR.endOf text q)⟩ : Str)].filter keepP ++ rOf (text.toList.drop (SR.endOf text q)) = rOf (text.toList.drop q)) ∧ (keepP ⟨text.extract q (SR.endOf text q)⟩ = true → TokOf ⟨text.extract q (SR.endOf text q)⟩) := by
    unfold SR.endOf
    cases hf : isFig (text.getD q 0) with
    | true =>
      rw [if_pos rfl]
      obtain ⟨f1, f2, f3⟩ := figs_spec (text := text) (text.size - q) q (by omega)
      have f0 : 1 ≤ figs text (text.size - q) q := by
        obtain ⟨n, hn⟩ : ∃ n, text.size - q = n + 1 := ⟨text.size - q - 1, by omega⟩
        rw [hn]
        simp only [figs, hf, if_true]
        omega
      generalize figs text (text.size - q) q = k at *
      have hne : (text.extract q (q + k)).toList ≠ [] := by
        intro e
        have := congrArg List.length e
        simp at this
        omega
      have ht : TokOf ⟨text.extract q (q + k)⟩ := .inl ⟨hne, fig_white, fun c hc => kd_fig (f2 c hc)⟩
      refine ⟨by omega, f1, ?_, fun _ => ht⟩
      rw [List.filter_cons_of_pos (keep_tok ht), cut_at (text := text) (p := q) (q := q + k) (by omega), r_fig f2 hne ?_, arr_eq]
      · rfl
      · rcases f3 with f3 | f3
        · exact .inl (by rw [f3]; simp)
        · by_cases hlt : q + k < text.size
          · exact .inr ⟨_, _, getD_at hlt, f3⟩
          · exact .inl (by rw [List.drop_eq_nil_iff]; simp; omega)
    | false =>
      rw [if_neg (by decide)]
      have hs : isSep (text.getD q 0) = true := by
        simp only [isOth, Bool.and_eq_false_iff, Bool.not_eq_false'] at hn
        rcases hn with hn | hn
        · rw [hf] at hn; cases hn
        · exact hn
      have e : text.extract q (q + 1) = #[text.getD q 0] := by
        have e1 := cut_at (text := text) (p := q) (q := q + 1) (by omega)
        rw [getD_at hq] at e1
        have e2 := List.append_cancel_right (as := [text.getD q 0]) e1
        exact Array.toList_inj.mp e2.symm
      refine ⟨by omega, by omega, ?_, ?_⟩
      · rw [e, List.filter_cons_of_neg (by rw [keep_sep hs]; decide), getD_at hq, r_sep hs]
        rfl
      · rw [e, keep_sep hs]
        intro h
        cases h
  obtain ⟨t1, t2, t3, t4⟩ := tok
  generalize SR.endOf text q = e at *
  refine ⟨⟨?_, ?_, ?_, ?_, t2⟩, by omega, t1⟩
  · rw [← h1, hcut, ← ho1, ← t3, List.filter_append]
    simp only [List.append_assoc]
    congr 1
    show (List.filter keepP ([⟨text.extract p q⟩] ++ [⟨text.extract q e⟩])) ++ _ = _
    rw [List.filter_append, List.append_assoc]
  · intro x hx hk
    rcases List.mem_append.mp hx with hx | hx
    · exact h2 x hx hk
    · rcases List.mem_cons.mp hx with rfl | hx
      · exact ho2 hk
      · rw [List.mem_singleton.mp hx] at hk ⊢
        exact t4 hk
  · intro x hx
    rcases List.mem_append.mp hx with hx | hx
    · exact h3 x hx
    · rcases List.mem_cons.mp hx with rfl | hx
      · exact sub_mem
      · rw [List.mem_singleton.mp hx]
        exact sub_mem
  · simp only [List.length_append, List.length_cons, List.length_nil]
    omega
theorem pcs_end {p : Nat} {ps : List Str} (I : PcsP text p ps) (hq : skip text (text.size - p) p = text.size) :
    (ps ++ [(⟨text.extract p text.size⟩ : Str)]).filter keepP = rOf text.toList ∧ (∀ x ∈ ps ++ [(⟨text.extract p text.size⟩ : Str)], keepP x = true → TokOf x) ∧ (∀ x ∈ ps ++ [(⟨text.extract p text.size⟩ : Str)], ∀ c ∈ x.cps.toList, c ∈ text.toList) ∧ (ps ++ [(⟨text.extract p text.size⟩ : Str)]).length ≤ 2 * text.size + 1 := by
  obtain ⟨h1, h2, h3, h4, h5⟩ := I
  obtain ⟨q1, q2, q3⟩ := skip_spec (text := text) (text.size - p) p (by omega)
  rw [hq] at q1 q3
  obtain ⟨ho1, ho2⟩ := oth_part (text := text) (p := p) (q := text.size) (r := []) q3 (.inl rfl)
  have hcut := cut_at (text := text) (p := p) (q := text.size) h5
  rw [show text.toList.drop text.size = [] by simp] at hcut
  refine ⟨?_, ?_, ?_, ?_⟩
  · rw [List.filter_append, ← h1, hcut, ← ho1, rOf_nil, List.append_nil]
  · intro x hx hk
    rcases List.mem_append.mp hx with hx | hx
    · exact h2 x hx hk
    · rw [List.mem_singleton.mp hx] at hk ⊢
      exact ho2 hk
  · intro x hx
    rcases List.mem_append.mp hx with hx | hx
    · exact h3 x hx
    · rw [List.mem_singleton.mp hx]
      exact sub_mem
  · simp only [List.length_append, List.length_cons, List.length_nil]
    omega
end Mine
end
section
open PySem PySem.W PySem.W.X PyProof.Rows PySem.Calls PySem.NumText Builtin
set_option maxRecDepth 100000
set_option maxHeartbeats 4000000
namespace Mine
noncomputable def badS : PySem.Spec := fun A R s => A.handled = none ∧ (∃ oS es n, s.heap.get? 2 = some oS ∧ oS.data = .dict es n) ∧ ∀ hm h' tk e, Mk s.heap hm → Heap.NewExc hm h' e "ValueError" → R (.error (.ref e)) { s with heap := h', toks := tk }
noncomputable def okS (n : Int) : PySem.Spec := fun A R s => ∀ tk t, R (.ok (.ret (.int n t))) { s with toks := tk }
section
variable {M : Model} {A : Around} {E : Value → Shared → Prop} {s : Shared} {prog : Program} {w : World} {x : Str} {t u : Tok} {n : Int}
theorem text_value {Q : Value → Shared → Prop} (hl : x.length ≤ 640) (hn : PySem.intText? x = some n) (h : ∀ tk t, Q (.int n t) { s with toks := tk }) : wpAny M A ((int_private% "intFromText") (.str x t) (numTextOf x) 10) Q E s := by
  have hs : (numSeenOf x).length ≤ 640 := Nat.le_trans (seen_length x) hl
  rcases read0 x hs with ⟨m, h1, h2, h3⟩ | ⟨h1, _⟩
  · rw [hn] at h1
    injection h1 with h1
    subst h1
    exact KIN.wp_text hs h3 h2 (h _ _)
  · rw [hn] at h1
    cases h1
theorem two_open {Q : PySem.Fin → Shared → Prop} (h : wpAny (model prog w) A ((int_private% "intFromText") (.str x t) (numTextOf x) 10) (fun v s' => Q (.done (.ret v)) s') E s) :
    wpAny (model prog w) A (Builtin.«int.__new__» ⟨[.type "int", .str x t, .int 10 u], []⟩) Q E s := by
  unfold Builtin.«int.__new__»
  refine wpAny_bind (wpAny_of_eq (a := true) (by kernel_rfl) ?_)
  rw [if_neg (by decide)]
  refine wpAny_bind (wpAny_of_eq (a := true) F.conv_sub_int ?_)
  rw [if_neg (by decide)]
  refine wpAny_bind (wpAny_of_eq (a := ()) F.madeHere_int ?_)
  rw [if_neg (by simp)]
  rw [if_neg (by simp)]
  refine wpAny_bind (wpAny_pure ?_)
  dsimp only
  refine wpAny_bind ?_
  refine wpAny_bind ?_
  refine wpAny_bind (wpAny_of_eq (a := some 10) rfl ?_)
  rw [if_pos (by decide)]
  refine wpAny_pure ?_
  refine wpAny_bind (wpAny_of_eq (a := some 10) rfl ?_)
  refine wpAny_pure ?_
  rw [if_neg (by decide)]
  refine wpAny_bind (wpAny_of_eq (a := some (numTextOf x)) rfl ?_)
  dsimp only
  refine wpAny_bind (wpAny_mono h (fun v s' hv => ?_) fun _ _ z => z)
  rw [if_pos (by decide)]
  exact wpAny_pure hv
theorem one_open {Q : PySem.Fin → Shared → Prop} (h : ∀ tk, wpAny (model prog w) A ((int_private% "intFromText") (.str x t) (numTextOf x) 10) (fun v s' => Q (.done (.ret v)) s') E { s with toks := tk }) :
    wpAny (model prog w) A (Builtin.«int.__new__» ⟨[.type "int", .str x t], []⟩) Q E s := by
  obtain ⟨hp, g, d, tk, os⟩ := s
  have f1 := F.conv_sub_int
  have f2 := F.madeHere_int
  have f3 := KIN.str_int
  have f4 := KIN.str_idx
  have f5 := KIN.str_trunc
  have f6 : typeOf (.str x t) = pure (.type "str") := rfl
  have hk := KIN.Hid.mk (h)
  clear h
  repeat (any_goals (first
    | ((with_reducible show wpAny _ _ ((int_private% "intFromText") _ _ _) _ _ _); refine wpAny_mono (hk.out _) (fun v s' hv => ?_) fun _ _ z => z)
    | assumption
    | wp_step))
end
theorem int_two (x : Str) (t u : Tok) : checkTypeCall "int" ⟨[.str x t, .int 10 u], []⟩ = pure () := by kernel_rfl
theorem int_newtwo (x : Str) (t u : Tok) : checkBuiltinCall "int.__new__" ⟨[.type "int", .str x t, .int 10 u], []⟩ = pure () := by kernel_rfl
theorem oi_three (o a b : Value) : argsOk "object.__init__" ⟨[o, a, b], []⟩ := by unfold argsOk; kernel_rfl
section
variable {A : Around} {E : Value → Shared → Prop} {s : Shared} {prog : Program} {w : World} {x : Str} {t u : Tok} {n : Int} {Q : Value → Shared → Prop}
theorem int2_ok (hl : x.length ≤ 640) (hn : PySem.intText? x = some n) (h : ∀ tk t, Q (.int n t) { s with toks := tk }) : wpAny (model prog w) A (call (.type "int") [.str x t, .int 10 u]) Q E s :=
  callType_new (S := okS n) F.called_int F.newNe_int (int_two x t u) (int_newtwo x t u) (fun obj => oi_three obj _ _) F.entry_int_new (fun prog w A R s hS => two_open (text_value hl hn fun tk t => hS tk t)) fun tk t => ⟨rfl, h tk t⟩
end
end Mine
end
section
open PySem PySem.W PySem.W.X PyProof.Rows PySem.Calls PySem.NumText
set_option maxRecDepth 100000
set_option maxHeartbeats 4000000
namespace Mine
noncomputable def rankL : List (String × Int) := [("dev", 10), ("alpha", 20), ("a", 20), ("beta", 30), ("b", 30), ("c", 40), ("RC", 50), ("rc", 50), ("pl", 200), ("p", 200)]
noncomputable def rankS : List (Str × Int) := rankL.map fun p => (Str.ofString p.1, p.2)
noncomputable def rankOf (x : Str) : Int := (rankS.lookup x).getD 0
/-- what is told of these runs -/
inductive ToldAre : List Value → List Str → Prop
  | nil : ToldAre [] []
  | fig {vs : List Value} {xs : List Str} (x : Str) (t u : Tok) : ToldAre vs xs → IsTok sFigure x.cps.toList → ToldAre (vs ++ [.int 100 t, .int (numOf x) u]) (xs ++ [x])
  | oth {vs : List Value} {xs : List Str} (x : Str) (t u : Tok) : ToldAre vs xs → IsTok sOther x.cps.toList → ToldAre (vs ++ [.int (rankOf x) t, .str x u]) (xs ++ [x])
theorem ToldAre.length {vs : List Value} {xs : List Str} (h : ToldAre vs xs) : vs.length = 2 * xs.length := by
  induction h with
  | nil => rfl
  | fig x t u _ _ ih => simp [ih]; omega
  | oth x t u _ _ ih => simp [ih]; omega
theorem fig_mem' {c : Nat} (h : kd c = sFigure) : SR.isFig c = true := by
  rw [kd_eq] at h
  split at h
  · exact absurd h (by decide +kernel)
  · split at h
    · assumption
    · exact absurd h (by decide +kernel)
theorem fig_digits {x : Str} (h : IsTok sFigure x.cps.toList) : AllDigits x.cps.toList := by
  intro c hc
  have := fig_mem' (h.2.2 c hc)
  simpa [SR.isFig] using this
theorem find_fig : ∀ c, SR.isFig c = true → Txt.find (Str.ofString "0123456789") ⟨#[c]⟩ = ((c - 48 : Nat) : Int) := by
  intro c hc
  simp only [SR.isFig, Bool.and_eq_true, decide_eq_true_eq] at hc
  obtain ⟨h1, h2⟩ := hc
  have key : ∀ d < 10, Txt.find (Str.ofString "0123456789") ⟨#[d + 48]⟩ = ((d + 48 - 48 : Nat) : Int) := by decide +kernel
  have := key (c - 48) (by omega)
  rw [show c - 48 + 48 = c by omega] at this
  exact this
theorem numOf_digits {x : Str} (h : AllDigits x.cps.toList) : numOf x = ((digitsVal x.cps.toList : Nat) : Int) := by
  have key : ∀ (l : List Nat) (a : Nat), AllDigits l → (l.map fun n => (⟨#[n]⟩ : Str)).foldl (fun (T : Int) (a : Str) => T * 10 + Txt.find (Str.ofString "0123456789") a) (a : Int) = ((l.foldl (fun acc c => acc * 10 + (c - 48)) a : Nat) : Int) := by
    intro l
    induction l with
    | nil => intro a _; rfl
    | cons c l ih =>
      intro a h
      have hc := h c (.head _)
      simp only [List.map_cons, List.foldl_cons]
      rw [find_fig c (by simpa [SR.isFig] using hc)]
      have e : ((a : Int) * 10 + ((c - 48 : Nat) : Int)) = ((a * 10 + (c - 48) : Nat) : Int) := by omega
      rw [e]
      exact ih _ fun d hd => h d (.tail _ hd)
  exact key x.cps.toList 0 h
theorem fig_int {x : Str} (h : IsTok sFigure x.cps.toList) (hl : x.length ≤ 4300) : PySem.intText? x = some (numOf x) := by
  rw [numOf_digits (fig_digits h)]
  exact intText_digits (fig_digits h) h.1 hl
theorem fig_find {x : Str} (h : IsTok sFigure x.cps.toList) : ∀ a ∈ signs x, 0 ≤ Txt.find (Str.ofString "0123456789") a := by
  intro a ha
  obtain ⟨c, hc, rfl⟩ := List.mem_map.mp ha
  rw [find_fig c (fig_mem' (h.2.2 c hc))]
  omega
theorem oth_bad {x : Str} (h : IsTok sOther x.cps.toList) (ha : ∀ c ∈ x.cps.toList, c < 128 ∨ c = 233) : ∀ c ∈ x.cps.toList, badC c := by
  intro c hc
  have hk := h.2.2 c hc
  rw [kd_eq] at hk
  split at hk
  · exact absurd hk (by decide +kernel)
  · rename_i hs
    split at hk
    · exact absurd hk (by decide +kernel)
    · rename_i hf
      refine ⟨by simpa [SR.isFig] using hf, ?_, ha c hc⟩
      rintro rfl
      exact hs (by decide)
-- the ranks' dict
noncomputable def rankV (ts : Nat → Tok) : List (Str × Value) := rankS.zipIdx.map fun p => (p.1.1, .int p.1.2 (ts p.2))
theorem rankV_at (ts : Nat → Tok) (x : Str) (d : Tok) : ∃ t, (valueAt (rankV ts) x).getD (.int 0 d) = .int (rankOf x) t := by
  have key : ∀ (l : List (Str × Int)) (k : Nat), ∃ t, (valueAt ((l.zipIdx k).map fun p => (p.1.1, Value.int p.1.2 (ts p.2))) x).getD (.int 0 d) = .int ((l.lookup x).getD 0) t := by
    intro l
    induction l with
    | nil => intro k; exact ⟨d, rfl⟩
    | cons a l ih =>
      intro k
      obtain ⟨y, r⟩ := a
      by_cases h : y = x
      · subst h
        exact ⟨ts k, by simp [valueAt]⟩
      · obtain ⟨t, ht⟩ := ih (k + 1)
        refine ⟨t, ?_⟩
        have h2 : (x == y) = false := by simpa using fun e => h e.symm
        rw [List.lookup_cons, h2]
        simp only [List.zipIdx_cons, List.map_cons, valueAt]
        rw [List.find?_cons_of_neg (by simpa using h)]
        exact ht
  exact key rankS 0
end Mine
end
section
open PySem PySem.W PySem.W.X PyProof.Rows PySem.Calls
set_option maxRecDepth 100000
set_option maxHeartbeats 8000000
namespace Mine
/-- entering a def of the text: all that stands stays -/
theorem enterR {w : World} {K : Frag} {A : Around} {s : Shared} {mg mb : Str → Option Value} {f : Addr} {args : Args} {binds : List (Str × Value)}
    {name qual : Str} {params : Arguments} {body : List Stmt} {scope : Scope} {dV kV doc pm cdv ct oc : Value} {an od : Option Addr} {osl : Array (Option Value)} {Q E : Value → Shared → Prop}
    (X : K.In s.heap) (T : TopRead q1 loose1 mg mb s.heap)
    (ho : K.lookup f = some ⟨oc, od, .func (fnOf name qual params body scope dV kV doc pm an cdv ct), osl⟩) (hcd : codeIn K cdv qual = true) (hroom : A.depth < recursionLimit)
    (hbind : BindsTo s (fnOf name qual params body scope dV kV doc pm an cdv ct) args binds) (hloc : ∀ y ∈ binds, scope.names.lookup y.1 = some .local)
    (h : ∀ g L h₁, g = s.heap → Fr g L h₁ (fun y => binds.reverse.lookup y) → News g L h₁ [] → K.In g → TopRead q1 loose1 mg mb g →
      wpAny (model pw w) (A.deeper (envOf qual scope L f cdv)) (execs body (envOf qual scope L f cdv)) (fun fl s' => Q (match fl with | .ret v => v | _ => .none) s')
        (fun e s' => wpAny (model pw w) (A.deeper (envOf qual scope L f cdv)) (leaving (envOf qual scope L f cdv) e) (fun _ s'' => E e s'') (fun e' s'' => E e' s'') s')
        { s with heap := h₁, toks := s.toks + binds.length })
    (hco : scope.isCoroutine = false) (hgen : scope.isGenerator = false) (hk : scope.kind = .function) (hcell : ∀ x ∈ scope.names, x.2 ≠ .cell) :
    wpAny (model pw w) A (PySem.call (.ref f) args.pos args.kw) Q E s := by
  refine wpAny_call (codeAny_call_def (fd := fnOf name qual params body scope dV kV doc pm an cdv ct) (body := body) (binds := binds) hroom (X _ _ ho) rfl T.nolimit (codeRec_of X hcd) rfl hbind hcell hloc (fun h₁ hns hk₁ => ?_) hco hgen hk)
  exact h s.heap s.heap.objs.size h₁ rfl ⟨hns, hk₁, Nat.le_refl _⟩ News.nil X T
theorem num_spec' {w : World} {mg mb : Str → Option Value} {dp un : Nat} {gd : Option (List Code)} {outer : List Env} {s : Shared} {Q E : Value → Shared → Prop} {run : Str} {t : Tok}
    (X : (K3 w.params).In s.heap) (T : TopRead q1 loose1 mg mb s.heap) (hd : dp + 5 < recursionLimit) (hu : un + 40 < cLine)
    (hdg : ∀ a ∈ signs run, 0 ≤ Txt.find (Str.ofString "0123456789") a)
    (hret : ∀ t' h' tk', (∀ b o, s.heap.get? b = some o → h'.get? b = some o) → Q (.int (numOf run) t') { s with heap := h', toks := tk' }) :
    wpAny (model pw w) (actx dp un gd outer) (call (.ref 780) [.str run t]) Q E s := by
  have hfill : PySem.Challenge.rw_ox0114_01 = PySem.Challenge.rw_ox0114_01 ∧ K3 = K3 := by
    k_fill
    exact ⟨rfl, rfl⟩
  clear hfill
  k_dflt (refine' enterR (args := ⟨[.str run t], []⟩) (binds := [(Str.ofString "run", .str run t)]) X T ?k6 ?k7 ?k8 ?k9 ?kB ?_ ?c2 ?c3 ?c4 ?c5; (case k6 => k_is); (case k7 => k_is); (case k8 => (dsimp only; omega)); (case k9 => exact BindsTo.of_eq rfl); (case c5 => decide); (case kB => exact locs rfl); (case c2 => exact rfl); (case c3 => exact rfl); (case c4 => exact rfl); k_whole)
  intro g' L' h' hg F' N' X' T'
  (try dsimp only); (try k_fold)
  k_steps
  · exfalso
    rename Txt.find _ _ = -1 => hf
    have := hdg _ (by assumption)
    omega
  · subst hg
    exact hret _ _ _ (Fr.keep (by assumption))
end Mine
end
section
open PySem PySem.W PySem.W.X PyProof.Rows PySem.Calls
set_option maxRecDepth 100000
set_option maxHeartbeats 4000000
namespace Mine
section
variable {prog : Program} {w : World} {A : Around} {E : Value → Shared → Prop} {s : Shared} {env : PySem.Env} {h₀ : Heap} {L : Addr} {m : Str → Option Value}
/-- a comprehension over a known list, at a place of a walk -/
theorem comp_at {elt iter : PySem.Expr} {x : Str} {px : Pos} {ifs : List PySem.Expr} {scope : Scope} {pos : Pos} {Q : Value → Shared → Prop} (p : Value → Bool) (R : Value → Value → Prop)
    (F₀ : Fr h₀ L s.heap m) (hh : A.handled = none) (hfree : ∀ y ∈ scope.names, y.2 ≠ .free) (hcell : ∀ y ∈ scope.names, y.2 ≠ .cell) (hkind : scope.kind = .function)
    (hnames : ∀ y ∈ scope.names, y.2 = .local → scope.names.lookup y.1 = some .local) (hx : scope.names.lookup x = some .local)
    (h : wpAny (model prog w) A (eval iter env) (fun xv s₁ => ∃ ax items news, xv = .ref ax ∧ Fr h₀ L s₁.heap m ∧ News h₀ L s₁.heap news ∧ s₁.heap.IsList ax items ∧ items.size ≤ sizeLine ∧
      (∀ C v s₂ m₂ E', v ∈ items → s₂.heap.Ns C m₂ → m₂ x = some v → (∀ b o, s₁.heap.get? b = some o → s₂.heap.get? b = some o) →
        wpAny (model prog w) A (forIn ifs true fun c r => if r = true then do let ok ← isTrue c (compEnv scope C env) (eval c (compEnv scope C env)); pure (ForInStep.yield ok) else pure (ForInStep.yield r))
          (fun ok s₃ => ok = p v ∧ Keeps s₂ s₃) E' s₂) ∧
      (∀ C v s₂ m₂ E', v ∈ items → p v = true → s₂.heap.Ns C m₂ → m₂ x = some v → (∀ b o, s₁.heap.get? b = some o → s₂.heap.get? b = some o) → wpAny (model prog w) A (eval elt (compEnv scope C env)) (fun y s₃ => R v y ∧ Keeps s₂ s₃) E' s₂) ∧
      (∀ D h' tk ys, h'.IsList D ys → Paired R (items.toList.filter p) ys.toList → Fr h₀ L h' m → News h₀ L h' news → h₀.get? D = none → D ≠ L → (∀ q ∈ news, q.1 ≠ D) → Q (.ref D) { s₁ with heap := h', toks := tk })) E s)
    (hs : ∀ x, foldedSetIterable iter env x = pure x := by intro _; rfl) :
    wpAny (model prog w) A (eval (.ListComp elt [⟨.Name x px, iter, ifs, 0⟩] scope pos) env) Q E s := by
  refine wpAny_ListComp_map p R hh hfree hcell hkind hnames hx (wpAny_mono h (fun xv s₁ h₁ => ?_) fun _ _ e => e) hs
  obtain ⟨ax, items, news, rfl, F, N, hl, hz, ht, he, hq⟩ := h₁
  refine ⟨ax, items, rfl, hl, hz, ht, he, fun D h' tk ys hD hL' hP hk => ?_⟩
  refine hq D h' tk ys hL' hP (F.of_stays (fun b o e => hk b o (F.keep b o e)) (Heap.UpToSlots.of_keeps hk)) (fun q hq => ⟨hk _ _ (N q hq).1, (N q hq).2⟩) ?_ ?_ ?_
  · cases e : h₀.get? D with
    | none => rfl
    | some o => rw [F.keep D o e] at hD; cases hD
  · rintro rfl
    obtain ⟨o, _, _, ho, _⟩ := F.ns
    rw [hD] at ho
    cases ho
  · rintro q hq rfl
    rw [(N q hq).1] at hD
    cases hD
end
end Mine
end
section
open PySem PySem.W PySem.W.X PyProof.Rows PySem.Calls
set_option maxRecDepth 100000
set_option maxHeartbeats 4000000
namespace Mine
noncomputable def joinC (sep : List Nat) : List (List Nat) → List Nat
  | [] => []
  | [a] => a
  | a :: b :: r => a ++ (sep ++ joinC sep (b :: r))
theorem rOf_whites : ∀ {sep : List Nat} {l : List Nat}, (∀ c ∈ sep, kd c = sWhite) → rOf (sep ++ l) = rOf l
  | [], _, _ => rfl
  | c :: sep, l, h => by
    show rOf (c :: (sep ++ l)) = _
    rw [rOf_white (h c (.head _))]
    exact rOf_whites fun d hd => h d (.tail _ hd)
theorem str_eta (x : Str) : (⟨x.cps.toList.toArray⟩ : Str) = x := by
  obtain ⟨⟨l⟩⟩ := x
  rfl
theorem rOf_join {sep : List Nat} (h0 : sep ≠ []) (hw : ∀ c ∈ sep, kd c = sWhite) : ∀ (rs : List Str), (∀ r ∈ rs, TokOf r) → rOf (joinC sep (rs.map (·.cps.toList))) = rs
  | [], _ => rfl
  | [a], h => by
    show rOf a.cps.toList = [a]
    rcases h a (.head _) with ht | ht
    · rw [rOf_tok ht, str_eta]
    · rw [rOf_tok ht, str_eta]
  | a :: b :: r, h => by
    have ih := rOf_join h0 hw (b :: r) fun x hx => h x (.tail _ hx)
    show rOf (a.cps.toList ++ (sep ++ joinC sep ((b :: r).map (·.cps.toList)))) = _
    obtain ⟨c, s, rfl⟩ := List.exists_cons_of_ne_nil h0
    have hc := hw c (.head _)
    have hs : ∀ d ∈ s, kd d = sWhite := fun d hd => hw d (.tail _ hd)
    show rOf (a.cps.toList ++ c :: (s ++ joinC (c :: s) ((b :: r).map (·.cps.toList)))) = _
    rcases h a (.head _) with ht | ht
    · rw [rOf_tokW ht hc, rOf_whites hs, ih, str_eta]
    · rw [rOf_tokW ht hc, rOf_whites hs, ih, str_eta]
end Mine
end
section
open PySem PySem.W PySem.W.X PyProof.Rows PySem.Calls
set_option maxRecDepth 100000
set_option maxHeartbeats 4000000
namespace Mine
theorem join_toList (sep : Str) : ∀ (rs : List Str), (Txt.join sep rs).cps.toList = joinC sep.cps.toList (rs.map (·.cps.toList)) := by
  intro rs
  show (Builtin.Str.glued sep rs).cps.toList = _
  rw [StrLaws.glued_eq_join]
  induction rs with
  | nil => rfl
  | cons a r ih =>
    cases r with
    | nil => rfl
    | cons b r =>
      show ((a.cps ++ sep.cps) ++ (Str.join sep (b :: r)).cps).toList = _
      rw [Array.toList_append, Array.toList_append, ih, List.append_assoc]
      rfl
theorem cut_eq {c : Nat} : ∀ {x y r r' : List Nat}, c ∉ x → c ∉ y → x ++ c :: r = y ++ c :: r' → x = y ∧ r = r'
  | [], [], _, _, _, _, h => ⟨rfl, (List.cons.inj h).2⟩
  | [], b :: y, _, _, _, hy, h => absurd (List.cons.inj h).1 fun e => hy (e ▸ .head _)
  | a :: x, [], _, _, hx, _, h => absurd (List.cons.inj h).1 fun e => hx (e ▸ .head _)
  | a :: x, b :: y, _, _, hx, hy, h => by
    obtain ⟨h1, h2⟩ := List.cons.inj h
    obtain ⟨h3, h4⟩ := cut_eq (fun q => hx (.tail _ q)) (fun q => hy (.tail _ q)) h2
    exact ⟨by rw [h1, h3], h4⟩
theorem joinC_inj {c : Nat} : ∀ (a b : List (List Nat)), a ≠ [] → b ≠ [] → (∀ l ∈ a, c ∉ l) → (∀ l ∈ b, c ∉ l) → joinC [c] a = joinC [c] b → a = b
  | [], _, h, _, _, _, _ => absurd rfl h
  | _ :: _, [], _, h, _, _, _ => absurd rfl h
  | [x], [y], _, _, _, _, e => by rw [show x = y from e]
  | [x], y :: z :: r, _, _, hx, _, e => absurd (hx x (.head _)) (by rw [show x = y ++ ([c] ++ joinC [c] (z :: r)) from e]; simp)
  | x :: z :: r, [y], _, _, _, hy, e => absurd (hy y (.head _)) (by rw [← show x ++ ([c] ++ joinC [c] (z :: r)) = y from e]; simp)
  | x :: z :: r, y :: z' :: r', _, _, hx, hy, e => by
    have e2 : x ++ c :: joinC [c] (z :: r) = y ++ c :: joinC [c] (z' :: r') := e
    obtain ⟨h1, h2⟩ := cut_eq (hx x (.head _)) (hy y (.head _)) e2
    have := joinC_inj (z :: r) (z' :: r') (by simp) (by simp) (fun l hl => hx l (.tail _ hl)) (fun l hl => hy l (.tail _ hl)) h2
    rw [h1, this]
theorem str_inj {a b : Str} (h : a.cps.toList = b.cps.toList) : a = b := by rw [← str_eta a, ← str_eta b, h]
theorem map_inj {a b : List Str} (h : a.map (·.cps.toList) = b.map (·.cps.toList)) : a = b := by
  induction a generalizing b with
  | nil => cases b with
    | nil => rfl
    | cons _ _ => cases h
  | cons x a ih => cases b with
    | nil => cases h
    | cons y b =>
      obtain ⟨h1, h2⟩ := List.cons.inj h
      rw [str_inj h1, ih h2]
/-- the parts of glued texts without the sign between -/
theorem split_join {c : Nat} {rs : List Str} (h0 : rs ≠ []) (hf : ∀ r ∈ rs, c ∉ r.cps.toList) : Txt.split (Txt.join ⟨#[c]⟩ rs) ⟨#[c]⟩ = rs := by
  have e := StrLaws.join_split (Txt.join ⟨#[c]⟩ rs) ⟨#[c]⟩
  have e1 := join_toList ⟨#[c]⟩ (Txt.split (Txt.join ⟨#[c]⟩ rs) ⟨#[c]⟩)
  rw [show Txt.join ⟨#[c]⟩ (Txt.split (Txt.join ⟨#[c]⟩ rs) ⟨#[c]⟩) = Txt.join ⟨#[c]⟩ rs from (StrLaws.glued_eq_join _ _).trans e, join_toList] at e1
  refine (map_inj (joinC_inj _ _ ?_ ?_ ?_ ?_ e1)).symm
  · simpa using h0
  · have := split_pos (Txt.join ⟨#[c]⟩ rs) ⟨#[c]⟩
    intro q
    have q := congrArg List.length q
    simp at q
    rw [q] at this
    cases this
  · intro l hl
    obtain ⟨r, hr, rfl⟩ := List.mem_map.mp hl
    exact hf r hr
  · intro l hl
    obtain ⟨r, hr, rfl⟩ := List.mem_map.mp hl
    exact StrLaws.split_free _ _ r hr
theorem tok_white {k : Str} {l : List Nat} (h : IsTok k l) : ∀ c, kd c = sWhite → c ∉ l := fun c hc hm => h.2.1 (by rw [← h.2.2 c hm, hc])
theorem tok_free {r : Str} (h : TokOf r) : ∀ c, kd c = sWhite → c ∉ r.cps.toList := fun c hc => h.elim (fun h => tok_white h c hc) fun h => tok_white h c hc
theorem kd_dot : kd 46 = sWhite := by decide +kernel
theorem split_toks {rs : List Str} (h0 : rs ≠ []) (ht : ∀ r ∈ rs, TokOf r) : Txt.split (Txt.join (Str.ofString ".") rs) (Str.ofString ".") = rs :=
  split_join (c := 46) h0 fun r hr => tok_free (ht r hr) _ kd_dot
theorem rOf_join_toks {sep : Str} {rs : List Str} (h0 : sep.cps.toList ≠ []) (hw : ∀ c ∈ sep.cps.toList, kd c = sWhite) (ht : ∀ r ∈ rs, TokOf r) : rOf (Txt.join sep rs).cps.toList = rs := by
  rw [join_toList]
  exact rOf_join h0 hw rs ht
noncomputable def sumLen (l : List Str) : Nat := (l.map (·.length)).sum
theorem sumLen_append (a b : List Str) : sumLen (a ++ b) = sumLen a + sumLen b := by simp [sumLen]
theorem sumLen_dropLast (l : List Str) : sumLen l.dropLast + (l.getLastD (Str.ofString "")).length = sumLen l := by
  by_cases h : l = []
  · subst h
    rfl
  · have e := List.dropLast_concat_getLast h
    have e2 : l.getLastD (Str.ofString "") = l.getLast h := by rw [List.getLastD_eq_getLast?, List.getLast?_eq_some_getLast h]; rfl
    rw [e2]
    have := sumLen_append l.dropLast [l.getLast h]
    rw [e] at this
    rw [this]
    simp [sumLen]
/-- the runs hold no more signs than the text -/
theorem rOf_sum : ∀ (l : List Nat), sumLen (rOf l) ≤ l.length := by
  have key : ∀ (l : List Nat) (x : List Str × Str), sumLen (foldN x l).1 ≤ sumLen x.1 + l.length := by
    intro l
    induction l with
    | nil => intro x; exact Nat.le_refl _
    | cons c l ih =>
      intro x
      show sumLen (foldN (runStep x (c : Int)) l).1 ≤ _
      have h1 := ih (runStep x (c : Int))
      have h2 : sumLen (runStep x (c : Int)).1 ≤ sumLen x.1 + 1 := by
        rw [stepN]
        split
        · exact Nat.le_succ _
        · split
          · have h3 : (x.1.getLastD (Str.ofString "") ++ (⟨#[c]⟩ : Str)).length = (x.1.getLastD (Str.ofString "")).length + 1 := by
              show ((x.1.getLastD (Str.ofString "")).cps ++ #[c]).size = _
              simp [Str.length]
            have h4 := sumLen_dropLast x.1
            rw [sumLen_append]
            show _ + sumLen [_] ≤ _
            simp only [sumLen, List.map_cons, List.map_nil, List.sum_cons, List.sum_nil, h3] at h4 ⊢
            omega
          · rw [sumLen_append]
            exact Nat.le_refl _
      simp only [List.length_cons]
      omega
  intro l
  have := key l ([], sWhite)
  rw [rOf_eq]
  simpa [sumLen] using this
theorem join_length (sep : Str) (rs : List Str) : (Txt.join sep rs).length ≤ sumLen rs + rs.length * sep.length := by
  show (Builtin.Str.glued sep rs).length ≤ _
  rw [StrLaws.glued_eq_join]
  exact StrLaws.join_length_le sep rs
theorem joinC_mem {sep : List Nat} : ∀ {ls : List (List Nat)} {c : Nat}, c ∈ joinC sep ls → c ∈ sep ∨ ∃ l ∈ ls, c ∈ l
  | [], _, h => nomatch h
  | [a], _, h => .inr ⟨a, .head _, h⟩
  | a :: b :: r, c, h => by
    have h : c ∈ a ++ (sep ++ joinC sep (b :: r)) := h
    rcases List.mem_append.mp h with h | h
    · exact .inr ⟨a, .head _, h⟩
    · rcases List.mem_append.mp h with h | h
      · exact .inl h
      · rcases joinC_mem h with h | ⟨l, hl, hc⟩
        · exact .inl h
        · exact .inr ⟨l, .tail _ hl, hc⟩
end Mine
end
section
open PySem PySem.W PySem.W.X PyProof.Rows PySem.Calls PySem.NumText
set_option maxRecDepth 100000
set_option maxHeartbeats 4000000
namespace Mine
noncomputable abbrev IsFig (r : Str) : Prop := IsTok sFigure r.cps.toList
noncomputable def numS (x : Str) : Str := Str.ofString (toString (numOf x))
/-- what is short of these runs -/
noncomputable def shortOf (rs : List Str) : Str := by
  classical
  exact if ∀ r ∈ rs, IsFig r then Txt.join (Str.ofString ".") ((rs.take 3).map numS) else Txt.join (Str.ofString ".") (rs.take 3)
theorem short_fig {rs : List Str} (h : ∀ r ∈ rs, IsFig r) : shortOf rs = Txt.join (Str.ofString ".") ((rs.take 3).map numS) := if_pos h
theorem short_oth {rs : List Str} (h : ¬ ∀ r ∈ rs, IsFig r) : shortOf rs = Txt.join (Str.ofString ".") (rs.take 3) := if_neg h
theorem digitsVal_lt : ∀ (l : List Nat), AllDigits l → digitsVal l < 10 ^ l.length := by
  have key : ∀ (l : List Nat) (a : Nat), AllDigits l → l.foldl (fun acc c => acc * 10 + (c - 48)) a < (a + 1) * 10 ^ l.length := by
    intro l
    induction l with
    | nil => intro a _; simp
    | cons c l ih =>
      intro a h
      have hc := h c (.head _)
      have := ih (a * 10 + (c - 48)) fun d hd => h d (.tail _ hd)
      simp only [List.foldl_cons, List.length_cons, Nat.pow_succ]
      refine Nat.lt_of_lt_of_le this ?_
      have h2 : a * 10 + (c - 48) + 1 ≤ (a + 1) * 10 := by omega
      calc (a * 10 + (c - 48) + 1) * 10 ^ l.length ≤ ((a + 1) * 10) * 10 ^ l.length := Nat.mul_le_mul_right _ h2
        _ = _ := by rw [Nat.mul_assoc, Nat.mul_comm 10]
  intro l h
  have := key l 0 h
  simpa [digitsVal] using this
theorem num_small {x : Str} (h : IsFig x) (hl : x.length ≤ 100) : (numOf x).natAbs.log2 < 1920 := by
  rw [numOf_digits (fig_digits h)]
  have h1 := digitsVal_lt _ (fig_digits h)
  rw [cps_len] at h1
  have h2 : digitsVal x.cps.toList < 10 ^ 100 := Nat.lt_of_lt_of_le h1 (Nat.pow_le_pow_right (by decide) hl)
  rw [Int.natAbs_natCast]
  by_cases h0 : digitsVal x.cps.toList = 0
  · rw [h0]
    decide
  · rw [Nat.log2_lt h0]
    exact Nat.lt_of_lt_of_le h2 (by decide +kernel)
theorem numS_len {x : Str} (h : IsFig x) (hl : x.length ≤ 100) : (numS x).length ≤ 1921 := int_text_len_1921 (num_small h hl)
section
variable {prog : Program} {w : World} {A : Around} {E : Value → Shared → Prop} {s : Shared}
/-- a known list and the empty one -/
theorem eq_nil_list {D e : Addr} {ys : Array Value} {Q : Value → Shared → Prop} (hD : s.heap.IsList D ys) (he : s.heap.IsList e #[]) (hu : A.units < cLine) (h : Q (.bool (ys.size == 0)) s) : wpAny (model prog w) A (compareOp .Eq (.ref D) (.ref e)) Q E s := by
  by_cases hz : ys.size = 0
  · refine SeqAt.eq_listAt (e := fun _ => true) hD he (by rw [hz]; rfl) hu (fun j h1 h2 => absurd h1 (by omega)) ?_
    rw [hz] at h ⊢
    exact h
  · refine SeqAt.eq_list_lengthsAt hD he (by simpa using hz) hu ?_
    have : (ys.size == 0) = false := by simpa using hz
    rw [this] at h
    exact h
end
theorem paired_eq : ∀ {a b : List Value}, Paired Eq a b → b = a
  | _, _, .nil => rfl
  | _, _, .cons h r => by rw [paired_eq r, h]
end Mine
end
section
open PySem PySem.W PySem.W.X PyProof.Rows PySem.Calls PySem.NumText
set_option maxRecDepth 100000
set_option maxHeartbeats 4000000
namespace Mine
namespace MP
theorem slot_init : Slot "map" "__init__" "object.__init__" :=
  .of (owner := "object") (n := "__init__") (by rw [typeLookup_type, builtinLookup_eq_fast]; kernel_rfl) (by decide +kernel) (by decide +kernel) (by decide +kernel)
    (by first | exact .inl (by decide +kernel) | exact .inr (by decide +kernel)) (by rw [isSubtype_type]; kernel_rfl)
theorem slot_iter : Slot "map" "__iter__" "map.__iter__" :=
  .of (owner := "map") (n := "__iter__") (by rw [typeLookup_type, builtinLookup_eq_fast]; kernel_rfl) (by decide +kernel) (by decide +kernel) (by decide +kernel)
    (by first | exact .inl (by decide +kernel) | exact .inr (by decide +kernel)) (by rw [isSubtype_type]; kernel_rfl)
theorem slot_next : Slot "map" "__next__" "map.__next__" :=
  .of (owner := "map") (n := "__next__") (by rw [typeLookup_type, builtinLookup_eq_fast]; kernel_rfl) (by decide +kernel) (by decide +kernel) (by decide +kernel)
    (by first | exact .inl (by decide +kernel) | exact .inr (by decide +kernel)) (by rw [isSubtype_type]; kernel_rfl)
theorem args_iter (a : Value) : argsOk "map.__iter__" ⟨[a], []⟩ := by unfold argsOk; kernel_rfl
theorem args_next (a : Value) : argsOk "map.__next__" ⟨[a], []⟩ := by unfold argsOk; kernel_rfl
theorem entry_next : entryFor table "map.__next__" = some Builtin.«map.__next__» := entryFor_of_tree (by kernel_rfl)
theorem entry_iter : entryFor table "map.__iter__" = some Builtin.«dict_keyiterator.__iter__» :=
  entryFor_alias (id' := "dict_keyiterator.__iter__") (by kernel_rfl) (by first | rfl | decide +kernel | (unfold String.splitOn; simp +decide [String.splitOnAux])) (by decide +kernel) (by kernel_rfl)
theorem mro : mroOf (.type "map") = pure [.type "map", .type "object"] := by rw [mroOf_type]; kernel_rfl
theorem lookup_new : typeLookup (.type "map") "__new__" = pure (some (.builtin "map.__new__")) := by rw [typeLookup_type, builtinLookup_eq_fast]; kernel_rfl
theorem called : TypeCalled "map" "map.__new__" "object.__init__" :=
  ⟨by decide +kernel, by decide +kernel, ⟨_, _, mro⟩, madeBy_type mro lookup_new (by decide +kernel), by decide +kernel, by rw [isSubtype_type]; kernel_rfl, slot_init⟩
theorem typeCall (a b : Value) : checkTypeCall "map" ⟨[a, b], []⟩ = pure () := by kernel_rfl
theorem newCall (a b : Value) : checkBuiltinCall "map.__new__" ⟨[.type "map", a, b], []⟩ = pure () := by kernel_rfl
theorem entry_new : entryFor table "map.__new__" = some Builtin.«map.__new__» := entryFor_of_tree (by kernel_rfl)
theorem sub : isSubtype (.type "map") (.type "map") = pure true := by rw [isSubtype_type]; kernel_rfl
theorem length_hint : typeLookup (.type "map") "__length_hint__" = pure none := by rw [typeLookup_type, builtinLookup_eq_fast]; kernel_rfl
end MP
noncomputable abbrev mapObj (T : Addr) (f : Value) : Obj := { cls := .type "map", dict := none, data := .fields #[.ref T, f], slots := #[] }
noncomputable abbrev oneObj (i : Addr) : Obj := { cls := .type "tuple", data := .seq #[.ref i] }
section
variable {prog : Program} {w : World} {A : Around} {E : Value → Shared → Prop} {s : Shared}
theorem map_next {z T : Addr} {it f : Value} {Q : Value → Shared → Prop} (hz : s.heap.get? z = some (mapObj T f)) (hT : s.heap.get? T = some { cls := .type "tuple", data := .seq #[it] })
    (h : wpAny (model prog w) A (Builtin.SmallTypes.nextOf it) (fun v s₁ => s₁.heap.get? z = some (mapObj T f) ∧ wpAny (model prog w) A (call f [v]) Q E s₁) E s) :
    wpAny (model prog w) A (Builtin.«map.__next__» ⟨[.ref z], []⟩) (fun fin s' => ∃ v, fin = .done (.ret v) ∧ Q v s') E s := by
  show wpAny _ _ (field (.ref z) 0 >>= _) _ _ _
  refine wpAny_bind (wpAny_field hz rfl (x := .ref T) rfl ?_)
  refine wpAny_bind (wpAny_seqItems hT rfl ?_)
  refine wpAny_bind ?_
  rw [← Array.forIn_toList]
  simp only [List.forIn_cons, List.forIn_nil]
  refine wpAny_bind (wpAny_bind (wpAny_holding (wpAny_mono h (fun v s₁ hv => ?_) fun _ _ e => e)))
  obtain ⟨hz1, hv⟩ := hv
  refine wpAny_pure ?_
  refine wpAny_pure ?_
  refine wpAny_bind (wpAny_field hz1 rfl (x := f) rfl ?_)
  refine wpAny_bind (wpAny_holding (wpAny_mono hv (fun r s₂ hr => ?_) fun _ _ e => e))
  refine wpAny_bind (wpAny_letGo ?_)
  exact wpAny_pure ⟨r, rfl, hr⟩
theorem nextOf_map {z T : Addr} {it f : Value} {Q : Value → Shared → Prop} (hz : s.heap.get? z = some (mapObj T f)) (hT : s.heap.get? T = some { cls := .type "tuple", data := .seq #[it] })
    (h : wpAny (model prog w) A.in1 (Builtin.SmallTypes.nextOf it) (fun v s₁ => s₁.heap.get? z = some (mapObj T f) ∧ wpAny (model prog w) A.in1 (call f [v]) Q E s₁) E s) :
    wpAny (model prog w) A (Builtin.SmallTypes.nextOf (.ref z)) Q E s := by
  have ht : s.TypeIs (.ref z) "map" := ⟨_, hz, rfl⟩
  unfold Builtin.SmallTypes.nextOf
  refine wpAny_bind (wpAny_callSpecial?_slot (name := Str.ofString "__next__") ht MP.slot_next (wpAny_call_entry MP.slot_next ht MP.entry_next (map_next hz hT ?_) (MP.args_next _)))
  refine wpAny_mono h (fun v s₁ hv => ⟨hv.1, wpAny_mono hv.2 (fun r s₂ hr => wpAny_pure hr) fun _ _ e => e⟩) fun _ _ e => e
theorem pyNext_map {z T : Addr} {it f : Value} {Q : Option Value → Shared → Prop} (hz : s.heap.get? z = some (mapObj T f)) (hT : s.heap.get? T = some { cls := .type "tuple", data := .seq #[it] })
    (h : wpAny (model prog w) A.in1 (Builtin.SmallTypes.nextOf it) (fun v s₁ => s₁.heap.get? z = some (mapObj T f) ∧ wpAny (model prog w) A.in1 (call f [v]) (fun r => Q (some r)) (fun e s₂ => ∃ X b, s₂.TypeIs e X ∧ isSubtype (.type X) (.type "StopIteration") = pure b ∧ if b then Q none s₂ else E e s₂) s₁)
      (fun e s₂ => ∃ X b, s₂.TypeIs e X ∧ isSubtype (.type X) (.type "StopIteration") = pure b ∧ if b then Q none s₂ else E e s₂) s) :
    wpAny (model prog w) A (pyNext (.ref z)) Q E s := by
  have ht : s.TypeIs (.ref z) "map" := ⟨_, hz, rfl⟩
  have key : ∀ e s₂, (∃ X b, s₂.TypeIs e X ∧ isSubtype (.type X) (.type "StopIteration") = pure b ∧ if b then Q none s₂ else E e s₂) →
      wpAny (model prog w) A (do if ← isInstance e (.type "StopIteration") then pure none else throw e) Q E s₂ := by
    rintro e s₂ ⟨X, b, hX, hs, hq⟩
    refine wpAny_bind (wpAny_isInstance (T := X) (b := b) hX hs ?_)
    cases b with
    | true => exact wpAny_pure hq
    | false => exact wpAny_throw hq
  unfold pyNext
  refine wpAny_bind (wpAny_attempt (wpAny_callSpecial?_slot (name := Str.ofString "__next__") ht MP.slot_next (wpAny_call_entry MP.slot_next ht MP.entry_next (map_next hz hT ?_) (MP.args_next _))))
  refine wpAny_mono h (fun v s₁ hv => ⟨hv.1, wpAny_mono hv.2 (fun r s₂ hr => wpAny_pure hr) fun e s₂ he => key e s₂ he⟩) fun e s₂ he => key e s₂ he
theorem pyIter_map {z T : Addr} {f : Value} {Q : Value → Shared → Prop} (hz : s.heap.get? z = some (mapObj T f)) (h : Q (.ref z) s) : wpAny (model prog w) A (pyIter (.ref z)) Q E s := by
  have hT : s.TypeIs (.ref z) "map" := ⟨_, hz, rfl⟩
  refine wpAny_pyIter_slot hT MP.slot_iter (wpAny_call_entry MP.slot_iter hT MP.entry_iter ?_ (MP.args_iter _))
  show wpAny _ _ (ret (.ref z)) _ _ s
  exact wpAny_pure ⟨_, rfl, "map", _, hT, MP.slot_next.lookup, h⟩
end
end Mine
end
section
open PySem PySem.W PySem.W.X PyProof.Rows PySem.Calls PySem.NumText
set_option maxRecDepth 100000
set_option maxHeartbeats 4000000
namespace Mine
noncomputable abbrev mH1 (h : Heap) (l : Addr) : Heap := h.push { cls := .type "list_iterator", data := .fields #[.ref l, .int 0 0] }
noncomputable abbrev mH2 (h : Heap) (it : Value) : Heap := h.push { cls := .type "tuple", data := .seq #[it] }
noncomputable abbrev mH3 (h : Heap) (f it : Value) : Heap := (mH2 h it).push { cls := .type "map", data := .fields #[.ref h.objs.size, f] }
theorem meets_map_list (T : String) (l : Addr) (xs : Array Value) :
    Meets (Builtin.«map.__new__» ⟨[.type "map", .type T, .ref l], []⟩) (fun _ R s => s.heap.IsList l xs ∧
      R (.ok (.ret (.ref (mH2 (mH1 s.heap l) (.ref s.heap.objs.size)).objs.size))) { s with heap := mH3 (mH1 s.heap l) (.type T) (.ref s.heap.objs.size) }) :=
  .of_wp fun prog w A R s h => by
    obtain ⟨hp, g, d, tk, os⟩ := s; obtain ⟨hl1, h⟩ := h
    have hsub := MP.sub
    have hL1 : Heap.IsList (Shared.heap ⟨hp, g, d, tk, os⟩) l xs := hl1
    wp_walk using wpAny_pyIter_list hL1
    exact ⟨_, rfl, h⟩
theorem meets_map_map (T : String) (z t : Addr) (f : Value) :
    Meets (Builtin.«map.__new__» ⟨[.type "map", .type T, .ref z], []⟩) (fun _ R s => s.heap.get? z = some (mapObj t f) ∧
      R (.ok (.ret (.ref (mH2 s.heap (.ref z)).objs.size))) { s with heap := mH3 s.heap (.type T) (.ref z) }) :=
  .of_wp fun prog w A R s h => by
    obtain ⟨hp, g, d, tk, os⟩ := s; obtain ⟨hl1, h⟩ := h
    have hsub := MP.sub
    have hL1 : (Shared.heap ⟨hp, g, d, tk, os⟩).get? z = some (mapObj t f) := hl1
    wp_walk using pyIter_map hL1
    exact ⟨_, rfl, h⟩
section
variable {prog : Program} {w : World} {A : Around} {E : Value → Shared → Prop} {s : Shared}
theorem call_map_list {T : String} {l : Addr} {xs : Array Value} {Q : Value → Shared → Prop} (hl : s.heap.IsList l xs)
    (h : ∀ h' z t i, h'.get? z = some (mapObj t (.type T)) → h'.get? t = some (oneObj i) → h'.IsListIter i l 0 → (∀ c o, s.heap.get? c = some o → h'.get? c = some o) → s.heap.get? z = none → s.heap.get? t = none → s.heap.get? i = none → i < t → t < z → Q (.ref z) { s with heap := h' }) :
    wpAny (model prog w) A (call (.type "map") [.type T, .ref l]) Q E s := by
  refine callType_new MP.called (by decide) (MP.typeCall _ _) (MP.newCall _ _) (fun obj => F.args_object_init_3 obj _ _) MP.entry_new (meets_map_list T l xs) ⟨hl, ?_⟩
  have none_of : ∀ c, s.heap.objs.size ≤ c → s.heap.get? c = none := fun c hc => by
    cases e : s.heap.get? c with
    | none => rfl
    | some o => exact absurd (Heap.lt_size e) (Nat.not_lt.mpr hc)
  have z1 : (mH1 s.heap l).objs.size = s.heap.objs.size + 1 := Heap.size_push ..
  have z2 : (mH2 (mH1 s.heap l) (.ref s.heap.objs.size)).objs.size = s.heap.objs.size + 2 := by rw [Heap.size_push, z1]
  have g3 : (mH3 (mH1 s.heap l) (.type T) (.ref s.heap.objs.size)).get? (mH2 (mH1 s.heap l) (.ref s.heap.objs.size)).objs.size = some _ := Heap.get?_push_size _ rfl
  have g2 : (mH3 (mH1 s.heap l) (.type T) (.ref s.heap.objs.size)).get? (mH1 s.heap l).objs.size = some _ := Heap.get?_push_of_some _ (Heap.get?_push_size _ rfl)
  have g1 : (mH3 (mH1 s.heap l) (.type T) (.ref s.heap.objs.size)).get? s.heap.objs.size = some _ := Heap.get?_push_of_some _ (Heap.get?_push_of_some _ (Heap.get?_push_size _ rfl))
  exact ⟨⟨_, g3, rfl⟩, h _ _ _ _ g3 g2 ⟨_, g1, rfl, rfl⟩ (fun c o x => Heap.get?_push_of_some _ (Heap.get?_push_of_some _ (Heap.get?_push_of_some _ x))) (none_of _ (by rw [z2]; omega)) (none_of _ (by rw [z1]; omega)) (none_of _ (Nat.le_refl _)) (by rw [z1]; exact Nat.lt_succ_self _) (by rw [z1, z2]; exact Nat.lt_succ_self _)⟩
theorem call_map_map {T : String} {z t : Addr} {f : Value} {Q : Value → Shared → Prop} (hz : s.heap.get? z = some (mapObj t f))
    (h : ∀ h' y u, h'.get? y = some (mapObj u (.type T)) → h'.get? u = some (oneObj z) → (∀ c o, s.heap.get? c = some o → h'.get? c = some o) → s.heap.get? y = none → s.heap.get? u = none → u < y → Q (.ref y) { s with heap := h' }) :
    wpAny (model prog w) A (call (.type "map") [.type T, .ref z]) Q E s := by
  refine callType_new MP.called (by decide) (MP.typeCall _ _) (MP.newCall _ _) (fun obj => F.args_object_init_3 obj _ _) MP.entry_new (meets_map_map T z t f) ⟨hz, ?_⟩
  have none_of : ∀ c, s.heap.objs.size ≤ c → s.heap.get? c = none := fun c hc => by
    cases e : s.heap.get? c with
    | none => rfl
    | some o => exact absurd (Heap.lt_size e) (Nat.not_lt.mpr hc)
  have z1 : (mH2 s.heap (.ref z)).objs.size = s.heap.objs.size + 1 := Heap.size_push ..
  have g3 : (mH3 s.heap (.type T) (.ref z)).get? (mH2 s.heap (.ref z)).objs.size = some _ := Heap.get?_push_size _ rfl
  have g2 : (mH3 s.heap (.type T) (.ref z)).get? s.heap.objs.size = some _ := Heap.get?_push_of_some _ (Heap.get?_push_size _ rfl)
  exact ⟨⟨_, g3, rfl⟩, h _ _ _ g3 g2 (fun c o x => Heap.get?_push_of_some _ (Heap.get?_push_of_some _ x)) (none_of _ (by rw [z1]; omega)) (none_of _ (Nat.le_refl _)) (by rw [z1]; exact Nat.lt_succ_self _)⟩
theorem int1_ok {x : Str} {t : Tok} {n : Int} {Q : Value → Shared → Prop} (hl : x.length ≤ 640) (hn : PySem.intText? x = some n) (h : ∀ tk t, Q (.int n t) { s with toks := tk }) : wpAny (model prog w) A (call (.type "int") [.str x t]) Q E s :=
  callType_new (S := okS n) F.called_int F.newNe_int (F.typeCall_int_1 _) (F.newCall_int_1 _) (fun obj => F.args_object_init_2 obj _) F.entry_int_new (fun prog w A R s hS => one_open fun tk => text_value hl hn fun tk t => hS tk t) fun tk t => ⟨rfl, h tk t⟩
/-- the objects of str over int over a list -/
structure Maps (h : Heap) (z2 T2 z1 T1 I l : Addr) (vs : List Value) (i : Nat) : Prop where
  z2 : h.get? z2 = some (mapObj T2 (.type "str"))
  T2 : h.get? T2 = some (oneObj z1)
  z1 : h.get? z1 = some (mapObj T1 (.type "int"))
  T1 : h.get? T1 = some (oneObj I)
  I : h.IsListIter I l i
  l : h.IsList l vs.toArray
theorem Maps.ne {h : Heap} {z2 T2 z1 T1 I l : Addr} {vs : List Value} {i : Nat} (M : Maps h z2 T2 z1 T1 I l vs i) : z2 ≠ I ∧ T2 ≠ I ∧ z1 ≠ I ∧ T1 ≠ I ∧ l ≠ I := by
  obtain ⟨o, ho, hc, hd⟩ := M.I
  obtain ⟨o', ho', hc', n, hd'⟩ := M.l
  refine ⟨?_, ?_, ?_, ?_, ?_⟩
  · rintro rfl
    rw [M.z2] at ho
    injection ho with ho
    rw [← ho] at hc
    exact absurd hc (show ¬ Value.type "map" = Value.type "list_iterator" by decide)
  · rintro rfl
    rw [M.T2] at ho
    injection ho with ho
    rw [← ho] at hc
    exact absurd hc (show ¬ Value.type "tuple" = Value.type "list_iterator" by decide)
  · rintro rfl
    rw [M.z1] at ho
    injection ho with ho
    rw [← ho] at hc
    exact absurd hc (show ¬ Value.type "map" = Value.type "list_iterator" by decide)
  · rintro rfl
    rw [M.T1] at ho
    injection ho with ho
    rw [← ho] at hc
    exact absurd hc (show ¬ Value.type "tuple" = Value.type "list_iterator" by decide)
  · rintro rfl
    rw [ho'] at ho
    injection ho with ho
    rw [← ho, hc'] at hc
    exact absurd hc (show ¬ Value.type "list" = Value.type "list_iterator" by decide)
theorem Maps.keeps {h h' : Heap} {z2 T2 z1 T1 I l : Addr} {vs : List Value} {i j : Nat} (M : Maps h z2 T2 z1 T1 I l vs i) (hI : h'.IsListIter I l j) (hk : ∀ b o, b ≠ I → h.get? b = some o → h'.get? b = some o) : Maps h' z2 T2 z1 T1 I l vs j :=
  have n := M.ne
  ⟨hk _ _ n.1 M.z2, hk _ _ n.2.1 M.T2, hk _ _ n.2.2.1 M.z1, hk _ _ n.2.2.2.1 M.T1, hI, M.l.at fun o e => hk _ o n.2.2.2.2 e⟩
theorem sub_ValueError_Stop : isSubtype (.type "ValueError") (.type "StopIteration") = pure false := by rw [isSubtype_type]; kernel_rfl
theorem maps_item {z2 T2 z1 T1 I l : Addr} {vs : List Value} {i : Nat} {r : Str} {t : Tok} {Q : Option Value → Shared → Prop} (M : Maps s.heap z2 T2 z1 T1 I l vs i) (hx : vs[i]? = some (.str r t)) (hr : IsFig r) (hl : r.length ≤ 100)
    (hQ : ∀ h' tk t', h'.IsListIter I l (i + 1) → Heap.SameBut I s.heap h' → Q (some (.str (numS r) t')) { s with heap := h', toks := tk }) : wpAny (model prog w) A (pyNext (.ref z2)) Q E s := by
  have n := M.ne
  refine pyNext_map M.z2 M.T2 (nextOf_map M.z1 M.T1 ?_)
  refine wpAny_nextOf_list_item M.I M.l (by simpa using hx) fun h1 hI hS => ⟨hS.extBut _ _ n.2.2.1 M.z1, ?_⟩
  refine int1_ok (Nat.le_trans hl (by decide)) (fig_int hr (Nat.le_trans hl (by decide))) fun tk t1 => ⟨hS.extBut _ _ n.1 M.z2, ?_⟩
  refine P.str_of_int (num_small hr hl) ?_
  exact hQ h1 _ _ hI hS
theorem maps_end {z2 T2 z1 T1 I l : Addr} {vs : List Value} {i : Nat} {Q : Option Value → Shared → Prop} (hh : A.handled = none) (M : Maps s.heap z2 T2 z1 T1 I l vs i) (hx : vs[i]? = none)
    (hQ : ∀ h', Heap.ExtBut I s.heap h' → Q none { s with heap := h' }) : wpAny (model prog w) A (pyNext (.ref z2)) Q E s := by
  refine pyNext_map M.z2 M.T2 (nextOf_map M.z1 M.T1 ?_)
  refine wpAny_nextOf_list_end hh M.I M.l (by simpa using hx) fun h1 e hS he => ?_
  obtain ⟨o, ho, hc⟩ := he
  exact ⟨"StopIteration", true, ⟨o, ho, hc⟩, isSubtype_stop, hQ h1 hS⟩
end
end Mine
end
section
open PySem PySem.W PySem.W.X PyProof.Rows PySem.Calls PySem.NumText Builtin
set_option maxRecDepth 100000
set_option maxHeartbeats 400000
namespace Mine
/-- contexts in which no refusal is marked -/
structure Shut (P : Ctx → Prop) : Prop where
  enter : ∀ Γ c h p, c.env? = none → P Γ → P (Γ.enter c h p)
  goto : ∀ Γ c, c.env? = none → P Γ → P (Γ.goto c)
  no : ∀ Γ p, P Γ → pythonCodeMadeTheCall ["int.__new__"] (((Γ.code, p) :: Γ.below).map (·.1)) = false
section
variable {P : Ctx → Prop} {prog : Program} {w : World} {A : Around} {E : Value → Shared → Prop} {s : Shared}
theorem mark_on {M : Model} {e : Addr} {Q : Unit → Shared → Prop} (sh : Shut P) (h : Q () s) : wpOn P M A (markTheRefusal ["int.__new__"] (.ref e)) Q E s := by
  unfold markTheRefusal
  refine on_bind (on_stack fun Γ p hP _ => ?_)
  rw [sh.no Γ p hP]
  exact on_pure h
theorem on_ite_t {M : Model} {α : Type} {c : Prop} [Decidable c] {a b : Sem α} {Q : α → Shared → Prop} (hc : c) (h : wpOn P M A a Q E s) : wpOn P M A (if c then a else b) Q E s := by rw [if_pos hc]; exact h
theorem on_of_eq {M : Model} {α : Type} {t : Sem α} {a : α} {Q : α → Shared → Prop} (e : t = pure a) (h : Q a s) : wpOn P M A t Q E s := on_any (wpAny_of_eq e h)
/-- a text that is no numeral -/
theorem text_on {x : Str} {t : Tok} {Q : Value → Shared → Prop} (sh : Shut P) (hh : A.handled = none) (hl : x.length ≤ 640) (hb : ∀ c ∈ x.cps.toList, badC c)
    (h : ∀ h' tk e, Heap.NewExc s.heap h' e "ValueError" → E (.ref e) { s with heap := h', toks := tk }) :
    wpOn P (model prog w) A ((int_private% "intFromText") (.str x t) (numTextOf x) 10) Q E s := by
  have hs : (numSeenOf x).length ≤ 640 := Nat.le_trans (seen_length x) hl
  have hr := read_bad hb
  obtain ⟨hp, g, d, tk, os⟩ := s
  refine on_ite_t (c := (numSeenOf x).length ≤ 640) hs ?_
  refine on_bind (on_pure ?_)
  dsimp only
  rw [show List.takeWhile (fun x => x != 0) (numTextOf x) = numSeenOf x from rfl, hr]
  dsimp only
  refine on_bind (on_of_eq (a := none) rfl ?_)
  rw [if_neg (by simp)]
  refine on_bind (on_any (wpAny_rule ?_))
  refine on_bind (on_of_eq (a := none) rfl ?_)
  dsimp only
  refine on_bind (on_any (wpAny_pyRepr_str ?_ (by rw [sizeLine_eq]; have := StrLaws.reprText_len x (fun c hc => by have := (hb c hc).2.2; rcases this with h | h <;> omega); omega)))
  refine on_bind (on_any (wpAny_mkStr ?_ ?_))
  · refine on_bind (on_any (wpAny_newExc_plain plainExc_ValueError fun h1 e hx => ?_))
    refine on_bind (mark_on sh ?_)
    refine on_any (wpAny_raiseNew_none hh ?_)
    exact h h1 _ e hx.newExc
  · rw [sizeLine_eq]
    show (_ ++ _ : Array Nat).size ≤ _
    simp only [Array.size_append, Array.size_extract]
    have e : (Str.ofString (toString "invalid literal for int() with base " ++ toString 10 ++ toString ": ")).cps.size ≤ 100 := by decide +kernel
    omega
theorem two_on {x : Str} {t u : Tok} {Q : PySem.Fin → Shared → Prop} (sh : Shut P) (hh : A.handled = none) (hl : x.length ≤ 640) (hb : ∀ c ∈ x.cps.toList, badC c)
    (h : ∀ h' tk e, Heap.NewExc s.heap h' e "ValueError" → E (.ref e) { s with heap := h', toks := tk }) :
    wpOn P (model prog w) A (Builtin.«int.__new__» ⟨[.type "int", .str x t, .int 10 u], []⟩) Q E s := by
  unfold Builtin.«int.__new__»
  refine on_bind (on_of_eq (a := true) (by kernel_rfl) ?_)
  rw [if_neg (by decide)]
  refine on_bind (on_of_eq (a := true) F.conv_sub_int ?_)
  rw [if_neg (by decide)]
  refine on_bind (on_of_eq (a := ()) F.madeHere_int ?_)
  rw [if_neg (by simp)]
  rw [if_neg (by simp)]
  refine on_bind (on_pure ?_)
  dsimp only
  refine on_bind ?_
  refine on_bind ?_
  refine on_bind (on_of_eq (a := some 10) rfl ?_)
  rw [if_pos (by decide)]
  refine on_pure ?_
  refine on_bind (on_of_eq (a := some 10) rfl ?_)
  refine on_pure ?_
  rw [if_neg (by decide)]
  refine on_bind (on_of_eq (a := some (numTextOf x)) rfl ?_)
  dsimp only
  exact on_bind (text_on sh hh hl hb h)
theorem type_on {args : List Value} {R : Result → Shared → Prop} (sh : Shut P) (hct : checkTypeCall "int" ⟨args, []⟩ = pure ()) (hcn : checkBuiltinCall "int.__new__" ⟨.type "int" :: args, []⟩ = pure ()) 
    (hb : ∀ A', A'.handled = A.handled → wpOn P (model prog w) A' (Builtin.«int.__new__» ⟨.type "int" :: args, []⟩) (fun _ _ => False) (fun e s' => R (.error e) s') s) :
   codeOn P (model prog w) A (.builtin "type.__call__" ⟨.type "int" :: args, []⟩) R s := by
  have ft := F.called_int
  obtain ⟨c, tl, hmro⟩ := ft.mro
  refine codeOn_builtin F.entry_type_call ?_
  unfold Builtin.«type.__call__»
  dsimp only
  rw [if_neg (by decide), if_neg (by rw [ft.canCreate]; decide)]
  refine on_bind (on_of_eq hct ?_)
  refine on_bind (on_of_eq hmro ?_)
  rw [if_neg (by simp)]
  refine on_bind (on_of_eq ft.made ?_)
  dsimp only
  refine on_bind (on_pure ?_)
  refine on_bind (on_holding (on_call (P' := P) (fun Γ p hP => sh.enter _ _ _ _ rfl hP) (codeOn_call_builtin (plainId_quiet ft.plain _) hcn (fun Γ hP => sh.goto _ _ rfl hP) (codeOn_builtin F.entry_int_new (on_mono (hb _ rfl) (fun _ _ h => h.elim) fun _ _ h => h)))))
theorem int_on {args : List Value} {Q : Value → Shared → Prop} (sh : Shut P) (hct : checkTypeCall "int" ⟨args, []⟩ = pure ()) (hcn : checkBuiltinCall "int.__new__" ⟨.type "int" :: args, []⟩ = pure ()) 
    (hb : ∀ A', A'.handled = A.handled → wpOn P (model prog w) A' (Builtin.«int.__new__» ⟨.type "int" :: args, []⟩) (fun _ _ => False) E s) : wpOn P (model prog w) A (call (.type "int") args) Q E s := by
  refine on_call (P' := P) (fun Γ p hP => sh.enter _ _ _ _ rfl hP) (codeOn_of_tree ?_)
  show wpOn _ _ _ (callAny (.type "int") _) _ _ _
  exact on_pure ⟨Code.quiet_builtin _ (by decide +kernel), P, fun Γ hP => sh.goto _ _ rfl hP, type_on sh hct hcn hb⟩
theorem int2_bad_on {x : Str} {t u : Tok} {Q : Value → Shared → Prop} (sh : Shut P) (hh : A.handled = none) (hl : x.length ≤ 640) (hb : ∀ c ∈ x.cps.toList, badC c)
    (h : ∀ h' tk e, Heap.NewExc s.heap h' e "ValueError" → E (.ref e) { s with heap := h', toks := tk }) : wpOn P (model prog w) A (call (.type "int") [.str x t, .int 10 u]) Q E s :=
  int_on sh (int_two x t u) (int_newtwo x t u) fun A' hA => two_on sh (hA.trans hh) hl hb h
end
end Mine
end
section
open PySem PySem.W PySem.W.X PyProof.Rows PySem.Calls PySem.NumText Builtin
set_option maxRecDepth 100000
set_option maxHeartbeats 1000000
namespace Mine
section
variable {P P₀ : Ctx → Prop} {prog : Program} {w : World} {A : Around} {E : Value → Shared → Prop} {s : Shared}
theorem one_on {x : Str} {t : Tok} {Q : PySem.Fin → Shared → Prop} (sh : Shut P) (hh : A.handled = none) (hl : x.length ≤ 640) (hb : ∀ c ∈ x.cps.toList, badC c)
    (h : ∀ h' tk e, Heap.NewExc s.heap h' e "ValueError" → E (.ref e) { s with heap := h', toks := tk }) :
    wpOn P (model prog w) A (Builtin.«int.__new__» ⟨[.type "int", .str x t], []⟩) Q E s := by
  unfold Builtin.«int.__new__»
  refine on_bind (on_of_eq (a := true) (by kernel_rfl) ?_)
  rw [if_neg (by decide)]
  refine on_bind (on_of_eq (a := true) F.conv_sub_int ?_)
  rw [if_neg (by decide)]
  refine on_bind (on_of_eq (a := ()) F.madeHere_int ?_)
  rw [if_neg (by simp)]
  rw [if_neg (by simp)]
  refine on_bind (on_pure ?_)
  dsimp only
  have ht : s.TypeIs (.str x t) "str" := typeIs_str _ _ _
  refine on_bind ?_
  refine on_bind (m := callSpecial? (.str x t) (Str.ofString "__int__")) (on_any (wpAny_callSpecial?_none ht KIN.str_int ?_))
  dsimp only
  refine on_bind (m := specialOf (.str x t) (Str.ofString "__index__")) (on_any (wpAny_specialOf ht KIN.str_idx ?_))
  rw [if_neg (by simp)]
  refine on_bind (m := specialOf (.str x t) (Str.ofString "__trunc__")) (on_any (wpAny_specialOf ht KIN.str_trunc ?_))
  dsimp only
  refine on_bind (on_of_eq (a := some (numTextOf x)) rfl ?_)
  dsimp only
  exact text_on sh hh hl hb h
/-- int of a refusing text, called by a builtin under which nothing is marked -/
theorem int1_bad_on {x : Str} {t : Tok} {Q : Value → Shared → Prop} (sh : Shut P) (hen : ∀ Γ p, P₀ Γ → P (Γ.enter (.call (.type "int") ⟨[.str x t], []⟩) none p)) (hh : A.handled = none) (hl : x.length ≤ 640) (hb : ∀ c ∈ x.cps.toList, badC c)
    (h : ∀ h' tk e, Heap.NewExc s.heap h' e "ValueError" → E (.ref e) { s with heap := h', toks := tk }) : wpOn P₀ (model prog w) A (call (.type "int") [.str x t]) Q E s := by
  refine on_call (P' := P) hen (codeOn_of_tree ?_)
  show wpOn _ _ _ (callAny (.type "int") _) _ _ _
  exact on_pure ⟨Code.quiet_builtin _ (by decide +kernel), P, fun Γ hP => sh.goto _ _ rfl hP, type_on sh (F.typeCall_int_1 _) (F.newCall_int_1 _) fun A' hA => one_on sh (hA.trans hh) hl hb h⟩
theorem any_of_on {M : Model} {c : Code} {R : Result → Shared → Prop} (h : codeOn (fun _ => True) M A c R s) : codeAny M A c R s := fun Γ p hc hΓ => h Γ p trivial hc hΓ
theorem any_call_on {id : String} {args : Args} {b : Builtin} {R : Result → Shared → Prop} (hq : (Code.builtin id args).quiet = true) (hb : entryFor table id = some b)
    (h : wpAny (model prog w) A.in1 (checkBuiltinCall id args) (fun _ s₁ => wpOn (fun Γ => Γ.code = .builtin id args) (model prog w) (A.under (.builtin id args)) (b args) (PostOn (fun Γ => Γ.code = .builtin id args) (model prog w) A R) (fun e s' => R (.error e) s') s₁) (fun e s' => R (.error e) s') s) :
    codeAny (model prog w) A (.call (.builtin id) args) R s := by
  refine any_of_on (codeOn_of_tree ?_)
  show wpOn _ _ A.in1 (do checkBuiltinCall id args; again (.builtin id args)) _ _ s
  refine on_bind (on_any (wpAny_mono h (fun _ s₁ h₁ => ?_) fun _ _ e => e))
  exact on_pure ⟨hq, (fun Γ => Γ.code = .builtin id args), fun Γ _ => rfl, codeOn_builtin hb h₁⟩
/-- the next of a map lies below, and no def of the text between -/
noncomputable def UnderMap (Γ : Ctx) : Prop := Γ.code.env? = none ∧ ∃ a, Code.builtin "map.__next__" a ∈ (Γ.below.map (·.1)).takeWhile (fun c => c.env?.isNone)
theorem under_shut : Shut UnderMap where
  enter := fun Γ c h p hc hP => by
    refine ⟨hc, ?_⟩
    obtain ⟨h1, a, ha⟩ := hP
    refine ⟨a, ?_⟩
    show _ ∈ (List.map (·.1) ((Γ.code, p) :: Γ.below)).takeWhile _
    rw [List.map_cons, List.takeWhile_cons_of_pos (by show Γ.code.env?.isNone = true; rw [h1]; rfl)]
    exact .tail _ ha
  goto := fun Γ c hc hP => ⟨hc, hP.2⟩
  no := fun Γ p hP => by
    obtain ⟨h1, a, ha⟩ := hP
    unfold pythonCodeMadeTheCall
    rw [List.map_cons, List.takeWhile_cons_of_pos (by show Γ.code.env?.isNone = true; rw [h1]; rfl)]
    rw [Bool.and_eq_false_iff]
    right
    rw [List.all_cons, Bool.and_eq_false_iff]
    right
    rw [List.all_eq_false]
    refine ⟨_, ha, ?_⟩
    have e1 : ["int.__new__"].contains "map.__next__" = false := by decide
    have e2 : ("map.__next__" == "type.__call__") = false := by decide
    show ¬ (["int.__new__"].contains "map.__next__" || "map.__next__" == "type.__call__" && _) = true
    rw [e1, e2]
    simp
theorem nextOf_map_bad {z T I l : Addr} {i : Nat} {xs : Array Value} {r : Str} {t : Tok} {Q : Value → Shared → Prop} (hh : A.handled = none) (hz : s.heap.get? z = some (mapObj T (.type "int"))) (hT : s.heap.get? T = some (oneObj I)) (hI : s.heap.IsListIter I l i) (hl : s.heap.IsList l xs) (hzI : z ≠ I)
    (hx : xs[i]? = some (.str r t)) (hb : ∀ c ∈ r.cps.toList, badC c) (hlen : r.length ≤ 640)
    (hE : ∀ h1 h' tk e, Heap.SameBut I s.heap h1 → Heap.NewExc h1 h' e "ValueError" → E (.ref e) { s with heap := h', toks := tk }) : wpAny (model prog w) A (Builtin.SmallTypes.nextOf (.ref z)) Q E s := by
  have ht : s.TypeIs (.ref z) "map" := ⟨_, hz, rfl⟩
  unfold Builtin.SmallTypes.nextOf
  refine wpAny_bind (wpAny_callSpecial?_slot (name := Str.ofString "__next__") ht MP.slot_next (wpAny_call (any_call_on (plainId_quiet MP.slot_next.plain _) MP.entry_next (MP.slot_next.check _ _ _ _ _ _ _ _ ht (MP.args_next _) ?_))))
  show wpOn _ _ _ (field (.ref z) 0 >>= _) _ _ _
  refine on_bind (on_any (wpAny_field hz rfl (x := .ref T) rfl ?_))
  refine on_bind (on_any (wpAny_seqItems hT rfl ?_))
  refine on_bind ?_
  rw [← Array.forIn_toList]
  simp only [List.forIn_cons, List.forIn_nil]
  refine on_bind (on_bind (on_holding (on_any (wpAny_nextOf_list_item hI hl hx fun h1 hI1 hS => ?_))))
  refine on_pure ?_
  refine on_pure ?_
  refine on_bind (on_any (wpAny_field (hS.extBut _ _ hzI hz) rfl (x := .type "int") rfl ?_))
  refine on_bind (on_holding (int1_bad_on under_shut (fun Γ p hP => ?_) hh hlen hb fun h' tk e hx' => hE h1 h' tk e hS hx'))
  refine ⟨rfl, ⟨[.ref z], []⟩, ?_⟩
  show _ ∈ (List.map (·.1) ((Γ.code, p) :: Γ.below)).takeWhile _
  rw [List.map_cons, List.takeWhile_cons_of_pos (by show Γ.code.env?.isNone = true; rw [hP]; rfl)]
  exact hP ▸ .head _
end
end Mine
end
section
open PySem PySem.W PySem.W.X PyProof.Rows PySem.Calls
set_option maxRecDepth 100000
namespace Mine
/-- the reading of one sign, at a call's place -/
theorem read_at {w : World} {mean : ExcName → Option Value} {mg mb : Str → Option Value} {dp un : Nat} {gd : Option (List Code)} {outer : List PySem.Env} {env : PySem.Env} {A₀ : Around} {base h₀ : Heap} {L : Addr} {m : Str → Option Value} {s : Shared} {Q E : Value → Shared → Prop} {y dy : Addr} {k1 k2 k3 t1 t2 t3 ti : Tok} {buf : Str} {pos : Nat} {rest : List (Addr × Obj)}
    (B : Below A₀ base outer h₀) (F : Fr h₀ L s.heap m) (N : News h₀ L s.heap ((y, instObj 613 dy) :: (dy, sioD w.params k1 k2 k3 t1 t2 t3 buf pos) :: rest)) (X : (K2 w.params).In h₀) (T : Top q1 loose1 mean mg mb h₀) (hf : env.frame = some L) (hke : env.scope.kind = .function)
    (hap : ∀ p ∈ rest, p.1 ∉ [y, dy]) (hd : dp + 20 < recursionLimit) (hu : un + 200 < cLine) (hlen : buf.length ≤ 100) (hne : dy < y)
    (hret : ∀ x ts pos' t3' h' tk', readAt buf pos x pos' → Fr h₀ L h' m → News h₀ L h' ((y, instObj 613 dy) :: (dy, sioD w.params k1 k2 k3 t1 t2 t3' buf pos') :: rest) → Q (.str x ts) { s with heap := h', toks := tk' }) :
    wpAny (model pw w) (actx dp un gd (env :: outer)) (call (.ref 559) [.ref y, .int 1 ti]) Q E s := by
  obtain ⟨B', X', T', hl, back⟩ := siteM (led := [(y, instObj 613 dy), (dy, sioD w.params k1 k2 k3 t1 t2 t3 buf pos)]) (A := actx dp un gd (env :: outer)) B F N X T rfl hf hke hap
  refine read_spec rfl hl B' X' T' hd hu hlen hne fun x ts pos' t3' h' tk' hr hk hl' => ?_
  obtain ⟨F', N'⟩ := back h' _ hk hl'
  exact hret x ts pos' t3' h' tk' hr F' N'
end Mine
end
section
open PySem PySem.W PySem.W.X PyProof.Rows PySem.Calls
set_option maxRecDepth 100000
set_option maxHeartbeats 4000000
namespace Mine
noncomputable def esOf (o : Obj) : List DictEntry := match o.data with
  | .dict es _ => es.toList
  | _ => []
/-- a name of an object is read; its dict stays folded, the state is written out -/
theorem get_ownO {prog : Program} {w : World} {A : Around} {E : Value → Shared → Prop} {s : Shared} {K : Frag} {x C L : Addr} {h₀ h : Heap} {m : Str → Option Value} {ox od : Obj} {n : Nat} {name : Str} {v : Value} {t : Tok} {expr : Bool} {Q : Value → Shared → Prop} {attr : Option Value} (F : Fr h₀ L h m) (X₀ : K.In h₀) (I : InstAt h x ox C (some od)) (ho : od = dictOf (esOf od) n) (hg : plainGet K C name = true) (hh : hasDictIn K C = true)
    (ha : findIn K (.ref C) name = some attr) (hn : noGet K attr = true) (hl : getL name (esOf od) = some (some v)) (hv : handedIn v = true) (H : Q v { s with heap := h, toks := t + 1 }) :
    wpAny (model prog w) A (getAttr (.ref x) name expr) Q E { s with heap := h, toks := t } := by
  rw [ho] at I
  exact get_own (s := { s with heap := h, toks := t }) F X₀ I hg hh ha hn hl hv H
section
variable {w : World} {A : Around} {Q : Unit → Shared → Prop} {E : Value → Shared → Prop} {s : Shared} {h₀ h : Heap} {L x dx y d1 d2 d3 : Addr} {T : LexT} {b sp : Bool} {ev st ln tok v : Value} {cm wc ws q e : Str} {m : Str → Option Value} {news news' : List (Addr × Obj)} {t : Tok}
theorem lex_state (F : Fr h₀ L h m) (X : (K2 w.params).In h₀) (N : News h₀ L h news) (hx : (x, instObj 748 dx) ∈ news) (hd : (dx, lexD w.params T y b ev cm wc ws sp q e st d1 ln tok d2 d3) ∈ news)
    (U : Upd dx (lexD w.params T y b ev cm wc ws sp q e st d1 ln tok d2 d3) (lexD w.params T y b ev cm wc ws sp q e v d1 ln tok d2 d3) news news')
    (H : ∀ h' t', Fr h₀ L h' m → News h₀ L h' news' → Q () { s with heap := h', toks := t' }) :
    wpAny (model pw w) A (setAttr (.ref x) (Str.ofString "state") v) Q E { s with heap := h, toks := t } := by
  have hfill : PySem.Challenge.rw_ox0114_01 = PySem.Challenge.rw_ox0114_01 ∧ K2 = K2 := by
    k_fill
    exact ⟨rfl, rfl⟩
  clear hfill
  refine' set_dictR (K := K2 w.params) F X N (InstAt.of_news N hx hd) rfl ?k6 ?k7 ?k8 ?k9 ?k10 ?k11 U ?k13 (fun h' a b => H h' _ a b)
  case k6 => k_is
  case k7 => k_is
  case k8 => k_is
  case k9 => k_is
  case k10 => k_get
  case k11 => k_put
  case k13 => exact Nat.le_of_ble_eq_true rfl
theorem lex_token (F : Fr h₀ L h m) (X : (K2 w.params).In h₀) (N : News h₀ L h news) (hx : (x, instObj 748 dx) ∈ news) (hd : (dx, lexD w.params T y b ev cm wc ws sp q e st d1 ln tok d2 d3) ∈ news)
    (U : Upd dx (lexD w.params T y b ev cm wc ws sp q e st d1 ln tok d2 d3) (lexD w.params T y b ev cm wc ws sp q e st d1 ln v d2 d3) news news')
    (H : ∀ h' t', Fr h₀ L h' m → News h₀ L h' news' → Q () { s with heap := h', toks := t' }) :
    wpAny (model pw w) A (setAttr (.ref x) (Str.ofString "token") v) Q E { s with heap := h, toks := t } := by
  have hfill : PySem.Challenge.rw_ox0114_01 = PySem.Challenge.rw_ox0114_01 ∧ K2 = K2 := by
    k_fill
    exact ⟨rfl, rfl⟩
  clear hfill
  refine' set_dictR (K := K2 w.params) F X N (InstAt.of_news N hx hd) rfl ?k6 ?k7 ?k8 ?k9 ?k10 ?k11 U ?k13 (fun h' a b => H h' _ a b)
  case k6 => k_is
  case k7 => k_is
  case k8 => k_is
  case k9 => k_is
  case k10 => k_get
  case k11 => k_put
  case k13 => exact Nat.le_of_ble_eq_true rfl
theorem lex_lineno (F : Fr h₀ L h m) (X : (K2 w.params).In h₀) (N : News h₀ L h news) (hx : (x, instObj 748 dx) ∈ news) (hd : (dx, lexD w.params T y b ev cm wc ws sp q e st d1 ln tok d2 d3) ∈ news)
    (U : Upd dx (lexD w.params T y b ev cm wc ws sp q e st d1 ln tok d2 d3) (lexD w.params T y b ev cm wc ws sp q e st d1 v tok d2 d3) news news')
    (H : ∀ h' t', Fr h₀ L h' m → News h₀ L h' news' → Q () { s with heap := h', toks := t' }) :
    wpAny (model pw w) A (setAttr (.ref x) (Str.ofString "lineno") v) Q E { s with heap := h, toks := t } := by
  have hfill : PySem.Challenge.rw_ox0114_01 = PySem.Challenge.rw_ox0114_01 ∧ K2 = K2 := by
    k_fill
    exact ⟨rfl, rfl⟩
  clear hfill
  refine' set_dictR (K := K2 w.params) F X N (InstAt.of_news N hx hd) rfl ?k6 ?k7 ?k8 ?k9 ?k10 ?k11 U ?k13 (fun h' a b => H h' _ a b)
  case k6 => k_is
  case k7 => k_is
  case k8 => k_is
  case k9 => k_is
  case k10 => k_get
  case k11 => k_put
  case k13 => exact Nat.le_of_ble_eq_true rfl
end
end Mine
end
section
open PySem PySem.W PySem.W.X PyProof.Rows PySem.Calls
set_option maxRecDepth 100000
set_option maxHeartbeats 16000000
namespace Mine
theorem apart_led {x dx y dy d3 : Nat} {a b c : Obj} (h1 : dx < x) (h2 : x < dy) (h3 : dy < y) (h4 : y < d3) : ∀ p ∈ ([(x, a), (dx, b), (d3, c)] : List (Addr × Obj)), p.1 ∉ ([y, dy] : List Addr) := by
  have e1 : ¬ (x = y ∨ x = dy) := by omega
  have e2 : ¬ (dx = y ∨ dx = dy) := by omega
  have e3 : ¬ (d3 = y ∨ d3 = dy) := by omega
  intro p hp
  simp only [List.mem_cons, List.not_mem_nil, or_false] at hp ⊢
  rcases hp with rfl | rfl | rfl
  · exact e1
  · exact e2
  · exact e3
theorem rt_spec {w : World} {mean : ExcName → Option Value} {mg mb : Str → Option Value} {dp un : Nat} {gd : Option (List Code)} {outer : List Env} {base g : Heap} {s : Shared} {Q E : Value → Shared → Prop} {T : LexT} {x dx y dy d1 d2 d3 : Addr} {b : Bool} {ev : Value} {wc buf : Str} {k1 k2 k3 t1 t2 : Tok} {c₀ : RtSt} {due : List Str}
    (hg : g = hideAll s.heap [y, dy, x, dx, d3]) (hl : ∀ p ∈ ledR w.params T x dx y dy d1 d2 d3 b ev wc buf k1 k2 k3 t1 t2 c₀, s.heap.get? p.1 = some p.2)
    (B : Below (actx dp un gd outer) base outer g) (X : (K2 w.params).In g) (Tp : Top q1 loose1 mean mg mb g) (hd : dp + 60 < recursionLimit) (hu : un + 800 < cLine) (hlen : buf.length ≤ 100)
    (o1 : dx < x) (o2 : x < dy) (o3 : dy < y) (o4 : y < d3) (hwc : ∀ c, kd c = sFigure → inS wc ⟨#[c]⟩ = false) (hP : RtP buf due c₀)
    (hret : ∀ v c' h' tk', RtV b due buf v c' → (∀ b o, g.get? b = some o → h'.get? b = some o) → (∀ p ∈ ledR w.params T x dx y dy d1 d2 d3 b ev wc buf k1 k2 k3 t1 t2 c', h'.get? p.1 = some p.2 ∧ g.get? p.1 = none) → Q v { s with heap := h', toks := tk' }) :
    wpAny (model pw w) (actx dp un gd outer) (call (.ref 716) [.ref x]) Q E s := by
  have hfill : PySem.Challenge.rw_ox0114_01 = PySem.Challenge.rw_ox0114_01 ∧ K2 = K2 := by
    k_fill
    exact ⟨rfl, rfl⟩
  clear hfill
  replace o1 := ltN o1
  replace o2 := ltN o2
  replace o3 := ltN o3
  replace o4 := ltN o4
  refine wpAny_call ?_
  k_dflt (refine' enterM (led := ledR w.params T x dx y dy d1 d2 d3 b ev wc buf k1 k2 k3 t1 t2 c₀) (binds := [(Str.ofString "self", .ref x)]) hg hl B X Tp ?k6 ?k7 ?k8 ?k9 ?kB ?_ ?c2 ?c3 ?c4 ?c5; (case k6 => k_is); (case k7 => k_is); (case k8 => (dsimp only; omega)); (case k9 => exact kp_binds (X.keeps fun b o e => of_hideAll _ (hg ▸ e)) (fun _ => by rfl)); (case c5 => decide); (case kB => exact locs rfl); (case c2 => exact rfl); (case c3 => exact rfl); (case c4 => exact rfl); k_whole)
  intro L' h' F' N'
  (try dsimp only); (try k_fold)
  refine cut3 (RtJ g L' s w.params T x dx y dy d1 d2 d3 b ev wc buf k1 k2 k3 t1 t2 due) ?loop ?tail
  case tail =>
    rintro s₁ ⟨c, h1, tk, m', rfl, hm1, F1, N1, hE⟩
    replace F1 := fr_at _ hm1 F1
    obtain ⟨st, tks, tt, pos, t3, ivs, n, ln, tl⟩ := c
    obtain ⟨r, hR, hE⟩ := hE
    dsimp only [ledR] at N1
    dsimp only [RtSt.tk] at hE hR
    rcases hE with ⟨h0, hd0⟩ | ⟨h0, hz, hd0, hs⟩
    · obtain rfl := str_empty h0
      cases b
      · (repeat' (first | (k_unfold; (try dsimp only)) | (k_end; wrow_close) | (with_reducible ((with_reducible show wpAny _ _ (PySem.truthy (Value.ref _)) _ _ _); (k_here; k_dflt (refine' dq_truthy ?N ?M ?Z ?_; (case N => k_asm); (case M => k_mem); (case Z => exact Nat.le_of_ble_eq_true rfl); k_whole); intro tk'; (try dsimp only [List.isEmpty_nil, List.isEmpty_cons, Bool.not_true, Bool.not_false])))) | (with_reducible ((with_reducible show wpAny _ _ (getMethod (Value.ref _) _ _) _ _ _); (k_here; k_dflt (first | (refine' dq_method ?N ?M DF.s_pop DF.ty_pop ?_; (case N => k_asm); (case M => k_mem); k_whole) | (refine' dq_method ?N ?M DF.s_app DF.ty_app ?_; (case N => k_asm); (case M => k_mem); k_whole))))) | (with_reducible ((with_reducible show wpAny _ _ (call (Value.builtin "collections.deque.pop") _) _ _ _); (k_here; k_dflt (refine' dq_pop (its := []) ?F ?N ?U (by decide) ?_; (case F => k_asm); (case N => k_asm); (case U => k_upd); k_whole); intro h' F' N'; (try k_sweep)))) | (with_reducible ((with_reducible show wpAny _ _ (call (Value.builtin "collections.deque.append") _) _ _ _); (k_here; k_dflt (refine' dq_append (its := []) ?F ?N ?U (by decide) ?_; (case F => k_asm); (case N => k_asm); (case U => k_upd); k_whole); intro h' F' N'; (try k_sweep)))) | (with_reducible (k_here; (with_reducible show wpAny _ _ (call (Value.ref 559) [Value.ref _, Value.int _ _]) _ _ _); k_dflt (refine' read_at ?B ?F ?N ?X ?T ?hf ?hke ?hap ?hd ?hu ?hlen ?hne ?_; (case B => k_asm); (case F => k_asm); (case N => k_asm); (case X => k_asm); (case T => k_asm); (case hf => exact rfl); (case hke => exact rfl); (case hap => exact apart_led (by assumption) (by assumption) (by assumption) (by assumption)); (case hd => (dsimp only; omega)); (case hu => (dsimp only; omega)); (case hlen => k_asm); (case hne => k_asm); k_whole); intro x' ts' pos' t3' h' tk' hr' F' N'; (try k_sweep))) | (with_reducible ((with_reducible show wpAny _ _ (compareOp CmpOp.In (Value.str _ _) (Value.str _ _)) _ _ _); (k_here; with_reducible (first | refine in_nil ?_ | refine in_nil_a ?_ | refine in_nil_c ?_ | refine in_known (r := true) (by with_reducible assumption) ?_ | refine in_known (r := false) (by with_reducible assumption) ?_)))) | (with_reducible (k_here; (with_reducible show wpAny _ _ (PySem.truthy (Value.str _ _)) _ _ _); (refine KXt.truthy_pos (K := 100) (by with_reducible assumption) (by with_reducible assumption) (by decide) ?_); intro k')) | (with_reducible ((with_reducible show wpAny _ _ (compareOp CmpOp.NotIn (Value.str _ _) (Value.str _ _)) _ _ _); (k_here; with_reducible (first | refine notin_t (by with_reducible assumption) ?_ | refine notin_f (by with_reducible assumption) ?_)))) | (with_reducible (k_here; (with_reducible show wpAny _ _ (getAttr (Value.ref _) _ _) _ _ _); k_dflt (refine' get_ownO ?k1 ?k2 ?k3 ?ko ?k4 ?k5 ?k6 ?k7 ?k8 ?k9 ?_; (case k1 => k_asm); (case k2 => k_asm); (case k3 => k_inst); (case ko => exact rfl); (case k4 => k_is); (case k5 => k_is); (case k6 => k_is); (case k7 => k_is); (case k8 => k_get); (case k9 => k_handed); k_whole))) | (with_reducible (k_here; (with_reducible show wpAny _ _ (setAttr (Value.ref _) _ _) _ _ _); first | dsimp only | (k_dflt (first | ((with_reducible show wpAny _ _ (setAttr _ (Str.ofString "state") _) _ _ _); refine' lex_state ?k1 ?k2 ?k3 ?k4 ?k5 ?k6 ?_) | ((with_reducible show wpAny _ _ (setAttr _ (Str.ofString "token") _) _ _ _); refine' lex_token ?k1 ?k2 ?k3 ?k4 ?k5 ?k6 ?_) | ((with_reducible show wpAny _ _ (setAttr _ (Str.ofString "lineno") _) _ _ _); refine' lex_lineno ?k1 ?k2 ?k3 ?k4 ?k5 ?k6 ?_)); k_dflt ((case k1 => k_asm); (case k2 => k_asm); (case k3 => k_asm); (case k4 => k_mem); (case k5 => k_mem); (case k6 => k_upd); k_whole); intro h' tq F' N'; (try k_sweep)))) | walk1 | (dsimp only; walk1) | (leave1; walk_say "STEP leave1"; try dsimp only) | fail "no step"))
        all_goals
          (try dsimp only)
          (try k_unfold)
          (try dsimp only)
          exact rt_done hret (by assumption) (by assumption) (v_eof hR hd0 (v_str rfl))
      · (repeat' (first | (k_unfold; (try dsimp only)) | (k_end; wrow_close) | (with_reducible ((with_reducible show wpAny _ _ (PySem.truthy (Value.ref _)) _ _ _); (k_here; k_dflt (refine' dq_truthy ?N ?M ?Z ?_; (case N => k_asm); (case M => k_mem); (case Z => exact Nat.le_of_ble_eq_true rfl); k_whole); intro tk'; (try dsimp only [List.isEmpty_nil, List.isEmpty_cons, Bool.not_true, Bool.not_false])))) | (with_reducible ((with_reducible show wpAny _ _ (getMethod (Value.ref _) _ _) _ _ _); (k_here; k_dflt (first | (refine' dq_method ?N ?M DF.s_pop DF.ty_pop ?_; (case N => k_asm); (case M => k_mem); k_whole) | (refine' dq_method ?N ?M DF.s_app DF.ty_app ?_; (case N => k_asm); (case M => k_mem); k_whole))))) | (with_reducible ((with_reducible show wpAny _ _ (call (Value.builtin "collections.deque.pop") _) _ _ _); (k_here; k_dflt (refine' dq_pop (its := []) ?F ?N ?U (by decide) ?_; (case F => k_asm); (case N => k_asm); (case U => k_upd); k_whole); intro h' F' N'; (try k_sweep)))) | (with_reducible ((with_reducible show wpAny _ _ (call (Value.builtin "collections.deque.append") _) _ _ _); (k_here; k_dflt (refine' dq_append (its := []) ?F ?N ?U (by decide) ?_; (case F => k_asm); (case N => k_asm); (case U => k_upd); k_whole); intro h' F' N'; (try k_sweep)))) | (with_reducible (k_here; (with_reducible show wpAny _ _ (call (Value.ref 559) [Value.ref _, Value.int _ _]) _ _ _); k_dflt (refine' read_at ?B ?F ?N ?X ?T ?hf ?hke ?hap ?hd ?hu ?hlen ?hne ?_; (case B => k_asm); (case F => k_asm); (case N => k_asm); (case X => k_asm); (case T => k_asm); (case hf => exact rfl); (case hke => exact rfl); (case hap => exact apart_led (by assumption) (by assumption) (by assumption) (by assumption)); (case hd => (dsimp only; omega)); (case hu => (dsimp only; omega)); (case hlen => k_asm); (case hne => k_asm); k_whole); intro x' ts' pos' t3' h' tk' hr' F' N'; (try k_sweep))) | (with_reducible ((with_reducible show wpAny _ _ (compareOp CmpOp.In (Value.str _ _) (Value.str _ _)) _ _ _); (k_here; with_reducible (first | refine in_nil ?_ | refine in_nil_a ?_ | refine in_nil_c ?_ | refine in_known (r := true) (by with_reducible assumption) ?_ | refine in_known (r := false) (by with_reducible assumption) ?_)))) | (with_reducible (k_here; (with_reducible show wpAny _ _ (PySem.truthy (Value.str _ _)) _ _ _); (refine KXt.truthy_pos (K := 100) (by with_reducible assumption) (by with_reducible assumption) (by decide) ?_); intro k')) | (with_reducible ((with_reducible show wpAny _ _ (compareOp CmpOp.NotIn (Value.str _ _) (Value.str _ _)) _ _ _); (k_here; with_reducible (first | refine notin_t (by with_reducible assumption) ?_ | refine notin_f (by with_reducible assumption) ?_)))) | (with_reducible (k_here; (with_reducible show wpAny _ _ (getAttr (Value.ref _) _ _) _ _ _); k_dflt (refine' get_ownO ?k1 ?k2 ?k3 ?ko ?k4 ?k5 ?k6 ?k7 ?k8 ?k9 ?_; (case k1 => k_asm); (case k2 => k_asm); (case k3 => k_inst); (case ko => exact rfl); (case k4 => k_is); (case k5 => k_is); (case k6 => k_is); (case k7 => k_is); (case k8 => k_get); (case k9 => k_handed); k_whole))) | (with_reducible (k_here; (with_reducible show wpAny _ _ (setAttr (Value.ref _) _ _) _ _ _); first | dsimp only | (k_dflt (first | ((with_reducible show wpAny _ _ (setAttr _ (Str.ofString "state") _) _ _ _); refine' lex_state ?k1 ?k2 ?k3 ?k4 ?k5 ?k6 ?_) | ((with_reducible show wpAny _ _ (setAttr _ (Str.ofString "token") _) _ _ _); refine' lex_token ?k1 ?k2 ?k3 ?k4 ?k5 ?k6 ?_) | ((with_reducible show wpAny _ _ (setAttr _ (Str.ofString "lineno") _) _ _ _); refine' lex_lineno ?k1 ?k2 ?k3 ?k4 ?k5 ?k6 ?_)); k_dflt ((case k1 => k_asm); (case k2 => k_asm); (case k3 => k_asm); (case k4 => k_mem); (case k5 => k_mem); (case k6 => k_upd); k_whole); intro h' tq F' N'; (try k_sweep)))) | walk1 | (dsimp only; walk1) | (leave1; walk_say "STEP leave1"; try dsimp only) | fail "no step"))
        all_goals
          (try dsimp only)
          (try k_unfold)
          (try dsimp only)
          exact rt_done hret (by assumption) (by assumption) (v_eof hR hd0 (v_none rfl))
    · (repeat' (first | (k_unfold; (try dsimp only)) | (k_end; wrow_close) | (with_reducible ((with_reducible show wpAny _ _ (PySem.truthy (Value.ref _)) _ _ _); (k_here; k_dflt (refine' dq_truthy ?N ?M ?Z ?_; (case N => k_asm); (case M => k_mem); (case Z => exact Nat.le_of_ble_eq_true rfl); k_whole); intro tk'; (try dsimp only [List.isEmpty_nil, List.isEmpty_cons, Bool.not_true, Bool.not_false])))) | (with_reducible ((with_reducible show wpAny _ _ (getMethod (Value.ref _) _ _) _ _ _); (k_here; k_dflt (first | (refine' dq_method ?N ?M DF.s_pop DF.ty_pop ?_; (case N => k_asm); (case M => k_mem); k_whole) | (refine' dq_method ?N ?M DF.s_app DF.ty_app ?_; (case N => k_asm); (case M => k_mem); k_whole))))) | (with_reducible ((with_reducible show wpAny _ _ (call (Value.builtin "collections.deque.pop") _) _ _ _); (k_here; k_dflt (refine' dq_pop (its := []) ?F ?N ?U (by decide) ?_; (case F => k_asm); (case N => k_asm); (case U => k_upd); k_whole); intro h' F' N'; (try k_sweep)))) | (with_reducible ((with_reducible show wpAny _ _ (call (Value.builtin "collections.deque.append") _) _ _ _); (k_here; k_dflt (refine' dq_append (its := []) ?F ?N ?U (by decide) ?_; (case F => k_asm); (case N => k_asm); (case U => k_upd); k_whole); intro h' F' N'; (try k_sweep)))) | (with_reducible (k_here; (with_reducible show wpAny _ _ (call (Value.ref 559) [Value.ref _, Value.int _ _]) _ _ _); k_dflt (refine' read_at ?B ?F ?N ?X ?T ?hf ?hke ?hap ?hd ?hu ?hlen ?hne ?_; (case B => k_asm); (case F => k_asm); (case N => k_asm); (case X => k_asm); (case T => k_asm); (case hf => exact rfl); (case hke => exact rfl); (case hap => exact apart_led (by assumption) (by assumption) (by assumption) (by assumption)); (case hd => (dsimp only; omega)); (case hu => (dsimp only; omega)); (case hlen => k_asm); (case hne => k_asm); k_whole); intro x' ts' pos' t3' h' tk' hr' F' N'; (try k_sweep))) | (with_reducible ((with_reducible show wpAny _ _ (compareOp CmpOp.In (Value.str _ _) (Value.str _ _)) _ _ _); (k_here; with_reducible (first | refine in_nil ?_ | refine in_nil_a ?_ | refine in_nil_c ?_ | refine in_known (r := true) (by with_reducible assumption) ?_ | refine in_known (r := false) (by with_reducible assumption) ?_)))) | (with_reducible (k_here; (with_reducible show wpAny _ _ (PySem.truthy (Value.str _ _)) _ _ _); (refine KXt.truthy_pos (K := 100) (by with_reducible assumption) (by with_reducible assumption) (by decide) ?_); intro k')) | (with_reducible ((with_reducible show wpAny _ _ (compareOp CmpOp.NotIn (Value.str _ _) (Value.str _ _)) _ _ _); (k_here; with_reducible (first | refine notin_t (by with_reducible assumption) ?_ | refine notin_f (by with_reducible assumption) ?_)))) | (with_reducible (k_here; (with_reducible show wpAny _ _ (getAttr (Value.ref _) _ _) _ _ _); k_dflt (refine' get_ownO ?k1 ?k2 ?k3 ?ko ?k4 ?k5 ?k6 ?k7 ?k8 ?k9 ?_; (case k1 => k_asm); (case k2 => k_asm); (case k3 => k_inst); (case ko => exact rfl); (case k4 => k_is); (case k5 => k_is); (case k6 => k_is); (case k7 => k_is); (case k8 => k_get); (case k9 => k_handed); k_whole))) | (with_reducible (k_here; (with_reducible show wpAny _ _ (setAttr (Value.ref _) _ _) _ _ _); first | dsimp only | (k_dflt (first | ((with_reducible show wpAny _ _ (setAttr _ (Str.ofString "state") _) _ _ _); refine' lex_state ?k1 ?k2 ?k3 ?k4 ?k5 ?k6 ?_) | ((with_reducible show wpAny _ _ (setAttr _ (Str.ofString "token") _) _ _ _); refine' lex_token ?k1 ?k2 ?k3 ?k4 ?k5 ?k6 ?_) | ((with_reducible show wpAny _ _ (setAttr _ (Str.ofString "lineno") _) _ _ _); refine' lex_lineno ?k1 ?k2 ?k3 ?k4 ?k5 ?k6 ?_)); k_dflt ((case k1 => k_asm); (case k2 => k_asm); (case k3 => k_asm); (case k4 => k_mem); (case k5 => k_mem); (case k6 => k_upd); k_whole); intro h' tq F' N'; (try k_sweep)))) | walk1 | (dsimp only; walk1) | (leave1; walk_say "STEP leave1"; try dsimp only) | fail "no step"))
      all_goals
        (try dsimp only)
        (try k_unfold)
        (try dsimp only)
      all_goals first
        | exact rt_done hret (by assumption) (by assumption) (v_tok hR h0 hz hd0 hs)
        | (exfalso; rename (_ == _) = true => hx; exact h0 (congrArg (fun z : Str => z.cps.toList) (eq_of_beq hx)))
  case loop =>
    iterate 10 (first | (with_reducible ((with_reducible show wpAny _ _ (PySem.truthy (Value.ref _)) _ _ _); (k_here; k_dflt (refine' dq_truthy ?N ?M ?Z ?_; (case N => k_asm); (case M => k_mem); (case Z => exact Nat.le_of_ble_eq_true rfl); k_whole); intro tk'; (try dsimp only [List.isEmpty_nil, List.isEmpty_cons, Bool.not_true, Bool.not_false])))) | (with_reducible ((with_reducible show wpAny _ _ (getMethod (Value.ref _) _ _) _ _ _); (k_here; k_dflt (first | (refine' dq_method ?N ?M DF.s_pop DF.ty_pop ?_; (case N => k_asm); (case M => k_mem); k_whole) | (refine' dq_method ?N ?M DF.s_app DF.ty_app ?_; (case N => k_asm); (case M => k_mem); k_whole))))) | (with_reducible ((with_reducible show wpAny _ _ (call (Value.builtin "collections.deque.pop") _) _ _ _); (k_here; k_dflt (refine' dq_pop (its := []) ?F ?N ?U (by decide) ?_; (case F => k_asm); (case N => k_asm); (case U => k_upd); k_whole); intro h' F' N'; (try k_sweep)))) | (with_reducible ((with_reducible show wpAny _ _ (call (Value.builtin "collections.deque.append") _) _ _ _); (k_here; k_dflt (refine' dq_append (its := []) ?F ?N ?U (by decide) ?_; (case F => k_asm); (case N => k_asm); (case U => k_upd); k_whole); intro h' F' N'; (try k_sweep)))) | (with_reducible (k_here; (with_reducible show wpAny _ _ (call (Value.ref 559) [Value.ref _, Value.int _ _]) _ _ _); k_dflt (refine' read_at ?B ?F ?N ?X ?T ?hf ?hke ?hap ?hd ?hu ?hlen ?hne ?_; (case B => k_asm); (case F => k_asm); (case N => k_asm); (case X => k_asm); (case T => k_asm); (case hf => exact rfl); (case hke => exact rfl); (case hap => exact apart_led (by assumption) (by assumption) (by assumption) (by assumption)); (case hd => (dsimp only; omega)); (case hu => (dsimp only; omega)); (case hlen => k_asm); (case hne => k_asm); k_whole); intro x' ts' pos' t3' h' tk' hr' F' N'; (try k_sweep))) | (with_reducible ((with_reducible show wpAny _ _ (compareOp CmpOp.In (Value.str _ _) (Value.str _ _)) _ _ _); (k_here; with_reducible (first | refine in_nil ?_ | refine in_nil_a ?_ | refine in_nil_c ?_ | refine in_known (r := true) (by with_reducible assumption) ?_ | refine in_known (r := false) (by with_reducible assumption) ?_)))) | (with_reducible (k_here; (with_reducible show wpAny _ _ (PySem.truthy (Value.str _ _)) _ _ _); (refine KXt.truthy_pos (K := 100) (by with_reducible assumption) (by with_reducible assumption) (by decide) ?_); intro k')) | (with_reducible ((with_reducible show wpAny _ _ (compareOp CmpOp.NotIn (Value.str _ _) (Value.str _ _)) _ _ _); (k_here; with_reducible (first | refine notin_t (by with_reducible assumption) ?_ | refine notin_f (by with_reducible assumption) ?_)))) | (with_reducible (k_here; (with_reducible show wpAny _ _ (getAttr (Value.ref _) _ _) _ _ _); k_dflt (refine' get_ownO ?k1 ?k2 ?k3 ?ko ?k4 ?k5 ?k6 ?k7 ?k8 ?k9 ?_; (case k1 => k_asm); (case k2 => k_asm); (case k3 => k_inst); (case ko => exact rfl); (case k4 => k_is); (case k5 => k_is); (case k6 => k_is); (case k7 => k_is); (case k8 => k_get); (case k9 => k_handed); k_whole))) | (with_reducible (k_here; (with_reducible show wpAny _ _ (setAttr (Value.ref _) _ _) _ _ _); first | dsimp only | (k_dflt (first | ((with_reducible show wpAny _ _ (setAttr _ (Str.ofString "state") _) _ _ _); refine' lex_state ?k1 ?k2 ?k3 ?k4 ?k5 ?k6 ?_) | ((with_reducible show wpAny _ _ (setAttr _ (Str.ofString "token") _) _ _ _); refine' lex_token ?k1 ?k2 ?k3 ?k4 ?k5 ?k6 ?_) | ((with_reducible show wpAny _ _ (setAttr _ (Str.ofString "lineno") _) _ _ _); refine' lex_lineno ?k1 ?k2 ?k3 ?k4 ?k5 ?k6 ?_)); k_dflt ((case k1 => k_asm); (case k2 => k_asm); (case k3 => k_asm); (case k4 => k_mem); (case k5 => k_mem); (case k6 => k_upd); k_whole); intro h' tq F' N'; (try k_sweep)))) | walk1 | (dsimp only; walk1))
    rename Fr _ _ _ _ => FW
    obtain ⟨M, hM, FM⟩ := fr_name FW
    clear FW
    refine' ksw_while (σ := RtSt) (fun c => ledR w.params T x dx y dy d1 d2 d3 b ev wc buf k1 k2 k3 t1 t2 c) (fun _ => [(Str.ofString "self", .ref x), (Str.ofString "quoted", .bool false)]) (fun _ => True) [Str.ofString "nextchar", Str.ofString "escapedstate"] (RtP buf due) (rtMu buf) c₀ FM ?N trivial ?ps hP ?turn ?hE
    (case N => k_asm)
    (case ps =>
      intro p hp
      rw [hM]
      rcases List.mem_cons.mp hp with rfl | hp
      · rfl
      · rw [List.mem_singleton.mp hp]
        rfl)
    (case hE => passes_own)
    intro c u h1 tk1 _ hP1 F1 N1
    obtain ⟨U, hU⟩ : ∃ U, U = fun z => if [Str.ofString "nextchar", Str.ofString "escapedstate"].contains z then u z else M z := ⟨_, rfl⟩
    rw [← hU] at F1
    (try k_fold)
    iterate 3 (first | (with_reducible ((with_reducible show wpAny _ _ (PySem.truthy (Value.ref _)) _ _ _); (k_here; k_dflt (refine' dq_truthy ?N ?M ?Z ?_; (case N => k_asm); (case M => k_mem); (case Z => exact Nat.le_of_ble_eq_true rfl); k_whole); intro tk'; (try dsimp only [List.isEmpty_nil, List.isEmpty_cons, Bool.not_true, Bool.not_false])))) | (with_reducible ((with_reducible show wpAny _ _ (getMethod (Value.ref _) _ _) _ _ _); (k_here; k_dflt (first | (refine' dq_method ?N ?M DF.s_pop DF.ty_pop ?_; (case N => k_asm); (case M => k_mem); k_whole) | (refine' dq_method ?N ?M DF.s_app DF.ty_app ?_; (case N => k_asm); (case M => k_mem); k_whole))))) | (with_reducible ((with_reducible show wpAny _ _ (call (Value.builtin "collections.deque.pop") _) _ _ _); (k_here; k_dflt (refine' dq_pop (its := []) ?F ?N ?U (by decide) ?_; (case F => k_asm); (case N => k_asm); (case U => k_upd); k_whole); intro h' F' N'; (try k_sweep)))) | (with_reducible ((with_reducible show wpAny _ _ (call (Value.builtin "collections.deque.append") _) _ _ _); (k_here; k_dflt (refine' dq_append (its := []) ?F ?N ?U (by decide) ?_; (case F => k_asm); (case N => k_asm); (case U => k_upd); k_whole); intro h' F' N'; (try k_sweep)))) | (with_reducible (k_here; (with_reducible show wpAny _ _ (call (Value.ref 559) [Value.ref _, Value.int _ _]) _ _ _); k_dflt (refine' read_at ?B ?F ?N ?X ?T ?hf ?hke ?hap ?hd ?hu ?hlen ?hne ?_; (case B => k_asm); (case F => k_asm); (case N => k_asm); (case X => k_asm); (case T => k_asm); (case hf => exact rfl); (case hke => exact rfl); (case hap => exact apart_led (by assumption) (by assumption) (by assumption) (by assumption)); (case hd => (dsimp only; omega)); (case hu => (dsimp only; omega)); (case hlen => k_asm); (case hne => k_asm); k_whole); intro x' ts' pos' t3' h' tk' hr' F' N'; (try k_sweep))) | (with_reducible ((with_reducible show wpAny _ _ (compareOp CmpOp.In (Value.str _ _) (Value.str _ _)) _ _ _); (k_here; with_reducible (first | refine in_nil ?_ | refine in_nil_a ?_ | refine in_nil_c ?_ | refine in_known (r := true) (by with_reducible assumption) ?_ | refine in_known (r := false) (by with_reducible assumption) ?_)))) | (with_reducible (k_here; (with_reducible show wpAny _ _ (PySem.truthy (Value.str _ _)) _ _ _); (refine KXt.truthy_pos (K := 100) (by with_reducible assumption) (by with_reducible assumption) (by decide) ?_); intro k')) | (with_reducible ((with_reducible show wpAny _ _ (compareOp CmpOp.NotIn (Value.str _ _) (Value.str _ _)) _ _ _); (k_here; with_reducible (first | refine notin_t (by with_reducible assumption) ?_ | refine notin_f (by with_reducible assumption) ?_)))) | (with_reducible (k_here; (with_reducible show wpAny _ _ (getAttr (Value.ref _) _ _) _ _ _); k_dflt (refine' get_ownO ?k1 ?k2 ?k3 ?ko ?k4 ?k5 ?k6 ?k7 ?k8 ?k9 ?_; (case k1 => k_asm); (case k2 => k_asm); (case k3 => k_inst); (case ko => exact rfl); (case k4 => k_is); (case k5 => k_is); (case k6 => k_is); (case k7 => k_is); (case k8 => k_get); (case k9 => k_handed); k_whole))) | (with_reducible (k_here; (with_reducible show wpAny _ _ (setAttr (Value.ref _) _ _) _ _ _); first | dsimp only | (k_dflt (first | ((with_reducible show wpAny _ _ (setAttr _ (Str.ofString "state") _) _ _ _); refine' lex_state ?k1 ?k2 ?k3 ?k4 ?k5 ?k6 ?_) | ((with_reducible show wpAny _ _ (setAttr _ (Str.ofString "token") _) _ _ _); refine' lex_token ?k1 ?k2 ?k3 ?k4 ?k5 ?k6 ?_) | ((with_reducible show wpAny _ _ (setAttr _ (Str.ofString "lineno") _) _ _ _); refine' lex_lineno ?k1 ?k2 ?k3 ?k4 ?k5 ?k6 ?_)); k_dflt ((case k1 => k_asm); (case k2 => k_asm); (case k3 => k_asm); (case k4 => k_mem); (case k5 => k_mem); (case k6 => k_upd); k_whole); intro h' tq F' N'; (try k_sweep)))) | walk1 | (dsimp only; walk1))
    (try k_unfold)
    rw [if_pos rfl]
    refine' cut3 (NextJ g L' s w.params T x dx y dy d1 d2 d3 b ev wc buf k1 k2 k3 t1 t2 (kstB U [(Str.ofString "self", .ref x), (Str.ofString "quoted", .bool false)]) c) ?first ?rest
    case first =>
      obtain ⟨r, ⟨its, hits, hr, hpos, hsz⟩, hdue, hst⟩ := hP1
      obtain ⟨st, tks, tt, pos, t3, ivs, n, ln, tl⟩ := c
      dsimp only [ledR] at hits hr hpos hsz hdue hst F1 N1 ⊢
      rcases hits with ⟨hi, hits⟩ | ⟨a, ta, hi, hits⟩
      · subst hi
        (repeat' (first | (k_unfold; (try dsimp only)) | (k_end; wrow_close) | (with_reducible ((with_reducible show wpAny _ _ (PySem.truthy (Value.ref _)) _ _ _); (k_here; k_dflt (refine' dq_truthy ?N ?M ?Z ?_; (case N => k_asm); (case M => k_mem); (case Z => exact Nat.le_of_ble_eq_true rfl); k_whole); intro tk'; (try dsimp only [List.isEmpty_nil, List.isEmpty_cons, Bool.not_true, Bool.not_false])))) | (with_reducible ((with_reducible show wpAny _ _ (getMethod (Value.ref _) _ _) _ _ _); (k_here; k_dflt (first | (refine' dq_method ?N ?M DF.s_pop DF.ty_pop ?_; (case N => k_asm); (case M => k_mem); k_whole) | (refine' dq_method ?N ?M DF.s_app DF.ty_app ?_; (case N => k_asm); (case M => k_mem); k_whole))))) | (with_reducible ((with_reducible show wpAny _ _ (call (Value.builtin "collections.deque.pop") _) _ _ _); (k_here; k_dflt (refine' dq_pop (its := []) ?F ?N ?U (by decide) ?_; (case F => k_asm); (case N => k_asm); (case U => k_upd); k_whole); intro h' F' N'; (try k_sweep)))) | (with_reducible ((with_reducible show wpAny _ _ (call (Value.builtin "collections.deque.append") _) _ _ _); (k_here; k_dflt (refine' dq_append (its := []) ?F ?N ?U (by decide) ?_; (case F => k_asm); (case N => k_asm); (case U => k_upd); k_whole); intro h' F' N'; (try k_sweep)))) | (with_reducible (k_here; (with_reducible show wpAny _ _ (call (Value.ref 559) [Value.ref _, Value.int _ _]) _ _ _); k_dflt (refine' read_at ?B ?F ?N ?X ?T ?hf ?hke ?hap ?hd ?hu ?hlen ?hne ?_; (case B => k_asm); (case F => k_asm); (case N => k_asm); (case X => k_asm); (case T => k_asm); (case hf => exact rfl); (case hke => exact rfl); (case hap => exact apart_led (by assumption) (by assumption) (by assumption) (by assumption)); (case hd => (dsimp only; omega)); (case hu => (dsimp only; omega)); (case hlen => k_asm); (case hne => k_asm); k_whole); intro x' ts' pos' t3' h' tk' hr' F' N'; (try k_sweep))) | (with_reducible ((with_reducible show wpAny _ _ (compareOp CmpOp.In (Value.str _ _) (Value.str _ _)) _ _ _); (k_here; with_reducible (first | refine in_nil ?_ | refine in_nil_a ?_ | refine in_nil_c ?_ | refine in_known (r := true) (by with_reducible assumption) ?_ | refine in_known (r := false) (by with_reducible assumption) ?_)))) | (with_reducible (k_here; (with_reducible show wpAny _ _ (PySem.truthy (Value.str _ _)) _ _ _); (refine KXt.truthy_pos (K := 100) (by with_reducible assumption) (by with_reducible assumption) (by decide) ?_); intro k')) | (with_reducible ((with_reducible show wpAny _ _ (compareOp CmpOp.NotIn (Value.str _ _) (Value.str _ _)) _ _ _); (k_here; with_reducible (first | refine notin_t (by with_reducible assumption) ?_ | refine notin_f (by with_reducible assumption) ?_)))) | (with_reducible (k_here; (with_reducible show wpAny _ _ (getAttr (Value.ref _) _ _) _ _ _); k_dflt (refine' get_ownO ?k1 ?k2 ?k3 ?ko ?k4 ?k5 ?k6 ?k7 ?k8 ?k9 ?_; (case k1 => k_asm); (case k2 => k_asm); (case k3 => k_inst); (case ko => exact rfl); (case k4 => k_is); (case k5 => k_is); (case k6 => k_is); (case k7 => k_is); (case k8 => k_get); (case k9 => k_handed); k_whole))) | (with_reducible (k_here; (with_reducible show wpAny _ _ (setAttr (Value.ref _) _ _) _ _ _); first | dsimp only | (k_dflt (first | ((with_reducible show wpAny _ _ (setAttr _ (Str.ofString "state") _) _ _ _); refine' lex_state ?k1 ?k2 ?k3 ?k4 ?k5 ?k6 ?_) | ((with_reducible show wpAny _ _ (setAttr _ (Str.ofString "token") _) _ _ _); refine' lex_token ?k1 ?k2 ?k3 ?k4 ?k5 ?k6 ?_) | ((with_reducible show wpAny _ _ (setAttr _ (Str.ofString "lineno") _) _ _ _); refine' lex_lineno ?k1 ?k2 ?k3 ?k4 ?k5 ?k6 ?_)); k_dflt ((case k1 => k_asm); (case k2 => k_asm); (case k3 => k_asm); (case k4 => k_mem); (case k5 => k_mem); (case k6 => k_upd); k_whole); intro h' tq F' N'; (try k_sweep)))) | walk1 | (dsimp only; walk1) | (leave1; walk_say "STEP leave1"; try dsimp only) | fail "no step"))
        all_goals exact next_done (by assumption) (by assumption) (by exact if_pos rfl) (by intro z hz; exact if_neg hz) (next_read (by assumption))
      · subst hi
        (repeat' (first | (k_unfold; (try dsimp only)) | (k_end; wrow_close) | (with_reducible ((with_reducible show wpAny _ _ (PySem.truthy (Value.ref _)) _ _ _); (k_here; k_dflt (refine' dq_truthy ?N ?M ?Z ?_; (case N => k_asm); (case M => k_mem); (case Z => exact Nat.le_of_ble_eq_true rfl); k_whole); intro tk'; (try dsimp only [List.isEmpty_nil, List.isEmpty_cons, Bool.not_true, Bool.not_false])))) | (with_reducible ((with_reducible show wpAny _ _ (getMethod (Value.ref _) _ _) _ _ _); (k_here; k_dflt (first | (refine' dq_method ?N ?M DF.s_pop DF.ty_pop ?_; (case N => k_asm); (case M => k_mem); k_whole) | (refine' dq_method ?N ?M DF.s_app DF.ty_app ?_; (case N => k_asm); (case M => k_mem); k_whole))))) | (with_reducible ((with_reducible show wpAny _ _ (call (Value.builtin "collections.deque.pop") _) _ _ _); (k_here; k_dflt (refine' dq_pop (its := []) ?F ?N ?U (by decide) ?_; (case F => k_asm); (case N => k_asm); (case U => k_upd); k_whole); intro h' F' N'; (try k_sweep)))) | (with_reducible ((with_reducible show wpAny _ _ (call (Value.builtin "collections.deque.append") _) _ _ _); (k_here; k_dflt (refine' dq_append (its := []) ?F ?N ?U (by decide) ?_; (case F => k_asm); (case N => k_asm); (case U => k_upd); k_whole); intro h' F' N'; (try k_sweep)))) | (with_reducible (k_here; (with_reducible show wpAny _ _ (call (Value.ref 559) [Value.ref _, Value.int _ _]) _ _ _); k_dflt (refine' read_at ?B ?F ?N ?X ?T ?hf ?hke ?hap ?hd ?hu ?hlen ?hne ?_; (case B => k_asm); (case F => k_asm); (case N => k_asm); (case X => k_asm); (case T => k_asm); (case hf => exact rfl); (case hke => exact rfl); (case hap => exact apart_led (by assumption) (by assumption) (by assumption) (by assumption)); (case hd => (dsimp only; omega)); (case hu => (dsimp only; omega)); (case hlen => k_asm); (case hne => k_asm); k_whole); intro x' ts' pos' t3' h' tk' hr' F' N'; (try k_sweep))) | (with_reducible ((with_reducible show wpAny _ _ (compareOp CmpOp.In (Value.str _ _) (Value.str _ _)) _ _ _); (k_here; with_reducible (first | refine in_nil ?_ | refine in_nil_a ?_ | refine in_nil_c ?_ | refine in_known (r := true) (by with_reducible assumption) ?_ | refine in_known (r := false) (by with_reducible assumption) ?_)))) | (with_reducible (k_here; (with_reducible show wpAny _ _ (PySem.truthy (Value.str _ _)) _ _ _); (refine KXt.truthy_pos (K := 100) (by with_reducible assumption) (by with_reducible assumption) (by decide) ?_); intro k')) | (with_reducible ((with_reducible show wpAny _ _ (compareOp CmpOp.NotIn (Value.str _ _) (Value.str _ _)) _ _ _); (k_here; with_reducible (first | refine notin_t (by with_reducible assumption) ?_ | refine notin_f (by with_reducible assumption) ?_)))) | (with_reducible (k_here; (with_reducible show wpAny _ _ (getAttr (Value.ref _) _ _) _ _ _); k_dflt (refine' get_ownO ?k1 ?k2 ?k3 ?ko ?k4 ?k5 ?k6 ?k7 ?k8 ?k9 ?_; (case k1 => k_asm); (case k2 => k_asm); (case k3 => k_inst); (case ko => exact rfl); (case k4 => k_is); (case k5 => k_is); (case k6 => k_is); (case k7 => k_is); (case k8 => k_get); (case k9 => k_handed); k_whole))) | (with_reducible (k_here; (with_reducible show wpAny _ _ (setAttr (Value.ref _) _ _) _ _ _); first | dsimp only | (k_dflt (first | ((with_reducible show wpAny _ _ (setAttr _ (Str.ofString "state") _) _ _ _); refine' lex_state ?k1 ?k2 ?k3 ?k4 ?k5 ?k6 ?_) | ((with_reducible show wpAny _ _ (setAttr _ (Str.ofString "token") _) _ _ _); refine' lex_token ?k1 ?k2 ?k3 ?k4 ?k5 ?k6 ?_) | ((with_reducible show wpAny _ _ (setAttr _ (Str.ofString "lineno") _) _ _ _); refine' lex_lineno ?k1 ?k2 ?k3 ?k4 ?k5 ?k6 ?_)); k_dflt ((case k1 => k_asm); (case k2 => k_asm); (case k3 => k_asm); (case k4 => k_mem); (case k5 => k_mem); (case k6 => k_upd); k_whole); intro h' tq F' N'; (try k_sweep)))) | walk1 | (dsimp only; walk1) | (leave1; walk_say "STEP leave1"; try dsimp only) | fail "no step"))
        all_goals exact next_done (by assumption) (by assumption) (by exact if_pos rfl) (by intro z hz; exact if_neg hz) next_pop
    case rest =>
      rintro s₂ ⟨nx, tn, c1, h2, tk2, m2, rfl, ⟨hn1, hn2⟩, F2, N2, e1, e2, e3, hNx⟩
      obtain ⟨r, hRest, hdue, hst⟩ := hP1
      have hU2 : ∀ p ∈ [(Str.ofString "self", Value.ref x), (Str.ofString "quoted", Value.bool false)], m2 p.1 = some p.2 := by
        intro p hp
        rcases List.mem_cons.mp hp with rfl | hp
        · exact hn2 (Str.ofString "self") (by decide)
        · rw [List.mem_singleton.mp hp]
          exact hn2 (Str.ofString "quoted") (by decide)
      have hm2 : ∀ p ∈ [(Str.ofString "nextchar", Value.str nx tn), (Str.ofString "self", Value.ref x), (Str.ofString "quoted", Value.bool false)], m2 p.1 = some p.2 := by
        intro p hp
        rcases List.mem_cons.mp hp with rfl | hp
        · exact hn1
        · exact hU2 p hp
      have hkeq : kstB m2 [(Str.ofString "nextchar", Value.str nx tn), (Str.ofString "self", Value.ref x), (Str.ofString "quoted", Value.bool false)] = m2 := by
        funext z
        exact kstB_eq hm2 fun _ => rfl
      have hA : ∀ p ∈ [(Str.ofString "self", Value.ref x), (Str.ofString "quoted", Value.bool false)], kstB m2 [(Str.ofString "nextchar", Value.str nx tn), (Str.ofString "self", Value.ref x), (Str.ofString "quoted", Value.bool false)] p.1 = some p.2 := by rw [hkeq]; exact hU2
      have hB : ∀ z, (∀ p ∈ [(Str.ofString "self", Value.ref x), (Str.ofString "quoted", Value.bool false)], z ≠ p.1) → [Str.ofString "nextchar", Str.ofString "escapedstate"].contains z = false → kstB m2 [(Str.ofString "nextchar", Value.str nx tn), (Str.ofString "self", Value.ref x), (Str.ofString "quoted", Value.bool false)] z = M z := by
        intro z h3 h4
        have hz : z ≠ Str.ofString "nextchar" := by
          rintro rfl
          revert h4
          decide
        have hs : z ≠ Str.ofString "self" := h3 _ (.head _)
        have hq : z ≠ Str.ofString "quoted" := h3 _ (.tail _ (.head _))
        rw [hkeq, hn2 z hz]
        show (if z = Str.ofString "self" then _ else if z = Str.ofString "quoted" then _ else U z) = _
        rw [if_neg hs, if_neg hq, hU]
        show (if _ then _ else _) = _
        rw [h4]
        rfl
      replace F2 := fr_at _ hm2 F2
      obtain ⟨st, tks, tt, pos, t3, ivs, n, ln, tl⟩ := c1
      dsimp only at e1 e2 e3
      dsimp only [RtSt.tk] at hst hdue
      rw [← e1, ← e2] at hst
      rw [← e2] at hdue
      subst e3
      clear hkeq hU2 hn2 hn1 hm2 e1 e2 hU F1 N1 FM hM hret hl hg hP
      dsimp only [ledR] at N2
      dsimp only [RtSt.tk] at hNx hst hdue
      rcases hNx r hRest with ⟨a, r', rfl, rfl, hR, hz, hmu⟩ | ⟨rfl, rfl, hR⟩
      · rcases hst with ⟨⟨ts, rfl⟩, h0⟩ | ⟨⟨ts, rfl⟩, ht⟩ | ⟨⟨ts, rfl⟩, ht⟩ | ⟨_, _, h0⟩
        · -- a white state
          obtain rfl := str_empty h0
          have ha1 : 1 ≤ Str.length ⟨#[a]⟩ := Nat.le_refl 1
          have ha2 : Str.length ⟨#[a]⟩ ≤ 100 := by show 1 ≤ 100; decide
          rcases kd_cases a with ⟨hk, hw⟩ | ⟨hk, hw, hf⟩ | ⟨hk, hw, hf⟩
          · (repeat' (first | (((with_reducible show wpAny _ _ (eval (Expr.Name _ _) _) _ _ _); k_dflt (refine' ld ?k1 ?k2 ?_; (case k1 => k_asm); (case k2 => exact rfl); k_whole))) | (((with_reducible show wpAny _ _ (exec (Stmt.If (Expr.BoolOp BoolOp.And (Expr.Attribute _ (Str.ofString "posix") _ :: _) _) _ _ _) _) _ _ _); refine if_no ?h1 ?_; (case h1 => ((repeat' (first | (k_unfold; (try dsimp only)) | (k_end; wrow_close) | (with_reducible ((with_reducible show wpAny _ _ (PySem.truthy (Value.ref _)) _ _ _); (k_here; k_dflt (refine' dq_truthy ?N ?M ?Z ?_; (case N => k_asm); (case M => k_mem); (case Z => exact Nat.le_of_ble_eq_true rfl); k_whole); intro tk'; (try dsimp only [List.isEmpty_nil, List.isEmpty_cons, Bool.not_true, Bool.not_false])))) | (with_reducible ((with_reducible show wpAny _ _ (getMethod (Value.ref _) _ _) _ _ _); (k_here; k_dflt (first | (refine' dq_method ?N ?M DF.s_pop DF.ty_pop ?_; (case N => k_asm); (case M => k_mem); k_whole) | (refine' dq_method ?N ?M DF.s_app DF.ty_app ?_; (case N => k_asm); (case M => k_mem); k_whole))))) | (with_reducible ((with_reducible show wpAny _ _ (call (Value.builtin "collections.deque.pop") _) _ _ _); (k_here; k_dflt (refine' dq_pop (its := []) ?F ?N ?U (by decide) ?_; (case F => k_asm); (case N => k_asm); (case U => k_upd); k_whole); intro h' F' N'; (try k_sweep)))) | (with_reducible ((with_reducible show wpAny _ _ (call (Value.builtin "collections.deque.append") _) _ _ _); (k_here; k_dflt (refine' dq_append (its := []) ?F ?N ?U (by decide) ?_; (case F => k_asm); (case N => k_asm); (case U => k_upd); k_whole); intro h' F' N'; (try k_sweep)))) | (with_reducible (k_here; (with_reducible show wpAny _ _ (call (Value.ref 559) [Value.ref _, Value.int _ _]) _ _ _); k_dflt (refine' read_at ?B ?F ?N ?X ?T ?hf ?hke ?hap ?hd ?hu ?hlen ?hne ?_; (case B => k_asm); (case F => k_asm); (case N => k_asm); (case X => k_asm); (case T => k_asm); (case hf => exact rfl); (case hke => exact rfl); (case hap => exact apart_led (by assumption) (by assumption) (by assumption) (by assumption)); (case hd => (dsimp only; omega)); (case hu => (dsimp only; omega)); (case hlen => k_asm); (case hne => k_asm); k_whole); intro x' ts' pos' t3' h' tk' hr' F' N'; (try k_sweep))) | (with_reducible ((with_reducible show wpAny _ _ (compareOp CmpOp.In (Value.str _ _) (Value.str _ _)) _ _ _); (k_here; with_reducible (first | refine in_nil ?_ | refine in_nil_a ?_ | refine in_nil_c ?_ | refine in_known (r := true) (by with_reducible assumption) ?_ | refine in_known (r := false) (by with_reducible assumption) ?_)))) | (with_reducible (k_here; (with_reducible show wpAny _ _ (PySem.truthy (Value.str _ _)) _ _ _); (refine KXt.truthy_pos (K := 100) (by with_reducible assumption) (by with_reducible assumption) (by decide) ?_); intro k')) | (with_reducible ((with_reducible show wpAny _ _ (compareOp CmpOp.NotIn (Value.str _ _) (Value.str _ _)) _ _ _); (k_here; with_reducible (first | refine notin_t (by with_reducible assumption) ?_ | refine notin_f (by with_reducible assumption) ?_)))) | (with_reducible (k_here; (with_reducible show wpAny _ _ (getAttr (Value.ref _) _ _) _ _ _); k_dflt (refine' get_ownO ?k1 ?k2 ?k3 ?ko ?k4 ?k5 ?k6 ?k7 ?k8 ?k9 ?_; (case k1 => k_asm); (case k2 => k_asm); (case k3 => k_inst); (case ko => exact rfl); (case k4 => k_is); (case k5 => k_is); (case k6 => k_is); (case k7 => k_is); (case k8 => k_get); (case k9 => k_handed); k_whole))) | (with_reducible (k_here; (with_reducible show wpAny _ _ (setAttr (Value.ref _) _ _) _ _ _); first | dsimp only | (k_dflt (first | ((with_reducible show wpAny _ _ (setAttr _ (Str.ofString "state") _) _ _ _); refine' lex_state ?k1 ?k2 ?k3 ?k4 ?k5 ?k6 ?_) | ((with_reducible show wpAny _ _ (setAttr _ (Str.ofString "token") _) _ _ _); refine' lex_token ?k1 ?k2 ?k3 ?k4 ?k5 ?k6 ?_) | ((with_reducible show wpAny _ _ (setAttr _ (Str.ofString "lineno") _) _ _ _); refine' lex_lineno ?k1 ?k2 ?k3 ?k4 ?k5 ?k6 ?_)); k_dflt ((case k1 => k_asm); (case k2 => k_asm); (case k3 => k_asm); (case k4 => k_mem); (case k5 => k_mem); (case k6 => k_upd); k_whole); intro h' tq F' N'; (try k_sweep)))) | walk1 | (dsimp only; walk1) | (leave1; walk_say "STEP leave1"; try dsimp only) | fail "no step")); all_goals exact CameOut.intro)); intro tk')) | (((with_reducible show wpAny _ _ (exec (Stmt.If _ _ _ _) _) _ _ _); (try k_fold); refine wpAny_If ?_; (try k_fold))) | (k_unfold; (try dsimp only)) | (with_reducible ((with_reducible show wpAny _ _ (PySem.truthy (Value.ref _)) _ _ _); (k_here; k_dflt (refine' dq_truthy ?N ?M ?Z ?_; (case N => k_asm); (case M => k_mem); (case Z => exact Nat.le_of_ble_eq_true rfl); k_whole); intro tk'; (try dsimp only [List.isEmpty_nil, List.isEmpty_cons, Bool.not_true, Bool.not_false])))) | (with_reducible ((with_reducible show wpAny _ _ (getMethod (Value.ref _) _ _) _ _ _); (k_here; k_dflt (first | (refine' dq_method ?N ?M DF.s_pop DF.ty_pop ?_; (case N => k_asm); (case M => k_mem); k_whole) | (refine' dq_method ?N ?M DF.s_app DF.ty_app ?_; (case N => k_asm); (case M => k_mem); k_whole))))) | (with_reducible ((with_reducible show wpAny _ _ (call (Value.builtin "collections.deque.pop") _) _ _ _); (k_here; k_dflt (refine' dq_pop (its := []) ?F ?N ?U (by decide) ?_; (case F => k_asm); (case N => k_asm); (case U => k_upd); k_whole); intro h' F' N'; (try k_sweep)))) | (with_reducible ((with_reducible show wpAny _ _ (call (Value.builtin "collections.deque.append") _) _ _ _); (k_here; k_dflt (refine' dq_append (its := []) ?F ?N ?U (by decide) ?_; (case F => k_asm); (case N => k_asm); (case U => k_upd); k_whole); intro h' F' N'; (try k_sweep)))) | (with_reducible (k_here; (with_reducible show wpAny _ _ (call (Value.ref 559) [Value.ref _, Value.int _ _]) _ _ _); k_dflt (refine' read_at ?B ?F ?N ?X ?T ?hf ?hke ?hap ?hd ?hu ?hlen ?hne ?_; (case B => k_asm); (case F => k_asm); (case N => k_asm); (case X => k_asm); (case T => k_asm); (case hf => exact rfl); (case hke => exact rfl); (case hap => exact apart_led (by assumption) (by assumption) (by assumption) (by assumption)); (case hd => (dsimp only; omega)); (case hu => (dsimp only; omega)); (case hlen => k_asm); (case hne => k_asm); k_whole); intro x' ts' pos' t3' h' tk' hr' F' N'; (try k_sweep))) | (with_reducible ((with_reducible show wpAny _ _ (compareOp CmpOp.In (Value.str _ _) (Value.str _ _)) _ _ _); (k_here; with_reducible (first | refine in_nil ?_ | refine in_nil_a ?_ | refine in_nil_c ?_ | refine in_known (r := true) (by with_reducible assumption) ?_ | refine in_known (r := false) (by with_reducible assumption) ?_)))) | (with_reducible (k_here; (with_reducible show wpAny _ _ (PySem.truthy (Value.str _ _)) _ _ _); (refine KXt.truthy_pos (K := 100) (by with_reducible assumption) (by with_reducible assumption) (by decide) ?_); intro k')) | (with_reducible ((with_reducible show wpAny _ _ (compareOp CmpOp.NotIn (Value.str _ _) (Value.str _ _)) _ _ _); (k_here; with_reducible (first | refine notin_t (by with_reducible assumption) ?_ | refine notin_f (by with_reducible assumption) ?_)))) | (with_reducible (k_here; (with_reducible show wpAny _ _ (getAttr (Value.ref _) _ _) _ _ _); k_dflt (refine' get_ownO ?k1 ?k2 ?k3 ?ko ?k4 ?k5 ?k6 ?k7 ?k8 ?k9 ?_; (case k1 => k_asm); (case k2 => k_asm); (case k3 => k_inst); (case ko => exact rfl); (case k4 => k_is); (case k5 => k_is); (case k6 => k_is); (case k7 => k_is); (case k8 => k_get); (case k9 => k_handed); k_whole))) | (with_reducible (k_here; (with_reducible show wpAny _ _ (setAttr (Value.ref _) _ _) _ _ _); first | dsimp only | (k_dflt (first | ((with_reducible show wpAny _ _ (setAttr _ (Str.ofString "state") _) _ _ _); refine' lex_state ?k1 ?k2 ?k3 ?k4 ?k5 ?k6 ?_) | ((with_reducible show wpAny _ _ (setAttr _ (Str.ofString "token") _) _ _ _); refine' lex_token ?k1 ?k2 ?k3 ?k4 ?k5 ?k6 ?_) | ((with_reducible show wpAny _ _ (setAttr _ (Str.ofString "lineno") _) _ _ _); refine' lex_lineno ?k1 ?k2 ?k3 ?k4 ?k5 ?k6 ?_)); k_dflt ((case k1 => k_asm); (case k2 => k_asm); (case k3 => k_asm); (case k4 => k_mem); (case k5 => k_mem); (case k6 => k_upd); k_whole); intro h' tq F' N'; (try k_sweep)))) | walk1 | (dsimp only; walk1) | (leave1; walk_say "STEP leave1"; (try dsimp only))))
            all_goals exact turn_done (by assumption) (by first | assumption | exact news_tl (by assumption)) hA hB (p_skip hR hdue h0 hk ⟨_, rfl⟩) hmu
          · have hwf := hwc a hk
            (repeat' (first | (((with_reducible show wpAny _ _ (eval (Expr.Name _ _) _) _ _ _); k_dflt (refine' ld ?k1 ?k2 ?_; (case k1 => k_asm); (case k2 => exact rfl); k_whole))) | (((with_reducible show wpAny _ _ (exec (Stmt.If (Expr.BoolOp BoolOp.And (Expr.Attribute _ (Str.ofString "posix") _ :: _) _) _ _ _) _) _ _ _); refine if_no ?h1 ?_; (case h1 => ((repeat' (first | (k_unfold; (try dsimp only)) | (k_end; wrow_close) | (with_reducible ((with_reducible show wpAny _ _ (PySem.truthy (Value.ref _)) _ _ _); (k_here; k_dflt (refine' dq_truthy ?N ?M ?Z ?_; (case N => k_asm); (case M => k_mem); (case Z => exact Nat.le_of_ble_eq_true rfl); k_whole); intro tk'; (try dsimp only [List.isEmpty_nil, List.isEmpty_cons, Bool.not_true, Bool.not_false])))) | (with_reducible ((with_reducible show wpAny _ _ (getMethod (Value.ref _) _ _) _ _ _); (k_here; k_dflt (first | (refine' dq_method ?N ?M DF.s_pop DF.ty_pop ?_; (case N => k_asm); (case M => k_mem); k_whole) | (refine' dq_method ?N ?M DF.s_app DF.ty_app ?_; (case N => k_asm); (case M => k_mem); k_whole))))) | (with_reducible ((with_reducible show wpAny _ _ (call (Value.builtin "collections.deque.pop") _) _ _ _); (k_here; k_dflt (refine' dq_pop (its := []) ?F ?N ?U (by decide) ?_; (case F => k_asm); (case N => k_asm); (case U => k_upd); k_whole); intro h' F' N'; (try k_sweep)))) | (with_reducible ((with_reducible show wpAny _ _ (call (Value.builtin "collections.deque.append") _) _ _ _); (k_here; k_dflt (refine' dq_append (its := []) ?F ?N ?U (by decide) ?_; (case F => k_asm); (case N => k_asm); (case U => k_upd); k_whole); intro h' F' N'; (try k_sweep)))) | (with_reducible (k_here; (with_reducible show wpAny _ _ (call (Value.ref 559) [Value.ref _, Value.int _ _]) _ _ _); k_dflt (refine' read_at ?B ?F ?N ?X ?T ?hf ?hke ?hap ?hd ?hu ?hlen ?hne ?_; (case B => k_asm); (case F => k_asm); (case N => k_asm); (case X => k_asm); (case T => k_asm); (case hf => exact rfl); (case hke => exact rfl); (case hap => exact apart_led (by assumption) (by assumption) (by assumption) (by assumption)); (case hd => (dsimp only; omega)); (case hu => (dsimp only; omega)); (case hlen => k_asm); (case hne => k_asm); k_whole); intro x' ts' pos' t3' h' tk' hr' F' N'; (try k_sweep))) | (with_reducible ((with_reducible show wpAny _ _ (compareOp CmpOp.In (Value.str _ _) (Value.str _ _)) _ _ _); (k_here; with_reducible (first | refine in_nil ?_ | refine in_nil_a ?_ | refine in_nil_c ?_ | refine in_known (r := true) (by with_reducible assumption) ?_ | refine in_known (r := false) (by with_reducible assumption) ?_)))) | (with_reducible (k_here; (with_reducible show wpAny _ _ (PySem.truthy (Value.str _ _)) _ _ _); (refine KXt.truthy_pos (K := 100) (by with_reducible assumption) (by with_reducible assumption) (by decide) ?_); intro k')) | (with_reducible ((with_reducible show wpAny _ _ (compareOp CmpOp.NotIn (Value.str _ _) (Value.str _ _)) _ _ _); (k_here; with_reducible (first | refine notin_t (by with_reducible assumption) ?_ | refine notin_f (by with_reducible assumption) ?_)))) | (with_reducible (k_here; (with_reducible show wpAny _ _ (getAttr (Value.ref _) _ _) _ _ _); k_dflt (refine' get_ownO ?k1 ?k2 ?k3 ?ko ?k4 ?k5 ?k6 ?k7 ?k8 ?k9 ?_; (case k1 => k_asm); (case k2 => k_asm); (case k3 => k_inst); (case ko => exact rfl); (case k4 => k_is); (case k5 => k_is); (case k6 => k_is); (case k7 => k_is); (case k8 => k_get); (case k9 => k_handed); k_whole))) | (with_reducible (k_here; (with_reducible show wpAny _ _ (setAttr (Value.ref _) _ _) _ _ _); first | dsimp only | (k_dflt (first | ((with_reducible show wpAny _ _ (setAttr _ (Str.ofString "state") _) _ _ _); refine' lex_state ?k1 ?k2 ?k3 ?k4 ?k5 ?k6 ?_) | ((with_reducible show wpAny _ _ (setAttr _ (Str.ofString "token") _) _ _ _); refine' lex_token ?k1 ?k2 ?k3 ?k4 ?k5 ?k6 ?_) | ((with_reducible show wpAny _ _ (setAttr _ (Str.ofString "lineno") _) _ _ _); refine' lex_lineno ?k1 ?k2 ?k3 ?k4 ?k5 ?k6 ?_)); k_dflt ((case k1 => k_asm); (case k2 => k_asm); (case k3 => k_asm); (case k4 => k_mem); (case k5 => k_mem); (case k6 => k_upd); k_whole); intro h' tq F' N'; (try k_sweep)))) | walk1 | (dsimp only; walk1) | (leave1; walk_say "STEP leave1"; try dsimp only) | fail "no step")); all_goals exact CameOut.intro)); intro tk')) | (((with_reducible show wpAny _ _ (exec (Stmt.If _ _ _ _) _) _ _ _); (try k_fold); refine wpAny_If ?_; (try k_fold))) | (k_unfold; (try dsimp only)) | (with_reducible ((with_reducible show wpAny _ _ (PySem.truthy (Value.ref _)) _ _ _); (k_here; k_dflt (refine' dq_truthy ?N ?M ?Z ?_; (case N => k_asm); (case M => k_mem); (case Z => exact Nat.le_of_ble_eq_true rfl); k_whole); intro tk'; (try dsimp only [List.isEmpty_nil, List.isEmpty_cons, Bool.not_true, Bool.not_false])))) | (with_reducible ((with_reducible show wpAny _ _ (getMethod (Value.ref _) _ _) _ _ _); (k_here; k_dflt (first | (refine' dq_method ?N ?M DF.s_pop DF.ty_pop ?_; (case N => k_asm); (case M => k_mem); k_whole) | (refine' dq_method ?N ?M DF.s_app DF.ty_app ?_; (case N => k_asm); (case M => k_mem); k_whole))))) | (with_reducible ((with_reducible show wpAny _ _ (call (Value.builtin "collections.deque.pop") _) _ _ _); (k_here; k_dflt (refine' dq_pop (its := []) ?F ?N ?U (by decide) ?_; (case F => k_asm); (case N => k_asm); (case U => k_upd); k_whole); intro h' F' N'; (try k_sweep)))) | (with_reducible ((with_reducible show wpAny _ _ (call (Value.builtin "collections.deque.append") _) _ _ _); (k_here; k_dflt (refine' dq_append (its := []) ?F ?N ?U (by decide) ?_; (case F => k_asm); (case N => k_asm); (case U => k_upd); k_whole); intro h' F' N'; (try k_sweep)))) | (with_reducible (k_here; (with_reducible show wpAny _ _ (call (Value.ref 559) [Value.ref _, Value.int _ _]) _ _ _); k_dflt (refine' read_at ?B ?F ?N ?X ?T ?hf ?hke ?hap ?hd ?hu ?hlen ?hne ?_; (case B => k_asm); (case F => k_asm); (case N => k_asm); (case X => k_asm); (case T => k_asm); (case hf => exact rfl); (case hke => exact rfl); (case hap => exact apart_led (by assumption) (by assumption) (by assumption) (by assumption)); (case hd => (dsimp only; omega)); (case hu => (dsimp only; omega)); (case hlen => k_asm); (case hne => k_asm); k_whole); intro x' ts' pos' t3' h' tk' hr' F' N'; (try k_sweep))) | (with_reducible ((with_reducible show wpAny _ _ (compareOp CmpOp.In (Value.str _ _) (Value.str _ _)) _ _ _); (k_here; with_reducible (first | refine in_nil ?_ | refine in_nil_a ?_ | refine in_nil_c ?_ | refine in_known (r := true) (by with_reducible assumption) ?_ | refine in_known (r := false) (by with_reducible assumption) ?_)))) | (with_reducible (k_here; (with_reducible show wpAny _ _ (PySem.truthy (Value.str _ _)) _ _ _); (refine KXt.truthy_pos (K := 100) (by with_reducible assumption) (by with_reducible assumption) (by decide) ?_); intro k')) | (with_reducible ((with_reducible show wpAny _ _ (compareOp CmpOp.NotIn (Value.str _ _) (Value.str _ _)) _ _ _); (k_here; with_reducible (first | refine notin_t (by with_reducible assumption) ?_ | refine notin_f (by with_reducible assumption) ?_)))) | (with_reducible (k_here; (with_reducible show wpAny _ _ (getAttr (Value.ref _) _ _) _ _ _); k_dflt (refine' get_ownO ?k1 ?k2 ?k3 ?ko ?k4 ?k5 ?k6 ?k7 ?k8 ?k9 ?_; (case k1 => k_asm); (case k2 => k_asm); (case k3 => k_inst); (case ko => exact rfl); (case k4 => k_is); (case k5 => k_is); (case k6 => k_is); (case k7 => k_is); (case k8 => k_get); (case k9 => k_handed); k_whole))) | (with_reducible (k_here; (with_reducible show wpAny _ _ (setAttr (Value.ref _) _ _) _ _ _); first | dsimp only | (k_dflt (first | ((with_reducible show wpAny _ _ (setAttr _ (Str.ofString "state") _) _ _ _); refine' lex_state ?k1 ?k2 ?k3 ?k4 ?k5 ?k6 ?_) | ((with_reducible show wpAny _ _ (setAttr _ (Str.ofString "token") _) _ _ _); refine' lex_token ?k1 ?k2 ?k3 ?k4 ?k5 ?k6 ?_) | ((with_reducible show wpAny _ _ (setAttr _ (Str.ofString "lineno") _) _ _ _); refine' lex_lineno ?k1 ?k2 ?k3 ?k4 ?k5 ?k6 ?_)); k_dflt ((case k1 => k_asm); (case k2 => k_asm); (case k3 => k_asm); (case k4 => k_mem); (case k5 => k_mem); (case k6 => k_upd); k_whole); intro h' tq F' N'; (try k_sweep)))) | walk1 | (dsimp only; walk1) | (leave1; walk_say "STEP leave1"; (try dsimp only))))
            all_goals exact turn_done (by assumption) (by first | assumption | exact news_tl (by assumption)) hA hB (p_first hR hdue h0 hz (.inr ⟨hk, _, rfl⟩)) hmu
          · (repeat' (first | (((with_reducible show wpAny _ _ (eval (Expr.Name _ _) _) _ _ _); k_dflt (refine' ld ?k1 ?k2 ?_; (case k1 => k_asm); (case k2 => exact rfl); k_whole))) | (((with_reducible show wpAny _ _ (exec (Stmt.If (Expr.BoolOp BoolOp.And (Expr.Attribute _ (Str.ofString "posix") _ :: _) _) _ _ _) _) _ _ _); refine if_no ?h1 ?_; (case h1 => ((repeat' (first | (k_unfold; (try dsimp only)) | (k_end; wrow_close) | (with_reducible ((with_reducible show wpAny _ _ (PySem.truthy (Value.ref _)) _ _ _); (k_here; k_dflt (refine' dq_truthy ?N ?M ?Z ?_; (case N => k_asm); (case M => k_mem); (case Z => exact Nat.le_of_ble_eq_true rfl); k_whole); intro tk'; (try dsimp only [List.isEmpty_nil, List.isEmpty_cons, Bool.not_true, Bool.not_false])))) | (with_reducible ((with_reducible show wpAny _ _ (getMethod (Value.ref _) _ _) _ _ _); (k_here; k_dflt (first | (refine' dq_method ?N ?M DF.s_pop DF.ty_pop ?_; (case N => k_asm); (case M => k_mem); k_whole) | (refine' dq_method ?N ?M DF.s_app DF.ty_app ?_; (case N => k_asm); (case M => k_mem); k_whole))))) | (with_reducible ((with_reducible show wpAny _ _ (call (Value.builtin "collections.deque.pop") _) _ _ _); (k_here; k_dflt (refine' dq_pop (its := []) ?F ?N ?U (by decide) ?_; (case F => k_asm); (case N => k_asm); (case U => k_upd); k_whole); intro h' F' N'; (try k_sweep)))) | (with_reducible ((with_reducible show wpAny _ _ (call (Value.builtin "collections.deque.append") _) _ _ _); (k_here; k_dflt (refine' dq_append (its := []) ?F ?N ?U (by decide) ?_; (case F => k_asm); (case N => k_asm); (case U => k_upd); k_whole); intro h' F' N'; (try k_sweep)))) | (with_reducible (k_here; (with_reducible show wpAny _ _ (call (Value.ref 559) [Value.ref _, Value.int _ _]) _ _ _); k_dflt (refine' read_at ?B ?F ?N ?X ?T ?hf ?hke ?hap ?hd ?hu ?hlen ?hne ?_; (case B => k_asm); (case F => k_asm); (case N => k_asm); (case X => k_asm); (case T => k_asm); (case hf => exact rfl); (case hke => exact rfl); (case hap => exact apart_led (by assumption) (by assumption) (by assumption) (by assumption)); (case hd => (dsimp only; omega)); (case hu => (dsimp only; omega)); (case hlen => k_asm); (case hne => k_asm); k_whole); intro x' ts' pos' t3' h' tk' hr' F' N'; (try k_sweep))) | (with_reducible ((with_reducible show wpAny _ _ (compareOp CmpOp.In (Value.str _ _) (Value.str _ _)) _ _ _); (k_here; with_reducible (first | refine in_nil ?_ | refine in_nil_a ?_ | refine in_nil_c ?_ | refine in_known (r := true) (by with_reducible assumption) ?_ | refine in_known (r := false) (by with_reducible assumption) ?_)))) | (with_reducible (k_here; (with_reducible show wpAny _ _ (PySem.truthy (Value.str _ _)) _ _ _); (refine KXt.truthy_pos (K := 100) (by with_reducible assumption) (by with_reducible assumption) (by decide) ?_); intro k')) | (with_reducible ((with_reducible show wpAny _ _ (compareOp CmpOp.NotIn (Value.str _ _) (Value.str _ _)) _ _ _); (k_here; with_reducible (first | refine notin_t (by with_reducible assumption) ?_ | refine notin_f (by with_reducible assumption) ?_)))) | (with_reducible (k_here; (with_reducible show wpAny _ _ (getAttr (Value.ref _) _ _) _ _ _); k_dflt (refine' get_ownO ?k1 ?k2 ?k3 ?ko ?k4 ?k5 ?k6 ?k7 ?k8 ?k9 ?_; (case k1 => k_asm); (case k2 => k_asm); (case k3 => k_inst); (case ko => exact rfl); (case k4 => k_is); (case k5 => k_is); (case k6 => k_is); (case k7 => k_is); (case k8 => k_get); (case k9 => k_handed); k_whole))) | (with_reducible (k_here; (with_reducible show wpAny _ _ (setAttr (Value.ref _) _ _) _ _ _); first | dsimp only | (k_dflt (first | ((with_reducible show wpAny _ _ (setAttr _ (Str.ofString "state") _) _ _ _); refine' lex_state ?k1 ?k2 ?k3 ?k4 ?k5 ?k6 ?_) | ((with_reducible show wpAny _ _ (setAttr _ (Str.ofString "token") _) _ _ _); refine' lex_token ?k1 ?k2 ?k3 ?k4 ?k5 ?k6 ?_) | ((with_reducible show wpAny _ _ (setAttr _ (Str.ofString "lineno") _) _ _ _); refine' lex_lineno ?k1 ?k2 ?k3 ?k4 ?k5 ?k6 ?_)); k_dflt ((case k1 => k_asm); (case k2 => k_asm); (case k3 => k_asm); (case k4 => k_mem); (case k5 => k_mem); (case k6 => k_upd); k_whole); intro h' tq F' N'; (try k_sweep)))) | walk1 | (dsimp only; walk1) | (leave1; walk_say "STEP leave1"; try dsimp only) | fail "no step")); all_goals exact CameOut.intro)); intro tk')) | (((with_reducible show wpAny _ _ (exec (Stmt.If _ _ _ _) _) _ _ _); (try k_fold); refine wpAny_If ?_; (try k_fold))) | (k_unfold; (try dsimp only)) | (with_reducible ((with_reducible show wpAny _ _ (PySem.truthy (Value.ref _)) _ _ _); (k_here; k_dflt (refine' dq_truthy ?N ?M ?Z ?_; (case N => k_asm); (case M => k_mem); (case Z => exact Nat.le_of_ble_eq_true rfl); k_whole); intro tk'; (try dsimp only [List.isEmpty_nil, List.isEmpty_cons, Bool.not_true, Bool.not_false])))) | (with_reducible ((with_reducible show wpAny _ _ (getMethod (Value.ref _) _ _) _ _ _); (k_here; k_dflt (first | (refine' dq_method ?N ?M DF.s_pop DF.ty_pop ?_; (case N => k_asm); (case M => k_mem); k_whole) | (refine' dq_method ?N ?M DF.s_app DF.ty_app ?_; (case N => k_asm); (case M => k_mem); k_whole))))) | (with_reducible ((with_reducible show wpAny _ _ (call (Value.builtin "collections.deque.pop") _) _ _ _); (k_here; k_dflt (refine' dq_pop (its := []) ?F ?N ?U (by decide) ?_; (case F => k_asm); (case N => k_asm); (case U => k_upd); k_whole); intro h' F' N'; (try k_sweep)))) | (with_reducible ((with_reducible show wpAny _ _ (call (Value.builtin "collections.deque.append") _) _ _ _); (k_here; k_dflt (refine' dq_append (its := []) ?F ?N ?U (by decide) ?_; (case F => k_asm); (case N => k_asm); (case U => k_upd); k_whole); intro h' F' N'; (try k_sweep)))) | (with_reducible (k_here; (with_reducible show wpAny _ _ (call (Value.ref 559) [Value.ref _, Value.int _ _]) _ _ _); k_dflt (refine' read_at ?B ?F ?N ?X ?T ?hf ?hke ?hap ?hd ?hu ?hlen ?hne ?_; (case B => k_asm); (case F => k_asm); (case N => k_asm); (case X => k_asm); (case T => k_asm); (case hf => exact rfl); (case hke => exact rfl); (case hap => exact apart_led (by assumption) (by assumption) (by assumption) (by assumption)); (case hd => (dsimp only; omega)); (case hu => (dsimp only; omega)); (case hlen => k_asm); (case hne => k_asm); k_whole); intro x' ts' pos' t3' h' tk' hr' F' N'; (try k_sweep))) | (with_reducible ((with_reducible show wpAny _ _ (compareOp CmpOp.In (Value.str _ _) (Value.str _ _)) _ _ _); (k_here; with_reducible (first | refine in_nil ?_ | refine in_nil_a ?_ | refine in_nil_c ?_ | refine in_known (r := true) (by with_reducible assumption) ?_ | refine in_known (r := false) (by with_reducible assumption) ?_)))) | (with_reducible (k_here; (with_reducible show wpAny _ _ (PySem.truthy (Value.str _ _)) _ _ _); (refine KXt.truthy_pos (K := 100) (by with_reducible assumption) (by with_reducible assumption) (by decide) ?_); intro k')) | (with_reducible ((with_reducible show wpAny _ _ (compareOp CmpOp.NotIn (Value.str _ _) (Value.str _ _)) _ _ _); (k_here; with_reducible (first | refine notin_t (by with_reducible assumption) ?_ | refine notin_f (by with_reducible assumption) ?_)))) | (with_reducible (k_here; (with_reducible show wpAny _ _ (getAttr (Value.ref _) _ _) _ _ _); k_dflt (refine' get_ownO ?k1 ?k2 ?k3 ?ko ?k4 ?k5 ?k6 ?k7 ?k8 ?k9 ?_; (case k1 => k_asm); (case k2 => k_asm); (case k3 => k_inst); (case ko => exact rfl); (case k4 => k_is); (case k5 => k_is); (case k6 => k_is); (case k7 => k_is); (case k8 => k_get); (case k9 => k_handed); k_whole))) | (with_reducible (k_here; (with_reducible show wpAny _ _ (setAttr (Value.ref _) _ _) _ _ _); first | dsimp only | (k_dflt (first | ((with_reducible show wpAny _ _ (setAttr _ (Str.ofString "state") _) _ _ _); refine' lex_state ?k1 ?k2 ?k3 ?k4 ?k5 ?k6 ?_) | ((with_reducible show wpAny _ _ (setAttr _ (Str.ofString "token") _) _ _ _); refine' lex_token ?k1 ?k2 ?k3 ?k4 ?k5 ?k6 ?_) | ((with_reducible show wpAny _ _ (setAttr _ (Str.ofString "lineno") _) _ _ _); refine' lex_lineno ?k1 ?k2 ?k3 ?k4 ?k5 ?k6 ?_)); k_dflt ((case k1 => k_asm); (case k2 => k_asm); (case k3 => k_asm); (case k4 => k_mem); (case k5 => k_mem); (case k6 => k_upd); k_whole); intro h' tq F' N'; (try k_sweep)))) | walk1 | (dsimp only; walk1) | (leave1; walk_say "STEP leave1"; (try dsimp only))))
            all_goals exact turn_done (by assumption) (by first | assumption | exact news_tl (by assumption)) hA hB (p_first hR hdue h0 hz (.inl ⟨hk, _, rfl⟩)) hmu
        · -- in a word
          have ha1 : 1 ≤ Str.length ⟨#[a]⟩ := Nat.le_refl 1
          have ha2 : Str.length ⟨#[a]⟩ ≤ 100 := by show 1 ≤ 100; decide
          have ht1 : 1 ≤ tks.length := len_pos ht.1
          have ht2 : tks.length ≤ 100 := len_le hz hlen
          rcases kd_cases a with ⟨hk, hw⟩ | ⟨hk, hw, hf⟩ | ⟨hk, hw, hf⟩
          · (repeat' (first | (((with_reducible show wpAny _ _ (eval (Expr.Name _ _) _) _ _ _); k_dflt (refine' ld ?k1 ?k2 ?_; (case k1 => k_asm); (case k2 => exact rfl); k_whole))) | (((with_reducible show wpAny _ _ (exec (Stmt.If (Expr.BoolOp BoolOp.And (Expr.Attribute _ (Str.ofString "posix") _ :: _) _) _ _ _) _) _ _ _); refine if_no ?h1 ?_; (case h1 => ((repeat' (first | (k_unfold; (try dsimp only)) | (k_end; wrow_close) | (with_reducible ((with_reducible show wpAny _ _ (PySem.truthy (Value.ref _)) _ _ _); (k_here; k_dflt (refine' dq_truthy ?N ?M ?Z ?_; (case N => k_asm); (case M => k_mem); (case Z => exact Nat.le_of_ble_eq_true rfl); k_whole); intro tk'; (try dsimp only [List.isEmpty_nil, List.isEmpty_cons, Bool.not_true, Bool.not_false])))) | (with_reducible ((with_reducible show wpAny _ _ (getMethod (Value.ref _) _ _) _ _ _); (k_here; k_dflt (first | (refine' dq_method ?N ?M DF.s_pop DF.ty_pop ?_; (case N => k_asm); (case M => k_mem); k_whole) | (refine' dq_method ?N ?M DF.s_app DF.ty_app ?_; (case N => k_asm); (case M => k_mem); k_whole))))) | (with_reducible ((with_reducible show wpAny _ _ (call (Value.builtin "collections.deque.pop") _) _ _ _); (k_here; k_dflt (refine' dq_pop (its := []) ?F ?N ?U (by decide) ?_; (case F => k_asm); (case N => k_asm); (case U => k_upd); k_whole); intro h' F' N'; (try k_sweep)))) | (with_reducible ((with_reducible show wpAny _ _ (call (Value.builtin "collections.deque.append") _) _ _ _); (k_here; k_dflt (refine' dq_append (its := []) ?F ?N ?U (by decide) ?_; (case F => k_asm); (case N => k_asm); (case U => k_upd); k_whole); intro h' F' N'; (try k_sweep)))) | (with_reducible (k_here; (with_reducible show wpAny _ _ (call (Value.ref 559) [Value.ref _, Value.int _ _]) _ _ _); k_dflt (refine' read_at ?B ?F ?N ?X ?T ?hf ?hke ?hap ?hd ?hu ?hlen ?hne ?_; (case B => k_asm); (case F => k_asm); (case N => k_asm); (case X => k_asm); (case T => k_asm); (case hf => exact rfl); (case hke => exact rfl); (case hap => exact apart_led (by assumption) (by assumption) (by assumption) (by assumption)); (case hd => (dsimp only; omega)); (case hu => (dsimp only; omega)); (case hlen => k_asm); (case hne => k_asm); k_whole); intro x' ts' pos' t3' h' tk' hr' F' N'; (try k_sweep))) | (with_reducible ((with_reducible show wpAny _ _ (compareOp CmpOp.In (Value.str _ _) (Value.str _ _)) _ _ _); (k_here; with_reducible (first | refine in_nil ?_ | refine in_nil_a ?_ | refine in_nil_c ?_ | refine in_known (r := true) (by with_reducible assumption) ?_ | refine in_known (r := false) (by with_reducible assumption) ?_)))) | (with_reducible (k_here; (with_reducible show wpAny _ _ (PySem.truthy (Value.str _ _)) _ _ _); (refine KXt.truthy_pos (K := 100) (by with_reducible assumption) (by with_reducible assumption) (by decide) ?_); intro k')) | (with_reducible ((with_reducible show wpAny _ _ (compareOp CmpOp.NotIn (Value.str _ _) (Value.str _ _)) _ _ _); (k_here; with_reducible (first | refine notin_t (by with_reducible assumption) ?_ | refine notin_f (by with_reducible assumption) ?_)))) | (with_reducible (k_here; (with_reducible show wpAny _ _ (getAttr (Value.ref _) _ _) _ _ _); k_dflt (refine' get_ownO ?k1 ?k2 ?k3 ?ko ?k4 ?k5 ?k6 ?k7 ?k8 ?k9 ?_; (case k1 => k_asm); (case k2 => k_asm); (case k3 => k_inst); (case ko => exact rfl); (case k4 => k_is); (case k5 => k_is); (case k6 => k_is); (case k7 => k_is); (case k8 => k_get); (case k9 => k_handed); k_whole))) | (with_reducible (k_here; (with_reducible show wpAny _ _ (setAttr (Value.ref _) _ _) _ _ _); first | dsimp only | (k_dflt (first | ((with_reducible show wpAny _ _ (setAttr _ (Str.ofString "state") _) _ _ _); refine' lex_state ?k1 ?k2 ?k3 ?k4 ?k5 ?k6 ?_) | ((with_reducible show wpAny _ _ (setAttr _ (Str.ofString "token") _) _ _ _); refine' lex_token ?k1 ?k2 ?k3 ?k4 ?k5 ?k6 ?_) | ((with_reducible show wpAny _ _ (setAttr _ (Str.ofString "lineno") _) _ _ _); refine' lex_lineno ?k1 ?k2 ?k3 ?k4 ?k5 ?k6 ?_)); k_dflt ((case k1 => k_asm); (case k2 => k_asm); (case k3 => k_asm); (case k4 => k_mem); (case k5 => k_mem); (case k6 => k_upd); k_whole); intro h' tq F' N'; (try k_sweep)))) | walk1 | (dsimp only; walk1) | (leave1; walk_say "STEP leave1"; try dsimp only) | fail "no step")); all_goals exact CameOut.intro)); intro tk')) | (((with_reducible show wpAny _ _ (exec (Stmt.If _ _ _ _) _) _ _ _); (try k_fold); refine wpAny_If ?_; (try k_fold))) | (k_unfold; (try dsimp only)) | (with_reducible ((with_reducible show wpAny _ _ (PySem.truthy (Value.ref _)) _ _ _); (k_here; k_dflt (refine' dq_truthy ?N ?M ?Z ?_; (case N => k_asm); (case M => k_mem); (case Z => exact Nat.le_of_ble_eq_true rfl); k_whole); intro tk'; (try dsimp only [List.isEmpty_nil, List.isEmpty_cons, Bool.not_true, Bool.not_false])))) | (with_reducible ((with_reducible show wpAny _ _ (getMethod (Value.ref _) _ _) _ _ _); (k_here; k_dflt (first | (refine' dq_method ?N ?M DF.s_pop DF.ty_pop ?_; (case N => k_asm); (case M => k_mem); k_whole) | (refine' dq_method ?N ?M DF.s_app DF.ty_app ?_; (case N => k_asm); (case M => k_mem); k_whole))))) | (with_reducible ((with_reducible show wpAny _ _ (call (Value.builtin "collections.deque.pop") _) _ _ _); (k_here; k_dflt (refine' dq_pop (its := []) ?F ?N ?U (by decide) ?_; (case F => k_asm); (case N => k_asm); (case U => k_upd); k_whole); intro h' F' N'; (try k_sweep)))) | (with_reducible ((with_reducible show wpAny _ _ (call (Value.builtin "collections.deque.append") _) _ _ _); (k_here; k_dflt (refine' dq_append (its := []) ?F ?N ?U (by decide) ?_; (case F => k_asm); (case N => k_asm); (case U => k_upd); k_whole); intro h' F' N'; (try k_sweep)))) | (with_reducible (k_here; (with_reducible show wpAny _ _ (call (Value.ref 559) [Value.ref _, Value.int _ _]) _ _ _); k_dflt (refine' read_at ?B ?F ?N ?X ?T ?hf ?hke ?hap ?hd ?hu ?hlen ?hne ?_; (case B => k_asm); (case F => k_asm); (case N => k_asm); (case X => k_asm); (case T => k_asm); (case hf => exact rfl); (case hke => exact rfl); (case hap => exact apart_led (by assumption) (by assumption) (by assumption) (by assumption)); (case hd => (dsimp only; omega)); (case hu => (dsimp only; omega)); (case hlen => k_asm); (case hne => k_asm); k_whole); intro x' ts' pos' t3' h' tk' hr' F' N'; (try k_sweep))) | (with_reducible ((with_reducible show wpAny _ _ (compareOp CmpOp.In (Value.str _ _) (Value.str _ _)) _ _ _); (k_here; with_reducible (first | refine in_nil ?_ | refine in_nil_a ?_ | refine in_nil_c ?_ | refine in_known (r := true) (by with_reducible assumption) ?_ | refine in_known (r := false) (by with_reducible assumption) ?_)))) | (with_reducible (k_here; (with_reducible show wpAny _ _ (PySem.truthy (Value.str _ _)) _ _ _); (refine KXt.truthy_pos (K := 100) (by with_reducible assumption) (by with_reducible assumption) (by decide) ?_); intro k')) | (with_reducible ((with_reducible show wpAny _ _ (compareOp CmpOp.NotIn (Value.str _ _) (Value.str _ _)) _ _ _); (k_here; with_reducible (first | refine notin_t (by with_reducible assumption) ?_ | refine notin_f (by with_reducible assumption) ?_)))) | (with_reducible (k_here; (with_reducible show wpAny _ _ (getAttr (Value.ref _) _ _) _ _ _); k_dflt (refine' get_ownO ?k1 ?k2 ?k3 ?ko ?k4 ?k5 ?k6 ?k7 ?k8 ?k9 ?_; (case k1 => k_asm); (case k2 => k_asm); (case k3 => k_inst); (case ko => exact rfl); (case k4 => k_is); (case k5 => k_is); (case k6 => k_is); (case k7 => k_is); (case k8 => k_get); (case k9 => k_handed); k_whole))) | (with_reducible (k_here; (with_reducible show wpAny _ _ (setAttr (Value.ref _) _ _) _ _ _); first | dsimp only | (k_dflt (first | ((with_reducible show wpAny _ _ (setAttr _ (Str.ofString "state") _) _ _ _); refine' lex_state ?k1 ?k2 ?k3 ?k4 ?k5 ?k6 ?_) | ((with_reducible show wpAny _ _ (setAttr _ (Str.ofString "token") _) _ _ _); refine' lex_token ?k1 ?k2 ?k3 ?k4 ?k5 ?k6 ?_) | ((with_reducible show wpAny _ _ (setAttr _ (Str.ofString "lineno") _) _ _ _); refine' lex_lineno ?k1 ?k2 ?k3 ?k4 ?k5 ?k6 ?_)); k_dflt ((case k1 => k_asm); (case k2 => k_asm); (case k3 => k_asm); (case k4 => k_mem); (case k5 => k_mem); (case k6 => k_upd); k_whole); intro h' tq F' N'; (try k_sweep)))) | walk1 | (dsimp only; walk1) | (leave1; walk_say "STEP leave1"; (try dsimp only))))
            all_goals exact brk_done (by assumption) hA (by first | assumption | exact news_tl (by assumption)) (e_white hR hdue ht hz hk ⟨_, rfl⟩)
          · have hwf := hwc a hk
            (repeat' (first | (((with_reducible show wpAny _ _ (eval (Expr.Name _ _) _) _ _ _); k_dflt (refine' ld ?k1 ?k2 ?_; (case k1 => k_asm); (case k2 => exact rfl); k_whole))) | (((with_reducible show wpAny _ _ (exec (Stmt.If (Expr.BoolOp BoolOp.And (Expr.Attribute _ (Str.ofString "posix") _ :: _) _) _ _ _) _) _ _ _); refine if_no ?h1 ?_; (case h1 => ((repeat' (first | (k_unfold; (try dsimp only)) | (k_end; wrow_close) | (with_reducible ((with_reducible show wpAny _ _ (PySem.truthy (Value.ref _)) _ _ _); (k_here; k_dflt (refine' dq_truthy ?N ?M ?Z ?_; (case N => k_asm); (case M => k_mem); (case Z => exact Nat.le_of_ble_eq_true rfl); k_whole); intro tk'; (try dsimp only [List.isEmpty_nil, List.isEmpty_cons, Bool.not_true, Bool.not_false])))) | (with_reducible ((with_reducible show wpAny _ _ (getMethod (Value.ref _) _ _) _ _ _); (k_here; k_dflt (first | (refine' dq_method ?N ?M DF.s_pop DF.ty_pop ?_; (case N => k_asm); (case M => k_mem); k_whole) | (refine' dq_method ?N ?M DF.s_app DF.ty_app ?_; (case N => k_asm); (case M => k_mem); k_whole))))) | (with_reducible ((with_reducible show wpAny _ _ (call (Value.builtin "collections.deque.pop") _) _ _ _); (k_here; k_dflt (refine' dq_pop (its := []) ?F ?N ?U (by decide) ?_; (case F => k_asm); (case N => k_asm); (case U => k_upd); k_whole); intro h' F' N'; (try k_sweep)))) | (with_reducible ((with_reducible show wpAny _ _ (call (Value.builtin "collections.deque.append") _) _ _ _); (k_here; k_dflt (refine' dq_append (its := []) ?F ?N ?U (by decide) ?_; (case F => k_asm); (case N => k_asm); (case U => k_upd); k_whole); intro h' F' N'; (try k_sweep)))) | (with_reducible (k_here; (with_reducible show wpAny _ _ (call (Value.ref 559) [Value.ref _, Value.int _ _]) _ _ _); k_dflt (refine' read_at ?B ?F ?N ?X ?T ?hf ?hke ?hap ?hd ?hu ?hlen ?hne ?_; (case B => k_asm); (case F => k_asm); (case N => k_asm); (case X => k_asm); (case T => k_asm); (case hf => exact rfl); (case hke => exact rfl); (case hap => exact apart_led (by assumption) (by assumption) (by assumption) (by assumption)); (case hd => (dsimp only; omega)); (case hu => (dsimp only; omega)); (case hlen => k_asm); (case hne => k_asm); k_whole); intro x' ts' pos' t3' h' tk' hr' F' N'; (try k_sweep))) | (with_reducible ((with_reducible show wpAny _ _ (compareOp CmpOp.In (Value.str _ _) (Value.str _ _)) _ _ _); (k_here; with_reducible (first | refine in_nil ?_ | refine in_nil_a ?_ | refine in_nil_c ?_ | refine in_known (r := true) (by with_reducible assumption) ?_ | refine in_known (r := false) (by with_reducible assumption) ?_)))) | (with_reducible (k_here; (with_reducible show wpAny _ _ (PySem.truthy (Value.str _ _)) _ _ _); (refine KXt.truthy_pos (K := 100) (by with_reducible assumption) (by with_reducible assumption) (by decide) ?_); intro k')) | (with_reducible ((with_reducible show wpAny _ _ (compareOp CmpOp.NotIn (Value.str _ _) (Value.str _ _)) _ _ _); (k_here; with_reducible (first | refine notin_t (by with_reducible assumption) ?_ | refine notin_f (by with_reducible assumption) ?_)))) | (with_reducible (k_here; (with_reducible show wpAny _ _ (getAttr (Value.ref _) _ _) _ _ _); k_dflt (refine' get_ownO ?k1 ?k2 ?k3 ?ko ?k4 ?k5 ?k6 ?k7 ?k8 ?k9 ?_; (case k1 => k_asm); (case k2 => k_asm); (case k3 => k_inst); (case ko => exact rfl); (case k4 => k_is); (case k5 => k_is); (case k6 => k_is); (case k7 => k_is); (case k8 => k_get); (case k9 => k_handed); k_whole))) | (with_reducible (k_here; (with_reducible show wpAny _ _ (setAttr (Value.ref _) _ _) _ _ _); first | dsimp only | (k_dflt (first | ((with_reducible show wpAny _ _ (setAttr _ (Str.ofString "state") _) _ _ _); refine' lex_state ?k1 ?k2 ?k3 ?k4 ?k5 ?k6 ?_) | ((with_reducible show wpAny _ _ (setAttr _ (Str.ofString "token") _) _ _ _); refine' lex_token ?k1 ?k2 ?k3 ?k4 ?k5 ?k6 ?_) | ((with_reducible show wpAny _ _ (setAttr _ (Str.ofString "lineno") _) _ _ _); refine' lex_lineno ?k1 ?k2 ?k3 ?k4 ?k5 ?k6 ?_)); k_dflt ((case k1 => k_asm); (case k2 => k_asm); (case k3 => k_asm); (case k4 => k_mem); (case k5 => k_mem); (case k6 => k_upd); k_whole); intro h' tq F' N'; (try k_sweep)))) | walk1 | (dsimp only; walk1) | (leave1; walk_say "STEP leave1"; try dsimp only) | fail "no step")); all_goals exact CameOut.intro)); intro tk')) | (((with_reducible show wpAny _ _ (exec (Stmt.If _ _ _ _) _) _ _ _); (try k_fold); refine wpAny_If ?_; (try k_fold))) | (k_unfold; (try dsimp only)) | (with_reducible ((with_reducible show wpAny _ _ (PySem.truthy (Value.ref _)) _ _ _); (k_here; k_dflt (refine' dq_truthy ?N ?M ?Z ?_; (case N => k_asm); (case M => k_mem); (case Z => exact Nat.le_of_ble_eq_true rfl); k_whole); intro tk'; (try dsimp only [List.isEmpty_nil, List.isEmpty_cons, Bool.not_true, Bool.not_false])))) | (with_reducible ((with_reducible show wpAny _ _ (getMethod (Value.ref _) _ _) _ _ _); (k_here; k_dflt (first | (refine' dq_method ?N ?M DF.s_pop DF.ty_pop ?_; (case N => k_asm); (case M => k_mem); k_whole) | (refine' dq_method ?N ?M DF.s_app DF.ty_app ?_; (case N => k_asm); (case M => k_mem); k_whole))))) | (with_reducible ((with_reducible show wpAny _ _ (call (Value.builtin "collections.deque.pop") _) _ _ _); (k_here; k_dflt (refine' dq_pop (its := []) ?F ?N ?U (by decide) ?_; (case F => k_asm); (case N => k_asm); (case U => k_upd); k_whole); intro h' F' N'; (try k_sweep)))) | (with_reducible ((with_reducible show wpAny _ _ (call (Value.builtin "collections.deque.append") _) _ _ _); (k_here; k_dflt (refine' dq_append (its := []) ?F ?N ?U (by decide) ?_; (case F => k_asm); (case N => k_asm); (case U => k_upd); k_whole); intro h' F' N'; (try k_sweep)))) | (with_reducible (k_here; (with_reducible show wpAny _ _ (call (Value.ref 559) [Value.ref _, Value.int _ _]) _ _ _); k_dflt (refine' read_at ?B ?F ?N ?X ?T ?hf ?hke ?hap ?hd ?hu ?hlen ?hne ?_; (case B => k_asm); (case F => k_asm); (case N => k_asm); (case X => k_asm); (case T => k_asm); (case hf => exact rfl); (case hke => exact rfl); (case hap => exact apart_led (by assumption) (by assumption) (by assumption) (by assumption)); (case hd => (dsimp only; omega)); (case hu => (dsimp only; omega)); (case hlen => k_asm); (case hne => k_asm); k_whole); intro x' ts' pos' t3' h' tk' hr' F' N'; (try k_sweep))) | (with_reducible ((with_reducible show wpAny _ _ (compareOp CmpOp.In (Value.str _ _) (Value.str _ _)) _ _ _); (k_here; with_reducible (first | refine in_nil ?_ | refine in_nil_a ?_ | refine in_nil_c ?_ | refine in_known (r := true) (by with_reducible assumption) ?_ | refine in_known (r := false) (by with_reducible assumption) ?_)))) | (with_reducible (k_here; (with_reducible show wpAny _ _ (PySem.truthy (Value.str _ _)) _ _ _); (refine KXt.truthy_pos (K := 100) (by with_reducible assumption) (by with_reducible assumption) (by decide) ?_); intro k')) | (with_reducible ((with_reducible show wpAny _ _ (compareOp CmpOp.NotIn (Value.str _ _) (Value.str _ _)) _ _ _); (k_here; with_reducible (first | refine notin_t (by with_reducible assumption) ?_ | refine notin_f (by with_reducible assumption) ?_)))) | (with_reducible (k_here; (with_reducible show wpAny _ _ (getAttr (Value.ref _) _ _) _ _ _); k_dflt (refine' get_ownO ?k1 ?k2 ?k3 ?ko ?k4 ?k5 ?k6 ?k7 ?k8 ?k9 ?_; (case k1 => k_asm); (case k2 => k_asm); (case k3 => k_inst); (case ko => exact rfl); (case k4 => k_is); (case k5 => k_is); (case k6 => k_is); (case k7 => k_is); (case k8 => k_get); (case k9 => k_handed); k_whole))) | (with_reducible (k_here; (with_reducible show wpAny _ _ (setAttr (Value.ref _) _ _) _ _ _); first | dsimp only | (k_dflt (first | ((with_reducible show wpAny _ _ (setAttr _ (Str.ofString "state") _) _ _ _); refine' lex_state ?k1 ?k2 ?k3 ?k4 ?k5 ?k6 ?_) | ((with_reducible show wpAny _ _ (setAttr _ (Str.ofString "token") _) _ _ _); refine' lex_token ?k1 ?k2 ?k3 ?k4 ?k5 ?k6 ?_) | ((with_reducible show wpAny _ _ (setAttr _ (Str.ofString "lineno") _) _ _ _); refine' lex_lineno ?k1 ?k2 ?k3 ?k4 ?k5 ?k6 ?_)); k_dflt ((case k1 => k_asm); (case k2 => k_asm); (case k3 => k_asm); (case k4 => k_mem); (case k5 => k_mem); (case k6 => k_upd); k_whole); intro h' tq F' N'; (try k_sweep)))) | walk1 | (dsimp only; walk1) | (leave1; walk_say "STEP leave1"; (try dsimp only))))
            all_goals exact brk_done (by assumption) hA (by first | assumption | exact news_tl (by assumption)) (e_back hR hdue ht hz (by rw [hk]; exact fig_white) (by rw [hk]; exact fig_oth) ⟨_, rfl⟩)
          · (repeat' (first | (((with_reducible show wpAny _ _ (eval (Expr.Name _ _) _) _ _ _); k_dflt (refine' ld ?k1 ?k2 ?_; (case k1 => k_asm); (case k2 => exact rfl); k_whole))) | (((with_reducible show wpAny _ _ (exec (Stmt.If (Expr.BoolOp BoolOp.And (Expr.Attribute _ (Str.ofString "posix") _ :: _) _) _ _ _) _) _ _ _); refine if_no ?h1 ?_; (case h1 => ((repeat' (first | (k_unfold; (try dsimp only)) | (k_end; wrow_close) | (with_reducible ((with_reducible show wpAny _ _ (PySem.truthy (Value.ref _)) _ _ _); (k_here; k_dflt (refine' dq_truthy ?N ?M ?Z ?_; (case N => k_asm); (case M => k_mem); (case Z => exact Nat.le_of_ble_eq_true rfl); k_whole); intro tk'; (try dsimp only [List.isEmpty_nil, List.isEmpty_cons, Bool.not_true, Bool.not_false])))) | (with_reducible ((with_reducible show wpAny _ _ (getMethod (Value.ref _) _ _) _ _ _); (k_here; k_dflt (first | (refine' dq_method ?N ?M DF.s_pop DF.ty_pop ?_; (case N => k_asm); (case M => k_mem); k_whole) | (refine' dq_method ?N ?M DF.s_app DF.ty_app ?_; (case N => k_asm); (case M => k_mem); k_whole))))) | (with_reducible ((with_reducible show wpAny _ _ (call (Value.builtin "collections.deque.pop") _) _ _ _); (k_here; k_dflt (refine' dq_pop (its := []) ?F ?N ?U (by decide) ?_; (case F => k_asm); (case N => k_asm); (case U => k_upd); k_whole); intro h' F' N'; (try k_sweep)))) | (with_reducible ((with_reducible show wpAny _ _ (call (Value.builtin "collections.deque.append") _) _ _ _); (k_here; k_dflt (refine' dq_append (its := []) ?F ?N ?U (by decide) ?_; (case F => k_asm); (case N => k_asm); (case U => k_upd); k_whole); intro h' F' N'; (try k_sweep)))) | (with_reducible (k_here; (with_reducible show wpAny _ _ (call (Value.ref 559) [Value.ref _, Value.int _ _]) _ _ _); k_dflt (refine' read_at ?B ?F ?N ?X ?T ?hf ?hke ?hap ?hd ?hu ?hlen ?hne ?_; (case B => k_asm); (case F => k_asm); (case N => k_asm); (case X => k_asm); (case T => k_asm); (case hf => exact rfl); (case hke => exact rfl); (case hap => exact apart_led (by assumption) (by assumption) (by assumption) (by assumption)); (case hd => (dsimp only; omega)); (case hu => (dsimp only; omega)); (case hlen => k_asm); (case hne => k_asm); k_whole); intro x' ts' pos' t3' h' tk' hr' F' N'; (try k_sweep))) | (with_reducible ((with_reducible show wpAny _ _ (compareOp CmpOp.In (Value.str _ _) (Value.str _ _)) _ _ _); (k_here; with_reducible (first | refine in_nil ?_ | refine in_nil_a ?_ | refine in_nil_c ?_ | refine in_known (r := true) (by with_reducible assumption) ?_ | refine in_known (r := false) (by with_reducible assumption) ?_)))) | (with_reducible (k_here; (with_reducible show wpAny _ _ (PySem.truthy (Value.str _ _)) _ _ _); (refine KXt.truthy_pos (K := 100) (by with_reducible assumption) (by with_reducible assumption) (by decide) ?_); intro k')) | (with_reducible ((with_reducible show wpAny _ _ (compareOp CmpOp.NotIn (Value.str _ _) (Value.str _ _)) _ _ _); (k_here; with_reducible (first | refine notin_t (by with_reducible assumption) ?_ | refine notin_f (by with_reducible assumption) ?_)))) | (with_reducible (k_here; (with_reducible show wpAny _ _ (getAttr (Value.ref _) _ _) _ _ _); k_dflt (refine' get_ownO ?k1 ?k2 ?k3 ?ko ?k4 ?k5 ?k6 ?k7 ?k8 ?k9 ?_; (case k1 => k_asm); (case k2 => k_asm); (case k3 => k_inst); (case ko => exact rfl); (case k4 => k_is); (case k5 => k_is); (case k6 => k_is); (case k7 => k_is); (case k8 => k_get); (case k9 => k_handed); k_whole))) | (with_reducible (k_here; (with_reducible show wpAny _ _ (setAttr (Value.ref _) _ _) _ _ _); first | dsimp only | (k_dflt (first | ((with_reducible show wpAny _ _ (setAttr _ (Str.ofString "state") _) _ _ _); refine' lex_state ?k1 ?k2 ?k3 ?k4 ?k5 ?k6 ?_) | ((with_reducible show wpAny _ _ (setAttr _ (Str.ofString "token") _) _ _ _); refine' lex_token ?k1 ?k2 ?k3 ?k4 ?k5 ?k6 ?_) | ((with_reducible show wpAny _ _ (setAttr _ (Str.ofString "lineno") _) _ _ _); refine' lex_lineno ?k1 ?k2 ?k3 ?k4 ?k5 ?k6 ?_)); k_dflt ((case k1 => k_asm); (case k2 => k_asm); (case k3 => k_asm); (case k4 => k_mem); (case k5 => k_mem); (case k6 => k_upd); k_whole); intro h' tq F' N'; (try k_sweep)))) | walk1 | (dsimp only; walk1) | (leave1; walk_say "STEP leave1"; try dsimp only) | fail "no step")); all_goals exact CameOut.intro)); intro tk')) | (((with_reducible show wpAny _ _ (exec (Stmt.If _ _ _ _) _) _ _ _); (try k_fold); refine wpAny_If ?_; (try k_fold))) | (k_unfold; (try dsimp only)) | (with_reducible ((with_reducible show wpAny _ _ (PySem.truthy (Value.ref _)) _ _ _); (k_here; k_dflt (refine' dq_truthy ?N ?M ?Z ?_; (case N => k_asm); (case M => k_mem); (case Z => exact Nat.le_of_ble_eq_true rfl); k_whole); intro tk'; (try dsimp only [List.isEmpty_nil, List.isEmpty_cons, Bool.not_true, Bool.not_false])))) | (with_reducible ((with_reducible show wpAny _ _ (getMethod (Value.ref _) _ _) _ _ _); (k_here; k_dflt (first | (refine' dq_method ?N ?M DF.s_pop DF.ty_pop ?_; (case N => k_asm); (case M => k_mem); k_whole) | (refine' dq_method ?N ?M DF.s_app DF.ty_app ?_; (case N => k_asm); (case M => k_mem); k_whole))))) | (with_reducible ((with_reducible show wpAny _ _ (call (Value.builtin "collections.deque.pop") _) _ _ _); (k_here; k_dflt (refine' dq_pop (its := []) ?F ?N ?U (by decide) ?_; (case F => k_asm); (case N => k_asm); (case U => k_upd); k_whole); intro h' F' N'; (try k_sweep)))) | (with_reducible ((with_reducible show wpAny _ _ (call (Value.builtin "collections.deque.append") _) _ _ _); (k_here; k_dflt (refine' dq_append (its := []) ?F ?N ?U (by decide) ?_; (case F => k_asm); (case N => k_asm); (case U => k_upd); k_whole); intro h' F' N'; (try k_sweep)))) | (with_reducible (k_here; (with_reducible show wpAny _ _ (call (Value.ref 559) [Value.ref _, Value.int _ _]) _ _ _); k_dflt (refine' read_at ?B ?F ?N ?X ?T ?hf ?hke ?hap ?hd ?hu ?hlen ?hne ?_; (case B => k_asm); (case F => k_asm); (case N => k_asm); (case X => k_asm); (case T => k_asm); (case hf => exact rfl); (case hke => exact rfl); (case hap => exact apart_led (by assumption) (by assumption) (by assumption) (by assumption)); (case hd => (dsimp only; omega)); (case hu => (dsimp only; omega)); (case hlen => k_asm); (case hne => k_asm); k_whole); intro x' ts' pos' t3' h' tk' hr' F' N'; (try k_sweep))) | (with_reducible ((with_reducible show wpAny _ _ (compareOp CmpOp.In (Value.str _ _) (Value.str _ _)) _ _ _); (k_here; with_reducible (first | refine in_nil ?_ | refine in_nil_a ?_ | refine in_nil_c ?_ | refine in_known (r := true) (by with_reducible assumption) ?_ | refine in_known (r := false) (by with_reducible assumption) ?_)))) | (with_reducible (k_here; (with_reducible show wpAny _ _ (PySem.truthy (Value.str _ _)) _ _ _); (refine KXt.truthy_pos (K := 100) (by with_reducible assumption) (by with_reducible assumption) (by decide) ?_); intro k')) | (with_reducible ((with_reducible show wpAny _ _ (compareOp CmpOp.NotIn (Value.str _ _) (Value.str _ _)) _ _ _); (k_here; with_reducible (first | refine notin_t (by with_reducible assumption) ?_ | refine notin_f (by with_reducible assumption) ?_)))) | (with_reducible (k_here; (with_reducible show wpAny _ _ (getAttr (Value.ref _) _ _) _ _ _); k_dflt (refine' get_ownO ?k1 ?k2 ?k3 ?ko ?k4 ?k5 ?k6 ?k7 ?k8 ?k9 ?_; (case k1 => k_asm); (case k2 => k_asm); (case k3 => k_inst); (case ko => exact rfl); (case k4 => k_is); (case k5 => k_is); (case k6 => k_is); (case k7 => k_is); (case k8 => k_get); (case k9 => k_handed); k_whole))) | (with_reducible (k_here; (with_reducible show wpAny _ _ (setAttr (Value.ref _) _ _) _ _ _); first | dsimp only | (k_dflt (first | ((with_reducible show wpAny _ _ (setAttr _ (Str.ofString "state") _) _ _ _); refine' lex_state ?k1 ?k2 ?k3 ?k4 ?k5 ?k6 ?_) | ((with_reducible show wpAny _ _ (setAttr _ (Str.ofString "token") _) _ _ _); refine' lex_token ?k1 ?k2 ?k3 ?k4 ?k5 ?k6 ?_) | ((with_reducible show wpAny _ _ (setAttr _ (Str.ofString "lineno") _) _ _ _); refine' lex_lineno ?k1 ?k2 ?k3 ?k4 ?k5 ?k6 ?_)); k_dflt ((case k1 => k_asm); (case k2 => k_asm); (case k3 => k_asm); (case k4 => k_mem); (case k5 => k_mem); (case k6 => k_upd); k_whole); intro h' tq F' N'; (try k_sweep)))) | walk1 | (dsimp only; walk1) | (leave1; walk_say "STEP leave1"; (try dsimp only))))
            all_goals exact turn_done (by assumption) (by first | assumption | exact news_tl (by assumption)) hA hB (p_more hR hdue hz (.inl ⟨hk, ⟨_, rfl⟩, ht⟩)) hmu
        · -- in figures
          have ha1 : 1 ≤ Str.length ⟨#[a]⟩ := Nat.le_refl 1
          have ha2 : Str.length ⟨#[a]⟩ ≤ 100 := by show 1 ≤ 100; decide
          have ht1 : 1 ≤ tks.length := len_pos ht.1
          have ht2 : tks.length ≤ 100 := len_le hz hlen
          rcases kd_cases a with ⟨hk, hw⟩ | ⟨hk, hw, hf⟩ | ⟨hk, hw, hf⟩
          · (repeat' (first | (((with_reducible show wpAny _ _ (eval (Expr.Name _ _) _) _ _ _); k_dflt (refine' ld ?k1 ?k2 ?_; (case k1 => k_asm); (case k2 => exact rfl); k_whole))) | (((with_reducible show wpAny _ _ (exec (Stmt.If (Expr.BoolOp BoolOp.And (Expr.Attribute _ (Str.ofString "posix") _ :: _) _) _ _ _) _) _ _ _); refine if_no ?h1 ?_; (case h1 => ((repeat' (first | (k_unfold; (try dsimp only)) | (k_end; wrow_close) | (with_reducible ((with_reducible show wpAny _ _ (PySem.truthy (Value.ref _)) _ _ _); (k_here; k_dflt (refine' dq_truthy ?N ?M ?Z ?_; (case N => k_asm); (case M => k_mem); (case Z => exact Nat.le_of_ble_eq_true rfl); k_whole); intro tk'; (try dsimp only [List.isEmpty_nil, List.isEmpty_cons, Bool.not_true, Bool.not_false])))) | (with_reducible ((with_reducible show wpAny _ _ (getMethod (Value.ref _) _ _) _ _ _); (k_here; k_dflt (first | (refine' dq_method ?N ?M DF.s_pop DF.ty_pop ?_; (case N => k_asm); (case M => k_mem); k_whole) | (refine' dq_method ?N ?M DF.s_app DF.ty_app ?_; (case N => k_asm); (case M => k_mem); k_whole))))) | (with_reducible ((with_reducible show wpAny _ _ (call (Value.builtin "collections.deque.pop") _) _ _ _); (k_here; k_dflt (refine' dq_pop (its := []) ?F ?N ?U (by decide) ?_; (case F => k_asm); (case N => k_asm); (case U => k_upd); k_whole); intro h' F' N'; (try k_sweep)))) | (with_reducible ((with_reducible show wpAny _ _ (call (Value.builtin "collections.deque.append") _) _ _ _); (k_here; k_dflt (refine' dq_append (its := []) ?F ?N ?U (by decide) ?_; (case F => k_asm); (case N => k_asm); (case U => k_upd); k_whole); intro h' F' N'; (try k_sweep)))) | (with_reducible (k_here; (with_reducible show wpAny _ _ (call (Value.ref 559) [Value.ref _, Value.int _ _]) _ _ _); k_dflt (refine' read_at ?B ?F ?N ?X ?T ?hf ?hke ?hap ?hd ?hu ?hlen ?hne ?_; (case B => k_asm); (case F => k_asm); (case N => k_asm); (case X => k_asm); (case T => k_asm); (case hf => exact rfl); (case hke => exact rfl); (case hap => exact apart_led (by assumption) (by assumption) (by assumption) (by assumption)); (case hd => (dsimp only; omega)); (case hu => (dsimp only; omega)); (case hlen => k_asm); (case hne => k_asm); k_whole); intro x' ts' pos' t3' h' tk' hr' F' N'; (try k_sweep))) | (with_reducible ((with_reducible show wpAny _ _ (compareOp CmpOp.In (Value.str _ _) (Value.str _ _)) _ _ _); (k_here; with_reducible (first | refine in_nil ?_ | refine in_nil_a ?_ | refine in_nil_c ?_ | refine in_known (r := true) (by with_reducible assumption) ?_ | refine in_known (r := false) (by with_reducible assumption) ?_)))) | (with_reducible (k_here; (with_reducible show wpAny _ _ (PySem.truthy (Value.str _ _)) _ _ _); (refine KXt.truthy_pos (K := 100) (by with_reducible assumption) (by with_reducible assumption) (by decide) ?_); intro k')) | (with_reducible ((with_reducible show wpAny _ _ (compareOp CmpOp.NotIn (Value.str _ _) (Value.str _ _)) _ _ _); (k_here; with_reducible (first | refine notin_t (by with_reducible assumption) ?_ | refine notin_f (by with_reducible assumption) ?_)))) | (with_reducible (k_here; (with_reducible show wpAny _ _ (getAttr (Value.ref _) _ _) _ _ _); k_dflt (refine' get_ownO ?k1 ?k2 ?k3 ?ko ?k4 ?k5 ?k6 ?k7 ?k8 ?k9 ?_; (case k1 => k_asm); (case k2 => k_asm); (case k3 => k_inst); (case ko => exact rfl); (case k4 => k_is); (case k5 => k_is); (case k6 => k_is); (case k7 => k_is); (case k8 => k_get); (case k9 => k_handed); k_whole))) | (with_reducible (k_here; (with_reducible show wpAny _ _ (setAttr (Value.ref _) _ _) _ _ _); first | dsimp only | (k_dflt (first | ((with_reducible show wpAny _ _ (setAttr _ (Str.ofString "state") _) _ _ _); refine' lex_state ?k1 ?k2 ?k3 ?k4 ?k5 ?k6 ?_) | ((with_reducible show wpAny _ _ (setAttr _ (Str.ofString "token") _) _ _ _); refine' lex_token ?k1 ?k2 ?k3 ?k4 ?k5 ?k6 ?_) | ((with_reducible show wpAny _ _ (setAttr _ (Str.ofString "lineno") _) _ _ _); refine' lex_lineno ?k1 ?k2 ?k3 ?k4 ?k5 ?k6 ?_)); k_dflt ((case k1 => k_asm); (case k2 => k_asm); (case k3 => k_asm); (case k4 => k_mem); (case k5 => k_mem); (case k6 => k_upd); k_whole); intro h' tq F' N'; (try k_sweep)))) | walk1 | (dsimp only; walk1) | (leave1; walk_say "STEP leave1"; try dsimp only) | fail "no step")); all_goals exact CameOut.intro)); intro tk')) | (((with_reducible show wpAny _ _ (exec (Stmt.If _ _ _ _) _) _ _ _); (try k_fold); refine wpAny_If ?_; (try k_fold))) | (k_unfold; (try dsimp only)) | (with_reducible ((with_reducible show wpAny _ _ (PySem.truthy (Value.ref _)) _ _ _); (k_here; k_dflt (refine' dq_truthy ?N ?M ?Z ?_; (case N => k_asm); (case M => k_mem); (case Z => exact Nat.le_of_ble_eq_true rfl); k_whole); intro tk'; (try dsimp only [List.isEmpty_nil, List.isEmpty_cons, Bool.not_true, Bool.not_false])))) | (with_reducible ((with_reducible show wpAny _ _ (getMethod (Value.ref _) _ _) _ _ _); (k_here; k_dflt (first | (refine' dq_method ?N ?M DF.s_pop DF.ty_pop ?_; (case N => k_asm); (case M => k_mem); k_whole) | (refine' dq_method ?N ?M DF.s_app DF.ty_app ?_; (case N => k_asm); (case M => k_mem); k_whole))))) | (with_reducible ((with_reducible show wpAny _ _ (call (Value.builtin "collections.deque.pop") _) _ _ _); (k_here; k_dflt (refine' dq_pop (its := []) ?F ?N ?U (by decide) ?_; (case F => k_asm); (case N => k_asm); (case U => k_upd); k_whole); intro h' F' N'; (try k_sweep)))) | (with_reducible ((with_reducible show wpAny _ _ (call (Value.builtin "collections.deque.append") _) _ _ _); (k_here; k_dflt (refine' dq_append (its := []) ?F ?N ?U (by decide) ?_; (case F => k_asm); (case N => k_asm); (case U => k_upd); k_whole); intro h' F' N'; (try k_sweep)))) | (with_reducible (k_here; (with_reducible show wpAny _ _ (call (Value.ref 559) [Value.ref _, Value.int _ _]) _ _ _); k_dflt (refine' read_at ?B ?F ?N ?X ?T ?hf ?hke ?hap ?hd ?hu ?hlen ?hne ?_; (case B => k_asm); (case F => k_asm); (case N => k_asm); (case X => k_asm); (case T => k_asm); (case hf => exact rfl); (case hke => exact rfl); (case hap => exact apart_led (by assumption) (by assumption) (by assumption) (by assumption)); (case hd => (dsimp only; omega)); (case hu => (dsimp only; omega)); (case hlen => k_asm); (case hne => k_asm); k_whole); intro x' ts' pos' t3' h' tk' hr' F' N'; (try k_sweep))) | (with_reducible ((with_reducible show wpAny _ _ (compareOp CmpOp.In (Value.str _ _) (Value.str _ _)) _ _ _); (k_here; with_reducible (first | refine in_nil ?_ | refine in_nil_a ?_ | refine in_nil_c ?_ | refine in_known (r := true) (by with_reducible assumption) ?_ | refine in_known (r := false) (by with_reducible assumption) ?_)))) | (with_reducible (k_here; (with_reducible show wpAny _ _ (PySem.truthy (Value.str _ _)) _ _ _); (refine KXt.truthy_pos (K := 100) (by with_reducible assumption) (by with_reducible assumption) (by decide) ?_); intro k')) | (with_reducible ((with_reducible show wpAny _ _ (compareOp CmpOp.NotIn (Value.str _ _) (Value.str _ _)) _ _ _); (k_here; with_reducible (first | refine notin_t (by with_reducible assumption) ?_ | refine notin_f (by with_reducible assumption) ?_)))) | (with_reducible (k_here; (with_reducible show wpAny _ _ (getAttr (Value.ref _) _ _) _ _ _); k_dflt (refine' get_ownO ?k1 ?k2 ?k3 ?ko ?k4 ?k5 ?k6 ?k7 ?k8 ?k9 ?_; (case k1 => k_asm); (case k2 => k_asm); (case k3 => k_inst); (case ko => exact rfl); (case k4 => k_is); (case k5 => k_is); (case k6 => k_is); (case k7 => k_is); (case k8 => k_get); (case k9 => k_handed); k_whole))) | (with_reducible (k_here; (with_reducible show wpAny _ _ (setAttr (Value.ref _) _ _) _ _ _); first | dsimp only | (k_dflt (first | ((with_reducible show wpAny _ _ (setAttr _ (Str.ofString "state") _) _ _ _); refine' lex_state ?k1 ?k2 ?k3 ?k4 ?k5 ?k6 ?_) | ((with_reducible show wpAny _ _ (setAttr _ (Str.ofString "token") _) _ _ _); refine' lex_token ?k1 ?k2 ?k3 ?k4 ?k5 ?k6 ?_) | ((with_reducible show wpAny _ _ (setAttr _ (Str.ofString "lineno") _) _ _ _); refine' lex_lineno ?k1 ?k2 ?k3 ?k4 ?k5 ?k6 ?_)); k_dflt ((case k1 => k_asm); (case k2 => k_asm); (case k3 => k_asm); (case k4 => k_mem); (case k5 => k_mem); (case k6 => k_upd); k_whole); intro h' tq F' N'; (try k_sweep)))) | walk1 | (dsimp only; walk1) | (leave1; walk_say "STEP leave1"; (try dsimp only))))
            all_goals exact brk_done (by assumption) hA (by first | assumption | exact news_tl (by assumption)) (e_white hR hdue ht hz hk ⟨_, rfl⟩)
          · (repeat' (first | (((with_reducible show wpAny _ _ (eval (Expr.Name _ _) _) _ _ _); k_dflt (refine' ld ?k1 ?k2 ?_; (case k1 => k_asm); (case k2 => exact rfl); k_whole))) | (((with_reducible show wpAny _ _ (exec (Stmt.If (Expr.BoolOp BoolOp.And (Expr.Attribute _ (Str.ofString "posix") _ :: _) _) _ _ _) _) _ _ _); refine if_no ?h1 ?_; (case h1 => ((repeat' (first | (k_unfold; (try dsimp only)) | (k_end; wrow_close) | (with_reducible ((with_reducible show wpAny _ _ (PySem.truthy (Value.ref _)) _ _ _); (k_here; k_dflt (refine' dq_truthy ?N ?M ?Z ?_; (case N => k_asm); (case M => k_mem); (case Z => exact Nat.le_of_ble_eq_true rfl); k_whole); intro tk'; (try dsimp only [List.isEmpty_nil, List.isEmpty_cons, Bool.not_true, Bool.not_false])))) | (with_reducible ((with_reducible show wpAny _ _ (getMethod (Value.ref _) _ _) _ _ _); (k_here; k_dflt (first | (refine' dq_method ?N ?M DF.s_pop DF.ty_pop ?_; (case N => k_asm); (case M => k_mem); k_whole) | (refine' dq_method ?N ?M DF.s_app DF.ty_app ?_; (case N => k_asm); (case M => k_mem); k_whole))))) | (with_reducible ((with_reducible show wpAny _ _ (call (Value.builtin "collections.deque.pop") _) _ _ _); (k_here; k_dflt (refine' dq_pop (its := []) ?F ?N ?U (by decide) ?_; (case F => k_asm); (case N => k_asm); (case U => k_upd); k_whole); intro h' F' N'; (try k_sweep)))) | (with_reducible ((with_reducible show wpAny _ _ (call (Value.builtin "collections.deque.append") _) _ _ _); (k_here; k_dflt (refine' dq_append (its := []) ?F ?N ?U (by decide) ?_; (case F => k_asm); (case N => k_asm); (case U => k_upd); k_whole); intro h' F' N'; (try k_sweep)))) | (with_reducible (k_here; (with_reducible show wpAny _ _ (call (Value.ref 559) [Value.ref _, Value.int _ _]) _ _ _); k_dflt (refine' read_at ?B ?F ?N ?X ?T ?hf ?hke ?hap ?hd ?hu ?hlen ?hne ?_; (case B => k_asm); (case F => k_asm); (case N => k_asm); (case X => k_asm); (case T => k_asm); (case hf => exact rfl); (case hke => exact rfl); (case hap => exact apart_led (by assumption) (by assumption) (by assumption) (by assumption)); (case hd => (dsimp only; omega)); (case hu => (dsimp only; omega)); (case hlen => k_asm); (case hne => k_asm); k_whole); intro x' ts' pos' t3' h' tk' hr' F' N'; (try k_sweep))) | (with_reducible ((with_reducible show wpAny _ _ (compareOp CmpOp.In (Value.str _ _) (Value.str _ _)) _ _ _); (k_here; with_reducible (first | refine in_nil ?_ | refine in_nil_a ?_ | refine in_nil_c ?_ | refine in_known (r := true) (by with_reducible assumption) ?_ | refine in_known (r := false) (by with_reducible assumption) ?_)))) | (with_reducible (k_here; (with_reducible show wpAny _ _ (PySem.truthy (Value.str _ _)) _ _ _); (refine KXt.truthy_pos (K := 100) (by with_reducible assumption) (by with_reducible assumption) (by decide) ?_); intro k')) | (with_reducible ((with_reducible show wpAny _ _ (compareOp CmpOp.NotIn (Value.str _ _) (Value.str _ _)) _ _ _); (k_here; with_reducible (first | refine notin_t (by with_reducible assumption) ?_ | refine notin_f (by with_reducible assumption) ?_)))) | (with_reducible (k_here; (with_reducible show wpAny _ _ (getAttr (Value.ref _) _ _) _ _ _); k_dflt (refine' get_ownO ?k1 ?k2 ?k3 ?ko ?k4 ?k5 ?k6 ?k7 ?k8 ?k9 ?_; (case k1 => k_asm); (case k2 => k_asm); (case k3 => k_inst); (case ko => exact rfl); (case k4 => k_is); (case k5 => k_is); (case k6 => k_is); (case k7 => k_is); (case k8 => k_get); (case k9 => k_handed); k_whole))) | (with_reducible (k_here; (with_reducible show wpAny _ _ (setAttr (Value.ref _) _ _) _ _ _); first | dsimp only | (k_dflt (first | ((with_reducible show wpAny _ _ (setAttr _ (Str.ofString "state") _) _ _ _); refine' lex_state ?k1 ?k2 ?k3 ?k4 ?k5 ?k6 ?_) | ((with_reducible show wpAny _ _ (setAttr _ (Str.ofString "token") _) _ _ _); refine' lex_token ?k1 ?k2 ?k3 ?k4 ?k5 ?k6 ?_) | ((with_reducible show wpAny _ _ (setAttr _ (Str.ofString "lineno") _) _ _ _); refine' lex_lineno ?k1 ?k2 ?k3 ?k4 ?k5 ?k6 ?_)); k_dflt ((case k1 => k_asm); (case k2 => k_asm); (case k3 => k_asm); (case k4 => k_mem); (case k5 => k_mem); (case k6 => k_upd); k_whole); intro h' tq F' N'; (try k_sweep)))) | walk1 | (dsimp only; walk1) | (leave1; walk_say "STEP leave1"; try dsimp only) | fail "no step")); all_goals exact CameOut.intro)); intro tk')) | (((with_reducible show wpAny _ _ (exec (Stmt.If _ _ _ _) _) _ _ _); (try k_fold); refine wpAny_If ?_; (try k_fold))) | (k_unfold; (try dsimp only)) | (with_reducible ((with_reducible show wpAny _ _ (PySem.truthy (Value.ref _)) _ _ _); (k_here; k_dflt (refine' dq_truthy ?N ?M ?Z ?_; (case N => k_asm); (case M => k_mem); (case Z => exact Nat.le_of_ble_eq_true rfl); k_whole); intro tk'; (try dsimp only [List.isEmpty_nil, List.isEmpty_cons, Bool.not_true, Bool.not_false])))) | (with_reducible ((with_reducible show wpAny _ _ (getMethod (Value.ref _) _ _) _ _ _); (k_here; k_dflt (first | (refine' dq_method ?N ?M DF.s_pop DF.ty_pop ?_; (case N => k_asm); (case M => k_mem); k_whole) | (refine' dq_method ?N ?M DF.s_app DF.ty_app ?_; (case N => k_asm); (case M => k_mem); k_whole))))) | (with_reducible ((with_reducible show wpAny _ _ (call (Value.builtin "collections.deque.pop") _) _ _ _); (k_here; k_dflt (refine' dq_pop (its := []) ?F ?N ?U (by decide) ?_; (case F => k_asm); (case N => k_asm); (case U => k_upd); k_whole); intro h' F' N'; (try k_sweep)))) | (with_reducible ((with_reducible show wpAny _ _ (call (Value.builtin "collections.deque.append") _) _ _ _); (k_here; k_dflt (refine' dq_append (its := []) ?F ?N ?U (by decide) ?_; (case F => k_asm); (case N => k_asm); (case U => k_upd); k_whole); intro h' F' N'; (try k_sweep)))) | (with_reducible (k_here; (with_reducible show wpAny _ _ (call (Value.ref 559) [Value.ref _, Value.int _ _]) _ _ _); k_dflt (refine' read_at ?B ?F ?N ?X ?T ?hf ?hke ?hap ?hd ?hu ?hlen ?hne ?_; (case B => k_asm); (case F => k_asm); (case N => k_asm); (case X => k_asm); (case T => k_asm); (case hf => exact rfl); (case hke => exact rfl); (case hap => exact apart_led (by assumption) (by assumption) (by assumption) (by assumption)); (case hd => (dsimp only; omega)); (case hu => (dsimp only; omega)); (case hlen => k_asm); (case hne => k_asm); k_whole); intro x' ts' pos' t3' h' tk' hr' F' N'; (try k_sweep))) | (with_reducible ((with_reducible show wpAny _ _ (compareOp CmpOp.In (Value.str _ _) (Value.str _ _)) _ _ _); (k_here; with_reducible (first | refine in_nil ?_ | refine in_nil_a ?_ | refine in_nil_c ?_ | refine in_known (r := true) (by with_reducible assumption) ?_ | refine in_known (r := false) (by with_reducible assumption) ?_)))) | (with_reducible (k_here; (with_reducible show wpAny _ _ (PySem.truthy (Value.str _ _)) _ _ _); (refine KXt.truthy_pos (K := 100) (by with_reducible assumption) (by with_reducible assumption) (by decide) ?_); intro k')) | (with_reducible ((with_reducible show wpAny _ _ (compareOp CmpOp.NotIn (Value.str _ _) (Value.str _ _)) _ _ _); (k_here; with_reducible (first | refine notin_t (by with_reducible assumption) ?_ | refine notin_f (by with_reducible assumption) ?_)))) | (with_reducible (k_here; (with_reducible show wpAny _ _ (getAttr (Value.ref _) _ _) _ _ _); k_dflt (refine' get_ownO ?k1 ?k2 ?k3 ?ko ?k4 ?k5 ?k6 ?k7 ?k8 ?k9 ?_; (case k1 => k_asm); (case k2 => k_asm); (case k3 => k_inst); (case ko => exact rfl); (case k4 => k_is); (case k5 => k_is); (case k6 => k_is); (case k7 => k_is); (case k8 => k_get); (case k9 => k_handed); k_whole))) | (with_reducible (k_here; (with_reducible show wpAny _ _ (setAttr (Value.ref _) _ _) _ _ _); first | dsimp only | (k_dflt (first | ((with_reducible show wpAny _ _ (setAttr _ (Str.ofString "state") _) _ _ _); refine' lex_state ?k1 ?k2 ?k3 ?k4 ?k5 ?k6 ?_) | ((with_reducible show wpAny _ _ (setAttr _ (Str.ofString "token") _) _ _ _); refine' lex_token ?k1 ?k2 ?k3 ?k4 ?k5 ?k6 ?_) | ((with_reducible show wpAny _ _ (setAttr _ (Str.ofString "lineno") _) _ _ _); refine' lex_lineno ?k1 ?k2 ?k3 ?k4 ?k5 ?k6 ?_)); k_dflt ((case k1 => k_asm); (case k2 => k_asm); (case k3 => k_asm); (case k4 => k_mem); (case k5 => k_mem); (case k6 => k_upd); k_whole); intro h' tq F' N'; (try k_sweep)))) | walk1 | (dsimp only; walk1) | (leave1; walk_say "STEP leave1"; (try dsimp only))))
            all_goals exact turn_done (by assumption) (by first | assumption | exact news_tl (by assumption)) hA hB (p_more hR hdue hz (.inr ⟨hk, ⟨_, rfl⟩, ht⟩)) hmu
          · (repeat' (first | (((with_reducible show wpAny _ _ (eval (Expr.Name _ _) _) _ _ _); k_dflt (refine' ld ?k1 ?k2 ?_; (case k1 => k_asm); (case k2 => exact rfl); k_whole))) | (((with_reducible show wpAny _ _ (exec (Stmt.If (Expr.BoolOp BoolOp.And (Expr.Attribute _ (Str.ofString "posix") _ :: _) _) _ _ _) _) _ _ _); refine if_no ?h1 ?_; (case h1 => ((repeat' (first | (k_unfold; (try dsimp only)) | (k_end; wrow_close) | (with_reducible ((with_reducible show wpAny _ _ (PySem.truthy (Value.ref _)) _ _ _); (k_here; k_dflt (refine' dq_truthy ?N ?M ?Z ?_; (case N => k_asm); (case M => k_mem); (case Z => exact Nat.le_of_ble_eq_true rfl); k_whole); intro tk'; (try dsimp only [List.isEmpty_nil, List.isEmpty_cons, Bool.not_true, Bool.not_false])))) | (with_reducible ((with_reducible show wpAny _ _ (getMethod (Value.ref _) _ _) _ _ _); (k_here; k_dflt (first | (refine' dq_method ?N ?M DF.s_pop DF.ty_pop ?_; (case N => k_asm); (case M => k_mem); k_whole) | (refine' dq_method ?N ?M DF.s_app DF.ty_app ?_; (case N => k_asm); (case M => k_mem); k_whole))))) | (with_reducible ((with_reducible show wpAny _ _ (call (Value.builtin "collections.deque.pop") _) _ _ _); (k_here; k_dflt (refine' dq_pop (its := []) ?F ?N ?U (by decide) ?_; (case F => k_asm); (case N => k_asm); (case U => k_upd); k_whole); intro h' F' N'; (try k_sweep)))) | (with_reducible ((with_reducible show wpAny _ _ (call (Value.builtin "collections.deque.append") _) _ _ _); (k_here; k_dflt (refine' dq_append (its := []) ?F ?N ?U (by decide) ?_; (case F => k_asm); (case N => k_asm); (case U => k_upd); k_whole); intro h' F' N'; (try k_sweep)))) | (with_reducible (k_here; (with_reducible show wpAny _ _ (call (Value.ref 559) [Value.ref _, Value.int _ _]) _ _ _); k_dflt (refine' read_at ?B ?F ?N ?X ?T ?hf ?hke ?hap ?hd ?hu ?hlen ?hne ?_; (case B => k_asm); (case F => k_asm); (case N => k_asm); (case X => k_asm); (case T => k_asm); (case hf => exact rfl); (case hke => exact rfl); (case hap => exact apart_led (by assumption) (by assumption) (by assumption) (by assumption)); (case hd => (dsimp only; omega)); (case hu => (dsimp only; omega)); (case hlen => k_asm); (case hne => k_asm); k_whole); intro x' ts' pos' t3' h' tk' hr' F' N'; (try k_sweep))) | (with_reducible ((with_reducible show wpAny _ _ (compareOp CmpOp.In (Value.str _ _) (Value.str _ _)) _ _ _); (k_here; with_reducible (first | refine in_nil ?_ | refine in_nil_a ?_ | refine in_nil_c ?_ | refine in_known (r := true) (by with_reducible assumption) ?_ | refine in_known (r := false) (by with_reducible assumption) ?_)))) | (with_reducible (k_here; (with_reducible show wpAny _ _ (PySem.truthy (Value.str _ _)) _ _ _); (refine KXt.truthy_pos (K := 100) (by with_reducible assumption) (by with_reducible assumption) (by decide) ?_); intro k')) | (with_reducible ((with_reducible show wpAny _ _ (compareOp CmpOp.NotIn (Value.str _ _) (Value.str _ _)) _ _ _); (k_here; with_reducible (first | refine notin_t (by with_reducible assumption) ?_ | refine notin_f (by with_reducible assumption) ?_)))) | (with_reducible (k_here; (with_reducible show wpAny _ _ (getAttr (Value.ref _) _ _) _ _ _); k_dflt (refine' get_ownO ?k1 ?k2 ?k3 ?ko ?k4 ?k5 ?k6 ?k7 ?k8 ?k9 ?_; (case k1 => k_asm); (case k2 => k_asm); (case k3 => k_inst); (case ko => exact rfl); (case k4 => k_is); (case k5 => k_is); (case k6 => k_is); (case k7 => k_is); (case k8 => k_get); (case k9 => k_handed); k_whole))) | (with_reducible (k_here; (with_reducible show wpAny _ _ (setAttr (Value.ref _) _ _) _ _ _); first | dsimp only | (k_dflt (first | ((with_reducible show wpAny _ _ (setAttr _ (Str.ofString "state") _) _ _ _); refine' lex_state ?k1 ?k2 ?k3 ?k4 ?k5 ?k6 ?_) | ((with_reducible show wpAny _ _ (setAttr _ (Str.ofString "token") _) _ _ _); refine' lex_token ?k1 ?k2 ?k3 ?k4 ?k5 ?k6 ?_) | ((with_reducible show wpAny _ _ (setAttr _ (Str.ofString "lineno") _) _ _ _); refine' lex_lineno ?k1 ?k2 ?k3 ?k4 ?k5 ?k6 ?_)); k_dflt ((case k1 => k_asm); (case k2 => k_asm); (case k3 => k_asm); (case k4 => k_mem); (case k5 => k_mem); (case k6 => k_upd); k_whole); intro h' tq F' N'; (try k_sweep)))) | walk1 | (dsimp only; walk1) | (leave1; walk_say "STEP leave1"; try dsimp only) | fail "no step")); all_goals exact CameOut.intro)); intro tk')) | (((with_reducible show wpAny _ _ (exec (Stmt.If _ _ _ _) _) _ _ _); (try k_fold); refine wpAny_If ?_; (try k_fold))) | (k_unfold; (try dsimp only)) | (with_reducible ((with_reducible show wpAny _ _ (PySem.truthy (Value.ref _)) _ _ _); (k_here; k_dflt (refine' dq_truthy ?N ?M ?Z ?_; (case N => k_asm); (case M => k_mem); (case Z => exact Nat.le_of_ble_eq_true rfl); k_whole); intro tk'; (try dsimp only [List.isEmpty_nil, List.isEmpty_cons, Bool.not_true, Bool.not_false])))) | (with_reducible ((with_reducible show wpAny _ _ (getMethod (Value.ref _) _ _) _ _ _); (k_here; k_dflt (first | (refine' dq_method ?N ?M DF.s_pop DF.ty_pop ?_; (case N => k_asm); (case M => k_mem); k_whole) | (refine' dq_method ?N ?M DF.s_app DF.ty_app ?_; (case N => k_asm); (case M => k_mem); k_whole))))) | (with_reducible ((with_reducible show wpAny _ _ (call (Value.builtin "collections.deque.pop") _) _ _ _); (k_here; k_dflt (refine' dq_pop (its := []) ?F ?N ?U (by decide) ?_; (case F => k_asm); (case N => k_asm); (case U => k_upd); k_whole); intro h' F' N'; (try k_sweep)))) | (with_reducible ((with_reducible show wpAny _ _ (call (Value.builtin "collections.deque.append") _) _ _ _); (k_here; k_dflt (refine' dq_append (its := []) ?F ?N ?U (by decide) ?_; (case F => k_asm); (case N => k_asm); (case U => k_upd); k_whole); intro h' F' N'; (try k_sweep)))) | (with_reducible (k_here; (with_reducible show wpAny _ _ (call (Value.ref 559) [Value.ref _, Value.int _ _]) _ _ _); k_dflt (refine' read_at ?B ?F ?N ?X ?T ?hf ?hke ?hap ?hd ?hu ?hlen ?hne ?_; (case B => k_asm); (case F => k_asm); (case N => k_asm); (case X => k_asm); (case T => k_asm); (case hf => exact rfl); (case hke => exact rfl); (case hap => exact apart_led (by assumption) (by assumption) (by assumption) (by assumption)); (case hd => (dsimp only; omega)); (case hu => (dsimp only; omega)); (case hlen => k_asm); (case hne => k_asm); k_whole); intro x' ts' pos' t3' h' tk' hr' F' N'; (try k_sweep))) | (with_reducible ((with_reducible show wpAny _ _ (compareOp CmpOp.In (Value.str _ _) (Value.str _ _)) _ _ _); (k_here; with_reducible (first | refine in_nil ?_ | refine in_nil_a ?_ | refine in_nil_c ?_ | refine in_known (r := true) (by with_reducible assumption) ?_ | refine in_known (r := false) (by with_reducible assumption) ?_)))) | (with_reducible (k_here; (with_reducible show wpAny _ _ (PySem.truthy (Value.str _ _)) _ _ _); (refine KXt.truthy_pos (K := 100) (by with_reducible assumption) (by with_reducible assumption) (by decide) ?_); intro k')) | (with_reducible ((with_reducible show wpAny _ _ (compareOp CmpOp.NotIn (Value.str _ _) (Value.str _ _)) _ _ _); (k_here; with_reducible (first | refine notin_t (by with_reducible assumption) ?_ | refine notin_f (by with_reducible assumption) ?_)))) | (with_reducible (k_here; (with_reducible show wpAny _ _ (getAttr (Value.ref _) _ _) _ _ _); k_dflt (refine' get_ownO ?k1 ?k2 ?k3 ?ko ?k4 ?k5 ?k6 ?k7 ?k8 ?k9 ?_; (case k1 => k_asm); (case k2 => k_asm); (case k3 => k_inst); (case ko => exact rfl); (case k4 => k_is); (case k5 => k_is); (case k6 => k_is); (case k7 => k_is); (case k8 => k_get); (case k9 => k_handed); k_whole))) | (with_reducible (k_here; (with_reducible show wpAny _ _ (setAttr (Value.ref _) _ _) _ _ _); first | dsimp only | (k_dflt (first | ((with_reducible show wpAny _ _ (setAttr _ (Str.ofString "state") _) _ _ _); refine' lex_state ?k1 ?k2 ?k3 ?k4 ?k5 ?k6 ?_) | ((with_reducible show wpAny _ _ (setAttr _ (Str.ofString "token") _) _ _ _); refine' lex_token ?k1 ?k2 ?k3 ?k4 ?k5 ?k6 ?_) | ((with_reducible show wpAny _ _ (setAttr _ (Str.ofString "lineno") _) _ _ _); refine' lex_lineno ?k1 ?k2 ?k3 ?k4 ?k5 ?k6 ?_)); k_dflt ((case k1 => k_asm); (case k2 => k_asm); (case k3 => k_asm); (case k4 => k_mem); (case k5 => k_mem); (case k6 => k_upd); k_whole); intro h' tq F' N'; (try k_sweep)))) | walk1 | (dsimp only; walk1) | (leave1; walk_say "STEP leave1"; (try dsimp only))))
            all_goals exact brk_done (by assumption) hA (by first | assumption | exact news_tl (by assumption)) (e_back hR hdue ht hz (by rw [hk]; exact oth_white) (by rw [hk]; exact fig_oth.symm) ⟨_, rfl⟩)
        · cases h0
      · rcases hst with ⟨⟨ts, rfl⟩, h0⟩ | ⟨⟨ts, rfl⟩, ht⟩ | ⟨⟨ts, rfl⟩, ht⟩ | ⟨rfl, h0, _⟩
        · obtain rfl := str_empty h0
          (repeat' (first | (((with_reducible show wpAny _ _ (eval (Expr.Name _ _) _) _ _ _); k_dflt (refine' ld ?k1 ?k2 ?_; (case k1 => k_asm); (case k2 => exact rfl); k_whole))) | (((with_reducible show wpAny _ _ (exec (Stmt.If (Expr.BoolOp BoolOp.And (Expr.Attribute _ (Str.ofString "posix") _ :: _) _) _ _ _) _) _ _ _); refine if_no ?h1 ?_; (case h1 => ((repeat' (first | (k_unfold; (try dsimp only)) | (k_end; wrow_close) | (with_reducible ((with_reducible show wpAny _ _ (PySem.truthy (Value.ref _)) _ _ _); (k_here; k_dflt (refine' dq_truthy ?N ?M ?Z ?_; (case N => k_asm); (case M => k_mem); (case Z => exact Nat.le_of_ble_eq_true rfl); k_whole); intro tk'; (try dsimp only [List.isEmpty_nil, List.isEmpty_cons, Bool.not_true, Bool.not_false])))) | (with_reducible ((with_reducible show wpAny _ _ (getMethod (Value.ref _) _ _) _ _ _); (k_here; k_dflt (first | (refine' dq_method ?N ?M DF.s_pop DF.ty_pop ?_; (case N => k_asm); (case M => k_mem); k_whole) | (refine' dq_method ?N ?M DF.s_app DF.ty_app ?_; (case N => k_asm); (case M => k_mem); k_whole))))) | (with_reducible ((with_reducible show wpAny _ _ (call (Value.builtin "collections.deque.pop") _) _ _ _); (k_here; k_dflt (refine' dq_pop (its := []) ?F ?N ?U (by decide) ?_; (case F => k_asm); (case N => k_asm); (case U => k_upd); k_whole); intro h' F' N'; (try k_sweep)))) | (with_reducible ((with_reducible show wpAny _ _ (call (Value.builtin "collections.deque.append") _) _ _ _); (k_here; k_dflt (refine' dq_append (its := []) ?F ?N ?U (by decide) ?_; (case F => k_asm); (case N => k_asm); (case U => k_upd); k_whole); intro h' F' N'; (try k_sweep)))) | (with_reducible (k_here; (with_reducible show wpAny _ _ (call (Value.ref 559) [Value.ref _, Value.int _ _]) _ _ _); k_dflt (refine' read_at ?B ?F ?N ?X ?T ?hf ?hke ?hap ?hd ?hu ?hlen ?hne ?_; (case B => k_asm); (case F => k_asm); (case N => k_asm); (case X => k_asm); (case T => k_asm); (case hf => exact rfl); (case hke => exact rfl); (case hap => exact apart_led (by assumption) (by assumption) (by assumption) (by assumption)); (case hd => (dsimp only; omega)); (case hu => (dsimp only; omega)); (case hlen => k_asm); (case hne => k_asm); k_whole); intro x' ts' pos' t3' h' tk' hr' F' N'; (try k_sweep))) | (with_reducible ((with_reducible show wpAny _ _ (compareOp CmpOp.In (Value.str _ _) (Value.str _ _)) _ _ _); (k_here; with_reducible (first | refine in_nil ?_ | refine in_nil_a ?_ | refine in_nil_c ?_ | refine in_known (r := true) (by with_reducible assumption) ?_ | refine in_known (r := false) (by with_reducible assumption) ?_)))) | (with_reducible (k_here; (with_reducible show wpAny _ _ (PySem.truthy (Value.str _ _)) _ _ _); (refine KXt.truthy_pos (K := 100) (by with_reducible assumption) (by with_reducible assumption) (by decide) ?_); intro k')) | (with_reducible ((with_reducible show wpAny _ _ (compareOp CmpOp.NotIn (Value.str _ _) (Value.str _ _)) _ _ _); (k_here; with_reducible (first | refine notin_t (by with_reducible assumption) ?_ | refine notin_f (by with_reducible assumption) ?_)))) | (with_reducible (k_here; (with_reducible show wpAny _ _ (getAttr (Value.ref _) _ _) _ _ _); k_dflt (refine' get_ownO ?k1 ?k2 ?k3 ?ko ?k4 ?k5 ?k6 ?k7 ?k8 ?k9 ?_; (case k1 => k_asm); (case k2 => k_asm); (case k3 => k_inst); (case ko => exact rfl); (case k4 => k_is); (case k5 => k_is); (case k6 => k_is); (case k7 => k_is); (case k8 => k_get); (case k9 => k_handed); k_whole))) | (with_reducible (k_here; (with_reducible show wpAny _ _ (setAttr (Value.ref _) _ _) _ _ _); first | dsimp only | (k_dflt (first | ((with_reducible show wpAny _ _ (setAttr _ (Str.ofString "state") _) _ _ _); refine' lex_state ?k1 ?k2 ?k3 ?k4 ?k5 ?k6 ?_) | ((with_reducible show wpAny _ _ (setAttr _ (Str.ofString "token") _) _ _ _); refine' lex_token ?k1 ?k2 ?k3 ?k4 ?k5 ?k6 ?_) | ((with_reducible show wpAny _ _ (setAttr _ (Str.ofString "lineno") _) _ _ _); refine' lex_lineno ?k1 ?k2 ?k3 ?k4 ?k5 ?k6 ?_)); k_dflt ((case k1 => k_asm); (case k2 => k_asm); (case k3 => k_asm); (case k4 => k_mem); (case k5 => k_mem); (case k6 => k_upd); k_whole); intro h' tq F' N'; (try k_sweep)))) | walk1 | (dsimp only; walk1) | (leave1; walk_say "STEP leave1"; try dsimp only) | fail "no step")); all_goals exact CameOut.intro)); intro tk')) | (((with_reducible show wpAny _ _ (exec (Stmt.If _ _ _ _) _) _ _ _); (try k_fold); refine wpAny_If ?_; (try k_fold))) | (k_unfold; (try dsimp only)) | (with_reducible ((with_reducible show wpAny _ _ (PySem.truthy (Value.ref _)) _ _ _); (k_here; k_dflt (refine' dq_truthy ?N ?M ?Z ?_; (case N => k_asm); (case M => k_mem); (case Z => exact Nat.le_of_ble_eq_true rfl); k_whole); intro tk'; (try dsimp only [List.isEmpty_nil, List.isEmpty_cons, Bool.not_true, Bool.not_false])))) | (with_reducible ((with_reducible show wpAny _ _ (getMethod (Value.ref _) _ _) _ _ _); (k_here; k_dflt (first | (refine' dq_method ?N ?M DF.s_pop DF.ty_pop ?_; (case N => k_asm); (case M => k_mem); k_whole) | (refine' dq_method ?N ?M DF.s_app DF.ty_app ?_; (case N => k_asm); (case M => k_mem); k_whole))))) | (with_reducible ((with_reducible show wpAny _ _ (call (Value.builtin "collections.deque.pop") _) _ _ _); (k_here; k_dflt (refine' dq_pop (its := []) ?F ?N ?U (by decide) ?_; (case F => k_asm); (case N => k_asm); (case U => k_upd); k_whole); intro h' F' N'; (try k_sweep)))) | (with_reducible ((with_reducible show wpAny _ _ (call (Value.builtin "collections.deque.append") _) _ _ _); (k_here; k_dflt (refine' dq_append (its := []) ?F ?N ?U (by decide) ?_; (case F => k_asm); (case N => k_asm); (case U => k_upd); k_whole); intro h' F' N'; (try k_sweep)))) | (with_reducible (k_here; (with_reducible show wpAny _ _ (call (Value.ref 559) [Value.ref _, Value.int _ _]) _ _ _); k_dflt (refine' read_at ?B ?F ?N ?X ?T ?hf ?hke ?hap ?hd ?hu ?hlen ?hne ?_; (case B => k_asm); (case F => k_asm); (case N => k_asm); (case X => k_asm); (case T => k_asm); (case hf => exact rfl); (case hke => exact rfl); (case hap => exact apart_led (by assumption) (by assumption) (by assumption) (by assumption)); (case hd => (dsimp only; omega)); (case hu => (dsimp only; omega)); (case hlen => k_asm); (case hne => k_asm); k_whole); intro x' ts' pos' t3' h' tk' hr' F' N'; (try k_sweep))) | (with_reducible ((with_reducible show wpAny _ _ (compareOp CmpOp.In (Value.str _ _) (Value.str _ _)) _ _ _); (k_here; with_reducible (first | refine in_nil ?_ | refine in_nil_a ?_ | refine in_nil_c ?_ | refine in_known (r := true) (by with_reducible assumption) ?_ | refine in_known (r := false) (by with_reducible assumption) ?_)))) | (with_reducible (k_here; (with_reducible show wpAny _ _ (PySem.truthy (Value.str _ _)) _ _ _); (refine KXt.truthy_pos (K := 100) (by with_reducible assumption) (by with_reducible assumption) (by decide) ?_); intro k')) | (with_reducible ((with_reducible show wpAny _ _ (compareOp CmpOp.NotIn (Value.str _ _) (Value.str _ _)) _ _ _); (k_here; with_reducible (first | refine notin_t (by with_reducible assumption) ?_ | refine notin_f (by with_reducible assumption) ?_)))) | (with_reducible (k_here; (with_reducible show wpAny _ _ (getAttr (Value.ref _) _ _) _ _ _); k_dflt (refine' get_ownO ?k1 ?k2 ?k3 ?ko ?k4 ?k5 ?k6 ?k7 ?k8 ?k9 ?_; (case k1 => k_asm); (case k2 => k_asm); (case k3 => k_inst); (case ko => exact rfl); (case k4 => k_is); (case k5 => k_is); (case k6 => k_is); (case k7 => k_is); (case k8 => k_get); (case k9 => k_handed); k_whole))) | (with_reducible (k_here; (with_reducible show wpAny _ _ (setAttr (Value.ref _) _ _) _ _ _); first | dsimp only | (k_dflt (first | ((with_reducible show wpAny _ _ (setAttr _ (Str.ofString "state") _) _ _ _); refine' lex_state ?k1 ?k2 ?k3 ?k4 ?k5 ?k6 ?_) | ((with_reducible show wpAny _ _ (setAttr _ (Str.ofString "token") _) _ _ _); refine' lex_token ?k1 ?k2 ?k3 ?k4 ?k5 ?k6 ?_) | ((with_reducible show wpAny _ _ (setAttr _ (Str.ofString "lineno") _) _ _ _); refine' lex_lineno ?k1 ?k2 ?k3 ?k4 ?k5 ?k6 ?_)); k_dflt ((case k1 => k_asm); (case k2 => k_asm); (case k3 => k_asm); (case k4 => k_mem); (case k5 => k_mem); (case k6 => k_upd); k_whole); intro h' tq F' N'; (try k_sweep)))) | walk1 | (dsimp only; walk1) | (leave1; walk_say "STEP leave1"; (try dsimp only))))
          all_goals exact brk_done (by assumption) hA (by first | assumption | exact news_tl (by assumption)) (e_none hR hdue h0 rfl)
        · (repeat' (first | (((with_reducible show wpAny _ _ (eval (Expr.Name _ _) _) _ _ _); k_dflt (refine' ld ?k1 ?k2 ?_; (case k1 => k_asm); (case k2 => exact rfl); k_whole))) | (((with_reducible show wpAny _ _ (exec (Stmt.If (Expr.BoolOp BoolOp.And (Expr.Attribute _ (Str.ofString "posix") _ :: _) _) _ _ _) _) _ _ _); refine if_no ?h1 ?_; (case h1 => ((repeat' (first | (k_unfold; (try dsimp only)) | (k_end; wrow_close) | (with_reducible ((with_reducible show wpAny _ _ (PySem.truthy (Value.ref _)) _ _ _); (k_here; k_dflt (refine' dq_truthy ?N ?M ?Z ?_; (case N => k_asm); (case M => k_mem); (case Z => exact Nat.le_of_ble_eq_true rfl); k_whole); intro tk'; (try dsimp only [List.isEmpty_nil, List.isEmpty_cons, Bool.not_true, Bool.not_false])))) | (with_reducible ((with_reducible show wpAny _ _ (getMethod (Value.ref _) _ _) _ _ _); (k_here; k_dflt (first | (refine' dq_method ?N ?M DF.s_pop DF.ty_pop ?_; (case N => k_asm); (case M => k_mem); k_whole) | (refine' dq_method ?N ?M DF.s_app DF.ty_app ?_; (case N => k_asm); (case M => k_mem); k_whole))))) | (with_reducible ((with_reducible show wpAny _ _ (call (Value.builtin "collections.deque.pop") _) _ _ _); (k_here; k_dflt (refine' dq_pop (its := []) ?F ?N ?U (by decide) ?_; (case F => k_asm); (case N => k_asm); (case U => k_upd); k_whole); intro h' F' N'; (try k_sweep)))) | (with_reducible ((with_reducible show wpAny _ _ (call (Value.builtin "collections.deque.append") _) _ _ _); (k_here; k_dflt (refine' dq_append (its := []) ?F ?N ?U (by decide) ?_; (case F => k_asm); (case N => k_asm); (case U => k_upd); k_whole); intro h' F' N'; (try k_sweep)))) | (with_reducible (k_here; (with_reducible show wpAny _ _ (call (Value.ref 559) [Value.ref _, Value.int _ _]) _ _ _); k_dflt (refine' read_at ?B ?F ?N ?X ?T ?hf ?hke ?hap ?hd ?hu ?hlen ?hne ?_; (case B => k_asm); (case F => k_asm); (case N => k_asm); (case X => k_asm); (case T => k_asm); (case hf => exact rfl); (case hke => exact rfl); (case hap => exact apart_led (by assumption) (by assumption) (by assumption) (by assumption)); (case hd => (dsimp only; omega)); (case hu => (dsimp only; omega)); (case hlen => k_asm); (case hne => k_asm); k_whole); intro x' ts' pos' t3' h' tk' hr' F' N'; (try k_sweep))) | (with_reducible ((with_reducible show wpAny _ _ (compareOp CmpOp.In (Value.str _ _) (Value.str _ _)) _ _ _); (k_here; with_reducible (first | refine in_nil ?_ | refine in_nil_a ?_ | refine in_nil_c ?_ | refine in_known (r := true) (by with_reducible assumption) ?_ | refine in_known (r := false) (by with_reducible assumption) ?_)))) | (with_reducible (k_here; (with_reducible show wpAny _ _ (PySem.truthy (Value.str _ _)) _ _ _); (refine KXt.truthy_pos (K := 100) (by with_reducible assumption) (by with_reducible assumption) (by decide) ?_); intro k')) | (with_reducible ((with_reducible show wpAny _ _ (compareOp CmpOp.NotIn (Value.str _ _) (Value.str _ _)) _ _ _); (k_here; with_reducible (first | refine notin_t (by with_reducible assumption) ?_ | refine notin_f (by with_reducible assumption) ?_)))) | (with_reducible (k_here; (with_reducible show wpAny _ _ (getAttr (Value.ref _) _ _) _ _ _); k_dflt (refine' get_ownO ?k1 ?k2 ?k3 ?ko ?k4 ?k5 ?k6 ?k7 ?k8 ?k9 ?_; (case k1 => k_asm); (case k2 => k_asm); (case k3 => k_inst); (case ko => exact rfl); (case k4 => k_is); (case k5 => k_is); (case k6 => k_is); (case k7 => k_is); (case k8 => k_get); (case k9 => k_handed); k_whole))) | (with_reducible (k_here; (with_reducible show wpAny _ _ (setAttr (Value.ref _) _ _) _ _ _); first | dsimp only | (k_dflt (first | ((with_reducible show wpAny _ _ (setAttr _ (Str.ofString "state") _) _ _ _); refine' lex_state ?k1 ?k2 ?k3 ?k4 ?k5 ?k6 ?_) | ((with_reducible show wpAny _ _ (setAttr _ (Str.ofString "token") _) _ _ _); refine' lex_token ?k1 ?k2 ?k3 ?k4 ?k5 ?k6 ?_) | ((with_reducible show wpAny _ _ (setAttr _ (Str.ofString "lineno") _) _ _ _); refine' lex_lineno ?k1 ?k2 ?k3 ?k4 ?k5 ?k6 ?_)); k_dflt ((case k1 => k_asm); (case k2 => k_asm); (case k3 => k_asm); (case k4 => k_mem); (case k5 => k_mem); (case k6 => k_upd); k_whole); intro h' tq F' N'; (try k_sweep)))) | walk1 | (dsimp only; walk1) | (leave1; walk_say "STEP leave1"; try dsimp only) | fail "no step")); all_goals exact CameOut.intro)); intro tk')) | (((with_reducible show wpAny _ _ (exec (Stmt.If _ _ _ _) _) _ _ _); (try k_fold); refine wpAny_If ?_; (try k_fold))) | (k_unfold; (try dsimp only)) | (with_reducible ((with_reducible show wpAny _ _ (PySem.truthy (Value.ref _)) _ _ _); (k_here; k_dflt (refine' dq_truthy ?N ?M ?Z ?_; (case N => k_asm); (case M => k_mem); (case Z => exact Nat.le_of_ble_eq_true rfl); k_whole); intro tk'; (try dsimp only [List.isEmpty_nil, List.isEmpty_cons, Bool.not_true, Bool.not_false])))) | (with_reducible ((with_reducible show wpAny _ _ (getMethod (Value.ref _) _ _) _ _ _); (k_here; k_dflt (first | (refine' dq_method ?N ?M DF.s_pop DF.ty_pop ?_; (case N => k_asm); (case M => k_mem); k_whole) | (refine' dq_method ?N ?M DF.s_app DF.ty_app ?_; (case N => k_asm); (case M => k_mem); k_whole))))) | (with_reducible ((with_reducible show wpAny _ _ (call (Value.builtin "collections.deque.pop") _) _ _ _); (k_here; k_dflt (refine' dq_pop (its := []) ?F ?N ?U (by decide) ?_; (case F => k_asm); (case N => k_asm); (case U => k_upd); k_whole); intro h' F' N'; (try k_sweep)))) | (with_reducible ((with_reducible show wpAny _ _ (call (Value.builtin "collections.deque.append") _) _ _ _); (k_here; k_dflt (refine' dq_append (its := []) ?F ?N ?U (by decide) ?_; (case F => k_asm); (case N => k_asm); (case U => k_upd); k_whole); intro h' F' N'; (try k_sweep)))) | (with_reducible (k_here; (with_reducible show wpAny _ _ (call (Value.ref 559) [Value.ref _, Value.int _ _]) _ _ _); k_dflt (refine' read_at ?B ?F ?N ?X ?T ?hf ?hke ?hap ?hd ?hu ?hlen ?hne ?_; (case B => k_asm); (case F => k_asm); (case N => k_asm); (case X => k_asm); (case T => k_asm); (case hf => exact rfl); (case hke => exact rfl); (case hap => exact apart_led (by assumption) (by assumption) (by assumption) (by assumption)); (case hd => (dsimp only; omega)); (case hu => (dsimp only; omega)); (case hlen => k_asm); (case hne => k_asm); k_whole); intro x' ts' pos' t3' h' tk' hr' F' N'; (try k_sweep))) | (with_reducible ((with_reducible show wpAny _ _ (compareOp CmpOp.In (Value.str _ _) (Value.str _ _)) _ _ _); (k_here; with_reducible (first | refine in_nil ?_ | refine in_nil_a ?_ | refine in_nil_c ?_ | refine in_known (r := true) (by with_reducible assumption) ?_ | refine in_known (r := false) (by with_reducible assumption) ?_)))) | (with_reducible (k_here; (with_reducible show wpAny _ _ (PySem.truthy (Value.str _ _)) _ _ _); (refine KXt.truthy_pos (K := 100) (by with_reducible assumption) (by with_reducible assumption) (by decide) ?_); intro k')) | (with_reducible ((with_reducible show wpAny _ _ (compareOp CmpOp.NotIn (Value.str _ _) (Value.str _ _)) _ _ _); (k_here; with_reducible (first | refine notin_t (by with_reducible assumption) ?_ | refine notin_f (by with_reducible assumption) ?_)))) | (with_reducible (k_here; (with_reducible show wpAny _ _ (getAttr (Value.ref _) _ _) _ _ _); k_dflt (refine' get_ownO ?k1 ?k2 ?k3 ?ko ?k4 ?k5 ?k6 ?k7 ?k8 ?k9 ?_; (case k1 => k_asm); (case k2 => k_asm); (case k3 => k_inst); (case ko => exact rfl); (case k4 => k_is); (case k5 => k_is); (case k6 => k_is); (case k7 => k_is); (case k8 => k_get); (case k9 => k_handed); k_whole))) | (with_reducible (k_here; (with_reducible show wpAny _ _ (setAttr (Value.ref _) _ _) _ _ _); first | dsimp only | (k_dflt (first | ((with_reducible show wpAny _ _ (setAttr _ (Str.ofString "state") _) _ _ _); refine' lex_state ?k1 ?k2 ?k3 ?k4 ?k5 ?k6 ?_) | ((with_reducible show wpAny _ _ (setAttr _ (Str.ofString "token") _) _ _ _); refine' lex_token ?k1 ?k2 ?k3 ?k4 ?k5 ?k6 ?_) | ((with_reducible show wpAny _ _ (setAttr _ (Str.ofString "lineno") _) _ _ _); refine' lex_lineno ?k1 ?k2 ?k3 ?k4 ?k5 ?k6 ?_)); k_dflt ((case k1 => k_asm); (case k2 => k_asm); (case k3 => k_asm); (case k4 => k_mem); (case k5 => k_mem); (case k6 => k_upd); k_whole); intro h' tq F' N'; (try k_sweep)))) | walk1 | (dsimp only; walk1) | (leave1; walk_say "STEP leave1"; (try dsimp only))))
          all_goals exact brk_done (by assumption) hA (by first | assumption | exact news_tl (by assumption)) (e_last hR hdue ht (rest_len hR) rfl)
        · (repeat' (first | (((with_reducible show wpAny _ _ (eval (Expr.Name _ _) _) _ _ _); k_dflt (refine' ld ?k1 ?k2 ?_; (case k1 => k_asm); (case k2 => exact rfl); k_whole))) | (((with_reducible show wpAny _ _ (exec (Stmt.If (Expr.BoolOp BoolOp.And (Expr.Attribute _ (Str.ofString "posix") _ :: _) _) _ _ _) _) _ _ _); refine if_no ?h1 ?_; (case h1 => ((repeat' (first | (k_unfold; (try dsimp only)) | (k_end; wrow_close) | (with_reducible ((with_reducible show wpAny _ _ (PySem.truthy (Value.ref _)) _ _ _); (k_here; k_dflt (refine' dq_truthy ?N ?M ?Z ?_; (case N => k_asm); (case M => k_mem); (case Z => exact Nat.le_of_ble_eq_true rfl); k_whole); intro tk'; (try dsimp only [List.isEmpty_nil, List.isEmpty_cons, Bool.not_true, Bool.not_false])))) | (with_reducible ((with_reducible show wpAny _ _ (getMethod (Value.ref _) _ _) _ _ _); (k_here; k_dflt (first | (refine' dq_method ?N ?M DF.s_pop DF.ty_pop ?_; (case N => k_asm); (case M => k_mem); k_whole) | (refine' dq_method ?N ?M DF.s_app DF.ty_app ?_; (case N => k_asm); (case M => k_mem); k_whole))))) | (with_reducible ((with_reducible show wpAny _ _ (call (Value.builtin "collections.deque.pop") _) _ _ _); (k_here; k_dflt (refine' dq_pop (its := []) ?F ?N ?U (by decide) ?_; (case F => k_asm); (case N => k_asm); (case U => k_upd); k_whole); intro h' F' N'; (try k_sweep)))) | (with_reducible ((with_reducible show wpAny _ _ (call (Value.builtin "collections.deque.append") _) _ _ _); (k_here; k_dflt (refine' dq_append (its := []) ?F ?N ?U (by decide) ?_; (case F => k_asm); (case N => k_asm); (case U => k_upd); k_whole); intro h' F' N'; (try k_sweep)))) | (with_reducible (k_here; (with_reducible show wpAny _ _ (call (Value.ref 559) [Value.ref _, Value.int _ _]) _ _ _); k_dflt (refine' read_at ?B ?F ?N ?X ?T ?hf ?hke ?hap ?hd ?hu ?hlen ?hne ?_; (case B => k_asm); (case F => k_asm); (case N => k_asm); (case X => k_asm); (case T => k_asm); (case hf => exact rfl); (case hke => exact rfl); (case hap => exact apart_led (by assumption) (by assumption) (by assumption) (by assumption)); (case hd => (dsimp only; omega)); (case hu => (dsimp only; omega)); (case hlen => k_asm); (case hne => k_asm); k_whole); intro x' ts' pos' t3' h' tk' hr' F' N'; (try k_sweep))) | (with_reducible ((with_reducible show wpAny _ _ (compareOp CmpOp.In (Value.str _ _) (Value.str _ _)) _ _ _); (k_here; with_reducible (first | refine in_nil ?_ | refine in_nil_a ?_ | refine in_nil_c ?_ | refine in_known (r := true) (by with_reducible assumption) ?_ | refine in_known (r := false) (by with_reducible assumption) ?_)))) | (with_reducible (k_here; (with_reducible show wpAny _ _ (PySem.truthy (Value.str _ _)) _ _ _); (refine KXt.truthy_pos (K := 100) (by with_reducible assumption) (by with_reducible assumption) (by decide) ?_); intro k')) | (with_reducible ((with_reducible show wpAny _ _ (compareOp CmpOp.NotIn (Value.str _ _) (Value.str _ _)) _ _ _); (k_here; with_reducible (first | refine notin_t (by with_reducible assumption) ?_ | refine notin_f (by with_reducible assumption) ?_)))) | (with_reducible (k_here; (with_reducible show wpAny _ _ (getAttr (Value.ref _) _ _) _ _ _); k_dflt (refine' get_ownO ?k1 ?k2 ?k3 ?ko ?k4 ?k5 ?k6 ?k7 ?k8 ?k9 ?_; (case k1 => k_asm); (case k2 => k_asm); (case k3 => k_inst); (case ko => exact rfl); (case k4 => k_is); (case k5 => k_is); (case k6 => k_is); (case k7 => k_is); (case k8 => k_get); (case k9 => k_handed); k_whole))) | (with_reducible (k_here; (with_reducible show wpAny _ _ (setAttr (Value.ref _) _ _) _ _ _); first | dsimp only | (k_dflt (first | ((with_reducible show wpAny _ _ (setAttr _ (Str.ofString "state") _) _ _ _); refine' lex_state ?k1 ?k2 ?k3 ?k4 ?k5 ?k6 ?_) | ((with_reducible show wpAny _ _ (setAttr _ (Str.ofString "token") _) _ _ _); refine' lex_token ?k1 ?k2 ?k3 ?k4 ?k5 ?k6 ?_) | ((with_reducible show wpAny _ _ (setAttr _ (Str.ofString "lineno") _) _ _ _); refine' lex_lineno ?k1 ?k2 ?k3 ?k4 ?k5 ?k6 ?_)); k_dflt ((case k1 => k_asm); (case k2 => k_asm); (case k3 => k_asm); (case k4 => k_mem); (case k5 => k_mem); (case k6 => k_upd); k_whole); intro h' tq F' N'; (try k_sweep)))) | walk1 | (dsimp only; walk1) | (leave1; walk_say "STEP leave1"; try dsimp only) | fail "no step")); all_goals exact CameOut.intro)); intro tk')) | (((with_reducible show wpAny _ _ (exec (Stmt.If _ _ _ _) _) _ _ _); (try k_fold); refine wpAny_If ?_; (try k_fold))) | (k_unfold; (try dsimp only)) | (with_reducible ((with_reducible show wpAny _ _ (PySem.truthy (Value.ref _)) _ _ _); (k_here; k_dflt (refine' dq_truthy ?N ?M ?Z ?_; (case N => k_asm); (case M => k_mem); (case Z => exact Nat.le_of_ble_eq_true rfl); k_whole); intro tk'; (try dsimp only [List.isEmpty_nil, List.isEmpty_cons, Bool.not_true, Bool.not_false])))) | (with_reducible ((with_reducible show wpAny _ _ (getMethod (Value.ref _) _ _) _ _ _); (k_here; k_dflt (first | (refine' dq_method ?N ?M DF.s_pop DF.ty_pop ?_; (case N => k_asm); (case M => k_mem); k_whole) | (refine' dq_method ?N ?M DF.s_app DF.ty_app ?_; (case N => k_asm); (case M => k_mem); k_whole))))) | (with_reducible ((with_reducible show wpAny _ _ (call (Value.builtin "collections.deque.pop") _) _ _ _); (k_here; k_dflt (refine' dq_pop (its := []) ?F ?N ?U (by decide) ?_; (case F => k_asm); (case N => k_asm); (case U => k_upd); k_whole); intro h' F' N'; (try k_sweep)))) | (with_reducible ((with_reducible show wpAny _ _ (call (Value.builtin "collections.deque.append") _) _ _ _); (k_here; k_dflt (refine' dq_append (its := []) ?F ?N ?U (by decide) ?_; (case F => k_asm); (case N => k_asm); (case U => k_upd); k_whole); intro h' F' N'; (try k_sweep)))) | (with_reducible (k_here; (with_reducible show wpAny _ _ (call (Value.ref 559) [Value.ref _, Value.int _ _]) _ _ _); k_dflt (refine' read_at ?B ?F ?N ?X ?T ?hf ?hke ?hap ?hd ?hu ?hlen ?hne ?_; (case B => k_asm); (case F => k_asm); (case N => k_asm); (case X => k_asm); (case T => k_asm); (case hf => exact rfl); (case hke => exact rfl); (case hap => exact apart_led (by assumption) (by assumption) (by assumption) (by assumption)); (case hd => (dsimp only; omega)); (case hu => (dsimp only; omega)); (case hlen => k_asm); (case hne => k_asm); k_whole); intro x' ts' pos' t3' h' tk' hr' F' N'; (try k_sweep))) | (with_reducible ((with_reducible show wpAny _ _ (compareOp CmpOp.In (Value.str _ _) (Value.str _ _)) _ _ _); (k_here; with_reducible (first | refine in_nil ?_ | refine in_nil_a ?_ | refine in_nil_c ?_ | refine in_known (r := true) (by with_reducible assumption) ?_ | refine in_known (r := false) (by with_reducible assumption) ?_)))) | (with_reducible (k_here; (with_reducible show wpAny _ _ (PySem.truthy (Value.str _ _)) _ _ _); (refine KXt.truthy_pos (K := 100) (by with_reducible assumption) (by with_reducible assumption) (by decide) ?_); intro k')) | (with_reducible ((with_reducible show wpAny _ _ (compareOp CmpOp.NotIn (Value.str _ _) (Value.str _ _)) _ _ _); (k_here; with_reducible (first | refine notin_t (by with_reducible assumption) ?_ | refine notin_f (by with_reducible assumption) ?_)))) | (with_reducible (k_here; (with_reducible show wpAny _ _ (getAttr (Value.ref _) _ _) _ _ _); k_dflt (refine' get_ownO ?k1 ?k2 ?k3 ?ko ?k4 ?k5 ?k6 ?k7 ?k8 ?k9 ?_; (case k1 => k_asm); (case k2 => k_asm); (case k3 => k_inst); (case ko => exact rfl); (case k4 => k_is); (case k5 => k_is); (case k6 => k_is); (case k7 => k_is); (case k8 => k_get); (case k9 => k_handed); k_whole))) | (with_reducible (k_here; (with_reducible show wpAny _ _ (setAttr (Value.ref _) _ _) _ _ _); first | dsimp only | (k_dflt (first | ((with_reducible show wpAny _ _ (setAttr _ (Str.ofString "state") _) _ _ _); refine' lex_state ?k1 ?k2 ?k3 ?k4 ?k5 ?k6 ?_) | ((with_reducible show wpAny _ _ (setAttr _ (Str.ofString "token") _) _ _ _); refine' lex_token ?k1 ?k2 ?k3 ?k4 ?k5 ?k6 ?_) | ((with_reducible show wpAny _ _ (setAttr _ (Str.ofString "lineno") _) _ _ _); refine' lex_lineno ?k1 ?k2 ?k3 ?k4 ?k5 ?k6 ?_)); k_dflt ((case k1 => k_asm); (case k2 => k_asm); (case k3 => k_asm); (case k4 => k_mem); (case k5 => k_mem); (case k6 => k_upd); k_whole); intro h' tq F' N'; (try k_sweep)))) | walk1 | (dsimp only; walk1) | (leave1; walk_say "STEP leave1"; (try dsimp only))))
          all_goals exact brk_done (by assumption) hA (by first | assumption | exact news_tl (by assumption)) (e_last hR hdue ht (rest_len hR) rfl)
        · (repeat' (first | (((with_reducible show wpAny _ _ (eval (Expr.Name _ _) _) _ _ _); k_dflt (refine' ld ?k1 ?k2 ?_; (case k1 => k_asm); (case k2 => exact rfl); k_whole))) | (((with_reducible show wpAny _ _ (exec (Stmt.If (Expr.BoolOp BoolOp.And (Expr.Attribute _ (Str.ofString "posix") _ :: _) _) _ _ _) _) _ _ _); refine if_no ?h1 ?_; (case h1 => ((repeat' (first | (k_unfold; (try dsimp only)) | (k_end; wrow_close) | (with_reducible ((with_reducible show wpAny _ _ (PySem.truthy (Value.ref _)) _ _ _); (k_here; k_dflt (refine' dq_truthy ?N ?M ?Z ?_; (case N => k_asm); (case M => k_mem); (case Z => exact Nat.le_of_ble_eq_true rfl); k_whole); intro tk'; (try dsimp only [List.isEmpty_nil, List.isEmpty_cons, Bool.not_true, Bool.not_false])))) | (with_reducible ((with_reducible show wpAny _ _ (getMethod (Value.ref _) _ _) _ _ _); (k_here; k_dflt (first | (refine' dq_method ?N ?M DF.s_pop DF.ty_pop ?_; (case N => k_asm); (case M => k_mem); k_whole) | (refine' dq_method ?N ?M DF.s_app DF.ty_app ?_; (case N => k_asm); (case M => k_mem); k_whole))))) | (with_reducible ((with_reducible show wpAny _ _ (call (Value.builtin "collections.deque.pop") _) _ _ _); (k_here; k_dflt (refine' dq_pop (its := []) ?F ?N ?U (by decide) ?_; (case F => k_asm); (case N => k_asm); (case U => k_upd); k_whole); intro h' F' N'; (try k_sweep)))) | (with_reducible ((with_reducible show wpAny _ _ (call (Value.builtin "collections.deque.append") _) _ _ _); (k_here; k_dflt (refine' dq_append (its := []) ?F ?N ?U (by decide) ?_; (case F => k_asm); (case N => k_asm); (case U => k_upd); k_whole); intro h' F' N'; (try k_sweep)))) | (with_reducible (k_here; (with_reducible show wpAny _ _ (call (Value.ref 559) [Value.ref _, Value.int _ _]) _ _ _); k_dflt (refine' read_at ?B ?F ?N ?X ?T ?hf ?hke ?hap ?hd ?hu ?hlen ?hne ?_; (case B => k_asm); (case F => k_asm); (case N => k_asm); (case X => k_asm); (case T => k_asm); (case hf => exact rfl); (case hke => exact rfl); (case hap => exact apart_led (by assumption) (by assumption) (by assumption) (by assumption)); (case hd => (dsimp only; omega)); (case hu => (dsimp only; omega)); (case hlen => k_asm); (case hne => k_asm); k_whole); intro x' ts' pos' t3' h' tk' hr' F' N'; (try k_sweep))) | (with_reducible ((with_reducible show wpAny _ _ (compareOp CmpOp.In (Value.str _ _) (Value.str _ _)) _ _ _); (k_here; with_reducible (first | refine in_nil ?_ | refine in_nil_a ?_ | refine in_nil_c ?_ | refine in_known (r := true) (by with_reducible assumption) ?_ | refine in_known (r := false) (by with_reducible assumption) ?_)))) | (with_reducible (k_here; (with_reducible show wpAny _ _ (PySem.truthy (Value.str _ _)) _ _ _); (refine KXt.truthy_pos (K := 100) (by with_reducible assumption) (by with_reducible assumption) (by decide) ?_); intro k')) | (with_reducible ((with_reducible show wpAny _ _ (compareOp CmpOp.NotIn (Value.str _ _) (Value.str _ _)) _ _ _); (k_here; with_reducible (first | refine notin_t (by with_reducible assumption) ?_ | refine notin_f (by with_reducible assumption) ?_)))) | (with_reducible (k_here; (with_reducible show wpAny _ _ (getAttr (Value.ref _) _ _) _ _ _); k_dflt (refine' get_ownO ?k1 ?k2 ?k3 ?ko ?k4 ?k5 ?k6 ?k7 ?k8 ?k9 ?_; (case k1 => k_asm); (case k2 => k_asm); (case k3 => k_inst); (case ko => exact rfl); (case k4 => k_is); (case k5 => k_is); (case k6 => k_is); (case k7 => k_is); (case k8 => k_get); (case k9 => k_handed); k_whole))) | (with_reducible (k_here; (with_reducible show wpAny _ _ (setAttr (Value.ref _) _ _) _ _ _); first | dsimp only | (k_dflt (first | ((with_reducible show wpAny _ _ (setAttr _ (Str.ofString "state") _) _ _ _); refine' lex_state ?k1 ?k2 ?k3 ?k4 ?k5 ?k6 ?_) | ((with_reducible show wpAny _ _ (setAttr _ (Str.ofString "token") _) _ _ _); refine' lex_token ?k1 ?k2 ?k3 ?k4 ?k5 ?k6 ?_) | ((with_reducible show wpAny _ _ (setAttr _ (Str.ofString "lineno") _) _ _ _); refine' lex_lineno ?k1 ?k2 ?k3 ?k4 ?k5 ?k6 ?_)); k_dflt ((case k1 => k_asm); (case k2 => k_asm); (case k3 => k_asm); (case k4 => k_mem); (case k5 => k_mem); (case k6 => k_upd); k_whole); intro h' tq F' N'; (try k_sweep)))) | walk1 | (dsimp only; walk1) | (leave1; walk_say "STEP leave1"; try dsimp only) | fail "no step")); all_goals exact CameOut.intro)); intro tk')) | (((with_reducible show wpAny _ _ (exec (Stmt.If _ _ _ _) _) _ _ _); (try k_fold); refine wpAny_If ?_; (try k_fold))) | (k_unfold; (try dsimp only)) | (with_reducible ((with_reducible show wpAny _ _ (PySem.truthy (Value.ref _)) _ _ _); (k_here; k_dflt (refine' dq_truthy ?N ?M ?Z ?_; (case N => k_asm); (case M => k_mem); (case Z => exact Nat.le_of_ble_eq_true rfl); k_whole); intro tk'; (try dsimp only [List.isEmpty_nil, List.isEmpty_cons, Bool.not_true, Bool.not_false])))) | (with_reducible ((with_reducible show wpAny _ _ (getMethod (Value.ref _) _ _) _ _ _); (k_here; k_dflt (first | (refine' dq_method ?N ?M DF.s_pop DF.ty_pop ?_; (case N => k_asm); (case M => k_mem); k_whole) | (refine' dq_method ?N ?M DF.s_app DF.ty_app ?_; (case N => k_asm); (case M => k_mem); k_whole))))) | (with_reducible ((with_reducible show wpAny _ _ (call (Value.builtin "collections.deque.pop") _) _ _ _); (k_here; k_dflt (refine' dq_pop (its := []) ?F ?N ?U (by decide) ?_; (case F => k_asm); (case N => k_asm); (case U => k_upd); k_whole); intro h' F' N'; (try k_sweep)))) | (with_reducible ((with_reducible show wpAny _ _ (call (Value.builtin "collections.deque.append") _) _ _ _); (k_here; k_dflt (refine' dq_append (its := []) ?F ?N ?U (by decide) ?_; (case F => k_asm); (case N => k_asm); (case U => k_upd); k_whole); intro h' F' N'; (try k_sweep)))) | (with_reducible (k_here; (with_reducible show wpAny _ _ (call (Value.ref 559) [Value.ref _, Value.int _ _]) _ _ _); k_dflt (refine' read_at ?B ?F ?N ?X ?T ?hf ?hke ?hap ?hd ?hu ?hlen ?hne ?_; (case B => k_asm); (case F => k_asm); (case N => k_asm); (case X => k_asm); (case T => k_asm); (case hf => exact rfl); (case hke => exact rfl); (case hap => exact apart_led (by assumption) (by assumption) (by assumption) (by assumption)); (case hd => (dsimp only; omega)); (case hu => (dsimp only; omega)); (case hlen => k_asm); (case hne => k_asm); k_whole); intro x' ts' pos' t3' h' tk' hr' F' N'; (try k_sweep))) | (with_reducible ((with_reducible show wpAny _ _ (compareOp CmpOp.In (Value.str _ _) (Value.str _ _)) _ _ _); (k_here; with_reducible (first | refine in_nil ?_ | refine in_nil_a ?_ | refine in_nil_c ?_ | refine in_known (r := true) (by with_reducible assumption) ?_ | refine in_known (r := false) (by with_reducible assumption) ?_)))) | (with_reducible (k_here; (with_reducible show wpAny _ _ (PySem.truthy (Value.str _ _)) _ _ _); (refine KXt.truthy_pos (K := 100) (by with_reducible assumption) (by with_reducible assumption) (by decide) ?_); intro k')) | (with_reducible ((with_reducible show wpAny _ _ (compareOp CmpOp.NotIn (Value.str _ _) (Value.str _ _)) _ _ _); (k_here; with_reducible (first | refine notin_t (by with_reducible assumption) ?_ | refine notin_f (by with_reducible assumption) ?_)))) | (with_reducible (k_here; (with_reducible show wpAny _ _ (getAttr (Value.ref _) _ _) _ _ _); k_dflt (refine' get_ownO ?k1 ?k2 ?k3 ?ko ?k4 ?k5 ?k6 ?k7 ?k8 ?k9 ?_; (case k1 => k_asm); (case k2 => k_asm); (case k3 => k_inst); (case ko => exact rfl); (case k4 => k_is); (case k5 => k_is); (case k6 => k_is); (case k7 => k_is); (case k8 => k_get); (case k9 => k_handed); k_whole))) | (with_reducible (k_here; (with_reducible show wpAny _ _ (setAttr (Value.ref _) _ _) _ _ _); first | dsimp only | (k_dflt (first | ((with_reducible show wpAny _ _ (setAttr _ (Str.ofString "state") _) _ _ _); refine' lex_state ?k1 ?k2 ?k3 ?k4 ?k5 ?k6 ?_) | ((with_reducible show wpAny _ _ (setAttr _ (Str.ofString "token") _) _ _ _); refine' lex_token ?k1 ?k2 ?k3 ?k4 ?k5 ?k6 ?_) | ((with_reducible show wpAny _ _ (setAttr _ (Str.ofString "lineno") _) _ _ _); refine' lex_lineno ?k1 ?k2 ?k3 ?k4 ?k5 ?k6 ?_)); k_dflt ((case k1 => k_asm); (case k2 => k_asm); (case k3 => k_asm); (case k4 => k_mem); (case k5 => k_mem); (case k6 => k_upd); k_whole); intro h' tq F' N'; (try k_sweep)))) | walk1 | (dsimp only; walk1) | (leave1; walk_say "STEP leave1"; (try dsimp only))))
          all_goals exact brk_done (by assumption) hA (by first | assumption | exact news_tl (by assumption)) (e_none hR hdue h0 rfl)
end Mine
end
section
open PySem PySem.W PySem.W.X PyProof.Rows PySem.Calls
set_option maxRecDepth 100000
set_option maxHeartbeats 8000000
namespace Mine
/-- reading a token, at a call's place -/
theorem rt_at {w : World} {mean : ExcName → Option Value} {mg mb : Str → Option Value} {dp un : Nat} {gd : Option (List Code)} {outer : List PySem.Env} {env : PySem.Env} {A₀ : Around} {base h₀ : Heap} {L : Addr} {m : Str → Option Value} {s : Shared} {Q E : Value → Shared → Prop} {T : LexT} {x dx y dy d1 d2 d3 : Addr} {b : Bool} {ev : Value} {wc buf : Str} {k1 k2 k3 t1 t2 : Tok} {c₀ : RtSt} {due : List Str} {rest : List (Addr × Obj)}
    (B : Below A₀ base outer h₀) (F : Fr h₀ L s.heap m) (N : News h₀ L s.heap (ledR w.params T x dx y dy d1 d2 d3 b ev wc buf k1 k2 k3 t1 t2 c₀ ++ rest)) (X : (K2 w.params).In h₀) (Tp : Top q1 loose1 mean mg mb h₀) (hf : env.frame = some L) (hke : env.scope.kind = .function)
    (hap : ∀ p ∈ rest, p.1 ∉ [y, dy, x, dx, d3]) (hd : dp + 60 < recursionLimit) (hu : un + 800 < cLine) (hlen : buf.length ≤ 100)
    (o1 : dx < x) (o2 : x < dy) (o3 : dy < y) (o4 : y < d3) (hwc : ∀ c, kd c = sFigure → inS wc ⟨#[c]⟩ = false) (hP : RtP buf due c₀)
    (hret : ∀ v c' h' tk', RtV b due buf v c' → Fr h₀ L h' m → News h₀ L h' (ledR w.params T x dx y dy d1 d2 d3 b ev wc buf k1 k2 k3 t1 t2 c' ++ rest) → Q v { s with heap := h', toks := tk' }) :
    wpAny (model pw w) (actx dp un gd (env :: outer)) (call (.ref 716) [.ref x]) Q E s := by
  obtain ⟨B', X', T', hl, back⟩ := siteM (led := ledR w.params T x dx y dy d1 d2 d3 b ev wc buf k1 k2 k3 t1 t2 c₀) (A := actx dp un gd (env :: outer)) B F N X Tp rfl hf hke hap
  refine rt_spec rfl hl B' X' T' hd hu hlen o1 o2 o3 o4 hwc hP fun v c' h' tk' hV hk hl' => ?_
  obtain ⟨F', N'⟩ := back h' _ hk hl'
  exact hret v c' h' tk' hV F' N'
/-- apart from a lexer's changing objects -/
theorem apart5 {x dx y dy d1 d2 d3 : Nat} {a b : Obj} (h1 : dx < x) (h2 : x < dy) (h3 : dy < y) (h4 : y < d1) (h5 : d1 < d2) (h6 : d2 < d3) : ∀ p ∈ ([(d1, a), (d2, b)] : List (Addr × Obj)), p.1 ∉ ([y, dy, x, dx, d3] : List Addr) := by
  have e1 : ¬ (d1 = y ∨ d1 = dy ∨ d1 = x ∨ d1 = dx ∨ d1 = d3) := by omega
  have e2 : ¬ (d2 = y ∨ d2 = dy ∨ d2 = x ∨ d2 = dx ∨ d2 = d3) := by omega
  intro p hp
  simp only [List.mem_cons, List.not_mem_nil, or_false] at hp ⊢
  rcases hp with rfl | rfl
  · exact e1
  · exact e2
noncomputable def evIs (b : Bool) (ev : Value) : Prop := (b = true ∧ ev = .none) ∨ (b = false ∧ ∃ te, ev = .str (Str.ofString "") te)
noncomputable abbrev ledG (P : Params) (T : LexT) (x dx y dy d1 d2 d3 : Addr) (b : Bool) (ev : Value) (wc buf : Str) (k1 k2 k3 t1 t2 : Tok) (c : RtSt) : List (Addr × Obj) :=
  ledR P T x dx y dy d1 d2 d3 b ev wc buf k1 k2 k3 t1 t2 c ++ [(d1, dqOf 0 []), (d2, dqOf 0 [])]
theorem led_back {g h : Heap} {L : Addr} {l : List (Addr × Obj)} (N : News g L h l) : ∀ p ∈ l, h.get? p.1 = some p.2 ∧ g.get? p.1 = none := fun p hp => ⟨(N p hp).1, (N p hp).2.2⟩
theorem str_ne {tk : Str} (hz : tk.length ≠ 0) : (tk == Str.ofString "") = false := by
  cases e : tk == Str.ofString "" with
  | false => rfl
  | true =>
    rw [eq_of_beq e] at hz
    exact absurd rfl hz
theorem gt_done {g : Heap} {L' : Addr} {s : Shared} {P : Params} {T : LexT} {x dx y dy d1 d2 d3 : Addr} {b : Bool} {ev : Value} {wc buf : Str} {k1 k2 k3 t1 t2 : Tok} {m' : Str → Option Value} {c' : RtSt} {h' : Heap} {tk : Nat} {due : List Str} {v : Value} {Q : Value → Shared → Prop} (hret : ∀ v c' h' tk', RtV b due buf v c' → (∀ b o, g.get? b = some o → h'.get? b = some o) → (∀ p ∈ ledG P T x dx y dy d1 d2 d3 b ev wc buf k1 k2 k3 t1 t2 c', h'.get? p.1 = some p.2 ∧ g.get? p.1 = none) → Q v { s with heap := h', toks := tk' })
    (hV : RtV b due buf v c') (F : Fr g L' h' m') (N : News g L' h' (ledG P T x dx y dy d1 d2 d3 b ev wc buf k1 k2 k3 t1 t2 c')) : Q v { s with heap := h', toks := tk } :=
  hret v c' h' tk hV F.keep fun p hp => ⟨(N p hp).1, (N p hp).2.2⟩
theorem gt_spec {w : World} {mean : ExcName → Option Value} {mg mb : Str → Option Value} {dp un : Nat} {gd : Option (List Code)} {outer : List Env} {base g : Heap} {s : Shared} {Q E : Value → Shared → Prop} {T : LexT} {x dx y dy d1 d2 d3 : Addr} {b : Bool} {ev : Value} {wc buf : Str} {k1 k2 k3 t1 t2 : Tok} {c₀ : RtSt} {due : List Str}
    (hg : g = hideAll s.heap [y, dy, x, dx, d3, d1, d2]) (hl : ∀ p ∈ ledG w.params T x dx y dy d1 d2 d3 b ev wc buf k1 k2 k3 t1 t2 c₀, s.heap.get? p.1 = some p.2)
    (B : Below (actx dp un gd outer) base outer g) (X : (K2 w.params).In g) (Tp : Top q1 loose1 mean mg mb g) (hd : dp + 70 < recursionLimit) (hu : un + 900 < cLine) (hlen : buf.length ≤ 100)
    (o1 : dx < x) (o2 : x < dy) (o3 : dy < y) (o4 : y < d1) (o5 : d1 < d2) (o6 : d2 < d3) (hwc : ∀ c, kd c = sFigure → inS wc ⟨#[c]⟩ = false) (hP : RtP buf due c₀) (hev : evIs b ev)
    (hret : ∀ v c' h' tk', RtV b due buf v c' → (∀ b o, g.get? b = some o → h'.get? b = some o) → (∀ p ∈ ledG w.params T x dx y dy d1 d2 d3 b ev wc buf k1 k2 k3 t1 t2 c', h'.get? p.1 = some p.2 ∧ g.get? p.1 = none) → Q v { s with heap := h', toks := tk' }) :
    wpAny (model pw w) (actx dp un gd outer) (call (.ref 709) [.ref x]) Q E s := by
  have hfill : PySem.Challenge.rw_ox0114_01 = PySem.Challenge.rw_ox0114_01 ∧ K2 = K2 := by
    k_fill
    exact ⟨rfl, rfl⟩
  clear hfill
  replace o1 := ltN o1
  replace o2 := ltN o2
  replace o3 := ltN o3
  replace o4 := ltN o4
  replace o5 := ltN o5
  replace o6 := ltN o6
  refine wpAny_call ?_
  k_dflt (refine' enterM (led := ledG w.params T x dx y dy d1 d2 d3 b ev wc buf k1 k2 k3 t1 t2 c₀) (binds := [(Str.ofString "self", .ref x)]) hg hl B X Tp ?k6 ?k7 ?k8 ?k9 ?kB ?_ ?c2 ?c3 ?c4 ?c5; (case k6 => k_is); (case k7 => k_is); (case k8 => (dsimp only; omega)); (case k9 => exact kp_binds (X.keeps fun b o e => of_hideAll _ (hg ▸ e)) (fun _ => by rfl)); (case c5 => decide); (case kB => exact locs rfl); (case c2 => exact rfl); (case c3 => exact rfl); (case c4 => exact rfl); k_whole)
  intro L' h' F' N'
  (try dsimp only); (try k_fold)
  obtain ⟨st, tks, tt, pos, t3, ivs, n, ln, tl⟩ := c₀
  dsimp only [ledG, ledR, List.cons_append, List.nil_append] at N'
  repeat ((fail_if_success (with_reducible show wpAny _ _ (PySem.call (Value.ref 716) _ _) _ _ _)); first | (k_unfold; (try dsimp only)) | (with_reducible ((with_reducible show wpAny _ _ (PySem.truthy (Value.ref _)) _ _ _); (k_here; k_dflt (refine' dq_truthy ?N ?M ?Z ?_; (case N => k_asm); (case M => k_mem); (case Z => exact Nat.le_of_ble_eq_true rfl); k_whole); intro tk'; (try dsimp only [List.isEmpty_nil, List.isEmpty_cons, Bool.not_true, Bool.not_false])))) | walk1 | (dsimp only; walk1))
  refine rt_at (c₀ := ⟨st, tks, tt, pos, t3, ivs, n, ln, tl⟩) (rest := [(d1, dqOf 0 []), (d2, dqOf 0 [])]) (by assumption) (by assumption) (by assumption) (by assumption) (by assumption) rfl rfl (apart5 o1 o2 o3 o4 o5 o6) (by dsimp only; omega) (by dsimp only; omega) hlen o1 o2 o3 (ltN (Nat.lt_trans o4 (Nat.lt_trans o5 o6))) hwc hP ?_
  intro v c' h3 tk3 hV F3 N3
  obtain ⟨st', tks', tt', pos', t3', ivs', n', ln', tl'⟩ := c'
  dsimp only [ledR, List.cons_append, List.nil_append] at N3
  obtain ⟨r, hR, h0, hv⟩ := id hV
  rcases hv with ⟨tk, tkt, rfl, hz, hz2, hdue, hst⟩ | ⟨hdue, hv⟩
  · rcases hev with ⟨rfl, rfl⟩ | ⟨rfl, te, rfl⟩
    · (repeat' (first | (k_unfold; (try dsimp only)) | (k_end; wrow_close) | (with_reducible ((with_reducible show wpAny _ _ (PySem.truthy (Value.ref _)) _ _ _); (k_here; k_dflt (refine' dq_truthy ?N ?M ?Z ?_; (case N => k_asm); (case M => k_mem); (case Z => exact Nat.le_of_ble_eq_true rfl); k_whole); intro tk'; (try dsimp only [List.isEmpty_nil, List.isEmpty_cons, Bool.not_true, Bool.not_false])))) | walk1 | (dsimp only; walk1) | (leave1; walk_say "STEP leave1"; try dsimp only) | fail "no step"))
      all_goals
        (try dsimp only)
        (try k_unfold)
        (try dsimp only)
        exact gt_done hret hV (by assumption) (by assumption)
    · repeat ((fail_if_success (with_reducible show WhlIf _ _ _)); first | (k_unfold; (try dsimp only)) | (with_reducible ((with_reducible show wpAny _ _ (PySem.truthy (Value.ref _)) _ _ _); (k_here; k_dflt (refine' dq_truthy ?N ?M ?Z ?_; (case N => k_asm); (case M => k_mem); (case Z => exact Nat.le_of_ble_eq_true rfl); k_whole); intro tk'; (try dsimp only [List.isEmpty_nil, List.isEmpty_cons, Bool.not_true, Bool.not_false])))) | walk1 | (dsimp only; walk1))
      rw [str_ne hz]
      (repeat' (first | (k_unfold; (try dsimp only)) | (k_end; wrow_close) | (with_reducible ((with_reducible show wpAny _ _ (PySem.truthy (Value.ref _)) _ _ _); (k_here; k_dflt (refine' dq_truthy ?N ?M ?Z ?_; (case N => k_asm); (case M => k_mem); (case Z => exact Nat.le_of_ble_eq_true rfl); k_whole); intro tk'; (try dsimp only [List.isEmpty_nil, List.isEmpty_cons, Bool.not_true, Bool.not_false])))) | walk1 | (dsimp only; walk1) | (leave1; walk_say "STEP leave1"; try dsimp only) | fail "no step"))
      all_goals
        (try dsimp only)
        (try k_unfold)
        (try dsimp only)
        exact gt_done hret hV (by assumption) (by assumption)
  · rcases hev with ⟨rfl, rfl⟩ | ⟨rfl, te, rfl⟩
    · rcases hv with ⟨_, rfl⟩ | ⟨hb, _⟩
      · (repeat' (first | (k_unfold; (try dsimp only)) | (k_end; wrow_close) | (with_reducible ((with_reducible show wpAny _ _ (PySem.truthy (Value.ref _)) _ _ _); (k_here; k_dflt (refine' dq_truthy ?N ?M ?Z ?_; (case N => k_asm); (case M => k_mem); (case Z => exact Nat.le_of_ble_eq_true rfl); k_whole); intro tk'; (try dsimp only [List.isEmpty_nil, List.isEmpty_cons, Bool.not_true, Bool.not_false])))) | walk1 | (dsimp only; walk1) | (leave1; walk_say "STEP leave1"; try dsimp only) | fail "no step"))
        all_goals exact gt_done hret hV (by assumption) (by assumption)
      · cases hb
    · rcases hv with ⟨hb, _⟩ | ⟨_, te', rfl⟩
      · cases hb
      · (repeat' (first | (k_unfold; (try dsimp only)) | (k_end; wrow_close) | (with_reducible ((with_reducible show wpAny _ _ (PySem.truthy (Value.ref _)) _ _ _); (k_here; k_dflt (refine' dq_truthy ?N ?M ?Z ?_; (case N => k_asm); (case M => k_mem); (case Z => exact Nat.le_of_ble_eq_true rfl); k_whole); intro tk'; (try dsimp only [List.isEmpty_nil, List.isEmpty_cons, Bool.not_true, Bool.not_false])))) | walk1 | (dsimp only; walk1) | (leave1; walk_say "STEP leave1"; try dsimp only) | fail "no step"))
        all_goals exact gt_done hret (v := .str (Str.ofString "") te) ⟨r, hR, h0, .inr ⟨hdue, .inr ⟨rfl, te, rfl⟩⟩⟩ (by assumption) (by assumption)
end Mine
end
section
open PySem PySem.W PySem.W.X PyProof.Rows PySem.Calls
set_option maxRecDepth 100000
set_option maxHeartbeats 8000000
namespace Mine
theorem gt_at {w : World} {mean : ExcName → Option Value} {mg mb : Str → Option Value} {dp un : Nat} {gd : Option (List Code)} {outer : List PySem.Env} {env : PySem.Env} {A₀ : Around} {base h₀ : Heap} {L : Addr} {m : Str → Option Value} {s : Shared} {Q E : Value → Shared → Prop} {T : LexT} {x dx y dy d1 d2 d3 : Addr} {b : Bool} {ev : Value} {wc buf : Str} {k1 k2 k3 t1 t2 : Tok} {c₀ : RtSt} {due : List Str}
    (B : Below A₀ base outer h₀) (F : Fr h₀ L s.heap m) (N : News h₀ L s.heap (ledG w.params T x dx y dy d1 d2 d3 b ev wc buf k1 k2 k3 t1 t2 c₀)) (X : (K2 w.params).In h₀) (Tp : Top q1 loose1 mean mg mb h₀) (hf : env.frame = some L) (hke : env.scope.kind = .function)
    (hd : dp + 70 < recursionLimit) (hu : un + 900 < cLine) (hlen : buf.length ≤ 100)
    (o1 : dx < x) (o2 : x < dy) (o3 : dy < y) (o4 : y < d1) (o5 : d1 < d2) (o6 : d2 < d3) (hwc : ∀ c, kd c = sFigure → inS wc ⟨#[c]⟩ = false) (hP : RtP buf due c₀) (hev : evIs b ev)
    (hret : ∀ v c' h' tk', RtV b due buf v c' → Fr h₀ L h' m → News h₀ L h' (ledG w.params T x dx y dy d1 d2 d3 b ev wc buf k1 k2 k3 t1 t2 c') → Q v { s with heap := h', toks := tk' }) :
    wpAny (model pw w) (actx dp un gd (env :: outer)) (call (.ref 709) [.ref x]) Q E s := by
  obtain ⟨B', X', T', hl, back⟩ := siteM (rest := []) (led := ledG w.params T x dx y dy d1 d2 d3 b ev wc buf k1 k2 k3 t1 t2 c₀) (A := actx dp un gd (env :: outer)) B F (by rw [List.append_nil]; exact N) X Tp rfl hf hke (fun p hp => nomatch hp)
  refine gt_spec rfl hl B' X' T' hd hu hlen o1 o2 o3 o4 o5 o6 hwc hP hev fun v c' h' tk' hV hk hl' => ?_
  obtain ⟨F', N'⟩ := back h' _ hk hl'
  rw [List.append_nil] at N'
  exact hret v c' h' tk' hV F' N'
noncomputable def NxRet (b : Bool) (due : List Str) (buf : Str) (g : Heap) (s : Shared) (P : Params) (T : LexT) (x dx y dy d1 d2 d3 : Addr) (ev : Value) (wc : Str) (k1 k2 k3 t1 t2 : Tok) (Q : Value → Shared → Prop) : Prop :=
  ∀ tk tkt r c' h' tk', due = tk :: rOf r → tk.length ≠ 0 → tk.length ≤ buf.length → RestIs buf c' r → c'.tk = [] → (stIs c'.st " " ∨ (c'.st = .none ∧ r = [])) → (∀ b o, g.get? b = some o → h'.get? b = some o) → (∀ p ∈ ledG P T x dx y dy d1 d2 d3 b ev wc buf k1 k2 k3 t1 t2 c', h'.get? p.1 = some p.2 ∧ g.get? p.1 = none) → Q (.str tk tkt) { s with heap := h', toks := tk' }
noncomputable def NxStop (outer : List Env) (b : Bool) (due : List Str) (buf : Str) (g : Heap) (s : Shared) (P : Params) (T : LexT) (x dx y dy d1 d2 d3 : Addr) (ev : Value) (wc : Str) (k1 k2 k3 t1 t2 : Tok) (E : Value → Shared → Prop) : Prop :=
  ∀ e c' h' tk', due = [] → KeepF outer g h' → (∀ p ∈ ledG P T x dx y dy d1 d2 d3 b ev wc buf k1 k2 k3 t1 t2 c', h'.get? p.1 = some p.2 ∧ g.get? p.1 = none) → (∃ ob, h'.get? e = some ob ∧ ob.cls = .type "StopIteration") → E (.ref e) { s with heap := h', toks := tk' }
theorem nx_end {outer : List Env} {b : Bool} {due : List Str} {buf : Str} {g : Heap} {s : Shared} {P : Params} {T : LexT} {x dx y dy d1 d2 d3 : Addr} {ev : Value} {wc : Str} {k1 k2 k3 t1 t2 : Tok} {E : Value → Shared → Prop} {e : Addr} {c' : RtSt} {h' : Heap} {tk' : Nat}
    (hstop : NxStop outer b due buf g s P T x dx y dy d1 d2 d3 ev wc k1 k2 k3 t1 t2 E) (hd : due = []) (hk : KeepF outer g h') (hl : ∀ p ∈ ledG P T x dx y dy d1 d2 d3 b ev wc buf k1 k2 k3 t1 t2 c', h'.get? p.1 = some p.2 ∧ g.get? p.1 = none) (he : ∃ ob, h'.get? e = some ob ∧ ob.cls = .type "StopIteration") : E (.ref e) { s with heap := h', toks := tk' } :=
  hstop e c' h' tk' hd hk hl he
theorem nx_ret {L' : Addr} {m' : Str → Option Value} {b : Bool} {due : List Str} {buf : Str} {g : Heap} {s : Shared} {P : Params} {T : LexT} {x dx y dy d1 d2 d3 : Addr} {ev : Value} {wc tk : Str} {tkt : Tok} {k1 k2 k3 t1 t2 : Tok} {Q : Value → Shared → Prop} {r : List Nat} {c' : RtSt} {h' : Heap} {tk' : Nat}
    (hret : NxRet b due buf g s P T x dx y dy d1 d2 d3 ev wc k1 k2 k3 t1 t2 Q) (h1 : due = tk :: rOf r) (h2 : tk.length ≠ 0) (h3 : tk.length ≤ buf.length) (h4 : RestIs buf c' r) (h5 : c'.tk = []) (h6 : stIs c'.st " " ∨ (c'.st = .none ∧ r = [])) (F : Fr g L' h' m') (N : News g L' h' (ledG P T x dx y dy d1 d2 d3 b ev wc buf k1 k2 k3 t1 t2 c')) : Q (.str tk tkt) { s with heap := h', toks := tk' } :=
  hret tk tkt r c' h' tk' h1 h2 h3 h4 h5 h6 F.keep (led_back N)
theorem nx_spec {w : World} {mean : ExcName → Option Value} {mg mb : Str → Option Value} {dp un : Nat} {gd : Option (List Code)} {outer : List Env} {base g : Heap} {s : Shared} {Q E : Value → Shared → Prop} {T : LexT} {x dx y dy d1 d2 d3 : Addr} {b : Bool} {ev : Value} {wc buf : Str} {k1 k2 k3 t1 t2 : Tok} {c₀ : RtSt} {due : List Str}
    (hg : g = hideAll s.heap [y, dy, x, dx, d3, d1, d2]) (hl : ∀ p ∈ ledG w.params T x dx y dy d1 d2 d3 b ev wc buf k1 k2 k3 t1 t2 c₀, s.heap.get? p.1 = some p.2)
    (B : Below (actx dp un gd outer) base outer g) (X : (K2 w.params).In g) (Tp : Top q1 loose1 mean mg mb g) (hd : dp + 80 < recursionLimit) (hu : un + 1000 < cLine) (hlen : buf.length ≤ 100)
    (o1 : dx < x) (o2 : x < dy) (o3 : dy < y) (o4 : y < d1) (o5 : d1 < d2) (o6 : d2 < d3) (hwc : ∀ c, kd c = sFigure → inS wc ⟨#[c]⟩ = false) (hP : RtP buf due c₀) (hev : evIs b ev)
    (hret : NxRet b due buf g s w.params T x dx y dy d1 d2 d3 ev wc k1 k2 k3 t1 t2 Q) (hstop : NxStop outer b due buf g s w.params T x dx y dy d1 d2 d3 ev wc k1 k2 k3 t1 t2 E) :
    wpAny (model pw w) (actx dp un gd outer) (call (.ref 745) [.ref x]) Q E s := by
  have hfill : PySem.Challenge.rw_ox0114_01 = PySem.Challenge.rw_ox0114_01 ∧ K2 = K2 := by
    k_fill
    exact ⟨rfl, rfl⟩
  clear hfill
  replace o1 := ltN o1
  replace o2 := ltN o2
  replace o3 := ltN o3
  replace o4 := ltN o4
  replace o5 := ltN o5
  replace o6 := ltN o6
  refine wpAny_call ?_
  k_dflt (refine' enterM (led := ledG w.params T x dx y dy d1 d2 d3 b ev wc buf k1 k2 k3 t1 t2 c₀) (binds := [(Str.ofString "self", .ref x)]) hg hl B X Tp ?k6 ?k7 ?k8 ?k9 ?kB ?_ ?c2 ?c3 ?c4 ?c5; (case k6 => k_is); (case k7 => k_is); (case k8 => (dsimp only; omega)); (case k9 => exact kp_binds (X.keeps fun b o e => of_hideAll _ (hg ▸ e)) (fun _ => by rfl)); (case c5 => decide); (case kB => exact locs rfl); (case c2 => exact rfl); (case c3 => exact rfl); (case c4 => exact rfl); k_whole)
  intro L' h' F' N'
  (try dsimp only); (try k_fold)
  obtain ⟨st, tks, tt, pos, t3, ivs, n, ln, tl⟩ := c₀
  dsimp only [ledG, ledR, List.cons_append, List.nil_append] at N'
  repeat ((fail_if_success (with_reducible show wpAny _ _ (PySem.call (Value.ref 709) _ _) _ _ _)); first | (k_unfold; (try dsimp only)) | (with_reducible ((with_reducible show wpAny _ _ (leaving _ (Value.ref _)) _ _ _); (k_here; (refine' leave_raiseF ?k1 ?k0 ?k2 ?k3 ?_; (case k0 => exact Heap.MadeExc.of (by assumption)); (case k1 => assumption); (case k2 => assumption); (case k3 => k_asm); k_whole; intro h' kF' kL' kX'; (try dsimp only at kF' kL' kX' ⊢))))) | walk1 | (dsimp only; walk1))
  refine gt_at (c₀ := ⟨st, tks, tt, pos, t3, ivs, n, ln, tl⟩) (by assumption) (by assumption) (by assumption) (by assumption) (by assumption) rfl rfl (by dsimp only; omega) (by dsimp only; omega) hlen o1 o2 o3 o4 o5 o6 hwc hP hev ?_
  intro v c' h3 tk3 hV F3 N3
  obtain ⟨st', tks', tt', pos', t3', ivs', n', ln', tl'⟩ := c'
  dsimp only [ledG, ledR, List.cons_append, List.nil_append] at N3
  obtain ⟨r, hR, h0, hv⟩ := id hV
  rcases hv with ⟨tk, tkt, rfl, hz, hz2, hdue, hst⟩ | ⟨hdue, hv⟩
  · rcases hev with ⟨rfl, rfl⟩ | ⟨rfl, te, rfl⟩
    · (repeat' (first | (k_unfold; (try dsimp only)) | (k_end; wrow_close) | (with_reducible ((with_reducible show wpAny _ _ (leaving _ (Value.ref _)) _ _ _); (k_here; (refine' leave_raiseF ?k1 ?k0 ?k2 ?k3 ?_; (case k0 => exact Heap.MadeExc.of (by assumption)); (case k1 => assumption); (case k2 => assumption); (case k3 => k_asm); k_whole; intro h' kF' kL' kX'; (try dsimp only at kF' kL' kX' ⊢))))) | walk1 | (dsimp only; walk1) | (leave1; walk_say "STEP leave1"; try dsimp only) | fail "no step"))
      all_goals
        (try dsimp only)
        (try k_unfold)
        (try dsimp only)
        exact nx_ret hret hdue hz hz2 hR h0 hst (by assumption) (by assumption)
    · (repeat' (first | (k_unfold; (try dsimp only)) | (k_end; wrow_close) | (with_reducible ((with_reducible show wpAny _ _ (leaving _ (Value.ref _)) _ _ _); (k_here; (refine' leave_raiseF ?k1 ?k0 ?k2 ?k3 ?_; (case k0 => exact Heap.MadeExc.of (by assumption)); (case k1 => assumption); (case k2 => assumption); (case k3 => k_asm); k_whole; intro h' kF' kL' kX'; (try dsimp only at kF' kL' kX' ⊢))))) | walk1 | (dsimp only; walk1) | (leave1; walk_say "STEP leave1"; try dsimp only) | fail "no step"))
      all_goals
        (try dsimp only)
        (try k_unfold)
        (try dsimp only)
      all_goals first
        | (exfalso; rename (_ == _) = true => hx; rw [str_ne hz] at hx; cases hx)
        | exact nx_ret hret hdue hz hz2 hR h0 hst (by assumption) (by assumption)
  · rcases hev with ⟨rfl, rfl⟩ | ⟨rfl, te, rfl⟩
    · rcases hv with ⟨_, rfl⟩ | ⟨hb, _⟩
      · (repeat' (first | (k_unfold; (try dsimp only)) | (k_end; wrow_close) | (with_reducible ((with_reducible show wpAny _ _ (leaving _ (Value.ref _)) _ _ _); (k_here; (refine' leave_raiseF ?k1 ?k0 ?k2 ?k3 ?_; (case k0 => exact Heap.MadeExc.of (by assumption)); (case k1 => assumption); (case k2 => assumption); (case k3 => k_asm); k_whole; intro h' kF' kL' kX'; (try dsimp only at kF' kL' kX' ⊢))))) | walk1 | (dsimp only; walk1) | (leave1; walk_say "STEP leave1"; try dsimp only) | fail "no step"))
        all_goals exact nx_end (c' := ⟨st', tks', tt', pos', t3', ivs', n', ln', tl'⟩) hstop hdue (by assumption) (by assumption) (by assumption)
      · cases hb
    · rcases hv with ⟨hb, _⟩ | ⟨_, te', rfl⟩
      · cases hb
      · (repeat' (first | (k_unfold; (try dsimp only)) | (k_end; wrow_close) | (with_reducible ((with_reducible show wpAny _ _ (leaving _ (Value.ref _)) _ _ _); (k_here; (refine' leave_raiseF ?k1 ?k0 ?k2 ?k3 ?_; (case k0 => exact Heap.MadeExc.of (by assumption)); (case k1 => assumption); (case k2 => assumption); (case k3 => k_asm); k_whole; intro h' kF' kL' kX'; (try dsimp only at kF' kL' kX' ⊢))))) | walk1 | (dsimp only; walk1) | (leave1; walk_say "STEP leave1"; try dsimp only) | fail "no step"))
        all_goals exact nx_end (c' := ⟨st', tks', tt', pos', t3', ivs', n', ln', tl'⟩) hstop hdue (by assumption) (by assumption) (by assumption)
end Mine
end
section
open PySem PySem.W PySem.W.X PyProof.Rows PySem.Calls
set_option maxRecDepth 100000
set_option maxHeartbeats 8000000
namespace Mine
theorem sub_Stop : isSubtype (.type "StopIteration") (.type "StopIteration") = pure true := by rw [isSubtype_type]; kernel_rfl
noncomputable abbrev ledA (x dx y dy d1 d2 d3 : Addr) : List Addr := [y, dy, x, dx, d3, d1, d2]
theorem hide_not {l : List Addr} {h : Heap} {z : Addr} {o : Obj} (e : (hideAll h l).get? z = some o) : z ∉ l := fun q => by rw [hideAll_none l q] at e; cases e
theorem hide_less {a : Addr} {l : List Addr} {h : Heap} {z : Addr} {o : Obj} (e : (hideAll h (a :: l)).get? z = some o) : (hideAll h l).get? z = some o := hideAll_get l (of_hideAll _ e) fun q => hide_not e (.tail _ q)
theorem entry_el : entryFor table "list.extend.loop" = some Builtin.«list.extend.loop» := F.entry_extend_loop
theorem plain_el : plainId "list.extend.loop" = true := F.plain_extend_loop
theorem strs_snoc' {vs : List Value} {rs : List Str} {r : Str} {t : Tok} (h : StrsAre vs rs) : StrsAre (vs ++ [.str r t]) (rs ++ [r]) := KStt.strs_snoc h
section
variable {w : World} {mean : ExcName → Option Value} {mg mb : Str → Option Value} {dp un : Nat} {gd : Option (List Code)} {outer : List PySem.Env} {env : PySem.Env} {A₀ : Around} {base h₀ : Heap} {L : Addr} {m : Str → Option Value} {T : LexT} {x dx y dy d1 d2 d3 S : Addr} {b : Bool} {ev : Value} {wc buf : Str} {k1 k2 k3 t1 t2 : Tok} {rest : List (Addr × Obj)} {R : Result → Shared → Prop}
theorem nx_at {Q E : Value → Shared → Prop} {s : Shared} {c₀ : RtSt} {due : List Str}
    (B : Below A₀ base outer h₀) (F : Fr h₀ L s.heap m) (N : News h₀ L s.heap (ledG w.params T x dx y dy d1 d2 d3 b ev wc buf k1 k2 k3 t1 t2 c₀ ++ rest)) (X : (K2 w.params).In h₀) (Tp : Top q1 loose1 mean mg mb h₀) (hf : env.frame = some L) (hke : env.scope.kind = .function)
    (hap : ∀ p ∈ rest, p.1 ∉ ledA x dx y dy d1 d2 d3) (hd : dp + 80 < recursionLimit) (hu : un + 1000 < cLine) (hlen : buf.length ≤ 100)
    (o1 : dx < x) (o2 : x < dy) (o3 : dy < y) (o4 : y < d1) (o5 : d1 < d2) (o6 : d2 < d3) (hwc : ∀ c, kd c = sFigure → inS wc ⟨#[c]⟩ = false) (hP : RtP buf due c₀) (hev : evIs b ev)
    (hret : ∀ tk tkt r c' h' tk', due = tk :: rOf r → tk.length ≠ 0 → RtP buf (rOf r) c' → Fr h₀ L h' m → News h₀ L h' (ledG w.params T x dx y dy d1 d2 d3 b ev wc buf k1 k2 k3 t1 t2 c' ++ rest) → (∀ z o, (hideAll s.heap (ledA x dx y dy d1 d2 d3)).get? z = some o → h'.get? z = some o) → Q (.str tk tkt) { s with heap := h', toks := tk' })
    (hstop : ∀ e h' tk', due = [] → KeepF (env :: outer) (hideAll s.heap (ledA x dx y dy d1 d2 d3)) h' → (∃ ob, h'.get? e = some ob ∧ ob.cls = .type "StopIteration") → E (.ref e) { s with heap := h', toks := tk' }) :
    wpAny (model pw w) (actx dp un gd (env :: outer)) (call (.ref 745) [.ref x]) Q E s := by
  obtain ⟨B', X', T', hl, back⟩ := siteM (led := ledG w.params T x dx y dy d1 d2 d3 b ev wc buf k1 k2 k3 t1 t2 c₀) (A := actx dp un gd (env :: outer)) B F N X Tp rfl hf hke hap
  refine nx_spec rfl hl B' X' T' hd hu hlen o1 o2 o3 o4 o5 o6 hwc hP hev ?_ ?_
  · intro tk tkt r c' h' tk' h1 h2 h3 h4 h5 h6 hk hl'
    obtain ⟨F', N'⟩ := back h' _ hk hl'
    refine hret tk tkt r c' h' tk' h1 h2 ⟨r, h4, by rw [h5]; rfl, ?_⟩ F' N' hk
    rcases h6 with h6 | ⟨h6, hr⟩
    · exact .inl ⟨h6, h5⟩
    · exact .inr (.inr (.inr ⟨h6, h5, hr⟩))
  · intro e c' h' tk' hd hk _ he
    exact hstop e h' tk' hd hk he
theorem lx_loop (B : Below A₀ base outer h₀) (X : (K2 w.params).In h₀) (Tp : Top q1 loose1 mean mg mb h₀) (hf : env.frame = some L) (hke : env.scope.kind = .function)
    (hap : ∀ p ∈ rest, p.1 ∉ ledA x dx y dy d1 d2 d3) (hS : S ∉ ledA x dx y dy d1 d2 d3) (hSr : ∀ p ∈ rest, p.1 ≠ S) (hd : dp + 80 < recursionLimit) (hu : un + 1001 < cLine) (hlen : buf.length ≤ 100)
    (o1 : dx < x) (o2 : x < dy) (o3 : dy < y) (o4 : y < d1) (o5 : d1 < d2) (o6 : d2 < d3) (hwc : ∀ c, kd c = sFigure → inS wc ⟨#[c]⟩ = false) (hev : evIs b ev) :
    ∀ (k : Nat) (due : List Str) (c : RtSt) (s : Shared) (acc : List Value) (n : Nat) (pre : List Str), due.length = k → RtP buf due c → Fr h₀ L s.heap m → News h₀ L s.heap (ledG w.params T x dx y dy d1 d2 d3 b ev wc buf k1 k2 k3 t1 t2 c ++ (S, listOf acc.toArray n) :: rest) → StrsAre acc pre → pre.length + due.length ≤ 200 →
      (∀ acc' n' h' tk', StrsAre acc' (pre ++ due) → KeepF (env :: outer) (hideAll s.heap (S :: ledA x dx y dy d1 d2 d3)) h' → h'.get? S = some (listOf acc'.toArray n') → R (.ok (.ret .none)) { s with heap := h', toks := tk' }) →
      codeAny (model pw w) (actx dp un gd (env :: outer)) (.builtin "list.extend.loop" ⟨[.ref S, .ref x, .none], []⟩) R s := by
  intro k
  induction k using Nat.strongRecOn with
  | ind k ih =>
    intro due c s acc n pre hk hP Fm N hacc hsz hR
    have hSn := N (S, listOf acc.toArray n) (List.mem_append_right _ (.head _))
    have hx1 : (x, instObj 748 dx) ∈ (ledG w.params T x dx y dy d1 d2 d3 b ev wc buf k1 k2 k3 t1 t2 c ++ (S, listOf acc.toArray n) :: rest) := .tail _ (.tail _ (.head _))
    have I := InstAt.of_news N hx1 (List.Mem.tail _ (List.Mem.tail _ (List.Mem.tail _ (List.Mem.head _))))
    refine codeAny_builtin entry_el ?_
    rw [Around.under_plainId plain_el _]
    show wpAny _ _ (pyNext (.ref x) >>= _) _ _ s
    refine wpAny_bind (owit_next (K := K2 w.params) (f := 745) Fm X I (by kernel_rfl) (by kernel_rfl) ?_)
    have hap' : ∀ p ∈ ((S, listOf acc.toArray n) :: rest : List (Addr × Obj)), p.1 ∉ ledA x dx y dy d1 d2 d3 := by
      intro p hp
      rcases List.mem_cons.mp hp with rfl | hp
      · exact hS
      · exact hap p hp
    refine nx_at (dp := dp) (un := un + 1) (gd := gd) (outer := outer) (env := env) (rest := (S, listOf acc.toArray n) :: rest) B Fm N X Tp hf hke hap' hd (by omega) hlen o1 o2 o3 o4 o5 o6 hwc hP hev ?_ ?_
    · intro tk tkt r c' h' tk' hdue hz hP' F' N' hkeep
      subst hdue
      show wpAny _ _ (updateSeq S (·.push (Value.str tk tkt)) >>= _) _ _ _
      have hS2 := N' (S, listOf acc.toArray n) (List.mem_append_right _ (.head _))
      have hal : acc.length ≤ 200 := by rw [hacc.length]; omega
      have hz1 : acc.toArray.size ≤ sizeLine := by rw [sizeLine_eq]; simp; omega
      refine wpAny_bind (wpAny_updateSeq hS2.1 rfl ?_ hz1 (by rw [sizeLine_eq]; simp; omega))
      have hpre : ∀ p ∈ ledG w.params T x dx y dy d1 d2 d3 b ev wc buf k1 k2 k3 t1 t2 c', p.1 ≠ S := by
        intro p hp e
        refine hS (e ▸ ?_)
        simp only [ledG, ledR, List.cons_append, List.nil_append, List.mem_cons, List.not_mem_nil, or_false] at hp
        rcases hp with rfl | rfl | rfl | rfl | rfl | rfl | rfl <;> simp
      obtain ⟨F2, N2⟩ := news_upd (f := Obj.mapSeq (·.push (Value.str tk tkt))) F' N' hpre hSr (o' := listOf (acc ++ [Value.str tk tkt]).toArray (n + 1)) (by
        show (⟨_, _, .seq (acc.toArray.push (Value.str tk tkt)) (if (acc.toArray.push (Value.str tk tkt)).size == acc.toArray.size then n else n + 1), _⟩ : Obj) = _
        rw [if_neg (by simp)]
        simp) rfl
      refine wpAny_pure ⟨plainId_quiet plain_el _, ih _ (by rw [← hk]; exact Nat.lt_succ_self _) (rOf r) c' _ (acc ++ [Value.str tk tkt]) (n + 1) (pre ++ [tk]) rfl hP' F2 N2 (strs_snoc' hacc) (by simp at hsz ⊢; omega) ?_⟩
      intro acc' n' h3 tk3 ha hkf hS3
      refine hR acc' n' h3 tk3 (by rw [List.append_assoc] at ha; exact ha) (KeepF.trans (KeepF.of_keeps fun z o e => ?_) hkf) hS3
      have hzn := hide_not e
      refine hideAll_get _ ((Heap.get?_update_ne _ _ _ _ fun q => ?_).trans (hkeep z o (hide_less e))) hzn
      exact hzn (by rw [← q]; exact .head _)
    · intro e h' tk' hdue hkf he
      subst hdue
      obtain ⟨ob, hob, hc⟩ := he
      unfold OwitStop
      refine wpAny_isInstance (T := "StopIteration") ⟨ob, hob, hc⟩ sub_Stop ?_
      rw [if_pos rfl]
      refine wpAny_pure ?_
      have hSL : S ∉ (env :: outer).filterMap (·.frame) := fun hm => by
        obtain ⟨z, hz, hzf⟩ := List.mem_filterMap.mp hm
        rcases List.mem_cons.mp hz with rfl | hz
        · rw [hf] at hzf
          exact hSn.2.1 (Option.some.inj hzf).symm
        · obtain ⟨o, ho, _⟩ := (B.frames.mem (List.mem_filterMap.mpr ⟨z, hz, hzf⟩)).2
          rw [hSn.2.2] at ho
          cases ho
      refine hR acc n h' tk' (by rw [List.append_nil]; exact hacc) ⟨fun z o e nz => hkf.1 z o ?_ nz, ?_⟩ (hkf.1 S _ (hideAll_get _ hSn.1 hS) hSL)
      · exact hide_less e
      · intro z o e hd
        exact hkf.2 z o (hide_less e) hd
end
end Mine
end
section
open PySem PySem.W PySem.W.X PyProof.Rows PySem.Calls PySem.NumText
set_option maxRecDepth 100000
set_option maxHeartbeats 4000000
namespace Mine
theorem Maps.but {h h' : Heap} {z2 T2 z1 T1 I l S : Addr} {vs : List Value} {i : Nat} (M : Maps h z2 T2 z1 T1 I l vs i) (hS : ∀ b ∈ [z2, T2, z1, T1, I, l], b ≠ S) (hk : ∀ b o, b ≠ S → h.get? b = some o → h'.get? b = some o) : Maps h' z2 T2 z1 T1 I l vs i := by
  simp only [List.mem_cons, List.not_mem_nil, or_false, forall_eq_or_imp, forall_eq] at hS
  obtain ⟨a1, a2, a3, a4, a5, a6⟩ := hS
  exact ⟨hk _ _ a1 M.z2, hk _ _ a2 M.T2, hk _ _ a3 M.z1, hk _ _ a4 M.T1, M.I.at fun o e => hk _ o a5 e, M.l.at fun o e => hk _ o a6 e⟩
section
variable {prog : Program} {w : World} {A : Around} {E : Value → Shared → Prop}
theorem maps_bad {s : Shared} {z2 T2 z1 T1 I l : Addr} {vs : List Value} {i : Nat} {r : Str} {t : Tok} {Q : Option Value → Shared → Prop} (hh : A.handled = none) (M : Maps s.heap z2 T2 z1 T1 I l vs i) (hx : vs[i]? = some (.str r t)) (hb : ∀ c ∈ r.cps.toList, badC c) (hl : r.length ≤ 640)
    (hE : ∀ h1 h' tk e, Heap.SameBut I s.heap h1 → Heap.NewExc h1 h' e "ValueError" → E (.ref e) { s with heap := h', toks := tk }) : wpAny (model prog w) A (pyNext (.ref z2)) Q E s := by
  have n := M.ne
  refine pyNext_map M.z2 M.T2 (nextOf_map_bad hh M.z1 M.T1 M.I M.l n.2.2.1 (by simpa using hx) hb hl fun h1 h' tk e hS k2 => ?_)
  obtain ⟨ob, tp, he, hc, _⟩ := k2.there
  exact ⟨"ValueError", false, ⟨ob, he, hc⟩, sub_ValueError_Stop, hE h1 h' tk e hS k2⟩
theorem maps_loop {s₀ : Shared} {h₁ : Heap} {z2 T2 z1 T1 I l S : Addr} {vs : List Value} {rs : List Str} {R : Result → Shared → Prop} (hh : A.handled = none) (hs : StrsAre vs rs) (htk : ∀ r ∈ rs, TokOf r) (hch : ∀ r ∈ rs, ∀ c ∈ r.cps.toList, c < 128 ∨ c = 233) (hrl : rs.length ≤ 200) (hml : ∀ r ∈ rs, r.length ≤ 100)
    (hS : ∀ b ∈ [z2, T2, z1, T1, I, l], b ≠ S)
    (hok : (∀ r ∈ rs, IsFig r) → ∀ ys k h' tk, StrsAre ys (rs.map numS) → (∀ b o, b ≠ I → b ≠ S → h₁.get? b = some o → h'.get? b = some o) → h'.get? S = some (listOf ys.toArray k) → R (.ok (.ret .none)) { s₀ with heap := h', toks := tk })
    (hbad : (¬ ∀ r ∈ rs, IsFig r) → ∀ hm h' tk e, (∀ b o, b ≠ I → b ≠ S → h₁.get? b = some o → hm.get? b = some o) → Heap.NewExc hm h' e "ValueError" → R (.error (.ref e)) { s₀ with heap := h', toks := tk }) :
    ∀ (post pre : List Str) (acc : List Value) (k : Nat) (h : Heap) (tk : Nat), rs = pre ++ post → (∀ r ∈ pre, IsFig r) → StrsAre acc (pre.map numS) → Maps h z2 T2 z1 T1 I l vs pre.length → h.get? S = some (listOf acc.toArray k) →
      (∀ b o, b ≠ I → b ≠ S → h₁.get? b = some o → h.get? b = some o) → codeAny (model prog w) A (.builtin "list.extend.loop" ⟨[.ref S, .ref z2, .none], []⟩) R { s₀ with heap := h, toks := tk } := by
  intro post
  induction post with
  | nil =>
    intro pre acc k h tk hrs hpre hacc M hSo hk
    rw [List.append_nil] at hrs
    subst hrs
    refine codeAny_builtin entry_el ?_
    rw [Around.under_plainId plain_el _]
    show wpAny _ _ (pyNext (.ref z2) >>= _) _ _ _
    refine wpAny_bind (maps_end hh M (by rw [List.getElem?_eq_none_iff, hs.length]; exact Nat.le_refl _) fun h' hx => wpAny_pure ?_)
    exact hok hpre acc k h' tk hacc (fun b o n1 n2 e => hx b o n1 (hk b o n1 n2 e)) (hx _ _ (fun q => hS I (by simp) q.symm) hSo)
  | cons r post ih =>
    intro pre acc k h tk hrs hpre hacc M hSo hk
    have hrm : r ∈ rs := by rw [hrs]; exact List.mem_append_right _ (.head _)
    obtain ⟨t, ht⟩ := hs.at (j := pre.length) (y := r) (by rw [hrs]; simp)
    refine codeAny_builtin entry_el ?_
    rw [Around.under_plainId plain_el _]
    show wpAny _ _ (pyNext (.ref z2) >>= _) _ _ _
    by_cases hr : IsFig r
    · refine wpAny_bind (maps_item M ht hr (hml r hrm) fun h' tk' t' hI hx => ?_)
      show wpAny _ _ (updateSeq S (·.push (Value.str (numS r) t')) >>= _) _ _ _
      have hSI : S ≠ I := fun q => hS I (by simp) q.symm
      have hS' := hx.extBut _ _ hSI hSo
      have hal : acc.length ≤ 200 := by
        rw [hacc.length, List.length_map]
        rw [hrs, List.length_append] at hrl
        omega
      refine wpAny_bind (wpAny_updateSeq hS' rfl ?_ (by rw [sizeLine_eq]; simp; omega) (by rw [sizeLine_eq]; simp; omega))
      have M1 : Maps h' z2 T2 z1 T1 I l vs (pre.length + 1) := M.keeps hI fun b o n e => hx.extBut _ _ n e
      have hu : ∀ b o, b ≠ S → h'.get? b = some o → (h'.update S (Obj.mapSeq (·.push (Value.str (numS r) t')))).get? b = some o := fun b o n e => (Heap.get?_update_ne _ _ _ _ n).trans e
      refine wpAny_pure ⟨plainId_quiet plain_el _, ih (pre ++ [r]) (acc ++ [.str (numS r) t']) (k + 1) _ _ (by rw [hrs]; simp) ?_ ?_ ?_ ?_ ?_⟩
      · intro x hx
        rcases List.mem_append.mp hx with hx | hx
        · exact hpre x hx
        · rw [List.mem_singleton.mp hx]; exact hr
      · rw [List.map_append]
        exact strs_snoc' hacc
      · rw [List.length_append]
        exact M1.but hS hu
      · refine (Heap.get?_update_self _ hS' rfl).trans ?_
        show some (⟨_, _, .seq (acc.toArray.push (Value.str (numS r) t')) (if (acc.toArray.push (Value.str (numS r) t')).size == acc.toArray.size then k else k + 1), _⟩ : Obj) = _
        rw [if_neg (by simp)]
        simp
      · exact fun b o n1 n2 e => hu b o n2 (hx.extBut _ _ n1 (hk b o n1 n2 e))
    · have hro : IsTok sOther r.cps.toList := (htk r hrm).resolve_left hr
      refine wpAny_bind (maps_bad hh M ht (oth_bad hro (hch r hrm)) (Nat.le_trans (hml r hrm) (by decide)) fun h2 h' tk' e k1 k3 => ?_)
      exact hbad (fun q => hr (q r hrm)) h2 h' tk' e (fun b o n1 n2 e => k1.extBut _ _ n1 (hk b o n1 n2 e)) k3
theorem look_len : typeLookup (.type "map") (Str.ofString "__len__") = pure none := by rw [typeLookup_type, builtinLookup_eq_fast]; kernel_rfl
/-- list(map(str, map(int, l))) -/
theorem list_maps {s : Shared} {z2 T2 z1 T1 I l : Addr} {vs : List Value} {rs : List Str} {Q : Value → Shared → Prop} (hh : A.handled = none) (M : Maps s.heap z2 T2 z1 T1 I l vs 0) (hs : StrsAre vs rs) (htk : ∀ r ∈ rs, TokOf r) (hch : ∀ r ∈ rs, ∀ c ∈ r.cps.toList, c < 128 ∨ c = 233) (hrl : rs.length ≤ 200) (hml : ∀ r ∈ rs, r.length ≤ 100)
    (hok : (∀ r ∈ rs, IsFig r) → ∀ S ys k h' tk, StrsAre ys (rs.map numS) → (∀ b o, b ≠ I → s.heap.get? b = some o → h'.get? b = some o) → h'.get? S = some (listOf ys.toArray k) → s.heap.get? S = none → (∀ b o, s.heap.get? b = some o → b < S) → Q (.ref S) { s with heap := h', toks := tk })
    (hbad : (¬ ∀ r ∈ rs, IsFig r) → ∀ hm h' tk e, (∀ b o, b ≠ I → s.heap.get? b = some o → hm.get? b = some o) → Heap.NewExc hm h' e "ValueError" → E (.ref e) { s with heap := h', toks := tk }) :
    wpAny (model prog w) A (call (.type "list") [.ref z2]) Q E s := by
  refine callType_codes (Q₁ := fun obj s₁ => obj = .ref s.heap.objs.size ∧ s₁ = { s with heap := s.heap.push { cls := .type "list", data := .seq #[] } }) F.called_list (F.typeCall_list_1 _) F.entry_list_init
    (code_list_new _ ⟨rfl, rfl⟩) fun obj s₁ h₁ => ?_
  obtain ⟨rfl, rfl⟩ := h₁
  obtain ⟨S, hSz⟩ : ∃ S, S = s.heap.objs.size := ⟨_, rfl⟩
  rw [← hSz]
  have lt : ∀ b o, s.heap.get? b = some o → b < S := fun b o e => by rw [hSz]; exact Heap.lt_size e
  have ne : ∀ b o, s.heap.get? b = some o → b ≠ S := fun b o e => Nat.ne_of_lt (lt b o e)
  have hSn : s.heap.get? S = none := by
    cases e : s.heap.get? S with
    | none => rfl
    | some o => exact absurd rfl (ne S o e)
  have hS : (s.heap.push { cls := .type "list", data := .seq #[] }).get? S = some { cls := .type "list", data := .seq #[] } := by rw [hSz]; exact Heap.get?_push_size _ rfl
  refine ⟨⟨_, hS, rfl⟩, F.args_list_init_2 _ _, ?_⟩
  show wpAny _ _ (do let old ← Builtin.List.listItems (.ref S); Builtin.List.listUpdate (.ref S) (fun _ => #[]); letGo old.toList.reverse; Builtin.List.listExtendWith (.ref S) (.ref z2) .none) _ _ _
  refine wpAny_bind ?_
  unfold Builtin.List.listItems
  refine wpAny_bind (wpAny_seqItems hS rfl (wpAny_pure ?_))
  show wpAny _ _ (updateSeq S (fun _ => #[]) >>= fun _ => letGo (#[] : Array Value).toList.reverse >>= fun _ => Builtin.List.listExtendWith (.ref S) (.ref z2) .none) _ _ _
  refine wpAny_bind (wpAny_updateSeq hS rfl ?_)
  refine wpAny_bind (wpAny_letGo ?_)
  have hA : ((s.heap.push { cls := .type "list", data := .seq #[] }).update S (Obj.mapSeq (fun _ => (#[] : Array Value)))).get? S = some (listOf #[] 0) := Heap.get?_update_self _ hS rfl
  have kA : ∀ b o, s.heap.get? b = some o → ((s.heap.push { cls := .type "list", data := .seq #[] }).update S (Obj.mapSeq (fun _ => (#[] : Array Value)))).get? b = some o := fun b o e => (Heap.get?_update_ne _ _ _ _ (ne b o e)).trans (Heap.get?_push_of_some _ e)
  generalize (s.heap.push { cls := .type "list", data := .seq #[] }).update S (Obj.mapSeq (fun _ => (#[] : Array Value))) = hp at hA kA ⊢
  obtain ⟨oI, hoI, hIc, hId⟩ := id M.I
  obtain ⟨ol, hol, hlc⟩ := id M.l
  have six : ∀ b ∈ [z2, T2, z1, T1, I, l], b ≠ S := by
    simp only [List.mem_cons, List.not_mem_nil, or_false, forall_eq_or_imp, forall_eq]
    exact ⟨ne _ _ M.z2, ne _ _ M.T2, ne _ _ M.z1, ne _ _ M.T1, ne _ _ hoI, ne _ _ hol⟩
  have MA : Maps hp z2 T2 z1 T1 I l vs 0 := M.but six fun b o _ e => kA b o e
  have hT : ∀ (h : Heap) tk, h.get? z2 = some (mapObj T2 (.type "str")) → Shared.TypeIs { s with heap := h, toks := tk } (.ref z2) "map" := fun h tk e => ⟨_, e, rfl⟩
  unfold Builtin.List.listExtendWith
  refine wpAny_bind (wpAny_typeOf (hT hp s.toks MA.z2) ?_)
  have h1 : Builtin.List.listSameRef (.ref S) (.ref z2) = false := by
    simp only [Builtin.List.listSameRef, beq_eq_false_iff_ne]
    exact fun q => six z2 (.head _) q.symm
  simp only [h1, show (Value.type "map" == Value.type "list") = false by decide, show (Value.type "map" == Value.type "tuple") = false by decide, Bool.or_false, Bool.false_eq_true, if_false]
  refine wpAny_bind (pyIter_map MA.z2 ?_)
  refine wpAny_bind (wpAny_holding ?_)
  unfold Builtin.List.listLengthHint
  refine wpAny_bind (wpAny_specialOf (hT hp s.toks MA.z2) look_len ?_)
  show wpAny _ _ (specialOf (Value.ref z2) (Str.ofString "__length_hint__") >>= _) _ _ _
  refine wpAny_bind (wpAny_specialOf (hT hp s.toks MA.z2) MP.length_hint ?_)
  refine wpAny_pure ?_
  rw [if_pos (by rfl)]
  refine wpAny_bind (wpAny_rule ?_)
  refine wpAny_bind ?_
  show wpAny _ _ (updateSeq S (·.push .none) >>= fun _ => updateSeq S (·.pop)) _ _ _
  refine wpAny_bind (wpAny_updateSeq hA rfl ?_)
  have hB : (hp.update S (Obj.mapSeq (·.push Value.none))).get? S = some (listOf #[Value.none] 1) := Heap.get?_update_self _ hA rfl
  refine wpAny_updateSeq hB rfl ?_
  have hC : ((hp.update S (Obj.mapSeq (·.push Value.none))).update S (Obj.mapSeq (·.pop))).get? S = some (listOf ([] : List Value).toArray 2) := Heap.get?_update_self _ hB rfl
  have kC : ∀ b o, b ≠ S → hp.get? b = some o → ((hp.update S (Obj.mapSeq (·.push Value.none))).update S (Obj.mapSeq (·.pop))).get? b = some o := fun b o n e => (Heap.get?_update_ne _ _ _ _ n).trans ((Heap.get?_update_ne _ _ _ _ n).trans e)
  generalize (hp.update S (Obj.mapSeq (·.push Value.none))).update S (Obj.mapSeq (·.pop)) = hq at hC kC ⊢
  have MC : Maps hq z2 T2 z1 T1 I l vs 0 := MA.but six kC
  refine wpAny_pure ⟨plainId_quiet plain_el _, maps_loop (s₀ := s) (h₁ := s.heap) (S := S) (by exact hh) hs htk hch hrl hml six ?_ ?_ rs [] [] 2 hq s.toks rfl (fun r hr => nomatch hr) .nil MC hC (fun b o _ n e => kC b o n (kA b o e))⟩
  · intro hf ys k h' tk hys hk hSo
    exact ⟨rfl, hok hf S ys k h' tk hys (fun b o n e => hk b o n (ne b o e) e) hSo hSn lt⟩
  · intro hf hm h' tk e hk hx
    exact hbad hf hm h' tk e (fun b o n1 e => hk b o n1 (ne b o e) e) hx
end
end Mine
end
section
open PySem PySem.W PySem.W.X PyProof.Rows PySem.Calls PyProof.V PySem.Spec
set_option maxRecDepth 100000
set_option maxHeartbeats 4000000
namespace Mine
section
variable {prog : Program} {w : World} {A₀ : Around} {E : Value → Shared → Prop} {s' : Shared} {h₀ h : Heap} {outer : List PySem.Env} {L a e : Addr} {m : Str → Option Value} {name : Str} {scope : Scope} {cd : Value}
  {b₀ : Stmt} {suite : List Stmt} {pos np : Pos} {rest : List ExceptHandler} {Q : Flow → Shared → Prop}
  {p : Program} {loose : List Str} {mean : ExcName → Option Value} {mg mb : Str → Option Value} {x : Str} {X T' : String}
/-- an exception that the interpreter raises in a def's own try is caught: all stays but the frames, which stay up to their slots -/
theorem caught_first (hst : A₀.frames = some outer) (hfun : h.FunFrames (hideAll h ((envOf name scope L a cd :: outer).filterMap (·.frame))) (envOf name scope L a cd :: outer)) (hx : Heap.NewExc h s'.heap e X) (F : Fr h₀ L h m)
    (hno : ∀ b ∈ outer.filterMap (·.frame), h₀.get? b = none)
    (T : TopRead p loose mg mb h₀) (hv : bootBuiltins x = some (.type T'))
    (hexc : isSubtype (.type T') (.type "BaseException") = pure true) (hnt : isSubtype (.type ((Manifest.find? T').elim "type" fun y => y.metatype)) (.type "tuple") = pure false) (hsub : isSubtype (.type X) (.type T') = pure true)
    (k : ∀ h', Fr h₀ L h' m → KeepF (envOf name scope L a cd :: outer) h h' →
      wpAny (model prog w) ((A₀.deeper (envOf name scope L a cd)).mark (some (.ref e))) (execs (b₀ :: suite) (envOf name scope L a cd)) Q E { s' with heap := h' })
    (h1 : x ∉ startupNames := by decide +kernel) (h2 : x ∉ loose := by decide +kernel) (h3 : x ∉ (recsOf p).map (·.name) := by decide +kernel) (h4 : x ∉ (litsOf p).map (·.1) := by decide +kernel) (h4c : x ∉ (clssOf p loose).map (·.name) := by decide +kernel) (hn : x ≠ "__name__" := by decide +kernel)
    (hk : scope.kind = .function := by rfl) (hkx : (envOf name scope L a cd).kindOf x = some .globalImplicit := by rfl) (hd : (x == ("__debug__" : Str)) = false := by decide)
    (hE : PassesOwnAt (model prog w) ((A₀.deeper (envOf name scope L a cd)).mark (some (.ref e))) (A₀.deeper (envOf name scope L a cd)) (envOf name scope L a cd) E := by passes_own) :
    wpAny (model prog w) (A₀.deeper (envOf name scope L a cd)) (noteFrame (.ref e) (envOf name scope L a cd))
      (fun _ s₂ => wpAny (model prog w) (A₀.deeper (envOf name scope L a cd)) (setFlight (.ref e) none) (fun _ s₃ =>
        wpAny (model prog w) (A₀.deeper (envOf name scope L a cd)) (handleBy (.ref e) (envOf name scope L a cd) (.ExceptHandler (some (.Name x np)) none (b₀ :: suite) pos :: rest)) Q E s₃) E s₂) E s' := by
  obtain ⟨hkeep, hnew, ob, tp, he, hcls, hdat⟩ := hx
  have hfr : (A₀.deeper (envOf name scope L a cd)).frames = some (envOf name scope L a cd :: outer) := Around.frames_deeper hst
  obtain ⟨B, hB⟩ : ∃ B, B = hideAll h ((envOf name scope L a cd :: outer).filterMap (·.frame)) := ⟨_, rfl⟩
  rw [← hB] at hfun
  have hBh : ∀ b o, B.get? b = some o → h.get? b = some o := fun b o q => of_hideAll _ (hB ▸ q)
  have hen : B.get? e = none := by
    cases q : B.get? e with
    | none => rfl
    | some o => have := hBh _ _ q; rw [hnew] at this; cases this
  have hfun' : s'.heap.FunFrames B (envOf name scope L a cd :: outer) := hfun.of_keeps fun b o hb _ => ⟨o, hkeep b o hb, rfl⟩
  have st0 : h₀.StaysIn B := fun b o q => by
    rw [hB]
    refine hideAll_get _ (F.keep b o q) fun hm => ?_
    obtain ⟨z, hz, hzf⟩ := List.mem_filterMap.mp hm
    rcases List.mem_cons.mp hz with rfl | hz
    · have : L = b := Option.some.inj hzf
      exact absurd (Nat.lt_of_lt_of_le (Heap.lt_size q) F.above) (by rw [this]; exact Nat.lt_irrefl _)
    · have := hno b (List.mem_filterMap.mpr ⟨z, hz, hzf⟩)
      rw [this] at q
      cases q
  have keepB : ∀ h', B.StaysIn h' → s'.heap.UpToSlots h' → KeepF (envOf name scope L a cd :: outer) h h' := fun h' k1 k2 =>
    ⟨fun b o q n => k1 b o (by rw [hB]; exact hideAll_get _ q n), (Heap.UpToSlots.of_keeps hkeep).trans k2⟩
  unfold noteFrame
  simp only [show (envOf name scope L a cd).frame = some L from rfl]
  refine wpAny_bind (wpAny_field he hdat (x := .none) rfl ?_)
  rw [if_neg (by decide)]
  refine wpAny_newEntryW hfr hfun' rfl he (fun b o q => hkeep b o (hBh b o q)) hen hdat (by simp) (a0 := tp) rfl fun h₄ hL => ?_
  obtain ⟨k1, k2, k3, k4⟩ := hL
  have hfly : Heap.FlyingW B (envOf name scope L a cd :: outer) e ob.cls tp h₄ := ⟨k1, hen, k2, k3⟩
  have hsm : h.UpToSlots h₄ := (Heap.UpToSlots.of_keeps hkeep).trans k4
  have F₄ : Fr h₀ L h₄ m := F.of_stays (fun b o q => k1 b o (st0 b o q)) hsm
  obtain ⟨ob4, hob4, hobc⟩ := hfly.there
  refine wpAny_handleBy_builtin (X := X) (T := T') (b := true) hexc hnt hsub (ld_builtin_at F₄ T.g (T.free x h1 h2 h3 h4 h4c) T.b ((T.builtins x hn).trans hv) ⟨rfl, ⟨ob4, hob4, by rw [hobc]; exact hcls⟩, ?_⟩ hk hkx hd)
  refine lands_againW hfly fun h₆ hfl₆ hsm₆ => ?_
  exact wpAny_passesOwnAt hE (k h₆ (F₄.of_stays (fun b o q => hfl₆.1 b o (st0 b o q)) hsm₆) (keepB h₆ hfl₆.1 ((show s'.heap.UpToSlots h₄ from k4).trans hsm₆)))
end
end Mine
end
section
open PySem PySem.W PySem.W.X PyProof.Rows PySem.Calls PyProof.V PySem.Spec
set_option maxRecDepth 100000
set_option maxHeartbeats 4000000
namespace Mine
/-- what holds between the turns of a loop over texts -/
noncomputable def SlS {σ : Type} (Led : σ → List (Addr × Obj)) (pr : σ → List (Str × Value)) (Facts : σ → Prop) (x : Str) (stored : List Str) (m₀ : Str → Option Value) (P : List Str → σ → Prop) (pre : List Str) (m : Str → Option Value) (nx : List (Addr × Obj)) : Prop :=
  ∃ c : σ, nx = Led c ∧ Facts c ∧ (∀ p ∈ pr c, m p.1 = some p.2) ∧ (∀ z, z ≠ x → (∀ p ∈ pr c, z ≠ p.1) → stored.contains z = false → m z = m₀ z) ∧ P pre c
theorem strs_at : ∀ {vs : List Value} {ps : List Str} {i : Nat} {v : Value}, StrsAre vs ps → vs[i]? = some v → ∃ y t, v = .str y t ∧ ps[i]? = some y := by
  intro vs ps i v h
  induction h generalizing i with
  | nil => intro e; simp at e
  | cons y t h ih =>
    intro e
    cases i with
    | zero => simp at e; exact ⟨_, _, e.symm, rfl⟩
    | succ i => simp only [List.getElem?_cons_succ] at e ⊢; exact ih e
section
variable {prog : Program} {w : World} {A : Around} {E : Value → Shared → Prop} {s : Shared} {env : PySem.Env} {h₀ : Heap} {x : Str} {body : List Stmt} {Q : Flow → Shared → Prop}
theorem strs_loop {σ : Type} {l : Addr} {vs : List Value} {ps : List Str} {nn : Nat} {m₀ : Str → Option Value} (Led : σ → List (Addr × Obj)) (pr : σ → List (Str × Value)) (Facts : σ → Prop) (stored : List Str) (P : List Str → σ → Prop) (c₀ : σ)
    (hh : A.handled = none) (hl : ∀ c : σ, (l, listOf vs.toArray nn) ∈ Led c) (hi : StrsAre vs ps) (had : ∀ c, (Led c).map (·.1) = (Led c₀).map (·.1)) (F : Fr h₀ env.locals s.heap m₀) (N : News h₀ env.locals s.heap (Led c₀)) (hf : Facts c₀) (hk : ∀ p ∈ pr c₀, m₀ p.1 = some p.2) (hp : P [] c₀)
    (turn : ∀ (c : σ) pre post y t (u : Str → Option Value) h tk own, ps = pre ++ y :: post → OwnOff own ((Led c₀).map (·.1)) → Facts c → P pre c →
      Fr h₀ env.locals h (fun z => if z = x then some (.str y t) else kstB (fun z => if stored.contains z then u z else m₀ z) (pr c) z) → News h₀ env.locals h (Led c ++ own) →
      wpAny (model prog w) A (execs body env) (InvPostN h₀ env.locals (SlS Led pr Facts x stored m₀ P (pre ++ [y])) own ((Led c₀).map (·.1)) { s with heap := h, toks := tk } Q) E { s with heap := h, toks := tk })
    (done : ∀ (c : σ) (u : Str → Option Value) h tk, Facts c → P ps c → Fr h₀ env.locals h (fun z => if z = x then u z else kstB (fun z => if stored.contains z then u z else m₀ z) (pr c) z) → News h₀ env.locals h (Led c) → Q .next { s with heap := h, toks := tk }) :
    wpAny (model prog w) A (pyIter (.ref l)) (fun it s₂ => LoopAtV prog w A h₀ env x body Q E it s₂) E s := by
  have hol : s.heap.get? l = some (listOf vs.toArray nn) := (N _ (hl c₀)).1
  have hls : s.heap.IsList l vs.toArray := ⟨_, hol, rfl, nn, rfl⟩
  obtain ⟨I, hI⟩ : ∃ I, I = s.heap.objs.size := ⟨_, rfl⟩
  have hne : l ≠ I := by rw [hI]; exact Nat.ne_of_lt (Heap.lt_size hol)
  have off : ∀ p ∈ Led c₀, p.1 ≠ I := fun p hp => by rw [hI]; exact Nat.ne_of_lt (Heap.lt_size (N p hp).1)
  have offA : ∀ c, ∀ p ∈ Led c, p.1 ≠ I := fun c p hp => by
    have h1 : p.1 ∈ (Led c).map (·.1) := List.mem_map.mpr ⟨p, hp, rfl⟩
    rw [had c] at h1
    obtain ⟨q, hq, e⟩ := List.mem_map.mp h1
    exact e ▸ off q hq
  refine wpAny_pyIter_list hls ?_
  rw [← hI]
  have W := Walks.list (prog := prog) (w := w) hh I l hne vs.toArray
  have hlen : vs.toArray.size = ps.length := by simp [hi.length]
  rw [hlen] at W
  have F1 := F.push { cls := .type "list_iterator", data := .fields #[.ref l, .int 0 0] }
  refine ⟨_, _, _, ps.length, _, _, m₀, Led c₀, (fun i m nx => SlS Led pr Facts x stored m₀ P (ps.take i) m nx), rfl, W, ?_, ?_, ?_, ⟨⟨_, by rw [hI]; exact Heap.get?_push_size _ rfl, rfl, rfl⟩, hls.at fun o e => Heap.get?_push_of_some _ e⟩, F.push _, (fun p hp => ⟨Heap.get?_push_of_some _ (N p hp).1, (N p hp).2⟩), ⟨c₀, rfl, hf, hk, fun _ _ _ _ => rfl, by simpa using hp⟩, ?_, ?_⟩
  · intro hm
    rcases List.mem_cons.mp hm with e | hm
    · rw [hI] at e
      exact absurd F.ns.lt (e ▸ Nat.lt_irrefl _)
    · exact (N _ (hl c₀)).2.1 ((List.mem_singleton.mp hm).symm)
  · intro b hb
    rw [List.mem_singleton.mp hb, hI]
    exact next_is_new F
  · intro p hp hm
    exact off p hp (List.mem_singleton.mp hm)
  · rintro i v m₁ news₁ s₁ own ⟨hh', tk', rfl⟩ hin hP ⟨c, rfl, hf', h1, h2, hp'⟩ hoff hown hget hfp _ F₁ N₁
    have hsep : OwnOff (own.filter fun p => decide (p.1 = I)) ((Led c₀).map (·.1)) := by
      intro p hp b hb e
      obtain ⟨q, hq, rfl⟩ := List.mem_map.mp hb
      have h1 : p.1 = I := by simpa using (List.mem_filter.mp hp).2
      exact off q hq (e.symm.trans h1)
    obtain ⟨y, t, rfl, hy⟩ := strs_at hi (i := i) (v := v) (by simpa using hP)
    have htk : ps.take (i + 1) = ps.take i ++ [y] := by simp [List.take_add_one, hy]
    have hps : ps = ps.take i ++ y :: ps.drop (i + 1) := by
      have ht := List.take_append_drop (i + 1) ps
      rw [htk, List.append_assoc] at ht
      exact ht.symm
    have N₂ : News h₀ env.locals hh' (Led c ++ own.filter fun p => decide (p.1 = I)) := fun p hp => N₁ p ((List.mem_append.mp hp).elim (fun h => List.mem_append.mpr (.inr h)) fun h => List.mem_append.mpr (.inl ((List.mem_filter.mp h).1)))
    have hlo : hh'.get? l = some (listOf vs.toArray nn) := (N₁ _ (List.mem_append.mpr (.inr (hl c)))).1
    have em : (fun z => if z = x then some (Value.str y t) else kstB (fun z => if stored.contains z then m₁ z else m₀ z) (pr c) z) = fun z => if z = x then some (Value.str y t) else m₁ z := by
      funext z
      by_cases hz : z = x
      · rw [if_pos hz, if_pos hz]
      · rw [if_neg hz, if_neg hz]
        exact kst_off h1 h2 hz
    refine wpAny_mono (turn c _ _ y t m₁ hh' tk' _ hps hsep hf' hp' (by rw [em]; exact F₁) N₂) (fun f s₂ p => ?_) fun _ _ e => e
    rw [← htk] at p
    have fin : InvEndN h₀ env.locals (SlS Led pr Facts x stored m₀ P (ps.take (i + 1))) (own.filter fun p => decide (p.1 = I)) ((Led c₀).map (·.1)) { s with heap := hh', toks := tk' } s₂ →
        LoopStepU h₀ env.locals [I] own (fun m nx => SlS Led pr Facts x stored m₀ P (ps.take (i + 1)) m nx) { s with heap := hh', toks := tk' } .next s₂ := by
      rintro ⟨h', tk, m', news', nx, e, F', N', hn, ho, ha, hm⟩
      obtain ⟨c', rfl, hm'⟩ := hm
      refine ⟨rfl, h', tk, m', Led c', e, F', fun p hp => ?_, fun p hp hm => offA c' p hp (List.mem_singleton.mp hm), c', rfl, hm'⟩
      rcases List.mem_append.mp hp with h | h
      · by_cases hIp : p.1 = I
        · exact N' p (ho p (List.mem_filter.mpr ⟨h, by simpa using hIp⟩))
        · have h1 : p.1 = l := by
            rcases List.mem_cons.mp (hown p h) with h2 | h2
            · exact absurd h2 hIp
            · exact List.mem_singleton.mp h2
          have h2 : hh'.get? p.1 = some p.2 := hget p h
          rw [h1, hlo] at h2
          have h3 : p = (l, listOf vs.toArray nn) := Prod.ext h1 (Option.some.inj h2).symm
          rw [h3]
          exact N' _ (hn _ (hl c'))
      · exact N' p (hn p h)
    cases f with
    | ret v => exact .ret p
    | brk => exact .brk p
    | next => exact .next (fin p)
    | cont => exact .cont (fin p)
  · rintro h' tk m' news' F' N' _ ⟨c, rfl, hf', h1, h2, hp'⟩
    rw [List.take_length] at hp'
    refine done c m' h' tk hf' hp' ?_ N'
    have em : (fun z => if z = x then m' z else kstB (fun z => if stored.contains z then m' z else m₀ z) (pr c) z) = m' := by
      funext z
      by_cases hz : z = x
      · rw [if_pos hz]
      · rw [if_neg hz]
        exact kst_off h1 h2 hz
    rw [em]
    exact F'
theorem sl_end {σ : Type} {Led : σ → List (Addr × Obj)} {pr : σ → List (Str × Value)} {Facts : σ → Prop} {stored : List Str} {m₀ : Str → Option Value} {P : List Str → σ → Prop} {pre : List Str} (c : σ) {L : Addr} {m' : Str → Option Value} {own news' : List (Addr × Obj)} {adr : List Addr} {s₁ : Shared} {h' : Heap} {tk : Nat}
    (F : Fr h₀ L h' m') (N : News h₀ L h' news') (hn : ∀ p ∈ Led c, p ∈ news') (ho : ∀ p ∈ own, p ∈ news') (ha : (Led c).map (·.1) = adr) (hf : Facts c) (hk : ∀ p ∈ pr c, m' p.1 = some p.2) (hr : ∀ z, z ≠ x → (∀ p ∈ pr c, z ≠ p.1) → stored.contains z = false → m' z = m₀ z) (hp : P pre c) :
    InvPostN h₀ L (SlS Led pr Facts x stored m₀ P pre) own adr s₁ Q .next { s₁ with heap := h', toks := tk } :=
  InvEndN.intro F N ⟨c, rfl, hf, hk, hr, hp⟩ ha hn ho
end
end Mine
end
section
open PySem PySem.W PySem.W.X PyProof.Rows PySem.Calls
set_option maxRecDepth 100000
set_option maxHeartbeats 4000000
namespace Mine
namespace SR
open Sre (M)
section
variable {Mo : Model} {A : Around} {E : Value → Shared → Prop} {σ : Shared} {text : Array Nat}
theorem to_end {m f : M} {N : Nat} {Q : Option M → Shared → Prop} (g : Go N m f) (hN : N ≤ 100000) (hf : f.outcome = some .matched ∧ Q (some f) σ ∨ f.outcome = some .failed ∧ Q none σ) : wpAny Mo A (Builtin.Re.reRunToEnd m) Q E σ := by
  unfold Builtin.Re.reRunToEnd
  have ho : f.outcome.isSome = true := by
    rcases hf with ⟨h, _⟩ | ⟨h, _⟩ <;> rw [h] <;> rfl
  refine wpAny_bind (drive ho ?_ (2 ^ 64 - 1) N m (g 0) (by omega))
  refine wpAny_bind (m := forIn _ _ _) (wpAny_forIn_list _ (fun _ _ s' => s' = σ) _ ?_ ?_ _ _ rfl)
  · rintro i rest ⟨⟩ s' rfl
    split
    · exact wpAny_bind (wpAny_rule (wpAny_pure rfl))
    · exact wpAny_pure rfl
  · rintro ⟨⟩ s' rfl
    rcases hf with ⟨h, q⟩ | ⟨h, q⟩
    · rw [h]
      exact wpAny_pure q
    · rw [h]
      exact wpAny_pure q
theorem fs_eq {p : Nat} : Sre.forSearch cvCode text 1 p text.size false = (if (decide (p > text.size) || decide (text.size - p < 1)) = true then ({ st text p 5 p p true none none (-1) (-1) [] 0 (some false) (({} : Sre.Seen).add 14) with lastStart := 0 } : M) else stA text p p true none none (({} : Sre.Seen).add 14)) := rfl
theorem found {p : Nat} {Q : Option M → Shared → Prop} (hz : text.size ≤ 1000) (hp : p ≤ text.size)
    (hno : skip text (text.size - p) p = text.size → Q none σ)
    (hyes : ∀ f, skip text (text.size - p) p < text.size → isOth (text.getD (skip text (text.size - p) p) 0) = false → Matched f (skip text (text.size - p) p) (endOf text (skip text (text.size - p) p)) → Q (some f) σ) :
    wpAny Mo A (Builtin.Re.reRunToEnd (Sre.forSearch cvCode text 1 p text.size false)) Q E σ := by
  by_cases h : p < text.size
  · have e : Sre.forSearch cvCode text 1 p text.size false = stA text p p true none none (({} : Sre.Seen).add 14) := fs_eq.trans (if_neg (by simp; omega))
    rw [e]
    obtain ⟨N, f, hN, hg, hf⟩ := search hz (text.size - p) p p true none none (({} : Sre.Seen).add 14) (by omega)
    with_reducible refine to_end hg (by omega) ?_
    rcases hf with ⟨h1, h2⟩ | ⟨h1, h2, h3⟩
    · exact .inr ⟨h2, hno h1⟩
    · exact .inl ⟨h3.1, hyes f h1 h2 h3⟩
  · have hp2 : p = text.size := by omega
    have e : Sre.forSearch cvCode text 1 p text.size false = _ := fs_eq.trans (if_pos (by simp; omega))
    rw [e]
    refine to_end (N := 1) (Go.one rfl rfl) (by decide) (.inr ⟨rfl, hno ?_⟩)
    rw [hp2, Nat.sub_self]
    rfl
end
section
variable {w : World} {A : Around} {E : Value → Shared → Prop} {s : Shared}
noncomputable abbrev tgt (x : Str) (t : Tok) : Builtin.Re.ReTarget := { pattern := .ref 49, string := .str x t, code := cvCode, text := x.cps, kind := 0, groups := 1, pos := 0, lim := x.cps.size }
theorem target {x : Str} {t : Tok} {Q : Builtin.Re.ReTarget → Shared → Prop} (X : (K3 w.params).In s.heap) (h : Q (tgt x t) s) : wpAny (model pw w) A (Builtin.Re.reWholeTarget (.ref 49) (.str x t)) Q E s := by
  unfold Builtin.Re.reWholeTarget
  have h49 := X 49 (o49 w.params) rfl
  have h48 := X 48 (o48 w.params) rfl
  refine wpAny_bind (m := fieldsOf _) (wpAny_bind (wpAny_load h49 (wpAny_pure ?_)))
  refine wpAny_bind (wpAny_of_eq (a := (x.cps, 0)) rfl ?_)
  dsimp only
  rw [if_neg (by decide), if_neg (by decide)]
  refine wpAny_bind (wpAny_of_eq (a := ()) rfl ?_)
  refine wpAny_bind (m := Builtin.Re.reRawItems _) (wpAny_bind (m := seqItems? _) (wpAny_bind (wpAny_load h48 ?_)))
  refine wpAny_pure (wpAny_pure (wpAny_pure ?_))
  refine (congrArg (fun z => Q z s) (?_ : _ = tgt x t)).mpr h
  kernel_rfl
/-- between the turns of split -/
noncomputable def SplI (s : Shared) (text : Array Nat) (rest : List Nat) (b : Array Value × Nat × Nat × Bool × Int × Bool) (s' : Shared) : Prop :=
  ∃ vs ps tk, b.1 = vs.toArray ∧ StrsAre vs ps ∧ PcsP text b.2.1 ps ∧ b.2.2.1 = b.2.1 ∧ b.2.2.2.1 = false ∧ s' = { s with toks := tk } ∧ (if b.2.2.2.2.2 then skip text (text.size - b.2.1) b.2.1 = text.size else text.size - b.2.1 + 1 ≤ rest.length)
theorem split_body {x : Str} {t : Tok} {P : PySem.Fin → Shared → Prop} (X : (K3 w.params).In s.heap) (hz : x.length ≤ 1000)
    (h : ∀ vs ps tk, StrsAre vs ps → ps.filter keepP = rOf x.cps.toList → (∀ y ∈ ps, keepP y = true → TokOf y) → (∀ y ∈ ps, ∀ c ∈ y.cps.toList, c ∈ x.cps.toList) → ps.length ≤ 2 * x.length + 1 → P (.done (.ret (.ref s.heap.objs.size))) { s with heap := s.heap.push (listOf vs.toArray 0), toks := tk }) :
    wpAny (model pw w) A (Builtin.«re.Pattern.split» ⟨[.ref 49, .str x t], []⟩) P E s := by
  unfold Builtin.«re.Pattern.split»
  refine wpAny_bind (wpAny_of_eq (a := [some (.str x t), none]) (by first | rfl | kernel_rfl) ?_)
  dsimp only
  refine wpAny_bind (wpAny_pure ?_)
  refine wpAny_bind (target X ?_)
  have hzs : x.cps.size ≤ 1000 := hz
  refine wpAny_bind (m := forIn _ _ _) (wpAny_forIn_list _ (SplI s x.cps) _ ?_ ?_ _ _ ?_)
  · rintro i rest ⟨out, start, last, must, n, over⟩ s' ⟨vs, ps, tk, hout, hss, hI, hl, hm, hs, ho⟩
    dsimp only at hout hss hI hl hm hs ho ⊢
    subst hout hl hm hs
    cases over with
    | true =>
      rw [if_neg (by decide)]
      exact wpAny_pure ⟨vs, ps, tk, rfl, hss, hI, rfl, rfl, rfl, ho⟩
    | false =>
      rw [if_pos (by decide)]
      simp only [Bool.false_eq_true, if_false, List.length_cons] at ho
      refine wpAny_bind ?_
      rw [if_neg (by simp)]
      show wpAny _ _ (Builtin.Re.reRunToEnd (Sre.forSearch cvCode x.cps 1 last x.cps.size false)) _ _ _
      refine found hzs hI.2.2.2.2 (fun hno => ?_) fun f hlt hoth hM => ?_
      · exact wpAny_pure ⟨vs, ps, tk, rfl, hss, hI, rfl, rfl, rfl, by simpa using hno⟩
      · obtain ⟨hI2, hlt2, hlt3⟩ := pcs_turn hI hlt hoth
        obtain ⟨m1, m2, m3, m4, m5⟩ := hM
        have hsz2 : SR.endOf x.cps (skip x.cps (x.cps.size - last) last) ≤ x.cps.size := hI2.2.2.2.2
        generalize SR.endOf x.cps (skip x.cps (x.cps.size - last) last) = e at *
        generalize skip x.cps (x.cps.size - last) last = q at *
        dsimp only
        rw [m2, m3]
        show wpAny _ _ (mkStr ⟨x.cps.extract last q⟩ >>= _) _ _ _
        refine wpAny_bind (wpAny_mkStr ?_ (by show (x.cps.extract last q).size ≤ _; rw [sizeLine_eq]; simp; omega))
        refine wpAny_bind ?_
        show wpAny _ _ (forIn [0] _ _) _ _ _
        rw [List.forIn_cons]
        refine wpAny_bind (wpAny_bind ?_)
        unfold Builtin.Re.reMachineGroup
        rw [m4, m5]
        rw [if_neg (by decide)]
        show wpAny _ _ (if e < q then Builtin.Re.reWrongSpan else Builtin.Re.reSlice x.cps 0 q e) _ _ _
        rw [if_neg (by omega)]
        show wpAny _ _ (mkStr ⟨x.cps.extract q e⟩) _ _ _
        refine wpAny_mkStr (s := { s with toks := tk + 1 }) ?_ (by show (x.cps.extract q e).size ≤ _; rw [sizeLine_eq]; simp; omega)
        refine wpAny_pure ?_
        show wpAny _ _ (forIn [] _ _) _ _ _
        rw [List.forIn_nil]
        refine wpAny_pure ?_
        refine wpAny_pure ⟨vs ++ [.str ⟨x.cps.extract last q⟩ tk, .str ⟨x.cps.extract q e⟩ (tk + 1)], _, tk + 1 + 1, by simp, ?_, hI2, rfl, by simpa using (by omega : e ≠ q), rfl, ?_⟩
        · have := KStt.strs_snoc (t := tk + 1) (x := ⟨x.cps.extract q e⟩) (KStt.strs_snoc (t := tk) (x := ⟨x.cps.extract last q⟩) hss)
          simpa using this
        · simp only [Bool.false_eq_true, if_false]
          omega
  · rintro ⟨out, start, last, must, n, over⟩ s' ⟨vs, ps, tk, hout, hss, hI, hl, hm, hs, ho⟩
    dsimp only at hout hss hI hl hm hs ho ⊢
    subst hout hl hm hs
    cases over with
    | false =>
      simp only [Bool.false_eq_true, if_false, List.length_nil] at ho
      omega
    | true =>
      rw [if_neg (by decide)]
      simp only [if_true] at ho
      obtain ⟨e1, e2, e3, e4⟩ := pcs_end hI ho
      show wpAny _ _ (mkStr ⟨x.cps.extract last x.cps.size⟩ >>= _) _ _ _
      refine wpAny_bind (wpAny_mkStr ?_ (by show (x.cps.extract last x.cps.size).size ≤ _; rw [sizeLine_eq]; simp; omega))
      have hvl : vs.length ≤ 2 * x.cps.size + 1 := by rw [hss.length]; simp only [List.length_append, List.length_cons, List.length_nil] at e4; omega
      refine wpAny_bind (m := newList _) (wpAny_newObj_type (hd := by simp [sizeOk, sizeLine_eq]; omega) ?_)
      refine wpAny_pure ?_
      have := h (vs ++ [.str ⟨x.cps.extract last x.cps.size⟩ tk]) _ (tk + 1) (KStt.strs_snoc hss) e1 e2 e3 e4
      simpa using this
  · refine ⟨[], [], s.toks, rfl, .nil, ⟨by simp, fun _ h => (nomatch h), fun _ h => (nomatch h), Nat.le_refl _, Nat.zero_le _⟩, rfl, rfl, rfl, ?_⟩
    simp [Builtin.Re.reMostMatches]
    omega
end
end SR
end Mine
end
section
open PySem PySem.W PySem.W.X PyProof.Rows PySem.Calls
set_option maxRecDepth 100000
set_option maxHeartbeats 8000000
namespace Mine
namespace SR
theorem pa : PlainAttrs "re.Pattern" :=
  ⟨⟨"object.__getattribute__", by rw [typeLookup_type, builtinLookup_eq_fast]; kernel_rfl, by decide +kernel⟩, by rw [typeLookup_type, builtinLookup_eq_fast]; kernel_rfl⟩
theorem s_split : Slot "re.Pattern" "split" "re.Pattern.split" :=
  .of (owner := "re.Pattern") (n := "split") (by rw [typeLookup_type, builtinLookup_eq_fast]; kernel_rfl) (by decide +kernel) (by decide +kernel) (by decide +kernel)
    (by first | exact .inl (by decide +kernel) | exact .inr (by decide +kernel)) (by rw [isSubtype_type]; kernel_rfl)
theorem e_split : entryFor table "re.Pattern.split" = some Builtin.«re.Pattern.split» := entryFor_of_tree (by kernel_rfl)
theorem a_split (a b : Value) : argsOk "re.Pattern.split" ⟨[a, b], []⟩ := by unfold argsOk; kernel_rfl
theorem ty_split : typeOf (.builtin "re.Pattern.split") = pure (.type "method_descriptor") := by kernel_rfl
end SR
section
variable {w : World} {A : Around} {E : Value → Shared → Prop} {s : Shared} {h₀ : Heap} {L : Addr} {m : Str → Option Value} {news : List (Addr × Obj)}
theorem split_method {pl : Sem Bool} {Q : Value × List Value → Shared → Prop} (X : (K3 w.params).In s.heap) (h : Q (.builtin "re.Pattern.split", [.ref 49]) s) : wpAny (model pw w) A (getMethod (.ref 49) (Str.ofString "split") pl) Q E s :=
  getMethod_builtin ⟨_, X 49 (o49 w.params) rfl, rfl⟩ SR.pa SR.s_split SR.ty_split (fun a e => by cases e; exact ⟨_, X 49 (o49 w.params) rfl, rfl⟩) h
theorem split_call {x : Str} {t : Tok} {Q : Value → Shared → Prop} (F : Fr h₀ L s.heap m) (N : News h₀ L s.heap news) (X : (K3 w.params).In h₀) (hz : x.length ≤ 1000)
    (h : ∀ d vs ps h' tk, (StrsAre vs ps ∧ ps.filter keepP = rOf x.cps.toList ∧ (∀ y ∈ ps, keepP y = true → TokOf y) ∧ (∀ y ∈ ps, ∀ c ∈ y.cps.toList, c ∈ x.cps.toList) ∧ ps.length ≤ 2 * x.length + 1) → Fr h₀ L h' m → News h₀ L h' ((d, listOf vs.toArray 0) :: news) → (∀ p ∈ news, p.1 < d) → Q (.ref d) { s with heap := h', toks := tk }) :
    wpAny (model pw w) A (call (.builtin "re.Pattern.split") [.ref 49, .str x t]) Q E s := by
  have X' := X.keeps F.keep
  refine wpAny_call_entry SR.s_split (show s.TypeIs (.ref 49) "re.Pattern" from ⟨_, X' 49 (o49 w.params) rfl, rfl⟩) SR.e_split (SR.split_body X' hz fun vs ps tk a b c d e => ?_) (SR.a_split _ _)
  exact ⟨_, rfl, h _ vs ps _ _ ⟨a, b, c, d, e⟩ (F.push _) (N.push F _) fun p hp => Heap.lt_size (N p hp).1⟩
-- the ranks of the module
theorem ranks50 {prog : Program} {h : Heap} (X : (K3 w.params).In h) : h.DictOf (PySem.strKind prog w) 50 (rankV fun i => 381 + 2 * i) := by
  refine ⟨o50 w.params, _, _, X 50 _ rfl, ⟨rfl, rfl, rfl⟩, rfl, ?_, ?_, by decide +kernel⟩
  · intro e he
    simp only [List.mem_toArray, List.mem_cons, List.not_mem_nil, or_false] at he
    rcases he with rfl | rfl | rfl | rfl | rfl | rfl | rfl | rfl | rfl | rfl <;> exact ⟨_, beq_self_eq_true (_ : Str), rfl⟩
  · exact .cons (beq_self_eq_true (_ : Str)) rfl (.cons (beq_self_eq_true (_ : Str)) rfl (.cons (beq_self_eq_true (_ : Str)) rfl (.cons (beq_self_eq_true (_ : Str)) rfl (.cons (beq_self_eq_true (_ : Str)) rfl (.cons (beq_self_eq_true (_ : Str)) rfl (.cons (beq_self_eq_true (_ : Str)) rfl (.cons (beq_self_eq_true (_ : Str)) rfl (.cons (beq_self_eq_true (_ : Str)) rfl (.cons (beq_self_eq_true (_ : Str)) rfl .nil)))))))))
theorem rank_get {x : Str} {t u : Tok} {Q : Value → Shared → Prop} (X : (K3 w.params).In s.heap) (h : ∀ t tk, Q (.int (rankOf x) t) { s with toks := tk }) : wpAny (model pw w) A (call (.builtin "dict.get") [.ref 50, .str x t, .int 0 u]) Q E s := by
  have hd := ranks50 (prog := pw) X
  refine call_meetsIn F.slot_dict_get hd.typeIs F.entry_dict_get (F.args_dict_get_3 _ _ _) (meets_dict_get_default (PySem.strKind pw w) 50 (k := x) (key := .str x t) (show (PySem.strKind pw w).is x (.str x t) = true from beq_self_eq_true x) (by decide) (.int 0 u)) ⟨_, hd.mapOf, ?_⟩
  obtain ⟨t', ht⟩ := rankV_at (fun i => 381 + 2 * i) x u
  rw [ht]
  exact h _ _
end
end Mine
end
section
open PySem PySem.W PySem.W.X PyProof.Rows PySem.Calls
set_option maxRecDepth 100000
set_option maxHeartbeats 8000000
namespace Mine
/-- entering a def of the text over a ground: the objects of the ledger may change, the frames around among them -/
theorem enterH {w : World} {K : Frag} {A : Around} {s : Shared} {mg mb : Str → Option Value} {f : Addr} {args : Args} {binds : List (Str × Value)}
    {name qual : Str} {params : Arguments} {body : List Stmt} {scope : Scope} {dV kV doc pm cdv ct oc : Value} {an od : Option Addr} {osl : Array (Option Value)} {R : Result → Shared → Prop} {g : Heap} {led : List (Addr × Obj)}
    (hg : g = hideAll s.heap (led.map (·.1))) (hl : ∀ p ∈ led, s.heap.get? p.1 = some p.2) (X : K.In g) (T : TopRead q1 loose1 mg mb g)
    (ho : K.lookup f = some ⟨oc, od, .func (fnOf name qual params body scope dV kV doc pm an cdv ct), osl⟩) (hcd : codeIn K cdv qual = true) (hroom : A.depth < recursionLimit)
    (hbind : BindsTo s (fnOf name qual params body scope dV kV doc pm an cdv ct) args binds) (hloc : ∀ y ∈ binds, scope.names.lookup y.1 = some .local)
    (h : ∀ L h₁, Fr g L h₁ (fun y => binds.reverse.lookup y) → News g L h₁ led → (∀ p ∈ led, p.1 < L) →
      wpAny (model pw w) (A.deeper (envOf qual scope L f cdv)) (execs body (envOf qual scope L f cdv)) (fun fl s' => R (.ok (.ret (match fl with | .ret v => v | _ => .none))) s')
        (fun e s' => wpAny (model pw w) (A.deeper (envOf qual scope L f cdv)) (leaving (envOf qual scope L f cdv) e) (fun _ s'' => R (.error e) s'') (fun e' s'' => R (.error e') s'') s')
        { s with heap := h₁, toks := s.toks + binds.length })
    (hco : scope.isCoroutine = false) (hgen : scope.isGenerator = false) (hk : scope.kind = .function) (hcell : ∀ x ∈ scope.names, x.2 ≠ .cell) :
    codeAny (model pw w) A (.call (.ref f) args) R s := by
  subst hg
  have up : ∀ b o, (hideAll s.heap (led.map (·.1))).get? b = some o → s.heap.get? b = some o := fun b o e => of_hideAll _ e
  refine codeAny_call_def (fd := fnOf name qual params body scope dV kV doc pm an cdv ct) (body := body) (binds := binds) hroom (X.keeps up _ _ ho) rfl (T.nolimit.keeps up) (codeRec_of (X.keeps up) hcd) rfl hbind hcell hloc (fun h₁ hns hk₁ => ?_) hco hgen hk
  exact h s.heap.objs.size h₁ ⟨hns, fun b o e => hk₁ b o (up b o e), Nat.le_of_eq (hideAll_size _ _)⟩
    (fun p hp => ⟨hk₁ _ _ (hl p hp), Nat.ne_of_lt (Heap.lt_size (hl p hp)), hideAll_none _ (List.mem_map_of_mem hp)⟩) fun p hp => Heap.lt_size (hl p hp)
structure CpSt where
  vs : List Value
  n : Nat
  o0 : Obj
  oS : Obj
noncomputable def cpLed (r l : Addr) (pv : List Value) (nn : Nat) (L0 c2 : Addr) (c : CpSt) : List (Addr × Obj) := [(l, listOf pv.toArray nn), (r, listOf c.vs.toArray c.n), (L0, c.o0), (c2, c.oS)]
noncomputable def isDict (o : Obj) : Prop := ∃ es n, o.data = .dict es n
noncomputable def CpFacts (o0 : Obj) (c : CpSt) : Prop := (∃ sl, c.o0 = { o0 with slots := sl }) ∧ isDict c.oS
theorem rOf_mem_len {l : List Nat} : ∀ r ∈ rOf l, r.length ≤ l.length := by
  have key : ∀ (l : List Nat) (x : List Str × Str) (K : Nat), (∀ r ∈ x.1, r.length ≤ K) → ∀ r ∈ (foldN x l).1, r.length ≤ K + l.length := by
    intro l
    induction l with
    | nil => intro x K h r hr; have := h r hr; simpa using this
    | cons c l ih =>
      intro x K h r hr
      have hs : ∀ r ∈ (runStep x (c : Int)).1, r.length ≤ K + 1 := by
        rw [stepN]
        split
        · intro r hr; have := h r hr; omega
        · split
          · intro r hr
            rcases List.mem_append.mp hr with hr | hr
            · have := h r (List.dropLast_subset _ hr); omega
            · rw [List.mem_singleton.mp hr]
              have h2 : (x.1.getLastD (Str.ofString "")).length ≤ K := by
                cases e : x.1.getLast? with
                | none => rw [List.getLastD_eq_getLast?, e]; exact Nat.zero_le _
                | some z => rw [List.getLastD_eq_getLast?, e]; exact h z (List.mem_of_getLast? e)
              have h3 : (x.1.getLastD (Str.ofString "") ++ (⟨#[c]⟩ : Str)).length = (x.1.getLastD (Str.ofString "")).length + 1 := by
                show ((x.1.getLastD (Str.ofString "")).cps ++ #[c]).size = _
                simp [Str.length]
              omega
          · intro r hr
            rcases List.mem_append.mp hr with hr | hr
            · have := h r hr; omega
            · rw [List.mem_singleton.mp hr]
              show 1 ≤ K + 1
              omega
      have := ih (runStep x (c : Int)) (K + 1) hs r hr
      simp only [List.length_cons]
      omega
  intro r hr
  have := key l ([], sWhite) 0 (fun r h => nomatch h) r hr
  omega
section
variable {h₀ h hm h' : Heap} {L L0 c2 : Addr} {m : Str → Option Value} {l1 l2 : List (Addr × Obj)} {oS o0 : Obj}
theorem keep_site {name : Str} {scope : Scope} {a : Addr} {cd : Value} {env0 : PySem.Env} (hk : KeepF (envOf name scope L a cd :: [env0]) h h') (hfr : env0.frame = some L0) (N : News h₀ L h (l1 ++ (L0, o0) :: l2)) (ha : ∀ p ∈ l1 ++ l2, p.1 ≠ L0) (hn : ∀ vs, o0.data ≠ .fields vs) :
    ∃ sl, News h₀ L h' (l1 ++ (L0, { o0 with slots := sl }) :: l2) := by
  have P := N (L0, o0) (List.mem_append_right _ (.head _))
  obtain ⟨sl, hsl⟩ := hk.2 _ _ P.1 hn
  have hfm : (envOf name scope L a cd :: [env0]).filterMap (·.frame) = [L, L0] := by
    simp only [List.filterMap_cons, hfr, List.filterMap_nil]
    rfl
  have st : ∀ p ∈ l1 ++ l2, h.get? p.1 = some p.2 → p.1 ≠ L → h'.get? p.1 = some p.2 := fun p hp e hL => hk.1 _ _ e (by
    rw [hfm]
    intro hm
    rcases List.mem_cons.mp hm with q | q
    · exact hL q
    · exact ha p hp (List.mem_singleton.mp q))
  refine ⟨sl, fun p hp => ?_⟩
  rcases List.mem_append.mp hp with q | q
  · have := N p (List.mem_append_left _ q)
    exact ⟨st p (List.mem_append_left _ q) this.1 this.2.1, this.2⟩
  · rcases List.mem_cons.mp q with rfl | q
    · exact ⟨hsl, P.2⟩
    · have := N p (List.mem_append_right _ (.tail _ q))
      exact ⟨st p (List.mem_append_right _ q) this.1 this.2.1, this.2⟩
theorem fun_site {name : Str} {scope : Scope} {a : Addr} {cd : Value} {env0 : PySem.Env} {led : List (Addr × Obj)} (F : Fr h₀ L h m) (hfr : env0.frame = some L0) (hke : env0.scope.kind = .function) (N : News h₀ L h led) (hm : (L0, o0) ∈ led) (hn : ∀ vs, o0.data ≠ .fields vs) (hk : scope.kind = .function) :
    h.FunFrames (hideAll h ((envOf name scope L a cd :: [env0]).filterMap (·.frame))) (envOf name scope L a cd :: [env0]) := by
  have hfm : (envOf name scope L a cd :: [env0]).filterMap (·.frame) = [L, L0] := by
    simp only [List.filterMap_cons, hfr, List.filterMap_nil]
    rfl
  rw [hfm]
  obtain ⟨oL, es, ep, hL, hLd, hr⟩ := F.ns
  refine ⟨by show scope.kind ≠ _; rw [hk]; decide, ⟨L, oL, rfl, hideAll_none _ (.head _), hL, fun vs => by rw [hLd]; exact fun q => nomatch q⟩, by rw [hke]; decide, ⟨L0, o0, hfr, hideAll_none _ (.tail _ (.head _)), (N _ hm).1, hn⟩, trivial⟩
end
end Mine
end
section
open PySem PySem.W PySem.W.X PyProof.Rows PySem.Calls
set_option maxRecDepth 100000
set_option maxHeartbeats 8000000
namespace Mine
noncomputable def RkAre : List (Str × Value) → List (Str × Int) → Prop
  | [], [] => True
  | a :: r, p :: q => a.1 = p.1 ∧ (∃ t, a.2 = .int p.2 t) ∧ RkAre r q
  | _, _ => False
theorem rk_at : ∀ {kvs : List (Str × Value)} {q : List (Str × Int)}, RkAre kvs q → ∀ x, (q.lookup x = none ∧ valueAt kvs x = none) ∨ ∃ r t, q.lookup x = some r ∧ valueAt kvs x = some (.int r t)
  | [], [], _, x => .inl ⟨rfl, rfl⟩
  | a :: r, p :: q, h, x => by
    obtain ⟨h1, ⟨t, h2⟩, h3⟩ := h
    by_cases e : p.1 = x
    · right
      refine ⟨p.2, t, ?_, ?_⟩
      · obtain ⟨p1, p2⟩ := p
        dsimp only at e
        subst e
        simp
      · simp [valueAt, h1, e, h2]
    · have e2 : (x == p.1) = false := by simpa using fun z => e z.symm
      obtain ⟨p1, p2⟩ := p
      dsimp only at e e2 h1
      rw [List.lookup_cons, e2]
      have e3 : valueAt (a :: r) x = valueAt r x := by
        simp only [valueAt]
        rw [List.find?_cons_of_neg (by rw [h1]; simpa using e)]
      rw [e3]
      exact rk_at h3 x
structure TdSt where
  vs : List Value
  n : Nat
noncomputable def tdLed (l d lr : Addr) (od : Obj) (rv : List Value) (n : Nat) (c : TdSt) : List (Addr × Obj) := [(l, listOf c.vs.toArray c.n), (d, od), (lr, listOf rv.toArray n)]
theorem item_zero {x : Str} {c : Nat} {cs : List Nat} (h : x.cps.toList = c :: cs) : Txt.item x 0 = ⟨#[c]⟩ := by
  have hl : x.length = cs.length + 1 := by rw [← cps_len, h]; rfl
  have h0 : x.cps[0]? = some c := by
    rw [← Array.getElem?_toList, h]
    rfl
  have e : Txt.charAt x 0 = some c := by
    unfold Txt.charAt seqIndex?
    rw [hl]
    have : (decide ((0 : Int) ≤ 0) && decide ((0 : Int) < ((cs.length + 1 : Nat) : Int))) = true := by simp
    simp only [Int.lt_irrefl, if_false]
    rw [if_pos this]
    exact h0
  unfold Txt.item
  rw [e]
  rfl
theorem item0 {prog : Program} {w : World} {A : Around} {E : Value → Shared → Prop} {s : Shared} {value slice : PySem.Expr} {x : PySem.Str} {t u : Tok} {c : Nat} {Q : Value → Shared → Prop} (hit : Txt.item x 0 = ⟨#[c]⟩) (h1 : x.length ≤ 600) (h0 : x.length ≠ 0) (h : Q (.str ⟨#[c]⟩ s.toks) { s with toks := s.toks + 1 })
    (hs : subscripted slice false (.str x t) (.int 0 u) = operate [.str x t, .int 0 u] (getItem (.str x t) (.int 0 u)) := by with_unfolding_all rfl)
    (ht : ∀ r, letTemporaryGo value (.str x t) r = pure () := by intro _; with_unfolding_all rfl) :
    wpAny (model prog w) A (subscriptTail value slice (.str x t) (.int 0 u)) Q E s :=
  KXi.item (n := x.length) rfl (by omega) (by omega) (by omega) (fun _ => by rw [hit]; exact h) hs ht
theorem oth_inS {c : Nat} (h : kd c = sOther) : inS (Str.ofString "0123456789") ⟨#[c]⟩ = false := by
  rcases kd_cases c with ⟨hk, _⟩ | ⟨hk, _, hf⟩ | ⟨hk, hw, hf⟩
  · rw [hk] at h; exact absurd h (by decide +kernel)
  · rw [hk] at h; exact absurd h (by decide +kernel)
  · exact hf
theorem fig_inS {c : Nat} (h : kd c = sFigure) : inS (Str.ofString "0123456789") ⟨#[c]⟩ = true := by
  rcases kd_cases c with ⟨hk, _⟩ | ⟨_, _, hf⟩ | ⟨hk, _⟩
  · rw [hk] at h; exact absurd h (by decide +kernel)
  · exact hf
  · rw [hk] at h; exact absurd h (by decide +kernel)
theorem tok_head {k : Str} {y : Str} (h : IsTok k y.cps.toList) : ∃ c, Txt.item y 0 = ⟨#[c]⟩ ∧ kd c = k ∧ y.length ≠ 0 := by
  obtain ⟨c, cs, e⟩ := List.exists_cons_of_ne_nil h.1
  refine ⟨c, item_zero e, h.2.2 c (by rw [e]; exact .head _), ?_⟩
  rw [← cps_len, e]
  simp
theorem num_at {w : World} {mg mb : Str → Option Value} {dp un : Nat} {gd : Option (List Code)} {fr : List Env} {h₀ : Heap} {L : Addr} {m : Str → Option Value} {news : List (Addr × Obj)} {s : Shared} {Q E : Value → Shared → Prop} {run : Str} {t : Tok}
    (F : Fr h₀ L s.heap m) (N : News h₀ L s.heap news) (X : (K3 w.params).In h₀) (T : TopRead q1 loose1 mg mb h₀) (hd : dp + 5 < recursionLimit) (hu : un + 40 < cLine)
    (hdg : ∀ a ∈ signs run, 0 ≤ Txt.find (Str.ofString "0123456789") a)
    (hret : ∀ t' h' tk', Fr h₀ L h' m → News h₀ L h' news → Q (.int (numOf run) t') { s with heap := h', toks := tk' }) :
    wpAny (model pw w) { handled := none, depth := dp, frames := some fr, guards := gd, units := un } (call (.ref 780) [.str run t]) Q E s := by
  refine num_spec' (X.keeps F.keep) (T.keeps F.keep) hd hu hdg fun t' h' tk' hk => ?_
  exact hret t' h' tk' (F.of_stays (fun b o e => hk b o (F.keep b o e)) (Heap.UpToSlots.of_keeps hk)) fun p hp => ⟨hk _ _ (N p hp).1, (N p hp).2⟩
theorem td_end {h₀ h' : Heap} {L l d lr : Addr} {od : Obj} {rv : List Value} {n k : Nat} {v1 v2 : Value} {us : List Value} {own : List (Addr × Obj)} {m' m₀ : Str → Option Value} {stored pre : List Str} {x : Str} {adr : List Addr} {s₁ : Shared} {Q : Flow → Shared → Prop} {tk : Nat} (F : Fr h₀ L h' m')
    (N : News h₀ L h' ((l, listOf ((us.toArray.push v1).push v2) k) :: (d, od) :: (lr, listOf rv.toArray n) :: own)) (ha : [l, d, lr] = adr) (hm : ∀ z, z ≠ x → stored.contains z = false → m' z = m₀ z) (hp : ToldAre (us ++ [v1, v2]) pre) :
    InvPostN h₀ L (SlS (fun c => tdLed l d lr od rv n c) (fun _ => []) (fun _ => True) x stored m₀ (fun pre c => ToldAre c.vs pre) pre) own adr s₁ Q .next { s₁ with heap := h', toks := tk } := by
  have e : (us.toArray.push v1).push v2 = (us ++ [v1, v2]).toArray := by simp
  rw [e] at N
  refine sl_end (Led := fun c => tdLed l d lr od rv n c) (pr := fun _ => []) (⟨us ++ [v1, v2], k⟩ : TdSt) F N (fun p hp => ?_) (fun p hp => ?_) ha trivial (fun p hp => nomatch hp) (fun z h1 _ h3 => hm z h1 h3) hp
  · simp only [tdLed, List.mem_cons, List.not_mem_nil, or_false] at hp ⊢
    rcases hp with h | h | h <;> simp [h]
  · exact .tail _ (.tail _ (.tail _ hp))
local macro_rules | `(tactic| walk_at "eval Dict") => `(tactic| (k_here; k_dflt (refine' kdn_str ?q ?F ?N ?b ?a ?l ?e ?n ?_; (case q => rfl); (case F => k_asm); (case N => first | k_asm | exact News.nil); (case b => exact TopRead.nolimit (by k_asm)); (case a => rfl); (case l => rfl); (case e => exact List.cons_ne_nil _ _); (case n => exact Nat.le_of_ble_eq_true rfl)); intro d' h' o' F' N' l1 lo' hd'; (try k_lt l1)))
theorem told_spec {w : World} {mg mb : Str → Option Value} {dp un : Nat} {gd : Option (List Code)} {outer : List Env} {s : Shared} {Q E : Value → Shared → Prop} {lr : Addr} {vs : List Value} {n : Nat} {rs : List Str} {g : Heap}
    (hg : g = hideAll s.heap [lr]) (hlr : s.heap.get? lr = some (listOf vs.toArray n)) (hs : StrsAre vs rs) (htk : ∀ r ∈ rs, TokOf r) (hrl : rs.length ≤ 600) (hml : ∀ r ∈ rs, r.length ≤ 600)
    (X : (K3 w.params).In g) (T : TopRead q1 loose1 mg mb g) (hd : dp + 20 < recursionLimit) (hu : un + 200 < cLine)
    (hret : ∀ l vs' n' h' tk', (∀ b o, g.get? b = some o → h'.get? b = some o) → h'.get? lr = some (listOf vs.toArray n) → ToldAre vs' rs → h'.get? l = some (listOf vs'.toArray n') → g.get? l = none → lr < l → Q (.ref l) { s with heap := h', toks := tk' }) :
    wpAny (model pw w) (actx dp un gd outer) (call (.ref 787) [.ref lr]) Q E s := by
  have hfill : PySem.Challenge.rw_ox0114_01 = PySem.Challenge.rw_ox0114_01 ∧ K3 = K3 := by
    k_fill
    exact ⟨rfl, rfl⟩
  clear hfill
  have hl : ∀ p ∈ [(lr, listOf vs.toArray n)], s.heap.get? p.1 = some p.2 := by
    intro p hp
    rw [List.mem_singleton.mp hp]
    exact hlr
  refine wpAny_call ?_
  k_dflt (refine' enterH (led := [(lr, listOf vs.toArray n)]) (args := ⟨[.ref lr], []⟩) (binds := [(Str.ofString "runs", .ref lr)]) hg hl X T ?k6 ?k7 ?k8 ?k9 ?kB ?_ ?c2 ?c3 ?c4 ?c5; (case k6 => k_is); (case k7 => k_is); (case k8 => (dsimp only; omega)); (case k9 => exact BindsTo.of_eq rfl); (case c5 => decide); (case kB => exact locs rfl); (case c2 => exact rfl); (case c3 => exact rfl); (case c4 => exact rfl); k_whole)
  intro L' h' F' N' hlL
  have hLL : lr < L' := hlL _ (.head _)
  replace hLL := ltN hLL
  clear hlL
  (try dsimp only); (try k_fold)
  repeat ((fail_if_success (with_reducible show wpAny _ _ (exec (Stmt.For _ _ _ _ _) _) _ _ _)); first | (k_unfold; (try dsimp only)) | (with_reducible ((with_reducible show wpAny _ _ (compareOp CmpOp.In (Value.str _ _) (Value.ref _)) _ _ _); (k_here; k_dflt (refine' kda_in (knd := PySem.strKind pw _) ?N ?m ?d ?lo ?k _ ?hb ?_; (case N => k_asm); (case m => k_mem); (case d => assumption); (case lo => assumption); (case k => exact beq_self_eq_true _); (case hb => assumption)); (try dsimp only)))) | (with_reducible (k_here; (with_reducible show wpAny _ _ (call (Value.ref 780) [Value.str _ _]) _ _ _); k_dflt (refine' num_at ?F ?N ?X ?T ?hd ?hu ?g ?_; (case F => k_asm); (case N => k_asm); (case X => k_asm); (case T => k_asm); (case hd => (dsimp only; omega)); (case hu => (dsimp only; omega)); (case g => assumption); k_whole); intro t' h' tk' F' N')) | (with_reducible (k_here; (with_reducible show wpAny _ _ (subscriptTail _ _ (Value.str _ _) (Value.int 0 _)) _ _ _); refine item0 (by assumption) (by assumption) (by assumption) ?_)) | (with_reducible ((with_reducible show wpAny _ _ (compareOp CmpOp.In (Value.str _ _) (Value.str _ _)) _ _ _); (k_here; with_reducible (first | refine in_known (r := true) (by with_reducible assumption) ?_ | refine in_known (r := false) (by with_reducible assumption) ?_)))) | (with_reducible ((with_reducible show wpAny _ _ (subscriptTail _ _ (Value.ref _) (Value.str _ _)) _ _ _); (k_here; k_dflt (refine' kda_item (knd := PySem.strKind pw _) ?N ?m ?d ?k ?hl ?_; (case N => k_asm); (case m => k_mem); (case d => assumption); (case k => exact beq_self_eq_true _); (case hl => assumption))))) | walk1 | (dsimp only; walk1))
  rename News _ _ _ _ => NZ
  rename Fr _ _ _ _ => FZ
  rename_i dd _ _ lod hd0 ldd _ od hod0 hf0 _ l _ ll _
  obtain ⟨kvs, hod, hrk⟩ : ∃ kvs, od.IsDictOf (PySem.strKind pw w) kvs ∧ RkAre kvs rankS := by
    refine ⟨_, hod0, ?_⟩
    iterate 10 refine And.intro rfl (And.intro ⟨_, rfl⟩ ?_)
    exact trivial
  clear hf0 hod0 hd0
  k_dflt (refine For_invV g rfl rfl ?_)
  repeat ((fail_if_success (with_reducible show wpAny _ _ (pyIter _) _ _ _)); first | (k_unfold; (try dsimp only)) | (with_reducible ((with_reducible show wpAny _ _ (compareOp CmpOp.In (Value.str _ _) (Value.ref _)) _ _ _); (k_here; k_dflt (refine' kda_in (knd := PySem.strKind pw _) ?N ?m ?d ?lo ?k _ ?hb ?_; (case N => k_asm); (case m => k_mem); (case d => assumption); (case lo => assumption); (case k => exact beq_self_eq_true _); (case hb => assumption)); (try dsimp only)))) | (with_reducible (k_here; (with_reducible show wpAny _ _ (call (Value.ref 780) [Value.str _ _]) _ _ _); k_dflt (refine' num_at ?F ?N ?X ?T ?hd ?hu ?g ?_; (case F => k_asm); (case N => k_asm); (case X => k_asm); (case T => k_asm); (case hd => (dsimp only; omega)); (case hu => (dsimp only; omega)); (case g => assumption); k_whole); intro t' h' tk' F' N')) | (with_reducible (k_here; (with_reducible show wpAny _ _ (subscriptTail _ _ (Value.str _ _) (Value.int 0 _)) _ _ _); refine item0 (by assumption) (by assumption) (by assumption) ?_)) | (with_reducible ((with_reducible show wpAny _ _ (compareOp CmpOp.In (Value.str _ _) (Value.str _ _)) _ _ _); (k_here; with_reducible (first | refine in_known (r := true) (by with_reducible assumption) ?_ | refine in_known (r := false) (by with_reducible assumption) ?_)))) | (with_reducible ((with_reducible show wpAny _ _ (subscriptTail _ _ (Value.ref _) (Value.str _ _)) _ _ _); (k_here; k_dflt (refine' kda_item (knd := PySem.strKind pw _) ?N ?m ?d ?k ?hl ?_; (case N => k_asm); (case m => k_mem); (case d => assumption); (case k => exact beq_self_eq_true _); (case hl => assumption))))) | walk1 | (dsimp only; walk1))
  refine' strs_loop (l := lr) (vs := vs) (ps := rs) (nn := n) (fun c => tdLed l dd lr od vs n c) (fun _ => []) (fun _ => True) [Str.ofString "run"] (fun pre c => ToldAre c.vs pre) ⟨[], 0⟩ rfl (fun c => .tail _ (.tail _ (.head _))) hs (fun c => rfl) (by assumption) (by assumption) trivial (fun p hp => nomatch hp) .nil ?turn ?done
  (case done =>
    intro c u h tk hF hP F1 N1
    (repeat' ((fail_if_success (with_reducible show wpAny _ _ (noteFrame _ _) _ _ _)); (fail_if_success (with_reducible show InvPostN _ _ _ _ _ _ _ _ _)); (fail_if_success (with_reducible show InvEndN _ _ _ _ _ _ _)); first | (k_unfold; (try dsimp only)) | (with_reducible ((with_reducible show wpAny _ _ (compareOp CmpOp.In (Value.str _ _) (Value.ref _)) _ _ _); (k_here; k_dflt (refine' kda_in (knd := PySem.strKind pw _) ?N ?m ?d ?lo ?k _ ?hb ?_; (case N => k_asm); (case m => k_mem); (case d => assumption); (case lo => assumption); (case k => exact beq_self_eq_true _); (case hb => assumption)); (try dsimp only)))) | (with_reducible (k_here; (with_reducible show wpAny _ _ (call (Value.ref 780) [Value.str _ _]) _ _ _); k_dflt (refine' num_at ?F ?N ?X ?T ?hd ?hu ?g ?_; (case F => k_asm); (case N => k_asm); (case X => k_asm); (case T => k_asm); (case hd => (dsimp only; omega)); (case hu => (dsimp only; omega)); (case g => assumption); k_whole); intro t' h' tk' F' N')) | (with_reducible (k_here; (with_reducible show wpAny _ _ (subscriptTail _ _ (Value.str _ _) (Value.int 0 _)) _ _ _); refine item0 (by assumption) (by assumption) (by assumption) ?_)) | (with_reducible ((with_reducible show wpAny _ _ (compareOp CmpOp.In (Value.str _ _) (Value.str _ _)) _ _ _); (k_here; with_reducible (first | refine in_known (r := true) (by with_reducible assumption) ?_ | refine in_known (r := false) (by with_reducible assumption) ?_)))) | (with_reducible ((with_reducible show wpAny _ _ (subscriptTail _ _ (Value.ref _) (Value.str _ _)) _ _ _); (k_here; k_dflt (refine' kda_item (knd := PySem.strKind pw _) ?N ?m ?d ?k ?hl ?_; (case N => k_asm); (case m => k_mem); (case d => assumption); (case k => exact beq_self_eq_true _); (case hl => assumption))))) | walk1 | (dsimp only; walk1)))
    exact hret l c.vs c.n _ _ F1.keep (N1.get (.tail _ (.tail _ (.head _)))) hP (N1.get (.head _)) (N1.fresh (.head _)) ll.2)
  intro c pre post y ty u h tk own hps hoff hF hP F1 N1
  obtain ⟨us, k⟩ := c
  dsimp only [tdLed, List.cons_append, List.nil_append] at N1 hP hoff ⊢
  have hym : y ∈ rs := by rw [hps]; exact List.mem_append_right _ (.head _)
  have a1 : dd ≠ l := Nat.ne_of_lt ll.1
  have a2 : lr ≠ l := Nat.ne_of_lt ll.2
  have a3 : lr ≠ dd := Nat.ne_of_lt ldd
  have ol := hoff.ne (b := l) (.head _)
  have hvl : us.length ≤ 1202 := by
    rw [hP.length]
    have h2 : pre.length ≤ rs.length := by rw [hps]; simp
    omega
  have hyl := hml y hym
  rcases htk y hym with hy | hy
  · have hfind := fig_find hy
    obtain ⟨c0, hit, hc0, hy0⟩ := tok_head hy
    have hin := fig_inS hc0
    (repeat' ((fail_if_success (with_reducible show wpAny _ _ (noteFrame _ _) _ _ _)); (fail_if_success (with_reducible show InvPostN _ _ _ _ _ _ _ _ _)); (fail_if_success (with_reducible show InvEndN _ _ _ _ _ _ _)); first | (k_unfold; (try dsimp only)) | (with_reducible ((with_reducible show wpAny _ _ (compareOp CmpOp.In (Value.str _ _) (Value.ref _)) _ _ _); (k_here; k_dflt (refine' kda_in (knd := PySem.strKind pw _) ?N ?m ?d ?lo ?k _ ?hb ?_; (case N => k_asm); (case m => k_mem); (case d => assumption); (case lo => assumption); (case k => exact beq_self_eq_true _); (case hb => assumption)); (try dsimp only)))) | (with_reducible (k_here; (with_reducible show wpAny _ _ (call (Value.ref 780) [Value.str _ _]) _ _ _); k_dflt (refine' num_at ?F ?N ?X ?T ?hd ?hu ?g ?_; (case F => k_asm); (case N => k_asm); (case X => k_asm); (case T => k_asm); (case hd => (dsimp only; omega)); (case hu => (dsimp only; omega)); (case g => assumption); k_whole); intro t' h' tk' F' N')) | (with_reducible (k_here; (with_reducible show wpAny _ _ (subscriptTail _ _ (Value.str _ _) (Value.int 0 _)) _ _ _); refine item0 (by assumption) (by assumption) (by assumption) ?_)) | (with_reducible ((with_reducible show wpAny _ _ (compareOp CmpOp.In (Value.str _ _) (Value.str _ _)) _ _ _); (k_here; with_reducible (first | refine in_known (r := true) (by with_reducible assumption) ?_ | refine in_known (r := false) (by with_reducible assumption) ?_)))) | (with_reducible ((with_reducible show wpAny _ _ (subscriptTail _ _ (Value.ref _) (Value.str _ _)) _ _ _); (k_here; k_dflt (refine' kda_item (knd := PySem.strKind pw _) ?N ?m ?d ?k ?hl ?_; (case N => k_asm); (case m => k_mem); (case d => assumption); (case k => exact beq_self_eq_true _); (case hl => assumption))))) | walk1 | (dsimp only; walk1)))
    refine td_end (Q := fun _ _ => True) (by assumption) (by assumption) rfl (fun z h1 h3 => ?_) (.fig y _ _ hP hy)
    simp only [if_neg h1]
    show (if _ then _ else _) = _
    rw [h3]
    rfl
  · obtain ⟨c0, hit, hc0, hy0⟩ := tok_head hy
    have hin := oth_inS hc0
    rcases rk_at hrk y with ⟨e1, e2⟩ | ⟨q, tq, e1, e2⟩
    · have e3 : (valueAt kvs y).isSome = false := by rw [e2]; rfl
      have e4 : rankOf y = 0 := by unfold rankOf; rw [e1]; rfl
      (repeat' ((fail_if_success (with_reducible show wpAny _ _ (noteFrame _ _) _ _ _)); (fail_if_success (with_reducible show InvPostN _ _ _ _ _ _ _ _ _)); (fail_if_success (with_reducible show InvEndN _ _ _ _ _ _ _)); first | (k_unfold; (try dsimp only)) | (with_reducible ((with_reducible show wpAny _ _ (compareOp CmpOp.In (Value.str _ _) (Value.ref _)) _ _ _); (k_here; k_dflt (refine' kda_in (knd := PySem.strKind pw _) ?N ?m ?d ?lo ?k _ ?hb ?_; (case N => k_asm); (case m => k_mem); (case d => assumption); (case lo => assumption); (case k => exact beq_self_eq_true _); (case hb => assumption)); (try dsimp only)))) | (with_reducible (k_here; (with_reducible show wpAny _ _ (call (Value.ref 780) [Value.str _ _]) _ _ _); k_dflt (refine' num_at ?F ?N ?X ?T ?hd ?hu ?g ?_; (case F => k_asm); (case N => k_asm); (case X => k_asm); (case T => k_asm); (case hd => (dsimp only; omega)); (case hu => (dsimp only; omega)); (case g => assumption); k_whole); intro t' h' tk' F' N')) | (with_reducible (k_here; (with_reducible show wpAny _ _ (subscriptTail _ _ (Value.str _ _) (Value.int 0 _)) _ _ _); refine item0 (by assumption) (by assumption) (by assumption) ?_)) | (with_reducible ((with_reducible show wpAny _ _ (compareOp CmpOp.In (Value.str _ _) (Value.str _ _)) _ _ _); (k_here; with_reducible (first | refine in_known (r := true) (by with_reducible assumption) ?_ | refine in_known (r := false) (by with_reducible assumption) ?_)))) | (with_reducible ((with_reducible show wpAny _ _ (subscriptTail _ _ (Value.ref _) (Value.str _ _)) _ _ _); (k_here; k_dflt (refine' kda_item (knd := PySem.strKind pw _) ?N ?m ?d ?k ?hl ?_; (case N => k_asm); (case m => k_mem); (case d => assumption); (case k => exact beq_self_eq_true _); (case hl => assumption))))) | walk1 | (dsimp only; walk1)))
      refine td_end (Q := fun _ _ => True) (by assumption) (by assumption) rfl (fun z h1 h3 => ?_) (by rw [← e4]; exact .oth y _ _ hP hy)
      simp only [if_neg h1]
      show (if _ then _ else _) = _
      rw [h3]
      rfl
    · have e3 : (valueAt kvs y).isSome = true := by rw [e2]; rfl
      have e4 : rankOf y = q := by unfold rankOf; rw [e1]; rfl
      (repeat' ((fail_if_success (with_reducible show wpAny _ _ (noteFrame _ _) _ _ _)); (fail_if_success (with_reducible show InvPostN _ _ _ _ _ _ _ _ _)); (fail_if_success (with_reducible show InvEndN _ _ _ _ _ _ _)); first | (k_unfold; (try dsimp only)) | (with_reducible ((with_reducible show wpAny _ _ (compareOp CmpOp.In (Value.str _ _) (Value.ref _)) _ _ _); (k_here; k_dflt (refine' kda_in (knd := PySem.strKind pw _) ?N ?m ?d ?lo ?k _ ?hb ?_; (case N => k_asm); (case m => k_mem); (case d => assumption); (case lo => assumption); (case k => exact beq_self_eq_true _); (case hb => assumption)); (try dsimp only)))) | (with_reducible (k_here; (with_reducible show wpAny _ _ (call (Value.ref 780) [Value.str _ _]) _ _ _); k_dflt (refine' num_at ?F ?N ?X ?T ?hd ?hu ?g ?_; (case F => k_asm); (case N => k_asm); (case X => k_asm); (case T => k_asm); (case hd => (dsimp only; omega)); (case hu => (dsimp only; omega)); (case g => assumption); k_whole); intro t' h' tk' F' N')) | (with_reducible (k_here; (with_reducible show wpAny _ _ (subscriptTail _ _ (Value.str _ _) (Value.int 0 _)) _ _ _); refine item0 (by assumption) (by assumption) (by assumption) ?_)) | (with_reducible ((with_reducible show wpAny _ _ (compareOp CmpOp.In (Value.str _ _) (Value.str _ _)) _ _ _); (k_here; with_reducible (first | refine in_known (r := true) (by with_reducible assumption) ?_ | refine in_known (r := false) (by with_reducible assumption) ?_)))) | (with_reducible ((with_reducible show wpAny _ _ (subscriptTail _ _ (Value.ref _) (Value.str _ _)) _ _ _); (k_here; k_dflt (refine' kda_item (knd := PySem.strKind pw _) ?N ?m ?d ?k ?hl ?_; (case N => k_asm); (case m => k_mem); (case d => assumption); (case k => exact beq_self_eq_true _); (case hl => assumption))))) | walk1 | (dsimp only; walk1)))
      refine td_end (Q := fun _ _ => True) (by assumption) (by assumption) rfl (fun z h1 h3 => ?_) (by rw [← e4]; exact .oth y _ _ hP hy)
      simp only [if_neg h1]
      show (if _ then _ else _) = _
      rw [h3]
      rfl
end Mine
end
section
open PySem PySem.W PySem.W.X PyProof.Rows PySem.Calls
set_option maxRecDepth 100000
set_option maxHeartbeats 8000000
namespace Mine
section
variable {M : Model} {A : Around} {E : Value → Shared → Prop} {s : Shared} {K : Frag} {h₀ : Heap} {L C : Addr} {m mg mb : Str → Option Value} {scope : Scope} {env : PySem.Env} {p : Program} {loose : List Str} {x : Str} {pos : Pos} {v : Value} {Q : Value → Shared → Prop}
theorem cg_global (F : Fr h₀ L s.heap m) (X : K.In h₀) (T : TopRead p loose mg mb h₀) (e : nsIn K mainGlobals x = some (some v)) (h : Q v s) (hg : env.globals = mainGlobals := by rfl)
    (hk : scope.kind = .function := by rfl) (hx : (compEnv scope C env).kindOf x = some .globalImplicit := by rfl) (hd : (x == ("__debug__" : Str)) = false := by decide) :
    wpAny M A (eval (.Name x pos) (compEnv scope C env)) Q E s :=
  Name_function_global hk hx (loadGlobal_global (env := compEnv scope C env) (show s.heap.Ns env.globals mg from hg ▸ (T.keeps F.keep).g) (mg_of X T.g e) h) hd
theorem cg_built (F : Fr h₀ L s.heap m) (X : K.In h₀) (T : TopRead p loose mg mb h₀) (e : nsIn K mainGlobals x = some none) (hv : bootBuiltins x = some v) (hn : x ≠ "__name__") (h : Q v s) (hg : env.globals = mainGlobals := by rfl) (hb : env.builtins = builtinsNs := by rfl)
    (hk : scope.kind = .function := by rfl) (hx : (compEnv scope C env).kindOf x = some .globalImplicit := by rfl) (hd : (x == ("__debug__" : Str)) = false := by decide) :
    wpAny M A (eval (.Name x pos) (compEnv scope C env)) Q E s :=
  Name_function_global hk hx (loadGlobal_builtin (env := compEnv scope C env) (show s.heap.Ns env.globals mg from hg ▸ (T.keeps F.keep).g) (mg_none_of X T.g e) (show s.heap.Ns env.builtins mb from hb ▸ (T.keeps F.keep).b) ((T.builtins x hn).trans hv) h) hd
end
theorem num_at2 {w : World} {mg mb : Str → Option Value} {dp un : Nat} {gd : Option (List Code)} {fr : List Env} {h₀ : Heap} {L : Addr} {m : Str → Option Value} {news : List (Addr × Obj)} {s : Shared} {Q E : Value → Shared → Prop} {run : Str} {t : Tok}
    (F : Fr h₀ L s.heap m) (N : News h₀ L s.heap news) (X : (K3 w.params).In h₀) (T : TopRead q1 loose1 mg mb h₀) (hd : dp + 5 < recursionLimit) (hu : un + 40 < cLine)
    (hdg : ∀ a ∈ signs run, 0 ≤ Txt.find (Str.ofString "0123456789") a)
    (hret : ∀ t' h' tk', (∀ b o, s.heap.get? b = some o → h'.get? b = some o) → Fr h₀ L h' m → News h₀ L h' news → Q (.int (numOf run) t') { s with heap := h', toks := tk' }) :
    wpAny (model pw w) { handled := none, depth := dp, frames := some fr, guards := gd, units := un } (call (.ref 780) [.str run t]) Q E s := by
  refine num_spec' (X.keeps F.keep) (T.keeps F.keep) hd hu hdg fun t' h' tk' hk => ?_
  exact hret t' h' tk' hk (F.of_stays (fun b o e => hk b o (F.keep b o e)) (Heap.UpToSlots.of_keeps hk)) fun p hp => ⟨hk _ _ (N p hp).1, (N p hp).2⟩
/-- the source of a comprehension is known -/
noncomputable def CompIn (prog : Program) (w : World) (A : Around) (env : PySem.Env) (h₀ : Heap) (L : Addr) (m : Str → Option Value) (elt : PySem.Expr) (x : Str) (ifs : List PySem.Expr) (scope : Scope) (p : Value → Bool) (R : Value → Value → Prop) (Q : Value → Shared → Prop) (xv : Value) (s₁ : Shared) : Prop :=
  ∃ ax items news, xv = .ref ax ∧ Fr h₀ L s₁.heap m ∧ News h₀ L s₁.heap news ∧ s₁.heap.IsList ax items ∧ items.size ≤ sizeLine ∧
      (∀ C v s₂ m₂ E', v ∈ items → s₂.heap.Ns C m₂ → m₂ x = some v → (∀ b o, s₁.heap.get? b = some o → s₂.heap.get? b = some o) →
        wpAny (model prog w) A (forIn ifs true fun c r => if r = true then do let ok ← isTrue c (compEnv scope C env) (eval c (compEnv scope C env)); pure (ForInStep.yield ok) else pure (ForInStep.yield r))
          (fun ok s₃ => ok = p v ∧ Keeps s₂ s₃) E' s₂) ∧
      (∀ C v s₂ m₂ E', v ∈ items → p v = true → s₂.heap.Ns C m₂ → m₂ x = some v → (∀ b o, s₁.heap.get? b = some o → s₂.heap.get? b = some o) → wpAny (model prog w) A (eval elt (compEnv scope C env)) (fun y s₃ => R v y ∧ Keeps s₂ s₃) E' s₂) ∧
      (∀ D h' tk ys, h'.IsList D ys → Paired R (items.toList.filter p) ys.toList → Fr h₀ L h' m → News h₀ L h' news → h₀.get? D = none → D ≠ L → (∀ q ∈ news, q.1 ≠ D) → Q (.ref D) { s₁ with heap := h', toks := tk })
theorem comp_in {prog : Program} {w : World} {A : Around} {E : Value → Shared → Prop} {s : Shared} {env : PySem.Env} {h₀ : Heap} {L : Addr} {m : Str → Option Value} {elt iter : PySem.Expr} {x : Str} {px : Pos} {ifs : List PySem.Expr} {scope : Scope} {pos : Pos} {Q : Value → Shared → Prop} (p : Value → Bool) (R : Value → Value → Prop)
    (F₀ : Fr h₀ L s.heap m) (hh : A.handled = none) (hfree : ∀ y ∈ scope.names, y.2 ≠ .free) (hcell : ∀ y ∈ scope.names, y.2 ≠ .cell) (hkind : scope.kind = .function)
    (hnames : ∀ y ∈ scope.names, y.2 = .local → scope.names.lookup y.1 = some .local) (hx : scope.names.lookup x = some .local)
    (h : wpAny (model prog w) A (eval iter env) (CompIn prog w A env h₀ L m elt x ifs scope p R Q) E s)
    (hs : ∀ x, foldedSetIterable iter env x = pure x := by intro _; rfl) :
    wpAny (model prog w) A (eval (.ListComp elt [⟨.Name x px, iter, ifs, 0⟩] scope pos) env) Q E s :=
  comp_at p R F₀ hh hfree hcell hkind hnames hx h hs
section
variable {prog : Program} {w : World} {A : Around} {E : Value → Shared → Prop} {s : Shared} {h₀ : Heap} {L l : Addr} {m : Str → Option Value} {news : List (Addr × Obj)} {value slice : PySem.Expr} {vs : List Value} {vl vu : Value} {y : Int} {Q : Value → Shared → Prop}
theorem slice_upto {n : Nat} {t : Tok} (F : Fr h₀ L s.heap m) (N : News h₀ L s.heap news) (hm : (l, listOf vs.toArray n) ∈ news) (hy : 0 ≤ y) (hz : vs.length ≤ 1000)
    (h : ∀ D h', Fr h₀ L h' m → News h₀ L h' ((D, listOf (vs.take y.toNat).toArray 0) :: news) → (∀ p ∈ news, p.1 < D) → Q (.ref D) { s with heap := h' })
    (hs : subscripted slice false (.ref l) (.ref s.heap.objs.size) = operate [.ref s.heap.objs.size, .ref l] (getItem (.ref l) (.ref s.heap.objs.size))) (ht : ∀ r, letTemporaryGo value (.ref l) r = pure ()) :
    wpAny (model prog w) A (subscriptTail value slice (.ref l) (.ref s.heap.objs.size)) Q E { s with heap := s.heap.push { cls := .type "slice", data := .fields #[.none, .int y t, .none] } } := by
  refine kmk_slice_lit (its := vs.toArray) (lo := none) (hi := some y) F N ⟨_, (N _ hm).1, rfl, n, rfl⟩ .none (.int _ _) ?_ h hs ht (by rw [sizeLine_eq]; simp; omega)
  have e := slicePick_upto' vs.toArray y.toNat
  rw [Int.toNat_of_nonneg hy] at e
  rw [e]
theorem slice_less {n : Nat} {t : Tok} (F : Fr h₀ L s.heap m) (N : News h₀ L s.heap news) (hm : (l, listOf vs.toArray n) ∈ news) (hz : vs.length ≤ 1000)
    (h : ∀ D h', Fr h₀ L h' m → News h₀ L h' ((D, listOf vs.dropLast.toArray 0) :: news) → (∀ p ∈ news, p.1 < D) → Q (.ref D) { s with heap := h' })
    (hs : subscripted slice false (.ref l) (.ref s.heap.objs.size) = operate [.ref s.heap.objs.size, .ref l] (getItem (.ref l) (.ref s.heap.objs.size))) (ht : ∀ r, letTemporaryGo value (.ref l) r = pure ()) :
    wpAny (model prog w) A (subscriptTail value slice (.ref l) (.ref s.heap.objs.size)) Q E { s with heap := s.heap.push { cls := .type "slice", data := .fields #[.none, .int (-1) t, .none] } } := by
  refine kmk_slice_lit (its := vs.toArray) (lo := none) (hi := some (-1)) F N ⟨_, (N _ hm).1, rfl, n, rfl⟩ .none (.int _ _) ?_ h hs ht (by rw [sizeLine_eq]; simp; omega)
  have e := slicePick_butLast vs.toArray 1 (Nat.le_refl _)
  rw [show (-((1 : Nat) : Int)) = -1 from rfl] at e
  rw [e, List.dropLast_eq_take]
  simp
theorem join_at' {D : Addr} {items : Array Value} {ys : List Str} {x : Str} {t : Tok} (hD : s.heap.IsList D items) (hi : StrsAre items.toList ys) (hx : x.length ≤ 2) (hl : ys.length ≤ 100) (hw : ∀ y ∈ ys, y.length ≤ 2000)
    (h : ∀ t' k, Q (.str (Txt.join x ys) t') { s with toks := k }) : wpAny (model prog w) A (call (.builtin "str.join") [.str x t, .ref D]) Q E s := by
  refine join_listW hD hi (Nat.le_trans hx (by decide)) ?_ h
  have := StrLaws.sumLen_le ys hw
  have h2 : ys.length * 2000 ≤ 100 * 2000 := Nat.mul_le_mul_right _ hl
  omega
theorem join_at {D : Addr} {ws : List Value} {ys : List Str} {n : Nat} {x : Str} {t : Tok} (N : News h₀ L s.heap news) (hm : (D, listOf ws.toArray n) ∈ news) (hi : StrsAre ws ys) (hx : x.length ≤ 2) (hl : ys.length ≤ 100) (hw : ∀ y ∈ ys, y.length ≤ 2000)
    (h : ∀ t' k, Q (.str (Txt.join x ys) t') { s with toks := k }) : wpAny (model prog w) A (call (.builtin "str.join") [.str x t, .ref D]) Q E s := by
  refine join_listW (items := ws.toArray) ⟨_, (N _ hm).1, rfl, n, rfl⟩ hi (Nat.le_trans hx (by decide)) ?_ h
  have := StrLaws.sumLen_le ys hw
  have h2 : ys.length * 2000 ≤ 100 * 2000 := Nat.mul_le_mul_right _ hl
  omega
end
theorem isList_of {g h : Heap} {L D : Addr} {news : List (Addr × Obj)} {o : Obj} {ys : Array Value} (N : News g L h news) (hm : (D, o) ∈ news) (hc : o.cls = .type "list") (hd : ∃ n, o.data = .seq ys n) : h.IsList D ys := ⟨o, (N _ hm).1, hc, hd⟩
noncomputable def pOth : Value → Bool
  | .str y _ => !inS (Str.ofString "0123456789") (Txt.item y 0)
  | _ => false
theorem filter_oth_nil {vs : List Value} {rs : List Str} (hs : StrsAre vs rs) (h : ∀ r ∈ rs, IsFig r) : vs.filter pOth = [] := by
  rw [List.filter_eq_nil_iff]
  intro v hv
  obtain ⟨j, hj⟩ := List.getElem?_of_mem hv
  obtain ⟨y, t, rfl, hy⟩ := strs_at hs hj
  obtain ⟨c, e, hk, _⟩ := tok_head (h y (List.mem_of_getElem? hy))
  show ¬ (!inS _ (Txt.item y 0)) = true
  rw [e, fig_inS hk]
  decide
theorem strs_mem : ∀ {vs : List Value} {rs : List Str} {y : Str}, StrsAre vs rs → y ∈ rs → ∃ t, Value.str y t ∈ vs := by
  intro vs rs y h hm
  obtain ⟨j, hj⟩ := List.getElem?_of_mem hm
  obtain ⟨t, ht⟩ := h.at hj
  exact ⟨t, List.mem_of_getElem? ht⟩
theorem filter_oth_some {vs : List Value} {rs : List Str} (hs : StrsAre vs rs) (ht : ∀ r ∈ rs, TokOf r) (h : ¬ ∀ r ∈ rs, IsFig r) : vs.filter pOth ≠ [] := by
  intro e
  refine h fun r hr => ?_
  rcases ht r hr with h | h
  · exact h
  · exfalso
    obtain ⟨c, e2, hk, _⟩ := tok_head h
    obtain ⟨t, hm⟩ := strs_mem hs hr
    rw [List.filter_eq_nil_iff] at e
    refine e _ hm ?_
    show (!inS _ (Txt.item r 0)) = true
    rw [e2, oth_inS hk]
    rfl
noncomputable def NumAs (v y : Value) : Prop := ∃ x t u, v = .str x t ∧ y = .str (numS x) u
theorem nums_are : ∀ {vs ys : List Value} {rs : List Str}, StrsAre vs rs → Paired NumAs vs ys → StrsAre ys (rs.map numS)
  | _, _, _, .nil, .nil => .nil
  | _, _, _, .cons y t h, .cons e r => by
    obtain ⟨x, t1, u, h1, rfl⟩ := e
    injection h1 with h1 _
    subst h1
    exact .cons _ _ (nums_are h r)
theorem short_spec {w : World} {mg mb : Str → Option Value} {dp un : Nat} {gd : Option (List Code)} {outer : List Env} {s : Shared} {Q E : Value → Shared → Prop} {lr : Addr} {vs : List Value} {n : Nat} {rs : List Str} {g : Heap}
    (hg : g = hideAll s.heap [lr]) (hlr : s.heap.get? lr = some (listOf vs.toArray n)) (hs : StrsAre vs rs) (htk : ∀ r ∈ rs, TokOf r) (hrl : rs.length ≤ 100) (hml : ∀ r ∈ rs, r.length ≤ 100)
    (X : (K3 w.params).In g) (T : TopRead q1 loose1 mg mb g) (hd : dp + 20 < recursionLimit) (hu : un + 200 < cLine)
    (hret : ∀ t' h' tk', (∀ b o, g.get? b = some o → h'.get? b = some o) → h'.get? lr = some (listOf vs.toArray n) → Q (.str (shortOf rs) t') { s with heap := h', toks := tk' }) :
    wpAny (model pw w) (actx dp un gd outer) (call (.ref 792) [.ref lr]) Q E s := by
  have hfill : PySem.Challenge.rw_ox0114_01 = PySem.Challenge.rw_ox0114_01 ∧ K3 = K3 := by
    k_fill
    exact ⟨rfl, rfl⟩
  clear hfill
  have hl : ∀ p ∈ [(lr, listOf vs.toArray n)], s.heap.get? p.1 = some p.2 := by
    intro p hp
    rw [List.mem_singleton.mp hp]
    exact hlr
  refine wpAny_call ?_
  k_dflt (refine' enterH (led := [(lr, listOf vs.toArray n)]) (args := ⟨[.ref lr], []⟩) (binds := [(Str.ofString "runs", .ref lr)]) hg hl X T ?k6 ?k7 ?k8 ?k9 ?kB ?_ ?c2 ?c3 ?c4 ?c5; (case k6 => k_is); (case k7 => k_is); (case k8 => (dsimp only; omega)); (case k9 => exact BindsTo.of_eq rfl); (case c5 => decide); (case kB => exact locs rfl); (case c2 => exact rfl); (case c3 => exact rfl); (case c4 => exact rfl); k_whole)
  intro L' h' F' N' hlL
  have hLL : lr < L' := hlL _ (.head _)
  replace hLL := ltN hLL
  clear hlL
  have hvl : vs.length ≤ 1000 := by rw [hs.length]; omega
  (try dsimp only); (try k_fold)
  iterate 3 (try (first | (k_unfold; (try dsimp only)) | (with_reducible (k_here; (with_reducible show wpAny _ _ (call (Value.ref 780) [Value.str _ _]) _ _ _); k_dflt (refine' num_at2 ?F ?N ?X ?T ?hd ?hu ?g ?_; (case F => k_asm); (case N => k_asm); (case X => k_asm); (case T => k_asm); (case hd => (dsimp only; omega)); (case hu => (dsimp only; omega)); (case g => assumption); k_whole); intro t' h' tk' k' F' N')) | (with_reducible (k_here; (with_reducible show wpAny _ _ (subscriptTail _ _ (Value.str _ _) (Value.int 0 _)) _ _ _); refine item0 (by assumption) (by assumption) (by assumption) ?_)) | (with_reducible ((with_reducible show wpAny _ _ (compareOp CmpOp.In (Value.str _ _) (Value.str _ _)) _ _ _); (k_here; with_reducible (first | refine in_known (r := true) (by with_reducible assumption) ?_ | refine in_known (r := false) (by with_reducible assumption) ?_)))) | (with_reducible (k_here; (with_reducible show wpAny _ _ (eval _ (compEnv _ _ _)) _ _ _); first | refine ldc (by assumption) (by assumption) ?_ | k_dflt (refine cg_global (by k_asm) (by k_asm) (by k_asm) (by k_is) ?_) | k_dflt (refine cg_built (by k_asm) (by k_asm) (by k_asm) (by k_is) (by boot_by_name) (by decide) ?_))) | (with_reducible ((with_reducible show wpAny _ _ (compareOp CmpOp.NotIn (Value.str _ _) (Value.str _ _)) _ _ _); (k_here; with_reducible (first | refine notin_t (by with_reducible assumption) ?_ | refine notin_f (by with_reducible assumption) ?_)))) | (with_reducible (k_here; (with_reducible show wpAny _ _ (compareOp CmpOp.Eq (Value.ref _) (Value.ref _)) _ _ _); k_dflt (refine' eq_nil_list ?D ?e ?u ?_; (case D => exact isList_of (by k_asm) (.tail _ (.head _)) (by assumption) (by assumption)); (case e => exact ⟨_, News.get (by k_asm) (.head _), rfl, _, rfl⟩); (case u => (dsimp only [Around.deeper]; omega)); k_whole))) | (with_reducible (k_here; (with_reducible show wpAny _ _ (subscriptTail _ (PySem.Expr.Slice _ _ none _) (Value.ref _) (Value.ref _)) _ _ _); k_dflt (refine' slice_upto ?F ?N ?m ?y ?z ?_ ?s ?t; (case F => k_asm); (case N => k_asm); (case m => k_mem); (case y => decide); (case z => assumption); (case s => with_unfolding_all rfl); (case t => kmk_pure)); intro D' h' F' N' l1; (try k_lt l1); (try k_sweep))) | walk1 | (dsimp only; walk1)))
  rename News _ _ _ _ => NZ
  rename Fr _ _ _ _ => FZ
  k_dflt (refine comp_at (h₀ := g) (L := L') pOth Eq FZ rfl (by decide) (by decide) rfl (by decide) rfl ?_ (by intro _; rfl))
  walk1
  refine ⟨lr, vs.toArray, [(lr, listOf vs.toArray n)], rfl, FZ, NZ, ⟨_, (NZ _ (.head _)).1, rfl, n, rfl⟩, ?z, ?t, ?e, ?d⟩
  case z => simp [hs.length, sizeLine_eq]; omega
  case t =>
    intro C v s₂ m₂ E' hv hn hm hk
    obtain ⟨j, hj⟩ := List.getElem?_of_mem (List.mem_toArray.mp hv)
    obtain ⟨y, t, rfl, hy⟩ := strs_at hs hj
    have hym : y ∈ rs := List.mem_of_getElem? hy
    have hyl : y.length ≤ 600 := Nat.le_trans (hml y hym) (by decide)
    have hm' : s₂.heap.Ns C m₂ := hn
    rcases htk y hym with h | h
    · obtain ⟨c0, hit, hc0, hy0⟩ := tok_head h
      have hin := fig_inS hc0
      (repeat' ((fail_if_success (with_reducible show wpAny _ _ (noteFrame _ _) _ _ _)); (fail_if_success (with_reducible show InvPostN _ _ _ _ _ _ _ _ _)); (fail_if_success (with_reducible show InvEndN _ _ _ _ _ _ _)); (fail_if_success (with_reducible show wpAny _ _ (eval (PySem.Expr.ListComp _ _ _ _) _) _ _ _)); (fail_if_success (with_reducible show CompIn _ _ _ _ _ _ _ _ _ _ _ _ _ _ _ _)); first | (k_unfold; (try dsimp only)) | (with_reducible (k_here; (with_reducible show wpAny _ _ (call (Value.ref 780) [Value.str _ _]) _ _ _); k_dflt (refine' num_at2 ?F ?N ?X ?T ?hd ?hu ?g ?_; (case F => k_asm); (case N => k_asm); (case X => k_asm); (case T => k_asm); (case hd => (dsimp only; omega)); (case hu => (dsimp only; omega)); (case g => assumption); k_whole); intro t' h' tk' k' F' N')) | (with_reducible (k_here; (with_reducible show wpAny _ _ (subscriptTail _ _ (Value.str _ _) (Value.int 0 _)) _ _ _); refine item0 (by assumption) (by assumption) (by assumption) ?_)) | (with_reducible ((with_reducible show wpAny _ _ (compareOp CmpOp.In (Value.str _ _) (Value.str _ _)) _ _ _); (k_here; with_reducible (first | refine in_known (r := true) (by with_reducible assumption) ?_ | refine in_known (r := false) (by with_reducible assumption) ?_)))) | (with_reducible (k_here; (with_reducible show wpAny _ _ (eval _ (compEnv _ _ _)) _ _ _); first | refine ldc (by assumption) (by assumption) ?_ | k_dflt (refine cg_global (by k_asm) (by k_asm) (by k_asm) (by k_is) ?_) | k_dflt (refine cg_built (by k_asm) (by k_asm) (by k_asm) (by k_is) (by boot_by_name) (by decide) ?_))) | (with_reducible ((with_reducible show wpAny _ _ (compareOp CmpOp.NotIn (Value.str _ _) (Value.str _ _)) _ _ _); (k_here; with_reducible (first | refine notin_t (by with_reducible assumption) ?_ | refine notin_f (by with_reducible assumption) ?_)))) | (with_reducible (k_here; (with_reducible show wpAny _ _ (compareOp CmpOp.Eq (Value.ref _) (Value.ref _)) _ _ _); k_dflt (refine' eq_nil_list ?D ?e ?u ?_; (case D => exact isList_of (by k_asm) (.tail _ (.head _)) (by assumption) (by assumption)); (case e => exact ⟨_, News.get (by k_asm) (.head _), rfl, _, rfl⟩); (case u => (dsimp only [Around.deeper]; omega)); k_whole))) | (with_reducible (k_here; (with_reducible show wpAny _ _ (subscriptTail _ (PySem.Expr.Slice _ _ none _) (Value.ref _) (Value.ref _)) _ _ _); k_dflt (refine' slice_upto ?F ?N ?m ?y ?z ?_ ?s ?t; (case F => k_asm); (case N => k_asm); (case m => k_mem); (case y => decide); (case z => assumption); (case s => with_unfolding_all rfl); (case t => kmk_pure)); intro D' h' F' N' l1; (try k_lt l1); (try k_sweep))) | walk1 | (dsimp only; walk1)))
      · show _ = !inS _ (Txt.item y 0)
        rw [hit, hin]
        rfl
      · exact ⟨_, _, rfl, fun _ _ e => e⟩
    · obtain ⟨c0, hit, hc0, hy0⟩ := tok_head h
      have hin := oth_inS hc0
      (repeat' ((fail_if_success (with_reducible show wpAny _ _ (noteFrame _ _) _ _ _)); (fail_if_success (with_reducible show InvPostN _ _ _ _ _ _ _ _ _)); (fail_if_success (with_reducible show InvEndN _ _ _ _ _ _ _)); (fail_if_success (with_reducible show wpAny _ _ (eval (PySem.Expr.ListComp _ _ _ _) _) _ _ _)); (fail_if_success (with_reducible show CompIn _ _ _ _ _ _ _ _ _ _ _ _ _ _ _ _)); first | (k_unfold; (try dsimp only)) | (with_reducible (k_here; (with_reducible show wpAny _ _ (call (Value.ref 780) [Value.str _ _]) _ _ _); k_dflt (refine' num_at2 ?F ?N ?X ?T ?hd ?hu ?g ?_; (case F => k_asm); (case N => k_asm); (case X => k_asm); (case T => k_asm); (case hd => (dsimp only; omega)); (case hu => (dsimp only; omega)); (case g => assumption); k_whole); intro t' h' tk' k' F' N')) | (with_reducible (k_here; (with_reducible show wpAny _ _ (subscriptTail _ _ (Value.str _ _) (Value.int 0 _)) _ _ _); refine item0 (by assumption) (by assumption) (by assumption) ?_)) | (with_reducible ((with_reducible show wpAny _ _ (compareOp CmpOp.In (Value.str _ _) (Value.str _ _)) _ _ _); (k_here; with_reducible (first | refine in_known (r := true) (by with_reducible assumption) ?_ | refine in_known (r := false) (by with_reducible assumption) ?_)))) | (with_reducible (k_here; (with_reducible show wpAny _ _ (eval _ (compEnv _ _ _)) _ _ _); first | refine ldc (by assumption) (by assumption) ?_ | k_dflt (refine cg_global (by k_asm) (by k_asm) (by k_asm) (by k_is) ?_) | k_dflt (refine cg_built (by k_asm) (by k_asm) (by k_asm) (by k_is) (by boot_by_name) (by decide) ?_))) | (with_reducible ((with_reducible show wpAny _ _ (compareOp CmpOp.NotIn (Value.str _ _) (Value.str _ _)) _ _ _); (k_here; with_reducible (first | refine notin_t (by with_reducible assumption) ?_ | refine notin_f (by with_reducible assumption) ?_)))) | (with_reducible (k_here; (with_reducible show wpAny _ _ (compareOp CmpOp.Eq (Value.ref _) (Value.ref _)) _ _ _); k_dflt (refine' eq_nil_list ?D ?e ?u ?_; (case D => exact isList_of (by k_asm) (.tail _ (.head _)) (by assumption) (by assumption)); (case e => exact ⟨_, News.get (by k_asm) (.head _), rfl, _, rfl⟩); (case u => (dsimp only [Around.deeper]; omega)); k_whole))) | (with_reducible (k_here; (with_reducible show wpAny _ _ (subscriptTail _ (PySem.Expr.Slice _ _ none _) (Value.ref _) (Value.ref _)) _ _ _); k_dflt (refine' slice_upto ?F ?N ?m ?y ?z ?_ ?s ?t; (case F => k_asm); (case N => k_asm); (case m => k_mem); (case y => decide); (case z => assumption); (case s => with_unfolding_all rfl); (case t => kmk_pure)); intro D' h' F' N' l1; (try k_lt l1); (try k_sweep))) | walk1 | (dsimp only; walk1)))
      · show _ = !inS _ (Txt.item y 0)
        rw [hit, hin]
        rfl
      · exact ⟨_, _, rfl, fun _ _ e => e⟩
  case e =>
    intro C v s₂ m₂ E' hv hp hn hm hk
    (repeat' ((fail_if_success (with_reducible show wpAny _ _ (noteFrame _ _) _ _ _)); (fail_if_success (with_reducible show InvPostN _ _ _ _ _ _ _ _ _)); (fail_if_success (with_reducible show InvEndN _ _ _ _ _ _ _)); (fail_if_success (with_reducible show wpAny _ _ (eval (PySem.Expr.ListComp _ _ _ _) _) _ _ _)); (fail_if_success (with_reducible show CompIn _ _ _ _ _ _ _ _ _ _ _ _ _ _ _ _)); first | (k_unfold; (try dsimp only)) | (with_reducible (k_here; (with_reducible show wpAny _ _ (call (Value.ref 780) [Value.str _ _]) _ _ _); k_dflt (refine' num_at2 ?F ?N ?X ?T ?hd ?hu ?g ?_; (case F => k_asm); (case N => k_asm); (case X => k_asm); (case T => k_asm); (case hd => (dsimp only; omega)); (case hu => (dsimp only; omega)); (case g => assumption); k_whole); intro t' h' tk' k' F' N')) | (with_reducible (k_here; (with_reducible show wpAny _ _ (subscriptTail _ _ (Value.str _ _) (Value.int 0 _)) _ _ _); refine item0 (by assumption) (by assumption) (by assumption) ?_)) | (with_reducible ((with_reducible show wpAny _ _ (compareOp CmpOp.In (Value.str _ _) (Value.str _ _)) _ _ _); (k_here; with_reducible (first | refine in_known (r := true) (by with_reducible assumption) ?_ | refine in_known (r := false) (by with_reducible assumption) ?_)))) | (with_reducible (k_here; (with_reducible show wpAny _ _ (eval _ (compEnv _ _ _)) _ _ _); first | refine ldc (by assumption) (by assumption) ?_ | k_dflt (refine cg_global (by k_asm) (by k_asm) (by k_asm) (by k_is) ?_) | k_dflt (refine cg_built (by k_asm) (by k_asm) (by k_asm) (by k_is) (by boot_by_name) (by decide) ?_))) | (with_reducible ((with_reducible show wpAny _ _ (compareOp CmpOp.NotIn (Value.str _ _) (Value.str _ _)) _ _ _); (k_here; with_reducible (first | refine notin_t (by with_reducible assumption) ?_ | refine notin_f (by with_reducible assumption) ?_)))) | (with_reducible (k_here; (with_reducible show wpAny _ _ (compareOp CmpOp.Eq (Value.ref _) (Value.ref _)) _ _ _); k_dflt (refine' eq_nil_list ?D ?e ?u ?_; (case D => exact isList_of (by k_asm) (.tail _ (.head _)) (by assumption) (by assumption)); (case e => exact ⟨_, News.get (by k_asm) (.head _), rfl, _, rfl⟩); (case u => (dsimp only [Around.deeper]; omega)); k_whole))) | (with_reducible (k_here; (with_reducible show wpAny _ _ (subscriptTail _ (PySem.Expr.Slice _ _ none _) (Value.ref _) (Value.ref _)) _ _ _); k_dflt (refine' slice_upto ?F ?N ?m ?y ?z ?_ ?s ?t; (case F => k_asm); (case N => k_asm); (case m => k_mem); (case y => decide); (case z => assumption); (case s => with_unfolding_all rfl); (case t => kmk_pure)); intro D' h' F' N' l1; (try k_lt l1); (try k_sweep))) | walk1 | (dsimp only; walk1)))
    exact ⟨_, _, rfl, fun _ _ e => e⟩
  case d =>
    intro D h9 tk9 ys hD hP F9 N9 q1 q2 q3
    obtain ⟨oD, hoD, hDc, kD, hDd⟩ := id hD
    have N10 : News g L' h9 [(D, oD), (lr, listOf vs.toArray n)] := by
      intro p hp
      rcases List.mem_cons.mp hp with rfl | hp
      · exact ⟨hoD, q2, q1⟩
      · exact N9 p hp
    clear N9
    have hys := paired_eq hP
    have hDl : ∃ n, oD.data = .seq ys n := ⟨kD, hDd⟩
    by_cases hall : ∀ r ∈ rs, IsFig r
    · rw [show vs.toArray.toList = vs from rfl, filter_oth_nil hs hall] at hys
      have hy0 : ys = #[] := Array.toList_inj.mp hys
      subst hy0
      (repeat' ((fail_if_success (with_reducible show wpAny _ _ (noteFrame _ _) _ _ _)); (fail_if_success (with_reducible show InvPostN _ _ _ _ _ _ _ _ _)); (fail_if_success (with_reducible show InvEndN _ _ _ _ _ _ _)); (fail_if_success (with_reducible show wpAny _ _ (eval (PySem.Expr.ListComp _ _ _ _) _) _ _ _)); (fail_if_success (with_reducible show CompIn _ _ _ _ _ _ _ _ _ _ _ _ _ _ _ _)); first | (k_unfold; (try dsimp only)) | (with_reducible (k_here; (with_reducible show wpAny _ _ (call (Value.ref 780) [Value.str _ _]) _ _ _); k_dflt (refine' num_at2 ?F ?N ?X ?T ?hd ?hu ?g ?_; (case F => k_asm); (case N => k_asm); (case X => k_asm); (case T => k_asm); (case hd => (dsimp only; omega)); (case hu => (dsimp only; omega)); (case g => assumption); k_whole); intro t' h' tk' k' F' N')) | (with_reducible (k_here; (with_reducible show wpAny _ _ (subscriptTail _ _ (Value.str _ _) (Value.int 0 _)) _ _ _); refine item0 (by assumption) (by assumption) (by assumption) ?_)) | (with_reducible ((with_reducible show wpAny _ _ (compareOp CmpOp.In (Value.str _ _) (Value.str _ _)) _ _ _); (k_here; with_reducible (first | refine in_known (r := true) (by with_reducible assumption) ?_ | refine in_known (r := false) (by with_reducible assumption) ?_)))) | (with_reducible (k_here; (with_reducible show wpAny _ _ (eval _ (compEnv _ _ _)) _ _ _); first | refine ldc (by assumption) (by assumption) ?_ | k_dflt (refine cg_global (by k_asm) (by k_asm) (by k_asm) (by k_is) ?_) | k_dflt (refine cg_built (by k_asm) (by k_asm) (by k_asm) (by k_is) (by boot_by_name) (by decide) ?_))) | (with_reducible ((with_reducible show wpAny _ _ (compareOp CmpOp.NotIn (Value.str _ _) (Value.str _ _)) _ _ _); (k_here; with_reducible (first | refine notin_t (by with_reducible assumption) ?_ | refine notin_f (by with_reducible assumption) ?_)))) | (with_reducible (k_here; (with_reducible show wpAny _ _ (compareOp CmpOp.Eq (Value.ref _) (Value.ref _)) _ _ _); k_dflt (refine' eq_nil_list ?D ?e ?u ?_; (case D => exact isList_of (by k_asm) (.tail _ (.head _)) (by assumption) (by assumption)); (case e => exact ⟨_, News.get (by k_asm) (.head _), rfl, _, rfl⟩); (case u => (dsimp only [Around.deeper]; omega)); k_whole))) | (with_reducible (k_here; (with_reducible show wpAny _ _ (subscriptTail _ (PySem.Expr.Slice _ _ none _) (Value.ref _) (Value.ref _)) _ _ _); k_dflt (refine' slice_upto ?F ?N ?m ?y ?z ?_ ?s ?t; (case F => k_asm); (case N => k_asm); (case m => k_mem); (case y => decide); (case z => assumption); (case s => with_unfolding_all rfl); (case t => kmk_pure)); intro D' h' F' N' l1; (try k_lt l1); (try k_sweep))) | walk1 | (dsimp only; walk1)))
      rename News _ _ _ _ => N11
      rename Fr _ _ _ _ => F11
      k_dflt (refine comp_in (h₀ := g) (L := L') (fun _ => true) NumAs F11 rfl (by decide) (by decide) rfl (by decide) rfl ?_ (by intro _; rfl))
      (repeat' ((fail_if_success (with_reducible show wpAny _ _ (noteFrame _ _) _ _ _)); (fail_if_success (with_reducible show InvPostN _ _ _ _ _ _ _ _ _)); (fail_if_success (with_reducible show InvEndN _ _ _ _ _ _ _)); (fail_if_success (with_reducible show wpAny _ _ (eval (PySem.Expr.ListComp _ _ _ _) _) _ _ _)); (fail_if_success (with_reducible show CompIn _ _ _ _ _ _ _ _ _ _ _ _ _ _ _ _)); first | (k_unfold; (try dsimp only)) | (with_reducible (k_here; (with_reducible show wpAny _ _ (call (Value.ref 780) [Value.str _ _]) _ _ _); k_dflt (refine' num_at2 ?F ?N ?X ?T ?hd ?hu ?g ?_; (case F => k_asm); (case N => k_asm); (case X => k_asm); (case T => k_asm); (case hd => (dsimp only; omega)); (case hu => (dsimp only; omega)); (case g => assumption); k_whole); intro t' h' tk' k' F' N')) | (with_reducible (k_here; (with_reducible show wpAny _ _ (subscriptTail _ _ (Value.str _ _) (Value.int 0 _)) _ _ _); refine item0 (by assumption) (by assumption) (by assumption) ?_)) | (with_reducible ((with_reducible show wpAny _ _ (compareOp CmpOp.In (Value.str _ _) (Value.str _ _)) _ _ _); (k_here; with_reducible (first | refine in_known (r := true) (by with_reducible assumption) ?_ | refine in_known (r := false) (by with_reducible assumption) ?_)))) | (with_reducible (k_here; (with_reducible show wpAny _ _ (eval _ (compEnv _ _ _)) _ _ _); first | refine ldc (by assumption) (by assumption) ?_ | k_dflt (refine cg_global (by k_asm) (by k_asm) (by k_asm) (by k_is) ?_) | k_dflt (refine cg_built (by k_asm) (by k_asm) (by k_asm) (by k_is) (by boot_by_name) (by decide) ?_))) | (with_reducible ((with_reducible show wpAny _ _ (compareOp CmpOp.NotIn (Value.str _ _) (Value.str _ _)) _ _ _); (k_here; with_reducible (first | refine notin_t (by with_reducible assumption) ?_ | refine notin_f (by with_reducible assumption) ?_)))) | (with_reducible (k_here; (with_reducible show wpAny _ _ (compareOp CmpOp.Eq (Value.ref _) (Value.ref _)) _ _ _); k_dflt (refine' eq_nil_list ?D ?e ?u ?_; (case D => exact isList_of (by k_asm) (.tail _ (.head _)) (by assumption) (by assumption)); (case e => exact ⟨_, News.get (by k_asm) (.head _), rfl, _, rfl⟩); (case u => (dsimp only [Around.deeper]; omega)); k_whole))) | (with_reducible (k_here; (with_reducible show wpAny _ _ (subscriptTail _ (PySem.Expr.Slice _ _ none _) (Value.ref _) (Value.ref _)) _ _ _); k_dflt (refine' slice_upto ?F ?N ?m ?y ?z ?_ ?s ?t; (case F => k_asm); (case N => k_asm); (case m => k_mem); (case y => decide); (case z => assumption); (case s => with_unfolding_all rfl); (case t => kmk_pure)); intro D' h' F' N' l1; (try k_lt l1); (try k_sweep))) | walk1 | (dsimp only; walk1)))
      rename News _ _ _ _ => N12
      rename Fr _ _ _ _ => F12
      refine ⟨_, _, _, rfl, F12, N12, ⟨_, (N12 _ (.head _)).1, rfl, 0, rfl⟩, ?z, ?t, ?e, ?d⟩
      case z => simp [hs.length, sizeLine_eq]; omega
      case t =>
        intro C v s₂ m₂ E' hv hn hm hk
        (repeat' ((fail_if_success (with_reducible show wpAny _ _ (noteFrame _ _) _ _ _)); (fail_if_success (with_reducible show InvPostN _ _ _ _ _ _ _ _ _)); (fail_if_success (with_reducible show InvEndN _ _ _ _ _ _ _)); (fail_if_success (with_reducible show wpAny _ _ (eval (PySem.Expr.ListComp _ _ _ _) _) _ _ _)); (fail_if_success (with_reducible show CompIn _ _ _ _ _ _ _ _ _ _ _ _ _ _ _ _)); first | (k_unfold; (try dsimp only)) | (with_reducible (k_here; (with_reducible show wpAny _ _ (call (Value.ref 780) [Value.str _ _]) _ _ _); k_dflt (refine' num_at2 ?F ?N ?X ?T ?hd ?hu ?g ?_; (case F => k_asm); (case N => k_asm); (case X => k_asm); (case T => k_asm); (case hd => (dsimp only; omega)); (case hu => (dsimp only; omega)); (case g => assumption); k_whole); intro t' h' tk' k' F' N')) | (with_reducible (k_here; (with_reducible show wpAny _ _ (subscriptTail _ _ (Value.str _ _) (Value.int 0 _)) _ _ _); refine item0 (by assumption) (by assumption) (by assumption) ?_)) | (with_reducible ((with_reducible show wpAny _ _ (compareOp CmpOp.In (Value.str _ _) (Value.str _ _)) _ _ _); (k_here; with_reducible (first | refine in_known (r := true) (by with_reducible assumption) ?_ | refine in_known (r := false) (by with_reducible assumption) ?_)))) | (with_reducible (k_here; (with_reducible show wpAny _ _ (eval _ (compEnv _ _ _)) _ _ _); first | refine ldc (by assumption) (by assumption) ?_ | k_dflt (refine cg_global (by k_asm) (by k_asm) (by k_asm) (by k_is) ?_) | k_dflt (refine cg_built (by k_asm) (by k_asm) (by k_asm) (by k_is) (by boot_by_name) (by decide) ?_))) | (with_reducible ((with_reducible show wpAny _ _ (compareOp CmpOp.NotIn (Value.str _ _) (Value.str _ _)) _ _ _); (k_here; with_reducible (first | refine notin_t (by with_reducible assumption) ?_ | refine notin_f (by with_reducible assumption) ?_)))) | (with_reducible (k_here; (with_reducible show wpAny _ _ (compareOp CmpOp.Eq (Value.ref _) (Value.ref _)) _ _ _); k_dflt (refine' eq_nil_list ?D ?e ?u ?_; (case D => exact isList_of (by k_asm) (.tail _ (.head _)) (by assumption) (by assumption)); (case e => exact ⟨_, News.get (by k_asm) (.head _), rfl, _, rfl⟩); (case u => (dsimp only [Around.deeper]; omega)); k_whole))) | (with_reducible (k_here; (with_reducible show wpAny _ _ (subscriptTail _ (PySem.Expr.Slice _ _ none _) (Value.ref _) (Value.ref _)) _ _ _); k_dflt (refine' slice_upto ?F ?N ?m ?y ?z ?_ ?s ?t; (case F => k_asm); (case N => k_asm); (case m => k_mem); (case y => decide); (case z => assumption); (case s => with_unfolding_all rfl); (case t => kmk_pure)); intro D' h' F' N' l1; (try k_lt l1); (try k_sweep))) | walk1 | (dsimp only; walk1)))
        exact ⟨_, _, rfl, fun _ _ e => e⟩
      case e =>
        intro C v s₂ m₂ E' hv hp hn hm hk
        obtain ⟨j, hj⟩ := List.getElem?_of_mem (List.mem_toArray.mp hv)
        obtain ⟨y, t, rfl, hy⟩ := strs_at (hs.take' 3) hj
        have hym : y ∈ rs := List.mem_of_mem_take (List.mem_of_getElem? hy)
        have hfind := fig_find (hall y hym)
        have hsm := num_small (hall y hym) (hml y hym)
        have F13 := F12.of_stays (fun b o e => hk b o (F12.keep b o e)) (Heap.UpToSlots.of_keeps hk)
        have N13 := N12.grown hk
        (repeat' ((fail_if_success (with_reducible show wpAny _ _ (noteFrame _ _) _ _ _)); (fail_if_success (with_reducible show InvPostN _ _ _ _ _ _ _ _ _)); (fail_if_success (with_reducible show InvEndN _ _ _ _ _ _ _)); (fail_if_success (with_reducible show wpAny _ _ (eval (PySem.Expr.ListComp _ _ _ _) _) _ _ _)); (fail_if_success (with_reducible show CompIn _ _ _ _ _ _ _ _ _ _ _ _ _ _ _ _)); first | (k_unfold; (try dsimp only)) | (with_reducible (k_here; (with_reducible show wpAny _ _ (call (Value.ref 780) [Value.str _ _]) _ _ _); k_dflt (refine' num_at2 ?F ?N ?X ?T ?hd ?hu ?g ?_; (case F => k_asm); (case N => k_asm); (case X => k_asm); (case T => k_asm); (case hd => (dsimp only; omega)); (case hu => (dsimp only; omega)); (case g => assumption); k_whole); intro t' h' tk' k' F' N')) | (with_reducible (k_here; (with_reducible show wpAny _ _ (subscriptTail _ _ (Value.str _ _) (Value.int 0 _)) _ _ _); refine item0 (by assumption) (by assumption) (by assumption) ?_)) | (with_reducible ((with_reducible show wpAny _ _ (compareOp CmpOp.In (Value.str _ _) (Value.str _ _)) _ _ _); (k_here; with_reducible (first | refine in_known (r := true) (by with_reducible assumption) ?_ | refine in_known (r := false) (by with_reducible assumption) ?_)))) | (with_reducible (k_here; (with_reducible show wpAny _ _ (eval _ (compEnv _ _ _)) _ _ _); first | refine ldc (by assumption) (by assumption) ?_ | k_dflt (refine cg_global (by k_asm) (by k_asm) (by k_asm) (by k_is) ?_) | k_dflt (refine cg_built (by k_asm) (by k_asm) (by k_asm) (by k_is) (by boot_by_name) (by decide) ?_))) | (with_reducible ((with_reducible show wpAny _ _ (compareOp CmpOp.NotIn (Value.str _ _) (Value.str _ _)) _ _ _); (k_here; with_reducible (first | refine notin_t (by with_reducible assumption) ?_ | refine notin_f (by with_reducible assumption) ?_)))) | (with_reducible (k_here; (with_reducible show wpAny _ _ (compareOp CmpOp.Eq (Value.ref _) (Value.ref _)) _ _ _); k_dflt (refine' eq_nil_list ?D ?e ?u ?_; (case D => exact isList_of (by k_asm) (.tail _ (.head _)) (by assumption) (by assumption)); (case e => exact ⟨_, News.get (by k_asm) (.head _), rfl, _, rfl⟩); (case u => (dsimp only [Around.deeper]; omega)); k_whole))) | (with_reducible (k_here; (with_reducible show wpAny _ _ (subscriptTail _ (PySem.Expr.Slice _ _ none _) (Value.ref _) (Value.ref _)) _ _ _); k_dflt (refine' slice_upto ?F ?N ?m ?y ?z ?_ ?s ?t; (case F => k_asm); (case N => k_asm); (case m => k_mem); (case y => decide); (case z => assumption); (case s => with_unfolding_all rfl); (case t => kmk_pure)); intro D' h' F' N' l1; (try k_lt l1); (try k_sweep))) | walk1 | (dsimp only; walk1)))
        refine P.str_of_int hsm ?_
        exact ⟨⟨y, t, _, rfl, rfl⟩, _, _, rfl, by assumption⟩
      case d =>
        intro D9 h9 tk9 ys hD hP F9 N9 q1 q2 q3
        obtain ⟨ss, hss⟩ : ∃ ss : List Str, StrsAre ys.toList ss ∧ ss = (rs.take 3).map numS := by
          refine ⟨_, nums_are (hs.take' 3) ?_, rfl⟩
          have e : (vs.take (Int.toNat 3)).toArray.toList.filter (fun _ => true) = vs.take 3 := List.filter_eq_self.mpr fun _ _ => rfl
          rw [e] at hP
          exact hP
        (repeat' ((fail_if_success (with_reducible show wpAny _ _ (noteFrame _ _) _ _ _)); (fail_if_success (with_reducible show InvPostN _ _ _ _ _ _ _ _ _)); (fail_if_success (with_reducible show InvEndN _ _ _ _ _ _ _)); (fail_if_success (with_reducible show wpAny _ _ (eval (PySem.Expr.ListComp _ _ _ _) _) _ _ _)); (fail_if_success (with_reducible show CompIn _ _ _ _ _ _ _ _ _ _ _ _ _ _ _ _)); first | (k_unfold; (try dsimp only)) | (with_reducible (k_here; (with_reducible show wpAny _ _ (call (Value.ref 780) [Value.str _ _]) _ _ _); k_dflt (refine' num_at2 ?F ?N ?X ?T ?hd ?hu ?g ?_; (case F => k_asm); (case N => k_asm); (case X => k_asm); (case T => k_asm); (case hd => (dsimp only; omega)); (case hu => (dsimp only; omega)); (case g => assumption); k_whole); intro t' h' tk' k' F' N')) | (with_reducible (k_here; (with_reducible show wpAny _ _ (subscriptTail _ _ (Value.str _ _) (Value.int 0 _)) _ _ _); refine item0 (by assumption) (by assumption) (by assumption) ?_)) | (with_reducible ((with_reducible show wpAny _ _ (compareOp CmpOp.In (Value.str _ _) (Value.str _ _)) _ _ _); (k_here; with_reducible (first | refine in_known (r := true) (by with_reducible assumption) ?_ | refine in_known (r := false) (by with_reducible assumption) ?_)))) | (with_reducible (k_here; (with_reducible show wpAny _ _ (eval _ (compEnv _ _ _)) _ _ _); first | refine ldc (by assumption) (by assumption) ?_ | k_dflt (refine cg_global (by k_asm) (by k_asm) (by k_asm) (by k_is) ?_) | k_dflt (refine cg_built (by k_asm) (by k_asm) (by k_asm) (by k_is) (by boot_by_name) (by decide) ?_))) | (with_reducible ((with_reducible show wpAny _ _ (compareOp CmpOp.NotIn (Value.str _ _) (Value.str _ _)) _ _ _); (k_here; with_reducible (first | refine notin_t (by with_reducible assumption) ?_ | refine notin_f (by with_reducible assumption) ?_)))) | (with_reducible (k_here; (with_reducible show wpAny _ _ (compareOp CmpOp.Eq (Value.ref _) (Value.ref _)) _ _ _); k_dflt (refine' eq_nil_list ?D ?e ?u ?_; (case D => exact isList_of (by k_asm) (.tail _ (.head _)) (by assumption) (by assumption)); (case e => exact ⟨_, News.get (by k_asm) (.head _), rfl, _, rfl⟩); (case u => (dsimp only [Around.deeper]; omega)); k_whole))) | (with_reducible (k_here; (with_reducible show wpAny _ _ (subscriptTail _ (PySem.Expr.Slice _ _ none _) (Value.ref _) (Value.ref _)) _ _ _); k_dflt (refine' slice_upto ?F ?N ?m ?y ?z ?_ ?s ?t; (case F => k_asm); (case N => k_asm); (case m => k_mem); (case y => decide); (case z => assumption); (case s => with_unfolding_all rfl); (case t => kmk_pure)); intro D' h' F' N' l1; (try k_lt l1); (try k_sweep))) | walk1 | (dsimp only; walk1)))
        refine join_at' hD hss.1 (by decide) (by rw [hss.2, List.length_map, List.length_take]; omega) (fun y hy => ?_) fun t' k => ?_
        · rw [hss.2] at hy
          obtain ⟨r, hr, rfl⟩ := List.mem_map.mp hy
          have hr' := List.mem_of_mem_take hr
          exact Nat.le_trans (numS_len (hall r hr') (hml r hr')) (by decide)
        (repeat' ((fail_if_success (with_reducible show wpAny _ _ (noteFrame _ _) _ _ _)); (fail_if_success (with_reducible show InvPostN _ _ _ _ _ _ _ _ _)); (fail_if_success (with_reducible show InvEndN _ _ _ _ _ _ _)); (fail_if_success (with_reducible show wpAny _ _ (eval (PySem.Expr.ListComp _ _ _ _) _) _ _ _)); (fail_if_success (with_reducible show CompIn _ _ _ _ _ _ _ _ _ _ _ _ _ _ _ _)); first | (k_unfold; (try dsimp only)) | (with_reducible (k_here; (with_reducible show wpAny _ _ (call (Value.ref 780) [Value.str _ _]) _ _ _); k_dflt (refine' num_at2 ?F ?N ?X ?T ?hd ?hu ?g ?_; (case F => k_asm); (case N => k_asm); (case X => k_asm); (case T => k_asm); (case hd => (dsimp only; omega)); (case hu => (dsimp only; omega)); (case g => assumption); k_whole); intro t' h' tk' k' F' N')) | (with_reducible (k_here; (with_reducible show wpAny _ _ (subscriptTail _ _ (Value.str _ _) (Value.int 0 _)) _ _ _); refine item0 (by assumption) (by assumption) (by assumption) ?_)) | (with_reducible ((with_reducible show wpAny _ _ (compareOp CmpOp.In (Value.str _ _) (Value.str _ _)) _ _ _); (k_here; with_reducible (first | refine in_known (r := true) (by with_reducible assumption) ?_ | refine in_known (r := false) (by with_reducible assumption) ?_)))) | (with_reducible (k_here; (with_reducible show wpAny _ _ (eval _ (compEnv _ _ _)) _ _ _); first | refine ldc (by assumption) (by assumption) ?_ | k_dflt (refine cg_global (by k_asm) (by k_asm) (by k_asm) (by k_is) ?_) | k_dflt (refine cg_built (by k_asm) (by k_asm) (by k_asm) (by k_is) (by boot_by_name) (by decide) ?_))) | (with_reducible ((with_reducible show wpAny _ _ (compareOp CmpOp.NotIn (Value.str _ _) (Value.str _ _)) _ _ _); (k_here; with_reducible (first | refine notin_t (by with_reducible assumption) ?_ | refine notin_f (by with_reducible assumption) ?_)))) | (with_reducible (k_here; (with_reducible show wpAny _ _ (compareOp CmpOp.Eq (Value.ref _) (Value.ref _)) _ _ _); k_dflt (refine' eq_nil_list ?D ?e ?u ?_; (case D => exact isList_of (by k_asm) (.tail _ (.head _)) (by assumption) (by assumption)); (case e => exact ⟨_, News.get (by k_asm) (.head _), rfl, _, rfl⟩); (case u => (dsimp only [Around.deeper]; omega)); k_whole))) | (with_reducible (k_here; (with_reducible show wpAny _ _ (subscriptTail _ (PySem.Expr.Slice _ _ none _) (Value.ref _) (Value.ref _)) _ _ _); k_dflt (refine' slice_upto ?F ?N ?m ?y ?z ?_ ?s ?t; (case F => k_asm); (case N => k_asm); (case m => k_mem); (case y => decide); (case z => assumption); (case s => with_unfolding_all rfl); (case t => kmk_pure)); intro D' h' F' N' l1; (try k_lt l1); (try k_sweep))) | walk1 | (dsimp only; walk1)))
        rw [hss.2, ← short_fig hall]
        exact hret _ _ _ F9.keep (N9.get (.tail _ (.tail _ (.tail _ (.head _)))))
    · have hy0 : (ys.size == 0) = false := by
        rw [show vs.toArray.toList = vs from rfl] at hys
        have := filter_oth_some hs htk hall
        rw [← hys] at this
        simpa using this
      (repeat' ((fail_if_success (with_reducible show wpAny _ _ (noteFrame _ _) _ _ _)); (fail_if_success (with_reducible show InvPostN _ _ _ _ _ _ _ _ _)); (fail_if_success (with_reducible show InvEndN _ _ _ _ _ _ _)); (fail_if_success (with_reducible show wpAny _ _ (eval (PySem.Expr.ListComp _ _ _ _) _) _ _ _)); (fail_if_success (with_reducible show CompIn _ _ _ _ _ _ _ _ _ _ _ _ _ _ _ _)); first | (k_unfold; (try dsimp only)) | (with_reducible (k_here; (with_reducible show wpAny _ _ (call (Value.ref 780) [Value.str _ _]) _ _ _); k_dflt (refine' num_at2 ?F ?N ?X ?T ?hd ?hu ?g ?_; (case F => k_asm); (case N => k_asm); (case X => k_asm); (case T => k_asm); (case hd => (dsimp only; omega)); (case hu => (dsimp only; omega)); (case g => assumption); k_whole); intro t' h' tk' k' F' N')) | (with_reducible (k_here; (with_reducible show wpAny _ _ (subscriptTail _ _ (Value.str _ _) (Value.int 0 _)) _ _ _); refine item0 (by assumption) (by assumption) (by assumption) ?_)) | (with_reducible ((with_reducible show wpAny _ _ (compareOp CmpOp.In (Value.str _ _) (Value.str _ _)) _ _ _); (k_here; with_reducible (first | refine in_known (r := true) (by with_reducible assumption) ?_ | refine in_known (r := false) (by with_reducible assumption) ?_)))) | (with_reducible (k_here; (with_reducible show wpAny _ _ (eval _ (compEnv _ _ _)) _ _ _); first | refine ldc (by assumption) (by assumption) ?_ | k_dflt (refine cg_global (by k_asm) (by k_asm) (by k_asm) (by k_is) ?_) | k_dflt (refine cg_built (by k_asm) (by k_asm) (by k_asm) (by k_is) (by boot_by_name) (by decide) ?_))) | (with_reducible ((with_reducible show wpAny _ _ (compareOp CmpOp.NotIn (Value.str _ _) (Value.str _ _)) _ _ _); (k_here; with_reducible (first | refine notin_t (by with_reducible assumption) ?_ | refine notin_f (by with_reducible assumption) ?_)))) | (with_reducible (k_here; (with_reducible show wpAny _ _ (compareOp CmpOp.Eq (Value.ref _) (Value.ref _)) _ _ _); k_dflt (refine' eq_nil_list ?D ?e ?u ?_; (case D => exact isList_of (by k_asm) (.tail _ (.head _)) (by assumption) (by assumption)); (case e => exact ⟨_, News.get (by k_asm) (.head _), rfl, _, rfl⟩); (case u => (dsimp only [Around.deeper]; omega)); k_whole))) | (with_reducible (k_here; (with_reducible show wpAny _ _ (subscriptTail _ (PySem.Expr.Slice _ _ none _) (Value.ref _) (Value.ref _)) _ _ _); k_dflt (refine' slice_upto ?F ?N ?m ?y ?z ?_ ?s ?t; (case F => k_asm); (case N => k_asm); (case m => k_mem); (case y => decide); (case z => assumption); (case s => with_unfolding_all rfl); (case t => kmk_pure)); intro D' h' F' N' l1; (try k_lt l1); (try k_sweep))) | walk1 | (dsimp only; walk1)))
      refine join_at (ys := rs.take 3) (by assumption) (.head _) (hs.take' 3) (by decide) (by rw [List.length_take]; omega) (fun y hy => Nat.le_trans (hml y (List.mem_of_mem_take hy)) (by decide)) fun t' k => ?_
      (repeat' ((fail_if_success (with_reducible show wpAny _ _ (noteFrame _ _) _ _ _)); (fail_if_success (with_reducible show InvPostN _ _ _ _ _ _ _ _ _)); (fail_if_success (with_reducible show InvEndN _ _ _ _ _ _ _)); (fail_if_success (with_reducible show wpAny _ _ (eval (PySem.Expr.ListComp _ _ _ _) _) _ _ _)); (fail_if_success (with_reducible show CompIn _ _ _ _ _ _ _ _ _ _ _ _ _ _ _ _)); first | (k_unfold; (try dsimp only)) | (with_reducible (k_here; (with_reducible show wpAny _ _ (call (Value.ref 780) [Value.str _ _]) _ _ _); k_dflt (refine' num_at2 ?F ?N ?X ?T ?hd ?hu ?g ?_; (case F => k_asm); (case N => k_asm); (case X => k_asm); (case T => k_asm); (case hd => (dsimp only; omega)); (case hu => (dsimp only; omega)); (case g => assumption); k_whole); intro t' h' tk' k' F' N')) | (with_reducible (k_here; (with_reducible show wpAny _ _ (subscriptTail _ _ (Value.str _ _) (Value.int 0 _)) _ _ _); refine item0 (by assumption) (by assumption) (by assumption) ?_)) | (with_reducible ((with_reducible show wpAny _ _ (compareOp CmpOp.In (Value.str _ _) (Value.str _ _)) _ _ _); (k_here; with_reducible (first | refine in_known (r := true) (by with_reducible assumption) ?_ | refine in_known (r := false) (by with_reducible assumption) ?_)))) | (with_reducible (k_here; (with_reducible show wpAny _ _ (eval _ (compEnv _ _ _)) _ _ _); first | refine ldc (by assumption) (by assumption) ?_ | k_dflt (refine cg_global (by k_asm) (by k_asm) (by k_asm) (by k_is) ?_) | k_dflt (refine cg_built (by k_asm) (by k_asm) (by k_asm) (by k_is) (by boot_by_name) (by decide) ?_))) | (with_reducible ((with_reducible show wpAny _ _ (compareOp CmpOp.NotIn (Value.str _ _) (Value.str _ _)) _ _ _); (k_here; with_reducible (first | refine notin_t (by with_reducible assumption) ?_ | refine notin_f (by with_reducible assumption) ?_)))) | (with_reducible (k_here; (with_reducible show wpAny _ _ (compareOp CmpOp.Eq (Value.ref _) (Value.ref _)) _ _ _); k_dflt (refine' eq_nil_list ?D ?e ?u ?_; (case D => exact isList_of (by k_asm) (.tail _ (.head _)) (by assumption) (by assumption)); (case e => exact ⟨_, News.get (by k_asm) (.head _), rfl, _, rfl⟩); (case u => (dsimp only [Around.deeper]; omega)); k_whole))) | (with_reducible (k_here; (with_reducible show wpAny _ _ (subscriptTail _ (PySem.Expr.Slice _ _ none _) (Value.ref _) (Value.ref _)) _ _ _); k_dflt (refine' slice_upto ?F ?N ?m ?y ?z ?_ ?s ?t; (case F => k_asm); (case N => k_asm); (case m => k_mem); (case y => decide); (case z => assumption); (case s => with_unfolding_all rfl); (case t => kmk_pure)); intro D' h' F' N' l1; (try k_lt l1); (try k_sweep))) | walk1 | (dsimp only; walk1)))
      rename News _ _ _ _ => N11
      rename Fr _ _ _ _ => F11
      rw [← short_oth hall]
      exact hret _ _ _ F11.keep (N11.get (.tail _ (.tail _ (.tail _ (.head _)))))
end Mine
end
section
open PySem PySem.W PySem.W.X PyProof.Rows PySem.Calls
set_option maxRecDepth 100000
set_option maxHeartbeats 8000000
namespace Mine
section
variable {g h h' : Heap} {L L1 L0 : Addr} {m : Str → Option Value} {l1 l2 : List (Addr × Obj)} {o1 o0 : Obj} {env1 env0 : PySem.Env} {name : Str} {scope : Scope} {a : Addr} {cd : Value}
theorem frames2 (h1 : env1.frame = some L1) (h0 : env0.frame = some L0) : (envOf name scope L a cd :: [env1, env0]).filterMap (·.frame) = [L, L1, L0] := by
  simp only [List.filterMap_cons, h1, h0, List.filterMap_nil]
  rfl
theorem keep_site2 (hk : KeepF (envOf name scope L a cd :: [env1, env0]) h h') (h1 : env1.frame = some L1) (h0 : env0.frame = some L0) (N : News g L h (l1 ++ (L1, o1) :: (L0, o0) :: l2)) (ha : ∀ p ∈ l1 ++ l2, p.1 ≠ L1 ∧ p.1 ≠ L0) (n1 : ∀ vs, o1.data ≠ .fields vs) (n0 : ∀ vs, o0.data ≠ .fields vs) :
    ∃ s1 s0, News g L h' (l1 ++ (L1, { o1 with slots := s1 }) :: (L0, { o0 with slots := s0 }) :: l2) := by
  have P1 := N (L1, o1) (List.mem_append_right _ (.head _))
  have P0 := N (L0, o0) (List.mem_append_right _ (.tail _ (.head _)))
  obtain ⟨s1, e1⟩ := hk.2 _ _ P1.1 n1
  obtain ⟨s0, e0⟩ := hk.2 _ _ P0.1 n0
  have st : ∀ p ∈ l1 ++ l2, h.get? p.1 = some p.2 → p.1 ≠ L → h'.get? p.1 = some p.2 := fun p hp e hL => hk.1 _ _ e (by
    rw [frames2 h1 h0]
    intro hm
    simp only [List.mem_cons, List.not_mem_nil, or_false] at hm
    rcases hm with q | q | q
    · exact hL q
    · exact (ha p hp).1 q
    · exact (ha p hp).2 q)
  refine ⟨s1, s0, fun p hp => ?_⟩
  rcases List.mem_append.mp hp with q | q
  · have := N p (List.mem_append_left _ q)
    exact ⟨st p (List.mem_append_left _ q) this.1 this.2.1, this.2⟩
  · rcases List.mem_cons.mp q with rfl | q
    · exact ⟨e1, P1.2⟩
    · rcases List.mem_cons.mp q with rfl | q
      · exact ⟨e0, P0.2⟩
      · have := N p (List.mem_append_right _ (.tail _ (.tail _ q)))
        exact ⟨st p (List.mem_append_right _ q) this.1 this.2.1, this.2⟩
theorem fun_site2 {led : List (Addr × Obj)} (F : Fr g L h m) (h1 : env1.frame = some L1) (h0 : env0.frame = some L0) (k1 : env1.scope.kind = .function) (k0 : env0.scope.kind = .function) (N : News g L h led) (m1 : (L1, o1) ∈ led) (m0 : (L0, o0) ∈ led) (n1 : ∀ vs, o1.data ≠ .fields vs) (n0 : ∀ vs, o0.data ≠ .fields vs) (hk : scope.kind = .function) :
    h.FunFrames (hideAll h ((envOf name scope L a cd :: [env1, env0]).filterMap (·.frame))) (envOf name scope L a cd :: [env1, env0]) := by
  rw [frames2 h1 h0]
  obtain ⟨oL, es, ep, hL, hLd, hr⟩ := F.ns
  refine ⟨by show scope.kind ≠ _; rw [hk]; decide, ⟨L, oL, rfl, hideAll_none _ (.head _), hL, fun vs => by rw [hLd]; exact fun q => nomatch q⟩, by rw [k1]; decide, ⟨L1, o1, h1, hideAll_none _ (.tail _ (.head _)), (N _ m1).1, n1⟩, by rw [k0]; decide, ⟨L0, o0, h0, hideAll_none _ (.tail _ (.tail _ (.head _))), (N _ m0).1, n0⟩, trivial⟩
end
theorem fr_but {g h h' : Heap} {L : Addr} {m : Str → Option Value} {P : Addr → Prop} (F : Fr g L h m) (hL : ¬ P L) (hg : ∀ b, P b → g.get? b = none) (hk : ∀ b o, ¬ P b → h.get? b = some o → h'.get? b = some o) : Fr g L h' m := by
  obtain ⟨oL, es, ep, e, r⟩ := F.ns
  refine ⟨⟨oL, es, ep, hk _ _ hL e, r⟩, fun b o e => hk b o (fun q => ?_) (F.keep b o e), F.above⟩
  rw [hg b q] at e
  cases e
theorem news_but {g h h' : Heap} {L : Addr} {l : List (Addr × Obj)} {P : Addr → Prop} (N : News g L h l) (hl : ∀ p ∈ l, ¬ P p.1) (hk : ∀ b o, ¬ P b → h.get? b = some o → h'.get? b = some o) : News g L h' l := fun p hp => ⟨hk _ _ (hl p hp) (N p hp).1, (N p hp).2⟩
noncomputable def bS (bo : Option (Str × Tok)) : Str := (bo.map (·.1)).getD (Str.ofString "")
noncomputable def bT (bo : Option (Str × Tok)) : Tok := (bo.map (·.2)).getD 422
noncomputable def bArgs (bo : Option (Str × Tok)) : List Value := match bo with
  | none => []
  | some (b, u) => [.str b u]
theorem truthy_b {prog : Program} {w : World} {A : Around} {E : Value → Shared → Prop} {s : Shared} {x : Str} {t : Tok} {Q : Bool → Shared → Prop} (b : Bool) (e : ((x.length : Int) != 0) = b) (hl : x.length ≤ 100) (h : Q b { s with toks := s.toks + 1 + 1 }) : wpAny (model prog w) A (PySem.truthy (.str x t)) Q E s :=
  P.truthy_str (by omega) (by rw [e]; exact h)
noncomputable def NormJ (g : Heap) (L' : Addr) (s : Shared) (x : Str) (t : Tok) (bo : Option (Str × Tok)) (parts : List Str) (L1 L0 : Addr) (o1 o0 : Obj) (s' : Shared) : Prop :=
  ∃ (D : Addr) (us : List Value) (nn : Nat) (h : Heap) (tk : Nat), s' = { s with heap := h, toks := tk } ∧ StrsAre us parts ∧ L1 < D ∧
    Fr g L' h (fun y => if y = Str.ofString "l" then some (.ref D) else List.lookup y [(Str.ofString "version", Value.str x t), (Str.ofString "build", Value.str (bS bo) (bT bo))].reverse) ∧
    News g L' h [(D, listOf us.toArray nn), (L1, o1), (L0, o0)]
theorem norm_spec {w : World} {mg mb : Str → Option Value} {dp un : Nat} {gd : Option (List Code)} {env1 env0 : Env} {s : Shared} {Q E : Value → Shared → Prop} {x : Str} {t : Tok} {bo : Option (Str × Tok)} {g : Heap} {L1 L0 : Addr} {o1 o0 : Obj} {ps parts : List Str}
    (hg : g = hideAll s.heap [L1, L0]) (hL1 : s.heap.get? L1 = some o1) (hL0 : s.heap.get? L0 = some o0) (hn1 : ∀ vs, o1.data ≠ .fields vs) (hn0 : ∀ vs, o0.data ≠ .fields vs)
    (h1 : env1.frame = some L1) (h0 : env0.frame = some L0) (k1 : env1.scope.kind = .function) (k0 : env0.scope.kind = .function) (hlt1 : L0 < L1)
    (X : (K3 w.params).In g) (T : TopRead q1 loose1 mg mb g) (hd : dp + 30 < recursionLimit) (hu : un + 200 < cLine)
    (hxl : x.length ≤ 1000) (hps : Txt.split x (Str.ofString ".") = ps) (hparts : (bS bo = Str.ofString "" ∧ parts = ps) ∨ ((bS bo).length ≠ 0 ∧ parts = ps ++ [bS bo]))
    (htk : ∀ r ∈ parts, TokOf r) (hch : ∀ r ∈ parts, ∀ c ∈ r.cps.toList, c < 128 ∨ c = 233) (hrl : parts.length ≤ 100) (hml : ∀ r ∈ parts, r.length ≤ 100)
    (hret : ∀ t' o1' o0' h' tk', (∀ b o, g.get? b = some o → h'.get? b = some o) → h'.get? L1 = some o1' → (∃ sl, o1' = { o1 with slots := sl }) → h'.get? L0 = some o0' → (∃ sl, o0' = { o0 with slots := sl }) → Q (.str (shortOf parts) t') { s with heap := h', toks := tk' }) :
    wpAny (model pw w) (actx dp un gd [env1, env0]) (call (.ref 65) (.str x t :: bArgs bo)) Q E s := by
  have hfill : PySem.Challenge.rw_ox0114_01 = PySem.Challenge.rw_ox0114_01 ∧ K3 = K3 := by
    k_fill
    exact ⟨rfl, rfl⟩
  clear hfill
  have hl : ∀ p ∈ [(L1, o1), (L0, o0)], s.heap.get? p.1 = some p.2 := by
    intro p hp
    simp only [List.mem_cons, List.not_mem_nil, or_false] at hp
    rcases hp with rfl | rfl
    · exact hL1
    · exact hL0
  replace hlt1 := ltN hlt1
  refine wpAny_call ?_
  k_dflt (refine' enterH (led := [(L1, o1), (L0, o0)]) (args := ⟨.str x t :: bArgs bo, []⟩) (binds := [(Str.ofString "version", .str x t), (Str.ofString "build", .str (bS bo) (bT bo))]) hg hl X T ?k6 ?k7 ?k8 ?k9 ?kB ?_ ?c2 ?c3 ?c4 ?c5; (case k6 => k_is); (case k7 => k_is); (case k8 => (dsimp only; omega)); (case k9 => (cases bo with | none => exact kp_binds (X.keeps fun b o e => of_hideAll _ (hg ▸ e)) (fun _ => by rfl) | some p => (cases p; exact kp_binds (X.keeps fun b o e => of_hideAll _ (hg ▸ e)) (fun _ => by rfl)))); (case c5 => decide); (case kB => exact locs rfl); (case c2 => exact rfl); (case c3 => exact rfl); (case c4 => exact rfl); k_whole)
  intro L' h' F' N' hlL
  have hLL : L1 < L' := hlL _ (.head _)
  replace hLL := ltN hLL
  clear hlL
  (try dsimp only); (try k_fold)
  refine cut2 (NormJ g L' s x t bo parts L1 L0 o1 o0) ?first ?rest
  case first =>
    rcases hparts with ⟨hb, hpp⟩ | ⟨hb, hpp⟩
    · have hbe : (((bS bo).length : Int) != 0) = false := by rw [hb]; rfl
      have hbl : (bS bo).length ≤ 100 := by rw [hb]; decide
      (repeat' ((fail_if_success (with_reducible show wpAny _ _ (noteFrame _ _) _ _ _)); (fail_if_success (with_reducible show wpAny _ _ (call (Value.type "map") _ _) _ _ _)); (fail_if_success (with_reducible show wpAny _ _ (call (Value.type "list") _ _) _ _ _)); first | (k_unfold; (try dsimp only)) | (with_reducible (k_here; (with_reducible show wpAny _ _ (PySem.truthy (Value.str _ _)) _ _ _); first | refine truthy_b true (by assumption) (by assumption) ?_ | refine truthy_b false (by assumption) (by assumption) ?_)) | (with_reducible (k_here; (with_reducible show wpAny _ _ (call (Value.builtin "str.split") _) _ _ _); k_dflt (refine' KSpl.split1 ?F ?N ?y ?_ ?z; (case F => k_asm); (case N => k_asm); (case y => decide); (case z => (rw [sizeLine_eq]; omega)); k_whole); intro D' l' h' k' e' a' F' N' l1; (try k_lt l1))) | (with_reducible (k_here; (with_reducible show wpAny _ _ (subscriptTail _ (PySem.Expr.Slice _ _ none _) (Value.ref _) (Value.ref _)) _ _ _); k_dflt (refine' slice_upto ?F ?N ?m ?y ?z ?_ ?s ?t; (case F => k_asm); (case N => k_asm); (case m => k_mem); (case y => decide); (case z => assumption); (case s => with_unfolding_all rfl); (case t => kmk_pure)); intro D' h' F' N' l1; (try k_lt l1); (try k_sweep))) | walk1 | (dsimp only; walk1)))
      rename StrsAre _ _ => ha
      rename List.map _ _ = _ => e
      rename News _ _ _ _ => N9
      rename Fr _ _ _ _ => F9
      rename L1 < _ ∧ _ => lt
      exact ⟨rfl, _, _, _, _, _, rfl, by rw [hpp, ← hps, ← e]; exact ha, lt.1, F9, N9⟩
    · have hbe : (((bS bo).length : Int) != 0) = true := by simp; omega
      have hbl : (bS bo).length ≤ 100 := hml _ (by rw [hpp]; exact List.mem_append_right _ (.head _))
      (repeat' ((fail_if_success (with_reducible show wpAny _ _ (noteFrame _ _) _ _ _)); (fail_if_success (with_reducible show wpAny _ _ (call (Value.type "map") _ _) _ _ _)); (fail_if_success (with_reducible show wpAny _ _ (call (Value.type "list") _ _) _ _ _)); first | (k_unfold; (try dsimp only)) | (with_reducible (k_here; (with_reducible show wpAny _ _ (PySem.truthy (Value.str _ _)) _ _ _); first | refine truthy_b true (by assumption) (by assumption) ?_ | refine truthy_b false (by assumption) (by assumption) ?_)) | (with_reducible (k_here; (with_reducible show wpAny _ _ (call (Value.builtin "str.split") _) _ _ _); k_dflt (refine' KSpl.split1 ?F ?N ?y ?_ ?z; (case F => k_asm); (case N => k_asm); (case y => decide); (case z => (rw [sizeLine_eq]; omega)); k_whole); intro D' l' h' k' e' a' F' N' l1; (try k_lt l1))) | (with_reducible (k_here; (with_reducible show wpAny _ _ (subscriptTail _ (PySem.Expr.Slice _ _ none _) (Value.ref _) (Value.ref _)) _ _ _); k_dflt (refine' slice_upto ?F ?N ?m ?y ?z ?_ ?s ?t; (case F => k_asm); (case N => k_asm); (case m => k_mem); (case y => decide); (case z => assumption); (case s => with_unfolding_all rfl); (case t => kmk_pure)); intro D' h' F' N' l1; (try k_lt l1); (try k_sweep))) | walk1 | (dsimp only; walk1)))
      rename StrsAre _ _ => ha
      rename List.map _ _ = _ => e
      rename News _ _ _ _ => N9
      rename Fr _ _ _ _ => F9
      rename L1 < _ ∧ _ => lt
      rw [List.push_toArray] at N9
      exact ⟨rfl, _, _, _, _, _, rfl, by rw [hpp, ← hps, ← e]; exact strs_snoc' ha, lt.1, F9, N9⟩
  case rest =>
    rintro s' ⟨D, us, nn, h2, tk2, rfl, hus, hDL, F2, N2⟩
    replace hDL := ltN hDL
    (repeat' ((fail_if_success (with_reducible show wpAny _ _ (noteFrame _ _) _ _ _)); (fail_if_success (with_reducible show wpAny _ _ (call (Value.type "map") _ _) _ _ _)); (fail_if_success (with_reducible show wpAny _ _ (call (Value.type "list") _ _) _ _ _)); first | (k_unfold; (try dsimp only)) | (with_reducible (k_here; (with_reducible show wpAny _ _ (PySem.truthy (Value.str _ _)) _ _ _); first | refine truthy_b true (by assumption) (by assumption) ?_ | refine truthy_b false (by assumption) (by assumption) ?_)) | (with_reducible (k_here; (with_reducible show wpAny _ _ (call (Value.builtin "str.split") _) _ _ _); k_dflt (refine' KSpl.split1 ?F ?N ?y ?_ ?z; (case F => k_asm); (case N => k_asm); (case y => decide); (case z => (rw [sizeLine_eq]; omega)); k_whole); intro D' l' h' k' e' a' F' N' l1; (try k_lt l1))) | (with_reducible (k_here; (with_reducible show wpAny _ _ (subscriptTail _ (PySem.Expr.Slice _ _ none _) (Value.ref _) (Value.ref _)) _ _ _); k_dflt (refine' slice_upto ?F ?N ?m ?y ?z ?_ ?s ?t; (case F => k_asm); (case N => k_asm); (case m => k_mem); (case y => decide); (case z => assumption); (case s => with_unfolding_all rfl); (case t => kmk_pure)); intro D' h' F' N' l1; (try k_lt l1); (try k_sweep))) | walk1 | (dsimp only; walk1)))
    refine call_map_list (xs := us.toArray) ⟨_, N2.get (.head _), rfl, nn, rfl⟩ fun h3 z1 T1 I b1 b2 b3 b4 b5 b6 b7 b8 b9 => ?_
    have F3 := F2.of_stays (fun b o e => b4 _ _ (F2.keep b o e)) (Heap.UpToSlots.of_keeps b4)
    have N3 := N2.grown b4
    (repeat' ((fail_if_success (with_reducible show wpAny _ _ (noteFrame _ _) _ _ _)); (fail_if_success (with_reducible show wpAny _ _ (call (Value.type "map") _ _) _ _ _)); (fail_if_success (with_reducible show wpAny _ _ (call (Value.type "list") _ _) _ _ _)); first | (k_unfold; (try dsimp only)) | (with_reducible (k_here; (with_reducible show wpAny _ _ (PySem.truthy (Value.str _ _)) _ _ _); first | refine truthy_b true (by assumption) (by assumption) ?_ | refine truthy_b false (by assumption) (by assumption) ?_)) | (with_reducible (k_here; (with_reducible show wpAny _ _ (call (Value.builtin "str.split") _) _ _ _); k_dflt (refine' KSpl.split1 ?F ?N ?y ?_ ?z; (case F => k_asm); (case N => k_asm); (case y => decide); (case z => (rw [sizeLine_eq]; omega)); k_whole); intro D' l' h' k' e' a' F' N' l1; (try k_lt l1))) | (with_reducible (k_here; (with_reducible show wpAny _ _ (subscriptTail _ (PySem.Expr.Slice _ _ none _) (Value.ref _) (Value.ref _)) _ _ _); k_dflt (refine' slice_upto ?F ?N ?m ?y ?z ?_ ?s ?t; (case F => k_asm); (case N => k_asm); (case m => k_mem); (case y => decide); (case z => assumption); (case s => with_unfolding_all rfl); (case t => kmk_pure)); intro D' h' F' N' l1; (try k_lt l1); (try k_sweep))) | walk1 | (dsimp only; walk1)))
    refine call_map_map b1 fun h4 z2 T2 c1 c2' c3 c4 c5 c6 => ?_
    have F4 := F3.of_stays (fun b o e => c3 _ _ (F3.keep b o e)) (Heap.UpToSlots.of_keeps c3)
    have N4 := N3.grown c3
    have M4 : Maps h4 z2 T2 z1 T1 I D us 0 := ⟨c1, c2', c3 _ _ b1, c3 _ _ b2, b3.at fun o e => c3 _ o e, ⟨_, N4.get (.head _), rfl, nn, rfl⟩⟩
    have nL2 : ∀ b, h2.get? b = none → b ≠ L' := fun b e q => by
      obtain ⟨oL, _, _, hL, _⟩ := F2.ns
      rw [q, hL] at e
      cases e
    have nLI : ¬ L' = I := fun q => nL2 _ b7 q.symm
    have gI : g.get? I = none := by
      cases e : g.get? I with
      | none => rfl
      | some o => have := F2.keep _ _ e; rw [b7] at this; cases this
    have nNI : ∀ p ∈ [(D, listOf us.toArray nn), (L1, o1), (L0, o0)], ¬ p.1 = I := fun p hp q => by
      have := (N2 p hp).1
      rw [q, b7] at this
      cases this
    have nSL : ∀ b, h4.get? b = none → b ≠ L' := fun b e q => by
      obtain ⟨oL, _, _, hL, _⟩ := F4.ns
      rw [q, hL] at e
      cases e
    have nSg : ∀ b, h4.get? b = none → g.get? b = none := fun b e => by
      cases q : g.get? b with
      | none => rfl
      | some o => have := F4.keep _ _ q; rw [e] at this; cases this
    (repeat' ((fail_if_success (with_reducible show wpAny _ _ (noteFrame _ _) _ _ _)); (fail_if_success (with_reducible show wpAny _ _ (call (Value.type "map") _ _) _ _ _)); (fail_if_success (with_reducible show wpAny _ _ (call (Value.type "list") _ _) _ _ _)); first | (k_unfold; (try dsimp only)) | (with_reducible (k_here; (with_reducible show wpAny _ _ (PySem.truthy (Value.str _ _)) _ _ _); first | refine truthy_b true (by assumption) (by assumption) ?_ | refine truthy_b false (by assumption) (by assumption) ?_)) | (with_reducible (k_here; (with_reducible show wpAny _ _ (call (Value.builtin "str.split") _) _ _ _); k_dflt (refine' KSpl.split1 ?F ?N ?y ?_ ?z; (case F => k_asm); (case N => k_asm); (case y => decide); (case z => (rw [sizeLine_eq]; omega)); k_whole); intro D' l' h' k' e' a' F' N' l1; (try k_lt l1))) | (with_reducible (k_here; (with_reducible show wpAny _ _ (subscriptTail _ (PySem.Expr.Slice _ _ none _) (Value.ref _) (Value.ref _)) _ _ _); k_dflt (refine' slice_upto ?F ?N ?m ?y ?z ?_ ?s ?t; (case F => k_asm); (case N => k_asm); (case m => k_mem); (case y => decide); (case z => assumption); (case s => with_unfolding_all rfl); (case t => kmk_pure)); intro D' h' F' N' l1; (try k_lt l1); (try k_sweep))) | walk1 | (dsimp only; walk1)))
    refine list_maps rfl M4 hus htk hch (Nat.le_trans hrl (by decide)) hml ?ok ?bad
    case ok =>
      intro hf S ys k h5 tk5 hys hk hSo hS0 hSlt
      have F5 := fr_but (P := fun b => b = I) F4 nLI (fun b q => q ▸ gI) hk
      have N5 : News g L' h5 [(S, listOf ys.toArray k), (D, listOf us.toArray nn), (L1, o1), (L0, o0)] := by
        intro p hp
        rcases List.mem_cons.mp hp with rfl | hp
        · exact ⟨hSo, nSL _ hS0, nSg _ hS0⟩
        · exact news_but (P := fun b => b = I) N4 nNI hk p hp
      have hyl : ys.length ≤ 1000 := by rw [hys.length, List.length_map]; omega
      clear N2 N3 N4 F2 F3 F4
      (repeat' ((fail_if_success (with_reducible show wpAny _ _ (noteFrame _ _) _ _ _)); (fail_if_success (with_reducible show wpAny _ _ (call (Value.type "map") _ _) _ _ _)); (fail_if_success (with_reducible show wpAny _ _ (call (Value.type "list") _ _) _ _ _)); first | (k_unfold; (try dsimp only)) | (with_reducible (k_here; (with_reducible show wpAny _ _ (PySem.truthy (Value.str _ _)) _ _ _); first | refine truthy_b true (by assumption) (by assumption) ?_ | refine truthy_b false (by assumption) (by assumption) ?_)) | (with_reducible (k_here; (with_reducible show wpAny _ _ (call (Value.builtin "str.split") _) _ _ _); k_dflt (refine' KSpl.split1 ?F ?N ?y ?_ ?z; (case F => k_asm); (case N => k_asm); (case y => decide); (case z => (rw [sizeLine_eq]; omega)); k_whole); intro D' l' h' k' e' a' F' N' l1; (try k_lt l1))) | (with_reducible (k_here; (with_reducible show wpAny _ _ (subscriptTail _ (PySem.Expr.Slice _ _ none _) (Value.ref _) (Value.ref _)) _ _ _); k_dflt (refine' slice_upto ?F ?N ?m ?y ?z ?_ ?s ?t; (case F => k_asm); (case N => k_asm); (case m => k_mem); (case y => decide); (case z => assumption); (case s => with_unfolding_all rfl); (case t => kmk_pure)); intro D' h' F' N' l1; (try k_lt l1); (try k_sweep))) | walk1 | (dsimp only; walk1)))
      refine join_at (ys := (parts.map numS).take 3) (by assumption) (.head _) (hys.take' 3) (by decide) (by rw [List.length_take]; omega) (fun y hy => ?_) fun t' k => ?_
      · obtain ⟨r, hr, rfl⟩ := List.mem_map.mp (List.mem_of_mem_take hy)
        exact Nat.le_trans (numS_len (hf r hr) (hml r hr)) (by decide)
      (repeat' ((fail_if_success (with_reducible show wpAny _ _ (noteFrame _ _) _ _ _)); (fail_if_success (with_reducible show wpAny _ _ (call (Value.type "map") _ _) _ _ _)); (fail_if_success (with_reducible show wpAny _ _ (call (Value.type "list") _ _) _ _ _)); first | (k_unfold; (try dsimp only)) | (with_reducible (k_here; (with_reducible show wpAny _ _ (PySem.truthy (Value.str _ _)) _ _ _); first | refine truthy_b true (by assumption) (by assumption) ?_ | refine truthy_b false (by assumption) (by assumption) ?_)) | (with_reducible (k_here; (with_reducible show wpAny _ _ (call (Value.builtin "str.split") _) _ _ _); k_dflt (refine' KSpl.split1 ?F ?N ?y ?_ ?z; (case F => k_asm); (case N => k_asm); (case y => decide); (case z => (rw [sizeLine_eq]; omega)); k_whole); intro D' l' h' k' e' a' F' N' l1; (try k_lt l1))) | (with_reducible (k_here; (with_reducible show wpAny _ _ (subscriptTail _ (PySem.Expr.Slice _ _ none _) (Value.ref _) (Value.ref _)) _ _ _); k_dflt (refine' slice_upto ?F ?N ?m ?y ?z ?_ ?s ?t; (case F => k_asm); (case N => k_asm); (case m => k_mem); (case y => decide); (case z => assumption); (case s => with_unfolding_all rfl); (case t => kmk_pure)); intro D' h' F' N' l1; (try k_lt l1); (try k_sweep))) | walk1 | (dsimp only; walk1)))
      rename News _ _ _ _ => N11
      rename Fr _ _ _ _ => F11
      rw [← List.map_take, ← short_fig hf]
      exact hret _ o1 o0 _ _ F11.keep (N11.get (.tail _ (.tail _ (.tail _ (.head _))))) ⟨_, rfl⟩ (N11.get (.tail _ (.tail _ (.tail _ (.tail _ (.head _)))))) ⟨_, rfl⟩
    case bad =>
      intro hf hm h5 tk5 e5 hk hx
      have Fm := fr_but (P := fun b => b = I) F4 nLI (fun b q => q ▸ gI) hk
      have Nm : News g L' hm ([(D, listOf us.toArray nn)] ++ (L1, o1) :: (L0, o0) :: []) := news_but (P := fun b => b = I) N4 nNI hk
      clear N2 N3 N4 F2 F3 F4
      (repeat' ((fail_if_success (with_reducible show wpAny _ _ (noteFrame _ _) _ _ _)); (fail_if_success (with_reducible show wpAny _ _ (call (Value.type "map") _ _) _ _ _)); (fail_if_success (with_reducible show wpAny _ _ (call (Value.type "list") _ _) _ _ _)); first | (k_unfold; (try dsimp only)) | (with_reducible (k_here; (with_reducible show wpAny _ _ (PySem.truthy (Value.str _ _)) _ _ _); first | refine truthy_b true (by assumption) (by assumption) ?_ | refine truthy_b false (by assumption) (by assumption) ?_)) | (with_reducible (k_here; (with_reducible show wpAny _ _ (call (Value.builtin "str.split") _) _ _ _); k_dflt (refine' KSpl.split1 ?F ?N ?y ?_ ?z; (case F => k_asm); (case N => k_asm); (case y => decide); (case z => (rw [sizeLine_eq]; omega)); k_whole); intro D' l' h' k' e' a' F' N' l1; (try k_lt l1))) | (with_reducible (k_here; (with_reducible show wpAny _ _ (subscriptTail _ (PySem.Expr.Slice _ _ none _) (Value.ref _) (Value.ref _)) _ _ _); k_dflt (refine' slice_upto ?F ?N ?m ?y ?z ?_ ?s ?t; (case F => k_asm); (case N => k_asm); (case m => k_mem); (case y => decide); (case z => assumption); (case s => with_unfolding_all rfl); (case t => kmk_pure)); intro D' h' F' N' l1; (try k_lt l1); (try k_sweep))) | walk1 | (dsimp only; walk1)))
      k_dflt (refine' caught_first (A₀ := actx dp un gd [env1, env0]) (T' := "ValueError") rfl (fun_site2 Fm h1 h0 k1 k0 Nm (.tail _ (.head _)) (.tail _ (.tail _ (.head _))) hn1 hn0 rfl) hx Fm ?no T PyProof.Rows.Boot.«ValueError» PySem.F.isExc_ValueError PySem.F.notTuple_ValueError (by kernel_rfl) ?_)
      (case no =>
        intro b hb
        simp only [List.filterMap_cons, h1, h0, List.filterMap_nil, List.mem_cons, List.not_mem_nil, or_false] at hb
        rcases hb with rfl | rfl
        · exact (Nm (_, o1) (.tail _ (.head _))).2.2
        · exact (Nm (_, o0) (.tail _ (.tail _ (.head _)))).2.2)
      intro h10 F10 K10
      obtain ⟨s1, s0, N10⟩ := keep_site2 (l1 := [(D, listOf us.toArray nn)]) (l2 := []) K10 h1 h0 Nm (by
        intro p hp
        simp only [List.append_nil, List.mem_cons, List.not_mem_nil, or_false] at hp
        subst hp
        exact ⟨(Nat.ne_of_lt hDL).symm, (Nat.ne_of_lt (Nat.lt_trans hlt1 hDL)).symm⟩) hn1 hn0
      dsimp only [List.cons_append, List.nil_append] at N10
      have hul : us.length ≤ 1000 := by rw [hus.length]; omega
      clear Nm Fm K10
      (repeat' ((fail_if_success (with_reducible show wpAny _ _ (noteFrame _ _) _ _ _)); (fail_if_success (with_reducible show wpAny _ _ (call (Value.type "map") _ _) _ _ _)); (fail_if_success (with_reducible show wpAny _ _ (call (Value.type "list") _ _) _ _ _)); first | (k_unfold; (try dsimp only)) | (with_reducible (k_here; (with_reducible show wpAny _ _ (PySem.truthy (Value.str _ _)) _ _ _); first | refine truthy_b true (by assumption) (by assumption) ?_ | refine truthy_b false (by assumption) (by assumption) ?_)) | (with_reducible (k_here; (with_reducible show wpAny _ _ (call (Value.builtin "str.split") _) _ _ _); k_dflt (refine' KSpl.split1 ?F ?N ?y ?_ ?z; (case F => k_asm); (case N => k_asm); (case y => decide); (case z => (rw [sizeLine_eq]; omega)); k_whole); intro D' l' h' k' e' a' F' N' l1; (try k_lt l1))) | (with_reducible (k_here; (with_reducible show wpAny _ _ (subscriptTail _ (PySem.Expr.Slice _ _ none _) (Value.ref _) (Value.ref _)) _ _ _); k_dflt (refine' slice_upto ?F ?N ?m ?y ?z ?_ ?s ?t; (case F => k_asm); (case N => k_asm); (case m => k_mem); (case y => decide); (case z => assumption); (case s => with_unfolding_all rfl); (case t => kmk_pure)); intro D' h' F' N' l1; (try k_lt l1); (try k_sweep))) | walk1 | (dsimp only; walk1)))
      refine join_at (ys := parts.take 3) (by assumption) (.head _) (hus.take' 3) (by decide) (by rw [List.length_take]; omega) (fun y hy => Nat.le_trans (hml y (List.mem_of_mem_take hy)) (by decide)) fun t' k => ?_
      (repeat' ((fail_if_success (with_reducible show wpAny _ _ (noteFrame _ _) _ _ _)); (fail_if_success (with_reducible show wpAny _ _ (call (Value.type "map") _ _) _ _ _)); (fail_if_success (with_reducible show wpAny _ _ (call (Value.type "list") _ _) _ _ _)); first | (k_unfold; (try dsimp only)) | (with_reducible (k_here; (with_reducible show wpAny _ _ (PySem.truthy (Value.str _ _)) _ _ _); first | refine truthy_b true (by assumption) (by assumption) ?_ | refine truthy_b false (by assumption) (by assumption) ?_)) | (with_reducible (k_here; (with_reducible show wpAny _ _ (call (Value.builtin "str.split") _) _ _ _); k_dflt (refine' KSpl.split1 ?F ?N ?y ?_ ?z; (case F => k_asm); (case N => k_asm); (case y => decide); (case z => (rw [sizeLine_eq]; omega)); k_whole); intro D' l' h' k' e' a' F' N' l1; (try k_lt l1))) | (with_reducible (k_here; (with_reducible show wpAny _ _ (subscriptTail _ (PySem.Expr.Slice _ _ none _) (Value.ref _) (Value.ref _)) _ _ _); k_dflt (refine' slice_upto ?F ?N ?m ?y ?z ?_ ?s ?t; (case F => k_asm); (case N => k_asm); (case m => k_mem); (case y => decide); (case z => assumption); (case s => with_unfolding_all rfl); (case t => kmk_pure)); intro D' h' F' N' l1; (try k_lt l1); (try k_sweep))) | walk1 | (dsimp only; walk1)))
      rename News _ _ _ _ => N11
      rename Fr _ _ _ _ => F11
      rw [← short_oth hf]
      exact hret _ _ _ _ _ F11.keep (N11.get (.tail _ (.tail _ (.head _)))) ⟨_, rfl⟩ (N11.get (.tail _ (.tail _ (.tail _ (.head _))))) ⟨_, rfl⟩
end Mine
end
section
open PySem PySem.W PySem.W.X PyProof.Rows PySem.Calls
set_option maxRecDepth 100000
set_option maxHeartbeats 8000000
namespace Mine
theorem short_at {w : World} {mg mb : Str → Option Value} {dp un : Nat} {gd : Option (List Code)} {fr : List Env} {h₀ : Heap} {L : Addr} {m : Str → Option Value} {news : List (Addr × Obj)} {s : Shared} {Q E : Value → Shared → Prop} {lr : Addr} {vs : List Value} {n : Nat} {rs : List Str}
    (F : Fr h₀ L s.heap m) (N : News h₀ L s.heap news) (hm : (lr, listOf vs.toArray n) ∈ news) (X : (K3 w.params).In h₀) (T : TopRead q1 loose1 mg mb h₀) (hd : dp + 20 < recursionLimit) (hu : un + 200 < cLine)
    (hs : StrsAre vs rs) (htk : ∀ r ∈ rs, TokOf r) (hrl : rs.length ≤ 100) (hml : ∀ r ∈ rs, r.length ≤ 100)
    (hret : ∀ t' h' tk', (∀ b o, s.heap.get? b = some o → h'.get? b = some o) → Fr h₀ L h' m → News h₀ L h' news → Q (.str (shortOf rs) t') { s with heap := h', toks := tk' }) :
    wpAny (model pw w) { handled := none, depth := dp, frames := some fr, guards := gd, units := un } (call (.ref 792) [.ref lr]) Q E s := by
  have st : h₀.StaysIn (hideAll s.heap [lr]) := fun b o e => hideAll_get _ (F.keep b o e) fun q => by
    rw [List.mem_singleton.mp q, N.fresh hm] at e
    cases e
  refine short_spec rfl (N.get hm) hs htk hrl hml (X.keeps st) (T.keeps st) hd hu fun t' h' tk' hk hl => ?_
  have hk' : ∀ b o, s.heap.get? b = some o → h'.get? b = some o := fun b o e => by
    by_cases q : b = lr
    · subst q
      rw [N.get hm] at e
      rw [← e]
      exact hl
    · exact hk b o (hideAll_get _ e fun z => q (List.mem_singleton.mp z))
  exact hret t' h' tk' hk' (F.of_stays (fun b o e => hk' b o (F.keep b o e)) (Heap.UpToSlots.of_keeps hk')) (N.grown hk')
theorem norm_at {w : World} {mg mb : Str → Option Value} {dp un : Nat} {gd : Option (List Code)} {env1 env0 : Env} {s : Shared} {Q E : Value → Shared → Prop} {x : Str} {t : Tok} {h₀ : Heap} {L L0 : Addr} {m : Str → Option Value} {l1 l2 : List (Addr × Obj)} {o0 : Obj} {ps parts : List Str} (bo : Option (Str × Tok))
    (F : Fr h₀ L s.heap m) (N : News h₀ L s.heap (l1 ++ (L0, o0) :: l2)) (ha : ∀ p ∈ l1 ++ l2, p.1 ≠ L0) (X : (K3 w.params).In h₀) (T : TopRead q1 loose1 mg mb h₀) (hd : dp + 30 < recursionLimit) (hu : un + 200 < cLine)
    (hn0 : ∀ vs, o0.data ≠ .fields vs)
    (h1 : env1.frame = some L) (h0 : env0.frame = some L0) (k1 : env1.scope.kind = .function) (k0 : env0.scope.kind = .function) (hlt1 : L0 < L)
    (hxl : x.length ≤ 1000) (hps : Txt.split x (Str.ofString ".") = ps) (hparts : (bS bo = Str.ofString "" ∧ parts = ps) ∨ ((bS bo).length ≠ 0 ∧ parts = ps ++ [bS bo]))
    (htk : ∀ r ∈ parts, TokOf r) (hch : ∀ r ∈ parts, ∀ c ∈ r.cps.toList, c < 128 ∨ c = 233) (hrl : parts.length ≤ 100) (hml : ∀ r ∈ parts, r.length ≤ 100)
    (hret : ∀ t' o0' h' tk', Fr h₀ L h' m → News h₀ L h' (l1 ++ (L0, o0') :: l2) → (∃ sl, o0' = { o0 with slots := sl }) → Q (.str (shortOf parts) t') { s with heap := h', toks := tk' }) :
    wpAny (model pw w) (actx dp un gd [env1, env0]) (call (.ref 65) (.str x t :: bArgs bo)) Q E s := by
  obtain ⟨oL, es, ep, hL, hLd, hLk, hLf⟩ := id F.ns
  have P0 := N (L0, o0) (List.mem_append_right _ (.head _))
  have hLn : h₀.get? L = none := by
    cases q : h₀.get? L with
    | none => rfl
    | some o => exact absurd (Nat.lt_of_lt_of_le (Heap.lt_size q) F.above) (Nat.lt_irrefl _)
  have st : h₀.StaysIn (hideAll s.heap [L, L0]) := fun b o e => hideAll_get _ (F.keep b o e) fun q => by
    simp only [List.mem_cons, List.not_mem_nil, or_false] at q
    rcases q with rfl | rfl
    · rw [hLn] at e; cases e
    · have := P0.2.2; dsimp only at this; rw [this] at e; cases e
  refine norm_spec (parts := parts) rfl hL P0.1 (fun vs => by rw [hLd]; exact fun q => nomatch q) hn0 h1 h0 k1 k0 hlt1 (X.keeps st) (T.keeps st) hd hu hxl hps hparts htk hch hrl hml fun t' o1' o0' h' tk' hk e1 q1' e0 q0 => ?_
  obtain ⟨s1, rfl⟩ := q1'
  refine hret t' o0' h' tk' ⟨⟨_, es, ep, e1, hLd, hLk, hLf⟩, fun b o e => hk b o (st b o e), F.above⟩ (fun p hp => ?_) q0
  have keep : ∀ p ∈ l1 ++ l2, s.heap.get? p.1 = some p.2 ∧ p.1 ≠ L ∧ h₀.get? p.1 = none → h'.get? p.1 = some p.2 ∧ p.1 ≠ L ∧ h₀.get? p.1 = none := fun p hp hq => ⟨hk _ _ (hideAll_get _ hq.1 fun q => by
    simp only [List.mem_cons, List.not_mem_nil, or_false] at q
    rcases q with q | q
    · exact hq.2.1 q
    · exact ha p hp q), hq.2⟩
  rcases List.mem_append.mp hp with q | q
  · exact keep p (List.mem_append_left _ q) (N p (List.mem_append_left _ q))
  · rcases List.mem_cons.mp q with rfl | q
    · exact ⟨e0, P0.2⟩
    · exact keep p (List.mem_append_right _ q) (N p (List.mem_append_right _ (.tail _ q)))
end Mine
end
section
open PySem PySem.W PySem.W.X PyProof.Rows PySem.Calls
set_option maxRecDepth 100000
set_option maxHeartbeats 4000000
namespace Mine
/-- what holds between the turns of a loop over any list -/
noncomputable def LlS {σ : Type} (Led : σ → List (Addr × Obj)) (pr : σ → List (Str × Value)) (Facts : σ → Prop) (x : Str) (stored : List Str) (m₀ : Str → Option Value) (P : List Value → σ → Prop) (pre : List Value) (m : Str → Option Value) (nx : List (Addr × Obj)) : Prop :=
  ∃ c : σ, nx = Led c ∧ Facts c ∧ (∀ p ∈ pr c, m p.1 = some p.2) ∧ (∀ z, z ≠ x → (∀ p ∈ pr c, z ≠ p.1) → stored.contains z = false → m z = m₀ z) ∧ P pre c
section
variable {prog : Program} {w : World} {A : Around} {E : Value → Shared → Prop} {s : Shared} {env : PySem.Env} {h₀ : Heap} {x : Str} {body : List Stmt} {Q : Flow → Shared → Prop}
theorem list_loop {σ : Type} {l : Addr} {vs : List Value} {nn : Nat} {m₀ : Str → Option Value} (Led : σ → List (Addr × Obj)) (pr : σ → List (Str × Value)) (Facts : σ → Prop) (stored : List Str) (P : List Value → σ → Prop) (c₀ : σ)
    (hh : A.handled = none) (hl : ∀ c : σ, (l, listOf vs.toArray nn) ∈ Led c) (had : ∀ c, (Led c).map (·.1) = (Led c₀).map (·.1)) (F : Fr h₀ env.locals s.heap m₀) (N : News h₀ env.locals s.heap (Led c₀)) (hf : Facts c₀) (hk : ∀ p ∈ pr c₀, m₀ p.1 = some p.2) (hp : P [] c₀)
    (turn : ∀ (c : σ) pre post v (u : Str → Option Value) h tk own, vs = pre ++ v :: post → OwnOff own ((Led c₀).map (·.1)) → Facts c → P pre c →
      Fr h₀ env.locals h (fun z => if z = x then some v else kstB (fun z => if stored.contains z then u z else m₀ z) (pr c) z) → News h₀ env.locals h (Led c ++ own) →
      wpAny (model prog w) A (execs body env) (InvPostN h₀ env.locals (LlS Led pr Facts x stored m₀ P (pre ++ [v])) own ((Led c₀).map (·.1)) { s with heap := h, toks := tk } Q) E { s with heap := h, toks := tk })
    (done : ∀ (c : σ) (u : Str → Option Value) h tk, Facts c → P vs c → Fr h₀ env.locals h (fun z => if z = x then u z else kstB (fun z => if stored.contains z then u z else m₀ z) (pr c) z) → News h₀ env.locals h (Led c) → Q .next { s with heap := h, toks := tk }) :
    wpAny (model prog w) A (pyIter (.ref l)) (fun it s₂ => LoopAtV prog w A h₀ env x body Q E it s₂) E s := by
  have hol : s.heap.get? l = some (listOf vs.toArray nn) := (N _ (hl c₀)).1
  have hls : s.heap.IsList l vs.toArray := ⟨_, hol, rfl, nn, rfl⟩
  obtain ⟨I, hI⟩ : ∃ I, I = s.heap.objs.size := ⟨_, rfl⟩
  have hne : l ≠ I := by rw [hI]; exact Nat.ne_of_lt (Heap.lt_size hol)
  have off : ∀ p ∈ Led c₀, p.1 ≠ I := fun p hp => by rw [hI]; exact Nat.ne_of_lt (Heap.lt_size (N p hp).1)
  have offA : ∀ c, ∀ p ∈ Led c, p.1 ≠ I := fun c p hp => by
    have h1 : p.1 ∈ (Led c).map (·.1) := List.mem_map.mpr ⟨p, hp, rfl⟩
    rw [had c] at h1
    obtain ⟨q, hq, e⟩ := List.mem_map.mp h1
    exact e ▸ off q hq
  refine wpAny_pyIter_list hls ?_
  rw [← hI]
  have W := Walks.list (prog := prog) (w := w) hh I l hne vs.toArray
  have hlen : vs.toArray.size = vs.length := by simp
  rw [hlen] at W
  have F1 := F.push { cls := .type "list_iterator", data := .fields #[.ref l, .int 0 0] }
  refine ⟨_, _, _, vs.length, _, _, m₀, Led c₀, (fun i m nx => LlS Led pr Facts x stored m₀ P (vs.take i) m nx), rfl, W, ?_, ?_, ?_, ⟨⟨_, by rw [hI]; exact Heap.get?_push_size _ rfl, rfl, rfl⟩, hls.at fun o e => Heap.get?_push_of_some _ e⟩, F.push _, (fun p hp => ⟨Heap.get?_push_of_some _ (N p hp).1, (N p hp).2⟩), ⟨c₀, rfl, hf, hk, fun _ _ _ _ => rfl, by simpa using hp⟩, ?_, ?_⟩
  · intro hm
    rcases List.mem_cons.mp hm with e | hm
    · rw [hI] at e
      exact absurd F.ns.lt (e ▸ Nat.lt_irrefl _)
    · exact (N _ (hl c₀)).2.1 ((List.mem_singleton.mp hm).symm)
  · intro b hb
    rw [List.mem_singleton.mp hb, hI]
    exact next_is_new F
  · intro p hp hm
    exact off p hp (List.mem_singleton.mp hm)
  · rintro i v m₁ news₁ s₁ own ⟨hh', tk', rfl⟩ hin hP ⟨c, rfl, hf', h1, h2, hp'⟩ hoff hown hget hfp _ F₁ N₁
    have hsep : OwnOff (own.filter fun p => decide (p.1 = I)) ((Led c₀).map (·.1)) := by
      intro p hp b hb e
      obtain ⟨q, hq, rfl⟩ := List.mem_map.mp hb
      have h1 : p.1 = I := by simpa using (List.mem_filter.mp hp).2
      exact off q hq (e.symm.trans h1)
    have hy : vs[i]? = some v := by simpa using hP
    have htk : vs.take (i + 1) = vs.take i ++ [v] := by simp [List.take_add_one, hy]
    have hps : vs = vs.take i ++ v :: vs.drop (i + 1) := by
      have ht := List.take_append_drop (i + 1) vs
      rw [htk, List.append_assoc] at ht
      exact ht.symm
    have N₂ : News h₀ env.locals hh' (Led c ++ own.filter fun p => decide (p.1 = I)) := fun p hp => N₁ p ((List.mem_append.mp hp).elim (fun h => List.mem_append.mpr (.inr h)) fun h => List.mem_append.mpr (.inl ((List.mem_filter.mp h).1)))
    have hlo : hh'.get? l = some (listOf vs.toArray nn) := (N₁ _ (List.mem_append.mpr (.inr (hl c)))).1
    have em : (fun z => if z = x then some v else kstB (fun z => if stored.contains z then m₁ z else m₀ z) (pr c) z) = fun z => if z = x then some v else m₁ z := by
      funext z
      by_cases hz : z = x
      · rw [if_pos hz, if_pos hz]
      · rw [if_neg hz, if_neg hz]
        exact kst_off h1 h2 hz
    refine wpAny_mono (turn c _ _ v m₁ hh' tk' _ hps hsep hf' hp' (by rw [em]; exact F₁) N₂) (fun f s₂ p => ?_) fun _ _ e => e
    rw [← htk] at p
    have fin : InvEndN h₀ env.locals (LlS Led pr Facts x stored m₀ P (vs.take (i + 1))) (own.filter fun p => decide (p.1 = I)) ((Led c₀).map (·.1)) { s with heap := hh', toks := tk' } s₂ →
        LoopStepU h₀ env.locals [I] own (fun m nx => LlS Led pr Facts x stored m₀ P (vs.take (i + 1)) m nx) { s with heap := hh', toks := tk' } .next s₂ := by
      rintro ⟨h', tk, m', news', nx, e, F', N', hn, ho, ha, hm⟩
      obtain ⟨c', rfl, hm'⟩ := hm
      refine ⟨rfl, h', tk, m', Led c', e, F', fun p hp => ?_, fun p hp hm => offA c' p hp (List.mem_singleton.mp hm), c', rfl, hm'⟩
      rcases List.mem_append.mp hp with h | h
      · by_cases hIp : p.1 = I
        · exact N' p (ho p (List.mem_filter.mpr ⟨h, by simpa using hIp⟩))
        · have h1 : p.1 = l := by
            rcases List.mem_cons.mp (hown p h) with h2 | h2
            · exact absurd h2 hIp
            · exact List.mem_singleton.mp h2
          have h2 : hh'.get? p.1 = some p.2 := hget p h
          rw [h1, hlo] at h2
          have h3 : p = (l, listOf vs.toArray nn) := Prod.ext h1 (Option.some.inj h2).symm
          rw [h3]
          exact N' _ (hn _ (hl c'))
      · exact N' p (hn p h)
    cases f with
    | ret v => exact .ret p
    | brk => exact .brk p
    | next => exact .next (fin p)
    | cont => exact .cont (fin p)
  · rintro h' tk m' news' F' N' _ ⟨c, rfl, hf', h1, h2, hp'⟩
    rw [List.take_length] at hp'
    refine done c m' h' tk hf' hp' ?_ N'
    have em : (fun z => if z = x then m' z else kstB (fun z => if stored.contains z then m' z else m₀ z) (pr c) z) = m' := by
      funext z
      by_cases hz : z = x
      · rw [if_pos hz]
      · rw [if_neg hz]
        exact kst_off h1 h2 hz
    rw [em]
    exact F'
theorem ll_end {σ : Type} {Led : σ → List (Addr × Obj)} {pr : σ → List (Str × Value)} {Facts : σ → Prop} {stored : List Str} {m₀ : Str → Option Value} {P : List Value → σ → Prop} {pre : List Value} (c : σ) {L : Addr} {m' : Str → Option Value} {own news' : List (Addr × Obj)} {adr : List Addr} {s₁ : Shared} {h' : Heap} {tk : Nat}
    (F : Fr h₀ L h' m') (N : News h₀ L h' news') (hn : ∀ p ∈ Led c, p ∈ news') (ho : ∀ p ∈ own, p ∈ news') (ha : (Led c).map (·.1) = adr) (hf : Facts c) (hk : ∀ p ∈ pr c, m' p.1 = some p.2) (hr : ∀ z, z ≠ x → (∀ p ∈ pr c, z ≠ p.1) → stored.contains z = false → m' z = m₀ z) (hp : P pre c) :
    InvPostN h₀ L (LlS Led pr Facts x stored m₀ P pre) own adr s₁ Q .next { s₁ with heap := h', toks := tk } :=
  InvEndN.intro F N ⟨c, rfl, hf, hk, hr, hp⟩ ha hn ho
end
/-- the source of a comprehension that is named is known -/
noncomputable def CompTo (prog : Program) (w : World) (A : Around) (env : PySem.Env) (h₀ : Heap) (m : Str → Option Value) (elt : PySem.Expr) (x y : Str) (ifs : List PySem.Expr) (scope : Scope) (p : Value → Bool) (R : Value → Value → Prop) (Q : Flow → Shared → Prop) (xv : Value) (s₁ : Shared) : Prop :=
  ∃ ax items news, xv = .ref ax ∧ Fr h₀ env.locals s₁.heap m ∧ News h₀ env.locals s₁.heap news ∧ s₁.heap.IsList ax items ∧ items.size ≤ sizeLine ∧
      (∀ C v s₂ m₂ E', v ∈ items → s₂.heap.Ns C m₂ → m₂ x = some v → (∀ b o, s₁.heap.get? b = some o → s₂.heap.get? b = some o) →
        wpAny (model prog w) A (forIn ifs true fun c r => if r = true then do let ok ← isTrue c (compEnv scope C env) (eval c (compEnv scope C env)); pure (ForInStep.yield ok) else pure (ForInStep.yield r))
          (fun ok s₃ => ok = p v ∧ Keeps s₂ s₃) E' s₂) ∧
      (∀ C v s₂ m₂ E', v ∈ items → p v = true → s₂.heap.Ns C m₂ → m₂ x = some v → (∀ b o, s₁.heap.get? b = some o → s₂.heap.get? b = some o) → wpAny (model prog w) A (eval elt (compEnv scope C env)) (fun y s₃ => R v y ∧ Keeps s₂ s₃) E' s₂) ∧
      (∀ D h' tk ys nD, h'.get? D = some (listOf ys nD) → Paired R (items.toList.filter p) ys.toList → Fr h₀ env.locals h' (fun z => if z = y then some (.ref D) else m z) → News h₀ env.locals h' ((D, listOf ys nD) :: news) → (∀ q ∈ news, q.1 ≠ D) → Q .next { s₁ with heap := h', toks := tk })
theorem comp_to {prog : Program} {w : World} {A : Around} {E : Value → Shared → Prop} {s : Shared} {env : PySem.Env} {h₀ : Heap} {m : Str → Option Value} {elt iter : PySem.Expr} {x y : Str} {px py : Pos} {ifs : List PySem.Expr} {scope : Scope} {pos spos : Pos} {Q : Flow → Shared → Prop} (p : Value → Bool) (R : Value → Value → Prop)
    (hsw : swapsWith (.ListComp elt [⟨.Name x px, iter, ifs, 0⟩] scope pos) (some (.Name y py)) spos.line env = pure true) (hh : A.handled = none) (hfree : ∀ y ∈ scope.names, y.2 ≠ .free) (hcell : ∀ y ∈ scope.names, y.2 ≠ .cell) (hkind : scope.kind = .function)
    (hnames : ∀ y ∈ scope.names, y.2 = .local → scope.names.lookup y.1 = some .local) (hx : scope.names.lookup x = some .local)
    (hy : env.kindOf y = some .local) (hp : (env.scope.kind == .class || (env.scope.kind == .module && env.locals != env.globals)) = false)
    (h : wpAny (model prog w) A (eval iter env) (CompTo prog w A env h₀ m elt x y ifs scope p R Q) E s)
    (hs : ∀ x, foldedSetIterable iter env x = pure x := by intro _; rfl) :
    wpAny (model prog w) A (exec (.Assign [.Name y py] (.ListComp elt [⟨.Name x px, iter, ifs, 0⟩] scope pos) spos) env) Q E s := by
  refine wpAny_Assign_ListComp_walk p R hsw hfree hcell hkind hnames hx hy hp (wpAny_mono h (fun xv s₁ h₁ => ?_) fun _ _ e => e) hs
  obtain ⟨ax, items, news, rfl, F, N, hl, hz, ht, he, hq⟩ := h₁
  refine wpAny_pyIter_list hl ?_
  obtain ⟨I, hI⟩ : ∃ I, I = s₁.heap.objs.size := ⟨_, rfl⟩
  rw [← hI]
  obtain ⟨ol, hol, hol'⟩ := id hl
  have lt : ∀ b o, s₁.heap.get? b = some o → b ≠ I := fun b o e => by rw [hI]; exact Nat.ne_of_lt (Heap.lt_size e)
  have W := Walks.list (prog := prog) (w := w) hh I ax (lt _ _ hol) items
  obtain ⟨oL, es, ep, hL, hLr⟩ := id F.ns
  have up : ∀ b o, s₁.heap.get? b = some o → (s₁.heap.push { cls := .type "list_iterator", data := .fields #[.ref ax, .int 0 0] }).get? b = some o := fun b o e => Heap.get?_push_of_some _ e
  have hLg : h₀.get? env.locals = none := by
    cases q : h₀.get? env.locals with
    | none => rfl
    | some o => exact absurd (Nat.lt_of_lt_of_le (Heap.lt_size q) F.above) (Nat.lt_irrefl _)
  refine ⟨I, _, _, items.size, _, _, m, rfl, W, hz, ⟨⟨_, by rw [hI]; exact Heap.get?_push_size _ rfl, rfl, rfl⟩, hl.at fun o e => up _ o e⟩, ?_, ?_, ⟨oL, es, ep, up _ _ hL, hLr⟩, ⟨?_, ?_⟩, ?_⟩
  · intro b hb
    simp only [List.mem_cons, List.not_mem_nil, or_false] at hb
    show b < (s₁.heap.push _).objs.size
    rw [Heap.size_push]
    rcases hb with rfl | rfl
    · rw [hI]; exact Nat.lt_succ_self _
    · exact Nat.lt_succ_of_lt (Heap.lt_size hol)
  · intro hm
    exact lt _ _ hL (List.mem_singleton.mp hm)
  · intro C i v s₃ m₃ E' hv hn hm hk _
    exact ht C v s₃ m₃ E' (Array.mem_of_getElem? hv) hn hm fun b o e => hk b o (fun q => lt b o e (List.mem_singleton.mp q)) (up b o e)
  · intro C i v s₃ m₃ E' hv hpv hn hm hk _
    exact he C v s₃ m₃ E' (Array.mem_of_getElem? hv) hpv hn hm fun b o e => hk b o (fun q => lt b o e (List.mem_singleton.mp q)) (up b o e)
  · intro D h' tk ys vs hD hlD hpl hlen hP hF hn hk
    obtain ⟨nD, hpl⟩ := hpl
    have hDn : s₁.heap.get? D = none := by
      cases q : s₁.heap.get? D with
      | none => rfl
      | some o => have := up _ _ q; rw [hD] at this; cases this
    have hvs : vs = items.toList := by
      apply List.ext_getElem?
      intro j
      by_cases hj : j < vs.length
      · have := hP j vs[j] (by simp [hj])
        rw [List.getElem?_eq_getElem hj, Array.getElem?_toList, this]
      · rw [List.getElem?_eq_none (by omega), List.getElem?_eq_none (by simp; omega)]
    subst hvs
    have hk' : ∀ b o, b ≠ env.locals → s₁.heap.get? b = some o → h'.get? b = some o := fun b o n e => hk b o n (fun q => lt b o e (List.mem_singleton.mp q)) (up b o e)
    refine hq D h' tk ys nD hpl hF ⟨hn, fun b o e => hk' b o (fun q => by rw [q, hLg] at e; cases e) (F.keep b o e), F.above⟩ (fun p hp => ?_) (fun q hq e => ?_)
    · rcases List.mem_cons.mp hp with rfl | hp
      · refine ⟨hpl, fun q => ?_, ?_⟩
        · have q : D = env.locals := q
          rw [q, hL] at hDn
          cases hDn
        · cases q : h₀.get? D with
          | none => rfl
          | some o => have := F.keep _ _ q; rw [hDn] at this; cases this
      · exact ⟨hk' _ _ (N p hp).2.1 (N p hp).1, (N p hp).2⟩
    · have := (N q hq).1
      rw [e, hDn] at this
      cases this
end Mine
end
section
open PySem PySem.W PySem.W.X PyProof.Rows PySem.Calls
set_option maxRecDepth 100000
set_option maxHeartbeats 4000000
namespace Mine
/-- the same values but for their tokens -/
inductive SameVs : List Value → List Value → Prop
  | nil : SameVs [] []
  | int {a b : List Value} (n : Int) (t u : Tok) : SameVs a b → SameVs (a ++ [.int n t]) (b ++ [.int n u])
  | str {a b : List Value} (x : Str) (t u : Tok) : SameVs a b → SameVs (a ++ [.str x t]) (b ++ [.str x u])
theorem tok_not {x : Str} (h : IsTok sFigure x.cps.toList) : ¬ IsTok sOther x.cps.toList := by
  intro h'
  obtain ⟨c, cs, e⟩ := List.exists_cons_of_ne_nil h.1
  have h1 := h.2.2 c (by rw [e]; exact .head _)
  have h2 := h'.2.2 c (by rw [e]; exact .head _)
  rw [h1] at h2
  exact absurd h2 (by decide +kernel)
theorem told_snoc {vs : List Value} {xs : List Str} {x : Str} (h : ToldAre vs (xs ++ [x])) :
    ∃ us, ToldAre us xs ∧ ((IsTok sFigure x.cps.toList ∧ ∃ t u, vs = us ++ [.int 100 t, .int (numOf x) u]) ∨ (IsTok sOther x.cps.toList ∧ ∃ t u, vs = us ++ [.int (rankOf x) t, .str x u])) := by
  generalize hz : xs ++ [x] = zs at h
  cases h with
  | nil => simp at hz
  | fig y t u h hy =>
    obtain ⟨h1, h2⟩ := List.append_inj' hz rfl
    injection h2 with h2 _
    subst h1
    subst h2
    exact ⟨_, h, .inl ⟨hy, t, u, rfl⟩⟩
  | oth y t u h hy =>
    obtain ⟨h1, h2⟩ := List.append_inj' hz rfl
    injection h2 with h2 _
    subst h1
    subst h2
    exact ⟨_, h, .inr ⟨hy, t, u, rfl⟩⟩
theorem told_same {a b : List Value} {xs : List Str} (h : ToldAre a xs) (h' : ToldAre b xs) : SameVs a b := by
  induction h generalizing b with
  | nil =>
    have := h'.length
    have hb : b = [] := List.eq_nil_of_length_eq_zero (by simpa using this)
    subst hb
    exact .nil
  | fig x t u h hx ih =>
    obtain ⟨us, h1, ⟨_, t', u', rfl⟩ | ⟨hy, _⟩⟩ := told_snoc h'
    · have := SameVs.int (numOf x) u u' (SameVs.int 100 t t' (ih h1))
      simpa using this
    · exact absurd hy (tok_not hx)
  | oth x t u h hx ih =>
    obtain ⟨us, h1, ⟨hy, _⟩ | ⟨_, t', u', rfl⟩⟩ := told_snoc h'
    · exact absurd hx (tok_not hy)
    · have := SameVs.str x u u' (SameVs.int (rankOf x) t t' (ih h1))
      simpa using this
end Mine
end
section
open PySem PySem.W PySem.W.X PyProof.Rows PySem.Calls
set_option maxRecDepth 100000
set_option maxHeartbeats 8000000
namespace Mine
noncomputable def pFig : Value → Bool
  | .str y _ => inS (Str.ofString "0123456789") (Txt.item y 0)
  | _ => false
noncomputable def figP (r : Str) : Bool := @decide (IsFig r) (Classical.propDecidable _)
theorem figP_t {r : Str} (h : IsFig r) : figP r = true := @decide_eq_true _ (Classical.propDecidable _) h
theorem figP_f {r : Str} (h : ¬ IsFig r) : figP r = false := @decide_eq_false _ (Classical.propDecidable _) h
/-- the figures among the runs -/
noncomputable def figsOf (rs : List Str) : List Str := rs.filter figP
theorem figs_fig (rs : List Str) : ∀ r ∈ figsOf rs, IsFig r := fun r hr => Classical.byContradiction fun q => by
  have := (List.mem_filter.mp hr).2
  rw [figP_f q] at this
  cases this
theorem figs_sub (rs : List Str) : ∀ r ∈ figsOf rs, r ∈ rs := fun r hr => (List.mem_filter.mp hr).1
theorem figs_len (rs : List Str) : (figsOf rs).length ≤ rs.length := List.length_filter_le _ _
theorem sumLen_filter (p : Str → Bool) : ∀ (l : List Str), sumLen (l.filter p) ≤ sumLen l
  | [] => Nat.le_refl _
  | a :: l => by
    have ih := sumLen_filter p l
    rw [List.filter_cons]
    split
    · simp only [sumLen, List.map_cons, List.sum_cons] at ih ⊢
      omega
    · simp only [sumLen, List.map_cons, List.sum_cons] at ih ⊢
      omega
theorem sumLen_take (n : Nat) (l : List Str) : sumLen (l.take n) ≤ sumLen l := by
  have := sumLen_append (l.take n) (l.drop n)
  rw [List.take_append_drop] at this
  omega
theorem figs_sum (rs : List Str) : sumLen (figsOf rs) ≤ sumLen rs := sumLen_filter _ _
theorem filter_figs : ∀ {vs : List Value} {rs : List Str}, StrsAre vs rs → (∀ r ∈ rs, TokOf r) → StrsAre (vs.filter pFig) (figsOf rs)
  | _, _, .nil, _ => .nil
  | _, _, .cons (vs := vs) (ys := rs) y t h, ht => by
    have ih := filter_figs h fun r hr => ht r (.tail _ hr)
    have e : pFig (.str y t) = figP y := by
      rcases ht y (.head _) with hy | hy
      · obtain ⟨c, e, hk, _⟩ := tok_head hy
        show inS _ (Txt.item y 0) = _
        rw [e, fig_inS hk, figP_t hy]
      · obtain ⟨c, e, hk, _⟩ := tok_head hy
        show inS _ (Txt.item y 0) = _
        rw [e, oth_inS hk, figP_f fun q => tok_not q hy]
    unfold figsOf at ih ⊢
    rw [List.filter_cons, List.filter_cons, e]
    split
    · exact .cons y t ih
    · exact ih
section
variable {prog : Program} {w : World} {A : Around} {E : Value → Shared → Prop} {s : Shared} {x : Str} {t u : Tok} {Q : Value → Shared → Prop}
theorem ne_same (h : Q (.bool false) s) : wpAny (model prog w) A (compareOp .NotEq (.str x t) (.str x u)) Q E s := PyProof.Rows.ne_str (by rw [bne_self_eq_false]; exact h)
theorem eq_same (h : Q (.bool true) s) : wpAny (model prog w) A (compareOp .Eq (.str x t) (.str x u)) Q E s := PyProof.Rows.eq_str (by rw [beq_self_eq_true]; exact h)
end
theorem last_getD {l : List Str} (h : 1 ≤ l.length) : ∃ lv, l.getD (-1 + (l.length : Int)).toNat Str.empty = lv ∧ l = l.dropLast ++ [lv] := by
  have hne : l ≠ [] := by rintro rfl; simp at h
  refine ⟨l.getLast hne, ?_, (List.dropLast_concat_getLast hne).symm⟩
  have e : (-1 + (l.length : Int)).toNat = l.length - 1 := by omega
  rw [e, List.getD_eq_getElem?_getD, List.getElem?_eq_getElem (by omega), List.getLast_eq_getElem]
  rfl
theorem dropLast_strs {vs : List Value} {ys : List Str} (h : StrsAre vs ys) : StrsAre vs.dropLast ys.dropLast := by
  rw [List.dropLast_eq_take, List.dropLast_eq_take, h.length]
  exact h.take' _
local macro_rules | `(tactic| walk_at "subscriptTail Name Slice ref ref") => `(tactic| (k_here; (with_reducible show wpAny _ _ (subscriptTail _ (PySem.Expr.Slice _ _ none _) (Value.ref _) (Value.ref _)) _ _ _); k_dflt (first | (refine' slice_upto ?F ?N ?m ?y ?z ?_ ?s ?t; (case F => k_asm); (case N => k_asm); (case m => k_mem); (case y => first | assumption | omega); (case z => assumption); (case s => with_unfolding_all rfl); (case t => kmk_pure)) | (refine' slice_less ?F ?N ?m ?z ?_ ?s ?t; (case F => k_asm); (case N => k_asm); (case m => k_mem); (case z => assumption); (case s => with_unfolding_all rfl); (case t => kmk_pure))); intro D' h' F' N' l1; (try k_lt l1)))
theorem range_small {n : Nat} (h : n ≤ 1000) : Builtin.Range.small 1 ((n : Int) + 1) 1 = true ∧ Builtin.Range.rangeSize 1 ((n : Int) + 1) 1 = (n : Int) := by
  have hz : Builtin.Range.rangeSize 1 ((n : Int) + 1) 1 = (n : Int) := by
    unfold Builtin.Range.rangeSize
    rw [if_pos (by decide)]
    by_cases h0 : n = 0
    · subst h0
      rfl
    · rw [if_pos (by omega)]
      omega
  refine ⟨?_, hz⟩
  unfold Builtin.Range.small
  rw [hz, if_pos (by decide)]
  have key : ∀ k : Int, 0 ≤ k → k ≤ 2000 → Builtin.Range.rangeFitsLong k = true := by
    intro k h1 h2
    simp only [Builtin.Range.rangeFitsLong, Bool.and_eq_true, decide_eq_true_eq]
    omega
  rw [key 1 (by decide) (by decide), key (n + 1) (by omega) (by omega), key n (by omega) (by omega), key ((n : Int) + 1 + (1 - 1)) (by omega) (by omega)]
  simp
structure LpSt where
  o0 : Obj
noncomputable def LpFacts (o0 : Obj) (c : LpSt) : Prop := ∃ sl, c.o0 = { o0 with slots := sl }
theorem all_spec {w : World} {mg mb : Str → Option Value} {dp un : Nat} {gd : Option (List Code)} {env0 : Env} {s : Shared} {Q E : Value → Shared → Prop} {g : Heap} {lr L0 : Addr} {o0 : Obj} {vs : List Value} {nr : Nat} {rs : List Str}
    (hg : g = hideAll s.heap [lr, L0]) (hlr : s.heap.get? lr = some (listOf vs.toArray nr)) (hL0 : s.heap.get? L0 = some o0) (hn0 : ∀ vs, o0.data ≠ .fields vs)
    (h0 : env0.frame = some L0) (k0 : env0.scope.kind = .function) (hlt1 : lr ≠ L0)
    (X : (K3 w.params).In g) (T : TopRead q1 loose1 mg mb g) (hd : dp + 50 < recursionLimit) (hu : un + 300 < cLine)
    (hs : StrsAre vs rs) (htk : ∀ r ∈ rs, TokOf r) (hch : ∀ r ∈ rs, ∀ c ∈ r.cps.toList, c < 128 ∨ c = 233) (hrl : rs.length ≤ 100) (hml : ∀ r ∈ rs, r.length ≤ 100) (hsum : sumLen rs ≤ 100) (hfg : 2 ≤ (figsOf rs).length)
    (hret : ∀ o0' h' tk', (∀ b o, g.get? b = some o → h'.get? b = some o) → h'.get? lr = some (listOf vs.toArray nr) → h'.get? L0 = some o0' → (∃ sl, o0' = { o0 with slots := sl }) → Q (.bool true) { s with heap := h', toks := tk' }) :
    wpAny (model pw w) (actx dp un gd [env0]) (call (.ref 797) [.ref lr]) Q E s := by
  have hfill : PySem.Challenge.rw_ox0114_01 = PySem.Challenge.rw_ox0114_01 ∧ K3 = K3 := by
    k_fill
    exact ⟨rfl, rfl⟩
  clear hfill
  have hl : ∀ p ∈ [(lr, listOf vs.toArray nr), (L0, o0)], s.heap.get? p.1 = some p.2 := by
    intro p hp
    simp only [List.mem_cons, List.not_mem_nil, or_false] at hp
    rcases hp with rfl | rfl
    · exact hlr
    · exact hL0

  refine wpAny_call ?_
  k_dflt (refine' enterH (led := [(lr, listOf vs.toArray nr), (L0, o0)]) (args := ⟨[.ref lr], []⟩) (binds := [(Str.ofString "runs", .ref lr)]) hg hl X T ?k6 ?k7 ?k8 ?k9 ?kB ?_ ?c2 ?c3 ?c4 ?c5; (case k6 => k_is); (case k7 => k_is); (case k8 => (dsimp only; omega)); (case k9 => exact BindsTo.of_eq rfl); (case c5 => decide); (case kB => exact locs rfl); (case c2 => exact rfl); (case c3 => exact rfl); (case c4 => exact rfl); k_whole)
  intro L' h' F' N' hlL
  have hLL : lr < L' := hlL _ (.head _)
  have hlL0 : L0 < L' := ltN (hlL _ (.tail _ (.head _)))
  replace hLL := ltN hLL
  have hL0L : L0 < L' := hlL0
  clear hlL
  have hvl : vs.length ≤ 1000 := by rw [hs.length]; omega
  (try dsimp only); (try k_fold)
  walk1
  k_dflt (refine' comp_to (h₀ := g) (m := fun y => [(Str.ofString "runs", Value.ref lr)].reverse.lookup y) pFig Eq ?sw rfl (by decide) (by decide) rfl (by decide) rfl rfl rfl ?_ (by intro _; rfl); (case sw => with_unfolding_all rfl))
  (repeat' ((fail_if_success (with_reducible show wpAny _ _ (noteFrame _ _) _ _ _)); (fail_if_success (with_reducible show wpAny _ _ (call (Value.ref _) _ _) _ _ _)); (fail_if_success (with_reducible show wpAny _ _ (call (Value.builtin "str.join") _ _) _ _ _)); (fail_if_success (with_reducible show wpAny _ _ (pyIter _) _ _ _)); (fail_if_success (with_reducible show wpAny _ _ (exec (Stmt.For _ _ _ _ _) _) _ _ _)); (fail_if_success (with_reducible show InvPostN _ _ _ _ _ _ _ _ _)); (fail_if_success (with_reducible show InvEndN _ _ _ _ _ _ _)); (fail_if_success (with_reducible show CompTo _ _ _ _ _ _ _ _ _ _ _ _ _ _ _ _)); first | (k_unfold; (try dsimp only)) | (with_reducible (k_here; (with_reducible show wpAny _ _ (subscriptTail _ _ (Value.str _ _) (Value.int 0 _)) _ _ _); refine item0 (by assumption) (by assumption) (by assumption) ?_)) | (with_reducible ((with_reducible show wpAny _ _ (compareOp CmpOp.In (Value.str _ _) (Value.str _ _)) _ _ _); (k_here; with_reducible (first | refine in_known (r := true) (by with_reducible assumption) ?_ | refine in_known (r := false) (by with_reducible assumption) ?_)))) | (with_reducible (k_here; (with_reducible show wpAny _ _ (eval _ (compEnv _ _ _)) _ _ _); first | refine ldc (by assumption) (by assumption) ?_ | k_dflt (refine cg_global (by k_asm) (by k_asm) (by k_asm) (by k_is) ?_) | k_dflt (refine cg_built (by k_asm) (by k_asm) (by k_asm) (by k_is) (by boot_by_name) (by decide) ?_))) | (with_reducible ((with_reducible show wpAny _ _ (compareOp CmpOp.NotIn (Value.str _ _) (Value.str _ _)) _ _ _); (k_here; with_reducible (first | refine notin_t (by with_reducible assumption) ?_ | refine notin_f (by with_reducible assumption) ?_)))) | (with_reducible (k_here; (with_reducible show wpAny _ _ (call (Value.builtin "len") [Value.ref _]) _ _ _); k_dflt (refine' kst_len ?N ?m ?e ?f ?_; (case N => k_asm); (case m => k_mem); (case e => rfl); (case f => omega)))) | (with_reducible (k_here; (with_reducible show wpAny _ _ (compareOp CmpOp.NotEq (Value.str _ _) (Value.str _ _)) _ _ _); with_reducible refine ne_same ?_)) | (with_reducible (k_here; (with_reducible show wpAny _ _ (compareOp CmpOp.Eq (Value.str _ _) (Value.str _ _)) _ _ _); with_reducible refine eq_same ?_)) | walk1 | (dsimp only; walk1)))
  rename News _ _ _ _ => NZ
  rename Fr _ _ _ _ => FZ
  refine ⟨lr, vs.toArray, _, rfl, FZ, NZ, ⟨_, NZ.get (.head _), rfl, nr, rfl⟩, ?z, ?t, ?e, ?d⟩
  case z => simp [hs.length, sizeLine_eq]; omega
  case t =>
    intro C v s₂ m₂ E' hv hn hm hk
    obtain ⟨j, hj⟩ := List.getElem?_of_mem (List.mem_toArray.mp hv)
    obtain ⟨y, t, rfl, hy⟩ := strs_at hs hj
    have hym : y ∈ rs := List.mem_of_getElem? hy
    have hyl : y.length ≤ 600 := Nat.le_trans (hml y hym) (by decide)
    have hm' : s₂.heap.Ns C m₂ := hn
    rcases htk y hym with h | h
    · obtain ⟨c0, hit, hc0, hy0⟩ := tok_head h
      have hin := fig_inS hc0
      (repeat' ((fail_if_success (with_reducible show wpAny _ _ (noteFrame _ _) _ _ _)); (fail_if_success (with_reducible show wpAny _ _ (call (Value.ref _) _ _) _ _ _)); (fail_if_success (with_reducible show wpAny _ _ (call (Value.builtin "str.join") _ _) _ _ _)); (fail_if_success (with_reducible show wpAny _ _ (pyIter _) _ _ _)); (fail_if_success (with_reducible show wpAny _ _ (exec (Stmt.For _ _ _ _ _) _) _ _ _)); (fail_if_success (with_reducible show InvPostN _ _ _ _ _ _ _ _ _)); (fail_if_success (with_reducible show InvEndN _ _ _ _ _ _ _)); (fail_if_success (with_reducible show CompTo _ _ _ _ _ _ _ _ _ _ _ _ _ _ _ _)); first | (k_unfold; (try dsimp only)) | (with_reducible (k_here; (with_reducible show wpAny _ _ (subscriptTail _ _ (Value.str _ _) (Value.int 0 _)) _ _ _); refine item0 (by assumption) (by assumption) (by assumption) ?_)) | (with_reducible ((with_reducible show wpAny _ _ (compareOp CmpOp.In (Value.str _ _) (Value.str _ _)) _ _ _); (k_here; with_reducible (first | refine in_known (r := true) (by with_reducible assumption) ?_ | refine in_known (r := false) (by with_reducible assumption) ?_)))) | (with_reducible (k_here; (with_reducible show wpAny _ _ (eval _ (compEnv _ _ _)) _ _ _); first | refine ldc (by assumption) (by assumption) ?_ | k_dflt (refine cg_global (by k_asm) (by k_asm) (by k_asm) (by k_is) ?_) | k_dflt (refine cg_built (by k_asm) (by k_asm) (by k_asm) (by k_is) (by boot_by_name) (by decide) ?_))) | (with_reducible ((with_reducible show wpAny _ _ (compareOp CmpOp.NotIn (Value.str _ _) (Value.str _ _)) _ _ _); (k_here; with_reducible (first | refine notin_t (by with_reducible assumption) ?_ | refine notin_f (by with_reducible assumption) ?_)))) | (with_reducible (k_here; (with_reducible show wpAny _ _ (call (Value.builtin "len") [Value.ref _]) _ _ _); k_dflt (refine' kst_len ?N ?m ?e ?f ?_; (case N => k_asm); (case m => k_mem); (case e => rfl); (case f => omega)))) | (with_reducible (k_here; (with_reducible show wpAny _ _ (compareOp CmpOp.NotEq (Value.str _ _) (Value.str _ _)) _ _ _); with_reducible refine ne_same ?_)) | (with_reducible (k_here; (with_reducible show wpAny _ _ (compareOp CmpOp.Eq (Value.str _ _) (Value.str _ _)) _ _ _); with_reducible refine eq_same ?_)) | walk1 | (dsimp only; walk1)))
      · show _ = inS _ (Txt.item y 0)
        rw [hit, hin]
      · exact ⟨_, _, rfl, fun _ _ e => e⟩
    · obtain ⟨c0, hit, hc0, hy0⟩ := tok_head h
      have hin := oth_inS hc0
      (repeat' ((fail_if_success (with_reducible show wpAny _ _ (noteFrame _ _) _ _ _)); (fail_if_success (with_reducible show wpAny _ _ (call (Value.ref _) _ _) _ _ _)); (fail_if_success (with_reducible show wpAny _ _ (call (Value.builtin "str.join") _ _) _ _ _)); (fail_if_success (with_reducible show wpAny _ _ (pyIter _) _ _ _)); (fail_if_success (with_reducible show wpAny _ _ (exec (Stmt.For _ _ _ _ _) _) _ _ _)); (fail_if_success (with_reducible show InvPostN _ _ _ _ _ _ _ _ _)); (fail_if_success (with_reducible show InvEndN _ _ _ _ _ _ _)); (fail_if_success (with_reducible show CompTo _ _ _ _ _ _ _ _ _ _ _ _ _ _ _ _)); first | (k_unfold; (try dsimp only)) | (with_reducible (k_here; (with_reducible show wpAny _ _ (subscriptTail _ _ (Value.str _ _) (Value.int 0 _)) _ _ _); refine item0 (by assumption) (by assumption) (by assumption) ?_)) | (with_reducible ((with_reducible show wpAny _ _ (compareOp CmpOp.In (Value.str _ _) (Value.str _ _)) _ _ _); (k_here; with_reducible (first | refine in_known (r := true) (by with_reducible assumption) ?_ | refine in_known (r := false) (by with_reducible assumption) ?_)))) | (with_reducible (k_here; (with_reducible show wpAny _ _ (eval _ (compEnv _ _ _)) _ _ _); first | refine ldc (by assumption) (by assumption) ?_ | k_dflt (refine cg_global (by k_asm) (by k_asm) (by k_asm) (by k_is) ?_) | k_dflt (refine cg_built (by k_asm) (by k_asm) (by k_asm) (by k_is) (by boot_by_name) (by decide) ?_))) | (with_reducible ((with_reducible show wpAny _ _ (compareOp CmpOp.NotIn (Value.str _ _) (Value.str _ _)) _ _ _); (k_here; with_reducible (first | refine notin_t (by with_reducible assumption) ?_ | refine notin_f (by with_reducible assumption) ?_)))) | (with_reducible (k_here; (with_reducible show wpAny _ _ (call (Value.builtin "len") [Value.ref _]) _ _ _); k_dflt (refine' kst_len ?N ?m ?e ?f ?_; (case N => k_asm); (case m => k_mem); (case e => rfl); (case f => omega)))) | (with_reducible (k_here; (with_reducible show wpAny _ _ (compareOp CmpOp.NotEq (Value.str _ _) (Value.str _ _)) _ _ _); with_reducible refine ne_same ?_)) | (with_reducible (k_here; (with_reducible show wpAny _ _ (compareOp CmpOp.Eq (Value.str _ _) (Value.str _ _)) _ _ _); with_reducible refine eq_same ?_)) | walk1 | (dsimp only; walk1)))
      · show _ = inS _ (Txt.item y 0)
        rw [hit, hin]
      · exact ⟨_, _, rfl, fun _ _ e => e⟩
  case e =>
    intro C v s₂ m₂ E' hv hp hn hm hk
    (repeat' ((fail_if_success (with_reducible show wpAny _ _ (noteFrame _ _) _ _ _)); (fail_if_success (with_reducible show wpAny _ _ (call (Value.ref _) _ _) _ _ _)); (fail_if_success (with_reducible show wpAny _ _ (call (Value.builtin "str.join") _ _) _ _ _)); (fail_if_success (with_reducible show wpAny _ _ (pyIter _) _ _ _)); (fail_if_success (with_reducible show wpAny _ _ (exec (Stmt.For _ _ _ _ _) _) _ _ _)); (fail_if_success (with_reducible show InvPostN _ _ _ _ _ _ _ _ _)); (fail_if_success (with_reducible show InvEndN _ _ _ _ _ _ _)); (fail_if_success (with_reducible show CompTo _ _ _ _ _ _ _ _ _ _ _ _ _ _ _ _)); first | (k_unfold; (try dsimp only)) | (with_reducible (k_here; (with_reducible show wpAny _ _ (subscriptTail _ _ (Value.str _ _) (Value.int 0 _)) _ _ _); refine item0 (by assumption) (by assumption) (by assumption) ?_)) | (with_reducible ((with_reducible show wpAny _ _ (compareOp CmpOp.In (Value.str _ _) (Value.str _ _)) _ _ _); (k_here; with_reducible (first | refine in_known (r := true) (by with_reducible assumption) ?_ | refine in_known (r := false) (by with_reducible assumption) ?_)))) | (with_reducible (k_here; (with_reducible show wpAny _ _ (eval _ (compEnv _ _ _)) _ _ _); first | refine ldc (by assumption) (by assumption) ?_ | k_dflt (refine cg_global (by k_asm) (by k_asm) (by k_asm) (by k_is) ?_) | k_dflt (refine cg_built (by k_asm) (by k_asm) (by k_asm) (by k_is) (by boot_by_name) (by decide) ?_))) | (with_reducible ((with_reducible show wpAny _ _ (compareOp CmpOp.NotIn (Value.str _ _) (Value.str _ _)) _ _ _); (k_here; with_reducible (first | refine notin_t (by with_reducible assumption) ?_ | refine notin_f (by with_reducible assumption) ?_)))) | (with_reducible (k_here; (with_reducible show wpAny _ _ (call (Value.builtin "len") [Value.ref _]) _ _ _); k_dflt (refine' kst_len ?N ?m ?e ?f ?_; (case N => k_asm); (case m => k_mem); (case e => rfl); (case f => omega)))) | (with_reducible (k_here; (with_reducible show wpAny _ _ (compareOp CmpOp.NotEq (Value.str _ _) (Value.str _ _)) _ _ _); with_reducible refine ne_same ?_)) | (with_reducible (k_here; (with_reducible show wpAny _ _ (compareOp CmpOp.Eq (Value.str _ _) (Value.str _ _)) _ _ _); with_reducible refine eq_same ?_)) | walk1 | (dsimp only; walk1)))
    exact ⟨_, _, rfl, fun _ _ e => e⟩
  case d =>
    intro DF h9 tk9 ys nD hDF hP F9 N9 q3
    have hys := paired_eq hP
    rw [show vs.toArray.toList = vs from rfl] at hys
    have hf := filter_figs hs htk
    rw [← hys] at hf
    obtain ⟨fs, rfl⟩ : ∃ fs : List Value, ys = fs.toArray := ⟨ys.toList, by simp⟩
    rw [List.toList_toArray] at hf
    clear hys hP FZ NZ
    have hfl : fs.length ≤ 1000 := by
      rw [hf.length]
      have := figs_len rs
      omega
    (repeat' ((fail_if_success (with_reducible show wpAny _ _ (noteFrame _ _) _ _ _)); (fail_if_success (with_reducible show wpAny _ _ (call (Value.ref _) _ _) _ _ _)); (fail_if_success (with_reducible show wpAny _ _ (call (Value.builtin "str.join") _ _) _ _ _)); (fail_if_success (with_reducible show wpAny _ _ (pyIter _) _ _ _)); (fail_if_success (with_reducible show wpAny _ _ (exec (Stmt.For _ _ _ _ _) _) _ _ _)); (fail_if_success (with_reducible show InvPostN _ _ _ _ _ _ _ _ _)); (fail_if_success (with_reducible show InvEndN _ _ _ _ _ _ _)); (fail_if_success (with_reducible show CompTo _ _ _ _ _ _ _ _ _ _ _ _ _ _ _ _)); first | (k_unfold; (try dsimp only)) | (with_reducible (k_here; (with_reducible show wpAny _ _ (subscriptTail _ _ (Value.str _ _) (Value.int 0 _)) _ _ _); refine item0 (by assumption) (by assumption) (by assumption) ?_)) | (with_reducible ((with_reducible show wpAny _ _ (compareOp CmpOp.In (Value.str _ _) (Value.str _ _)) _ _ _); (k_here; with_reducible (first | refine in_known (r := true) (by with_reducible assumption) ?_ | refine in_known (r := false) (by with_reducible assumption) ?_)))) | (with_reducible (k_here; (with_reducible show wpAny _ _ (eval _ (compEnv _ _ _)) _ _ _); first | refine ldc (by assumption) (by assumption) ?_ | k_dflt (refine cg_global (by k_asm) (by k_asm) (by k_asm) (by k_is) ?_) | k_dflt (refine cg_built (by k_asm) (by k_asm) (by k_asm) (by k_is) (by boot_by_name) (by decide) ?_))) | (with_reducible ((with_reducible show wpAny _ _ (compareOp CmpOp.NotIn (Value.str _ _) (Value.str _ _)) _ _ _); (k_here; with_reducible (first | refine notin_t (by with_reducible assumption) ?_ | refine notin_f (by with_reducible assumption) ?_)))) | (with_reducible (k_here; (with_reducible show wpAny _ _ (call (Value.builtin "len") [Value.ref _]) _ _ _); k_dflt (refine' kst_len ?N ?m ?e ?f ?_; (case N => k_asm); (case m => k_mem); (case e => rfl); (case f => omega)))) | (with_reducible (k_here; (with_reducible show wpAny _ _ (compareOp CmpOp.NotEq (Value.str _ _) (Value.str _ _)) _ _ _); with_reducible refine ne_same ?_)) | (with_reducible (k_here; (with_reducible show wpAny _ _ (compareOp CmpOp.Eq (Value.str _ _) (Value.str _ _)) _ _ _); with_reducible refine eq_same ?_)) | walk1 | (dsimp only; walk1)))
    k_dflt (refine For_invV g rfl rfl ?_)
    (repeat' ((fail_if_success (with_reducible show wpAny _ _ (noteFrame _ _) _ _ _)); (fail_if_success (with_reducible show wpAny _ _ (call (Value.ref _) _ _) _ _ _)); (fail_if_success (with_reducible show wpAny _ _ (call (Value.builtin "str.join") _ _) _ _ _)); (fail_if_success (with_reducible show wpAny _ _ (pyIter _) _ _ _)); (fail_if_success (with_reducible show wpAny _ _ (exec (Stmt.For _ _ _ _ _) _) _ _ _)); (fail_if_success (with_reducible show InvPostN _ _ _ _ _ _ _ _ _)); (fail_if_success (with_reducible show InvEndN _ _ _ _ _ _ _)); (fail_if_success (with_reducible show CompTo _ _ _ _ _ _ _ _ _ _ _ _ _ _ _ _)); first | (k_unfold; (try dsimp only)) | (with_reducible (k_here; (with_reducible show wpAny _ _ (subscriptTail _ _ (Value.str _ _) (Value.int 0 _)) _ _ _); refine item0 (by assumption) (by assumption) (by assumption) ?_)) | (with_reducible ((with_reducible show wpAny _ _ (compareOp CmpOp.In (Value.str _ _) (Value.str _ _)) _ _ _); (k_here; with_reducible (first | refine in_known (r := true) (by with_reducible assumption) ?_ | refine in_known (r := false) (by with_reducible assumption) ?_)))) | (with_reducible (k_here; (with_reducible show wpAny _ _ (eval _ (compEnv _ _ _)) _ _ _); first | refine ldc (by assumption) (by assumption) ?_ | k_dflt (refine cg_global (by k_asm) (by k_asm) (by k_asm) (by k_is) ?_) | k_dflt (refine cg_built (by k_asm) (by k_asm) (by k_asm) (by k_is) (by boot_by_name) (by decide) ?_))) | (with_reducible ((with_reducible show wpAny _ _ (compareOp CmpOp.NotIn (Value.str _ _) (Value.str _ _)) _ _ _); (k_here; with_reducible (first | refine notin_t (by with_reducible assumption) ?_ | refine notin_f (by with_reducible assumption) ?_)))) | (with_reducible (k_here; (with_reducible show wpAny _ _ (call (Value.builtin "len") [Value.ref _]) _ _ _); k_dflt (refine' kst_len ?N ?m ?e ?f ?_; (case N => k_asm); (case m => k_mem); (case e => rfl); (case f => omega)))) | (with_reducible (k_here; (with_reducible show wpAny _ _ (compareOp CmpOp.NotEq (Value.str _ _) (Value.str _ _)) _ _ _); with_reducible refine ne_same ?_)) | (with_reducible (k_here; (with_reducible show wpAny _ _ (compareOp CmpOp.Eq (Value.str _ _) (Value.str _ _)) _ _ _); with_reducible refine eq_same ?_)) | walk1 | (dsimp only; walk1)))
    rename News _ _ _ _ => N8
    rename Fr _ _ _ _ => F8
    rename_i l' _ l1
    have nF0 : DF ≠ L0 := (q3 (L0, o0) (.tail _ (.head _))).symm
    have nR0 : lr ≠ L0 := hlt1
    refine' list_loop (l := l') (vs := [.ref lr, .ref DF]) (nn := 0) (fun c : LpSt => [(l', listOf [Value.ref lr, Value.ref DF].toArray 0), (DF, listOf fs.toArray nD), (lr, listOf vs.toArray nr), (L0, c.o0)]) (fun _ => []) (LpFacts o0) [Str.ofString "row", Str.ofString "n"] (fun _ _ => True) ⟨o0⟩ rfl (fun c => .head _) (fun c => rfl) F8 N8 ⟨o0.slots, rfl⟩ (fun p hp => nomatch hp) trivial ?turn ?done
    case turn =>
      intro c pre post v u h tk own hv hoff hF hP F1 N1
      obtain ⟨o0'⟩ := c
      obtain ⟨sl, hsl⟩ := id hF
      obtain ⟨D, us, nu, rrs, rfl, hDm, hus, hsub, hrrl, hrsum⟩ : ∃ D us nu rrs, v = .ref D ∧ (D, listOf (us : List Value).toArray nu) ∈ [(DF, listOf fs.toArray nD), (lr, listOf vs.toArray nr)] ∧ StrsAre us rrs ∧ (∀ r ∈ rrs, r ∈ rs) ∧ rrs.length ≤ 100 ∧ sumLen rrs ≤ 100 := by
        have hvm : v ∈ [Value.ref lr, Value.ref DF] := by rw [hv]; exact List.mem_append_right _ (.head _)
        simp only [List.mem_cons, List.not_mem_nil, or_false] at hvm
        rcases hvm with rfl | rfl
        · exact ⟨lr, vs, nr, rs, rfl, .tail _ (.head _), hs, fun r h => h, hrl, hsum⟩
        · exact ⟨DF, fs, nD, figsOf rs, rfl, .head _, hf, figs_sub rs, Nat.le_trans (figs_len rs) hrl, Nat.le_trans (figs_sum rs) hsum⟩
      have nD0 : D ≠ L0 := by
        simp only [List.mem_cons, List.not_mem_nil, or_false, Prod.mk.injEq] at hDm
        rcases hDm with ⟨rfl, _⟩ | ⟨rfl, _⟩
        · exact nF0
        · exact nR0
      have N2 : News g L' h ((D, listOf us.toArray nu) :: (l', listOf [Value.ref lr, Value.ref DF].toArray 0) :: (DF, listOf fs.toArray nD) :: (lr, listOf vs.toArray nr) :: (L0, o0') :: own) := by
        intro p hp
        rcases List.mem_cons.mp hp with rfl | hp
        · exact N1 _ (by
            simp only [List.mem_cons, List.not_mem_nil, or_false] at hDm
            rcases hDm with e | e
            · rw [e]; exact .tail _ (.head _)
            · rw [e]; exact .tail _ (.tail _ (.head _)))
        · exact N1 p hp
      have hul : us.length ≤ 1000 := by rw [hus.length]; omega
      clear N1
      (repeat' ((fail_if_success (with_reducible show wpAny _ _ (noteFrame _ _) _ _ _)); (fail_if_success (with_reducible show wpAny _ _ (call (Value.ref _) _ _) _ _ _)); (fail_if_success (with_reducible show wpAny _ _ (call (Value.builtin "str.join") _ _) _ _ _)); (fail_if_success (with_reducible show wpAny _ _ (pyIter _) _ _ _)); (fail_if_success (with_reducible show wpAny _ _ (exec (Stmt.For _ _ _ _ _) _) _ _ _)); (fail_if_success (with_reducible show InvPostN _ _ _ _ _ _ _ _ _)); (fail_if_success (with_reducible show InvEndN _ _ _ _ _ _ _)); (fail_if_success (with_reducible show CompTo _ _ _ _ _ _ _ _ _ _ _ _ _ _ _ _)); first | (k_unfold; (try dsimp only)) | (with_reducible (k_here; (with_reducible show wpAny _ _ (subscriptTail _ _ (Value.str _ _) (Value.int 0 _)) _ _ _); refine item0 (by assumption) (by assumption) (by assumption) ?_)) | (with_reducible ((with_reducible show wpAny _ _ (compareOp CmpOp.In (Value.str _ _) (Value.str _ _)) _ _ _); (k_here; with_reducible (first | refine in_known (r := true) (by with_reducible assumption) ?_ | refine in_known (r := false) (by with_reducible assumption) ?_)))) | (with_reducible (k_here; (with_reducible show wpAny _ _ (eval _ (compEnv _ _ _)) _ _ _); first | refine ldc (by assumption) (by assumption) ?_ | k_dflt (refine cg_global (by k_asm) (by k_asm) (by k_asm) (by k_is) ?_) | k_dflt (refine cg_built (by k_asm) (by k_asm) (by k_asm) (by k_is) (by boot_by_name) (by decide) ?_))) | (with_reducible ((with_reducible show wpAny _ _ (compareOp CmpOp.NotIn (Value.str _ _) (Value.str _ _)) _ _ _); (k_here; with_reducible (first | refine notin_t (by with_reducible assumption) ?_ | refine notin_f (by with_reducible assumption) ?_)))) | (with_reducible (k_here; (with_reducible show wpAny _ _ (call (Value.builtin "len") [Value.ref _]) _ _ _); k_dflt (refine' kst_len ?N ?m ?e ?f ?_; (case N => k_asm); (case m => k_mem); (case e => rfl); (case f => omega)))) | (with_reducible (k_here; (with_reducible show wpAny _ _ (compareOp CmpOp.NotEq (Value.str _ _) (Value.str _ _)) _ _ _); with_reducible refine ne_same ?_)) | (with_reducible (k_here; (with_reducible show wpAny _ _ (compareOp CmpOp.Eq (Value.str _ _) (Value.str _ _)) _ _ _); with_reducible refine eq_same ?_)) | walk1 | (dsimp only; walk1)))
      k_dflt (refine For_invV g rfl rfl ?_)
      (repeat' ((fail_if_success (with_reducible show wpAny _ _ (noteFrame _ _) _ _ _)); (fail_if_success (with_reducible show wpAny _ _ (call (Value.ref _) _ _) _ _ _)); (fail_if_success (with_reducible show wpAny _ _ (call (Value.builtin "str.join") _ _) _ _ _)); (fail_if_success (with_reducible show wpAny _ _ (pyIter _) _ _ _)); (fail_if_success (with_reducible show wpAny _ _ (exec (Stmt.For _ _ _ _ _) _) _ _ _)); (fail_if_success (with_reducible show InvPostN _ _ _ _ _ _ _ _ _)); (fail_if_success (with_reducible show InvEndN _ _ _ _ _ _ _)); (fail_if_success (with_reducible show CompTo _ _ _ _ _ _ _ _ _ _ _ _ _ _ _ _)); first | (k_unfold; (try dsimp only)) | (with_reducible (k_here; (with_reducible show wpAny _ _ (subscriptTail _ _ (Value.str _ _) (Value.int 0 _)) _ _ _); refine item0 (by assumption) (by assumption) (by assumption) ?_)) | (with_reducible ((with_reducible show wpAny _ _ (compareOp CmpOp.In (Value.str _ _) (Value.str _ _)) _ _ _); (k_here; with_reducible (first | refine in_known (r := true) (by with_reducible assumption) ?_ | refine in_known (r := false) (by with_reducible assumption) ?_)))) | (with_reducible (k_here; (with_reducible show wpAny _ _ (eval _ (compEnv _ _ _)) _ _ _); first | refine ldc (by assumption) (by assumption) ?_ | k_dflt (refine cg_global (by k_asm) (by k_asm) (by k_asm) (by k_is) ?_) | k_dflt (refine cg_built (by k_asm) (by k_asm) (by k_asm) (by k_is) (by boot_by_name) (by decide) ?_))) | (with_reducible ((with_reducible show wpAny _ _ (compareOp CmpOp.NotIn (Value.str _ _) (Value.str _ _)) _ _ _); (k_here; with_reducible (first | refine notin_t (by with_reducible assumption) ?_ | refine notin_f (by with_reducible assumption) ?_)))) | (with_reducible (k_here; (with_reducible show wpAny _ _ (call (Value.builtin "len") [Value.ref _]) _ _ _); k_dflt (refine' kst_len ?N ?m ?e ?f ?_; (case N => k_asm); (case m => k_mem); (case e => rfl); (case f => omega)))) | (with_reducible (k_here; (with_reducible show wpAny _ _ (compareOp CmpOp.NotEq (Value.str _ _) (Value.str _ _)) _ _ _); with_reducible refine ne_same ?_)) | (with_reducible (k_here; (with_reducible show wpAny _ _ (compareOp CmpOp.Eq (Value.str _ _) (Value.str _ _)) _ _ _); with_reducible refine eq_same ?_)) | walk1 | (dsimp only; walk1)))
      rename IsRange _ _ _ _ _ _ _ _ => hR
      rename Fr _ _ _ _ => F3
      rename News _ _ _ _ => N3

      obtain ⟨hsm, hrz⟩ := range_small hul
      refine' kst_range (n := us.length) (fun c : LpSt => (D, listOf us.toArray nu) :: (l', listOf [Value.ref lr, Value.ref DF].toArray 0) :: (DF, listOf fs.toArray nD) :: (lr, listOf vs.toArray nr) :: (L0, c.o0) :: own) (fun _ => []) (LpFacts o0) [Str.ofString "n"] (fun _ _ => True) ⟨o0'⟩ rfl hR hsm hrz F3 N3 ⟨sl, hsl⟩ (fun p hp => nomatch hp) trivial ?turn2 ?done2
      case turn2 =>
        intro c pre2 k t u2 h2 tk2 own2 hk hkn hoff2 hF2 hP2 F4 N4
        obtain ⟨p0⟩ := c
        obtain ⟨sl2, hsl2⟩ := id hF2
        dsimp only [List.cons_append] at N4
        have hsl2' : p0 = { o0 with slots := sl2 } := hsl2
        have hk0 : 0 ≤ k := by omega
        have hkn' : k.toNat ≤ us.length := by omega
        have hparts : ∀ r ∈ rrs.take k.toNat, r ∈ rs := fun r hr => hsub r (List.mem_of_mem_take hr)
        have hpl : (rrs.take k.toNat).length ≤ 100 := by rw [List.length_take]; omega
        have hpne : rrs.take k.toNat ≠ [] := by
          intro q
          have q := congrArg List.length q
          rw [List.length_take, List.length_nil, ← hus.length] at q
          omega
        have hpk : ∀ r ∈ rrs.take k.toNat, TokOf r := fun r hr => htk r (hparts r hr)
        have hpm : ∀ r ∈ rrs.take k.toNat, r.length ≤ 100 := fun r hr => hml r (hparts r hr)
        have hxl : (Txt.join (Str.ofString ".") (rrs.take k.toNat)).length ≤ 1000 := by
          have h1 := join_length (Str.ofString ".") (rrs.take k.toNat)
          have h2 := sumLen_take k.toNat rrs
          have h3 : (Str.ofString ".").length = 1 := rfl
          rw [h3] at h1
          omega
        (repeat' ((fail_if_success (with_reducible show wpAny _ _ (noteFrame _ _) _ _ _)); (fail_if_success (with_reducible show wpAny _ _ (call (Value.ref _) _ _) _ _ _)); (fail_if_success (with_reducible show wpAny _ _ (call (Value.builtin "str.join") _ _) _ _ _)); (fail_if_success (with_reducible show wpAny _ _ (pyIter _) _ _ _)); (fail_if_success (with_reducible show wpAny _ _ (exec (Stmt.For _ _ _ _ _) _) _ _ _)); (fail_if_success (with_reducible show InvPostN _ _ _ _ _ _ _ _ _)); (fail_if_success (with_reducible show InvEndN _ _ _ _ _ _ _)); (fail_if_success (with_reducible show CompTo _ _ _ _ _ _ _ _ _ _ _ _ _ _ _ _)); first | (k_unfold; (try dsimp only)) | (with_reducible (k_here; (with_reducible show wpAny _ _ (subscriptTail _ _ (Value.str _ _) (Value.int 0 _)) _ _ _); refine item0 (by assumption) (by assumption) (by assumption) ?_)) | (with_reducible ((with_reducible show wpAny _ _ (compareOp CmpOp.In (Value.str _ _) (Value.str _ _)) _ _ _); (k_here; with_reducible (first | refine in_known (r := true) (by with_reducible assumption) ?_ | refine in_known (r := false) (by with_reducible assumption) ?_)))) | (with_reducible (k_here; (with_reducible show wpAny _ _ (eval _ (compEnv _ _ _)) _ _ _); first | refine ldc (by assumption) (by assumption) ?_ | k_dflt (refine cg_global (by k_asm) (by k_asm) (by k_asm) (by k_is) ?_) | k_dflt (refine cg_built (by k_asm) (by k_asm) (by k_asm) (by k_is) (by boot_by_name) (by decide) ?_))) | (with_reducible ((with_reducible show wpAny _ _ (compareOp CmpOp.NotIn (Value.str _ _) (Value.str _ _)) _ _ _); (k_here; with_reducible (first | refine notin_t (by with_reducible assumption) ?_ | refine notin_f (by with_reducible assumption) ?_)))) | (with_reducible (k_here; (with_reducible show wpAny _ _ (call (Value.builtin "len") [Value.ref _]) _ _ _); k_dflt (refine' kst_len ?N ?m ?e ?f ?_; (case N => k_asm); (case m => k_mem); (case e => rfl); (case f => omega)))) | (with_reducible (k_here; (with_reducible show wpAny _ _ (compareOp CmpOp.NotEq (Value.str _ _) (Value.str _ _)) _ _ _); with_reducible refine ne_same ?_)) | (with_reducible (k_here; (with_reducible show wpAny _ _ (compareOp CmpOp.Eq (Value.str _ _) (Value.str _ _)) _ _ _); with_reducible refine eq_same ?_)) | walk1 | (dsimp only; walk1)))
        refine join_at (ys := rrs.take k.toNat) (by assumption) (.head _) (hus.take' _) (by decide) hpl (fun y hy => Nat.le_trans (hpm y hy) (by decide)) fun t' k' => ?_
        (repeat' ((fail_if_success (with_reducible show wpAny _ _ (noteFrame _ _) _ _ _)); (fail_if_success (with_reducible show wpAny _ _ (call (Value.ref _) _ _) _ _ _)); (fail_if_success (with_reducible show wpAny _ _ (call (Value.builtin "str.join") _ _) _ _ _)); (fail_if_success (with_reducible show wpAny _ _ (pyIter _) _ _ _)); (fail_if_success (with_reducible show wpAny _ _ (exec (Stmt.For _ _ _ _ _) _) _ _ _)); (fail_if_success (with_reducible show InvPostN _ _ _ _ _ _ _ _ _)); (fail_if_success (with_reducible show InvEndN _ _ _ _ _ _ _)); (fail_if_success (with_reducible show CompTo _ _ _ _ _ _ _ _ _ _ _ _ _ _ _ _)); first | (k_unfold; (try dsimp only)) | (with_reducible (k_here; (with_reducible show wpAny _ _ (subscriptTail _ _ (Value.str _ _) (Value.int 0 _)) _ _ _); refine item0 (by assumption) (by assumption) (by assumption) ?_)) | (with_reducible ((with_reducible show wpAny _ _ (compareOp CmpOp.In (Value.str _ _) (Value.str _ _)) _ _ _); (k_here; with_reducible (first | refine in_known (r := true) (by with_reducible assumption) ?_ | refine in_known (r := false) (by with_reducible assumption) ?_)))) | (with_reducible (k_here; (with_reducible show wpAny _ _ (eval _ (compEnv _ _ _)) _ _ _); first | refine ldc (by assumption) (by assumption) ?_ | k_dflt (refine cg_global (by k_asm) (by k_asm) (by k_asm) (by k_is) ?_) | k_dflt (refine cg_built (by k_asm) (by k_asm) (by k_asm) (by k_is) (by boot_by_name) (by decide) ?_))) | (with_reducible ((with_reducible show wpAny _ _ (compareOp CmpOp.NotIn (Value.str _ _) (Value.str _ _)) _ _ _); (k_here; with_reducible (first | refine notin_t (by with_reducible assumption) ?_ | refine notin_f (by with_reducible assumption) ?_)))) | (with_reducible (k_here; (with_reducible show wpAny _ _ (call (Value.builtin "len") [Value.ref _]) _ _ _); k_dflt (refine' kst_len ?N ?m ?e ?f ?_; (case N => k_asm); (case m => k_mem); (case e => rfl); (case f => omega)))) | (with_reducible (k_here; (with_reducible show wpAny _ _ (compareOp CmpOp.NotEq (Value.str _ _) (Value.str _ _)) _ _ _); with_reducible refine ne_same ?_)) | (with_reducible (k_here; (with_reducible show wpAny _ _ (compareOp CmpOp.Eq (Value.str _ _) (Value.str _ _)) _ _ _); with_reducible refine eq_same ?_)) | walk1 | (dsimp only; walk1)))
        rename News _ _ _ _ => N5
        rename Fr _ _ _ _ => F5
        rename_i D1 _ _
        rename D < D1 ∧ _ => lD1
        refine norm_at (dp := dp + 1) (un := un + 3) (gd := gd) (env0 := env0) (L0 := L0) (parts := rrs.take k.toNat) (l1 := [(D1, listOf (us.take k.toNat).toArray 0), (D, listOf us.toArray nu), (l', listOf [Value.ref lr, Value.ref DF].toArray 0), (DF, listOf fs.toArray nD), (lr, listOf vs.toArray nr)]) (l2 := own ++ own2) none F5 N5 ?ha X T (by omega) (by omega) (by rw [hsl2']; exact hn0) rfl h0 rfl k0 hL0L hxl (split_toks hpne hpk) (.inl ⟨rfl, rfl⟩) hpk (fun r hr => hch r (hparts r hr)) hpl hpm ?_
        case ha =>
          intro p hp
          rcases List.mem_append.mp hp with hp | hp
          · simp only [List.mem_cons, List.not_mem_nil, or_false] at hp
            rcases hp with rfl | rfl | rfl | rfl | rfl
            · exact (Nat.ne_of_lt lD1.2.2.2.2.1).symm
            · exact nD0
            · exact (Nat.ne_of_lt l1.2.2).symm
            · exact nF0
            · exact nR0
          · rcases List.mem_append.mp hp with hp | hp
            · exact hoff.ne (b := L0) (.tail _ (.tail _ (.tail _ (.head _)))) p hp
            · exact hoff2.ne (b := L0) (.tail _ (.tail _ (.tail _ (.tail _ (.head _))))) p hp
        intro t9 p0' h9 tk9 F6 N6 hp0
        dsimp only [List.cons_append, List.nil_append] at N6
        (repeat' ((fail_if_success (with_reducible show wpAny _ _ (noteFrame _ _) _ _ _)); (fail_if_success (with_reducible show wpAny _ _ (call (Value.ref _) _ _) _ _ _)); (fail_if_success (with_reducible show wpAny _ _ (call (Value.builtin "str.join") _ _) _ _ _)); (fail_if_success (with_reducible show wpAny _ _ (pyIter _) _ _ _)); (fail_if_success (with_reducible show wpAny _ _ (exec (Stmt.For _ _ _ _ _) _) _ _ _)); (fail_if_success (with_reducible show InvPostN _ _ _ _ _ _ _ _ _)); (fail_if_success (with_reducible show InvEndN _ _ _ _ _ _ _)); (fail_if_success (with_reducible show CompTo _ _ _ _ _ _ _ _ _ _ _ _ _ _ _ _)); first | (k_unfold; (try dsimp only)) | (with_reducible (k_here; (with_reducible show wpAny _ _ (subscriptTail _ _ (Value.str _ _) (Value.int 0 _)) _ _ _); refine item0 (by assumption) (by assumption) (by assumption) ?_)) | (with_reducible ((with_reducible show wpAny _ _ (compareOp CmpOp.In (Value.str _ _) (Value.str _ _)) _ _ _); (k_here; with_reducible (first | refine in_known (r := true) (by with_reducible assumption) ?_ | refine in_known (r := false) (by with_reducible assumption) ?_)))) | (with_reducible (k_here; (with_reducible show wpAny _ _ (eval _ (compEnv _ _ _)) _ _ _); first | refine ldc (by assumption) (by assumption) ?_ | k_dflt (refine cg_global (by k_asm) (by k_asm) (by k_asm) (by k_is) ?_) | k_dflt (refine cg_built (by k_asm) (by k_asm) (by k_asm) (by k_is) (by boot_by_name) (by decide) ?_))) | (with_reducible ((with_reducible show wpAny _ _ (compareOp CmpOp.NotIn (Value.str _ _) (Value.str _ _)) _ _ _); (k_here; with_reducible (first | refine notin_t (by with_reducible assumption) ?_ | refine notin_f (by with_reducible assumption) ?_)))) | (with_reducible (k_here; (with_reducible show wpAny _ _ (call (Value.builtin "len") [Value.ref _]) _ _ _); k_dflt (refine' kst_len ?N ?m ?e ?f ?_; (case N => k_asm); (case m => k_mem); (case e => rfl); (case f => omega)))) | (with_reducible (k_here; (with_reducible show wpAny _ _ (compareOp CmpOp.NotEq (Value.str _ _) (Value.str _ _)) _ _ _); with_reducible refine ne_same ?_)) | (with_reducible (k_here; (with_reducible show wpAny _ _ (compareOp CmpOp.Eq (Value.str _ _) (Value.str _ _)) _ _ _); with_reducible refine eq_same ?_)) | walk1 | (dsimp only; walk1)))
        rename News _ _ _ _ => N7
        rename Fr _ _ _ _ => F7
        refine short_at (dp := dp + 1) (un := un + 3) (rs := rrs.take k.toNat) F7 N7 (.head _) X T (by omega) (by omega) (hus.take' _) hpk hpl hpm fun t8 h8 tk8 hk8 F8 N8 => ?_
        (repeat' ((fail_if_success (with_reducible show wpAny _ _ (noteFrame _ _) _ _ _)); (fail_if_success (with_reducible show wpAny _ _ (call (Value.ref _) _ _) _ _ _)); (fail_if_success (with_reducible show wpAny _ _ (call (Value.builtin "str.join") _ _) _ _ _)); (fail_if_success (with_reducible show wpAny _ _ (pyIter _) _ _ _)); (fail_if_success (with_reducible show wpAny _ _ (exec (Stmt.For _ _ _ _ _) _) _ _ _)); (fail_if_success (with_reducible show InvPostN _ _ _ _ _ _ _ _ _)); (fail_if_success (with_reducible show InvEndN _ _ _ _ _ _ _)); (fail_if_success (with_reducible show CompTo _ _ _ _ _ _ _ _ _ _ _ _ _ _ _ _)); first | (k_unfold; (try dsimp only)) | (with_reducible (k_here; (with_reducible show wpAny _ _ (subscriptTail _ _ (Value.str _ _) (Value.int 0 _)) _ _ _); refine item0 (by assumption) (by assumption) (by assumption) ?_)) | (with_reducible ((with_reducible show wpAny _ _ (compareOp CmpOp.In (Value.str _ _) (Value.str _ _)) _ _ _); (k_here; with_reducible (first | refine in_known (r := true) (by with_reducible assumption) ?_ | refine in_known (r := false) (by with_reducible assumption) ?_)))) | (with_reducible (k_here; (with_reducible show wpAny _ _ (eval _ (compEnv _ _ _)) _ _ _); first | refine ldc (by assumption) (by assumption) ?_ | k_dflt (refine cg_global (by k_asm) (by k_asm) (by k_asm) (by k_is) ?_) | k_dflt (refine cg_built (by k_asm) (by k_asm) (by k_asm) (by k_is) (by boot_by_name) (by decide) ?_))) | (with_reducible ((with_reducible show wpAny _ _ (compareOp CmpOp.NotIn (Value.str _ _) (Value.str _ _)) _ _ _); (k_here; with_reducible (first | refine notin_t (by with_reducible assumption) ?_ | refine notin_f (by with_reducible assumption) ?_)))) | (with_reducible (k_here; (with_reducible show wpAny _ _ (call (Value.builtin "len") [Value.ref _]) _ _ _); k_dflt (refine' kst_len ?N ?m ?e ?f ?_; (case N => k_asm); (case m => k_mem); (case e => rfl); (case f => omega)))) | (with_reducible (k_here; (with_reducible show wpAny _ _ (compareOp CmpOp.NotEq (Value.str _ _) (Value.str _ _)) _ _ _); with_reducible refine ne_same ?_)) | (with_reducible (k_here; (with_reducible show wpAny _ _ (compareOp CmpOp.Eq (Value.str _ _) (Value.str _ _)) _ _ _); with_reducible refine eq_same ?_)) | walk1 | (dsimp only; walk1)))
        rename News _ _ _ _ => N9
        rename Fr _ _ _ _ => F9
        refine kst_end (σ := LpSt) (⟨p0'⟩ : LpSt) F9 N9 (fun p hp => .tail _ (.tail _ ?_)) (fun p hp => .tail _ (.tail _ ?_)) rfl ?_ (fun p hp => nomatch hp) (fun z h1 _ h3 => ?_) trivial
        · exact List.mem_append_left own2 hp
        · exact (List.mem_append_right (_ :: _ :: _ :: _ :: _ :: own) hp : p ∈ (_ :: _ :: _ :: _ :: _ :: own) ++ own2)
        · obtain ⟨s9, rfl⟩ := hp0
          exact ⟨s9, by rw [hsl2']⟩
        · simp only [if_neg h1]
          show (if _ then _ else _) = _
          rw [h3]
          rfl
      case done2 =>
        intro c u2 h2 tk2 hF2 hP2 F4 N4
        obtain ⟨p0⟩ := c
        (repeat' ((fail_if_success (with_reducible show wpAny _ _ (noteFrame _ _) _ _ _)); (fail_if_success (with_reducible show wpAny _ _ (call (Value.ref _) _ _) _ _ _)); (fail_if_success (with_reducible show wpAny _ _ (call (Value.builtin "str.join") _ _) _ _ _)); (fail_if_success (with_reducible show wpAny _ _ (pyIter _) _ _ _)); (fail_if_success (with_reducible show wpAny _ _ (exec (Stmt.For _ _ _ _ _) _) _ _ _)); (fail_if_success (with_reducible show InvPostN _ _ _ _ _ _ _ _ _)); (fail_if_success (with_reducible show InvEndN _ _ _ _ _ _ _)); (fail_if_success (with_reducible show CompTo _ _ _ _ _ _ _ _ _ _ _ _ _ _ _ _)); first | (k_unfold; (try dsimp only)) | (with_reducible (k_here; (with_reducible show wpAny _ _ (subscriptTail _ _ (Value.str _ _) (Value.int 0 _)) _ _ _); refine item0 (by assumption) (by assumption) (by assumption) ?_)) | (with_reducible ((with_reducible show wpAny _ _ (compareOp CmpOp.In (Value.str _ _) (Value.str _ _)) _ _ _); (k_here; with_reducible (first | refine in_known (r := true) (by with_reducible assumption) ?_ | refine in_known (r := false) (by with_reducible assumption) ?_)))) | (with_reducible (k_here; (with_reducible show wpAny _ _ (eval _ (compEnv _ _ _)) _ _ _); first | refine ldc (by assumption) (by assumption) ?_ | k_dflt (refine cg_global (by k_asm) (by k_asm) (by k_asm) (by k_is) ?_) | k_dflt (refine cg_built (by k_asm) (by k_asm) (by k_asm) (by k_is) (by boot_by_name) (by decide) ?_))) | (with_reducible ((with_reducible show wpAny _ _ (compareOp CmpOp.NotIn (Value.str _ _) (Value.str _ _)) _ _ _); (k_here; with_reducible (first | refine notin_t (by with_reducible assumption) ?_ | refine notin_f (by with_reducible assumption) ?_)))) | (with_reducible (k_here; (with_reducible show wpAny _ _ (call (Value.builtin "len") [Value.ref _]) _ _ _); k_dflt (refine' kst_len ?N ?m ?e ?f ?_; (case N => k_asm); (case m => k_mem); (case e => rfl); (case f => omega)))) | (with_reducible (k_here; (with_reducible show wpAny _ _ (compareOp CmpOp.NotEq (Value.str _ _) (Value.str _ _)) _ _ _); with_reducible refine ne_same ?_)) | (with_reducible (k_here; (with_reducible show wpAny _ _ (compareOp CmpOp.Eq (Value.str _ _) (Value.str _ _)) _ _ _); with_reducible refine eq_same ?_)) | walk1 | (dsimp only; walk1)))
        refine ll_end (Q := fun _ _ => True) (⟨p0⟩ : LpSt) F4 N4 (fun p hp => .tail _ ?_) (fun p hp => .tail _ ?_) rfl hF2 (fun p hp => nomatch hp) (fun z h1 _ h3 => ?_) trivial
        · exact List.mem_append_left own hp
        · exact List.mem_append_right [_, _, _, _] hp
        · have hn : z ≠ Str.ofString "n" := by
            rintro rfl
            exact absurd h3 (by decide +kernel)
          have hc1 : [Str.ofString "n"].contains z = false := by simpa using hn
          simp only [if_neg hn]
          show (if _ then _ else _) = _
          rw [hc1]
          show (if z = Str.ofString "row" then _ else if _ then _ else _) = _
          rw [if_neg h1, h3]
          rfl
    case done =>
      intro c u h tk hF hP F1 N1
      obtain ⟨p0⟩ := c
      obtain ⟨sl2, hsl2⟩ := id hF
      have hsl2' : p0 = { o0 with slots := sl2 } := hsl2
      dsimp only at N1
      have hpl : (figsOf rs).dropLast.length ≤ 100 := by
        have := figs_len rs
        rw [List.length_dropLast]
        omega
      (repeat' ((fail_if_success (with_reducible show wpAny _ _ (noteFrame _ _) _ _ _)); (fail_if_success (with_reducible show wpAny _ _ (call (Value.ref _) _ _) _ _ _)); (fail_if_success (with_reducible show wpAny _ _ (call (Value.builtin "str.join") _ _) _ _ _)); (fail_if_success (with_reducible show wpAny _ _ (pyIter _) _ _ _)); (fail_if_success (with_reducible show wpAny _ _ (exec (Stmt.For _ _ _ _ _) _) _ _ _)); (fail_if_success (with_reducible show InvPostN _ _ _ _ _ _ _ _ _)); (fail_if_success (with_reducible show InvEndN _ _ _ _ _ _ _)); (fail_if_success (with_reducible show CompTo _ _ _ _ _ _ _ _ _ _ _ _ _ _ _ _)); first | (k_unfold; (try dsimp only)) | (with_reducible (k_here; (with_reducible show wpAny _ _ (subscriptTail _ _ (Value.str _ _) (Value.int 0 _)) _ _ _); refine item0 (by assumption) (by assumption) (by assumption) ?_)) | (with_reducible ((with_reducible show wpAny _ _ (compareOp CmpOp.In (Value.str _ _) (Value.str _ _)) _ _ _); (k_here; with_reducible (first | refine in_known (r := true) (by with_reducible assumption) ?_ | refine in_known (r := false) (by with_reducible assumption) ?_)))) | (with_reducible (k_here; (with_reducible show wpAny _ _ (eval _ (compEnv _ _ _)) _ _ _); first | refine ldc (by assumption) (by assumption) ?_ | k_dflt (refine cg_global (by k_asm) (by k_asm) (by k_asm) (by k_is) ?_) | k_dflt (refine cg_built (by k_asm) (by k_asm) (by k_asm) (by k_is) (by boot_by_name) (by decide) ?_))) | (with_reducible ((with_reducible show wpAny _ _ (compareOp CmpOp.NotIn (Value.str _ _) (Value.str _ _)) _ _ _); (k_here; with_reducible (first | refine notin_t (by with_reducible assumption) ?_ | refine notin_f (by with_reducible assumption) ?_)))) | (with_reducible (k_here; (with_reducible show wpAny _ _ (call (Value.builtin "len") [Value.ref _]) _ _ _); k_dflt (refine' kst_len ?N ?m ?e ?f ?_; (case N => k_asm); (case m => k_mem); (case e => rfl); (case f => omega)))) | (with_reducible (k_here; (with_reducible show wpAny _ _ (compareOp CmpOp.NotEq (Value.str _ _) (Value.str _ _)) _ _ _); with_reducible refine ne_same ?_)) | (with_reducible (k_here; (with_reducible show wpAny _ _ (compareOp CmpOp.Eq (Value.str _ _) (Value.str _ _)) _ _ _); with_reducible refine eq_same ?_)) | walk1 | (dsimp only; walk1)))
      refine join_at (ys := (figsOf rs).dropLast) (by assumption) (.head _) (dropLast_strs hf) (by decide) hpl (fun y hy => Nat.le_trans (hml y (figs_sub rs y (List.dropLast_subset _ hy))) (by decide)) fun t' k' => ?_
      (repeat' ((fail_if_success (with_reducible show wpAny _ _ (noteFrame _ _) _ _ _)); (fail_if_success (with_reducible show wpAny _ _ (call (Value.ref _) _ _) _ _ _)); (fail_if_success (with_reducible show wpAny _ _ (call (Value.builtin "str.join") _ _) _ _ _)); (fail_if_success (with_reducible show wpAny _ _ (pyIter _) _ _ _)); (fail_if_success (with_reducible show wpAny _ _ (exec (Stmt.For _ _ _ _ _) _) _ _ _)); (fail_if_success (with_reducible show InvPostN _ _ _ _ _ _ _ _ _)); (fail_if_success (with_reducible show InvEndN _ _ _ _ _ _ _)); (fail_if_success (with_reducible show CompTo _ _ _ _ _ _ _ _ _ _ _ _ _ _ _ _)); first | (k_unfold; (try dsimp only)) | (with_reducible (k_here; (with_reducible show wpAny _ _ (subscriptTail _ _ (Value.str _ _) (Value.int 0 _)) _ _ _); refine item0 (by assumption) (by assumption) (by assumption) ?_)) | (with_reducible ((with_reducible show wpAny _ _ (compareOp CmpOp.In (Value.str _ _) (Value.str _ _)) _ _ _); (k_here; with_reducible (first | refine in_known (r := true) (by with_reducible assumption) ?_ | refine in_known (r := false) (by with_reducible assumption) ?_)))) | (with_reducible (k_here; (with_reducible show wpAny _ _ (eval _ (compEnv _ _ _)) _ _ _); first | refine ldc (by assumption) (by assumption) ?_ | k_dflt (refine cg_global (by k_asm) (by k_asm) (by k_asm) (by k_is) ?_) | k_dflt (refine cg_built (by k_asm) (by k_asm) (by k_asm) (by k_is) (by boot_by_name) (by decide) ?_))) | (with_reducible ((with_reducible show wpAny _ _ (compareOp CmpOp.NotIn (Value.str _ _) (Value.str _ _)) _ _ _); (k_here; with_reducible (first | refine notin_t (by with_reducible assumption) ?_ | refine notin_f (by with_reducible assumption) ?_)))) | (with_reducible (k_here; (with_reducible show wpAny _ _ (call (Value.builtin "len") [Value.ref _]) _ _ _); k_dflt (refine' kst_len ?N ?m ?e ?f ?_; (case N => k_asm); (case m => k_mem); (case e => rfl); (case f => omega)))) | (with_reducible (k_here; (with_reducible show wpAny _ _ (compareOp CmpOp.NotEq (Value.str _ _) (Value.str _ _)) _ _ _); with_reducible refine ne_same ?_)) | (with_reducible (k_here; (with_reducible show wpAny _ _ (compareOp CmpOp.Eq (Value.str _ _) (Value.str _ _)) _ _ _); with_reducible refine eq_same ?_)) | walk1 | (dsimp only; walk1)))
      rename News _ _ _ _ => N5
      rename Fr _ _ _ _ => F5
      rename_i D1 _ _ tl
      rename l' < D1 ∧ _ => lD1
      obtain ⟨lv, hlv, hfe⟩ := last_getD (l := figsOf rs) (by omega)
      have hlvm : lv ∈ figsOf rs := by rw [hfe]; exact List.mem_append_right _ (.head _)
      have hdm : ∀ r ∈ (figsOf rs).dropLast, r ∈ figsOf rs := fun r hr => List.dropLast_subset _ hr
      have hdl : (figsOf rs).dropLast ≠ [] := by
        intro q
        have q := congrArg List.length q
        rw [List.length_dropLast, List.length_nil] at q
        omega
      have hfk : ∀ r ∈ figsOf rs, TokOf r := fun r hr => htk r (figs_sub rs r hr)
      have hfm : ∀ r ∈ figsOf rs, r.length ≤ 100 := fun r hr => hml r (figs_sub rs r hr)
      have hfl2 : (figsOf rs).length ≤ 100 := Nat.le_trans (figs_len rs) hrl
      have hlv0 : lv.length ≠ 0 := by
        obtain ⟨_, _, _, h⟩ := tok_head (figs_fig rs lv hlvm)
        exact h
      have hxl : (Txt.join (Str.ofString ".") (figsOf rs).dropLast).length ≤ 1000 := by
        have h1 := join_length (Str.ofString ".") (figsOf rs).dropLast
        have h2 := sumLen_dropLast (figsOf rs)
        have h3 : (Str.ofString ".").length = 1 := rfl
        have h4 := figs_sum rs
        rw [h3] at h1
        omega
      rw [hlv]
      refine norm_at (dp := dp + 1) (un := un + 3) (gd := gd) (env0 := env0) (L0 := L0) (parts := figsOf rs) (l1 := [(D1, listOf fs.dropLast.toArray 0), (l', listOf [Value.ref lr, Value.ref DF].toArray 0), (DF, listOf fs.toArray nD), (lr, listOf vs.toArray nr)]) (l2 := []) (some (lv, tl)) F5 N5 ?ha X T (by omega) (by omega) (by rw [hsl2']; exact hn0) rfl h0 rfl k0 hL0L hxl (split_toks hdl fun r hr => hfk r (hdm r hr)) (.inr ⟨hlv0, hfe⟩) hfk (fun r hr => hch r (figs_sub rs r hr)) hfl2 hfm ?_
      case ha =>
        intro p hp
        rw [List.append_nil] at hp
        simp only [List.mem_cons, List.not_mem_nil, or_false] at hp
        rcases hp with rfl | rfl | rfl | rfl
        · exact (Nat.ne_of_lt lD1.2.2.2).symm
        · exact (Nat.ne_of_lt l1.2.2).symm
        · exact nF0
        · exact nR0
      intro t9 p0' h9 tk9 F6 N6 hp0
      dsimp only [List.cons_append, List.nil_append] at N6
      (repeat' ((fail_if_success (with_reducible show wpAny _ _ (noteFrame _ _) _ _ _)); (fail_if_success (with_reducible show wpAny _ _ (call (Value.ref _) _ _) _ _ _)); (fail_if_success (with_reducible show wpAny _ _ (call (Value.builtin "str.join") _ _) _ _ _)); (fail_if_success (with_reducible show wpAny _ _ (pyIter _) _ _ _)); (fail_if_success (with_reducible show wpAny _ _ (exec (Stmt.For _ _ _ _ _) _) _ _ _)); (fail_if_success (with_reducible show InvPostN _ _ _ _ _ _ _ _ _)); (fail_if_success (with_reducible show InvEndN _ _ _ _ _ _ _)); (fail_if_success (with_reducible show CompTo _ _ _ _ _ _ _ _ _ _ _ _ _ _ _ _)); first | (k_unfold; (try dsimp only)) | (with_reducible (k_here; (with_reducible show wpAny _ _ (subscriptTail _ _ (Value.str _ _) (Value.int 0 _)) _ _ _); refine item0 (by assumption) (by assumption) (by assumption) ?_)) | (with_reducible ((with_reducible show wpAny _ _ (compareOp CmpOp.In (Value.str _ _) (Value.str _ _)) _ _ _); (k_here; with_reducible (first | refine in_known (r := true) (by with_reducible assumption) ?_ | refine in_known (r := false) (by with_reducible assumption) ?_)))) | (with_reducible (k_here; (with_reducible show wpAny _ _ (eval _ (compEnv _ _ _)) _ _ _); first | refine ldc (by assumption) (by assumption) ?_ | k_dflt (refine cg_global (by k_asm) (by k_asm) (by k_asm) (by k_is) ?_) | k_dflt (refine cg_built (by k_asm) (by k_asm) (by k_asm) (by k_is) (by boot_by_name) (by decide) ?_))) | (with_reducible ((with_reducible show wpAny _ _ (compareOp CmpOp.NotIn (Value.str _ _) (Value.str _ _)) _ _ _); (k_here; with_reducible (first | refine notin_t (by with_reducible assumption) ?_ | refine notin_f (by with_reducible assumption) ?_)))) | (with_reducible (k_here; (with_reducible show wpAny _ _ (call (Value.builtin "len") [Value.ref _]) _ _ _); k_dflt (refine' kst_len ?N ?m ?e ?f ?_; (case N => k_asm); (case m => k_mem); (case e => rfl); (case f => omega)))) | (with_reducible (k_here; (with_reducible show wpAny _ _ (compareOp CmpOp.NotEq (Value.str _ _) (Value.str _ _)) _ _ _); with_reducible refine ne_same ?_)) | (with_reducible (k_here; (with_reducible show wpAny _ _ (compareOp CmpOp.Eq (Value.str _ _) (Value.str _ _)) _ _ _); with_reducible refine eq_same ?_)) | walk1 | (dsimp only; walk1)))
      rename News _ _ _ _ => N7
      rename Fr _ _ _ _ => F7
      refine short_at (dp := dp + 1) (un := un + 3) (rs := figsOf rs) F7 N7 (.tail _ (.tail _ (.head _))) X T (by omega) (by omega) hf hfk hfl2 hfm fun t8 h8 tk8 hk8 F8 N8 => ?_
      (repeat' ((fail_if_success (with_reducible show wpAny _ _ (noteFrame _ _) _ _ _)); (fail_if_success (with_reducible show wpAny _ _ (call (Value.ref _) _ _) _ _ _)); (fail_if_success (with_reducible show wpAny _ _ (call (Value.builtin "str.join") _ _) _ _ _)); (fail_if_success (with_reducible show wpAny _ _ (pyIter _) _ _ _)); (fail_if_success (with_reducible show wpAny _ _ (exec (Stmt.For _ _ _ _ _) _) _ _ _)); (fail_if_success (with_reducible show InvPostN _ _ _ _ _ _ _ _ _)); (fail_if_success (with_reducible show InvEndN _ _ _ _ _ _ _)); (fail_if_success (with_reducible show CompTo _ _ _ _ _ _ _ _ _ _ _ _ _ _ _ _)); first | (k_unfold; (try dsimp only)) | (with_reducible (k_here; (with_reducible show wpAny _ _ (subscriptTail _ _ (Value.str _ _) (Value.int 0 _)) _ _ _); refine item0 (by assumption) (by assumption) (by assumption) ?_)) | (with_reducible ((with_reducible show wpAny _ _ (compareOp CmpOp.In (Value.str _ _) (Value.str _ _)) _ _ _); (k_here; with_reducible (first | refine in_known (r := true) (by with_reducible assumption) ?_ | refine in_known (r := false) (by with_reducible assumption) ?_)))) | (with_reducible (k_here; (with_reducible show wpAny _ _ (eval _ (compEnv _ _ _)) _ _ _); first | refine ldc (by assumption) (by assumption) ?_ | k_dflt (refine cg_global (by k_asm) (by k_asm) (by k_asm) (by k_is) ?_) | k_dflt (refine cg_built (by k_asm) (by k_asm) (by k_asm) (by k_is) (by boot_by_name) (by decide) ?_))) | (with_reducible ((with_reducible show wpAny _ _ (compareOp CmpOp.NotIn (Value.str _ _) (Value.str _ _)) _ _ _); (k_here; with_reducible (first | refine notin_t (by with_reducible assumption) ?_ | refine notin_f (by with_reducible assumption) ?_)))) | (with_reducible (k_here; (with_reducible show wpAny _ _ (call (Value.builtin "len") [Value.ref _]) _ _ _); k_dflt (refine' kst_len ?N ?m ?e ?f ?_; (case N => k_asm); (case m => k_mem); (case e => rfl); (case f => omega)))) | (with_reducible (k_here; (with_reducible show wpAny _ _ (compareOp CmpOp.NotEq (Value.str _ _) (Value.str _ _)) _ _ _); with_reducible refine ne_same ?_)) | (with_reducible (k_here; (with_reducible show wpAny _ _ (compareOp CmpOp.Eq (Value.str _ _) (Value.str _ _)) _ _ _); with_reducible refine eq_same ?_)) | walk1 | (dsimp only; walk1)))
      rename News _ _ _ _ => N9
      rename Fr _ _ _ _ => F9
      obtain ⟨s9, rfl⟩ := hp0
      exact hret _ _ _ F9.keep (N9.get (.tail _ (.tail _ (.tail _ (.head _))))) (N9.get (.tail _ (.tail _ (.tail _ (.tail _ (.head _)))))) ⟨s9, by rw [hsl2']⟩
end Mine
end
section
open PySem PySem.W PySem.W.X PyProof.Rows PySem.Calls
set_option maxRecDepth 100000
namespace Mine
/-- a piece of a version -/
noncomputable def PieceOk (y : Str) : Prop := y.length ≤ 5 ∧ ∀ c ∈ y.cps.toList, c < 128 ∨ c = 233
noncomputable def pieceB (y : Str) : Bool := decide (y.length ≤ 5) && y.cps.toList.all fun c => decide (c < 128) || decide (c = 233)
theorem pieceB_ok {y : Str} (h : pieceB y = true) : PieceOk y := by
  unfold pieceB at h
  rw [Bool.and_eq_true, decide_eq_true_iff, List.all_eq_true] at h
  refine ⟨h.1, fun c hc => ?_⟩
  have := h.2 c hc
  rw [Bool.or_eq_true, decide_eq_true_iff, decide_eq_true_iff] at this
  exact this
noncomputable def litStrs : List PySem.Expr → List Str
  | .Constant (.str x) _ _ :: r => x :: litStrs r
  | _ => []
noncomputable def litOk : List PySem.Expr → Bool
  | [] => true
  | .Constant (.str _) _ _ :: r => litOk r
  | _ => false
section
variable {prog : Program} {w : World} {M : Model} {A : Around} {E : Value → Shared → Prop} {env : Env}
theorem spliced_lits {pos : Pos} : ∀ {elts : List PySem.Expr}, litOk elts = true → ∀ {s : Shared} {Q : List Value → Shared → Prop}, (∀ vs tk, StrsAre vs (litStrs elts) → Q vs { s with toks := tk }) → wpAny M A (spliced (backTo pos (starEach elts env))) Q E s
  | [], he, s, Q, h => args_nil (h [] s.toks .nil)
  | e :: r, he, s, Q, h => by
      unfold litOk at he
      split at he
      · rename_i h0; cases h0
      · rename_i x k p r' h0
        cases h0
        refine args_cons (wpAny_Constant_str ?_)
        refine spliced_lits he fun vs tk hs => ?_
        exact h _ tk (.cons x _ hs)
      · cases he
theorem list_lit {elts : List PySem.Expr} {pos : Pos} {s : Shared} {h₀ : Heap} {L : Addr} {m : Str → Option Value} {news : List (Addr × Obj)} {Q : Value → Shared → Prop} (F : Fr h₀ L s.heap m) (N : News h₀ L s.heap news) (he : litOk elts = true) (hn : (litStrs elts).length ≤ 100)
    (h : ∀ vs l h' tk, StrsAre vs (litStrs elts) → Fr h₀ L h' m → News h₀ L h' ((l, listOf vs.toArray 0) :: news) → (∀ p ∈ news, p.1 < l) → Q (.ref l) { s with heap := h', toks := tk }) : wpAny M A (eval (.List elts pos) env) Q E s := by
  refine List_ (spliced_lits he fun vs tk hs => ?_)
  exact newList_K (s := { s with toks := tk }) F N (fun l h' F' N' l1 => h vs l h' tk hs F' N' l1) (by rw [hs.length, sizeLine_eq]; omega)
theorem item_lit {value slice : PySem.Expr} {D : Addr} {vs : List Value} {xs : List Str} {k : Int} {u : Tok} {nn : Nat} {s : Shared} {h₀ : Heap} {L : Addr} {news : List (Addr × Obj)} {Q : Value → Shared → Prop} (N : News h₀ L s.heap news) (hm : (D, listOf vs.toArray nn) ∈ news) (hs : StrsAre vs xs) (ha : xs.all pieceB = true)
    (h0 : 0 ≤ k) (hk : k < xs.length) (hn : xs.length ≤ 100) (h : ∀ y t, PieceOk y → Q (.str y t) s)
    (hsb : subscripted slice false (.ref D) (.int k u) = operate [.ref D, .int k u] (getItem (.ref D) (.int k u)) := by with_unfolding_all rfl) :
    wpAny (model prog w) A (subscriptTail value slice (.ref D) (.int k u)) Q E s := by
  refine item_strsR (News.isList N hm) hs h0 hk (by omega) (fun t => h _ t ?_) hsb
  have hlt : k.toNat < xs.length := by omega
  refine pieceB_ok (List.all_eq_true.mp ha _ ?_)
  rw [List.getD_eq_getElem?_getD, List.getElem?_eq_getElem hlt]
  exact List.getElem_mem _
end
theorem str_piece {prog : Program} {w : World} {A : Around} {E : Value → Shared → Prop} {s : Shared} {a : Int} {t : Tok} {Q : Value → Shared → Prop} (h0 : 0 ≤ a) (h1 : a < 1000) (h : ∀ y t', PieceOk y → Q (.str y t') { s with toks := s.toks + 1 }) : wpAny (model prog w) A (call (.type "str") [.int a t]) Q E s := by
  refine str_of_int_fit (N := 1000) (by split <;> omega) (by decide) fun _ => h _ _ ?_
  have hb : ∀ n, n < 1000 → pieceB (Str.ofString (toString ((n : Nat) : Int))) = true := by decide +kernel
  have : a = ((a.toNat : Nat) : Int) := by omega
  rw [this]
  exact pieceB_ok (hb _ (by omega))
theorem chr_piece {prog : Program} {w : World} {A : Around} {E : Value → Shared → Prop} {s : Shared} {a : Int} {t : Tok} {Q : Value → Shared → Prop} (h0 : 0 ≤ a) (h1 : a < 128) (h : ∀ y t', PieceOk y → Q (.str y t') { s with toks := s.toks + 1 }) : wpAny (model prog w) A (call (.builtin "chr") [.int a t]) Q E s := by
  refine chr_of_range h0 (by omega) (h _ _ ?_)
  refine ⟨by show (1 : Nat) ≤ 5; omega, fun c hc => .inl ?_⟩
  rw [List.mem_singleton.mp hc]
  omega
theorem text_piece {prog : Program} {w : World} {A : Around} {E : Value → Shared → Prop} {s : Shared} {value slice : PySem.Expr} {x : Str} {k : Int} {t u : Tok} {Q : Value → Shared → Prop} (hx : x.length ≤ 100) (ha : x.cps.toList.all (fun c => decide (c < 128) || decide (c = 233)) = true) (h0 : 0 ≤ k) (hk : k < x.length) (h : ∀ y t', PieceOk y → Q (.str y t') { s with toks := s.toks + 1 })
    (hs : subscripted slice false (.str x t) (.int k u) = operate [.str x t, .int k u] (getItem (.str x t) (.int k u)) := by with_unfolding_all rfl)
    (ht : ∀ r, letTemporaryGo value (.str x t) r = pure () := by intro _; with_unfolding_all rfl) :
    wpAny (model prog w) A (subscriptTail value slice (.str x t) (.int k u)) Q E s := by
  refine KXi.item (n := x.length) rfl (by omega) hk (by omega) (fun e => h _ _ ⟨by omega, fun c hc => ?_⟩) hs ht
  have hc' : c = (Txt.charAt x k).getD 0 := List.mem_singleton.mp hc
  cases hq : Txt.charAt x k with
  | none =>
    rw [hq] at hc'
    exact .inl (by rw [hc']; decide)
  | some d =>
    rw [hq] at hc'
    have hm : d ∈ x.cps.toList := by
      unfold Txt.charAt at hq
      obtain ⟨j, -, hj⟩ := Option.bind_eq_some_iff.mp hq
      exact Array.mem_toList_iff.mpr (Array.mem_of_getElem? hj)
    have := List.all_eq_true.mp ha d hm
    rw [Bool.or_eq_true, decide_eq_true_iff, decide_eq_true_iff] at this
    rw [hc']
    exact this
end Mine
end
section
open PySem PySem.W PySem.W.X PyProof.Rows PySem.Calls
set_option maxRecDepth 100000
set_option maxHeartbeats 800000
namespace Mine
structure VrSt where
  vs : List Value
  n : Nat
  ps : List Str
noncomputable def VrP (pre : List Int) (c : VrSt) : Prop := c.ps.length = pre.length ∧ ∀ y ∈ c.ps, PieceOk y
theorem mod_lit {prog : Program} {w : World} {A : Around} {E : Value → Shared → Prop} {s : Shared} {a b : Int} {t u : Tok} {Q : Value → Shared → Prop} (hA : A.handled = none) (hb : b ≠ 0) (h : Q (.int (a.fmod b) s.toks) { s with toks := s.toks + 1 }) : wpAny (model prog w) A (binaryOp .Mod (.int a t) (.int b u)) Q E s :=
  mod_int_or hA (fun e => absurd e hb) fun _ => h
theorem fdiv_lit {prog : Program} {w : World} {A : Around} {E : Value → Shared → Prop} {s : Shared} {a b : Int} {t u : Tok} {Q : Value → Shared → Prop} (hA : A.handled = none) (hb : b ≠ 0) (hs : b.natAbs < 1073741824) (h : Q (.int (a.fdiv b) s.toks) { s with toks := s.toks + 1 }) : wpAny (model prog w) A (binaryOp .FloorDiv (.int a t) (.int b u)) Q E s :=
  floordiv_int_or hA (fun e => absurd e hb) (fun _ => h) fun _ => .inl (PyProof.noPylong_small hs)
theorem eq_int_b {prog : Program} {w : World} {A : Around} {E : Value → Shared → Prop} {s : Shared} {a b : Int} {t u : Tok} {Q : Value → Shared → Prop} (r : Bool) (e : (a == b) = r) (h : Q (.bool r) s) : wpAny (model prog w) A (compareOp .Eq (.int a t) (.int b u)) Q E s := by
  subst e
  exact eq_int h
theorem append_arg {M : Model} {A : Around} {E : Value → Shared → Prop} {s : Shared} {id : String} {a : Value} {e : PySem.Expr} {env : Env} {pos : Pos} {Q : Value → Shared → Prop} (h : wpAny M A (eval e env) (fun v s₁ => wpAny M A (call (.builtin id) [a, v] []) Q E s₁) E s) (he : starEach [e] env = (false, eval e env) :: starEach [] env := by rfl) :
    wpAny M A (callWith pos (.builtin id) [a] (backTo pos (starEach [e] env)) []) Q E s := by
  rw [he]
  exact Calls.callWith_builtin rfl (Calls.evalArgs_plain (Calls.spliced_cons (wpAny_mono h (fun v s₁ h₁ => Calls.spliced_nil h₁) fun _ _ x => x)))
theorem vr_end {g h' : Heap} {L lp ln : Addr} {m₀ u : Str → Option Value} {us : List Value} {k : Nat} {ps : List Str} {pre : List Int} {x : Int} {own news' : List (Addr × Obj)} {s₁ : Shared} {tk : Nat} {v1 v2 : Value} {nv : List Value} {nn : Nat} {Q : Flow → Shared → Prop} {y1 : Str} {t1 : Tok} (hy : PieceOk y1)
    (F : Fr g L h' (fun y => if y = Str.ofString "q" then some v1 else if y = Str.ofString "x" then some v2 else kstB (fun z => if [Str.ofString "x", Str.ofString "q"].contains z = true then u z else m₀ z) [] y))
    (N : News g L h' news') (m1 : (lp, listOf (us.toArray.push (.str y1 t1)) (k + 1)) ∈ news') (m2 : (ln, listOf nv.toArray nn) ∈ news') (mo : ∀ p ∈ own, p ∈ news') (hs : StrsAre us ps) (hP : VrP pre ⟨us, k, ps⟩) :
    InvPostN g L (KstS (fun c : VrSt => [(lp, listOf c.vs.toArray c.n), (ln, listOf nv.toArray nn)]) (fun _ => []) (fun c => StrsAre c.vs c.ps) (Str.ofString "x") [Str.ofString "x", Str.ofString "q"] m₀ VrP (pre ++ [x])) own [lp, ln] s₁ Q .next { s₁ with heap := h', toks := tk } := by
  refine kst_end (σ := VrSt) (⟨us ++ [.str y1 t1], k + 1, ps ++ [y1]⟩ : VrSt) F N (fun p hp => ?_) mo rfl (strsAre_append hs (.cons y1 t1 .nil)) (fun p hp => nomatch hp) ?_ ⟨?_, ?_⟩
  · rcases List.mem_cons.mp hp with rfl | hp
    · simpa using m1
    · rw [List.mem_singleton.mp hp]
      exact m2
  · intro z h1 _ h3
    have hq : z ≠ Str.ofString "q" := by
      rintro rfl
      exact absurd h3 (by decide +kernel)
    show (if z = Str.ofString "q" then _ else if z = Str.ofString "x" then _ else (if [Str.ofString "x", Str.ofString "q"].contains z = true then u z else m₀ z)) = _
    rw [if_neg hq, if_neg h1, h3]
    rfl
  · have := hP.1
    simp only [List.length_append, List.length_singleton] at *
    omega
  · intro y hm
    rcases List.mem_append.mp hm with hm | hm
    · exact hP.2 y hm
    · rw [List.mem_singleton.mp hm]
      exact hy
theorem sumLen_five : ∀ {ps : List Str}, (∀ y ∈ ps, PieceOk y) → sumLen ps ≤ 5 * ps.length
  | [], _ => Nat.le_refl _
  | a :: r, h => by
    have h1 := sumLen_five (ps := r) fun y hy => h y (.tail _ hy)
    have h2 := (h a (.head _)).1
    show a.length + sumLen r ≤ 5 * (r.length + 1)
    omega
theorem pieces_join {ps : List Str} {ns : List Int} (h : ps.length = ns.length) (hn : ns.length ≤ 12) (hp : ∀ y ∈ ps, PieceOk y) : (Txt.join (Str.ofString "") ps).length ≤ 60 ∧ ∀ c ∈ (Txt.join (Str.ofString "") ps).cps.toList, c < 128 ∨ c = 233 := by
  refine ⟨?_, fun c hc => ?_⟩
  · have h1 := join_length (Str.ofString "") ps
    have h2 := sumLen_five hp
    have e : (Str.ofString "").length = 0 := by decide +kernel
    rw [e] at h1
    omega
  · rw [join_toList] at hc
    have e : (Str.ofString "").cps.toList = [] := by decide +kernel
    rw [e] at hc
    rcases joinC_mem hc with hc | ⟨l, hl, hc⟩
    · cases hc
    · obtain ⟨y, hy, rfl⟩ := List.mem_map.mp hl
      exact (hp y hy).2 c hc
theorem vers_spec {w : World} {mg mb : Str → Option Value} {dp un : Nat} {gd : Option (List Code)} {outer : List Env} {s : Shared} {Q E : Value → Shared → Prop} {ln : Addr} {nv : List Value} {ns : List Int} {nn : Nat} {g : Heap}
    (hg : g = hideAll s.heap [ln]) (hln : s.heap.get? ln = some (listOf nv.toArray nn)) (hns : IntsAre nv ns) (hnl : ns.length ≤ 12)
    (X : (K3 w.params).In g) (T : TopRead q1 loose1 mg mb g) (hd : dp + 20 < recursionLimit) (hu : un + 200 < cLine)
    (hret : ∀ x p t' h' tk', (∀ b o, g.get? b = some o → h'.get? b = some o) → h'.get? ln = some (listOf nv.toArray nn) → p.length ≤ 60 → (∀ c ∈ p.cps.toList, c < 128 ∨ c = 233) → (x = Str.ofString "2.07rc1" ++ p ∨ x = p ++ Str.ofString "2.07rc1") → Q (.str x t') { s with heap := h', toks := tk' }) :
    wpAny (model pw w) (actx dp un gd outer) (call (.ref 759) [.ref ln]) Q E s := by
  have hfill : PySem.Challenge.rw_ox0114_01 = PySem.Challenge.rw_ox0114_01 ∧ K3 = K3 := by
    k_fill
    exact ⟨rfl, rfl⟩
  clear hfill
  have hl : ∀ p ∈ [(ln, listOf nv.toArray nn)], s.heap.get? p.1 = some p.2 := by
    intro p hp
    rw [List.mem_singleton.mp hp]
    exact hln
  refine wpAny_call ?_
  k_dflt (refine' enterH (led := [(ln, listOf nv.toArray nn)]) (args := ⟨[.ref ln], []⟩) (binds := [(Str.ofString "numbers", .ref ln)]) hg hl X T ?k6 ?k7 ?k8 ?k9 ?kB ?_ ?c2 ?c3 ?c4 ?c5; (case k6 => k_is); (case k7 => k_is); (case k8 => (dsimp only; omega)); (case k9 => exact BindsTo.of_eq rfl); (case c5 => decide); (case kB => exact locs rfl); (case c2 => exact rfl); (case c3 => exact rfl); (case c4 => exact rfl); k_whole)
  intro L' h' F' N' hlL
  have hLL : ln < L' := hlL _ (.head _)
  replace hLL := ltN hLL
  clear hlL
  (try dsimp only); (try k_fold)
  (repeat' ((fail_if_success (with_reducible show wpAny _ _ (noteFrame _ _) _ _ _)); (fail_if_success (with_reducible show wpAny _ _ (pyIter _) _ _ _)); (fail_if_success (with_reducible show wpAny _ _ (call (Value.builtin "str.join") _ _) _ _ _)); (fail_if_success (with_reducible show wpAny _ _ (exec (Stmt.For _ _ _ _ _) _) _ _ _)); (fail_if_success (with_reducible show InvPostN _ _ _ _ _ _ _ _ _)); (fail_if_success (with_reducible show InvEndN _ _ _ _ _ _ _)); first | (first | ((with_reducible show wpAny _ _ (callWith _ _ _ _ _) _ _ _); refine append_arg ?_) | ((with_reducible show wpAny _ _ (eval (PySem.Expr.List (_ :: _) _) _) _ _ _); k_here; k_dflt (refine' list_lit ?F ?N ?he ?hn ?_; (case F => k_asm); (case N => k_asm); (case he => rfl); (case hn => decide +kernel)); intro ws l' h' tk' hw' F' N' l1; (try k_lt l1)) | ((with_reducible show wpAny _ _ (subscriptTail _ _ (Value.ref _) (Value.int _ _)) _ _ _); k_here; k_dflt (refine' item_lit ?N ?hm ?hs ?ha ?h0 ?hk ?hn ?_; (case N => k_asm); (case hm => k_mem); (case hs => assumption); (case ha => decide +kernel); (case h0 => assumption); (case hk => exact Int.lt_of_lt_of_le (by assumption) (by decide +kernel)); (case hn => decide +kernel)); intro y1 t1 hy1) | ((with_reducible show wpAny _ _ (subscriptTail _ _ (Value.str _ _) (Value.int _ _)) _ _ _); k_here; refine text_piece (by decide +kernel) (by decide +kernel) (by assumption) (by assumption) ?_; intro y1 t1 hy1) | ((with_reducible show wpAny _ _ (call (Value.type "str") [Value.int _ _]) _ _ _); k_here; refine str_piece (by assumption) (by assumption) ?_; intro y1 t1 hy1) | ((with_reducible show wpAny _ _ (call (Value.builtin "chr") [Value.int _ _]) _ _ _); k_here; refine chr_piece (by assumption) (by assumption) ?_; intro y1 t1 hy1)) | ((fail_if_success (with_reducible show wpAny _ _ (eval (PySem.Expr.List (_ :: _) _) _) _ _ _)); (fail_if_success (with_reducible show wpAny _ _ (subscriptTail _ _ _ _) _ _ _)); (fail_if_success (with_reducible show wpAny _ _ (call (Value.type "str") _) _ _ _)); (fail_if_success (with_reducible show wpAny _ _ (call (Value.builtin "chr") _ ) _ _ _)); (k_unfold; (try dsimp only))) | ((fail_if_success (with_reducible show wpAny _ _ (eval (PySem.Expr.List (_ :: _) _) _) _ _ _)); (fail_if_success (with_reducible show wpAny _ _ (subscriptTail _ _ _ _) _ _ _)); (fail_if_success (with_reducible show wpAny _ _ (call (Value.type "str") _) _ _ _)); walk1) | ((fail_if_success (with_reducible show wpAny _ _ (eval (PySem.Expr.List (_ :: _) _) _) _ _ _)); dsimp only; walk1)))
  k_dflt (refine For_invV g rfl rfl ?_)
  (repeat' ((fail_if_success (with_reducible show wpAny _ _ (noteFrame _ _) _ _ _)); (fail_if_success (with_reducible show wpAny _ _ (pyIter _) _ _ _)); (fail_if_success (with_reducible show wpAny _ _ (call (Value.builtin "str.join") _ _) _ _ _)); (fail_if_success (with_reducible show wpAny _ _ (exec (Stmt.For _ _ _ _ _) _) _ _ _)); (fail_if_success (with_reducible show InvPostN _ _ _ _ _ _ _ _ _)); (fail_if_success (with_reducible show InvEndN _ _ _ _ _ _ _)); first | (first | ((with_reducible show wpAny _ _ (callWith _ _ _ _ _) _ _ _); refine append_arg ?_) | ((with_reducible show wpAny _ _ (eval (PySem.Expr.List (_ :: _) _) _) _ _ _); k_here; k_dflt (refine' list_lit ?F ?N ?he ?hn ?_; (case F => k_asm); (case N => k_asm); (case he => rfl); (case hn => decide +kernel)); intro ws l' h' tk' hw' F' N' l1; (try k_lt l1)) | ((with_reducible show wpAny _ _ (subscriptTail _ _ (Value.ref _) (Value.int _ _)) _ _ _); k_here; k_dflt (refine' item_lit ?N ?hm ?hs ?ha ?h0 ?hk ?hn ?_; (case N => k_asm); (case hm => k_mem); (case hs => assumption); (case ha => decide +kernel); (case h0 => assumption); (case hk => exact Int.lt_of_lt_of_le (by assumption) (by decide +kernel)); (case hn => decide +kernel)); intro y1 t1 hy1) | ((with_reducible show wpAny _ _ (subscriptTail _ _ (Value.str _ _) (Value.int _ _)) _ _ _); k_here; refine text_piece (by decide +kernel) (by decide +kernel) (by assumption) (by assumption) ?_; intro y1 t1 hy1) | ((with_reducible show wpAny _ _ (call (Value.type "str") [Value.int _ _]) _ _ _); k_here; refine str_piece (by assumption) (by assumption) ?_; intro y1 t1 hy1) | ((with_reducible show wpAny _ _ (call (Value.builtin "chr") [Value.int _ _]) _ _ _); k_here; refine chr_piece (by assumption) (by assumption) ?_; intro y1 t1 hy1)) | ((fail_if_success (with_reducible show wpAny _ _ (eval (PySem.Expr.List (_ :: _) _) _) _ _ _)); (fail_if_success (with_reducible show wpAny _ _ (subscriptTail _ _ _ _) _ _ _)); (fail_if_success (with_reducible show wpAny _ _ (call (Value.type "str") _) _ _ _)); (fail_if_success (with_reducible show wpAny _ _ (call (Value.builtin "chr") _ ) _ _ _)); (k_unfold; (try dsimp only))) | ((fail_if_success (with_reducible show wpAny _ _ (eval (PySem.Expr.List (_ :: _) _) _) _ _ _)); (fail_if_success (with_reducible show wpAny _ _ (subscriptTail _ _ _ _) _ _ _)); (fail_if_success (with_reducible show wpAny _ _ (call (Value.type "str") _) _ _ _)); walk1) | ((fail_if_success (with_reducible show wpAny _ _ (eval (PySem.Expr.List (_ :: _) _) _) _ _ _)); dsimp only; walk1)))
  rename News _ _ _ _ => NZ
  rename Fr _ _ _ _ => FZ
  rename_i lp _ l1 _
  refine' kst_listL (l := ln) (vs := nv) (ns := ns) (nn := nn) (fun c : VrSt => [(lp, listOf c.vs.toArray c.n), (ln, listOf nv.toArray nn)]) (fun _ => []) (fun c => StrsAre c.vs c.ps) [Str.ofString "x", Str.ofString "q"] VrP ⟨[], 0, []⟩ rfl (fun c => .tail _ (.head _)) hns FZ NZ .nil (fun p hp => nomatch hp) ⟨rfl, fun y hy => nomatch hy⟩ ?turn ?done
  case done =>
    intro c u h tk hF hP F1 N1
    have hjl : c.ps.length ≤ 100 := by
      have := hP.1
      omega
    have hjw : ∀ y ∈ c.ps, y.length ≤ 2000 := fun y hy => Nat.le_trans (hP.2 y hy).1 (by decide)
    (repeat' ((fail_if_success (with_reducible show wpAny _ _ (noteFrame _ _) _ _ _)); (fail_if_success (with_reducible show wpAny _ _ (pyIter _) _ _ _)); (fail_if_success (with_reducible show wpAny _ _ (call (Value.builtin "str.join") _ _) _ _ _)); (fail_if_success (with_reducible show wpAny _ _ (exec (Stmt.For _ _ _ _ _) _) _ _ _)); (fail_if_success (with_reducible show InvPostN _ _ _ _ _ _ _ _ _)); (fail_if_success (with_reducible show InvEndN _ _ _ _ _ _ _)); first | (first | ((with_reducible show wpAny _ _ (callWith _ _ _ _ _) _ _ _); refine append_arg ?_) | ((with_reducible show wpAny _ _ (eval (PySem.Expr.List (_ :: _) _) _) _ _ _); k_here; k_dflt (refine' list_lit ?F ?N ?he ?hn ?_; (case F => k_asm); (case N => k_asm); (case he => rfl); (case hn => decide +kernel)); intro ws l' h' tk' hw' F' N' l1; (try k_lt l1)) | ((with_reducible show wpAny _ _ (subscriptTail _ _ (Value.ref _) (Value.int _ _)) _ _ _); k_here; k_dflt (refine' item_lit ?N ?hm ?hs ?ha ?h0 ?hk ?hn ?_; (case N => k_asm); (case hm => k_mem); (case hs => assumption); (case ha => decide +kernel); (case h0 => assumption); (case hk => exact Int.lt_of_lt_of_le (by assumption) (by decide +kernel)); (case hn => decide +kernel)); intro y1 t1 hy1) | ((with_reducible show wpAny _ _ (subscriptTail _ _ (Value.str _ _) (Value.int _ _)) _ _ _); k_here; refine text_piece (by decide +kernel) (by decide +kernel) (by assumption) (by assumption) ?_; intro y1 t1 hy1) | ((with_reducible show wpAny _ _ (call (Value.type "str") [Value.int _ _]) _ _ _); k_here; refine str_piece (by assumption) (by assumption) ?_; intro y1 t1 hy1) | ((with_reducible show wpAny _ _ (call (Value.builtin "chr") [Value.int _ _]) _ _ _); k_here; refine chr_piece (by assumption) (by assumption) ?_; intro y1 t1 hy1)) | ((fail_if_success (with_reducible show wpAny _ _ (eval (PySem.Expr.List (_ :: _) _) _) _ _ _)); (fail_if_success (with_reducible show wpAny _ _ (subscriptTail _ _ _ _) _ _ _)); (fail_if_success (with_reducible show wpAny _ _ (call (Value.type "str") _) _ _ _)); (fail_if_success (with_reducible show wpAny _ _ (call (Value.builtin "chr") _ ) _ _ _)); (k_unfold; (try dsimp only))) | ((fail_if_success (with_reducible show wpAny _ _ (eval (PySem.Expr.List (_ :: _) _) _) _ _ _)); (fail_if_success (with_reducible show wpAny _ _ (subscriptTail _ _ _ _) _ _ _)); (fail_if_success (with_reducible show wpAny _ _ (call (Value.type "str") _) _ _ _)); walk1) | ((fail_if_success (with_reducible show wpAny _ _ (eval (PySem.Expr.List (_ :: _) _) _) _ _ _)); dsimp only; walk1)))
    all_goals refine join_at (by assumption) (.head _) hF (by decide +kernel) hjl hjw ?_
    all_goals (intro t9 k9; try dsimp only)
    all_goals (repeat' ((fail_if_success (with_reducible show wpAny _ _ (noteFrame _ _) _ _ _)); (fail_if_success (with_reducible show wpAny _ _ (pyIter _) _ _ _)); (fail_if_success (with_reducible show wpAny _ _ (call (Value.builtin "str.join") _ _) _ _ _)); (fail_if_success (with_reducible show wpAny _ _ (exec (Stmt.For _ _ _ _ _) _) _ _ _)); (fail_if_success (with_reducible show InvPostN _ _ _ _ _ _ _ _ _)); (fail_if_success (with_reducible show InvEndN _ _ _ _ _ _ _)); first | (first | ((with_reducible show wpAny _ _ (callWith _ _ _ _ _) _ _ _); refine append_arg ?_) | ((with_reducible show wpAny _ _ (eval (PySem.Expr.List (_ :: _) _) _) _ _ _); k_here; k_dflt (refine' list_lit ?F ?N ?he ?hn ?_; (case F => k_asm); (case N => k_asm); (case he => rfl); (case hn => decide +kernel)); intro ws l' h' tk' hw' F' N' l1; (try k_lt l1)) | ((with_reducible show wpAny _ _ (subscriptTail _ _ (Value.ref _) (Value.int _ _)) _ _ _); k_here; k_dflt (refine' item_lit ?N ?hm ?hs ?ha ?h0 ?hk ?hn ?_; (case N => k_asm); (case hm => k_mem); (case hs => assumption); (case ha => decide +kernel); (case h0 => assumption); (case hk => exact Int.lt_of_lt_of_le (by assumption) (by decide +kernel)); (case hn => decide +kernel)); intro y1 t1 hy1) | ((with_reducible show wpAny _ _ (subscriptTail _ _ (Value.str _ _) (Value.int _ _)) _ _ _); k_here; refine text_piece (by decide +kernel) (by decide +kernel) (by assumption) (by assumption) ?_; intro y1 t1 hy1) | ((with_reducible show wpAny _ _ (call (Value.type "str") [Value.int _ _]) _ _ _); k_here; refine str_piece (by assumption) (by assumption) ?_; intro y1 t1 hy1) | ((with_reducible show wpAny _ _ (call (Value.builtin "chr") [Value.int _ _]) _ _ _); k_here; refine chr_piece (by assumption) (by assumption) ?_; intro y1 t1 hy1)) | ((fail_if_success (with_reducible show wpAny _ _ (eval (PySem.Expr.List (_ :: _) _) _) _ _ _)); (fail_if_success (with_reducible show wpAny _ _ (subscriptTail _ _ _ _) _ _ _)); (fail_if_success (with_reducible show wpAny _ _ (call (Value.type "str") _) _ _ _)); (fail_if_success (with_reducible show wpAny _ _ (call (Value.builtin "chr") _ ) _ _ _)); (k_unfold; (try dsimp only))) | ((fail_if_success (with_reducible show wpAny _ _ (eval (PySem.Expr.List (_ :: _) _) _) _ _ _)); (fail_if_success (with_reducible show wpAny _ _ (subscriptTail _ _ _ _) _ _ _)); (fail_if_success (with_reducible show wpAny _ _ (call (Value.type "str") _) _ _ _)); walk1) | ((fail_if_success (with_reducible show wpAny _ _ (eval (PySem.Expr.List (_ :: _) _) _) _ _ _)); dsimp only; walk1)))
    all_goals obtain ⟨p1, p2⟩ := pieces_join hP.1 hnl hP.2
    · rename Fr _ _ _ _ => F9
      rename News _ _ _ _ => N9
      refine PyProof.Rows.add_str (fun t' tk' => ?_) ?_
      · exact hret _ _ _ _ _ F9.keep (N9.get (.tail _ (.head _))) p1 p2 (.inl rfl)
      · have e1 : (Str.ofString "2.07rc1").length = 7 := by decide +kernel
        rw [e1, sizeLine_eq]
        omega
    · rename Fr _ _ _ _ => F9
      rename News _ _ _ _ => N9
      refine PyProof.Rows.add_str (fun t' tk' => ?_) ?_
      · exact hret _ _ _ _ _ F9.keep (N9.get (.tail _ (.head _))) p1 p2 (.inr rfl)
      · have e1 : (Str.ofString "2.07rc1").length = 7 := by decide +kernel
        rw [e1, sizeLine_eq]
        omega
  case turn =>
    intro c pre post x t u h tk own hns' hxm hoff hF hP F1 N1
    obtain ⟨us, k, ps⟩ := c
    obtain ⟨hP1, hP2⟩ := id hP
    dsimp only [List.cons_append, List.nil_append] at hF N1 hP1 hP2 hoff
    have hvl : us.length ≤ 1000 := by
      rw [hF.length]
      have : pre.length ≤ ns.length := by rw [hns']; simp
      omega
    have ne : ∀ {a b : Int}, a ≠ b → (a == b) = false := fun h => by simpa using h
    have eq : ∀ {a b : Int}, a = b → (a == b) = true := fun h => by simpa using h
    have bd : ∀ b : Int, 0 < b → 0 ≤ x.fmod b ∧ x.fmod b < b ∧ 0 ≤ (x.fdiv 16).fmod b ∧ (x.fdiv 16).fmod b < b := fun b hb => ⟨Int.fmod_nonneg_of_pos _ hb, Int.fmod_lt_of_pos _ hb, Int.fmod_nonneg_of_pos _ hb, Int.fmod_lt_of_pos _ hb⟩
    obtain ⟨b0, b1, -, -⟩ := bd 16 (by decide)
    by_cases e2 : x.fmod 16 = 2
    · have f2 := eq e2
      obtain ⟨-, -, c0, c1⟩ := bd 1000 (by decide)
      clear bd
      (repeat' ((fail_if_success (with_reducible show wpAny _ _ (noteFrame _ _) _ _ _)); (fail_if_success (with_reducible show wpAny _ _ (pyIter _) _ _ _)); (fail_if_success (with_reducible show wpAny _ _ (call (Value.builtin "str.join") _ _) _ _ _)); (fail_if_success (with_reducible show wpAny _ _ (exec (Stmt.For _ _ _ _ _) _) _ _ _)); (fail_if_success (with_reducible show InvPostN _ _ _ _ _ _ _ _ _)); (fail_if_success (with_reducible show InvEndN _ _ _ _ _ _ _)); first | (first | ((with_reducible show wpAny _ _ (callWith _ _ _ _ _) _ _ _); refine append_arg ?_) | ((with_reducible show wpAny _ _ (eval (PySem.Expr.List (_ :: _) _) _) _ _ _); k_here; k_dflt (refine' list_lit ?F ?N ?he ?hn ?_; (case F => k_asm); (case N => k_asm); (case he => rfl); (case hn => decide +kernel)); intro ws l' h' tk' hw' F' N' l1; (try k_lt l1)) | ((with_reducible show wpAny _ _ (subscriptTail _ _ (Value.ref _) (Value.int _ _)) _ _ _); k_here; k_dflt (refine' item_lit ?N ?hm ?hs ?ha ?h0 ?hk ?hn ?_; (case N => k_asm); (case hm => k_mem); (case hs => assumption); (case ha => decide +kernel); (case h0 => assumption); (case hk => exact Int.lt_of_lt_of_le (by assumption) (by decide +kernel)); (case hn => decide +kernel)); intro y1 t1 hy1) | ((with_reducible show wpAny _ _ (subscriptTail _ _ (Value.str _ _) (Value.int _ _)) _ _ _); k_here; refine text_piece (by decide +kernel) (by decide +kernel) (by assumption) (by assumption) ?_; intro y1 t1 hy1) | ((with_reducible show wpAny _ _ (call (Value.type "str") [Value.int _ _]) _ _ _); k_here; refine str_piece (by assumption) (by assumption) ?_; intro y1 t1 hy1) | ((with_reducible show wpAny _ _ (call (Value.builtin "chr") [Value.int _ _]) _ _ _); k_here; refine chr_piece (by assumption) (by assumption) ?_; intro y1 t1 hy1)) | ((fail_if_success (with_reducible show wpAny _ _ (eval (PySem.Expr.List (_ :: _) _) _) _ _ _)); (fail_if_success (with_reducible show wpAny _ _ (subscriptTail _ _ _ _) _ _ _)); (fail_if_success (with_reducible show wpAny _ _ (call (Value.type "str") _) _ _ _)); (fail_if_success (with_reducible show wpAny _ _ (call (Value.builtin "chr") _ ) _ _ _)); (k_unfold; (try dsimp only))) | ((fail_if_success (with_reducible show wpAny _ _ (eval (PySem.Expr.List (_ :: _) _) _) _ _ _)); (fail_if_success (with_reducible show wpAny _ _ (subscriptTail _ _ _ _) _ _ _)); (fail_if_success (with_reducible show wpAny _ _ (call (Value.type "str") _) _ _ _)); walk1) | ((fail_if_success (with_reducible show wpAny _ _ (eval (PySem.Expr.List (_ :: _) _) _) _ _ _)); dsimp only; walk1)))
      rename PieceOk _ => hy
      rename Fr _ _ _ _ => F9
      rename News _ _ _ _ => N9
      exact vr_end hy F9 N9 (by first | exact .head _ | exact .tail _ (.head _)) (by first | exact .tail _ (.head _) | exact .tail _ (.tail _ (.head _))) (by intro p hp; first | exact .tail _ (.tail _ hp) | exact .tail _ (.tail _ (.tail _ hp))) hF ⟨hP1, hP2⟩
    have f2 := ne e2
    by_cases e3 : x.fmod 16 = 13
    · have f3 := eq e3
      obtain ⟨-, -, c0, c1⟩ := bd 4 (by decide)
      clear bd
      (repeat' ((fail_if_success (with_reducible show wpAny _ _ (noteFrame _ _) _ _ _)); (fail_if_success (with_reducible show wpAny _ _ (pyIter _) _ _ _)); (fail_if_success (with_reducible show wpAny _ _ (call (Value.builtin "str.join") _ _) _ _ _)); (fail_if_success (with_reducible show wpAny _ _ (exec (Stmt.For _ _ _ _ _) _) _ _ _)); (fail_if_success (with_reducible show InvPostN _ _ _ _ _ _ _ _ _)); (fail_if_success (with_reducible show InvEndN _ _ _ _ _ _ _)); first | (first | ((with_reducible show wpAny _ _ (callWith _ _ _ _ _) _ _ _); refine append_arg ?_) | ((with_reducible show wpAny _ _ (eval (PySem.Expr.List (_ :: _) _) _) _ _ _); k_here; k_dflt (refine' list_lit ?F ?N ?he ?hn ?_; (case F => k_asm); (case N => k_asm); (case he => rfl); (case hn => decide +kernel)); intro ws l' h' tk' hw' F' N' l1; (try k_lt l1)) | ((with_reducible show wpAny _ _ (subscriptTail _ _ (Value.ref _) (Value.int _ _)) _ _ _); k_here; k_dflt (refine' item_lit ?N ?hm ?hs ?ha ?h0 ?hk ?hn ?_; (case N => k_asm); (case hm => k_mem); (case hs => assumption); (case ha => decide +kernel); (case h0 => assumption); (case hk => exact Int.lt_of_lt_of_le (by assumption) (by decide +kernel)); (case hn => decide +kernel)); intro y1 t1 hy1) | ((with_reducible show wpAny _ _ (subscriptTail _ _ (Value.str _ _) (Value.int _ _)) _ _ _); k_here; refine text_piece (by decide +kernel) (by decide +kernel) (by assumption) (by assumption) ?_; intro y1 t1 hy1) | ((with_reducible show wpAny _ _ (call (Value.type "str") [Value.int _ _]) _ _ _); k_here; refine str_piece (by assumption) (by assumption) ?_; intro y1 t1 hy1) | ((with_reducible show wpAny _ _ (call (Value.builtin "chr") [Value.int _ _]) _ _ _); k_here; refine chr_piece (by assumption) (by assumption) ?_; intro y1 t1 hy1)) | ((fail_if_success (with_reducible show wpAny _ _ (eval (PySem.Expr.List (_ :: _) _) _) _ _ _)); (fail_if_success (with_reducible show wpAny _ _ (subscriptTail _ _ _ _) _ _ _)); (fail_if_success (with_reducible show wpAny _ _ (call (Value.type "str") _) _ _ _)); (fail_if_success (with_reducible show wpAny _ _ (call (Value.builtin "chr") _ ) _ _ _)); (k_unfold; (try dsimp only))) | ((fail_if_success (with_reducible show wpAny _ _ (eval (PySem.Expr.List (_ :: _) _) _) _ _ _)); (fail_if_success (with_reducible show wpAny _ _ (subscriptTail _ _ _ _) _ _ _)); (fail_if_success (with_reducible show wpAny _ _ (call (Value.type "str") _) _ _ _)); walk1) | ((fail_if_success (with_reducible show wpAny _ _ (eval (PySem.Expr.List (_ :: _) _) _) _ _ _)); dsimp only; walk1)))
      rename PieceOk _ => hy
      rename Fr _ _ _ _ => F9
      rename News _ _ _ _ => N9
      exact vr_end hy F9 N9 (by first | exact .head _ | exact .tail _ (.head _)) (by first | exact .tail _ (.head _) | exact .tail _ (.tail _ (.head _))) (by intro p hp; first | exact .tail _ (.tail _ hp) | exact .tail _ (.tail _ (.tail _ hp))) hF ⟨hP1, hP2⟩
    have f3 := ne e3
    by_cases e4 : x.fmod 16 = 14
    · have f4 := eq e4
      obtain ⟨-, -, c0, c1⟩ := bd 8 (by decide)
      clear bd
      (repeat' ((fail_if_success (with_reducible show wpAny _ _ (noteFrame _ _) _ _ _)); (fail_if_success (with_reducible show wpAny _ _ (pyIter _) _ _ _)); (fail_if_success (with_reducible show wpAny _ _ (call (Value.builtin "str.join") _ _) _ _ _)); (fail_if_success (with_reducible show wpAny _ _ (exec (Stmt.For _ _ _ _ _) _) _ _ _)); (fail_if_success (with_reducible show InvPostN _ _ _ _ _ _ _ _ _)); (fail_if_success (with_reducible show InvEndN _ _ _ _ _ _ _)); first | (first | ((with_reducible show wpAny _ _ (callWith _ _ _ _ _) _ _ _); refine append_arg ?_) | ((with_reducible show wpAny _ _ (eval (PySem.Expr.List (_ :: _) _) _) _ _ _); k_here; k_dflt (refine' list_lit ?F ?N ?he ?hn ?_; (case F => k_asm); (case N => k_asm); (case he => rfl); (case hn => decide +kernel)); intro ws l' h' tk' hw' F' N' l1; (try k_lt l1)) | ((with_reducible show wpAny _ _ (subscriptTail _ _ (Value.ref _) (Value.int _ _)) _ _ _); k_here; k_dflt (refine' item_lit ?N ?hm ?hs ?ha ?h0 ?hk ?hn ?_; (case N => k_asm); (case hm => k_mem); (case hs => assumption); (case ha => decide +kernel); (case h0 => assumption); (case hk => exact Int.lt_of_lt_of_le (by assumption) (by decide +kernel)); (case hn => decide +kernel)); intro y1 t1 hy1) | ((with_reducible show wpAny _ _ (subscriptTail _ _ (Value.str _ _) (Value.int _ _)) _ _ _); k_here; refine text_piece (by decide +kernel) (by decide +kernel) (by assumption) (by assumption) ?_; intro y1 t1 hy1) | ((with_reducible show wpAny _ _ (call (Value.type "str") [Value.int _ _]) _ _ _); k_here; refine str_piece (by assumption) (by assumption) ?_; intro y1 t1 hy1) | ((with_reducible show wpAny _ _ (call (Value.builtin "chr") [Value.int _ _]) _ _ _); k_here; refine chr_piece (by assumption) (by assumption) ?_; intro y1 t1 hy1)) | ((fail_if_success (with_reducible show wpAny _ _ (eval (PySem.Expr.List (_ :: _) _) _) _ _ _)); (fail_if_success (with_reducible show wpAny _ _ (subscriptTail _ _ _ _) _ _ _)); (fail_if_success (with_reducible show wpAny _ _ (call (Value.type "str") _) _ _ _)); (fail_if_success (with_reducible show wpAny _ _ (call (Value.builtin "chr") _ ) _ _ _)); (k_unfold; (try dsimp only))) | ((fail_if_success (with_reducible show wpAny _ _ (eval (PySem.Expr.List (_ :: _) _) _) _ _ _)); (fail_if_success (with_reducible show wpAny _ _ (subscriptTail _ _ _ _) _ _ _)); (fail_if_success (with_reducible show wpAny _ _ (call (Value.type "str") _) _ _ _)); walk1) | ((fail_if_success (with_reducible show wpAny _ _ (eval (PySem.Expr.List (_ :: _) _) _) _ _ _)); dsimp only; walk1)))
      rename PieceOk _ => hy
      rename Fr _ _ _ _ => F9
      rename News _ _ _ _ => N9
      exact vr_end hy F9 N9 (by first | exact .head _ | exact .tail _ (.head _)) (by first | exact .tail _ (.head _) | exact .tail _ (.tail _ (.head _))) (by intro p hp; first | exact .tail _ (.tail _ hp) | exact .tail _ (.tail _ (.tail _ hp))) hF ⟨hP1, hP2⟩
    have f4 := ne e4
    by_cases e5 : x.fmod 16 = 15
    · have f5 := eq e5
      obtain ⟨-, -, c0, c1⟩ := bd 128 (by decide)
      clear bd
      (repeat' ((fail_if_success (with_reducible show wpAny _ _ (noteFrame _ _) _ _ _)); (fail_if_success (with_reducible show wpAny _ _ (pyIter _) _ _ _)); (fail_if_success (with_reducible show wpAny _ _ (call (Value.builtin "str.join") _ _) _ _ _)); (fail_if_success (with_reducible show wpAny _ _ (exec (Stmt.For _ _ _ _ _) _) _ _ _)); (fail_if_success (with_reducible show InvPostN _ _ _ _ _ _ _ _ _)); (fail_if_success (with_reducible show InvEndN _ _ _ _ _ _ _)); first | (first | ((with_reducible show wpAny _ _ (callWith _ _ _ _ _) _ _ _); refine append_arg ?_) | ((with_reducible show wpAny _ _ (eval (PySem.Expr.List (_ :: _) _) _) _ _ _); k_here; k_dflt (refine' list_lit ?F ?N ?he ?hn ?_; (case F => k_asm); (case N => k_asm); (case he => rfl); (case hn => decide +kernel)); intro ws l' h' tk' hw' F' N' l1; (try k_lt l1)) | ((with_reducible show wpAny _ _ (subscriptTail _ _ (Value.ref _) (Value.int _ _)) _ _ _); k_here; k_dflt (refine' item_lit ?N ?hm ?hs ?ha ?h0 ?hk ?hn ?_; (case N => k_asm); (case hm => k_mem); (case hs => assumption); (case ha => decide +kernel); (case h0 => assumption); (case hk => exact Int.lt_of_lt_of_le (by assumption) (by decide +kernel)); (case hn => decide +kernel)); intro y1 t1 hy1) | ((with_reducible show wpAny _ _ (subscriptTail _ _ (Value.str _ _) (Value.int _ _)) _ _ _); k_here; refine text_piece (by decide +kernel) (by decide +kernel) (by assumption) (by assumption) ?_; intro y1 t1 hy1) | ((with_reducible show wpAny _ _ (call (Value.type "str") [Value.int _ _]) _ _ _); k_here; refine str_piece (by assumption) (by assumption) ?_; intro y1 t1 hy1) | ((with_reducible show wpAny _ _ (call (Value.builtin "chr") [Value.int _ _]) _ _ _); k_here; refine chr_piece (by assumption) (by assumption) ?_; intro y1 t1 hy1)) | ((fail_if_success (with_reducible show wpAny _ _ (eval (PySem.Expr.List (_ :: _) _) _) _ _ _)); (fail_if_success (with_reducible show wpAny _ _ (subscriptTail _ _ _ _) _ _ _)); (fail_if_success (with_reducible show wpAny _ _ (call (Value.type "str") _) _ _ _)); (fail_if_success (with_reducible show wpAny _ _ (call (Value.builtin "chr") _ ) _ _ _)); (k_unfold; (try dsimp only))) | ((fail_if_success (with_reducible show wpAny _ _ (eval (PySem.Expr.List (_ :: _) _) _) _ _ _)); (fail_if_success (with_reducible show wpAny _ _ (subscriptTail _ _ _ _) _ _ _)); (fail_if_success (with_reducible show wpAny _ _ (call (Value.type "str") _) _ _ _)); walk1) | ((fail_if_success (with_reducible show wpAny _ _ (eval (PySem.Expr.List (_ :: _) _) _) _ _ _)); dsimp only; walk1)))
      rename PieceOk _ => hy
      rename Fr _ _ _ _ => F9
      rename News _ _ _ _ => N9
      exact vr_end hy F9 N9 (by first | exact .head _ | exact .tail _ (.head _)) (by first | exact .tail _ (.head _) | exact .tail _ (.tail _ (.head _))) (by intro p hp; first | exact .tail _ (.tail _ hp) | exact .tail _ (.tail _ (.tail _ hp))) hF ⟨hP1, hP2⟩
    have f5 := ne e5
    clear bd
    have c0 := b0
    have c1 : x.fmod 16 < 13 := by omega
    (repeat' ((fail_if_success (with_reducible show wpAny _ _ (noteFrame _ _) _ _ _)); (fail_if_success (with_reducible show wpAny _ _ (pyIter _) _ _ _)); (fail_if_success (with_reducible show wpAny _ _ (call (Value.builtin "str.join") _ _) _ _ _)); (fail_if_success (with_reducible show wpAny _ _ (exec (Stmt.For _ _ _ _ _) _) _ _ _)); (fail_if_success (with_reducible show InvPostN _ _ _ _ _ _ _ _ _)); (fail_if_success (with_reducible show InvEndN _ _ _ _ _ _ _)); first | (first | ((with_reducible show wpAny _ _ (callWith _ _ _ _ _) _ _ _); refine append_arg ?_) | ((with_reducible show wpAny _ _ (eval (PySem.Expr.List (_ :: _) _) _) _ _ _); k_here; k_dflt (refine' list_lit ?F ?N ?he ?hn ?_; (case F => k_asm); (case N => k_asm); (case he => rfl); (case hn => decide +kernel)); intro ws l' h' tk' hw' F' N' l1; (try k_lt l1)) | ((with_reducible show wpAny _ _ (subscriptTail _ _ (Value.ref _) (Value.int _ _)) _ _ _); k_here; k_dflt (refine' item_lit ?N ?hm ?hs ?ha ?h0 ?hk ?hn ?_; (case N => k_asm); (case hm => k_mem); (case hs => assumption); (case ha => decide +kernel); (case h0 => assumption); (case hk => exact Int.lt_of_lt_of_le (by assumption) (by decide +kernel)); (case hn => decide +kernel)); intro y1 t1 hy1) | ((with_reducible show wpAny _ _ (subscriptTail _ _ (Value.str _ _) (Value.int _ _)) _ _ _); k_here; refine text_piece (by decide +kernel) (by decide +kernel) (by assumption) (by assumption) ?_; intro y1 t1 hy1) | ((with_reducible show wpAny _ _ (call (Value.type "str") [Value.int _ _]) _ _ _); k_here; refine str_piece (by assumption) (by assumption) ?_; intro y1 t1 hy1) | ((with_reducible show wpAny _ _ (call (Value.builtin "chr") [Value.int _ _]) _ _ _); k_here; refine chr_piece (by assumption) (by assumption) ?_; intro y1 t1 hy1)) | ((fail_if_success (with_reducible show wpAny _ _ (eval (PySem.Expr.List (_ :: _) _) _) _ _ _)); (fail_if_success (with_reducible show wpAny _ _ (subscriptTail _ _ _ _) _ _ _)); (fail_if_success (with_reducible show wpAny _ _ (call (Value.type "str") _) _ _ _)); (fail_if_success (with_reducible show wpAny _ _ (call (Value.builtin "chr") _ ) _ _ _)); (k_unfold; (try dsimp only))) | ((fail_if_success (with_reducible show wpAny _ _ (eval (PySem.Expr.List (_ :: _) _) _) _ _ _)); (fail_if_success (with_reducible show wpAny _ _ (subscriptTail _ _ _ _) _ _ _)); (fail_if_success (with_reducible show wpAny _ _ (call (Value.type "str") _) _ _ _)); walk1) | ((fail_if_success (with_reducible show wpAny _ _ (eval (PySem.Expr.List (_ :: _) _) _) _ _ _)); dsimp only; walk1)))
    rename PieceOk _ => hy
    rename Fr _ _ _ _ => F9
    rename News _ _ _ _ => N9
    exact vr_end hy F9 N9 (by first | exact .head _ | exact .tail _ (.head _)) (by first | exact .tail _ (.head _) | exact .tail _ (.tail _ (.head _))) (by intro p hp; first | exact .tail _ (.tail _ hp) | exact .tail _ (.tail _ (.tail _ hp))) hF ⟨hP1, hP2⟩
end Mine
end
section
open PySem PySem.W PySem.W.X PyProof.Rows PySem.Calls
set_option maxRecDepth 100000
set_option maxHeartbeats 8000000
namespace Mine
theorem it_spec {w : World} {mean : ExcName → Option Value} {mg mb : Str → Option Value} {dp un : Nat} {gd : Option (List Code)} {outer : List Env} {base : Heap} {s : Shared} {Q E : Value → Shared → Prop} {x : Addr}
    (B : Below (actx dp un gd outer) base outer s.heap) (X : (K2 w.params).In s.heap) (T : Top q1 loose1 mean mg mb s.heap) (hd : dp + 5 < recursionLimit) (hu : un + 40 < cLine)
    (hret : ∀ h' tk', (∀ b o, s.heap.get? b = some o → h'.get? b = some o) → Q (.ref x) { s with heap := h', toks := tk' }) :
    wpAny (model pw w) (actx dp un gd outer) (call (.ref 738) [.ref x]) Q E s := by
  have hfill : PySem.Challenge.rw_ox0114_01 = PySem.Challenge.rw_ox0114_01 ∧ K2 = K2 := by
    k_fill
    exact ⟨rfl, rfl⟩
  clear hfill
  k_dflt (refine' enterP (args := ⟨[.ref x], []⟩) (binds := [(Str.ofString "self", .ref x)]) B X T ?k6 ?k7 ?k8 ?k9 ?kB ?_ ?c2 ?c3 ?c4 ?c5; (case k6 => k_is); (case k7 => k_is); (case k8 => (dsimp only; omega)); (case k9 => exact BindsTo.of_eq rfl); (case c5 => decide); (case kB => exact locs rfl); (case c2 => exact rfl); (case c3 => exact rfl); (case c4 => exact rfl); k_whole)
  intro g' L' h' hg F' N' B' X' T'
  (try dsimp only); (try k_fold)
  k_steps
  subst hg
  exact hret _ _ (Fr.keep (by assumption))
section
variable {w : World} {mean : ExcName → Option Value} {mg mb : Str → Option Value} {dp un : Nat} {gd : Option (List Code)} {outer : List PySem.Env} {env : PySem.Env} {A₀ : Around} {base h₀ : Heap} {L : Addr} {m : Str → Option Value} {T : LexT} {x dx y dy d1 d2 d3 : Addr} {b : Bool} {ev : Value} {wc buf : Str} {k1 k2 k3 t1 t2 : Tok} {rest : List (Addr × Obj)}
theorem it_at {Q E : Value → Shared → Prop} {s : Shared} {news : List (Addr × Obj)}
    (B : Below A₀ base outer h₀) (Fm : Fr h₀ L s.heap m) (N : News h₀ L s.heap news) (X : (K2 w.params).In h₀) (Tp : Top q1 loose1 mean mg mb h₀) (hf : env.frame = some L) (hke : env.scope.kind = .function) (hd : dp + 5 < recursionLimit) (hu : un + 40 < cLine)
    (hret : ∀ h' tk', Fr h₀ L h' m → News h₀ L h' news → (∀ z o, s.heap.get? z = some o → h'.get? z = some o) → Q (.ref x) { s with heap := h', toks := tk' }) : wpAny (model pw w) (actx dp un gd (env :: outer)) (call (.ref 738) [.ref x]) Q E s := by
  obtain ⟨B', X', T', _, _⟩ := siteM (rest := news) (led := []) (A := actx dp un gd (env :: outer)) B Fm N X Tp rfl hf hke (fun p _ hm => nomatch hm)
  exact it_spec B' X' T' hd hu fun h' tk' hk => hret h' tk' (Fm.keeps hk) (N.grown hk) hk
theorem list_at {Q E : Value → Shared → Prop} {s : Shared} {c₀ : RtSt} {due : List Str}
    (B : Below A₀ base outer h₀) (Fm : Fr h₀ L s.heap m) (N : News h₀ L s.heap (ledG w.params T x dx y dy d1 d2 d3 b ev wc buf k1 k2 k3 t1 t2 c₀ ++ rest)) (X : (K2 w.params).In h₀) (Tp : Top q1 loose1 mean mg mb h₀) (hf : env.frame = some L) (hke : env.scope.kind = .function)
    (hap : ∀ p ∈ rest, p.1 ∉ ledA x dx y dy d1 d2 d3) (hd : dp + 90 < recursionLimit) (hu : un + 1100 < cLine) (hlen : buf.length ≤ 100)
    (o1 : dx < x) (o2 : x < dy) (o3 : dy < y) (o4 : y < d1) (o5 : d1 < d2) (o6 : d2 < d3) (hwc : ∀ c, kd c = sFigure → inS wc ⟨#[c]⟩ = false) (hP : RtP buf due c₀) (hdl : due.length ≤ 200) (hev : evIs b ev)
    (hret : ∀ S acc n h' tk', StrsAre acc due → KeepF (env :: outer) (hideAll s.heap (ledA x dx y dy d1 d2 d3)) h' → h'.get? S = some (listOf acc.toArray n) → s.heap.get? S = none → Q (.ref S) { s with heap := h', toks := tk' }) :
    wpAny (model pw w) (actx dp un gd (env :: outer)) (call (.type "list") [.ref x]) Q E s := by
  refine callType_codes (Q₁ := fun obj s₁ => obj = .ref s.heap.objs.size ∧ s₁ = { s with heap := s.heap.push { cls := .type "list", data := .seq #[] } }) F.called_list (F.typeCall_list_1 _) F.entry_list_init
    (code_list_new _ ⟨rfl, rfl⟩) fun obj s₁ h₁ => ?_
  obtain ⟨rfl, rfl⟩ := h₁
  obtain ⟨S, hSz⟩ : ∃ S, S = s.heap.objs.size := ⟨_, rfl⟩
  rw [← hSz]
  have hS : (s.heap.push { cls := .type "list", data := .seq #[] }).get? S = some { cls := .type "list", data := .seq #[] } := by rw [hSz]; exact Heap.get?_push_size _ rfl
  refine ⟨⟨_, hS, rfl⟩, F.args_list_init_2 _ _, ?_⟩
  show wpAny _ _ (do let old ← Builtin.List.listItems (.ref S); Builtin.List.listUpdate (.ref S) (fun _ => #[]); letGo old.toList.reverse; Builtin.List.listExtendWith (.ref S) (.ref x) .none) _ _ _
  refine wpAny_bind ?_
  unfold Builtin.List.listItems
  refine wpAny_bind (wpAny_seqItems hS rfl (wpAny_pure ?_))
  show wpAny _ _ (updateSeq S (fun _ => #[]) >>= fun _ => letGo (#[] : Array Value).toList.reverse >>= fun _ => Builtin.List.listExtendWith (.ref S) (.ref x) .none) _ _ _
  refine wpAny_bind (wpAny_updateSeq hS rfl ?_)
  refine wpAny_bind (wpAny_letGo ?_)
  have hSnew : ∀ p ∈ (ledG w.params T x dx y dy d1 d2 d3 b ev wc buf k1 k2 k3 t1 t2 c₀ ++ rest), p.1 ≠ S := fun p hp => by rw [hSz]; exact Nat.ne_of_lt (Heap.lt_size (N p hp).1)
  have N1 := N.push Fm { cls := .type "list", data := .seq #[] }
  have F1 := Fm.push { cls := .type "list", data := .seq #[] }
  rw [← hSz] at N1
  obtain ⟨F2, N2⟩ := news_upd (pre := []) (f := Obj.mapSeq (fun _ => (#[] : Array Value))) F1 N1 (fun _ h => nomatch h) hSnew (o' := listOf ([] : List Value).toArray 0) rfl rfl
  have N3 : News h₀ L ((s.heap.push { cls := .type "list", data := .seq #[] }).update S (Obj.mapSeq (fun _ => (#[] : Array Value)))) (ledG w.params T x dx y dy d1 d2 d3 b ev wc buf k1 k2 k3 t1 t2 c₀ ++ (S, listOf ([] : List Value).toArray 0) :: rest) := fun p hp => N2 p (by
    rcases List.mem_append.mp hp with hp | hp
    · exact .tail _ (List.mem_append_left _ hp)
    · rcases List.mem_cons.mp hp with rfl | hp
      · exact .head _
      · exact .tail _ (List.mem_append_right _ hp))
  have hkeep0 : ∀ z o, s.heap.get? z = some o → ((s.heap.push { cls := .type "list", data := .seq #[] }).update S (Obj.mapSeq (fun _ => (#[] : Array Value)))).get? z = some o := fun z o e =>
    (Heap.get?_update_ne _ _ _ _ fun q => by rw [q, hSz] at e; exact absurd (Heap.lt_size e) (Nat.lt_irrefl _)).trans (Heap.get?_push_of_some _ e)
  generalize (s.heap.push { cls := .type "list", data := .seq #[] }).update S (Obj.mapSeq (fun _ => (#[] : Array Value))) = hA at F2 N3 hkeep0 ⊢
  have I := InstAt.of_news N3 (List.Mem.tail _ (List.Mem.tail _ (List.Mem.head _))) (List.Mem.tail _ (List.Mem.tail _ (List.Mem.tail _ (List.Mem.head _))))
  have hSx : S ≠ x := fun e => hSnew _ (.tail _ (.tail _ (.head _))) e.symm
  unfold Builtin.List.listExtendWith
  refine wpAny_bind (I.type.here ?_)
  have h1 : Builtin.List.listSameRef (.ref S) (.ref x) = false := by simp [Builtin.List.listSameRef, hSx]
  simp only [h1, show (Value.ref 748 == Value.type "list") = false by decide, show (Value.ref 748 == Value.type "tuple") = false by decide, Bool.or_false, Bool.false_eq_true, if_false]
  refine wpAny_bind (owit_iter (K := K2 w.params) (f := 738) F2 X I (by kernel_rfl) (by kernel_rfl) ?_)
  refine it_at (dp := dp) (gd := gd) (outer := outer) (env := env) B F2 N3 X Tp hf hke (by omega) (by show un + 1 + 1 + 40 < cLine; omega) fun hB tkB F4 N4 hk4 => ?_
  have I4 := InstAt.of_news N4 (List.Mem.tail _ (List.Mem.tail _ (List.Mem.head _))) (List.Mem.tail _ (List.Mem.tail _ (List.Mem.tail _ (List.Mem.head _))))
  refine owit_it F4 X I4 (g := .ref 745) (by kernel_rfl) ?_
  refine wpAny_bind (wpAny_holding ?_)
  unfold Builtin.List.listLengthHint
  refine wpAny_bind (m := specialOf _ _) (wpAny_bind (I4.type.here ((looks_findIn (r := none) (X.keeps F4.keep) (by kernel_rfl)).here ?_)))
  show wpAny _ _ (specialOf (Value.ref x) (Str.ofString "__length_hint__") >>= _) _ _ _
  refine wpAny_bind (m := specialOf _ _) (wpAny_bind (I4.type.here ((looks_findIn (r := none) (X.keeps F4.keep) (by kernel_rfl)).here ?_)))
  refine wpAny_pure ?_
  rw [if_pos (by rfl)]
  refine wpAny_bind (wpAny_rule ?_)
  refine wpAny_bind ?_
  show wpAny _ _ (updateSeq S (·.push .none) >>= fun _ => updateSeq S (·.pop)) _ _ _
  have hSA : S ∉ ledA x dx y dy d1 d2 d3 := fun hm => by
    have key : ∀ z ∈ ledA x dx y dy d1 d2 d3, ∃ o, (z, o) ∈ (ledG w.params T x dx y dy d1 d2 d3 b ev wc buf k1 k2 k3 t1 t2 c₀ ++ rest) := by
      intro z hz
      simp only [List.mem_cons, List.not_mem_nil, or_false] at hz
      rcases hz with rfl | rfl | rfl | rfl | rfl | rfl | rfl
      · exact ⟨_, .head _⟩
      · exact ⟨_, .tail _ (.head _)⟩
      · exact ⟨_, .tail _ (.tail _ (.head _))⟩
      · exact ⟨_, .tail _ (.tail _ (.tail _ (.head _)))⟩
      · exact ⟨_, .tail _ (.tail _ (.tail _ (.tail _ (.head _))))⟩
      · exact ⟨_, .tail _ (.tail _ (.tail _ (.tail _ (.tail _ (.head _)))))⟩
      · exact ⟨_, .tail _ (.tail _ (.tail _ (.tail _ (.tail _ (.tail _ (.head _))))))⟩
    obtain ⟨o, ho⟩ := key S hm
    exact hSnew _ ho rfl
  have hpre : ∀ p ∈ ledG w.params T x dx y dy d1 d2 d3 b ev wc buf k1 k2 k3 t1 t2 c₀, p.1 ≠ S := fun p hp => hSnew p (List.mem_append_left _ hp)
  have hpost : ∀ p ∈ rest, p.1 ≠ S := fun p hp => hSnew p (List.mem_append_right _ hp)
  obtain ⟨F5, N5⟩ := news_upd (f := Obj.mapSeq (·.push Value.none)) F4 N4 hpre hpost (o' := listOf #[Value.none] 1) rfl rfl
  obtain ⟨F6, N6⟩ := news_upd (f := Obj.mapSeq (·.pop)) F5 N5 hpre hpost (o' := listOf ([] : List Value).toArray 2) rfl rfl
  refine wpAny_bind (wpAny_updateSeq (N4 _ (List.mem_append_right _ (.head _))).1 rfl ?_)
  refine wpAny_updateSeq (N5 _ (List.mem_append_right _ (.head _))).1 rfl ?_
  refine wpAny_pure ⟨plainId_quiet plain_el _, lx_loop (dp := dp) (un := un + 1) (gd := gd) (outer := outer) (env := env) B X Tp hf hke hap hSA (fun p hp => hSnew p (List.mem_append_right _ hp)) (by omega) (by omega) hlen o1 o2 o3 o4 o5 o6 hwc hev _ due c₀ _ [] 2 [] rfl hP F6 N6 .nil (by simp; omega) ?_⟩
  intro acc n h' tk' ha hkf hSh
  have hSn : s.heap.get? S = none := by
    cases e : s.heap.get? S with
    | none => rfl
    | some o => have := Heap.lt_size e; rw [hSz] at this; exact absurd this (Nat.lt_irrefl _)
  refine ⟨rfl, hret S acc n h' tk' (by simpa using ha) (KeepF.trans (KeepF.of_keeps fun z o e => ?_) hkf) hSh hSn⟩
  have hz := of_hideAll _ e
  have hzS : S ≠ z := fun q => by
    rw [← q, hSn] at hz
    cases hz
  refine hideAll_get _ ((Heap.get?_update_ne _ _ _ _ hzS.symm).trans ((Heap.get?_update_ne _ _ _ _ hzS.symm).trans (hk4 z o (hkeep0 z o hz)))) fun hm => ?_
  rcases List.mem_cons.mp hm with rfl | hm
  · rw [hSn] at hz
    cases hz
  · exact hide_not e hm
end
end Mine
end
section
open PySem PySem.W PySem.W.X PyProof.Rows PySem.Calls Builtin
set_option maxRecDepth 100000
set_option maxHeartbeats 4000000
namespace Mine
noncomputable abbrev fkB : Obj := { cls := .type "builtin_function_or_method", data := .fields #[.builtin "dict.fromkeys", .type "dict"] }
namespace DF
theorem ty_fk : typeOf (.builtin "dict.fromkeys") = pure (.type "classmethod_descriptor") := by show builtinType _ = _; rw [builtinType_eq_fast]; kernel_rfl
theorem fk_get : Builtin.«classmethod_descriptor.__get__» ⟨[.builtin "dict.fromkeys", .none, .type "dict"], []⟩ = (alloc fkB >>= fun a => ret (.ref a)) := by kernel_rfl
theorem e_fk : entryFor table "dict.fromkeys" = some Builtin.«dict.fromkeys» := entryFor_of_tree (by kernel_rfl)
theorem e_fkl : entryFor table "dict.fromkeys.loop" = some Builtin.«dict.fromkeys.loop» := entryFor_of_tree (by kernel_rfl)
theorem q_fk {as : Args} : (Code.builtin "dict.fromkeys" as).quiet = true := Code.quiet_builtin _ (by decide +kernel)
theorem q_fkl {as : Args} : (Code.builtin "dict.fromkeys.loop" as).quiet = true := Code.quiet_builtin _ (by decide +kernel)
theorem c_fk {x : Str} {t : Tok} : checkBoundCall "dict.fromkeys" ⟨[.type "dict", .str x t], []⟩ = pure () := by kernel_rfl
end DF
section
variable {prog : Program} {w : World} {M : Model} {A : Around} {E : Value → Shared → Prop} {s : Shared} {K : Frag} {h₀ : Heap} {L : Addr} {m : PySem.Str → Option Value} {news : List (Addr × Obj)}
theorem fk_method {pl : Sem Bool} {Q : Value × List Value → Shared → Prop} (F : Fr h₀ L s.heap m) (N : News h₀ L s.heap news) (X₀ : K.In h₀)
    (e : findCls K (.type "dict") (.type "type") (PySem.Str.ofString "fromkeys") = some (.get (.builtin "classmethod_descriptor.__get__") (.builtin "dict.fromkeys") .none (.type "dict")))
    (h : ∀ x h', Fr h₀ L h' m → News h₀ L h' ((x, fkB) :: news) → (∀ p ∈ news, p.1 < x) → Q (.ref x, []) { s with heap := h', toks := s.toks + 1 }) :
    wpAny (model prog w) A (getMethod (.type "dict") (PySem.Str.ofString "fromkeys") pl) Q E s := by
  have X := X₀.keeps F.keep
  have hstub : opaqueClassAbove (.type "dict") = pure none := by unfold opaqueClassAbove; dsimp only; rw [show Manifest.isStub "dict" = false by decide +kernel]; rfl
  have ht : typeOf (.type "dict") = pure (.type "type") := by first | rfl | kernel_rfl
  have L0 : Looks (model prog w) s.heap (typeOf (.type "dict")) (.type "type") := Looks.of_pure ht
  have hg : findIn K (.type "type") "__getattribute__" = some (some (.builtin "type.__getattribute__")) := type_tga
  unfold getMethod specialOf
  refine wpAny_bind (wpAny_bind (L0.here ((looks_findIn X hg).here ?_)))
  dsimp only
  rw [if_pos canon_tga]
  refine wpAny_bind (wpAny_mono (Q := fun v => Q (v, [])) (E := E) ?_ (fun _ _ z => wpAny_pure z) fun _ _ z => z)
  have LO : Looks (model prog w) s.heap (opaqueClassAbove (.type "dict")) none := Looks.of_pure hstub
  refine cls_open X LO L0 hg (looks_hook X (r := none) (by rfl)) (by show subIn K _ _ = _; rfl) e ?_
  show wpAny _ _ (holding [.builtin "dict.fromkeys"] (call (.builtin "classmethod_descriptor.__get__") [.builtin "dict.fromkeys", .none, .type "dict"]) >>= fun v => ret v) _ _ _
  refine wpAny_bind (wpAny_holding (wpAny_call_entry KFB.slot_get DF.ty_fk KFB.entry_get ?_ (KFB.args_get _ _ _)))
  rw [DF.fk_get]
  exact wpAny_bind (wpAny_alloc (wpAny_pure ⟨_, rfl, wpAny_pure (wpAny_pure (h _ _ (F.push _) (News.push F N _) fun p hp => Heap.lt_size (N p hp).1))⟩))
end
end Mine
end
section
open PySem PySem.W PySem.W.X PyProof.Rows PySem.Calls Builtin
set_option maxRecDepth 100000
set_option maxHeartbeats 4000000
namespace Mine
noncomputable abbrev eD : Obj := { cls := .type "dict", data := .dict #[] }
namespace DF
theorem dict_c0 : checkTypeCall "dict" ⟨[], []⟩ = pure () := by kernel_rfl
theorem dict_n0 : checkBuiltinCall "dict.__new__" ⟨[.type "dict"], []⟩ = pure () := by kernel_rfl
theorem dict_new0 : Builtin.«dict.__new__» ⟨[.type "dict"], []⟩ = (alloc eD >>= fun a => ret (.ref a)) := by kernel_rfl
theorem dict_a0 (a : Value) : argsOk "dict.__init__" ⟨[a], []⟩ := by unfold argsOk; kernel_rfl
end DF
section
variable {prog : Program} {w : World} {K : Type} [DecidableEq K] {knd : KeyKind prog w K} {A : Around} {E : Value → Shared → Prop} {s : Shared}
theorem dict_call0 {Q : Value → Shared → Prop} (h : Q (.ref s.heap.objs.size) { s with heap := s.heap.push eD }) : wpAny (model prog w) A (call (.type "dict") []) Q E s := by
  refine callType_codes (Q₁ := fun obj s₁ => obj = .ref s.heap.objs.size ∧ s₁ = { s with heap := s.heap.push eD }) F.kt_called_dict DF.dict_c0 F.entry_dict_init ?_ ?_
  · refine codeAny_call_builtin F.kt_plain_dict_new F.kt_entry_dict_new (wpAny_of_eq DF.dict_n0 ?_)
    rw [DF.dict_new0]
    exact wpAny_bind (wpAny_alloc (wpAny_pure ⟨rfl, rfl⟩))
  · rintro obj s₁ ⟨rfl, rfl⟩
    have hnew : (s.heap.push eD).DictOf (strKind prog w) s.heap.objs.size [] := Heap.DictOf.new s.heap
    refine ⟨hnew.typeIs, DF.dict_a0 _, ?_⟩
    unfold Builtin.«dict.__init__»
    refine wpAny_bind ?_
    unfold Builtin.Dict.selfAndRest
    refine wpAny_bind (wpAny_notOrdered_dict hnew.typeIs ?_)
    show wpAny _ _ (pure (s.heap.objs.size, [])) _ _ _
    refine wpAny_pure ?_
    unfold Builtin.Dict.updateCommon
    exact wpAny_bind (wpAny_pure (wpAny_pure ⟨rfl, h⟩))
end
end Mine
end
section
open PySem PySem.W PySem.W.X PyProof.Rows PySem.Calls Builtin
set_option maxRecDepth 100000
set_option maxHeartbeats 4000000
namespace Mine
/-- the pairs of a dict over the signs of a text -/
noncomputable def fkPairs (l : List Nat) : List (Str × Value) := l.map fun c => (⟨#[c]⟩, Value.none)
theorem fk_stored {l : List Nat} {c : Nat} (h : c ∉ l) : stored (fkPairs l) (⟨#[c]⟩ : Str) .none = fkPairs (l ++ [c]) := by
  have e : ¬ ((fkPairs l).any fun kv => decide (kv.1 = (⟨#[c]⟩ : Str))) = true := by
    simp only [fkPairs, List.any_map, List.any_eq_true, Function.comp_apply, decide_eq_true_eq, not_exists, not_and]
    intro a ha e
    injection e with e
    have : a = c := by simpa using e
    exact h (this ▸ ha)
  unfold stored
  rw [if_neg e]
  simp [fkPairs]
section
variable {prog : Program} {w : World} {A : Around} {E : Value → Shared → Prop} {R : Result → Shared → Prop}
theorem fk_loop {it d : Addr} {x : Str} {t : Tok} (hne : it ≠ d) (hnd : x.cps.toList.Nodup) (hlen : x.length ≤ 100) (hh : A.handled = none) : ∀ (k i : Nat) (s : Shared), x.length - i = k → i ≤ x.length →
    s.heap.IsStrIter it "str_ascii_iterator" x t i → s.heap.DictOf (strKind prog w) d (fkPairs (x.cps.toList.take i)) →
    (∀ h' tk, h'.DictOf (strKind prog w) d (fkPairs x.cps.toList) → (∀ b o, b ≠ it → b ≠ d → s.heap.get? b = some o → h'.get? b = some o) → R (.ok (.ret (.ref d))) { s with heap := h', toks := tk }) →
    codeAny (model prog w) A (.builtin "dict.fromkeys.loop" ⟨[.ref d, .ref it, .none], []⟩) R s := by
  intro k
  induction k with
  | zero =>
    intro i s hk hi hit hd hR
    have hx : x.cps[i]? = none := by
      simp only [Str.length] at hk hi
      simp; omega
    refine codeAny_builtin DF.e_fkl ?_
    show wpAny _ _ (pyNext (.ref it) >>= _) _ _ s
    refine wpAny_bind (wpAny_pyNext_ascii_end hh hit hx fun h' he => ?_)
    refine wpAny_pure (hR h' _ ?_ fun b o hb _ e => he b o hb e)
    have hd' := hd.extBut he (Ne.symm hne)
    rw [List.take_of_length_le (by simp only [Str.length] at hk hi; simp; omega)] at hd'
    exact hd'
  | succ k ih =>
    intro i s hk hi hit hd hR
    have hlt : i < x.cps.size := by simp only [Str.length] at hk hi; omega
    have hx : x.cps[i]? = some x.cps[i] := by simp [hlt]
    refine codeAny_builtin DF.e_fkl ?_
    show wpAny _ _ (pyNext (.ref it) >>= _) _ _ s
    refine wpAny_bind (wpAny_pyNext_ascii_item hit hx fun h' hit' hs => ?_)
    have hd' := hd.sameBut hs (Ne.symm hne)
    refine wpAny_bind (wpAny_typeOf (s := { s with heap := h', toks := s.toks + 1 }) hd'.typeIs ?_)
    rw [if_pos (beq_self_eq_true _)]
    refine wpAny_bind (wpAny_pure ?_)
    have hsz : (fkPairs (x.cps.toList.take i)).length ≤ sizeLine := by
      rw [sizeLine_eq]
      simp only [fkPairs, List.length_map, List.length_take]
      simp only [Str.length] at hlen
      omega
    have hc : x.cps[i] ∉ x.cps.toList.take i := by
      have e : x.cps.toList = x.cps.toList.take i ++ x.cps[i] :: x.cps.toList.drop (i + 1) := by
        have e2 := List.drop_eq_getElem_cons (l := x.cps.toList) (i := i) (by simpa using hlt)
        have e3 := List.take_append_drop i x.cps.toList
        rw [e2] at e3
        simpa using e3.symm
      rw [e] at hnd
      intro hm
      have := (List.nodup_append.mp hnd).2.2 _ hm _ (List.Mem.head _)
      exact this rfl
    refine wpAny_bind (wpAny_holding (wpAny_dictSet_pairs (hsz := hsz) (k := (⟨#[x.cps[i]]⟩ : Str)) (s := { s with heap := h', toks := s.toks + 1 }) (show ((⟨#[x.cps[i]]⟩ : Str) == ⟨#[x.cps[i]]⟩) = true from beq_self_eq_true _) hd' fun h2 hd2 hs2 => ?_))
    rw [fk_stored hc] at hd2
    refine wpAny_pure ⟨DF.q_fkl, ih (i + 1) _ (by omega) (by simp only [Str.length] at hk ⊢; omega) ?_ ?_ fun h3 tk hd3 hk3 => ?_⟩
    · obtain ⟨o, ho, r⟩ := hit'
      exact ⟨o, (hs2.2 it hne).trans ho, r⟩
    · have e : x.cps.toList.take (i + 1) = x.cps.toList.take i ++ [x.cps[i]] := by
        rw [List.take_add_one]; simp [hlt]
      rw [e]; exact hd2
    · exact hR h3 tk hd3 fun b o hb1 hb2 e => hk3 b o hb1 hb2 ((hs2.2 b hb2).trans ((hs.2 b hb1).trans e))
end
end Mine
end
section
open PySem PySem.W PySem.W.X PyProof.Rows PySem.Calls Builtin
set_option maxRecDepth 100000
set_option maxHeartbeats 4000000
namespace Mine
section
variable {prog : Program} {w : World} {A : Around} {E : Value → Shared → Prop} {s : Shared}
theorem fk_body {x : Str} {t : Tok} {R : Result → Shared → Prop} {A₁ : Around} (ha : x.cps.all (· < 128) = true) (hnd : x.cps.toList.Nodup) (hlen : x.length ≤ 100) (hh : A.handled = none) (hh1 : A₁.handled = none)
    (h : ∀ d h' tk, h'.DictOf (strKind prog w) d (fkPairs x.cps.toList) → (∀ b o, s.heap.get? b = some o → h'.get? b = some o) → s.heap.objs.size ≤ d → R (.ok (.ret (.ref d))) { s with heap := h', toks := tk }) :
    wpAny (model prog w) A₁ (Builtin.«dict.fromkeys» ⟨[.type "dict", .str x t], []⟩) (fun fin s' => match fin with | .done f => R (.ok f) s' | .again c' => c'.quiet = true ∧ codeAny (model prog w) A c' R s') (fun e s' => R (.error e) s') s := by
  unfold Builtin.«dict.fromkeys»
  refine wpAny_bind (wpAny_of_eq (a := true) (by kernel_rfl) ?_)
  refine wpAny_bind (wpAny_of_eq (a := true) F.kt_sub_dict ?_)
  refine wpAny_bind (wpAny_rule ?_)
  refine wpAny_bind (wpAny_pure ?_)
  refine wpAny_bind (dict_call0 ?_)
  have hnew : (s.heap.push eD).DictOf (strKind prog w) s.heap.objs.size [] := Heap.DictOf.new s.heap
  refine wpAny_holding ?_
  refine wpAny_bind (wpAny_of_eq (a := .type "str") rfl ?_)
  refine wpAny_bind (wpAny_typeOf (s := { s with heap := s.heap.push eD }) hnew.typeIs ?_)
  rw [if_neg (by decide)]
  refine wpAny_bind (wpAny_typeOf (s := { s with heap := s.heap.push eD }) hnew.typeIs ?_)
  rw [if_neg (by decide)]
  refine wpAny_bind (wpAny_pyIter_ascii (s := { s with heap := s.heap.push eD }) ha ?_)
  refine wpAny_pure ⟨DF.q_fkl, ?_⟩
  have hsz : (s.heap.push eD).objs.size = s.heap.objs.size + 1 := Heap.size_push _ _
  have hd2 := hnew.push { cls := .type "str_ascii_iterator", data := .fields #[.str x t, .int 0 0] }
  refine fk_loop (by show (s.heap.push eD).objs.size ≠ s.heap.objs.size; rw [hsz]; exact Nat.succ_ne_self _) hnd hlen hh x.length 0 _ (Nat.sub_zero _) (Nat.zero_le _) ⟨_, Heap.get?_push_size _ rfl, rfl, rfl⟩ hd2 fun h' tk hd' hk' => ?_
  refine h _ h' tk hd' (fun b o e => hk' b o ?_ ?_ (Heap.get?_push_of_some _ (Heap.get?_push_of_some _ e))) (Nat.le_refl _)
  · have := Heap.lt_size e
    intro z
    rw [z] at this
    change (s.heap.push eD).objs.size < _ at this
    rw [hsz] at this
    omega
  · exact Nat.ne_of_lt (Heap.lt_size e)
end
end Mine
end
section
open PySem PySem.W PySem.W.X PyProof.Rows PySem.Calls Builtin
set_option maxRecDepth 100000
set_option maxHeartbeats 4000000
namespace Mine
/-- the table that maketrans makes of such a dict -/
noncomputable def mtPairs (l : List Nat) : List (Int × Value) := l.map fun (c : Nat) => ((c : Int), Value.none)
theorem mt_stored {l : List Nat} {c : Nat} (h : c ∉ l) : stored (mtPairs l) (c : Int) .none = mtPairs (l ++ [c]) := by
  have e : ¬ ((mtPairs l).any fun kv => decide (kv.1 = (c : Int))) = true := by
    simp only [mtPairs, List.any_map, List.any_eq_true, Function.comp_apply, decide_eq_true_eq, not_exists, not_and]
    intro a ha e
    have : a = c := by omega
    exact h (this ▸ ha)
  unfold stored
  rw [if_neg e]
  simp [mtPairs]
section
variable {prog : Program} {w : World} {A : Around} {E : Value → Shared → Prop} {s : Shared}
theorem mt_body {d : Addr} {l : List Nat} {P : Fin → Shared → Prop} (hd : s.heap.DictOf (strKind prog w) d (fkPairs l)) (hnd : l.Nodup) (hne : (d == sysModules) = false) (hlen : l.length ≤ 100)
    (h : ∀ tb h' tk, h'.DictOf (intKind prog w) tb (mtPairs l) → (∀ b o, s.heap.get? b = some o → h'.get? b = some o) → s.heap.objs.size ≤ tb → P (.done (.ret (.ref tb))) { s with heap := h', toks := tk }) :
    wpAny (model prog w) A (Builtin.«str.maketrans» ⟨[.ref d], []⟩) P E s := by
  unfold Builtin.«str.maketrans»
  refine wpAny_bind (wpAny_of_eq (a := ()) rfl ?_)
  refine wpAny_bind (wpAny_of_eq (a := ()) (by kernel_rfl) ?_)
  refine wpAny_bind (wpAny_of_eq (a := none) rfl ?_)
  refine wpAny_bind (wpAny_of_eq (a := none) rfl ?_)
  refine wpAny_bind (m := newDict) (wpAny_newObj_type ?_)
  have hnew : (s.heap.push eD).DictOf (intKind prog w) s.heap.objs.size [] := Heap.DictOf.new s.heap
  have hd1 := hd.push eD
  obtain ⟨o, es, ep, ho, hc, hdat, hk, hp, hn⟩ := hd1
  dsimp only
  refine wpAny_bind (wpAny_holding ?_)
  show wpAny _ _ (typeOf (.ref d) >>= _) _ _ _
  have hty : ({ s with heap := s.heap.push eD } : Shared).TypeIs (.ref d) "dict" := (hd.push eD).typeIs
  refine wpAny_bind (wpAny_typeOf hty ?_)
  refine wpAny_bind (wpAny_pure ?_)
  refine wpAny_bind (wpAny_typeOf hty ?_)
  rw [if_neg (by decide)]
  refine wpAny_bind (m := notTheModulesDict _ _) ?_
  unfold notTheModulesDict
  rw [if_neg (by rw [hne]; decide)]
  refine wpAny_pure ?_
  refine wpAny_bind (wpAny_dictEntries ho hdat ?_)
  refine wpAny_bind (m := forIn _ _ _) (wpAny_forIn_array' _
    (fun rest _ s' => ∃ dn todo, l = dn ++ todo ∧ Pairs (PySem.strKind prog w) rest (fkPairs todo) ∧ s'.heap.DictOf (intKind prog w) s.heap.objs.size (mtPairs dn) ∧ (∀ b o, s.heap.get? b = some o → s'.heap.get? b = some o) ∧ ∃ tk, s' = { s with heap := s'.heap, toks := tk })
    _ ?_ ?_ _ _ ⟨[], l, rfl, hp, hnew, fun b o e => Heap.get?_push_of_some _ e, s.toks, rfl⟩)
  · rintro x rest ⟨⟩ s' ⟨dn, todo, rfl, hpx, htb, hkp, tk, hs⟩
    cases todo with
    | nil => cases hpx
    | cons c todo =>
      obtain ⟨hash, key, val⟩ := x
      cases hpx with
      | cons h1 h2 h3 =>
        obtain ⟨t, rfl⟩ := Value.isStrOf_shape h1
        dsimp only at h2
        subst h2
        refine wpAny_bind (wpAny_pure ?_)
        dsimp only
        refine wpAny_bind (wpAny_mkInt ?_)
        have hc : c ∉ dn := by
          intro hm
          exact (List.nodup_append.mp hnd).2.2 _ hm _ (List.Mem.head _) rfl
        have hsz : (mtPairs dn).length ≤ sizeLine := by
          rw [sizeLine_eq]
          simp only [mtPairs, List.length_map, List.length_append, List.length_cons] at hlen ⊢
          omega
        refine wpAny_bind (wpAny_dictSet_pairs (hsz := hsz) (s := { s' with toks := s'.toks + 1 }) (k := (c : Int)) (by simp [intKind, Value.isInt]; rfl) htb fun h' hd' hsb => ?_)
        rw [mt_stored hc] at hd'
        refine wpAny_pure ⟨dn ++ [c], todo, by simp, h3, hd', ?_, _, by rw [hs]⟩
        intro b o e
        exact (hsb.2 b (Nat.ne_of_lt (Heap.lt_size e))).trans (hkp b o e)
  · rintro ⟨⟩ s' ⟨dn, todo, rfl, hpx, htb, hkp, tk, hs⟩
    have : todo = [] := by
      cases todo with
      | nil => rfl
      | cons => cases hpx
    subst this
    refine wpAny_pure ?_
    refine wpAny_pure ?_
    rw [hs]
    rw [List.append_nil] at h
    exact h _ _ _ htb hkp (Nat.le_refl _)
end
end Mine
end
section
open PySem PySem.W PySem.W.X PyProof.Rows PySem.Calls Builtin
set_option maxRecDepth 100000
set_option maxHeartbeats 4000000
namespace Mine
theorem sub_KeyLookup : isSubtype (.type "KeyError") (.type "LookupError") = pure true := by rw [isSubtype_type]; kernel_rfl
section
variable {prog : Program} {w : World} {A : Around} {E : Value → Shared → Prop} {s : Shared}
theorem mt_at {l : List Nat} {c : Nat} (h : c ∈ l) : valueAt (mtPairs l) (c : Int) = some .none := by
  induction l with
  | nil => cases h
  | cons a l ih =>
    by_cases e : a = c
    · subst e; simp [mtPairs, valueAt]
    · have : c ∈ l := by
        rcases List.mem_cons.mp h with h | h
        · exact absurd h.symm e
        · exact h
      have := ih this
      simp only [mtPairs, valueAt, List.map_cons] at this ⊢
      rw [List.find?_cons_of_neg (by simp; omega)]
      exact this
theorem mt_not {l : List Nat} {c : Nat} (h : c ∉ l) : valueAt (mtPairs l) (c : Int) = none := by
  induction l with
  | nil => rfl
  | cons a l ih =>
    have e : ¬ a = c := fun e => h (e ▸ List.Mem.head _)
    have := ih fun m => h (List.Mem.tail _ m)
    simp only [mtPairs, valueAt, List.map_cons] at this ⊢
    rw [List.find?_cons_of_neg (by simp; omega)]
    exact this
theorem tr_lookup {tb : Addr} {l : List Nat} {c : Nat} {Q : Builtin.Str.Mapped → Shared → Prop} (ht : s.heap.DictOf (intKind prog w) tb (mtPairs l)) (hne : (tb == sysModules) = false) (hh : A.handled = none)
    (hkeep : c ∉ l → ∀ h' tk, (∀ b o, s.heap.get? b = some o → h'.get? b = some o) → Q .keep { s with heap := h', toks := tk })
    (hdrop : c ∈ l → ∀ tk, Q .drop { s with toks := tk }) : wpAny (model prog w) A (Builtin.Str.tableLookup (.ref tb) c) Q E s := by
  unfold Builtin.Str.tableLookup
  refine wpAny_bind (wpAny_attempt (wpAny_bind (wpAny_mkInt ?_)))
  by_cases hc : c ∈ l
  · refine wpAny_getItem_of (knd := intKind prog w) (k := (c : Int)) (s := { s with toks := s.toks + 1 }) (by simp [intKind, Value.isInt]) ht.mapOf (mt_at hc) ?_
    exact wpAny_pure (hdrop hc _)
  · refine wpAny_getItem_missing_of (knd := intKind prog w) (k := (c : Int)) (s := { s with toks := s.toks + 1 }) (by simp [intKind, Value.isInt]) hne hh ht.mapOf (mt_not hc) fun h' e he => ?_
    dsimp only
    obtain ⟨hk, hn, t, v, ho, hcls, _⟩ := he
    refine wpAny_bind (m := isInstance _ _) (wpAny_bind (wpAny_typeOf (T := "KeyError") ⟨_, ho, hcls⟩ (wpAny_of_eq sub_KeyLookup ?_)))
    rw [if_pos rfl]
    exact wpAny_bind (wpAny_rule (wpAny_pure (hkeep hc _ _ hk)))
theorem dictOf_keeps {K : Type} [DecidableEq K] {knd : KeyKind prog w K} {h h' : Heap} {d : Addr} {kvs : List (K × Value)} (x : h.DictOf knd d kvs) (hk : ∀ b o, h.get? b = some o → h'.get? b = some o) : h'.DictOf knd d kvs :=
  let ⟨o, es, ep, ho, r⟩ := x; ⟨o, es, ep, hk _ _ ho, r⟩
/-- what holds between the turns of translate -/
noncomputable def TrI (l : List Nat) (n : Nat) (s : Shared) (rest : List Nat) (b : List Str × Nat × Bool × List (Nat × Option Nat) × Bool) (s' : Shared) : Prop :=
  (∀ p ∈ b.1, ∃ d, p = ⟨#[d]⟩ ∧ d ∉ l) ∧ b.1.length = b.2.1 ∧ b.1.length + rest.length ≤ n ∧ (∀ c a, b.2.2.2.1.lookup c = some a → (c ∈ l ∧ a = none) ∨ (c ∉ l ∧ a = some c)) ∧
    (∀ b o, s.heap.get? b = some o → s'.heap.get? b = some o) ∧ ∃ tk, s' = { s with heap := s'.heap, toks := tk }
theorem TrI.kept {l : List Nat} {n : Nat} {s s' : Shared} {rest : List Nat} {c : Nat} {ps : List Str} {tot : Nat} {f a f' a' : Bool} {kn : List (Nat × Option Nat)} {h' : Heap} {tk : Nat} (I : TrI l n s (c :: rest) (ps, tot, f, kn, a) s') (hc : c ∉ l) (hk : ∀ b o, s'.heap.get? b = some o → h'.get? b = some o) :
    TrI l n s rest (⟨#[c]⟩ :: ps, tot + 1, f', kn, a') { s' with heap := h', toks := tk } := by
  obtain ⟨h1, h2, h3, h4, h5, tk0, h6⟩ := I
  refine ⟨fun p hp => ?_, by simpa using h2, by simp at h3 ⊢; omega, h4, fun b o e => hk _ _ (h5 b o e), tk, by rw [h6]⟩
  rcases List.mem_cons.mp hp with rfl | hp
  · exact ⟨c, rfl, hc⟩
  · exact h1 p hp
theorem TrI.known {l : List Nat} {n : Nat} {s s' : Shared} {rest : List Nat} {c : Nat} {ps : List Str} {tot : Nat} {f a : Bool} {kn : List (Nat × Option Nat)} {v : Option Nat} (I : TrI l n s rest (ps, tot, f, kn, a) s') (hv : (c ∈ l ∧ v = none) ∨ (c ∉ l ∧ v = some c)) :
    TrI l n s rest (ps, tot, f, (c, v) :: kn, a) s' := by
  obtain ⟨h1, h2, h3, h4, h5, h6⟩ := I
  refine ⟨h1, h2, h3, fun c' v' e => ?_, h5, h6⟩
  dsimp only at e
  rw [List.lookup_cons] at e
  by_cases hcc : c' = c
  · subst hcc
    simp at e
    subst e
    exact hv
  · have : (c' == c) = false := by simpa using hcc
    rw [this] at e
    exact h4 c' v' e
theorem TrI.gone {l : List Nat} {n : Nat} {s s' : Shared} {rest : List Nat} {c : Nat} {ps : List Str} {tot : Nat} {f a f' a' : Bool} {kn : List (Nat × Option Nat)} {h' : Heap} {tk : Nat} (I : TrI l n s (c :: rest) (ps, tot, f, kn, a) s') (hk : ∀ b o, s'.heap.get? b = some o → h'.get? b = some o) :
    TrI l n s rest (ps, tot, f', kn, a') { s' with heap := h', toks := tk } := by
  obtain ⟨h1, h2, h3, h4, h5, tk0, h6⟩ := I
  exact ⟨h1, h2, by simp at h3 ⊢; omega, h4, fun b o e => hk _ _ (h5 b o e), tk, by rw [h6]⟩
theorem tr_fold : ∀ (ps : List Str) (acc : Array Nat), (∀ p ∈ ps, ∃ d, p = ⟨#[d]⟩ ∧ d ∉ (l : List Nat)) → (∀ c ∈ acc.toList, c ∉ l) →
    (∀ c ∈ (ps.foldl (fun acc p => acc ++ p.cps) acc).toList, c ∉ l) ∧ (ps.foldl (fun acc p => acc ++ p.cps) acc).size = acc.size + ps.length
  | [], acc, _, ha => ⟨ha, rfl⟩
  | p :: ps, acc, hp, ha => by
    obtain ⟨d, rfl, hd⟩ := hp p (List.Mem.head _)
    have := tr_fold ps (acc ++ #[d]) (fun q hq => hp q (List.Mem.tail _ hq)) (fun c hc => by
      simp at hc
      rcases hc with hc | rfl
      · exact ha c (by simpa using hc)
      · exact hd)
    refine ⟨this.1, this.2.trans ?_⟩
    simp
    omega
theorem tr_body {tb : Addr} {l : List Nat} {x : Str} {t : Tok} {P : Fin → Shared → Prop} (ht : s.heap.DictOf (intKind prog w) tb (mtPairs l)) (hne : (tb == sysModules) = false) (hh : A.handled = none) (h0 : x.length ≠ 0) (hlen : x.length ≤ 1000)
    (h : ∀ x' t' h' tk, (∀ c ∈ x'.cps.toList, c ∉ l) → x'.length ≤ x.length → (∀ b o, s.heap.get? b = some o → h'.get? b = some o) → P (.done (.ret (.str x' t'))) { s with heap := h', toks := tk }) :
    wpAny (model prog w) A (Builtin.«str.translate» ⟨[.str x t, .ref tb], []⟩) P E s := by
  unfold Builtin.«str.translate»
  refine wpAny_bind (wpAny_of_eq (a := (.str x t, x, .ref tb)) rfl ?_)
  dsimp only
  rw [if_neg (by simpa using h0)]
  refine wpAny_bind (m := forIn _ _ _) (wpAny_forIn_array' _ (TrI l x.length s) _ ?_ ?_ _ _ ?_)
  · rintro c rest ⟨ps, tot, f, kn, a⟩ s' I
    obtain ⟨h1, h2, h3, h4, h5, tk0, h6⟩ := id I
    have hts := dictOf_keeps ht h5
    have look : ∀ {Q : Builtin.Str.Mapped → Shared → Prop} {s₂ : Shared}, s₂.heap.DictOf (intKind prog w) tb (mtPairs l) → (c ∉ l → ∀ h' tk, (∀ b o, s₂.heap.get? b = some o → h'.get? b = some o) → Q .keep { s₂ with heap := h', toks := tk }) →
        (c ∈ l → ∀ tk, Q .drop { s₂ with toks := tk }) → wpAny (model prog w) A (Builtin.Str.tableLookup (.ref tb) c) Q E s₂ := fun ht' hk hd => tr_lookup ht' hne hh hk hd
    dsimp only at h2 h3 h4 ⊢
    rw [if_neg (by simp [Str.tooLong, sizeLine_eq]; omega)]
    have slow : wpAny (model prog w) A (do
        let m ← Builtin.Str.tableLookup (.ref tb) c
        match m with
        | .keep => pure (ForInStep.yield ((⟨#[c]⟩ : Str) :: ps, tot + 1, f, kn, a))
        | .drop => pure (ForInStep.yield (ps, tot, f, kn, true))
        | .char d => pure (ForInStep.yield ((⟨#[d]⟩ : Str) :: ps, tot + 1, f, kn, a))
        | .text t => pure (ForInStep.yield (t :: ps, tot + t.length, f, kn, a))) (fun r s'' => match r with | .yield b' => TrI l x.length s rest b' s'' | .done b' => True) E s' := by
      refine wpAny_bind (look hts (fun hc h' tk hk => ?_) fun hc tk => ?_)
      · exact wpAny_pure (I.kept hc hk)
      · exact wpAny_pure (I.gone fun _ _ e => e)
    cases f with
    | true =>
      rw [if_pos rfl]
      cases hl : List.lookup c kn with
      | some v =>
        dsimp only
        refine wpAny_bind (wpAny_pure ?_)
        rcases h4 c v hl with ⟨hc, rfl⟩ | ⟨hc, rfl⟩
        · exact wpAny_pure (I.gone (h' := s'.heap) (tk := s'.toks) fun _ _ e => e)
        · exact wpAny_pure (I.kept (h' := s'.heap) (tk := s'.toks) hc fun _ _ e => e)
      | none =>
        dsimp only
        refine wpAny_bind (look hts (fun hc h' tk hk => ?_) fun hc tk => ?_)
        · refine wpAny_bind (wpAny_pure ?_)
          exact wpAny_pure ((I.kept hc hk).known (.inr ⟨hc, rfl⟩))
        · refine wpAny_bind (wpAny_pure ?_)
          exact wpAny_pure ((I.gone (h' := s'.heap) (tk := tk) fun _ _ e => e).known (.inl ⟨hc, rfl⟩))
    | false =>
      rw [if_neg (by decide)]
      cases a with
      | false =>
        rw [if_neg (by decide)]
        refine wpAny_bind (look hts (fun hc h' tk hk => ?_) fun hc tk => ?_)
        · exact wpAny_pure (I.kept hc hk)
        · exact wpAny_pure (I.gone fun _ _ e => e)
      | true =>
        rw [if_pos rfl]
        refine wpAny_bind (look hts (fun hc h' tk hk => ?_) fun hc tk => ?_)
        · dsimp only
          refine wpAny_bind (look (dictOf_keeps hts hk) (fun hc h'' tk' hk' => ?_) fun hc tk => ?_)
          · exact wpAny_pure (I.kept hc fun b o e => hk' b o (hk b o e))
          · exact absurd hc (by assumption)
        · exact wpAny_pure (I.gone fun _ _ e => e)
  · rintro ⟨ps, tot, f, kn, a⟩ s' ⟨h1, h2, h3, h4, h5, tk0, h6⟩
    dsimp only at h1 h2 h3 h4 ⊢
    rw [if_neg (by simp [Str.tooLong, sizeLine_eq]; omega)]
    have hf := tr_fold (l := l) ps.reverse #[] (fun p hp => h1 p (List.mem_reverse.mp hp)) (fun c hc => nomatch hc)
    refine wpAny_bind (m := mkStr _) (wpAny_mkStr (s := s') ?_ ?_)
    · refine wpAny_pure ?_
      rw [h6]
      refine h _ _ _ _ hf.1 ?_ h5
      simp only [Str.length, hf.2]
      simp
      simp only [Str.length] at h3
      simpa using h3
    · rw [sizeLine_eq]
      simp only [Str.length, hf.2]
      simp
      simp only [Str.length] at h3 hlen
      simp at h3
      omega
  · exact ⟨(by intro p hp; cases hp), rfl, (by show 0 + x.cps.toList.length ≤ x.cps.size; simp), (by intro c a h; cases h), fun _ _ e => e, s.toks, rfl⟩
end
end Mine
end
section
open PySem PySem.W PySem.W.X PyProof.Rows PySem.Calls Builtin
set_option maxRecDepth 100000
set_option maxHeartbeats 4000000
namespace Mine
namespace DF
theorem lk_mk : typeLookup (.type "str") "maketrans" = pure (some (.builtin "str.maketrans")) := by rw [typeLookup_type, builtinLookup_eq_fast]; kernel_rfl
theorem ty_mk : typeOf (.builtin "str.maketrans") = pure (.type "builtin_function_or_method") := by kernel_rfl
theorem bf_get : typeLookup (.type "builtin_function_or_method") "__get__" = pure none := by rw [typeLookup_type, builtinLookup_eq_fast]; kernel_rfl
end DF
section
variable {prog : Program} {w : World} {A : Around} {E : Value → Shared → Prop} {h : Heap} {g : Array GenState} {d : Drawn} {t : Nat} {os : OsState} {x : Str} {u : Tok}
theorem mk_entry {tk : Tok} {Q : Fin → Shared → Prop} (hq : Q (.done (.ret (.builtin "str.maketrans"))) ⟨h, g, d, t, os⟩) :
    wpAny (model prog w) A (Builtin.«object.__getattribute__» ⟨[.str x u, .str "maketrans" tk], []⟩) Q E ⟨h, g, d, t, os⟩ := by
  have hT : (⟨h, g, d, t, os⟩ : Shared).TypeIs (.str x u) "str" := rfl
  have hT5 : (⟨h, g, d, t, os⟩ : Shared).TypeIs (.builtin "str.maketrans") "builtin_function_or_method" := DF.ty_mk
  have f4 := DF.lk_mk
  have f5 := DF.ty_mk
  have f6 := DF.bf_get
  repeat (any_goals (first | assumption | wp_step))
theorem mk_by {tk : Tok} {b : Bool} {Q : Value → Shared → Prop} (hq : Q (.builtin "str.maketrans") ⟨h, g, d, t, os⟩) : wpAny (model prog w) A (getAttrBy (.str x u) (.str "maketrans" tk) b) Q E ⟨h, g, d, t, os⟩ := by
  have hT : (⟨h, g, d, t, os⟩ : Shared).TypeIs (.str x u) "str" := rfl
  have f2 := F.slot_str_getattribute.lookup
  have f3 := F.slot_str_getattribute.bind (.str x u)
  repeat (any_goals (first | assumption | wp_step))
  refine codeAny_call_builtin F.slot_str_getattribute.plain F.entry_object_getattribute (F.slot_str_getattribute.check _ _ _ _ _ _ _ _ (show (⟨h, g, d, t, os⟩ : Shared).TypeIs (.str x u) "str" from rfl) (F.args_object_getattribute_2 _ _) (mk_entry ?_))
  repeat (any_goals (first | assumption | wp_step))
end
end Mine
end
section
open PySem PySem.W PySem.W.X PyProof.Rows PySem.Calls Builtin
set_option maxRecDepth 100000
set_option maxHeartbeats 4000000
namespace Mine
namespace DF
theorem c_mk (a : Addr) : checkBuiltinCall "str.maketrans" ⟨[.ref a], []⟩ = pure () := by kernel_rfl
theorem p_mk : plainId "str.maketrans" = true := by decide +kernel
theorem e_mk : entryFor table "str.maketrans" = some Builtin.«str.maketrans» := entryFor_of_tree (by kernel_rfl)
end DF
section
variable {prog : Program} {w : World} {A : Around} {E : Value → Shared → Prop} {s : Shared}
theorem mk_method {x : Str} {u : Tok} {pl : Sem Bool} {Q : Value × List Value → Shared → Prop}
    (h : ∀ tk, Q (.builtin "str.maketrans", []) { s with toks := tk }) : wpAny (model prog w) A (getMethod (.str x u) (Str.ofString "maketrans") pl) Q E s := by
  have hT : s.TypeIs (.str x u) "str" := rfl
  obtain ⟨g, hg, hcan⟩ := F.plainAttrs_str.ga
  unfold getMethod
  with_reducible refine wpAny_bind ?_
  with_reducible refine wpAny_specialOf hT hg ?_
  show wpAny _ A (if (Manifest.canonical g != "object.__getattribute__") = true then _ else _) Q E s
  rw [hcan, if_neg Bool.false_ne_true]
  with_reducible refine wpAny_bind ?_
  with_reducible refine wpAny_specialOf hT F.plainAttrs_str.noGetattr ?_
  rw [if_neg (by exact Bool.false_ne_true)]
  with_reducible refine wpAny_bind ?_
  with_reducible refine wpAny_specialOf hT DF.lk_mk ?_
  (try dsimp only)
  with_reducible refine wpAny_bind ?_
  with_reducible refine wpAny_of_eq DF.ty_mk ?_
  rw [if_pos (by decide)]
  refine wpAny_bind (m := getAttr _ _) (wpAny_bind (wpAny_mkText (mk_by ?_)))
  exact wpAny_pure (h _)
theorem mt_call {d : Addr} {l : List Nat} {Q : Value → Shared → Prop} (hd : s.heap.DictOf (strKind prog w) d (fkPairs l)) (hnd : l.Nodup) (hne : (d == sysModules) = false) (hlen : l.length ≤ 100)
    (h : ∀ tb h' tk, h'.DictOf (intKind prog w) tb (mtPairs l) → (∀ b o, s.heap.get? b = some o → h'.get? b = some o) → s.heap.objs.size ≤ tb → Q (.ref tb) { s with heap := h', toks := tk }) :
    wpAny (model prog w) A (call (.builtin "str.maketrans") [.ref d]) Q E s :=
  wpAny_call (codeAny_call_builtin DF.p_mk DF.e_mk (wpAny_of_eq (DF.c_mk d) (mt_body hd hnd hne hlen fun tb h' tk a b c => h tb h' tk a b c)))
theorem tr_method {x : Str} {u : Tok} {pl : Sem Bool} {Q : Value × List Value → Shared → Prop} (h : Q (.builtin "str.translate", [.str x u]) s) : wpAny (model prog w) A (getMethod (.str x u) (Str.ofString "translate") pl) Q E s := by
  have hT : s.TypeIs (.str x u) "str" := rfl
  with_reducible exact getMethod_builtin hT F.plainAttrs_str F.slot_str_translate F.type_str_translate (fun a e => nomatch e) h
theorem tr_call {tb : Addr} {l : List Nat} {x : Str} {t : Tok} {Q : Value → Shared → Prop} (ht : s.heap.DictOf (intKind prog w) tb (mtPairs l)) (hne : (tb == sysModules) = false) (hh : A.handled = none) (h0 : x.length ≠ 0) (hlen : x.length ≤ 1000)
    (h : ∀ x' t' h' tk, (∀ c ∈ x'.cps.toList, c ∉ l) → x'.length ≤ x.length → (∀ b o, s.heap.get? b = some o → h'.get? b = some o) → Q (.str x' t') { s with heap := h', toks := tk }) :
    wpAny (model prog w) A (call (.builtin "str.translate") [.str x t, .ref tb]) Q E s :=
  wpAny_call_entry F.slot_str_translate (show s.TypeIs (.str x t) "str" from rfl) F.entry_str_translate (tr_body ht hne (by exact hh) h0 hlen fun x' t' h' tk a b c => ⟨_, rfl, h x' t' h' tk a b c⟩) (F.args_str_translate_2 _ _)
theorem fk_call {y : Addr} {x : Str} {t : Tok} {Q : Value → Shared → Prop} (ho : s.heap.get? y = some fkB) (ha : x.cps.all (· < 128) = true) (hnd : x.cps.toList.Nodup) (hlen : x.length ≤ 100) (hh : A.handled = none)
    (h : ∀ d h' tk, h'.DictOf (strKind prog w) d (fkPairs x.cps.toList) → (∀ b o, s.heap.get? b = some o → h'.get? b = some o) → s.heap.objs.size ≤ d → Q (.ref d) { s with heap := h', toks := tk }) :
    wpAny (model prog w) A (call (.ref y) [.str x t]) Q E s := by
  refine wpAny_call (codeAny_of_tree ?_)
  show wpAny _ A.in1 (callAny (.ref y) ⟨[.str x t], []⟩) _ _ s
  simp only [callAny]
  refine wpAny_bind (wpAny_load ho ?_)
  refine KFB.if_so (by decide) ?_
  refine wpAny_bind (wpAny_of_eq (a := ()) DF.c_fk ?_)
  refine wpAny_bind (wpAny_pure (wpAny_pure ?_))
  refine ⟨DF.q_fk, codeAny_builtin DF.e_fk ?_⟩
  exact fk_body (R := fun r s' => match r with | .ok (.ret v) => Q v s' | .ok _ => False | .error e => E e s') ha hnd hlen (by exact hh) (by exact hh) fun d h' tk a b c => h d h' tk a b c
end
end Mine
end
section
open PySem PySem.W PySem.W.X PyProof.Rows PySem.Calls Builtin
set_option maxRecDepth 100000
set_option maxHeartbeats 4000000
namespace Mine
section
variable {h₀ h h' : Heap} {L : Addr} {m : Str → Option Value} {news : List (Addr × Obj)} {K : Frag}
theorem put_new {a : Addr} {o : Obj} (F : Fr h₀ L h m) (N : News h₀ L h news) (hk : ∀ b o, h.get? b = some o → h'.get? b = some o) (ho : h'.get? a = some o) (hge : h.objs.size ≤ a) :
    Fr h₀ L h' m ∧ News h₀ L h' ((a, o) :: news) ∧ ∀ p ∈ news, p.1 < a := by
  refine ⟨F.keeps hk, fun p hp => ?_, fun p hp => Nat.lt_of_lt_of_le (Heap.lt_size (N p hp).1) hge⟩
  rcases List.mem_cons.mp hp with rfl | hp
  · refine ⟨ho, Nat.ne_of_gt (Nat.lt_of_lt_of_le F.ns.lt hge), ?_⟩
    cases e : h₀.get? a with
    | none => rfl
    | some o' => exact absurd (Nat.lt_of_lt_of_le (Heap.lt_size (F.keep _ _ e)) hge) (Nat.lt_irrefl _)
  · exact N.grown hk p hp
/-- the object of a dict with these pairs -/
noncomputable def DObj {K : Type} [DecidableEq K] {prog : Program} {w : World} (knd : KeyKind prog w K) (o : Obj) (kvs : List (K × Value)) : Prop :=
  ∃ es ep, o.ExactDict ∧ o.data = .dict es ep ∧ PySem.KeysOf knd es ∧ Pairs knd es.toList kvs ∧ (kvs.map (·.1)).Nodup
theorem DObj.at {K : Type} [DecidableEq K] {prog : Program} {w : World} {knd : KeyKind prog w K} {o : Obj} {kvs : List (K × Value)} {a : Addr} (d : DObj knd o kvs) (e : h.get? a = some o) : h.DictOf knd a kvs :=
  let ⟨es, ep, r⟩ := d; ⟨o, es, ep, e, r⟩
theorem DObj.of {K : Type} [DecidableEq K] {prog : Program} {w : World} {knd : KeyKind prog w K} {kvs : List (K × Value)} {a : Addr} (d : h.DictOf knd a kvs) : ∃ o, h.get? a = some o ∧ DObj knd o kvs :=
  let ⟨o, es, ep, e, r⟩ := d; ⟨o, e, es, ep, r⟩
theorem size_gt {P : Params} (X : (K2 P).In h) : 802 < h.objs.size := Heap.lt_size (X 802 (o802 P) rfl)
theorem not_mods' {a : Addr} {P : Params} (X : (K2 P).In h) (h1 : h.objs.size ≤ a) : (a == sysModules) = false := by
  have := Nat.lt_of_lt_of_le (size_gt X) h1
  cases e : a == sysModules with
  | false => rfl
  | true =>
    have e2 : a = 1 := eq_of_beq e
    rw [e2] at this
    exact absurd this (by decide)
end
section
variable {prog : Program} {w : World} {A : Around} {E : Value → Shared → Prop} {s : Shared} {h₀ : Heap} {L : Addr} {m : Str → Option Value} {news : List (Addr × Obj)}
theorem fk_walk {y : Addr} {x : Str} {t : Tok} {Q : Value → Shared → Prop} {P : Params} (F : Fr h₀ L s.heap m) (N : News h₀ L s.heap news) (X : (K2 P).In h₀) (hm : (y, fkB) ∈ news) (ha : x.cps.all (· < 128) = true) (hnd : x.cps.toList.Nodup) (hlen : x.length ≤ 100) (hh : A.handled = none)
    (h : ∀ d o h' tk, DObj (strKind prog w) o (fkPairs x.cps.toList) ∧ (d == sysModules) = false → Fr h₀ L h' m → News h₀ L h' ((d, o) :: news) → (∀ p ∈ news, p.1 < d) → Q (.ref d) { s with heap := h', toks := tk }) :
    wpAny (model prog w) A (call (.ref y) [.str x t]) Q E s := by
  refine fk_call (N.get hm) ha hnd hlen hh fun d h' tk hd hk hge => ?_
  obtain ⟨o, ho, hD⟩ := DObj.of hd
  obtain ⟨F', N', l⟩ := put_new F N hk ho hge
  exact h d o h' tk ⟨hD, not_mods' (X.keeps F.keep) hge⟩ F' N' l
theorem mt_walk {d : Addr} {o : Obj} {l : List Nat} {Q : Value → Shared → Prop} {P : Params} (F : Fr h₀ L s.heap m) (N : News h₀ L s.heap news) (X : (K2 P).In h₀) (hm : (d, o) ∈ news) (hD : DObj (strKind prog w) o (fkPairs l) ∧ (d == sysModules) = false) (hnd : l.Nodup) (hlen : l.length ≤ 100)
    (h : ∀ tb o h' tk, DObj (intKind prog w) o (mtPairs l) ∧ (tb == sysModules) = false → Fr h₀ L h' m → News h₀ L h' ((tb, o) :: news) → (∀ p ∈ news, p.1 < tb) → Q (.ref tb) { s with heap := h', toks := tk }) :
    wpAny (model prog w) A (call (.builtin "str.maketrans") [.ref d]) Q E s := by
  refine mt_call (hD.1.at (N.get hm)) hnd hD.2 hlen fun tb h' tk ht hk hge => ?_
  obtain ⟨o, ho, hT⟩ := DObj.of ht
  obtain ⟨F', N', l⟩ := put_new F N hk ho hge
  exact h tb o h' tk ⟨hT, not_mods' (X.keeps F.keep) hge⟩ F' N' l
theorem tr_walk {tb : Addr} {o : Obj} {l : List Nat} {x : Str} {t : Tok} {Q : Value → Shared → Prop} (F : Fr h₀ L s.heap m) (N : News h₀ L s.heap news) (hm : (tb, o) ∈ news) (hD : DObj (intKind prog w) o (mtPairs l) ∧ (tb == sysModules) = false) (hh : A.handled = none) (h0 : x.length ≠ 0) (hlen : x.length ≤ 1000)
    (h : ∀ x' t' h' tk, (∀ c ∈ x'.cps.toList, c ∉ l) ∧ x'.length ≤ x.length → Fr h₀ L h' m → News h₀ L h' news → Q (.str x' t') { s with heap := h', toks := tk }) :
    wpAny (model prog w) A (call (.builtin "str.translate") [.str x t, .ref tb]) Q E s :=
  tr_call (hD.1.at (N.get hm)) hD.2 hh h0 hlen fun x' t' h' tk a b hk => h x' t' h' tk ⟨a, b⟩ (F.keeps hk) (N.grown hk)
noncomputable def FkAt (y : Addr) (h : Heap) : Prop := h.get? y = some fkB
theorem fk_callWith {pos : Pos} {u : Addr} {first : List Value} {env : PySem.Env} {e : PySem.Expr} {rest : List PySem.Expr} {Q : Value → Shared → Prop} (_N : News h₀ L s.heap news) (_hm : (u, fkB) ∈ news)
    (h : wpAny (model prog w) A (spliced (backTo pos (starEach (e :: rest) env))) (fun vs s₁ => FkAt u s₁.heap ∧ wpAny (model prog w) A (call (.ref u) (first ++ vs)) Q E s₁) E s)
    (he : starEach (e :: rest) env = (false, eval e env) :: starEach rest env := by rfl) (hplain : (backTo pos (starEach rest env)).any (·.1) = false := by rfl) :
    wpAny (model prog w) A (callWith pos (.ref u) first (backTo pos (starEach (e :: rest) env)) []) Q E s := by
  rw [he] at h ⊢
  have hp2 : (backTo pos ((false, eval e env) :: starEach rest env)).any (·.1) = false := by show (false || (backTo pos (starEach rest env)).any (·.1)) = false; rw [hplain]; rfl
  unfold callWith
  refine wpAny_bind (wpAny_holding (wpAny_mono (evalArgs_plain (Q := fun x s₁ => FkAt u s₁.heap ∧ wpAny (model prog w) A (call (.ref u) (first ++ x.pos) x.kw) Q E s₁) h) (fun x s₁ h₁ => wpAny_bind (wpAny_standAt ?_)) fun _ _ x => x))
  obtain ⟨ho, hcall⟩ := h₁
  simp only [hp2, List.any_nil, Bool.or_false]
  refine wpAny_bind (m := keeperOf (.ref u)) ?_
  unfold keeperOf
  refine wpAny_bind (wpAny_load ho ?_)
  simp only [show (Value.type "builtin_function_or_method" != Value.type "method") = true by decide, show (Value.type "builtin_function_or_method" == Value.type "builtin_function_or_method" || Value.type "builtin_function_or_method" == Value.type "method-wrapper") = true by decide, if_true]
  refine wpAny_pure ?_
  exact wpAny_bind (wpAny_mono hcall (fun r s₂ hr => wpAny_bind (wpAny_holding (wpAny_point (wpAny_pure hr)))) fun _ _ x => x)
end
end Mine
end
section
open PySem PySem.W PySem.W.X PyProof.Rows PySem.Calls Builtin
set_option maxRecDepth 100000
set_option maxHeartbeats 4000000
namespace Mine
section
variable {w : World} {A : Around} {E : Value → Shared → Prop} {s : Shared} {h₀ : Heap} {L : Addr} {m : Str → Option Value} {news news' : List (Addr × Obj)}
theorem sio_here {h : Heap} (X : (K2 w.params).In h) : Looks (model pw w) h (Bind.madeHere "object.__new__" (.ref 613)) () := Looks.of_peek X (by kernel_rfl)
theorem sio_made {h : Heap} (X : (K2 w.params).In h) : Looks (model pw w) h (Bind.madeBy (.ref 613)) none := Looks.of_peek X (by kernel_rfl)
theorem sio_isType {h : Heap} (X : (K2 w.params).In h) : Looks (model pw w) h (isType (.ref 613)) true := Looks.of_peek X (by kernel_rfl)
theorem sio_cls {h : Heap} (X : (K2 w.params).In h) : Looks (model pw w) h (classData 613) ((clsIn (K2 w.params) 613).getD default) := Looks.of_peek X (by kernel_rfl)
theorem sio_check {h : Heap} (X : (K2 w.params).In h) : Looks (model pw w) h (checkBuiltinCall "object.__new__" ⟨[.ref 613], []⟩) () := Looks.of_peek X (by kernel_rfl)
theorem sio_new {Q : Value → Shared → Prop} (F : Fr h₀ L s.heap m) (N : News h₀ L s.heap news) (X : (K2 w.params).In s.heap)
    (h : ∀ x dx h', Fr h₀ L h' m → News h₀ L h' ((x, instObj 613 dx) :: (dx, emptyDict) :: news) → (∀ p ∈ news, p.1 < dx) → dx < x → Q (.ref x) { s with heap := h' }) :
    wpAny (model pw w) A (call (.builtin "object.__new__") [.ref 613]) Q E s := by
  have FO := PySem.F.objNew
  have N' := (N.push F emptyDict).push (F.push _) (instObj 613 s.heap.objs.size)
  rw [Heap.size_push] at N'
  have hC := X 613 (o613 w.params) rfl
  refine wpAny_call (codeAny_call_builtin_code (Code.quiet_builtin _ FO.quiet) ((sio_check X).here ?_))
  refine codeAny_builtin FO.entry ?_
  unfold Builtin.«object.__new__»
  refine wpAny_bind ((sio_isType X).here ?_)
  refine wpAny_bind ((sio_here X).here ?_)
  refine wpAny_bind ((sio_cls X).here ?_)
  show wpAny _ _ ((alloc emptyDict >>= fun x => pure (some x)) >>= _) _ _ _
  refine wpAny_bind (wpAny_bind (wpAny_alloc (wpAny_pure ?_)))
  refine wpAny_bind ?_
  show wpAny _ _ (newObjAsIs _ _ _) _ _ _
  unfold newObjAsIs classHasDel
  refine wpAny_bind (wpAny_alloc (wpAny_bind (wpAny_bind (wpAny_load (Heap.get?_push_of_some _ (Heap.get?_push_of_some _ hC)) (wpAny_pure ?_)))))
  refine wpAny_pure (wpAny_pure ?_)
  show Q _ _
  rw [Heap.size_push]
  exact h _ _ _ ((F.push _).push _) N' (fun p hp => Heap.lt_size (N p hp).1) (Nat.lt_succ_self _)
end
end Mine
end
section
open PySem PySem.W PySem.W.X PyProof.Rows PySem.Calls Builtin
set_option maxRecDepth 100000
set_option maxHeartbeats 4000000
namespace Mine
section
variable {w : World} {A : Around} {E : Value → Shared → Prop} {s : Shared} {h₀ : Heap} {L : Addr} {m : Str → Option Value} {news news' : List (Addr × Obj)}
theorem sio_call {h : Heap} (X : (K2 w.params).In h) : Looks (model pw w) h (specialOf (.ref 613) "__call__") (some (.builtin "type.__call__")) := looks_specialIn X (by kernel_rfl)
theorem sio_typ {h : Heap} (X : (K2 w.params).In h) : Looks (model pw w) h (isInstance (.ref 613) (.type "type")) true := looks_instIn X (by kernel_rfl)
theorem sio_mro {h : Heap} (X : (K2 w.params).In h) : Looks (model pw w) h (mroOf (.ref 613)) [.ref 613, .ref 136, .ref 109, .type "object"] := Looks.of_peek X (by kernel_rfl)
noncomputable def SioBack (w : World) (A : Around) (E : Value → Shared → Prop) (v : Value) (Q : Value → Shared → Prop) (obj : Value) (s₁ : Shared) : Prop :=
  ∃ x dx es n, obj = .ref x ∧ InstAt s₁.heap x (instObj 613 dx) 613 (some (dictOf es n)) ∧ (K2 w.params).In s₁.heap ∧
        wpAny (model pw w) (A.under (.builtin "type.__call__" ⟨[.ref 613, v], []⟩)) (call (.ref 383) [.ref x, v]) (fun r s₂ => r = .none ∧ Q (.ref x) s₂) E s₁
theorem sio_make {v : Value} {Q : Value → Shared → Prop} (X : (K2 w.params).In s.heap)
    (h : wpAny (model pw w) (A.under (.builtin "type.__call__" ⟨[.ref 613, v], []⟩)) (call (.ref 106) [.ref 613, v])
      (SioBack w A E v Q) E { s with toks := s.toks + 1 }) :
    wpAny (model pw w) A (call (.ref 613) [v]) Q E s := by
  have hC := X 613 (o613 w.params) rfl
  refine wpAny_call (codeAny_of_tree ?_)
  show wpAny _ _ (callAny (.ref 613) _) _ _ _
  refine nd_load hC ?_
  show wpAny _ _ (callAny.viaDunder (.ref 613) _) _ _ _
  unfold callAny.viaDunder
  refine wpAny_bind ((sio_call X).here ?_)
  dsimp only
  rw [tc_bind]
  refine wpAny_bind (wpAny_pure (wpAny_bind (wpAny_pure ?_)))
  refine wpAny_pure (a := Fin.again (.call (.builtin "type.__call__") ⟨[.ref 613, v], []⟩)) (And.intro rfl ?_)
  refine codeAny_call_builtin_at (Code.quiet_builtin _ (by decide +kernel)) entry_typeCall (check_slot tc_kind tc_split (sio_typ X) (tc_args _ _ _) ?_)
  unfold Builtin.«type.__call__»
  refine wpAny_bind ((sio_mro X).here ?_)
  refine wpAny_bind ((sio_made X).here ?_)
  refine wpAny_bind (cls_bind X (mc := .type "type") (g := .builtin "staticmethod.__get__") (a := .ref 110) (obj := .none) (tp := .ref 613) (by kernel_rfl) (by kernel_rfl) (wpAny_call (sm_get (s := { s with toks := s.toks + 1 }) (f := .ref 106) (rest := []) X (by kernel_rfl) ?_)))
  refine handed_on rfl ?_
  refine wpAny_bind (wpAny_holding (wpAny_mono h (fun obj s₁ hq => ?_) fun _ _ z => z))
  obtain ⟨x, dx, es, n, rfl, I, X₁, hi⟩ := hq
  refine wpAny_bind (wpAny_bind (I.type.here ((looks_subIn X₁ (t := .ref 613) (base := .ref 613) (r := true) (by kernel_rfl)).here ?_)))
  refine wpAny_bind (wpAny_holding (special_fn X₁ I (f := 383) (by kernel_rfl) (by kernel_rfl) (wpAny_mono hi (fun r s₂ hr => ?_) fun _ _ z => z)))
  obtain ⟨rfl, hq⟩ := hr
  exact wpAny_pure hq
end
end Mine
end
section
open PySem PySem.W PySem.W.X PyProof.Rows PySem.Calls
set_option maxRecDepth 100000
set_option maxHeartbeats 8000000
namespace Mine
noncomputable def ltN5 (x dy y d1 d2 d3 : Nat) : Prop := x < dy ∧ dy < y ∧ y < d1 ∧ d1 < d2 ∧ d2 < d3
theorem led_of {g h : Heap} {L : Addr} {news l : List (Addr × Obj)} (N : News g L h news) (sub : ∀ p ∈ l, p ∈ news) : ∀ p ∈ l, h.get? p.1 = some p.2 ∧ g.get? p.1 = none := fun p hp => ⟨(N p (sub p hp)).1, (N p (sub p hp)).2.2⟩
theorem init_spec {w : World} {mean : ExcName → Option Value} {mg mb : Str → Option Value} {dp un : Nat} {gd : Option (List Code)} {outer : List Env} {base g : Heap} {s : Shared} {R : Result → Shared → Prop} {x dx : Addr} {text : Str} {t tp : Tok} {b : Bool}
    (hg : g = hideAll s.heap [x, dx]) (hl : ∀ p ∈ [(x, instObj 748 dx), (dx, dictOf [] 0)], s.heap.get? p.1 = some p.2)
    (B : Below (actx dp un gd outer) base outer g) (X : (K2 w.params).In g) (T : Top q1 loose1 mean mg mb g) (hd : dp + 20 < recursionLimit) (hu : un + 200 < cLine) (hlen : text.length ≤ 100) (hne : dx < x)
    (hret : ∀ (T : LexT) y dy d1 d2 d3 k1 k2 k3 t1 t2 t3 ev wc lnt stt tkt h' tk', ((b = true ∧ ev = .none) ∨ (b = false ∧ ∃ te, ev = .str (Str.ofString "") te)) → (∀ c ∈ wc.cps.toList, c ∉ (Str.ofString "0123456789").cps.toList) ∧ wc.length ≤ 1000 →
      ltN5 x dy y d1 d2 d3 → (∀ b o, g.get? b = some o → h'.get? b = some o) →
      (∀ p ∈ [(x, instObj 748 dx), (dx, lexD w.params T y b ev (Str.ofString "#") wc (Str.ofString " \t\r\n") false (Str.ofString "'\"") (Str.ofString "\\") (.str (Str.ofString " ") stt) d1 (.int 1 lnt) (.str (Str.ofString "") tkt) d2 d3), (y, instObj 613 dy), (dy, sioD w.params k1 k2 k3 t1 t2 t3 text 0), (d1, dqOf 0 []), (d2, dqOf 0 []), (d3, dqOf 0 [])], h'.get? p.1 = some p.2 ∧ g.get? p.1 = none) →
      R (.ok (.ret .none)) { s with heap := h', toks := tk' }) :
    codeAny (model pw w) (actx dp un gd outer) (.call (.ref 672) ⟨[.ref x, .str text t], [(Str.ofString "posix", .bool b), (Str.ofString "punctuation_chars", .str (Str.ofString "0123456789") tp)]⟩) R s := by
  have hfill : PySem.Challenge.rw_ox0114_01 = PySem.Challenge.rw_ox0114_01 ∧ K2 = K2 := by
    k_fill
    exact ⟨rfl, rfl⟩
  clear hfill
  replace hne := ltN hne
  k_dflt (refine' enterM (led := [(x, instObj 748 dx), (dx, dictOf [] 0)]) (binds := [(Str.ofString "self", .ref x), (Str.ofString "instream", .str text t), (Str.ofString "infile", .none), (Str.ofString "posix", .bool b), (Str.ofString "punctuation_chars", .str (Str.ofString "0123456789") tp)]) hg hl B X T ?k6 ?k7 ?k8 ?k9 ?kB ?_ ?c2 ?c3 ?c4 ?c5; (case k6 => k_is); (case k7 => k_is); (case k8 => (dsimp only; omega)); (case k9 => exact kp_binds (X.keeps fun b o e => of_hideAll _ (hg ▸ e)) (fun _ => by rfl)); (case c5 => decide); (case kB => exact locs rfl); (case c2 => exact rfl); (case c3 => exact rfl); (case c4 => exact rfl); k_whole)
  intro L' h' F' N'
  (try dsimp only); (try k_fold)
  (repeat' (first | (k_unfold; (try dsimp only)) | (k_end; wrow_close) | (with_reducible ((with_reducible show wpAny _ _ (call (Value.type "collections.deque") _) _ _ _); (k_dflt (refine' dq_new ?F ?N ?_; (case F => k_asm); (case N => k_asm); k_whole); intro d' h' F' N' l1; (try k_lt l1); (try k_sweep)))) | (with_reducible (k_here; (with_reducible show wpAny _ _ (getMethod (Value.str _ _) _ _) _ _ _); first | (refine mk_method ?_; intro tk') | refine tr_method ?_)) | (with_reducible ((with_reducible show wpAny _ _ (getMethod (Value.type "dict") _ _) _ _ _); (k_here; k_dflt (refine' fk_method ?F ?N ?X ?E ?_; (case F => k_asm); (case N => k_asm); (case X => k_asm); (case E => k_is); k_whole; intro x' h' F' N' l1; (try k_lt l1); (try k_sweep))))) | (with_reducible (k_here; (with_reducible show wpAny _ _ (callWith _ (Value.ref _) _ (backTo _ (starEach (_ :: _) _)) []) _ _ _); k_dflt (refine' fk_callWith ?kfbN ?kfbM ?_; (case kfbN => k_asm); (case kfbM => k_mem); k_whole))) | (with_reducible ((with_reducible show FkAt _ _ ∧ _); k_dflt (refine ⟨News.get (by k_asm) (by k_mem), ?_⟩); (try dsimp only [List.nil_append, List.cons_append]))) | (with_reducible (k_here; (with_reducible show wpAny _ _ (call (Value.ref _) [Value.str _ _]) _ _ _); k_dflt (refine' fk_walk ?F ?N ?X ?M (by decide +kernel) (by decide +kernel) (by decide +kernel) rfl ?_; (case F => k_asm); (case N => k_asm); (case X => k_in); (case M => k_mem); k_whole); intro d' o' h' tk' D' F' N' l1; (try k_lt l1); (try k_sweep))) | (with_reducible ((with_reducible show wpAny _ _ (call (Value.builtin "str.maketrans") _) _ _ _); (k_here; k_dflt (refine' mt_walk ?F ?N ?X ?M ?D ?H1 ?H2 ?_; (case F => k_asm); (case N => k_asm); (case X => k_in); (case M => k_mem); (case D => k_asm); (case H1 => decide +kernel); (case H2 => decide +kernel); k_whole); intro d' o' h' tk' D' F' N' l1; (try k_lt l1); (try k_sweep)))) | (with_reducible ((with_reducible show wpAny _ _ (call (Value.builtin "str.translate") _) _ _ _); (k_here; k_dflt (refine' tr_walk ?F ?N ?M ?D rfl (by decide +kernel) (by decide +kernel) ?_; (case F => k_asm); (case N => k_asm); (case M => k_mem); (case D => k_asm); k_whole); intro x' t' h' tk' D' F' N'; (try k_sweep)))) | (with_reducible (k_here; (with_reducible show wpAny _ _ (execs (_ :: _) _) _ _ _); (rename News _ _ _ _ => nQ); dsimp only at nQ)) | (with_reducible (k_here; (with_reducible show wpAny _ _ (setAttr (Value.ref _) _ _) _ _ _); first | dsimp only | (refine key_tok ?_; intro kq ekq; k_dflt (refine' set_dictK ?k0 ?k1 ?k2 ?k3 ?k4 ?k5 ?k6 ?k7 ?k8 ?k9 ?k10 ?k11 ?k12 ?k13 ?_; (case k0 => exact ekq); (case k1 => k_asm); (case k2 => k_asm); (case k3 => k_asm); (case k4 => k_inst); (case k5 => exact rfl); (case k6 => k_is); (case k7 => k_is); (case k8 => k_is); (case k9 => k_is); (case k10 => k_get); (case k11 => k_put); (case k12 => k_upd); (case k13 => exact Nat.le_of_ble_eq_true rfl); k_whole; clear ekq; intro h' tq F' N'; (try k_sweep))))) | walk1 | (dsimp only; walk1) | (leave1; walk_say "STEP leave1"; try dsimp only) | fail "no step"))
  refine sio_make (by k_in) ?_
  (repeat' (first | (k_unfold; (try dsimp only)) | (k_end; wrow_close) | (with_reducible ((with_reducible show wpAny _ _ (call (Value.type "collections.deque") _) _ _ _); (k_dflt (refine' dq_new ?F ?N ?_; (case F => k_asm); (case N => k_asm); k_whole); intro d' h' F' N' l1; (try k_lt l1); (try k_sweep)))) | (with_reducible (k_here; (with_reducible show wpAny _ _ (getMethod (Value.str _ _) _ _) _ _ _); first | (refine mk_method ?_; intro tk') | refine tr_method ?_)) | (with_reducible ((with_reducible show wpAny _ _ (getMethod (Value.type "dict") _ _) _ _ _); (k_here; k_dflt (refine' fk_method ?F ?N ?X ?E ?_; (case F => k_asm); (case N => k_asm); (case X => k_asm); (case E => k_is); k_whole; intro x' h' F' N' l1; (try k_lt l1); (try k_sweep))))) | (with_reducible (k_here; (with_reducible show wpAny _ _ (callWith _ (Value.ref _) _ (backTo _ (starEach (_ :: _) _)) []) _ _ _); k_dflt (refine' fk_callWith ?kfbN ?kfbM ?_; (case kfbN => k_asm); (case kfbM => k_mem); k_whole))) | (with_reducible ((with_reducible show FkAt _ _ ∧ _); k_dflt (refine ⟨News.get (by k_asm) (by k_mem), ?_⟩); (try dsimp only [List.nil_append, List.cons_append]))) | (with_reducible (k_here; (with_reducible show wpAny _ _ (call (Value.ref _) [Value.str _ _]) _ _ _); k_dflt (refine' fk_walk ?F ?N ?X ?M (by decide +kernel) (by decide +kernel) (by decide +kernel) rfl ?_; (case F => k_asm); (case N => k_asm); (case X => k_in); (case M => k_mem); k_whole); intro d' o' h' tk' D' F' N' l1; (try k_lt l1); (try k_sweep))) | (with_reducible ((with_reducible show wpAny _ _ (call (Value.builtin "str.maketrans") _) _ _ _); (k_here; k_dflt (refine' mt_walk ?F ?N ?X ?M ?D ?H1 ?H2 ?_; (case F => k_asm); (case N => k_asm); (case X => k_in); (case M => k_mem); (case D => k_asm); (case H1 => decide +kernel); (case H2 => decide +kernel); k_whole); intro d' o' h' tk' D' F' N' l1; (try k_lt l1); (try k_sweep)))) | (with_reducible ((with_reducible show wpAny _ _ (call (Value.builtin "str.translate") _) _ _ _); (k_here; k_dflt (refine' tr_walk ?F ?N ?M ?D rfl (by decide +kernel) (by decide +kernel) ?_; (case F => k_asm); (case N => k_asm); (case M => k_mem); (case D => k_asm); k_whole); intro x' t' h' tk' D' F' N'; (try k_sweep)))) | (with_reducible (k_here; (with_reducible show wpAny _ _ (execs (_ :: _) _) _ _ _); (rename News _ _ _ _ => nQ); dsimp only at nQ)) | (with_reducible (k_here; (with_reducible show wpAny _ _ (setAttr (Value.ref _) _ _) _ _ _); first | dsimp only | (refine key_tok ?_; intro kq ekq; k_dflt (refine' set_dictK ?k0 ?k1 ?k2 ?k3 ?k4 ?k5 ?k6 ?k7 ?k8 ?k9 ?k10 ?k11 ?k12 ?k13 ?_; (case k0 => exact ekq); (case k1 => k_asm); (case k2 => k_asm); (case k3 => k_asm); (case k4 => k_inst); (case k5 => exact rfl); (case k6 => k_is); (case k7 => k_is); (case k8 => k_is); (case k9 => k_is); (case k10 => k_get); (case k11 => k_put); (case k12 => k_upd); (case k13 => exact Nat.le_of_ble_eq_true rfl); k_whole; clear ekq; intro h' tq F' N'; (try k_sweep))))) | walk1 | (dsimp only; walk1) | (leave1; walk_say "STEP leave1"; try dsimp only) | fail "no step"))
  k_dflt (refine' sio_new ?F ?N ?X ?_; (case F => k_asm); (case N => k_asm); (case X => k_in); k_whole)
  intro y dy h3 F3 N3 l1 l2
  k_lt l1
  k_lt2 l2
  k_sweep
  (repeat' (first | (k_unfold; (try dsimp only)) | (k_end; wrow_close) | (with_reducible ((with_reducible show wpAny _ _ (call (Value.type "collections.deque") _) _ _ _); (k_dflt (refine' dq_new ?F ?N ?_; (case F => k_asm); (case N => k_asm); k_whole); intro d' h' F' N' l1; (try k_lt l1); (try k_sweep)))) | (with_reducible (k_here; (with_reducible show wpAny _ _ (getMethod (Value.str _ _) _ _) _ _ _); first | (refine mk_method ?_; intro tk') | refine tr_method ?_)) | (with_reducible ((with_reducible show wpAny _ _ (getMethod (Value.type "dict") _ _) _ _ _); (k_here; k_dflt (refine' fk_method ?F ?N ?X ?E ?_; (case F => k_asm); (case N => k_asm); (case X => k_asm); (case E => k_is); k_whole; intro x' h' F' N' l1; (try k_lt l1); (try k_sweep))))) | (with_reducible (k_here; (with_reducible show wpAny _ _ (callWith _ (Value.ref _) _ (backTo _ (starEach (_ :: _) _)) []) _ _ _); k_dflt (refine' fk_callWith ?kfbN ?kfbM ?_; (case kfbN => k_asm); (case kfbM => k_mem); k_whole))) | (with_reducible ((with_reducible show FkAt _ _ ∧ _); k_dflt (refine ⟨News.get (by k_asm) (by k_mem), ?_⟩); (try dsimp only [List.nil_append, List.cons_append]))) | (with_reducible (k_here; (with_reducible show wpAny _ _ (call (Value.ref _) [Value.str _ _]) _ _ _); k_dflt (refine' fk_walk ?F ?N ?X ?M (by decide +kernel) (by decide +kernel) (by decide +kernel) rfl ?_; (case F => k_asm); (case N => k_asm); (case X => k_in); (case M => k_mem); k_whole); intro d' o' h' tk' D' F' N' l1; (try k_lt l1); (try k_sweep))) | (with_reducible ((with_reducible show wpAny _ _ (call (Value.builtin "str.maketrans") _) _ _ _); (k_here; k_dflt (refine' mt_walk ?F ?N ?X ?M ?D ?H1 ?H2 ?_; (case F => k_asm); (case N => k_asm); (case X => k_in); (case M => k_mem); (case D => k_asm); (case H1 => decide +kernel); (case H2 => decide +kernel); k_whole); intro d' o' h' tk' D' F' N' l1; (try k_lt l1); (try k_sweep)))) | (with_reducible ((with_reducible show wpAny _ _ (call (Value.builtin "str.translate") _) _ _ _); (k_here; k_dflt (refine' tr_walk ?F ?N ?M ?D rfl (by decide +kernel) (by decide +kernel) ?_; (case F => k_asm); (case N => k_asm); (case M => k_mem); (case D => k_asm); k_whole); intro x' t' h' tk' D' F' N'; (try k_sweep)))) | (with_reducible (k_here; (with_reducible show wpAny _ _ (execs (_ :: _) _) _ _ _); (rename News _ _ _ _ => nQ); dsimp only at nQ)) | (with_reducible (k_here; (with_reducible show wpAny _ _ (setAttr (Value.ref _) _ _) _ _ _); first | dsimp only | (refine key_tok ?_; intro kq ekq; k_dflt (refine' set_dictK ?k0 ?k1 ?k2 ?k3 ?k4 ?k5 ?k6 ?k7 ?k8 ?k9 ?k10 ?k11 ?k12 ?k13 ?_; (case k0 => exact ekq); (case k1 => k_asm); (case k2 => k_asm); (case k3 => k_asm); (case k4 => k_inst); (case k5 => exact rfl); (case k6 => k_is); (case k7 => k_is); (case k8 => k_is); (case k9 => k_is); (case k10 => k_get); (case k11 => k_put); (case k12 => k_upd); (case k13 => exact Nat.le_of_ble_eq_true rfl); k_whole; clear ekq; intro h' tq F' N'; (try k_sweep))))) | walk1 | (dsimp only; walk1) | (leave1; walk_say "STEP leave1"; try dsimp only) | fail "no step"))
  refine ⟨y, dy, [], 0, rfl, by k_inst, by k_in, ?_⟩
  (repeat' (first | (k_unfold; (try dsimp only)) | (k_end; wrow_close) | (with_reducible ((with_reducible show wpAny _ _ (call (Value.type "collections.deque") _) _ _ _); (k_dflt (refine' dq_new ?F ?N ?_; (case F => k_asm); (case N => k_asm); k_whole); intro d' h' F' N' l1; (try k_lt l1); (try k_sweep)))) | (with_reducible (k_here; (with_reducible show wpAny _ _ (getMethod (Value.str _ _) _ _) _ _ _); first | (refine mk_method ?_; intro tk') | refine tr_method ?_)) | (with_reducible ((with_reducible show wpAny _ _ (getMethod (Value.type "dict") _ _) _ _ _); (k_here; k_dflt (refine' fk_method ?F ?N ?X ?E ?_; (case F => k_asm); (case N => k_asm); (case X => k_asm); (case E => k_is); k_whole; intro x' h' F' N' l1; (try k_lt l1); (try k_sweep))))) | (with_reducible (k_here; (with_reducible show wpAny _ _ (callWith _ (Value.ref _) _ (backTo _ (starEach (_ :: _) _)) []) _ _ _); k_dflt (refine' fk_callWith ?kfbN ?kfbM ?_; (case kfbN => k_asm); (case kfbM => k_mem); k_whole))) | (with_reducible ((with_reducible show FkAt _ _ ∧ _); k_dflt (refine ⟨News.get (by k_asm) (by k_mem), ?_⟩); (try dsimp only [List.nil_append, List.cons_append]))) | (with_reducible (k_here; (with_reducible show wpAny _ _ (call (Value.ref _) [Value.str _ _]) _ _ _); k_dflt (refine' fk_walk ?F ?N ?X ?M (by decide +kernel) (by decide +kernel) (by decide +kernel) rfl ?_; (case F => k_asm); (case N => k_asm); (case X => k_in); (case M => k_mem); k_whole); intro d' o' h' tk' D' F' N' l1; (try k_lt l1); (try k_sweep))) | (with_reducible ((with_reducible show wpAny _ _ (call (Value.builtin "str.maketrans") _) _ _ _); (k_here; k_dflt (refine' mt_walk ?F ?N ?X ?M ?D ?H1 ?H2 ?_; (case F => k_asm); (case N => k_asm); (case X => k_in); (case M => k_mem); (case D => k_asm); (case H1 => decide +kernel); (case H2 => decide +kernel); k_whole); intro d' o' h' tk' D' F' N' l1; (try k_lt l1); (try k_sweep)))) | (with_reducible ((with_reducible show wpAny _ _ (call (Value.builtin "str.translate") _) _ _ _); (k_here; k_dflt (refine' tr_walk ?F ?N ?M ?D rfl (by decide +kernel) (by decide +kernel) ?_; (case F => k_asm); (case N => k_asm); (case M => k_mem); (case D => k_asm); k_whole); intro x' t' h' tk' D' F' N'; (try k_sweep)))) | (with_reducible (k_here; (with_reducible show wpAny _ _ (execs (_ :: _) _) _ _ _); (rename News _ _ _ _ => nQ); dsimp only at nQ)) | (with_reducible (k_here; (with_reducible show wpAny _ _ (setAttr (Value.ref _) _ _) _ _ _); first | dsimp only | (refine key_tok ?_; intro kq ekq; k_dflt (refine' set_dictK ?k0 ?k1 ?k2 ?k3 ?k4 ?k5 ?k6 ?k7 ?k8 ?k9 ?k10 ?k11 ?k12 ?k13 ?_; (case k0 => exact ekq); (case k1 => k_asm); (case k2 => k_asm); (case k3 => k_asm); (case k4 => k_inst); (case k5 => exact rfl); (case k6 => k_is); (case k7 => k_is); (case k8 => k_is); (case k9 => k_is); (case k10 => k_get); (case k11 => k_put); (case k12 => k_upd); (case k13 => exact Nat.le_of_ble_eq_true rfl); k_whole; clear ekq; intro h' tq F' N'; (try k_sweep))))) | walk1 | (dsimp only; walk1) | (leave1; walk_say "STEP leave1"; try dsimp only) | fail "no step"))
  all_goals
    refine' hret ⟨_, _, _, _, _, _, _, _, _, _, _, _, _, _, _, _, _, _, _, _, _, _, _, _, _, _, _, _⟩ _ _ _ _ _ _ _ _ _ _ _ _ _ _ _ _ _ _ ?ev ?wc ?lt (Fr.keep (by assumption)) (led_of (by assumption) ?sub)
    case sub =>
      refine List.forall_mem_cons.mpr ⟨by k_mem, ?_⟩
      refine List.forall_mem_cons.mpr ⟨by k_mem, ?_⟩
      refine List.forall_mem_cons.mpr ⟨by k_mem, ?_⟩
      refine List.forall_mem_cons.mpr ⟨by k_mem, ?_⟩
      refine List.forall_mem_cons.mpr ⟨by k_mem, ?_⟩
      refine List.forall_mem_cons.mpr ⟨by k_mem, ?_⟩
      refine List.forall_mem_cons.mpr ⟨by k_mem, ?_⟩
      exact List.forall_mem_nil _
    case ev => first | exact .inl ⟨by assumption, rfl⟩ | exact .inr ⟨by simpa using (by assumption), _, rfl⟩
    case wc => exact ⟨And.left (by assumption), Nat.le_trans (And.right (by assumption)) (by decide +kernel)⟩
    case lt =>
      refine ⟨?_, ?_, ?_, ?_, ?_⟩ <;> omega
end Mine
end
section
open PySem PySem.W PySem.W.X PyProof.Rows PySem.Calls
set_option maxRecDepth 100000
set_option maxHeartbeats 8000000
namespace Mine
theorem init_at {w : World} {mean : ExcName → Option Value} {mg mb : Str → Option Value} {dp un : Nat} {gd : Option (List Code)} {outer : List PySem.Env} {env : PySem.Env} {A₀ : Around} {base h₀ : Heap} {L : Addr} {m : Str → Option Value} {s : Shared} {R : Result → Shared → Prop} {x dx : Addr} {text : Str} {t tp : Tok} {b : Bool}
    (B : Below A₀ base outer h₀) (F : Fr h₀ L s.heap m) (N : News h₀ L s.heap [(x, instObj 748 dx), (dx, dictOf [] 0)]) (X : (K2 w.params).In h₀) (Tp : Top q1 loose1 mean mg mb h₀) (hf : env.frame = some L) (hke : env.scope.kind = .function)
    (hd : dp + 20 < recursionLimit) (hu : un + 200 < cLine) (hlen : text.length ≤ 100) (hne : dx < x)
    (hret : ∀ (T : LexT) y dy d1 d2 d3 k1 k2 k3 t1 t2 t3 ev wc lnt stt tkt h' tk', ((b = true ∧ ev = .none) ∨ (b = false ∧ ∃ te, ev = .str (Str.ofString "") te)) → (∀ c ∈ wc.cps.toList, c ∉ (Str.ofString "0123456789").cps.toList) ∧ wc.length ≤ 1000 →
      ltN5 x dy y d1 d2 d3 → Fr h₀ L h' m →
      News h₀ L h' [(x, instObj 748 dx), (dx, lexD w.params T y b ev (Str.ofString "#") wc (Str.ofString " \t\r\n") false (Str.ofString "'\"") (Str.ofString "\\") (.str (Str.ofString " ") stt) d1 (.int 1 lnt) (.str (Str.ofString "") tkt) d2 d3), (y, instObj 613 dy), (dy, sioD w.params k1 k2 k3 t1 t2 t3 text 0), (d1, dqOf 0 []), (d2, dqOf 0 []), (d3, dqOf 0 [])] →
      R (.ok (.ret .none)) { s with heap := h', toks := tk' }) :
    codeAny (model pw w) (actx dp un gd (env :: outer)) (.call (.ref 672) ⟨[.ref x, .str text t], [(Str.ofString "posix", .bool b), (Str.ofString "punctuation_chars", .str (Str.ofString "0123456789") tp)]⟩) R s := by
  obtain ⟨Bi, Xi, Ti, hli, back⟩ := siteM (rest := []) (led := [(x, instObj 748 dx), (dx, dictOf [] 0)]) (A := actx dp un gd (env :: outer)) B F N X Tp rfl hf hke (fun p hp => nomatch hp)
  refine init_spec rfl hli Bi Xi Ti hd hu hlen hne fun T y dy d1 d2 d3 k1 k2 k3 t1 t2 t3 ev wc lnt stt tkt h' tk' a1 a2 a3 hk hl' => ?_
  obtain ⟨F', N'⟩ := back h' _ hk hl'
  exact hret T y dy d1 d2 d3 k1 k2 k3 t1 t2 t3 ev wc lnt stt tkt h' tk' a1 a2 a3 F' N'
theorem fig_mem {c : Nat} (h : kd c = sFigure) : c ∈ (Str.ofString "0123456789").cps.toList := by
  rcases kd_cases c with ⟨hk, _⟩ | ⟨_, _, hf⟩ | ⟨hk, _⟩
  · rw [hk] at h; exact absurd h (by decide +kernel)
  · rw [inS_one] at hf
    exact of_decide_eq_true hf
  · rw [hk] at h; exact absurd h (by decide +kernel)
theorem wc_fig {wc : Str} (h : ∀ c ∈ wc.cps.toList, c ∉ (Str.ofString "0123456789").cps.toList) : ∀ c, kd c = sFigure → inS wc ⟨#[c]⟩ = false := by
  intro c hc
  rw [inS_one]
  exact decide_eq_false fun hm => h c hm (fig_mem hc)
theorem rOf_len : ∀ (l : List Nat), (rOf l).length ≤ l.length := by
  have key : ∀ (l : List Nat) (x : List Str × Str), (foldN x l).1.length ≤ x.1.length + l.length := by
    intro l
    induction l with
    | nil => intro x; exact Nat.le_refl _
    | cons c l ih =>
      intro x
      show (foldN (runStep x (c : Int)) l).1.length ≤ _
      have h1 := ih (runStep x (c : Int))
      have h2 : (runStep x (c : Int)).1.length ≤ x.1.length + 1 := by
        rw [stepN]
        split
        · exact Nat.le_succ _
        · split
          · simp only [List.length_append, List.length_dropLast, List.length_cons, List.length_nil]
            omega
          · simp
      simp only [List.length_cons]
      omega
  intro l
  have := key l ([], sWhite)
  rw [rOf_eq]
  simpa using this
theorem first_P {text : Str} {st : Value} {tt t3 tl : Tok} (hs : stIs st " ") : RtP text (rOf text.cps.toList) ⟨st, Str.ofString "", tt, 0, t3, [], 0, 1, tl⟩ :=
  ⟨text.cps.toList, ⟨[], .inl ⟨rfl, rfl⟩, rfl, Nat.zero_le _, by show 0 + _ ≤ _; rw [cps_len]; omega⟩, rfl, .inl ⟨hs, rfl⟩⟩
theorem news_perm {g h : Heap} {L : Addr} {l l' : List (Addr × Obj)} (N : News g L h l) (sub : ∀ p ∈ l', p ∈ l) : News g L h l' := fun p hp => N p (sub p hp)
theorem tk_keep {outer : List PySem.Env} {env : PySem.Env} {g hs h' : Heap} {L' : Addr} {m : Str → Option Value} {A : List Addr} {news : List (Addr × Obj)} (F : Fr g L' hs m) (N : News g L' hs news) (hA : ∀ a ∈ A, ∃ o, (a, o) ∈ news) (hf : env.frame = some L') (hk : KeepF (env :: outer) (hideAll hs A) h') : KeepF outer g h' := by
  have hLg : g.get? L' = none := by
    cases q : g.get? L' with
    | none => rfl
    | some o => exact absurd (Nat.lt_of_lt_of_le (Heap.lt_size q) F.above) (Nat.lt_irrefl _)
  have st : ∀ b o, g.get? b = some o → (hideAll hs A).get? b = some o := fun b o e => hideAll_get _ (F.keep b o e) fun hm => by
    obtain ⟨o', ho'⟩ := hA b hm
    rw [N.fresh ho'] at e
    cases e
  refine ⟨fun b o e hn => hk.1 b o (st b o e) fun hm => ?_, fun b o e hd => hk.2 b o (st b o e) hd⟩
  obtain ⟨z, hz, hzf⟩ := List.mem_filterMap.mp hm
  rcases List.mem_cons.mp hz with rfl | hz
  · rw [hf] at hzf
    rw [← Option.some.inj hzf, hLg] at e
    cases e
  · exact hn (List.mem_filterMap.mpr ⟨z, hz, hzf⟩)
theorem list_tk {w : World} {mean : ExcName → Option Value} {mg mb : Str → Option Value} {dp un : Nat} {gd : Option (List Code)} {outer : List PySem.Env} {env : PySem.Env} {A₀ : Around} {base h₀ : Heap} {L : Addr} {m : Str → Option Value} {x dx y dy d1 d2 d3 : Addr} {b : Bool} {ev : Value} {wc buf : Str} {k1 k2 k3 t1 t2 t3 stt tkt lnt a1 a2 a3 a4 : Tok} {Q E : Value → Shared → Prop} {s : Shared} (T : LexT)
    (B : Below A₀ base outer h₀) (Fm : Fr h₀ L s.heap m) (N : News h₀ L s.heap [(x, instObj 748 dx), (dx, lexD w.params { T with tcm := a1, tws := a2, tq := a3, te := a4 } y b ev (Str.ofString "") wc (Str.ofString "._+-") true (Str.ofString "") (Str.ofString "") (.str (Str.ofString " ") stt) d1 (.int 1 lnt) (.str (Str.ofString "") tkt) d2 d3), (y, instObj 613 dy), (dy, sioD w.params k1 k2 k3 t1 t2 t3 buf 0), (d1, dqOf 0 []), (d2, dqOf 0 []), (d3, dqOf 0 [])])
    (X : (K2 w.params).In h₀) (Tp : Top q1 loose1 mean mg mb h₀) (hf : env.frame = some L) (hke : env.scope.kind = .function)
    (hd : dp + 90 < recursionLimit) (hu : un + 1100 < cLine) (hlen : buf.length ≤ 100)
    (o1 : dx < x) (o2 : x < dy) (o3 : dy < y) (o4 : y < d1) (o5 : d1 < d2) (o6 : d2 < d3) (hwc : ∀ c, kd c = sFigure → inS wc ⟨#[c]⟩ = false) (hev : evIs b ev)
    (hret : ∀ S acc n h' tk', StrsAre acc (rOf buf.cps.toList) → KeepF outer h₀ h' → h'.get? S = some (listOf acc.toArray n) → h₀.get? S = none → Q (.ref S) { s with heap := h', toks := tk' }) :
    wpAny (model pw w) (actx dp un gd (env :: outer)) (call (.type "list") [.ref x]) Q E s := by
  refine list_at (T := { T with tcm := a1, tws := a2, tq := a3, te := a4 }) (y := y) (dy := dy) (d1 := d1) (d2 := d2) (d3 := d3) (b := b) (ev := ev) (wc := wc) (buf := buf) (k1 := k1) (k2 := k2) (k3 := k3) (t1 := t1) (t2 := t2) (c₀ := ⟨.str (Str.ofString " ") stt, Str.ofString "", tkt, 0, t3, [], 0, 1, lnt⟩) (due := rOf buf.cps.toList) (rest := []) B Fm (news_perm N ?_) X Tp hf hke (fun p hp => nomatch hp) hd hu hlen o1 o2 o3 o4 o5 o6 hwc (first_P ⟨_, rfl⟩) (Nat.le_trans (rOf_len _) (by rw [cps_len]; omega)) hev ?_
  · intro p hp
    simp only [ledG, ledR, List.append_nil, List.cons_append, List.nil_append, List.mem_cons, List.not_mem_nil, or_false] at hp ⊢
    rcases hp with rfl | rfl | rfl | rfl | rfl | rfl | rfl
    · exact .inr (.inr (.inl rfl))
    · exact .inr (.inr (.inr (.inl rfl)))
    · exact .inl rfl
    · exact .inr (.inl rfl)
    · exact .inr (.inr (.inr (.inr (.inr (.inr rfl)))))
    · exact .inr (.inr (.inr (.inr (.inl rfl))))
    · exact .inr (.inr (.inr (.inr (.inr (.inl rfl)))))
  · intro S acc n h' tk' ha hk hS h0
    refine hret S acc n h' tk' ha (tk_keep Fm N ?_ hf hk) hS ?_
    · intro a ha
      simp only [List.mem_cons, List.not_mem_nil, or_false] at ha
      rcases ha with rfl | rfl | rfl | rfl | rfl | rfl | rfl
      · exact ⟨_, .tail _ (.tail _ (.head _))⟩
      · exact ⟨_, .tail _ (.tail _ (.tail _ (.head _)))⟩
      · exact ⟨_, .head _⟩
      · exact ⟨_, .tail _ (.head _)⟩
      · exact ⟨_, .tail _ (.tail _ (.tail _ (.tail _ (.tail _ (.tail _ (.head _))))))⟩
      · exact ⟨_, .tail _ (.tail _ (.tail _ (.tail _ (.head _))))⟩
      · exact ⟨_, .tail _ (.tail _ (.tail _ (.tail _ (.tail _ (.head _)))))⟩
    · cases e : h₀.get? S with
      | none => rfl
      | some o => rw [Fm.keep _ _ e] at h0; cases h0
theorem cons_eq {α : Type} {a a' : α} {l l' : List α} (h : a = a') (h' : l = l') : a :: l = a' :: l' := by subst h; subst h'; rfl
theorem news_conv {g h : Heap} {L : Addr} {l l' : List (Addr × Obj)} (N : News g L h l) (e : l' = l) : News g L h l' := e ▸ N
theorem tk_spec {w : World} {mean : ExcName → Option Value} {mg mb : Str → Option Value} {dp un : Nat} {gd : Option (List Code)} {outer : List Env} {base : Heap} {s : Shared} {Q E : Value → Shared → Prop} {text : Str} {t : Tok} {b : Bool}
    (B : Below (actx dp un gd outer) base outer s.heap) (X : (K2 w.params).In s.heap) (T : Top q1 loose1 mean mg mb s.heap) (hd : dp + 100 < recursionLimit) (hu : un + 1200 < cLine) (hlen : text.length ≤ 100)
    (hret : ∀ l vs n h' tk', KeepF outer s.heap h' → StrsAre vs (rOf text.cps.toList) → h'.get? l = some (listOf vs.toArray n) → s.heap.get? l = none → Q (.ref l) { s with heap := h', toks := tk' }) :
    wpAny (model pw w) (actx dp un gd outer) (call (.ref 766) [.str text t, .bool b]) Q E s := by
  have hfill : PySem.Challenge.rw_ox0114_01 = PySem.Challenge.rw_ox0114_01 ∧ K2 = K2 := by
    k_fill
    exact ⟨rfl, rfl⟩
  clear hfill
  k_dflt (refine' enterP (args := ⟨[.str text t, .bool b], []⟩) (binds := [(Str.ofString "text", .str text t), (Str.ofString "posix", .bool b)]) B X T ?k6 ?k7 ?k8 ?k9 ?kB ?_ ?c2 ?c3 ?c4 ?c5; (case k6 => k_is); (case k7 => k_is); (case k8 => (dsimp only; omega)); (case k9 => exact BindsTo.of_eq rfl); (case c5 => decide); (case kB => exact locs rfl); (case c2 => exact rfl); (case c3 => exact rfl); (case c4 => exact rfl); k_whole)
  intro g' L' h' hg F' N' B' X' T'
  (try dsimp only); (try k_fold)
  repeat ((fail_if_success (with_reducible show wpAny _ _ (PySem.call (Value.ref 748) _ _) _ _ _)); first | (k_unfold; (try dsimp only)) | walk1 | (dsimp only; walk1))
  k_dflt (refine' call_cls ?k1 ?k2 ?k3 ?k4 ?k5 ?k6 ?_; (case k1 => k_asm); (case k2 => k_asm); (case k3 => k_asm); (case k4 => k_is); (case k5 => k_is); (case k6 => k_is); k_whole)
  intro x dx h2 F2 N2 l1 l2
  clear l1
  replace l2 := ltN l2
  refine' init_at B' F2 N2 X' T' rfl rfl ?hd ?hu hlen l2 ?_
  (case hd => (show dp + 1 + 1 + 20 < recursionLimit; omega))
  (case hu => (show un + 3 + 1 + 200 < cLine; omega))
  intro T y dy d1 d2 d3 k1 k2 k3 t1 t2 t3 ev wc lnt stt tkt h3 tk3 hev hwc hlt F3 N3
  obtain ⟨o1, o2, o3, o4, o5⟩ := hlt
  replace o1 := ltN o1
  replace o2 := ltN o2
  replace o3 := ltN o3
  replace o4 := ltN o4
  replace o5 := ltN o5
  clear F2 N2
  unfold InitBack
  dsimp only
  k_steps
  rename Fr _ _ _ _ => FZ
  rename News _ _ _ _ => NZ
  refine' list_tk T B' FZ (news_conv NZ ?e) X' T' rfl rfl ?hd ?hu hlen l2 o1 o2 o3 o4 o5 (wc_fig hwc.1) hev ?_
  (case e =>
    refine cons_eq rfl (cons_eq ?_ ?_)
    · refine Prod.ext rfl ?_
      dsimp only [lexD, dictOf]
    · rfl)
  (case hd => (show dp + 1 + 90 < recursionLimit; omega))
  (case hu => (show un + 3 + 1100 < cLine; omega))
  intro S acc n h9 tk9 ha hkf hS hS0
  (try dsimp only)
  (try k_unfold)
  (try dsimp only)
  subst hg
  exact hret S acc n h9 tk9 hkf ha hS hS0
end Mine
end
section
open PySem PySem.W PySem.W.X PyProof.Rows PySem.Calls
set_option maxRecDepth 100000
set_option maxHeartbeats 4000000
namespace Mine
/-- what _law_runs gives is what the lexer is due -/
theorem codes_runs (x : Str) : (runFold (KStt.codes x)).1 = rOf x.cps.toList := by
  rw [rOf]
  rfl
/-- the runs of any text are tokens -/
theorem rOf_toks (l : List Nat) : ∀ r ∈ rOf l, TokOf r := by
  have key : ∀ (l : List Nat) (x : List Str × Str), (∀ r ∈ x.1, TokOf r) → (x.2 ≠ sWhite → ∃ a b, x.1 = a ++ [b] ∧ IsTok x.2 b.cps.toList) → (x.2 = sWhite ∨ x.2 = sFigure ∨ x.2 = sOther) → ∀ r ∈ (foldN x l).1, TokOf r := by
    intro l
    induction l with
    | nil => intro x h _ _; exact h
    | cons c l ih =>
      intro x h hl hk
      show ∀ r ∈ (foldN (runStep x (c : Int)) l).1, TokOf r
      have hkc : kd c = sWhite ∨ kd c = sFigure ∨ kd c = sOther := by
        rcases kd_cases c with ⟨h, _⟩ | ⟨h, _⟩ | ⟨h, _⟩
        · exact .inl h
        · exact .inr (.inl h)
        · exact .inr (.inr h)
      have one : kd c ≠ sWhite → IsTok (kd c) (⟨#[c]⟩ : Str).cps.toList := fun hw => IsTok.one rfl hw
      have tokOf : ∀ (b : Str), kd c ≠ sWhite → IsTok (kd c) b.cps.toList → TokOf b := by
        intro b hw hb
        rcases hkc with h | h | h
        · exact absurd h hw
        · exact .inl (h ▸ hb)
        · exact .inr (h ▸ hb)
      rw [stepN]
      by_cases hw : kd c = sWhite
      · rw [if_pos hw]
        exact ih _ h (fun q => absurd rfl q) (.inl rfl)
      · rw [if_neg hw]
        by_cases hx : kd c = x.2
        · rw [if_pos hx]
          obtain ⟨a, b, e, hb⟩ := hl (by rw [← hx]; exact hw)
          have hbc : IsTok (kd c) (b ++ (⟨#[c]⟩ : Str)).cps.toList := by
            have : (b ++ (⟨#[c]⟩ : Str)).cps.toList = b.cps.toList ++ [c] := by
              show (b.cps ++ #[c]).toList = _
              simp
            rw [this]
            refine ⟨by simp, hw, fun d hd => ?_⟩
            rcases List.mem_append.mp hd with hd | hd
            · rw [hx]; exact hb.2.2 d hd
            · rw [List.mem_singleton.mp hd]
          have e2 : x.1.dropLast ++ [x.1.getLastD (Str.ofString "") ++ (⟨#[c]⟩ : Str)] = a ++ [b ++ (⟨#[c]⟩ : Str)] := by
            rw [e]
            simp
          rw [e2]
          refine ih _ (fun r hr => ?_) (fun _ => ⟨a, _, rfl, hbc⟩) hkc
          rcases List.mem_append.mp hr with hr | hr
          · exact h r (by rw [e]; exact List.mem_append_left _ hr)
          · rw [List.mem_singleton.mp hr]; exact tokOf _ hw hbc
        · rw [if_neg hx]
          refine ih _ (fun r hr => ?_) (fun _ => ⟨x.1, _, rfl, one hw⟩) hkc
          rcases List.mem_append.mp hr with hr | hr
          · exact h r hr
          · rw [List.mem_singleton.mp hr]; exact tokOf _ hw (one hw)
  exact key l ([], sWhite) (fun r h => nomatch h) (fun q => absurd rfl q) (.inl rfl)
end Mine
end
section
open PySem PySem.W PySem.W.X PyProof.Rows PySem.Calls
set_option maxRecDepth 100000
set_option maxHeartbeats 8000000
namespace Mine
theorem runs_spec {w : World} {mean : ExcName → Option Value} {mg mb : Str → Option Value} {dp un : Nat} {gd : Option (List Code)} {outer : List Env} {base : Heap} {s : Shared} {Q E : Value → Shared → Prop} {text : Str} {t : Tok}
    (B : Below (actx dp un gd outer) base outer s.heap) (X : (K2 w.params).In s.heap) (T : Top q1 loose1 mean mg mb s.heap) (hd : dp + 5 < recursionLimit) (hu : un + 40 < cLine) (hlen : text.length ≤ 100)
    (hret : ∀ l vs n h' tk', (∀ b o, s.heap.get? b = some o → h'.get? b = some o) → StrsAre vs (runFold (KStt.codes text)).1 → h'.get? l = some (listOf vs.toArray n) → s.heap.get? l = none → Q (.ref l) { s with heap := h', toks := tk' }) :
    wpAny (model pw w) (actx dp un gd outer) (call (.ref 773) [.str text t]) Q E s := by
  have hfill : PySem.Challenge.rw_ox0114_01 = PySem.Challenge.rw_ox0114_01 ∧ K2 = K2 := by
    k_fill
    exact ⟨rfl, rfl⟩
  clear hfill
  k_dflt (refine' enterP (args := ⟨[.str text t], []⟩) (binds := [(Str.ofString "text", .str text t)]) B X T ?k6 ?k7 ?k8 ?k9 ?kB ?_ ?c2 ?c3 ?c4 ?c5; (case k6 => k_is); (case k7 => k_is); (case k8 => (dsimp only; omega)); (case k9 => exact BindsTo.of_eq rfl); (case c5 => decide); (case kB => exact locs rfl); (case c2 => exact rfl); (case c3 => exact rfl); (case c4 => exact rfl); k_whole)
  intro g' L' h' hg F' N' B' X' T'
  (try dsimp only); (try k_fold)
  iterate 13 (first | walk1 | (dsimp only; walk1))
  k_dflt (refine For_invV g' rfl rfl ?_)
  walk1
  refine' runs_loop rfl ?F ?N ?b ?turn ?done
  (case F => k_asm)
  (case N => k_asm)
  (case b => exact rfl)
  (case done =>
    intro c u h tk hss hP F1 N1
    repeat' ((first | ((with_reducible show (if _ then _ else _)); first | rw [if_pos (by assumption)] | rw [if_neg (by assumption)] | rw [if_pos (by decide)] | rw [if_neg (by decide)] | walk1) | ((with_reducible show wpAny _ _ _ _ _ _); first | walk1 | (dsimp only; walk1))))
    subst hg
    exact hret _ c.vs c.n _ _ F1.keep (by rw [hP.1]; exact hss) (N1.get (.head _)) (N1.fresh (.head _)))
  intro c pre post n t u h tk own hc hoff hss hP F1 N1
  have hcl : pre.length < 100 := by
    have e := KStt.codes_length text
    rw [hc, List.length_append, List.length_cons] at e
    omega
  obtain ⟨vs, n0, bf, tb, rs⟩ := c
  obtain ⟨hP1, hP2, hP3, hP4⟩ := id hP
  dsimp only at hss hP1 hP2 hP3 hP4
  have hvl : vs.length ≤ 100 := by
    rw [hss.length]; omega
  rcases PyProof.Rows.strs_nil_or_snoc hss with ⟨hv, hrs⟩ | ⟨us, init, last, tl, hv, hrs, hus⟩
  · subst hrs
    subst hv
    have hb := hP4 rfl
    subst hb
    repeat' ((first | ((with_reducible show (if _ then _ else _)); first | rw [if_pos (by assumption)] | rw [if_neg (by assumption)] | rw [if_pos (by decide)] | rw [if_neg (by decide)] | walk1) | ((with_reducible show wpAny _ _ _ _ _ _); first | walk1 | (dsimp only; walk1))))
    all_goals first
      | exact runs_end _ _ (by assumption) (by assumption) rfl hss (runP_white hP (kind_w (inS_f (by assumption))))
      | exact runs_end _ _ (by assumption) (by assumption) (List.push_toArray _ _) (KStt.strs_snoc hss) (runP_new hP (kind_f (inS_t (by assumption)) (inS_f (by assumption))) fig_white fig_white)
      | exact runs_end _ _ (by assumption) (by assumption) (List.push_toArray _ _) (KStt.strs_snoc hss) (runP_new hP (kind_o (inS_t (by assumption)) (inS_t (by assumption))) oth_white oth_white)
      | (exfalso; rename (_ == _) = true => hx; exact absurd hx (by (dsimp only; decide)))
  · subst hrs
    subst hv
    have hlast : last.length < 100 := Nat.lt_of_le_of_lt (hP3 _ (List.mem_append_right _ (List.Mem.head _))) hcl
    repeat' ((first | ((with_reducible show (if _ then _ else _)); first | rw [if_pos (by assumption)] | rw [if_neg (by assumption)] | rw [if_pos (by decide)] | rw [if_neg (by decide)] | walk1) | ((with_reducible show wpAny _ _ _ _ _ _); first | walk1 | (dsimp only; walk1))))
    all_goals first
      | (refine kl_pop (by assumption) (by assumption) (kpa_last _ _) (Upd.head (hoff.ne (.head _))) ?_ ?_; · (show (us ++ [Value.str last tl]).length ≤ sizeLine); exact Nat.le_trans hvl (by decide))
      | exact runs_end _ _ (by assumption) (by assumption) rfl hss (runP_white hP (kind_w (inS_f (by assumption))))
      | exact runs_end _ _ (by assumption) (by assumption) (List.push_toArray _ _) (KStt.strs_snoc hss) (runP_new hP (kind_f (inS_t (by assumption)) (inS_f (by assumption))) fig_white (ne_of_beq_false (by assumption)))
      | exact runs_end _ _ (by assumption) (by assumption) (List.push_toArray _ _) (KStt.strs_snoc hss) (runP_new hP (kind_o (inS_t (by assumption)) (inS_t (by assumption))) oth_white (ne_of_beq_false (by assumption)))
    all_goals
      intro h9 F9 N9
      repeat' ((first | ((with_reducible show (if _ then _ else _)); first | rw [if_pos (by assumption)] | rw [if_neg (by assumption)] | rw [if_pos (by decide)] | rw [if_neg (by decide)] | walk1) | ((with_reducible show wpAny _ _ _ _ _ _); first | walk1 | (dsimp only; walk1))))
    all_goals first
      | exact runs_end _ _ (by assumption) (by assumption) (List.push_toArray _ _) (KStt.strs_snoc hus) (runP_more hP (kind_f (inS_t (by assumption)) (inS_f (by assumption))) fig_white (eq_of_beq (by assumption)))
      | exact runs_end _ _ (by assumption) (by assumption) (List.push_toArray _ _) (KStt.strs_snoc hus) (runP_more hP (kind_o (inS_t (by assumption)) (inS_t (by assumption))) oth_white (eq_of_beq (by assumption)))
end Mine
end
section
open PySem PySem.W PySem.W.X PyProof.Rows PySem.Calls PySem.Spec
set_option maxRecDepth 100000
set_option maxHeartbeats 4000000
namespace Mine
section
variable {P : PySem.Ctx → Prop} {prog : Program} {w : World} {A : Around} {E : Value → Shared → Prop} {s : Shared} {env : PySem.Env} {Q : Flow → Shared → Prop}
theorem on_execs_cons {st : Stmt} {rest : List Stmt} (h : wpOn P (model prog w) A (exec st env) (fun f s' => match f with | .next => wpOn P (model prog w) A (execs rest env) Q E s' | f => Q f s') E s) : wpOn P (model prog w) A (execs (st :: rest) env) Q E s := by
  rw [execs_cons]
  refine on_bind (on_mono h (fun f s' h => ?_) fun _ _ e => e)
  cases f <;> first | exact h | exact on_pure h
theorem on_If {test : PySem.Expr} {body orelse : List Stmt} {pos : Pos} (h : wpAny (model prog w) A (isTrue test env (eval test env)) (fun b s₂ => if b then wpOn P (model prog w) A (execs body env) Q E s₂ else wpOn P (model prog w) A (execs orelse env) Q E s₂) E s) : wpOn P (model prog w) A (exec (.If test body orelse pos) env) Q E s := by
  rw [exec_If]
  refine on_bind (on_standAt (on_bind (on_mono (on_any h) (fun b s₂ h => ?_) fun _ _ e => e)))
  cases b <;> exact h
theorem on_Try {body : List Stmt} {h₀ : ExceptHandler} {hs : List ExceptHandler} {pos : Pos}
    (h : wpOn P (model prog w) A (execs body env) (fun f s₁ => match f with | .next => wpOn P (model prog w) A (execs [] env) Q E s₁ | f => Q f s₁)
      (fun e s₁ => wpAny (model prog w) A (noteFrame e env) (fun _ s₂ => wpAny (model prog w) A (setFlight e none) (fun _ s₃ => wpAny (model prog w) A (handleBy e env (h₀ :: hs)) Q E s₃) E s₂) E s₁) s) :
    wpOn P (model prog w) A (exec (.Try body (h₀ :: hs) [] [] pos) env) Q E s := by
  rw [arm_exec_Try]
  refine on_bind (on_standAt ?_)
  unfold tryStmt
  simp only [List.isEmpty_nil, if_true, List.isEmpty_cons, Bool.false_and, Bool.false_eq_true, if_false]
  refine on_bind (on_attempt (on_mono h (fun f s₁ h₁ => ?_) fun e s₁ h₁ => ?_))
  · cases f <;> first | exact h₁ | exact on_pure h₁
  · exact on_bind (on_any (wpAny_mono h₁ (fun _ _ h₂ => on_bind (on_any (wpAny_mono h₂ (fun _ _ h₃ => on_any h₃) fun _ _ x => x))) fun _ _ x => x))
theorem on_Assign {x : Str} {pos' : Pos} {value : PySem.Expr} {pos : Pos} (h : wpOn P (model prog w) A (eval value env) (fun v s₁ => wpAny (model prog w) A (storeName env x v) (fun _ => Q .next) E s₁) E s)
    (hs : swapsWith value (some (.Name x pos')) pos.line env = pure false := by rfl) : wpOn P (model prog w) A (exec (.Assign [.Name x pos'] value pos) env) Q E s := by
  rw [exec_Assign_Name env x pos' value pos hs]
  refine on_bind (on_standAt (on_bind (on_mono h (fun v s₁ h₁ => ?_) fun _ _ e => e)))
  refine on_bind (on_standAt (on_bind (on_any (wpAny_bindName (wpAny_mono h₁ (fun _ _ q => on_pure q) fun _ _ e => e)))))
theorem on_For0 {target iter : PySem.Expr} {body : List Stmt} {pos : Pos} (hP : ∀ Γ c h p, P Γ → P (Γ.enter c h p))
    (h : wpAny (model prog w) A (eval iter env) (fun x s₁ => wpAny (model prog w) A (pyIter x) (fun it s₂ =>
      codeOn P (model prog w) A (.forLoop target it body [] env) (fun r s' => match r with | .ok f => Q f s' | .error e => cameBackBy (model prog w) A env E e s') s₂) E s₁) E s)
    (hs : ∀ x, foldedSetIterable iter env x = pure x := by intro _; rfl) : wpOn P (model prog w) A (exec (.For target iter body [] pos) env) Q E s := by
  rw [exec_For]
  refine on_bind (on_standAt (on_bind (on_any (wpAny_mono h (fun x s₁ h₁ => ?_) fun _ _ e => e))))
  refine on_bind (on_any (wpAny_of_eq (hs x) ?_))
  refine on_bind (on_standAt (on_bind (on_holding (on_any (wpAny_mono h₁ (fun it s₂ h₂ => ?_) fun _ _ e => e)))))
  unfold runOwn
  exact on_onRaise (on_mono (on_run (P' := P) (fun Γ p q => hP _ _ _ _ q) h₂) (fun _ _ q => q) fun _ _ q => on_any q)
theorem codeOn_forLoop {R : Result → Shared → Prop} {target it} {body : List Stmt} (hgo : ∀ Γ c, P Γ → P (Γ.goto c)) (I : Nat → Shared → Prop)
    (turn : ∀ n s, I n s → wpAny (model prog w) A (pyNext it) (fun r s₁ => match r with
      | none => R (.ok .next) s₁
      | some v => wpAny (model prog w) A (assign target env v) (fun _ s₂ => wpOn P (model prog w) A (execs body env) (fun f s₃ => match f with
          | .next | .cont => ∃ m, m < n ∧ I m s₃
          | .brk => R (.ok .next) s₃
          | .ret v => R (.ok (.ret v)) s₃) (notedBy (model prog w) A env fun e s' => R (.error e) s') s₂) (notedBy (model prog w) A env fun e s' => R (.error e) s') s₁) (notedBy (model prog w) A env fun e s' => R (.error e) s') s)
    (n : Nat) (h : I n s) (ht : ∀ v, letOwnedTupleGo target it v = pure () := by intro _; rfl) : codeOn P (model prog w) A (.forLoop target it body [] env) R s := by
  refine codeOn_loop (fun Γ q => hgo Γ _ q) rfl I (fun n s hI => ?_) n h
  show wpOn _ _ _ ((forTurn target it body [] env).onRaise (fun x => do noteFrame x env; theTreesLotGoes x)) _ _ s
  refine on_onRaise (on_mono (E := notedBy (model prog w) A env fun e s' => R (.error e) s') ?_ (fun _ _ q => q) fun _ _ hx => on_any (wpAny_bind (wpAny_mono hx (fun _ _ e => wpAny_theTreesLotGoes e) fun _ _ e => e)))
  simp only [forTurn]
  refine on_bind (on_standAt (on_bind (on_any (wpAny_onRaise (wpAny_mono (turn n s hI) (fun r s₁ h₁ => ?_) fun _ _ h' => wpAny_standAt h')))))
  cases r with
  | none => exact on_pure (.inr ⟨rfl, P, fun Γ q => hgo _ _ q, codeOn_any (codeAny_block (wpAny_execs_nil h₁))⟩)
  | some v =>
    refine on_bind (on_any (wpAny_of_eq (ht v) ?_))
    refine on_bind (on_any (wpAny_mono h₁ (fun _ s₂ h₂ => on_bind (on_mono h₂ (fun f s₃ h₃ => ?_) fun _ _ h' => h')) fun _ _ h' => h'))
    cases f with
    | next => exact on_pure (.inl ⟨rfl, h₃⟩)
    | cont => exact on_pure (.inl ⟨rfl, h₃⟩)
    | brk => exact on_pure h₃
    | ret v => exact on_pure h₃
end
end Mine
end
section
open PySem PySem.W PySem.W.X PyProof.Rows PySem.Calls PySem.Spec
set_option maxRecDepth 100000
set_option maxHeartbeats 4000000
namespace Mine
section
variable {P : PySem.Ctx → Prop} {prog : Program} {w : World} {A : Around} {s : Shared} {R : Result → Shared → Prop}
theorem codeOn_func {body : List Stmt} {env : PySem.Env}
    (h : wpOn P (model prog w) (A.deeper env) (execs body env) (fun f s' => R (.ok (.ret (match f with | .ret v => v | _ => .none))) s')
      (fun e s' => wpAny (model prog w) (A.deeper env) (leaving env e) (fun _ s'' => R (.error e) s'') (fun e' s'' => R (.error e') s'') s') s) : codeOn P (model prog w) A (.func body env) R s := by
  refine codeOn_of_tree ?_
  show wpOn _ _ (A.deeper env) (do point; match ← (execs body env).onRaise (leaving env) with | .ret v => ret v | _ => ret .none) _ _ s
  refine on_bind (on_any (wpAny_point (on_bind (on_onRaise (on_mono h (fun f s' h' => ?_) fun _ _ h' => on_any h')))))
  cases f <;> exact on_pure h'
theorem codeOn_call_def {a : Addr} {o : Obj} {fd : FuncData} {body : List Stmt} {args : Args} {binds : List (Str × Value)} (hgo : ∀ Γ c, P Γ → P (Γ.goto c))
    (hroom : A.depth < recursionLimit) (ho : s.heap.get? a = some o) (hdata : o.data = .func fd) (hlim : s.heap.NoLimit) (hcd : s.heap.CodeRec fd.code fd.qualname)
    (hbody : fd.body = .stmts body) (hbind : BindsTo s fd args binds)
    (hcell : ∀ x ∈ fd.scope.names, x.2 ≠ .cell) (hloc : ∀ x ∈ binds, fd.scope.names.lookup x.1 = some .local)
    (h : ∀ h₀, h₀.Ns s.heap.objs.size (fun x => binds.reverse.lookup x) → (∀ b o, s.heap.get? b = some o → h₀.get? b = some o) →
      wpOn P (model prog w) (A.deeper (callEnv fd s.heap.objs.size a)) (execs body (callEnv fd s.heap.objs.size a)) (fun f s' => R (.ok (.ret (match f with | .ret v => v | _ => .none))) s')
        (fun e s' => wpAny (model prog w) (A.deeper (callEnv fd s.heap.objs.size a)) (leaving (callEnv fd s.heap.objs.size a) e) (fun _ s'' => R (.error e) s'') (fun e' s'' => R (.error e') s'') s')
        { s with heap := h₀, toks := s.toks + binds.length })
    (hco : fd.scope.isCoroutine = false := by rfl) (hgen : fd.scope.isGenerator = false := by rfl) (hk : fd.scope.kind = .function := by rfl) :
    codeOn P (model prog w) A (.call (.ref a) args) R s := by
  refine codeOn_of_tree ?_
  show wpOn _ _ A.in1 (callAny (.ref a) args) _ _ s
  simp only [callAny]
  refine on_bind (on_any (wpAny_load ho ?_))
  obtain ⟨c, oc, vs, tq, hc, hoc, hdc, hq⟩ := hcd
  simp only [hdata, callFunction, hco, hgen, hbody, hc]
  refine on_bind (m := field (.ref c) 1) (on_any (wpAny_field hoc hdc hq (on_bind (on_pure ?_))))
  refine on_bind (on_any (hbind _ _ _ _ ?_))
  refine on_bind (on_any ?_)
  rw [← hc]
  refine wpAny_newFunctionEnv hcell hloc (fun h₀ hns₀ hsb₀ => ?_) hk
  refine on_bind (on_any (wpAny_enterFrame (hlim.fresh _ hsb₀) hroom ?_))
  refine on_pure ⟨rfl, P, fun Γ q => hgo _ _ q, codeOn_func (h h₀ hns₀ fun b o e => ?_)⟩
  exact hsb₀.extBut b o (Nat.ne_of_lt (Heap.lt_size e)) (Heap.get?_push_of_some _ e)
end
/-- entering a def of the text over a ground, in contexts of a kind -/
theorem enterOn {P : PySem.Ctx → Prop} {w : World} {K : Frag} {A : Around} {s : Shared} {mg mb : Str → Option Value} {f : Addr} {args : Args} {binds : List (Str × Value)}
    {name qual : Str} {params : Arguments} {body : List Stmt} {scope : Scope} {dV kV doc pm cdv ct oc : Value} {an od : Option Addr} {osl : Array (Option Value)} {R : Result → Shared → Prop} {g : Heap} {led : List (Addr × Obj)} (hgo : ∀ Γ c, P Γ → P (Γ.goto c))
    (hg : g = hideAll s.heap (led.map (·.1))) (hl : ∀ p ∈ led, s.heap.get? p.1 = some p.2) (X : K.In g) (T : TopRead q1 loose1 mg mb g)
    (ho : K.lookup f = some ⟨oc, od, .func (fnOf name qual params body scope dV kV doc pm an cdv ct), osl⟩) (hcd : codeIn K cdv qual = true) (hroom : A.depth < recursionLimit)
    (hbind : BindsTo s (fnOf name qual params body scope dV kV doc pm an cdv ct) args binds) (hloc : ∀ y ∈ binds, scope.names.lookup y.1 = some .local)
    (h : ∀ L h₁, Fr g L h₁ (fun y => binds.reverse.lookup y) → News g L h₁ led → (∀ p ∈ led, p.1 < L) →
      wpOn P (model pw w) (A.deeper (envOf qual scope L f cdv)) (execs body (envOf qual scope L f cdv)) (fun fl s' => R (.ok (.ret (match fl with | .ret v => v | _ => .none))) s')
        (fun e s' => wpAny (model pw w) (A.deeper (envOf qual scope L f cdv)) (leaving (envOf qual scope L f cdv) e) (fun _ s'' => R (.error e) s'') (fun e' s'' => R (.error e') s'') s')
        { s with heap := h₁, toks := s.toks + binds.length })
    (hco : scope.isCoroutine = false) (hgen : scope.isGenerator = false) (hk : scope.kind = .function) (hcell : ∀ x ∈ scope.names, x.2 ≠ .cell) :
    codeOn P (model pw w) A (.call (.ref f) args) R s := by
  subst hg
  have up : ∀ b o, (hideAll s.heap (led.map (·.1))).get? b = some o → s.heap.get? b = some o := fun b o e => of_hideAll _ e
  refine codeOn_call_def (fd := fnOf name qual params body scope dV kV doc pm an cdv ct) (body := body) (binds := binds) hgo hroom (X.keeps up _ _ ho) rfl (T.nolimit.keeps up) (codeRec_of (X.keeps up) hcd) rfl hbind hcell hloc (fun h₁ hns hk₁ => ?_) hco hgen hk
  exact h s.heap.objs.size h₁ ⟨hns, fun b o e => hk₁ b o (up b o e), Nat.le_of_eq (hideAll_size _ _)⟩
    (fun p hp => ⟨hk₁ _ _ (hl p hp), Nat.ne_of_lt (Heap.lt_size (hl p hp)), hideAll_none _ (List.mem_map_of_mem hp)⟩) fun p hp => Heap.lt_size (hl p hp)
section
variable {P : PySem.Ctx → Prop} {prog : Program} {w : World} {A : Around} {E : Value → Shared → Prop} {s : Shared} {env : PySem.Env} {h₀ : Heap} {x : Str} {px : Pos} {body : List Stmt} {Q : Flow → Shared → Prop}
/-- a loop over texts, in contexts of a kind -/
theorem strs_codeOn {σ : Type} {l : Addr} {vs : List Value} {ps : List Str} {nn : Nat} {m₀ : Str → Option Value} {R : Result → Shared → Prop} {E' : Value → Shared → Prop} (Led : σ → List (Addr × Obj)) (pr : σ → List (Str × Value)) (Facts : σ → Prop) (stored : List Str) (J : List Str → σ → Prop) (c₀ : σ)
    (hgo : ∀ Γ c, P Γ → P (Γ.goto c)) (hh : A.handled = none) (hx : env.kindOf x = some .local) (hpp : (env.scope.kind == .class || (env.scope.kind == .module && env.locals != env.globals)) = false)
    (hE : ∀ e s', E' e s' → notedBy (model prog w) A env (fun e s' => R (.error e) s') e s') (hQ : ∀ v s', Q (.ret v) s' → R (.ok (.ret v)) s') (hQn : ∀ s', Q .next s' → R (.ok .next) s')
    (hl : ∀ c : σ, (l, listOf vs.toArray nn) ∈ Led c) (hi : StrsAre vs ps) (had : ∀ c, (Led c).map (·.1) = (Led c₀).map (·.1)) (F : Fr h₀ env.locals s.heap m₀) (N : News h₀ env.locals s.heap (Led c₀)) (hf : Facts c₀) (hk : ∀ p ∈ pr c₀, m₀ p.1 = some p.2) (hp : J [] c₀)
    (turn : ∀ (c : σ) pre post y t (u : Str → Option Value) h tk own, ps = pre ++ y :: post → OwnOff own ((Led c₀).map (·.1)) → Facts c → J pre c →
      Fr h₀ env.locals h (fun z => if z = x then some (.str y t) else kstB (fun z => if stored.contains z then u z else m₀ z) (pr c) z) → News h₀ env.locals h (Led c ++ own) →
      wpOn P (model prog w) A (execs body env) (InvPostN h₀ env.locals (SlS Led pr Facts x stored m₀ J (pre ++ [y])) own ((Led c₀).map (·.1)) { s with heap := h, toks := tk } Q) E' { s with heap := h, toks := tk })
    (done : ∀ (c : σ) (u : Str → Option Value) h tk, Facts c → J ps c → Fr h₀ env.locals h (fun z => if z = x then u z else kstB (fun z => if stored.contains z then u z else m₀ z) (pr c) z) → News h₀ env.locals h (Led c) → R (.ok .next) { s with heap := h, toks := tk }) :
    wpAny (model prog w) A (pyIter (.ref l)) (fun it s₂ => codeOn P (model prog w) A (.forLoop (.Name x px) it body [] env) R s₂) E s := by
  have hol : s.heap.get? l = some (listOf vs.toArray nn) := (N _ (hl c₀)).1
  have hls : s.heap.IsList l vs.toArray := ⟨_, hol, rfl, nn, rfl⟩
  obtain ⟨I, hI⟩ : ∃ I, I = s.heap.objs.size := ⟨_, rfl⟩
  have off : ∀ p ∈ Led c₀, p.1 ≠ I := fun p hp => by rw [hI]; exact Nat.ne_of_lt (Heap.lt_size (N p hp).1)
  have offA : ∀ c, ∀ p ∈ Led c, p.1 ≠ I := fun c p hp => by
    have h1 : p.1 ∈ (Led c).map (·.1) := List.mem_map.mpr ⟨p, hp, rfl⟩
    rw [had c] at h1
    obtain ⟨q, hq, e⟩ := List.mem_map.mp h1
    exact e ▸ off q hq
  have hLI : env.locals ≠ I := by rw [hI]; exact Nat.ne_of_lt F.ns.lt
  have h0I : h₀.get? I = none := by
    cases q : h₀.get? I with
    | none => rfl
    | some o => have := F.keep _ _ q; exact absurd (Heap.lt_size this) (by rw [hI]; exact Nat.lt_irrefl _)
  refine wpAny_pyIter_list hls ?_
  rw [← hI]
  have hlen : ps.length = vs.length := hi.length.symm
  refine codeOn_forLoop hgo
    (fun k s' => ∃ h tk m i c, s' = { s with heap := h, toks := tk } ∧ h.IsListIter I l i ∧ Fr h₀ env.locals h m ∧ News h₀ env.locals h (Led c) ∧ Facts c ∧ (∀ p ∈ pr c, m p.1 = some p.2) ∧ (∀ z, z ≠ x → (∀ p ∈ pr c, z ≠ p.1) → stored.contains z = false → m z = m₀ z) ∧ J (ps.take i) c ∧ i ≤ ps.length ∧ k = ps.length + 1 - i) ?_ (ps.length + 1)
    ⟨_, _, m₀, 0, c₀, rfl, ⟨_, by rw [hI]; exact Heap.get?_push_size _ rfl, rfl, rfl⟩, F.push _, fun p hp => ⟨Heap.get?_push_of_some _ (N p hp).1, (N p hp).2⟩, hf, hk, fun _ _ _ _ => rfl, by simpa using hp, Nat.zero_le _, rfl⟩
  rintro k s' ⟨h, tk, m, i, c, rfl, hit, F', N', hf', h1, h2, hj, hin, rfl⟩
  have hl' : h.IsList l vs.toArray := ⟨_, (N' _ (hl c)).1, rfl, nn, rfl⟩
  by_cases hlt : i < ps.length
  · obtain ⟨y, hy⟩ : ∃ y, ps[i]? = some y := ⟨ps[i], by simp [hlt]⟩
    obtain ⟨t, ht⟩ := hi.at hy
    refine wpAny_pyNext_list_item hit hl' (x := .str y t) (by simpa using ht) fun h₁ hit₁ hs₁ => ?_
    have F₁ : Fr h₀ env.locals h₁ m := ⟨F'.ns.sameBut hs₁ hLI, fun b o e => hs₁.extBut b o (fun q => by rw [q, h0I] at e; cases e) (F'.keep b o e), F'.above⟩
    have N₁ : News h₀ env.locals h₁ (Led c) := fun p hp => ⟨hs₁.extBut _ _ (offA c p hp) (N' p hp).1, (N' p hp).2⟩
    refine wpAny_assign_Name (wpAny_storeName_local hx F₁.ns (fun h₂ hn₂ hs₂ => ?_) hpp)
    have F₂ := F₁.set hn₂ hs₂
    have N₂ := N₁.set hs₂
    obtain ⟨oI, hoI, hIc, hId⟩ := id hit₁
    have hoI₂ : h₂.get? I = some oI := hs₂.extBut _ _ hLI.symm hoI
    have htk : ps.take (i + 1) = ps.take i ++ [y] := by simp [List.take_add_one, hy]
    have hps : ps = ps.take i ++ y :: ps.drop (i + 1) := by
      have ht := List.take_append_drop (i + 1) ps
      rw [htk, List.append_assoc] at ht
      exact ht.symm
    have em : (fun z => if z = x then some (Value.str y t) else kstB (fun z => if stored.contains z then m z else m₀ z) (pr c) z) = fun z => if z = x then some (Value.str y t) else m z := by
      funext z
      by_cases hz : z = x
      · rw [if_pos hz, if_pos hz]
      · rw [if_neg hz, if_neg hz]
        exact kst_off h1 h2 hz
    have hown : OwnOff [(I, oI)] ((Led c₀).map (·.1)) := by
      intro p hp b hb e
      rw [List.mem_singleton.mp hp] at e
      obtain ⟨q, hq, rfl⟩ := List.mem_map.mp hb
      exact off q hq e.symm
    have Nt : News h₀ env.locals h₂ (Led c ++ [(I, oI)]) := by
      intro p hp
      rcases List.mem_append.mp hp with hp | hp
      · exact N₂ p hp
      · rw [List.mem_singleton.mp hp]
        exact ⟨hoI₂, hLI.symm, h0I⟩
    have fin : ∀ s₃, InvEndN h₀ env.locals (SlS Led pr Facts x stored m₀ J (ps.take i ++ [y])) [(I, oI)] ((Led c₀).map (·.1)) { s with heap := h₂, toks := tk + 1 } s₃ →
        ∃ k, k < ps.length + 1 - i ∧ ∃ h tk m i c, s₃ = { s with heap := h, toks := tk } ∧ h.IsListIter I l i ∧ Fr h₀ env.locals h m ∧ News h₀ env.locals h (Led c) ∧ Facts c ∧ (∀ p ∈ pr c, m p.1 = some p.2) ∧ (∀ z, z ≠ x → (∀ p ∈ pr c, z ≠ p.1) → stored.contains z = false → m z = m₀ z) ∧ J (ps.take i) c ∧ i ≤ ps.length ∧ k = ps.length + 1 - i := by
      rintro s₃ ⟨h', tk', m', news', nx, rfl, F₃, N₃, hn, ho, ha, c', rfl, hf₃, h1', h2', hj'⟩
      refine ⟨ps.length + 1 - (i + 1), by omega, h', tk', m', i + 1, c', rfl, ⟨oI, (N₃ _ (ho _ (.head _))).1, hIc, hId⟩, F₃, fun p hp => N₃ p (hn p hp), hf₃, h1', h2', by rw [htk]; exact hj', hlt, rfl⟩
    refine on_mono (turn c _ _ y t m h₂ (tk + 1) [(I, oI)] hps hown hf' hj (by rw [em]; exact F₂) Nt) (fun f s₃ p => ?_) hE
    cases f with
    | ret v => exact hQ v s₃ p
    | brk => exact hQn s₃ p
    | next => exact fin s₃ p
    | cont => exact fin s₃ p
  · have hin' : i = ps.length := by omega
    subst hin'
    refine wpAny_pyNext_list_end hh hit hl' (by rw [Array.getElem?_eq_none_iff]; simp [hlen]) fun h₁ hs₁ => ?_
    rw [List.take_length] at hj
    refine done c m h₁ tk hf' hj ?_ fun p hp => ⟨hs₁ _ _ (offA c p hp) (N' p hp).1, (N' p hp).2⟩
    have em : (fun z => if z = x then m z else kstB (fun z => if stored.contains z then m z else m₀ z) (pr c) z) = m := by
      funext z
      by_cases hz : z = x
      · rw [if_pos hz]
      · rw [if_neg hz]
        exact kst_off h1 h2 hz
    rw [em]
    obtain ⟨oL, es, ep, hL, hr⟩ := F'.ns
    exact ⟨⟨oL, es, ep, hs₁ _ _ hLI hL, hr⟩, fun b o e => hs₁ b o (fun q => by rw [q, h0I] at e; cases e) (F'.keep b o e), F'.above⟩
end
end Mine
end
section
open PySem PySem.W PySem.W.X PyProof.Rows PySem.Calls
set_option maxRecDepth 100000
set_option maxHeartbeats 8000000
namespace Mine
theorem hasC_shut : Shut HasC where
  enter := fun Γ c h p _ q => q.enter
  goto := fun Γ c _ q => q
  no := fun Γ p q => by
    have e : (((Γ.code, p) :: Γ.below).map (·.1)).any Code.isCaller = true := by
      rw [List.map_cons, List.any_cons, Bool.or_eq_true]
      right
      rw [List.any_map]
      exact q
    unfold pythonCodeMadeTheCall
    simp only [Bool.and_eq_false_iff, Bool.not_eq_false']
    exact .inl (.inl e)
section
variable {P : PySem.Ctx → Prop} {prog : Program} {w : World} {A : Around} {E : Value → Shared → Prop} {s : Shared} {env : PySem.Env} {Q : Value → Shared → Prop}
theorem on_Call_Name {x : Str} {p pos : Pos} {args : List PySem.Expr} (h : wpAny (model prog w) A (eval (.Name x p) env) (fun f s₁ => wpOn P (model prog w) A (callWith pos f [] (backTo pos (starEach args env)) []) Q E s₁) E s) :
    wpOn P (model prog w) A (eval (.Call (.Name x p) args [] pos) env) Q E s := on_bind (on_any h)
theorem on_callWith_type {pos : Pos} {T : String} {e : PySem.Expr} {rest : List PySem.Expr}
    (h : wpAny (model prog w) A (spliced (backTo pos (starEach (e :: rest) env))) (fun vs s₁ => wpOn P (model prog w) A (call (.type T) vs) Q E s₁) E s)
    (he : starEach (e :: rest) env = (false, eval e env) :: starEach rest env := by rfl) (hplain : (backTo pos (starEach rest env)).any (·.1) = false := by rfl) :
    wpOn P (model prog w) A (callWith pos (.type T) [] (backTo pos (starEach (e :: rest) env)) []) Q E s := by
  rw [he] at h ⊢
  have hp : (backTo pos ((false, eval e env) :: starEach rest env)).any (·.1) = false := by
    show (false || (backTo pos (starEach rest env)).any (·.1)) = false
    rw [hplain]; rfl
  unfold callWith
  refine on_bind (on_holding (on_any (Calls.evalArgs_plain (wpAny_mono h (fun vs s₁ h₁ => ?_) fun _ _ x => x))))
  refine on_bind (on_standAt ?_)
  simp only [hp, List.any_nil, Bool.or_false]
  refine on_bind (on_pure ?_)
  exact on_bind (on_mono h₁ (fun r s₂ hr => on_bind (on_holding (on_any (wpAny_point (on_pure hr))))) fun _ _ x => x)
theorem on_keep {α : Type} {t : Sem α} {vs : List Value} {Q : α → Shared → Prop} (h : wpOn P (model prog w) A t Q E s) : wpOn P (model prog w) A (t.keep vs) Q E s := fun Γ p hP hΓ => by
  rw [Sem.wp_keep]
  exact h Γ p hP hΓ
theorem on_callWith_ref {pos : Pos} {a : Addr} {o : Obj} {fd : FuncData} {e : PySem.Expr} {rest : List PySem.Expr}
    (h : wpAny (model prog w) A (spliced (backTo pos (starEach (e :: rest) env))) (fun vs s₁ => (s₁.heap.get? a = some o ∧ o.data = .func fd) ∧ wpOn P (model prog w) A (call (.ref a) vs) Q E s₁) E s)
    (he : starEach (e :: rest) env = (false, eval e env) :: starEach rest env := by rfl) (hplain : (backTo pos (starEach rest env)).any (·.1) = false := by rfl) :
    wpOn P (model prog w) A (callWith pos (.ref a) [] (backTo pos (starEach (e :: rest) env)) []) Q E s := by
  rw [he] at h ⊢
  have hp : (backTo pos ((false, eval e env) :: starEach rest env)).any (·.1) = false := by
    show (false || (backTo pos (starEach rest env)).any (·.1)) = false
    rw [hplain]; rfl
  unfold callWith
  refine on_bind (on_holding (on_any (Calls.evalArgs_plain (wpAny_mono h (fun vs s₁ h₁ => ?_) fun _ _ x => x))))
  refine on_bind (on_standAt ?_)
  simp only [hp, List.any_nil, Bool.or_false]
  have tail : ∀ {t : Sem Value}, wpOn P (model prog w) A t Q E s₁ → wpOn P (model prog w) A (t >>= fun r => holding [r] point >>= fun _ => pure r) Q E s₁ :=
    fun ht => on_bind (on_mono ht (fun r s₂ hr => on_bind (on_holding (on_any (wpAny_point (on_pure hr))))) fun _ _ x => x)
  refine on_bind (m := keeperOf (.ref a)) ?_
  unfold keeperOf
  refine on_bind (on_any (wpAny_load h₁.1.1 ?_))
  rw [h₁.1.2]
  refine on_pure ?_
  dsimp only
  split
  · exact tail h₁.2
  · exact tail (by unfold callMarked; exact on_keep h₁.2)
end
end Mine
end
section
open PySem PySem.W PySem.W.X PyProof.Rows PySem.Calls
set_option maxRecDepth 100000
set_option maxHeartbeats 8000000
namespace Mine
structure CcSt where
  vs : List Value
  n : Nat
  o0 : Obj
noncomputable def ccLed (r l : Addr) (pv : List Value) (nn : Nat) (L0 : Addr) (c : CcSt) : List (Addr × Obj) := [(l, listOf pv.toArray nn), (r, listOf c.vs.toArray c.n), (L0, c.o0)]
noncomputable def CcFacts (o0 : Obj) (c : CcSt) : Prop := ∃ sl, c.o0 = { o0 with slots := sl }
theorem cc_end {h₀ h' : Heap} {L r d L0 D : Addr} {DO o0 o0' : Obj} {v1 v2 : Value} {vs pv : List Value} {n : Nat} {own : List (Addr × Obj)} {m' m₀ : Str → Option Value} {stored pre : List Str} {x : Str} {adr : List Addr} {s₁ : Shared} {Q : Flow → Shared → Prop} {tk : Nat} (F : Fr h₀ L h' m')
    (N : News h₀ L h' ((D, DO) :: (d, listOf pv.toArray 0) :: (r, listOf (vs ++ [v1, v2]).toArray (n + 1)) :: (L0, o0') :: own)) (hf : CcFacts o0 ⟨vs ++ [v1, v2], n + 1, o0'⟩) (ha : [d, r, L0] = adr) (hm : ∀ z, z ≠ x → stored.contains z = false → m' z = m₀ z) (hp : ToldAre (vs ++ [v1, v2]) (pre.filter keepP)) :
    InvPostN h₀ L (SlS (fun c => ccLed r d pv 0 L0 c) (fun _ => []) (CcFacts o0) x stored m₀ (fun pre c => ToldAre c.vs (pre.filter keepP)) pre) own adr s₁ Q .next { s₁ with heap := h', toks := tk } := by
  refine sl_end (Led := fun c => ccLed r d pv 0 L0 c) (pr := fun _ => []) (⟨vs ++ [v1, v2], n + 1, o0'⟩ : CcSt) F N (fun p hp => ?_) (fun p hp => ?_) ha hf (fun p hp => nomatch hp) (fun z h1 _ h3 => hm z h1 h3) hp
  · simp only [ccLed, List.mem_cons, List.not_mem_nil, or_false] at hp ⊢
    rcases hp with h | h | h <;> simp [h]
  · exact .tail _ (.tail _ (.tail _ (.tail _ hp)))
local macro_rules | `(tactic| walk_at "call builtin:re.Pattern.split") => `(tactic| (k_here; k_dflt (refine' split_call ?F ?N ?X ?z ?_; (case F => k_asm); (case N => k_asm); (case X => k_asm); (case z => exact Nat.le_trans (by assumption) (by decide)); k_whole); intro d' pv' ps' h' tk' S' F' N' l1; (try k_lt l1); (try k_sweep)))
theorem cc_spec {w : World} {mg mb : Str → Option Value} {dp un : Nat} {gd : Option (List Code)} {env0 : Env} {s : Shared} {R : Result → Shared → Prop} {text : Str} {t : Tok} {g : Heap} {L0 : Addr} {o0 : Obj}
    (hg : g = hideAll s.heap [L0]) (hL0 : s.heap.get? L0 = some o0) (hn0 : ∀ vs, o0.data ≠ .fields vs) (hfr : env0.frame = some L0) (hke : env0.scope.kind = .function)
    (X : (K3 w.params).In g) (T : TopRead q1 loose1 mg mb g) (hd : dp + 20 < recursionLimit) (hu : un + 200 < cLine) (hlen : text.length ≤ 600) (hch : ∀ c ∈ text.cps.toList, c < 128 ∨ c = 233)
    (hret : ∀ l vs n o0' h' tk', (∀ b o, g.get? b = some o → h'.get? b = some o) → ToldAre vs (rOf text.cps.toList) → h'.get? l = some (listOf vs.toArray n) → g.get? l = none → L0 < l → h'.get? L0 = some o0' → (∃ sl, o0' = { o0 with slots := sl }) → R (.ok (.ret (.ref l))) { s with heap := h', toks := tk' }) :
    codeOn HasC (model pw w) (actx dp un gd [env0]) (.call (.ref 57) ⟨[.str text t], []⟩) R s := by
  have hfill : PySem.Challenge.rw_ox0114_01 = PySem.Challenge.rw_ox0114_01 ∧ K3 = K3 := by
    k_fill
    exact ⟨rfl, rfl⟩
  clear hfill
  have hl : ∀ p ∈ [(L0, o0)], s.heap.get? p.1 = some p.2 := by
    intro p hp
    rw [List.mem_singleton.mp hp]
    exact hL0
  k_dflt (refine' enterOn (led := [(L0, o0)]) (args := ⟨[.str text t], []⟩) (binds := [(Str.ofString "version", .str text t)]) (fun Γ c q => HasC.goto q) hg hl X T ?k6 ?k7 ?k8 ?k9 ?kB ?_ ?c2 ?c3 ?c4 ?c5; (case k6 => k_is); (case k7 => k_is); (case k8 => (dsimp only; omega)); (case k9 => exact BindsTo.of_eq rfl); (case c5 => decide); (case kB => exact locs rfl); (case c2 => exact rfl); (case c3 => exact rfl); (case c4 => exact rfl); k_whole)
  intro L' h' F' N' hlL
  have hLL : L0 < L' := hlL _ (.head _)
  replace hLL := ltN hLL
  clear hlL
  (try dsimp only); (try k_fold)
  refine on_execs_cons (on_any ?_)
  (repeat' ((fail_if_success (with_reducible show wpOn _ _ _ _ _ _ _)); (fail_if_success (with_reducible show wpAny _ _ (noteFrame _ _) _ _ _)); (fail_if_success (with_reducible show InvPostN _ _ _ _ _ _ _ _ _)); (fail_if_success (with_reducible show InvEndN _ _ _ _ _ _ _)); first | (k_unfold; (try dsimp only)) | (with_reducible ((with_reducible show wpAny _ _ (compareOp CmpOp.NotIn (Value.str _ _) (Value.str _ _)) _ _ _); (k_here; with_reducible (first | refine notin_t (by with_reducible assumption) ?_ | refine notin_f (by with_reducible assumption) ?_)))) | (with_reducible (k_here; (with_reducible show wpAny _ _ (call (Value.type "int") [Value.str _ _, Value.int 10 _]) _ _ _); (refine int2_ok (by assumption) (by assumption) ?_; intro tk' t'))) | (with_reducible ((with_reducible show wpAny _ _ (call (Value.builtin "dict.get") _) _ _ _); (k_here; k_dflt (refine' rank_get ?X ?_; (case X => k_in); k_whole); intro t' tk'))) | (with_reducible (k_here; (with_reducible show wpAny _ _ (getMethod (Value.ref 49) _ _) _ _ _); k_dflt (refine' split_method ?X ?_; (case X => k_in); k_whole))) | walk1 | (dsimp only; walk1)))
  dsimp only
  refine on_execs_cons (on_any ?_)
  (repeat' ((fail_if_success (with_reducible show wpOn _ _ _ _ _ _ _)); (fail_if_success (with_reducible show wpAny _ _ (noteFrame _ _) _ _ _)); (fail_if_success (with_reducible show InvPostN _ _ _ _ _ _ _ _ _)); (fail_if_success (with_reducible show InvEndN _ _ _ _ _ _ _)); first | (k_unfold; (try dsimp only)) | (with_reducible ((with_reducible show wpAny _ _ (compareOp CmpOp.NotIn (Value.str _ _) (Value.str _ _)) _ _ _); (k_here; with_reducible (first | refine notin_t (by with_reducible assumption) ?_ | refine notin_f (by with_reducible assumption) ?_)))) | (with_reducible (k_here; (with_reducible show wpAny _ _ (call (Value.type "int") [Value.str _ _, Value.int 10 _]) _ _ _); (refine int2_ok (by assumption) (by assumption) ?_; intro tk' t'))) | (with_reducible ((with_reducible show wpAny _ _ (call (Value.builtin "dict.get") _) _ _ _); (k_here; k_dflt (refine' rank_get ?X ?_; (case X => k_in); k_whole); intro t' tk'))) | (with_reducible (k_here; (with_reducible show wpAny _ _ (getMethod (Value.ref 49) _ _) _ _ _); k_dflt (refine' split_method ?X ?_; (case X => k_in); k_whole))) | walk1 | (dsimp only; walk1)))
  dsimp only
  refine on_execs_cons (on_For0 (fun Γ c h p q => HasC.enter q) ?_ (by intro _; rfl))
  repeat ((fail_if_success (with_reducible show wpAny _ _ (pyIter _) _ _ _)); first | (k_unfold; (try dsimp only)) | (with_reducible ((with_reducible show wpAny _ _ (compareOp CmpOp.NotIn (Value.str _ _) (Value.str _ _)) _ _ _); (k_here; with_reducible (first | refine notin_t (by with_reducible assumption) ?_ | refine notin_f (by with_reducible assumption) ?_)))) | (with_reducible (k_here; (with_reducible show wpAny _ _ (call (Value.type "int") [Value.str _ _, Value.int 10 _]) _ _ _); (refine int2_ok (by assumption) (by assumption) ?_; intro tk' t'))) | (with_reducible ((with_reducible show wpAny _ _ (call (Value.builtin "dict.get") _) _ _ _); (k_here; k_dflt (refine' rank_get ?X ?_; (case X => k_in); k_whole); intro t' tk'))) | (with_reducible (k_here; (with_reducible show wpAny _ _ (getMethod (Value.ref 49) _ _) _ _ _); k_dflt (refine' split_method ?X ?_; (case X => k_in); k_whole))) | walk1 | (dsimp only; walk1))
  rename (StrsAre _ _ ∧ _) => hS
  obtain ⟨hS1, hS2, hS3, hS4, hS5⟩ := hS
  rename News _ _ _ _ => NZ
  rename Fr _ _ _ _ => FZ
  rename_i r _ lr _ d pv ps _ _ ld
  refine' strs_codeOn (l := d) (vs := pv) (ps := ps) (nn := 0) (Q := fun _ _ => False) (E' := fun _ _ => False) (fun c => ccLed r d pv 0 L0 c) (fun _ => []) (CcFacts o0) [Str.ofString "v", Str.ofString "t"] (fun pre c => ToldAre c.vs (pre.filter keepP)) ⟨[], 0, o0⟩ (fun Γ c q => HasC.goto q) rfl rfl rfl (fun _ _ h => h.elim) (fun _ _ h => h.elim) (fun _ h => h.elim) (fun c => List.Mem.head _) hS1 (fun c => rfl) FZ NZ ⟨o0.slots, rfl⟩ (fun p hp => nomatch hp) .nil ?turn ?done
  case done =>
    intro c u h tk hF hP F1 N1
    obtain ⟨vs, n, o0'⟩ := c
    dsimp only
    refine on_any ?_
    (repeat' ((fail_if_success (with_reducible show wpOn _ _ _ _ _ _ _)); (fail_if_success (with_reducible show wpAny _ _ (noteFrame _ _) _ _ _)); (fail_if_success (with_reducible show InvPostN _ _ _ _ _ _ _ _ _)); (fail_if_success (with_reducible show InvEndN _ _ _ _ _ _ _)); first | (k_unfold; (try dsimp only)) | (with_reducible ((with_reducible show wpAny _ _ (compareOp CmpOp.NotIn (Value.str _ _) (Value.str _ _)) _ _ _); (k_here; with_reducible (first | refine notin_t (by with_reducible assumption) ?_ | refine notin_f (by with_reducible assumption) ?_)))) | (with_reducible (k_here; (with_reducible show wpAny _ _ (call (Value.type "int") [Value.str _ _, Value.int 10 _]) _ _ _); (refine int2_ok (by assumption) (by assumption) ?_; intro tk' t'))) | (with_reducible ((with_reducible show wpAny _ _ (call (Value.builtin "dict.get") _) _ _ _); (k_here; k_dflt (refine' rank_get ?X ?_; (case X => k_in); k_whole); intro t' tk'))) | (with_reducible (k_here; (with_reducible show wpAny _ _ (getMethod (Value.ref 49) _ _) _ _ _); k_dflt (refine' split_method ?X ?_; (case X => k_in); k_whole))) | walk1 | (dsimp only; walk1)))
    dsimp only [ccLed] at N1 hP
    rw [hS2] at hP
    exact hret r vs n o0' _ _ F1.keep hP (N1.get (.tail _ (.head _))) (N1.fresh (.tail _ (.head _))) lr (N1.get (.tail _ (.tail _ (.head _)))) hF
  case turn =>
    intro c pre post y ty u h tk own hps hoff hF hP F1 N1
    obtain ⟨vs, n, o0'⟩ := c
    obtain ⟨sl, hsl⟩ := id hF
    dsimp only [ccLed, List.cons_append, List.nil_append] at N1 hP hoff hsl ⊢
    have hym : y ∈ ps := by rw [hps]; exact List.mem_append_right _ (.head _)
    have hz : ∀ z, z ≠ Str.ofString "v" → [Str.ofString "v", Str.ofString "t"].contains z = false → z ≠ Str.ofString "t" := by
      rintro z h1 h3 rfl
      exact absurd h3 (by decide +kernel)
    have a1 : r ≠ d := Nat.ne_of_lt ld.1
    have a2 : L0 ≠ d := Nat.ne_of_lt ld.2
    have a4 : L0 ≠ r := Nat.ne_of_lt lr
    have od := hoff.ne (b := d) (.head _)
    have or := hoff.ne (b := r) (.tail _ (.head _))
    have oL := hoff.ne (b := L0) (.tail _ (.tail _ (.head _)))
    have hvl : vs.length ≤ 2402 := by
      rw [hP.length]
      have h1 := List.length_filter_le keepP pre
      have h2 : pre.length ≤ ps.length := by rw [hps]; simp
      omega
    cases hk : keepP y with
    | false =>
      have hin : inS (Str.ofString "._+-") y = true := by simpa [keepP] using hk
      refine on_any ?_
      (repeat' ((fail_if_success (with_reducible show wpOn _ _ _ _ _ _ _)); (fail_if_success (with_reducible show wpAny _ _ (noteFrame _ _) _ _ _)); (fail_if_success (with_reducible show InvPostN _ _ _ _ _ _ _ _ _)); (fail_if_success (with_reducible show InvEndN _ _ _ _ _ _ _)); first | (k_unfold; (try dsimp only)) | (with_reducible ((with_reducible show wpAny _ _ (compareOp CmpOp.NotIn (Value.str _ _) (Value.str _ _)) _ _ _); (k_here; with_reducible (first | refine notin_t (by with_reducible assumption) ?_ | refine notin_f (by with_reducible assumption) ?_)))) | (with_reducible (k_here; (with_reducible show wpAny _ _ (call (Value.type "int") [Value.str _ _, Value.int 10 _]) _ _ _); (refine int2_ok (by assumption) (by assumption) ?_; intro tk' t'))) | (with_reducible ((with_reducible show wpAny _ _ (call (Value.builtin "dict.get") _) _ _ _); (k_here; k_dflt (refine' rank_get ?X ?_; (case X => k_in); k_whole); intro t' tk'))) | (with_reducible (k_here; (with_reducible show wpAny _ _ (getMethod (Value.ref 49) _ _) _ _ _); k_dflt (refine' split_method ?X ?_; (case X => k_in); k_whole))) | walk1 | (dsimp only; walk1)))
      refine sl_end (Led := fun c => ccLed r d pv 0 L0 c) (pr := fun _ => []) (Q := fun _ _ => False) (⟨vs, n, o0'⟩ : CcSt) F1 N1 (fun p hp => ?_) (fun p hp => ?_) rfl hF (fun p hp => nomatch hp) (fun z h1 _ h3 => ?_) ?_
      · simp only [ccLed, List.mem_cons, List.not_mem_nil, or_false] at hp ⊢
        rcases hp with h | h | h <;> simp [h]
      · exact .tail _ (.tail _ (.tail _ hp))
      · simp only [if_neg h1]
        show (if _ then _ else _) = _
        rw [h3]
        rfl
      · rw [List.filter_append, List.filter_cons_of_neg (by rw [hk]; decide)]
        simpa using hP
    | true =>
      have hin : inS (Str.ofString "._+-") y = false := by simpa [keepP] using hk
      have hyr : y ∈ rOf text.cps.toList := by rw [← hS2]; exact List.mem_filter.mpr ⟨hym, hk⟩
      have hyl : y.length ≤ 640 := by
        have := rOf_mem_len y hyr
        rw [cps_len] at this
        omega
      rcases hS3 y hym hk with hy | hy
      · have hn := fig_int hy (by omega)
        refine on_any ?_
        (repeat' ((fail_if_success (with_reducible show wpOn _ _ _ _ _ _ _)); (fail_if_success (with_reducible show wpAny _ _ (noteFrame _ _) _ _ _)); (fail_if_success (with_reducible show InvPostN _ _ _ _ _ _ _ _ _)); (fail_if_success (with_reducible show InvEndN _ _ _ _ _ _ _)); first | (k_unfold; (try dsimp only)) | (with_reducible ((with_reducible show wpAny _ _ (compareOp CmpOp.NotIn (Value.str _ _) (Value.str _ _)) _ _ _); (k_here; with_reducible (first | refine notin_t (by with_reducible assumption) ?_ | refine notin_f (by with_reducible assumption) ?_)))) | (with_reducible (k_here; (with_reducible show wpAny _ _ (call (Value.type "int") [Value.str _ _, Value.int 10 _]) _ _ _); (refine int2_ok (by assumption) (by assumption) ?_; intro tk' t'))) | (with_reducible ((with_reducible show wpAny _ _ (call (Value.builtin "dict.get") _) _ _ _); (k_here; k_dflt (refine' rank_get ?X ?_; (case X => k_in); k_whole); intro t' tk'))) | (with_reducible (k_here; (with_reducible show wpAny _ _ (getMethod (Value.ref 49) _ _) _ _ _); k_dflt (refine' split_method ?X ?_; (case X => k_in); k_whole))) | walk1 | (dsimp only; walk1)))
        rename_i D h9 F9 N9 l9
        k_dflt (refine' kup_extend (its := vs.toArray) F9 N9 (.head _) rfl ?ne (.tail (Nat.ne_of_gt l9.2.1) (.tail a1.symm (.head ?U))) ?d ?z ?y ?_)
        (case ne => simp)
        (case U =>
          intro p hp
          rcases List.mem_cons.mp hp with rfl | hp
          · exact a4
          · exact or p hp)
        (case d => simp [Builtin.List.listTooLong, sizeLine_eq]; omega)
        (case z => simp [sizeLine_eq]; omega)
        (case y => simp [sizeLine_eq]; omega)
        intro h10 F10 N10
        dsimp only [List.cons_append, List.nil_append] at N10
        (repeat' ((fail_if_success (with_reducible show wpOn _ _ _ _ _ _ _)); (fail_if_success (with_reducible show wpAny _ _ (noteFrame _ _) _ _ _)); (fail_if_success (with_reducible show InvPostN _ _ _ _ _ _ _ _ _)); (fail_if_success (with_reducible show InvEndN _ _ _ _ _ _ _)); first | (k_unfold; (try dsimp only)) | (with_reducible ((with_reducible show wpAny _ _ (compareOp CmpOp.NotIn (Value.str _ _) (Value.str _ _)) _ _ _); (k_here; with_reducible (first | refine notin_t (by with_reducible assumption) ?_ | refine notin_f (by with_reducible assumption) ?_)))) | (with_reducible (k_here; (with_reducible show wpAny _ _ (call (Value.type "int") [Value.str _ _, Value.int 10 _]) _ _ _); (refine int2_ok (by assumption) (by assumption) ?_; intro tk' t'))) | (with_reducible ((with_reducible show wpAny _ _ (call (Value.builtin "dict.get") _) _ _ _); (k_here; k_dflt (refine' rank_get ?X ?_; (case X => k_in); k_whole); intro t' tk'))) | (with_reducible (k_here; (with_reducible show wpAny _ _ (getMethod (Value.ref 49) _ _) _ _ _); k_dflt (refine' split_method ?X ?_; (case X => k_in); k_whole))) | walk1 | (dsimp only; walk1)))
        refine cc_end (Q := fun _ _ => False) F10 N10 hF rfl (fun z h1 h3 => ?_) ?_
        · simp only [if_neg h1, if_neg (hz z h1 h3)]
          show (if _ then _ else _) = _
          rw [h3]
          rfl
        · rw [List.filter_append, List.filter_cons_of_pos hk]
          exact .fig y _ _ hP hy
      · have hbad := oth_bad hy fun c hc => hch c (hS4 y hym c hc)
        refine on_execs_cons (on_If ?_)
        (repeat' ((fail_if_success (with_reducible show wpOn _ _ _ _ _ _ _)); (fail_if_success (with_reducible show wpAny _ _ (noteFrame _ _) _ _ _)); (fail_if_success (with_reducible show InvPostN _ _ _ _ _ _ _ _ _)); (fail_if_success (with_reducible show InvEndN _ _ _ _ _ _ _)); first | (k_unfold; (try dsimp only)) | (with_reducible ((with_reducible show wpAny _ _ (compareOp CmpOp.NotIn (Value.str _ _) (Value.str _ _)) _ _ _); (k_here; with_reducible (first | refine notin_t (by with_reducible assumption) ?_ | refine notin_f (by with_reducible assumption) ?_)))) | (with_reducible (k_here; (with_reducible show wpAny _ _ (call (Value.type "int") [Value.str _ _, Value.int 10 _]) _ _ _); (refine int2_ok (by assumption) (by assumption) ?_; intro tk' t'))) | (with_reducible ((with_reducible show wpAny _ _ (call (Value.builtin "dict.get") _) _ _ _); (k_here; k_dflt (refine' rank_get ?X ?_; (case X => k_in); k_whole); intro t' tk'))) | (with_reducible (k_here; (with_reducible show wpAny _ _ (getMethod (Value.ref 49) _ _) _ _ _); k_dflt (refine' split_method ?X ?_; (case X => k_in); k_whole))) | walk1 | (dsimp only; walk1)))
        refine on_execs_cons (on_Try (on_execs_cons (on_Assign (on_Call_Name ?_) ?sw)))
        case sw => rfl
        (repeat' ((fail_if_success (with_reducible show wpOn _ _ _ _ _ _ _)); (fail_if_success (with_reducible show wpAny _ _ (noteFrame _ _) _ _ _)); (fail_if_success (with_reducible show InvPostN _ _ _ _ _ _ _ _ _)); (fail_if_success (with_reducible show InvEndN _ _ _ _ _ _ _)); first | (k_unfold; (try dsimp only)) | (with_reducible ((with_reducible show wpAny _ _ (compareOp CmpOp.NotIn (Value.str _ _) (Value.str _ _)) _ _ _); (k_here; with_reducible (first | refine notin_t (by with_reducible assumption) ?_ | refine notin_f (by with_reducible assumption) ?_)))) | (with_reducible (k_here; (with_reducible show wpAny _ _ (call (Value.type "int") [Value.str _ _, Value.int 10 _]) _ _ _); (refine int2_ok (by assumption) (by assumption) ?_; intro tk' t'))) | (with_reducible ((with_reducible show wpAny _ _ (call (Value.builtin "dict.get") _) _ _ _); (k_here; k_dflt (refine' rank_get ?X ?_; (case X => k_in); k_whole); intro t' tk'))) | (with_reducible (k_here; (with_reducible show wpAny _ _ (getMethod (Value.ref 49) _ _) _ _ _); k_dflt (refine' split_method ?X ?_; (case X => k_in); k_whole))) | walk1 | (dsimp only; walk1)))
        refine on_callWith_type ?_
        (repeat' ((fail_if_success (with_reducible show wpOn _ _ _ _ _ _ _)); (fail_if_success (with_reducible show wpAny _ _ (noteFrame _ _) _ _ _)); (fail_if_success (with_reducible show InvPostN _ _ _ _ _ _ _ _ _)); (fail_if_success (with_reducible show InvEndN _ _ _ _ _ _ _)); first | (k_unfold; (try dsimp only)) | (with_reducible ((with_reducible show wpAny _ _ (compareOp CmpOp.NotIn (Value.str _ _) (Value.str _ _)) _ _ _); (k_here; with_reducible (first | refine notin_t (by with_reducible assumption) ?_ | refine notin_f (by with_reducible assumption) ?_)))) | (with_reducible (k_here; (with_reducible show wpAny _ _ (call (Value.type "int") [Value.str _ _, Value.int 10 _]) _ _ _); (refine int2_ok (by assumption) (by assumption) ?_; intro tk' t'))) | (with_reducible ((with_reducible show wpAny _ _ (call (Value.builtin "dict.get") _) _ _ _); (k_here; k_dflt (refine' rank_get ?X ?_; (case X => k_in); k_whole); intro t' tk'))) | (with_reducible (k_here; (with_reducible show wpAny _ _ (getMethod (Value.ref 49) _ _) _ _ _); k_dflt (refine' split_method ?X ?_; (case X => k_in); k_whole))) | walk1 | (dsimp only; walk1)))
        refine int2_bad_on hasC_shut rfl hyl hbad fun h9 tk9 e9 X9 => ?_
        rename Fr _ _ _ _ => Fm
        rename News _ _ _ _ => Nm
        have hsl' : o0' = { o0 with slots := sl } := hsl
        have hn0' : ∀ q, o0'.data ≠ .fields q := by rw [hsl']; exact hn0
        k_dflt (refine' caught_first (A₀ := actx dp un gd [env0]) (T' := "ValueError") rfl (fun_site Fm hfr hke Nm (.tail _ (.tail _ (.head _))) hn0' rfl) X9 Fm ?no T PyProof.Rows.Boot.«ValueError» PySem.F.isExc_ValueError PySem.F.notTuple_ValueError (by kernel_rfl) ?_ (hE := PassesOwnAt.never))
        (case no =>
          intro b hb
          simp only [List.filterMap_cons, hfr, List.filterMap_nil, List.mem_singleton] at hb
          subst hb
          exact (Nm (_, o0') (.tail _ (.tail _ (.head _)))).2.2)
        intro h10 F10 K10
        obtain ⟨sl2, N10⟩ := keep_site (l1 := [(d, listOf pv.toArray 0), (r, listOf vs.toArray n)]) (l2 := own) K10 hfr Nm (by
          intro p hp
          simp only [List.cons_append, List.nil_append, List.mem_cons] at hp
          rcases hp with rfl | rfl | hp
          · exact a2.symm
          · exact a4.symm
          · exact oL p hp) hn0'
        dsimp only [List.cons_append, List.nil_append] at N10
        clear Nm Fm K10
        (repeat' ((fail_if_success (with_reducible show wpOn _ _ _ _ _ _ _)); (fail_if_success (with_reducible show wpAny _ _ (noteFrame _ _) _ _ _)); (fail_if_success (with_reducible show InvPostN _ _ _ _ _ _ _ _ _)); (fail_if_success (with_reducible show InvEndN _ _ _ _ _ _ _)); first | (k_unfold; (try dsimp only)) | (with_reducible ((with_reducible show wpAny _ _ (compareOp CmpOp.NotIn (Value.str _ _) (Value.str _ _)) _ _ _); (k_here; with_reducible (first | refine notin_t (by with_reducible assumption) ?_ | refine notin_f (by with_reducible assumption) ?_)))) | (with_reducible (k_here; (with_reducible show wpAny _ _ (call (Value.type "int") [Value.str _ _, Value.int 10 _]) _ _ _); (refine int2_ok (by assumption) (by assumption) ?_; intro tk' t'))) | (with_reducible ((with_reducible show wpAny _ _ (call (Value.builtin "dict.get") _) _ _ _); (k_here; k_dflt (refine' rank_get ?X ?_; (case X => k_in); k_whole); intro t' tk'))) | (with_reducible (k_here; (with_reducible show wpAny _ _ (getMethod (Value.ref 49) _ _) _ _ _); k_dflt (refine' split_method ?X ?_; (case X => k_in); k_whole))) | walk1 | (dsimp only; walk1)))
        dsimp only
        refine on_any ?_
        (repeat' ((fail_if_success (with_reducible show wpOn _ _ _ _ _ _ _)); (fail_if_success (with_reducible show wpAny _ _ (noteFrame _ _) _ _ _)); (fail_if_success (with_reducible show InvPostN _ _ _ _ _ _ _ _ _)); (fail_if_success (with_reducible show InvEndN _ _ _ _ _ _ _)); first | (k_unfold; (try dsimp only)) | (with_reducible ((with_reducible show wpAny _ _ (compareOp CmpOp.NotIn (Value.str _ _) (Value.str _ _)) _ _ _); (k_here; with_reducible (first | refine notin_t (by with_reducible assumption) ?_ | refine notin_f (by with_reducible assumption) ?_)))) | (with_reducible (k_here; (with_reducible show wpAny _ _ (call (Value.type "int") [Value.str _ _, Value.int 10 _]) _ _ _); (refine int2_ok (by assumption) (by assumption) ?_; intro tk' t'))) | (with_reducible ((with_reducible show wpAny _ _ (call (Value.builtin "dict.get") _) _ _ _); (k_here; k_dflt (refine' rank_get ?X ?_; (case X => k_in); k_whole); intro t' tk'))) | (with_reducible (k_here; (with_reducible show wpAny _ _ (getMethod (Value.ref 49) _ _) _ _ _); k_dflt (refine' split_method ?X ?_; (case X => k_in); k_whole))) | walk1 | (dsimp only; walk1)))
        rename_i D h19 F9 N9 l9
        k_dflt (refine' kup_extend (its := vs.toArray) F9 N9 (.head _) rfl ?ne (.tail (Nat.ne_of_gt l9.2.1) (.tail a1.symm (.head ?U))) ?d ?z ?y ?_)
        (case ne => simp)
        (case U =>
          intro p hp
          rcases List.mem_cons.mp hp with rfl | hp
          · exact a4
          · exact or p hp)
        (case d => simp [Builtin.List.listTooLong, sizeLine_eq]; omega)
        (case z => simp [sizeLine_eq]; omega)
        (case y => simp [sizeLine_eq]; omega)
        intro h20 F20 N20
        dsimp only [List.cons_append, List.nil_append] at N20
        (repeat' ((fail_if_success (with_reducible show wpOn _ _ _ _ _ _ _)); (fail_if_success (with_reducible show wpAny _ _ (noteFrame _ _) _ _ _)); (fail_if_success (with_reducible show InvPostN _ _ _ _ _ _ _ _ _)); (fail_if_success (with_reducible show InvEndN _ _ _ _ _ _ _)); first | (k_unfold; (try dsimp only)) | (with_reducible ((with_reducible show wpAny _ _ (compareOp CmpOp.NotIn (Value.str _ _) (Value.str _ _)) _ _ _); (k_here; with_reducible (first | refine notin_t (by with_reducible assumption) ?_ | refine notin_f (by with_reducible assumption) ?_)))) | (with_reducible (k_here; (with_reducible show wpAny _ _ (call (Value.type "int") [Value.str _ _, Value.int 10 _]) _ _ _); (refine int2_ok (by assumption) (by assumption) ?_; intro tk' t'))) | (with_reducible ((with_reducible show wpAny _ _ (call (Value.builtin "dict.get") _) _ _ _); (k_here; k_dflt (refine' rank_get ?X ?_; (case X => k_in); k_whole); intro t' tk'))) | (with_reducible (k_here; (with_reducible show wpAny _ _ (getMethod (Value.ref 49) _ _) _ _ _); k_dflt (refine' split_method ?X ?_; (case X => k_in); k_whole))) | walk1 | (dsimp only; walk1)))
        dsimp only
        refine on_any (wpAny_execs_nil ?_)
        refine cc_end (Q := fun _ _ => False) F20 N20 (show CcFacts o0 _ from ⟨sl2, by rw [hsl']⟩) rfl (fun z h1 h3 => ?_) ?_
        · simp only [if_neg h1, if_neg (hz z h1 h3)]
          show (if _ then _ else _) = _
          rw [h3]
          rfl
        · rw [List.filter_append, List.filter_cons_of_pos hk]
          exact .oth y _ _ hP hy
end Mine
end
section
open PySem PySem.W PySem.W.X PyProof.Rows PySem.Calls
set_option maxRecDepth 100000
set_option maxHeartbeats 8000000
namespace Mine
section
variable {w : World} {mean : ExcName → Option Value} {mg mb : Str → Option Value} {dp un : Nat} {gd : Option (List Code)} {env0 : Env} {h₀ : Heap} {L : Addr} {m : Str → Option Value} {news : List (Addr × Obj)} {s : Shared} {Q E : Value → Shared → Prop}
theorem fr_ground (F : Fr h₀ L s.heap m) : h₀.get? L = none := by
  cases q : h₀.get? L with
  | none => rfl
  | some o => exact absurd (Nat.lt_of_lt_of_le (Heap.lt_size q) F.above) (Nat.lt_irrefl _)
theorem fr_fresh {l : Addr} (F : Fr h₀ L s.heap m) (hl : s.heap.get? l = none) : l ≠ L ∧ h₀.get? l = none := by
  obtain ⟨oL, es, ep, hL, -⟩ := id F.ns
  refine ⟨fun q => ?_, ?_⟩
  · rw [q, hL] at hl
    cases hl
  · cases q : h₀.get? l with
    | none => rfl
    | some o =>
      rw [F.keep _ _ q] at hl
      cases hl
theorem news_ne {l : Addr} (N : News h₀ L s.heap news) (hl : s.heap.get? l = none) : ∀ p ∈ news, p.1 ≠ l := fun p hp q => by
  have := (N p hp).1
  rw [q, hl] at this
  cases this
theorem news_put {h' : Heap} {l : Addr} {o : Obj} (N : News h₀ L h' news) (hl : h'.get? l = some o) (hn : l ≠ L ∧ h₀.get? l = none) : News h₀ L h' ((l, o) :: news) := fun p hp => by
  rcases List.mem_cons.mp hp with rfl | hp
  · exact ⟨hl, hn⟩
  · exact N p hp
theorem tk_at {text : Str} {t : Tok} {b : Bool} (F : Fr h₀ L s.heap m) (N : News h₀ L s.heap news) (X : (K2 w.params).In h₀) (T : Top q1 loose1 mean mg mb h₀) (hf : env0.frame = some L) (hke : env0.scope.kind = .function) (hd : dp + 100 < recursionLimit) (hu : un + 1200 < cLine) (hlen : text.length ≤ 100)
    (hret : ∀ l vs n h' tk', StrsAre vs (rOf text.cps.toList) → Fr h₀ L h' m → News h₀ L h' ((l, listOf vs.toArray n) :: news) → (∀ p ∈ news, p.1 ≠ l) → Q (.ref l) { s with heap := h', toks := tk' }) :
    wpAny (model pw w) (actx dp un gd [env0]) (call (.ref 766) [.str text t, .bool b]) Q E s := by
  have B : Below (actx dp un gd [env0]) h₀ [env0] s.heap := ⟨rfl, fun b o e => F.keep b o e, .cons (by rw [hke]; decide) hf F.ns (fr_ground F) trivial⟩
  have st : h₀.StaysIn s.heap := fun b o e => F.keep b o e
  refine tk_spec B (X.keeps st) (T.keeps st) hd hu hlen fun l vs n h' tk' hk hvs hl hn => ?_
  have ho : [env0].filterMap (·.frame) = [L] := by simp [hf]
  have kp : ∀ b o, b ≠ L → s.heap.get? b = some o → h'.get? b = some o := fun b o q e => hk.1 b o e (by rw [ho]; exact fun z => q (List.mem_singleton.mp z))
  have fr := fr_fresh F hn
  refine hret l vs n h' tk' hvs (F.of_stays (fun b o e => kp b o (fun q => ?_) (F.keep b o e)) hk.2) (news_put (fun p hp => ⟨kp _ _ (N p hp).2.1 (N p hp).1, (N p hp).2⟩) hl fr) (news_ne N hn)
  rw [q, fr_ground F] at e
  cases e
theorem runs_at {text : Str} {t : Tok} (F : Fr h₀ L s.heap m) (N : News h₀ L s.heap news) (X : (K2 w.params).In h₀) (T : Top q1 loose1 mean mg mb h₀) (hf : env0.frame = some L) (hke : env0.scope.kind = .function) (hd : dp + 100 < recursionLimit) (hu : un + 1200 < cLine) (hlen : text.length ≤ 100)
    (hret : ∀ l vs n h' tk', StrsAre vs (rOf text.cps.toList) → Fr h₀ L h' m → News h₀ L h' ((l, listOf vs.toArray n) :: news) → (∀ p ∈ news, p.1 ≠ l) → Q (.ref l) { s with heap := h', toks := tk' }) :
    wpAny (model pw w) (actx dp un gd [env0]) (call (.ref 773) [.str text t]) Q E s := by
  have B : Below (actx dp un gd [env0]) h₀ [env0] s.heap := ⟨rfl, fun b o e => F.keep b o e, .cons (by rw [hke]; decide) hf F.ns (fr_ground F) trivial⟩
  have st : h₀.StaysIn s.heap := fun b o e => F.keep b o e
  refine runs_spec B (X.keeps st) (T.keeps st) (by omega) (by omega) hlen fun l vs n h' tk' hk hvs hl hn => ?_
  rw [codes_runs] at hvs
  exact hret l vs n h' tk' hvs (F.of_stays (fun b o e => hk b o (F.keep b o e)) (Heap.UpToSlots.of_keeps hk)) (news_put (N.grown hk) hl (fr_fresh F hn)) (news_ne N hn)
theorem told_at {lr : Addr} {vs : List Value} {n : Nat} {rs : List Str} (F : Fr h₀ L s.heap m) (N : News h₀ L s.heap news) (hm : (lr, listOf vs.toArray n) ∈ news) (X : (K2 w.params).In h₀) (T : Top q1 loose1 mean mg mb h₀) (hs : StrsAre vs rs) (htk : ∀ r ∈ rs, TokOf r) (hrl : rs.length ≤ 600) (hml : ∀ r ∈ rs, r.length ≤ 600) (hd : dp + 20 < recursionLimit) (hu : un + 200 < cLine)
    (hret : ∀ l vs' n' h' tk', ToldAre vs' rs → Fr h₀ L h' m → News h₀ L h' ((l, listOf vs'.toArray n') :: news) → (∀ p ∈ news, p.1 ≠ l) → Q (.ref l) { s with heap := h', toks := tk' }) :
    wpAny (model pw w) (actx dp un gd [env0]) (call (.ref 787) [.ref lr]) Q E s := by
  have st : h₀.StaysIn (hideAll s.heap [lr]) := fun b o e => hideAll_get _ (F.keep b o e) fun q => by
    rw [List.mem_singleton.mp q, N.fresh hm] at e
    cases e
  refine told_spec rfl (N.get hm) hs htk hrl hml ((K3_sub X).keeps st) ((topRead_of T).keeps st) hd hu fun l vs' n' h' tk' hk hl ht ho hn hlt => ?_
  have hk' : ∀ b o, s.heap.get? b = some o → h'.get? b = some o := fun b o e => by
    by_cases q : b = lr
    · subst q
      rw [N.get hm] at e
      rw [← e]
      exact hl
    · exact hk b o (hideAll_get _ e fun z => q (List.mem_singleton.mp z))
  have hn' : s.heap.get? l = none := by
    cases q : s.heap.get? l with
    | none => rfl
    | some o =>
      rw [hideAll_get _ q fun z => absurd (List.mem_singleton.mp z) (Nat.ne_of_gt hlt)] at hn
      cases hn
  exact hret l vs' n' h' tk' ht (F.of_stays (fun b o e => hk' b o (F.keep b o e)) (Heap.UpToSlots.of_keeps hk')) (news_put (N.grown hk') ho (fr_fresh F hn')) (news_ne N hn')
theorem vers_at {ln : Addr} {nv : List Value} {nn : Nat} {ns : List Int} (F : Fr h₀ L s.heap m) (N : News h₀ L s.heap news) (hm : (ln, listOf nv.toArray nn) ∈ news) (X : (K2 w.params).In h₀) (T : Top q1 loose1 mean mg mb h₀) (hns : IntsAre nv ns) (hnl : ns.length ≤ 12) (hd : dp + 20 < recursionLimit) (hu : un + 200 < cLine)
    (hret : ∀ x p t' h' tk', Fr h₀ L h' m → News h₀ L h' news → p.length ≤ 60 → (∀ c ∈ p.cps.toList, c < 128 ∨ c = 233) → (x = Str.ofString "2.07rc1" ++ p ∨ x = p ++ Str.ofString "2.07rc1") → Q (.str x t') { s with heap := h', toks := tk' }) :
    wpAny (model pw w) (actx dp un gd [env0]) (call (.ref 759) [.ref ln]) Q E s := by
  have st : h₀.StaysIn (hideAll s.heap [ln]) := fun b o e => hideAll_get _ (F.keep b o e) fun q => by
    rw [List.mem_singleton.mp q, N.fresh hm] at e
    cases e
  refine vers_spec rfl (N.get hm) hns hnl ((K3_sub X).keeps st) ((topRead_of T).keeps st) hd hu fun x p t' h' tk' hk hl h1 h2 h3 => ?_
  have hk' : ∀ b o, s.heap.get? b = some o → h'.get? b = some o := fun b o e => by
    by_cases q : b = ln
    · subst q
      rw [N.get hm] at e
      rw [← e]
      exact hl
    · exact hk b o (hideAll_get _ e fun z => q (List.mem_singleton.mp z))
  exact hret x p t' h' tk' (F.of_stays (fun b o e => hk' b o (F.keep b o e)) (Heap.UpToSlots.of_keeps hk')) (N.grown hk') h1 h2 h3
theorem slots_back {h' : Heap} {oL o0' : Obj} {ls : List Addr} (F : Fr h₀ L s.heap m) (N : News h₀ L s.heap news) (hL : s.heap.get? L = some oL) (hk : ∀ b o, b ≠ L → s.heap.get? b = some o → h'.get? b = some o) (h1 : h'.get? L = some o0') (h2 : ∃ sl, o0' = { oL with slots := sl }) : Fr h₀ L h' m ∧ News h₀ L h' news := by
  obtain ⟨oL', es, ep, hL', hLd, hLk, hLf⟩ := id F.ns
  rw [hL] at hL'
  cases hL'
  obtain ⟨sl, rfl⟩ := h2
  refine ⟨⟨⟨_, es, ep, h1, hLd, hLk, hLf⟩, fun b o e => hk b o (fun q => ?_) (F.keep b o e), F.above⟩, fun p hp => ⟨hk _ _ (N p hp).2.1 (N p hp).1, (N p hp).2⟩⟩
  rw [q, fr_ground F] at e
  cases e
theorem all_at {lr : Addr} {vs : List Value} {nr : Nat} {rs : List Str} (F : Fr h₀ L s.heap m) (N : News h₀ L s.heap news) (hm : (lr, listOf vs.toArray nr) ∈ news) (X : (K2 w.params).In h₀) (T : Top q1 loose1 mean mg mb h₀) (hf : env0.frame = some L) (hke : env0.scope.kind = .function) (hd : dp + 50 < recursionLimit) (hu : un + 300 < cLine)
    (hs : StrsAre vs rs) (htk : ∀ r ∈ rs, TokOf r) (hch : ∀ r ∈ rs, ∀ c ∈ r.cps.toList, c < 128 ∨ c = 233) (hrl : rs.length ≤ 100) (hml : ∀ r ∈ rs, r.length ≤ 100) (hsum : sumLen rs ≤ 100) (hfg : 2 ≤ (figsOf rs).length)
    (hret : ∀ h' tk', Fr h₀ L h' m → News h₀ L h' news → Q (.bool true) { s with heap := h', toks := tk' }) :
    wpAny (model pw w) (actx dp un gd [env0]) (call (.ref 797) [.ref lr]) Q E s := by
  obtain ⟨oL, es, ep, hL, hLd, hLk, hLf⟩ := id F.ns
  have hne : lr ≠ L := (N _ hm).2.1
  have st : h₀.StaysIn (hideAll s.heap [lr, L]) := fun b o e => hideAll_get _ (F.keep b o e) fun q => by
    simp only [List.mem_cons, List.not_mem_nil, or_false] at q
    rcases q with rfl | rfl
    · rw [N.fresh hm] at e; cases e
    · rw [fr_ground F] at e; cases e
  refine all_spec rfl (N.get hm) hL (fun vs => by rw [hLd]; exact fun q => nomatch q) hf hke hne ((K3_sub X).keeps st) ((topRead_of T).keeps st) hd hu hs htk hch hrl hml hsum hfg fun o0' h' tk' hk hl h1 h2 => ?_
  have hk' : ∀ b o, b ≠ L → s.heap.get? b = some o → h'.get? b = some o := fun b o n e => by
    by_cases q : b = lr
    · subst q
      rw [N.get hm] at e
      rw [← e]
      exact hl
    · exact hk b o (hideAll_get _ e fun z => by
        simp only [List.mem_cons, List.not_mem_nil, or_false] at z
        rcases z with z | z
        · exact q z
        · exact n z)
  obtain ⟨F', N'⟩ := slots_back (ls := []) F N hL hk' h1 h2
  exact hret h' tk' F' N'
theorem cc_at {R : Result → Shared → Prop} {text : Str} {t : Tok} (F : Fr h₀ L s.heap m) (N : News h₀ L s.heap news) (X : (K2 w.params).In h₀) (T : Top q1 loose1 mean mg mb h₀) (hf : env0.frame = some L) (hke : env0.scope.kind = .function) (hd : dp + 20 < recursionLimit) (hu : un + 200 < cLine) (hlen : text.length ≤ 600) (hch : ∀ c ∈ text.cps.toList, c < 128 ∨ c = 233)
    (hret : ∀ l vs n h' tk', ToldAre vs (rOf text.cps.toList) → Fr h₀ L h' m → News h₀ L h' ((l, listOf vs.toArray n) :: news) → (∀ p ∈ news, p.1 ≠ l) → R (.ok (.ret (.ref l))) { s with heap := h', toks := tk' }) :
    codeOn HasC (model pw w) (actx dp un gd [env0]) (.call (.ref 57) ⟨[.str text t], []⟩) R s := by
  obtain ⟨oL, es, ep, hL, hLd, hLk, hLf⟩ := id F.ns
  have st : h₀.StaysIn (hideAll s.heap [L]) := fun b o e => hideAll_get _ (F.keep b o e) fun q => by
    rw [List.mem_singleton.mp q, fr_ground F] at e
    cases e
  refine cc_spec rfl hL (fun vs => by rw [hLd]; exact fun q => nomatch q) hf hke ((K3_sub X).keeps st) ((topRead_of T).keeps st) hd hu hlen hch fun l vs n o0' h' tk' hk ht ho hn hlt h1 h2 => ?_
  have hk' : ∀ b o, b ≠ L → s.heap.get? b = some o → h'.get? b = some o := fun b o q e => hk b o (hideAll_get _ e fun z => q (List.mem_singleton.mp z))
  have hn' : s.heap.get? l = none := by
    cases q : s.heap.get? l with
    | none => rfl
    | some o =>
      rw [hideAll_get _ q fun z => absurd (List.mem_singleton.mp z) (Nat.ne_of_gt hlt)] at hn
      cases hn
  obtain ⟨F', N'⟩ := slots_back (ls := []) F N hL hk' h1 h2
  exact hret l vs n h' tk' ht F' (news_put N' ho (fr_fresh F hn')) (news_ne N hn')
end
end Mine
end
section
open PySem PySem.W PySem.W.X PyProof.Rows PySem.Calls
set_option maxRecDepth 100000
set_option maxHeartbeats 4000000
namespace Mine
noncomputable def PairEq (x y : Value) : Prop := (∃ n t u, x = .int n t ∧ y = .int n u) ∨ ∃ z t u, x = .str z t ∧ y = .str z u
noncomputable def EqIx (a b : List Value) : Prop := a.length = b.length ∧ ∀ (j : Nat) (x y : Value), a[j]? = some x → b[j]? = some y → PairEq x y
theorem EqIx.snoc {a b : List Value} {x y : Value} (h : EqIx a b) (p : PairEq x y) : EqIx (a ++ [x]) (b ++ [y]) := by
  refine ⟨by simp [h.1], fun j u v hu hv => ?_⟩
  rw [List.getElem?_append] at hu hv
  by_cases q : j < a.length
  · rw [if_pos q] at hu
    rw [if_pos (h.1 ▸ q)] at hv
    exact h.2 j u v hu hv
  · rw [if_neg q] at hu
    rw [if_neg (h.1 ▸ q)] at hv
    rw [← h.1] at hv
    have hu' := List.mem_of_getElem? hu
    have hv' := List.mem_of_getElem? hv
    rw [List.mem_singleton.mp hu', List.mem_singleton.mp hv']
    exact p
theorem same_ix {a b : List Value} (h : SameVs a b) : EqIx a b := by
  induction h with
  | nil => exact ⟨rfl, fun j x y hx => by simp at hx⟩
  | int n t u _ ih => exact ih.snoc (.inl ⟨n, t, u, rfl, rfl⟩)
  | str x t u _ ih => exact ih.snoc (.inr ⟨x, t, u, rfl, rfl⟩)
theorem strs_ix {a b : List Value} {xs : List Str} (h : StrsAre a xs) (h' : StrsAre b xs) : EqIx a b := by
  refine ⟨by rw [h.length, h'.length], fun j x y hx hy => ?_⟩
  obtain ⟨u, t, rfl, hu⟩ := strs_at h hx
  obtain ⟨v, t', rfl, hv⟩ := strs_at h' hy
  rw [hu] at hv
  cases hv
  exact .inr ⟨u, t, t', rfl, rfl⟩
section
variable {prog : Program} {w : World} {A : Around} {E : Value → Shared → Prop} {s : Shared} {h₀ : Heap} {L l : Addr} {m : Str → Option Value} {news : List (Addr × Obj)}
theorem pair_at {x y : Value} (p : PairEq x y) : SeqAt.EqAt A s x y true := fun prog w E Q h => by
  rcases p with ⟨n, t, u, rfl, rfl⟩ | ⟨z, t, u, rfl, rfl⟩
  · refine wpAny_eqBool_int ?_
    rw [beq_self_eq_true]
    exact h
  · refine PyProof.Rows.eqBool_str ?_
    rw [beq_self_eq_true]
    exact h
theorem ne_lists {a b : Addr} {xs ys : List Value} {Q : Value → Shared → Prop} (ha : s.heap.IsList a xs.toArray) (hb : s.heap.IsList b ys.toArray) (e : EqIx xs ys) (hu : A.units < cLine) (h : Q (.bool false) s) : wpAny (model prog w) A (compareOp .NotEq (.ref a) (.ref b)) Q E s := by
  refine SeqAt.RcNeAt.lists (e := fun _ => true) ha hb (by simpa using e.1) hu (fun j h1 h2 => pair_at (e.2 j _ _ ?_ ?_)) prog w E Q ?_
  · simp
  · simp
  · have : (!(List.range xs.toArray.size).all fun _ => true) = false := by simp
    rw [this]
    exact h
theorem slice_ground {its : List Value} {value slice : PySem.Expr} {y : Int} {t : Tok} {Q : Value → Shared → Prop} (F : Fr h₀ L s.heap m) (N : News h₀ L s.heap news) (hl : s.heap.IsList l its.toArray) (hy : 0 ≤ y) (hz : its.length ≤ 1000)
    (h : ∀ D h', Fr h₀ L h' m → News h₀ L h' ((D, listOf (its.take y.toNat).toArray 0) :: news) → (∀ p ∈ news, p.1 < D) → Q (.ref D) { s with heap := h' })
    (hs : subscripted slice false (.ref l) (.ref s.heap.objs.size) = operate [.ref s.heap.objs.size, .ref l] (getItem (.ref l) (.ref s.heap.objs.size))) (ht : ∀ r, letTemporaryGo value (.ref l) r = pure ()) :
    wpAny (model prog w) A (subscriptTail value slice (.ref l) (.ref s.heap.objs.size)) Q E { s with heap := s.heap.push { cls := .type "slice", data := .fields #[.none, .int y t, .none] } } := by
  refine kmk_slice_lit (its := its.toArray) (lo := none) (hi := some y) F N hl .none (.int _ _) ?_ h hs ht (by rw [sizeLine_eq]; simp; omega)
  have e := slicePick_upto' its.toArray y.toNat
  rw [Int.toNat_of_nonneg hy] at e
  rw [e]
end
end Mine
end
section
open PySem PySem.W PySem.W.X PyProof.Rows PySem.Calls
set_option maxRecDepth 100000
namespace Mine
theorem two_of_sub {a b : Str} {rs : List Str} (h : [a, b].Sublist rs) (ha : IsFig a) (hb : IsFig b) : 2 ≤ (figsOf rs).length := by
  have := (h.filter figP).length_le
  rw [List.filter_cons_of_pos (figP_t ha), List.filter_cons_of_pos (figP_t hb)] at this
  show 2 ≤ (rs.filter figP).length
  simpa using this
theorem tok_07 : IsTok sFigure [48, 55] := ⟨by simp, by decide +kernel, by decide +kernel⟩
theorem tok_2 : IsTok sFigure [50] := ⟨by simp, by decide +kernel, by decide +kernel⟩
theorem tok_1 : IsTok sFigure [49] := ⟨by simp, by decide +kernel, by decide +kernel⟩
theorem tok_rc : IsTok sOther [114, 99] := ⟨by simp, by decide +kernel, by decide +kernel⟩
theorem figs_front (p : List Nat) : 2 ≤ (figsOf (rOf ([50, 46, 48, 55, 114, 99, 49] ++ p))).length := by
  have e1 := rOf_tokW (k := sFigure) (tk := [50]) (c := 46) (l := [48, 55, 114, 99, 49] ++ p) tok_2 (by decide +kernel)
  have e2 := rOf_tokO (k := sFigure) (tk := [48, 55]) (c := 114) (l := [99, 49] ++ p) tok_07 (by decide +kernel) (by decide +kernel)
  have e : rOf ([50, 46, 48, 55, 114, 99, 49] ++ p) = ⟨[50].toArray⟩ :: ⟨[48, 55].toArray⟩ :: rOf (114 :: ([99, 49] ++ p)) := by
    rw [← e2]
    exact e1
  rw [e]
  exact two_of_sub (.cons₂ _ (.cons₂ _ (List.nil_sublist _))) tok_2 tok_07
theorem figs_back (p : List Nat) : 2 ≤ (figsOf (rOf (p ++ [50, 46, 48, 55, 114, 99, 49]))).length := by
  obtain ⟨xs, k, hst⟩ : ∃ xs k, foldN ([], sWhite) (p ++ [50]) = (xs, k) := ⟨_, _, rfl⟩
  have e : rOf (p ++ [50, 46, 48, 55, 114, 99, 49]) = xs ++ rOf [48, 55, 114, 99, 49] := by
    have e0 : p ++ [50, 46, 48, 55, 114, 99, 49] = (p ++ [50]) ++ 46 :: [48, 55, 114, 99, 49] := by simp
    rw [e0, rOf_eq, foldN_app, hst]
    show (foldN (runStep (xs, k) ((46 : Nat) : Int)) [48, 55, 114, 99, 49]).1 = _
    rw [stepN, if_pos (by decide +kernel)]
    have := congrArg Prod.fst (foldN_pre xs [48, 55, 114, 99, 49] [] sWhite fun h => absurd rfl h)
    rw [List.append_nil] at this
    exact this
  have e1 := rOf_tokO (k := sFigure) (tk := [48, 55]) (c := 114) (l := [99, 49]) tok_07 (by decide +kernel) (by decide +kernel)
  have e2 := rOf_tokO (k := sOther) (tk := [114, 99]) (c := 49) (l := []) tok_rc (by decide +kernel) (by decide +kernel)
  have e3 := rOf_tok tok_1
  have e4 : rOf [48, 55, 114, 99, 49] = [⟨[48, 55].toArray⟩, ⟨[114, 99].toArray⟩, ⟨[49].toArray⟩] := by
    have q1 : rOf [48, 55, 114, 99, 49] = _ := e1
    have q2 : rOf [114, 99, 49] = _ := e2
    rw [q1, q2, e3]
  rw [e, e4]
  exact two_of_sub (.trans (.cons₂ _ (.cons _ (.cons₂ _ .slnil))) (List.sublist_append_right xs _)) tok_07 tok_1
theorem rOf_chars {P : Nat → Prop} (l : List Nat) (h : ∀ c ∈ l, P c) : ∀ r ∈ rOf l, ∀ c ∈ r.cps.toList, P c := by
  have key : ∀ (l : List Nat) (x : List Str × Str), (∀ c ∈ l, P c) → (∀ r ∈ x.1, ∀ c ∈ r.cps.toList, P c) → ∀ r ∈ (foldN x l).1, ∀ c ∈ r.cps.toList, P c := by
    intro l
    induction l with
    | nil => intro x _ hx; exact hx
    | cons d l ih =>
      intro x hl hx
      show ∀ r ∈ (foldN (runStep x (d : Int)) l).1, _
      refine ih _ (fun c hc => hl c (.tail _ hc)) ?_
      have hd := hl d (.head _)
      rw [stepN]
      split
      · exact hx
      · split
        · intro r hr c hc
          rcases List.mem_append.mp hr with hr | hr
          · exact hx r (List.dropLast_subset _ hr) c hc
          · rw [List.mem_singleton.mp hr] at hc
            have e : ((x.1.getLastD (Str.ofString "")) ++ (⟨#[d]⟩ : Str)).cps.toList = (x.1.getLastD (Str.ofString "")).cps.toList ++ [d] := Array.toList_append
            rw [e] at hc
            rcases List.mem_append.mp hc with hc | hc
            · rw [List.getLastD_eq_getLast?] at hc
              cases hq : x.1.getLast? with
              | none =>
                rw [hq] at hc
                have e0 : (Str.ofString "").cps.toList = [] := by decide +kernel
                have hc : c ∈ (Str.ofString "").cps.toList := hc
                rw [e0] at hc
                cases hc
              | some v =>
                rw [hq] at hc
                exact hx v (List.mem_of_getLast? hq) c hc
            · rw [List.mem_singleton.mp hc]
              exact hd
        · intro r hr c hc
          rcases List.mem_append.mp hr with hr | hr
          · exact hx r hr c hc
          · rw [List.mem_singleton.mp hr] at hc
            rw [List.mem_singleton.mp hc]
            exact hd
  exact key l _ h fun r hr => nomatch hr
theorem joined_ok {sep : Str} {rs : List Str} (h0 : sep.cps.toList ≠ []) (hl : sep.length ≤ 2) (hw : ∀ c ∈ sep.cps.toList, kd c = sWhite) (hs : ∀ c ∈ sep.cps.toList, c < 128 ∨ c = 233) (ht : ∀ r ∈ rs, TokOf r) (hc : ∀ r ∈ rs, ∀ c ∈ r.cps.toList, c < 128 ∨ c = 233) (hsum : sumLen rs ≤ 100) (hrl : rs.length ≤ 100) :
    (Txt.join sep rs).length ≤ 600 ∧ (∀ c ∈ (Txt.join sep rs).cps.toList, c < 128 ∨ c = 233) ∧ rOf (Txt.join sep rs).cps.toList = rs := by
  refine ⟨?_, fun c hm => ?_, rOf_join_toks h0 hw ht⟩
  · have h1 := join_length sep rs
    have h2 : rs.length * sep.length ≤ 100 * 2 := Nat.mul_le_mul hrl hl
    omega
  · rw [join_toList] at hm
    rcases joinC_mem hm with hm | ⟨l, hl, hm⟩
    · exact hs c hm
    · obtain ⟨y, hy, rfl⟩ := List.mem_map.mp hl
      exact hc y hy c hm
theorem vers_figs {x p : Str} (hx : x = Str.ofString "2.07rc1" ++ p ∨ x = p ++ Str.ofString "2.07rc1") : 2 ≤ (figsOf (rOf x.cps.toList)).length := by
  have e : (Str.ofString "2.07rc1").cps.toList = [50, 46, 48, 55, 114, 99, 49] := by decide +kernel
  rcases hx with rfl | rfl
  · have : (Str.ofString "2.07rc1" ++ p).cps.toList = (Str.ofString "2.07rc1").cps.toList ++ p.cps.toList := Array.toList_append
    rw [this, e]
    exact figs_front _
  · have : (p ++ Str.ofString "2.07rc1").cps.toList = p.cps.toList ++ (Str.ofString "2.07rc1").cps.toList := Array.toList_append
    rw [this, e]
    exact figs_back _
end Mine
end
section
open PySem PySem.W PySem.W.X PyProof.Rows PySem.Calls
set_option maxRecDepth 100000
set_option maxHeartbeats 2000000
namespace Mine
theorem newTuple_kp {M : Model} {A : Around} {E : Value → Shared → Prop} {s : Shared} {h₀ : Heap} {L : Addr} {m : Str → Option Value} {news : List (Addr × Obj)} {vs : List Value} {Q : Value → Shared → Prop} (F : Fr h₀ L s.heap m) (N : News h₀ L s.heap news)
    (h : ∀ l h', (∀ b o, s.heap.get? b = some o → h'.get? b = some o) → Fr h₀ L h' m → News h₀ L h' ((l, { cls := .type "tuple", data := .seq vs.toArray }) :: news) → (∀ p ∈ news, p.1 < l) → Q (.ref l) { s with heap := h' }) (hsz : vs.length ≤ sizeLine := by size_fits) :
    wpAny M A (newTuple vs) Q E s := wpAny_newObj_type (h _ _ (fun b o e => Heap.get?_push_of_some _ e) (F.push _) (N.push F _) fun p hp => Heap.lt_size (N p hp).1) (by show vs.toArray.size ≤ sizeLine; rw [List.size_toArray]; exact hsz)
theorem vers_facts {x p : Str} (h1 : p.length ≤ 60) (h2 : ∀ c ∈ p.cps.toList, c < 128 ∨ c = 233) (hx : x = Str.ofString "2.07rc1" ++ p ∨ x = p ++ Str.ofString "2.07rc1") : x.length ≤ 67 ∧ ∀ c ∈ x.cps.toList, c < 128 ∨ c = 233 := by
  have e1 : (Str.ofString "2.07rc1").length = 7 := by decide +kernel
  have e2 : ∀ c ∈ (Str.ofString "2.07rc1").cps.toList, c < 128 ∨ c = 233 := by decide +kernel
  have ap : ∀ a b : Str, (a ++ b).cps.toList = a.cps.toList ++ b.cps.toList := fun a b => Array.toList_append
  have ln : ∀ a b : Str, (a ++ b).length = a.length + b.length := fun a b => by rw [← cps_len, ap, List.length_append, cps_len, cps_len]
  rcases hx with rfl | rfl
  · refine ⟨by rw [ln, e1]; omega, fun c hc => ?_⟩
    rw [ap] at hc
    rcases List.mem_append.mp hc with hc | hc
    · exact e2 c hc
    · exact h2 c hc
  · refine ⟨by rw [ln, e1]; omega, fun c hc => ?_⟩
    rw [ap] at hc
    rcases List.mem_append.mp hc with hc | hc
    · exact h2 c hc
    · exact e2 c hc
theorem told_kinds {vs : List Value} {xs : List Str} (h : ToldAre vs xs) : ∀ v ∈ vs, (∃ n t, v = .int n t) ∨ ∃ x t, v = .str x t := by
  induction h with
  | nil => intro v hv; cases hv
  | fig x t u _ _ ih =>
    intro v hv
    rcases List.mem_append.mp hv with hv | hv
    · exact ih v hv
    · simp only [List.mem_cons, List.not_mem_nil, or_false] at hv
      rcases hv with rfl | rfl
      · exact .inl ⟨_, _, rfl⟩
      · exact .inl ⟨_, _, rfl⟩
  | oth x t u _ _ ih =>
    intro v hv
    rcases List.mem_append.mp hv with hv | hv
    · exact ih v hv
    · simp only [List.mem_cons, List.not_mem_nil, or_false] at hv
      rcases hv with rfl | rfl
      · exact .inl ⟨_, _, rfl⟩
      · exact .inr ⟨_, _, rfl⟩
theorem law_spec {w : World} {mean : ExcName → Option Value} {mg mb : Str → Option Value} {dp un : Nat} {gd : Option (List Code)} {s : Shared} {R : Result → Shared → Prop} {ln : Addr} {nv : List Value} {ns : List Int}
    (X : (K2 w.params).In s.heap) (T : Top q1 loose1 mean mg mb s.heap) (hln : s.heap.IsList ln nv.toArray) (hns : IntsAre nv ns) (hlen : ns.length ≤ 63) (hd : dp + 200 < recursionLimit) (hu : un + 2000 < cLine)
    (hret : ∀ h' tk', s.heap.StaysIn h' → R (.ok (.ret (.bool true))) { s with heap := h', toks := tk' }) :
    codeOn HasC (model pw w) (actx dp un gd []) (.call (.ref 802) ⟨[.ref ln], []⟩) R s := by
  have hfill : PySem.Challenge.rw_ox0114_01 = PySem.Challenge.rw_ox0114_01 ∧ K2 = K2 := by
    k_fill
    exact ⟨rfl, rfl⟩
  clear hfill
  have TR := topRead_of T
  k_dflt (refine' enterOn (g := s.heap) (led := []) (args := ⟨[.ref ln], []⟩) (binds := [(Str.ofString "script", .ref ln)]) (fun Γ c q => HasC.goto q) rfl (fun p hp => nomatch hp) X TR ?k6 ?k7 ?k8 ?k9 ?kB ?_ ?c2 ?c3 ?c4 ?c5; (case k6 => k_is); (case k7 => k_is); (case k8 => (dsimp only; omega)); (case k9 => exact BindsTo.of_eq rfl); (case c5 => decide); (case kB => exact locs rfl); (case c2 => exact rfl); (case c3 => exact rfl); (case c4 => exact rfl); k_whole)
  intro L' h' F' N' hlL
  clear hlL
  (try dsimp only); (try k_fold)
  have hvl : nv.length ≤ 1000 := by
    rw [hns.length]
    omega
  refine on_execs_cons (on_any ?_)
  (repeat' ((fail_if_success (with_reducible show wpOn _ _ _ _ _ _ _)); (fail_if_success (with_reducible show wpAny _ _ (noteFrame _ _) _ _ _)); (fail_if_success (with_reducible show wpAny _ _ (call (Value.ref _) _ _) _ _ _)); (fail_if_success (with_reducible show wpAny _ _ (pyIter _) _ _ _)); (fail_if_success (with_reducible show wpAny _ _ (call (Value.builtin "str.join") _ _) _ _ _)); (fail_if_success (with_reducible show wpAny _ _ (compareOp CmpOp.NotEq (Value.ref _) (Value.ref _)) _ _ _)); (fail_if_success (with_reducible show wpAny _ _ (subscriptTail _ _ _ _) _ _ _)); (fail_if_success (with_reducible show wpAny _ _ (eval (PySem.Expr.ListComp _ _ _ _) _) _ _ _)); (fail_if_success (with_reducible show InvPostN _ _ _ _ _ _ _ _ _)); (fail_if_success (with_reducible show InvEndN _ _ _ _ _ _ _)); first | (k_unfold; (try dsimp only)) | (with_reducible (k_here; (with_reducible show wpAny _ _ (eval _ (compEnv _ _ _)) _ _ _); first | refine ldc (by assumption) (by assumption) ?_ | k_dflt (refine cg_global (by k_asm) (by k_asm) (by k_asm) (by k_is) ?_) | k_dflt (refine cg_built (by k_asm) (by k_asm) (by k_asm) (by k_is) (by boot_by_name) (by decide) ?_))) | (with_reducible ((with_reducible show wpAny _ _ (newTuple _) _ _ _); (k_here; k_dflt (refine' newTuple_kp ?F ?N ?_ ?z; (case F => k_asm); (case N => k_asm); (case z => (rw [sizeLine_eq]; decide))); intro D' h' kp F' N' l1; (try k_lt l1); (try k_sweep)))) | walk1 | (dsimp only; walk1)))
  have hlL : h'.IsList ln nv.toArray := by
    obtain ⟨o, a1, a2, a3⟩ := hln
    exact ⟨o, F'.keep _ _ a1, a2, a3⟩
  k_dflt (refine' slice_ground F' N' hlL ?y ?z ?_ ?s ?t; (case y => decide); (case z => exact hvl); (case s => with_unfolding_all rfl); (case t => kmk_pure))
  intro D1 h1 F1 N1 l1
  clear l1
  (repeat' ((fail_if_success (with_reducible show wpOn _ _ _ _ _ _ _)); (fail_if_success (with_reducible show wpAny _ _ (noteFrame _ _) _ _ _)); (fail_if_success (with_reducible show wpAny _ _ (call (Value.ref _) _ _) _ _ _)); (fail_if_success (with_reducible show wpAny _ _ (pyIter _) _ _ _)); (fail_if_success (with_reducible show wpAny _ _ (call (Value.builtin "str.join") _ _) _ _ _)); (fail_if_success (with_reducible show wpAny _ _ (compareOp CmpOp.NotEq (Value.ref _) (Value.ref _)) _ _ _)); (fail_if_success (with_reducible show wpAny _ _ (subscriptTail _ _ _ _) _ _ _)); (fail_if_success (with_reducible show wpAny _ _ (eval (PySem.Expr.ListComp _ _ _ _) _) _ _ _)); (fail_if_success (with_reducible show InvPostN _ _ _ _ _ _ _ _ _)); (fail_if_success (with_reducible show InvEndN _ _ _ _ _ _ _)); first | (k_unfold; (try dsimp only)) | (with_reducible (k_here; (with_reducible show wpAny _ _ (eval _ (compEnv _ _ _)) _ _ _); first | refine ldc (by assumption) (by assumption) ?_ | k_dflt (refine cg_global (by k_asm) (by k_asm) (by k_asm) (by k_is) ?_) | k_dflt (refine cg_built (by k_asm) (by k_asm) (by k_asm) (by k_is) (by boot_by_name) (by decide) ?_))) | (with_reducible ((with_reducible show wpAny _ _ (newTuple _) _ _ _); (k_here; k_dflt (refine' newTuple_kp ?F ?N ?_ ?z; (case F => k_asm); (case N => k_asm); (case z => (rw [sizeLine_eq]; decide))); intro D' h' kp F' N' l1; (try k_lt l1); (try k_sweep)))) | walk1 | (dsimp only; walk1)))
  refine vers_at (dp := dp + 1) (un := un + 3) (gd := gd) F1 N1 (.head _) X T (hns.take 12) (by simp; omega) (by omega) (by omega) fun x p t2 h2 k2 F2 N2 hp1 hp2 hx => ?_
  (repeat' ((fail_if_success (with_reducible show wpOn _ _ _ _ _ _ _)); (fail_if_success (with_reducible show wpAny _ _ (noteFrame _ _) _ _ _)); (fail_if_success (with_reducible show wpAny _ _ (call (Value.ref _) _ _) _ _ _)); (fail_if_success (with_reducible show wpAny _ _ (pyIter _) _ _ _)); (fail_if_success (with_reducible show wpAny _ _ (call (Value.builtin "str.join") _ _) _ _ _)); (fail_if_success (with_reducible show wpAny _ _ (compareOp CmpOp.NotEq (Value.ref _) (Value.ref _)) _ _ _)); (fail_if_success (with_reducible show wpAny _ _ (subscriptTail _ _ _ _) _ _ _)); (fail_if_success (with_reducible show wpAny _ _ (eval (PySem.Expr.ListComp _ _ _ _) _) _ _ _)); (fail_if_success (with_reducible show InvPostN _ _ _ _ _ _ _ _ _)); (fail_if_success (with_reducible show InvEndN _ _ _ _ _ _ _)); first | (k_unfold; (try dsimp only)) | (with_reducible (k_here; (with_reducible show wpAny _ _ (eval _ (compEnv _ _ _)) _ _ _); first | refine ldc (by assumption) (by assumption) ?_ | k_dflt (refine cg_global (by k_asm) (by k_asm) (by k_asm) (by k_is) ?_) | k_dflt (refine cg_built (by k_asm) (by k_asm) (by k_asm) (by k_is) (by boot_by_name) (by decide) ?_))) | (with_reducible ((with_reducible show wpAny _ _ (newTuple _) _ _ _); (k_here; k_dflt (refine' newTuple_kp ?F ?N ?_ ?z; (case F => k_asm); (case N => k_asm); (case z => (rw [sizeLine_eq]; decide))); intro D' h' kp F' N' l1; (try k_lt l1); (try k_sweep)))) | walk1 | (dsimp only; walk1)))
  obtain ⟨hxl, hxc⟩ : x.length ≤ 67 ∧ ∀ c ∈ x.cps.toList, c < 128 ∨ c = 233 := vers_facts hp1 hp2 hx
  obtain ⟨rs, hrs⟩ : ∃ rs, rs = rOf x.cps.toList := ⟨_, rfl⟩
  have hrl : rs.length ≤ 100 := by
    have := rOf_len x.cps.toList
    rw [← hrs, cps_len] at this
    omega
  have hrw : ∀ r ∈ rs, r.length ≤ 2000 := by
    intro r hr
    rw [hrs] at hr
    have := rOf_mem_len r hr
    rw [cps_len] at this
    omega
  have htk : ∀ r ∈ rs, TokOf r := by rw [hrs]; exact rOf_toks _
  have hrc : ∀ r ∈ rs, ∀ c ∈ r.cps.toList, c < 128 ∨ c = 233 := by rw [hrs]; exact rOf_chars _ hxc
  have hrw1 : ∀ r ∈ rs, r.length ≤ 100 := by
    intro r hr
    rw [hrs] at hr
    have := rOf_mem_len r hr
    rw [cps_len] at this
    omega
  have hsum : sumLen rs ≤ 100 := by
    have := rOf_sum x.cps.toList
    rw [← hrs, cps_len] at this
    omega
  have hfg : 2 ≤ (figsOf rs).length := by rw [hrs]; exact vers_figs hx
  rename Fr _ _ _ _ => FA
  rename News _ _ _ _ => NA
  refine on_execs_cons (on_any ?_)
  (repeat' ((fail_if_success (with_reducible show wpOn _ _ _ _ _ _ _)); (fail_if_success (with_reducible show wpAny _ _ (noteFrame _ _) _ _ _)); (fail_if_success (with_reducible show wpAny _ _ (call (Value.ref _) _ _) _ _ _)); (fail_if_success (with_reducible show wpAny _ _ (pyIter _) _ _ _)); (fail_if_success (with_reducible show wpAny _ _ (call (Value.builtin "str.join") _ _) _ _ _)); (fail_if_success (with_reducible show wpAny _ _ (compareOp CmpOp.NotEq (Value.ref _) (Value.ref _)) _ _ _)); (fail_if_success (with_reducible show wpAny _ _ (subscriptTail _ _ _ _) _ _ _)); (fail_if_success (with_reducible show wpAny _ _ (eval (PySem.Expr.ListComp _ _ _ _) _) _ _ _)); (fail_if_success (with_reducible show InvPostN _ _ _ _ _ _ _ _ _)); (fail_if_success (with_reducible show InvEndN _ _ _ _ _ _ _)); first | (k_unfold; (try dsimp only)) | (with_reducible (k_here; (with_reducible show wpAny _ _ (eval _ (compEnv _ _ _)) _ _ _); first | refine ldc (by assumption) (by assumption) ?_ | k_dflt (refine cg_global (by k_asm) (by k_asm) (by k_asm) (by k_is) ?_) | k_dflt (refine cg_built (by k_asm) (by k_asm) (by k_asm) (by k_is) (by boot_by_name) (by decide) ?_))) | (with_reducible ((with_reducible show wpAny _ _ (newTuple _) _ _ _); (k_here; k_dflt (refine' newTuple_kp ?F ?N ?_ ?z; (case F => k_asm); (case N => k_asm); (case z => (rw [sizeLine_eq]; decide))); intro D' h' kp F' N' l1; (try k_lt l1); (try k_sweep)))) | walk1 | (dsimp only; walk1)))
  rename Fr _ _ _ _ => FB
  rename News _ _ _ _ => NB
  refine tk_at (dp := dp + 1) (un := un + 3) (gd := gd) FB NB X T rfl rfl (by omega) (by omega) (by omega) fun lt vt nt h3 k3 hvt F3 N3 n3 => ?_
  rw [← hrs] at hvt
  (repeat' ((fail_if_success (with_reducible show wpOn _ _ _ _ _ _ _)); (fail_if_success (with_reducible show wpAny _ _ (noteFrame _ _) _ _ _)); (fail_if_success (with_reducible show wpAny _ _ (call (Value.ref _) _ _) _ _ _)); (fail_if_success (with_reducible show wpAny _ _ (pyIter _) _ _ _)); (fail_if_success (with_reducible show wpAny _ _ (call (Value.builtin "str.join") _ _) _ _ _)); (fail_if_success (with_reducible show wpAny _ _ (compareOp CmpOp.NotEq (Value.ref _) (Value.ref _)) _ _ _)); (fail_if_success (with_reducible show wpAny _ _ (subscriptTail _ _ _ _) _ _ _)); (fail_if_success (with_reducible show wpAny _ _ (eval (PySem.Expr.ListComp _ _ _ _) _) _ _ _)); (fail_if_success (with_reducible show InvPostN _ _ _ _ _ _ _ _ _)); (fail_if_success (with_reducible show InvEndN _ _ _ _ _ _ _)); first | (k_unfold; (try dsimp only)) | (with_reducible (k_here; (with_reducible show wpAny _ _ (eval _ (compEnv _ _ _)) _ _ _); first | refine ldc (by assumption) (by assumption) ?_ | k_dflt (refine cg_global (by k_asm) (by k_asm) (by k_asm) (by k_is) ?_) | k_dflt (refine cg_built (by k_asm) (by k_asm) (by k_asm) (by k_is) (by boot_by_name) (by decide) ?_))) | (with_reducible ((with_reducible show wpAny _ _ (newTuple _) _ _ _); (k_here; k_dflt (refine' newTuple_kp ?F ?N ?_ ?z; (case F => k_asm); (case N => k_asm); (case z => (rw [sizeLine_eq]; decide))); intro D' h' kp F' N' l1; (try k_lt l1); (try k_sweep)))) | walk1 | (dsimp only; walk1)))
  rename Fr _ _ _ _ => FC
  rename News _ _ _ _ => NC
  refine on_execs_cons (on_any ?_)
  (repeat' ((fail_if_success (with_reducible show wpOn _ _ _ _ _ _ _)); (fail_if_success (with_reducible show wpAny _ _ (noteFrame _ _) _ _ _)); (fail_if_success (with_reducible show wpAny _ _ (call (Value.ref _) _ _) _ _ _)); (fail_if_success (with_reducible show wpAny _ _ (pyIter _) _ _ _)); (fail_if_success (with_reducible show wpAny _ _ (call (Value.builtin "str.join") _ _) _ _ _)); (fail_if_success (with_reducible show wpAny _ _ (compareOp CmpOp.NotEq (Value.ref _) (Value.ref _)) _ _ _)); (fail_if_success (with_reducible show wpAny _ _ (subscriptTail _ _ _ _) _ _ _)); (fail_if_success (with_reducible show wpAny _ _ (eval (PySem.Expr.ListComp _ _ _ _) _) _ _ _)); (fail_if_success (with_reducible show InvPostN _ _ _ _ _ _ _ _ _)); (fail_if_success (with_reducible show InvEndN _ _ _ _ _ _ _)); first | (k_unfold; (try dsimp only)) | (with_reducible (k_here; (with_reducible show wpAny _ _ (eval _ (compEnv _ _ _)) _ _ _); first | refine ldc (by assumption) (by assumption) ?_ | k_dflt (refine cg_global (by k_asm) (by k_asm) (by k_asm) (by k_is) ?_) | k_dflt (refine cg_built (by k_asm) (by k_asm) (by k_asm) (by k_is) (by boot_by_name) (by decide) ?_))) | (with_reducible ((with_reducible show wpAny _ _ (newTuple _) _ _ _); (k_here; k_dflt (refine' newTuple_kp ?F ?N ?_ ?z; (case F => k_asm); (case N => k_asm); (case z => (rw [sizeLine_eq]; decide))); intro D' h' kp F' N' l1; (try k_lt l1); (try k_sweep)))) | walk1 | (dsimp only; walk1)))
  rename Fr _ _ _ _ => FD
  rename News _ _ _ _ => ND
  refine runs_at (dp := dp + 1) (un := un + 3) (gd := gd) FD ND X T rfl rfl (by omega) (by omega) (by omega) fun lr vr nr h4 k4 hvr F4 N4 n4 => ?_
  rw [← hrs] at hvr
  (repeat' ((fail_if_success (with_reducible show wpOn _ _ _ _ _ _ _)); (fail_if_success (with_reducible show wpAny _ _ (noteFrame _ _) _ _ _)); (fail_if_success (with_reducible show wpAny _ _ (call (Value.ref _) _ _) _ _ _)); (fail_if_success (with_reducible show wpAny _ _ (pyIter _) _ _ _)); (fail_if_success (with_reducible show wpAny _ _ (call (Value.builtin "str.join") _ _) _ _ _)); (fail_if_success (with_reducible show wpAny _ _ (compareOp CmpOp.NotEq (Value.ref _) (Value.ref _)) _ _ _)); (fail_if_success (with_reducible show wpAny _ _ (subscriptTail _ _ _ _) _ _ _)); (fail_if_success (with_reducible show wpAny _ _ (eval (PySem.Expr.ListComp _ _ _ _) _) _ _ _)); (fail_if_success (with_reducible show InvPostN _ _ _ _ _ _ _ _ _)); (fail_if_success (with_reducible show InvEndN _ _ _ _ _ _ _)); first | (k_unfold; (try dsimp only)) | (with_reducible (k_here; (with_reducible show wpAny _ _ (eval _ (compEnv _ _ _)) _ _ _); first | refine ldc (by assumption) (by assumption) ?_ | k_dflt (refine cg_global (by k_asm) (by k_asm) (by k_asm) (by k_is) ?_) | k_dflt (refine cg_built (by k_asm) (by k_asm) (by k_asm) (by k_is) (by boot_by_name) (by decide) ?_))) | (with_reducible ((with_reducible show wpAny _ _ (newTuple _) _ _ _); (k_here; k_dflt (refine' newTuple_kp ?F ?N ?_ ?z; (case F => k_asm); (case N => k_asm); (case z => (rw [sizeLine_eq]; decide))); intro D' h' kp F' N' l1; (try k_lt l1); (try k_sweep)))) | walk1 | (dsimp only; walk1)))
  refine on_execs_cons (on_If ?_)
  (repeat' ((fail_if_success (with_reducible show wpOn _ _ _ _ _ _ _)); (fail_if_success (with_reducible show wpAny _ _ (noteFrame _ _) _ _ _)); (fail_if_success (with_reducible show wpAny _ _ (call (Value.ref _) _ _) _ _ _)); (fail_if_success (with_reducible show wpAny _ _ (pyIter _) _ _ _)); (fail_if_success (with_reducible show wpAny _ _ (call (Value.builtin "str.join") _ _) _ _ _)); (fail_if_success (with_reducible show wpAny _ _ (compareOp CmpOp.NotEq (Value.ref _) (Value.ref _)) _ _ _)); (fail_if_success (with_reducible show wpAny _ _ (subscriptTail _ _ _ _) _ _ _)); (fail_if_success (with_reducible show wpAny _ _ (eval (PySem.Expr.ListComp _ _ _ _) _) _ _ _)); (fail_if_success (with_reducible show InvPostN _ _ _ _ _ _ _ _ _)); (fail_if_success (with_reducible show InvEndN _ _ _ _ _ _ _)); first | (k_unfold; (try dsimp only)) | (with_reducible (k_here; (with_reducible show wpAny _ _ (eval _ (compEnv _ _ _)) _ _ _); first | refine ldc (by assumption) (by assumption) ?_ | k_dflt (refine cg_global (by k_asm) (by k_asm) (by k_asm) (by k_is) ?_) | k_dflt (refine cg_built (by k_asm) (by k_asm) (by k_asm) (by k_is) (by boot_by_name) (by decide) ?_))) | (with_reducible ((with_reducible show wpAny _ _ (newTuple _) _ _ _); (k_here; k_dflt (refine' newTuple_kp ?F ?N ?_ ?z; (case F => k_asm); (case N => k_asm); (case z => (rw [sizeLine_eq]; decide))); intro D' h' kp F' N' l1; (try k_lt l1); (try k_sweep)))) | walk1 | (dsimp only; walk1)))
  rename Fr _ _ _ _ => FE
  rename News _ _ _ _ => NE
  refine ne_lists (NE.isList (.tail _ (.head _))) (NE.isList (.head _)) (strs_ix hvt hvr) ?u ?_
  case u => (dsimp only [Around.deeper]; omega)
  (repeat' ((fail_if_success (with_reducible show wpOn _ _ _ _ _ _ _)); (fail_if_success (with_reducible show wpAny _ _ (noteFrame _ _) _ _ _)); (fail_if_success (with_reducible show wpAny _ _ (call (Value.ref _) _ _) _ _ _)); (fail_if_success (with_reducible show wpAny _ _ (pyIter _) _ _ _)); (fail_if_success (with_reducible show wpAny _ _ (call (Value.builtin "str.join") _ _) _ _ _)); (fail_if_success (with_reducible show wpAny _ _ (compareOp CmpOp.NotEq (Value.ref _) (Value.ref _)) _ _ _)); (fail_if_success (with_reducible show wpAny _ _ (subscriptTail _ _ _ _) _ _ _)); (fail_if_success (with_reducible show wpAny _ _ (eval (PySem.Expr.ListComp _ _ _ _) _) _ _ _)); (fail_if_success (with_reducible show InvPostN _ _ _ _ _ _ _ _ _)); (fail_if_success (with_reducible show InvEndN _ _ _ _ _ _ _)); first | (k_unfold; (try dsimp only)) | (with_reducible (k_here; (with_reducible show wpAny _ _ (eval _ (compEnv _ _ _)) _ _ _); first | refine ldc (by assumption) (by assumption) ?_ | k_dflt (refine cg_global (by k_asm) (by k_asm) (by k_asm) (by k_is) ?_) | k_dflt (refine cg_built (by k_asm) (by k_asm) (by k_asm) (by k_is) (by boot_by_name) (by decide) ?_))) | (with_reducible ((with_reducible show wpAny _ _ (newTuple _) _ _ _); (k_here; k_dflt (refine' newTuple_kp ?F ?N ?_ ?z; (case F => k_asm); (case N => k_asm); (case z => (rw [sizeLine_eq]; decide))); intro D' h' kp F' N' l1; (try k_lt l1); (try k_sweep)))) | walk1 | (dsimp only; walk1)))
  rename Fr _ _ _ _ => FG
  rename News _ _ _ _ => NG
  refine tk_at (dp := dp + 1) (un := un + 3) (gd := gd) FG NG X T rfl rfl (by omega) (by omega) (by omega) fun lt2 vt2 nt2 h5 k5 hvt2 F5 N5 n5 => ?_
  rw [← hrs] at hvt2
  (repeat' ((fail_if_success (with_reducible show wpOn _ _ _ _ _ _ _)); (fail_if_success (with_reducible show wpAny _ _ (noteFrame _ _) _ _ _)); (fail_if_success (with_reducible show wpAny _ _ (call (Value.ref _) _ _) _ _ _)); (fail_if_success (with_reducible show wpAny _ _ (pyIter _) _ _ _)); (fail_if_success (with_reducible show wpAny _ _ (call (Value.builtin "str.join") _ _) _ _ _)); (fail_if_success (with_reducible show wpAny _ _ (compareOp CmpOp.NotEq (Value.ref _) (Value.ref _)) _ _ _)); (fail_if_success (with_reducible show wpAny _ _ (subscriptTail _ _ _ _) _ _ _)); (fail_if_success (with_reducible show wpAny _ _ (eval (PySem.Expr.ListComp _ _ _ _) _) _ _ _)); (fail_if_success (with_reducible show InvPostN _ _ _ _ _ _ _ _ _)); (fail_if_success (with_reducible show InvEndN _ _ _ _ _ _ _)); first | (k_unfold; (try dsimp only)) | (with_reducible (k_here; (with_reducible show wpAny _ _ (eval _ (compEnv _ _ _)) _ _ _); first | refine ldc (by assumption) (by assumption) ?_ | k_dflt (refine cg_global (by k_asm) (by k_asm) (by k_asm) (by k_is) ?_) | k_dflt (refine cg_built (by k_asm) (by k_asm) (by k_asm) (by k_is) (by boot_by_name) (by decide) ?_))) | (with_reducible ((with_reducible show wpAny _ _ (newTuple _) _ _ _); (k_here; k_dflt (refine' newTuple_kp ?F ?N ?_ ?z; (case F => k_asm); (case N => k_asm); (case z => (rw [sizeLine_eq]; decide))); intro D' h' kp F' N' l1; (try k_lt l1); (try k_sweep)))) | walk1 | (dsimp only; walk1)))
  rename Fr _ _ _ _ => FH
  rename News _ _ _ _ => NH
  refine ne_lists (NH.isList (.head _)) (NH.isList (.tail _ (.head _))) (strs_ix hvt2 hvr) ?u2 ?_
  case u2 => (dsimp only [Around.deeper]; omega)
  (repeat' ((fail_if_success (with_reducible show wpOn _ _ _ _ _ _ _)); (fail_if_success (with_reducible show wpAny _ _ (noteFrame _ _) _ _ _)); (fail_if_success (with_reducible show wpAny _ _ (call (Value.ref _) _ _) _ _ _)); (fail_if_success (with_reducible show wpAny _ _ (pyIter _) _ _ _)); (fail_if_success (with_reducible show wpAny _ _ (call (Value.builtin "str.join") _ _) _ _ _)); (fail_if_success (with_reducible show wpAny _ _ (compareOp CmpOp.NotEq (Value.ref _) (Value.ref _)) _ _ _)); (fail_if_success (with_reducible show wpAny _ _ (subscriptTail _ _ _ _) _ _ _)); (fail_if_success (with_reducible show wpAny _ _ (eval (PySem.Expr.ListComp _ _ _ _) _) _ _ _)); (fail_if_success (with_reducible show InvPostN _ _ _ _ _ _ _ _ _)); (fail_if_success (with_reducible show InvEndN _ _ _ _ _ _ _)); first | (k_unfold; (try dsimp only)) | (with_reducible (k_here; (with_reducible show wpAny _ _ (eval _ (compEnv _ _ _)) _ _ _); first | refine ldc (by assumption) (by assumption) ?_ | k_dflt (refine cg_global (by k_asm) (by k_asm) (by k_asm) (by k_is) ?_) | k_dflt (refine cg_built (by k_asm) (by k_asm) (by k_asm) (by k_is) (by boot_by_name) (by decide) ?_))) | (with_reducible ((with_reducible show wpAny _ _ (newTuple _) _ _ _); (k_here; k_dflt (refine' newTuple_kp ?F ?N ?_ ?z; (case F => k_asm); (case N => k_asm); (case z => (rw [sizeLine_eq]; decide))); intro D' h' kp F' N' l1; (try k_lt l1); (try k_sweep)))) | walk1 | (dsimp only; walk1)))
  refine on_any (wpAny_execs_nil ?_)
  refine on_execs_cons (on_For0 (fun Γ c h p q => HasC.enter q) ?_ (by intro _; rfl))
  (repeat' ((fail_if_success (with_reducible show wpOn _ _ _ _ _ _ _)); (fail_if_success (with_reducible show wpAny _ _ (noteFrame _ _) _ _ _)); (fail_if_success (with_reducible show wpAny _ _ (call (Value.ref _) _ _) _ _ _)); (fail_if_success (with_reducible show wpAny _ _ (pyIter _) _ _ _)); (fail_if_success (with_reducible show wpAny _ _ (call (Value.builtin "str.join") _ _) _ _ _)); (fail_if_success (with_reducible show wpAny _ _ (compareOp CmpOp.NotEq (Value.ref _) (Value.ref _)) _ _ _)); (fail_if_success (with_reducible show wpAny _ _ (subscriptTail _ _ _ _) _ _ _)); (fail_if_success (with_reducible show wpAny _ _ (eval (PySem.Expr.ListComp _ _ _ _) _) _ _ _)); (fail_if_success (with_reducible show InvPostN _ _ _ _ _ _ _ _ _)); (fail_if_success (with_reducible show InvEndN _ _ _ _ _ _ _)); first | (k_unfold; (try dsimp only)) | (with_reducible (k_here; (with_reducible show wpAny _ _ (eval _ (compEnv _ _ _)) _ _ _); first | refine ldc (by assumption) (by assumption) ?_ | k_dflt (refine cg_global (by k_asm) (by k_asm) (by k_asm) (by k_is) ?_) | k_dflt (refine cg_built (by k_asm) (by k_asm) (by k_asm) (by k_is) (by boot_by_name) (by decide) ?_))) | (with_reducible ((with_reducible show wpAny _ _ (newTuple _) _ _ _); (k_here; k_dflt (refine' newTuple_kp ?F ?N ?_ ?z; (case F => k_asm); (case N => k_asm); (case z => (rw [sizeLine_eq]; decide))); intro D' h' kp F' N' l1; (try k_lt l1); (try k_sweep)))) | walk1 | (dsimp only; walk1)))
  rename Fr _ _ _ _ => FI
  rename News _ _ _ _ => NI
  refine join_at NI (.tail _ (.tail _ (.head _))) hvt (by decide +kernel) hrl hrw ?_
  intro t6 k6
  (repeat' ((fail_if_success (with_reducible show wpOn _ _ _ _ _ _ _)); (fail_if_success (with_reducible show wpAny _ _ (noteFrame _ _) _ _ _)); (fail_if_success (with_reducible show wpAny _ _ (call (Value.ref _) _ _) _ _ _)); (fail_if_success (with_reducible show wpAny _ _ (pyIter _) _ _ _)); (fail_if_success (with_reducible show wpAny _ _ (call (Value.builtin "str.join") _ _) _ _ _)); (fail_if_success (with_reducible show wpAny _ _ (compareOp CmpOp.NotEq (Value.ref _) (Value.ref _)) _ _ _)); (fail_if_success (with_reducible show wpAny _ _ (subscriptTail _ _ _ _) _ _ _)); (fail_if_success (with_reducible show wpAny _ _ (eval (PySem.Expr.ListComp _ _ _ _) _) _ _ _)); (fail_if_success (with_reducible show InvPostN _ _ _ _ _ _ _ _ _)); (fail_if_success (with_reducible show InvEndN _ _ _ _ _ _ _)); first | (k_unfold; (try dsimp only)) | (with_reducible (k_here; (with_reducible show wpAny _ _ (eval _ (compEnv _ _ _)) _ _ _); first | refine ldc (by assumption) (by assumption) ?_ | k_dflt (refine cg_global (by k_asm) (by k_asm) (by k_asm) (by k_is) ?_) | k_dflt (refine cg_built (by k_asm) (by k_asm) (by k_asm) (by k_is) (by boot_by_name) (by decide) ?_))) | (with_reducible ((with_reducible show wpAny _ _ (newTuple _) _ _ _); (k_here; k_dflt (refine' newTuple_kp ?F ?N ?_ ?z; (case F => k_asm); (case N => k_asm); (case z => (rw [sizeLine_eq]; decide))); intro D' h' kp F' N' l1; (try k_lt l1); (try k_sweep)))) | walk1 | (dsimp only; walk1)))
  rename News _ _ _ _ => NJ
  refine join_at NJ (.tail _ (.tail _ (.head _))) hvt (by decide +kernel) hrl hrw ?_
  intro t7 k7
  (repeat' ((fail_if_success (with_reducible show wpOn _ _ _ _ _ _ _)); (fail_if_success (with_reducible show wpAny _ _ (noteFrame _ _) _ _ _)); (fail_if_success (with_reducible show wpAny _ _ (call (Value.ref _) _ _) _ _ _)); (fail_if_success (with_reducible show wpAny _ _ (pyIter _) _ _ _)); (fail_if_success (with_reducible show wpAny _ _ (call (Value.builtin "str.join") _ _) _ _ _)); (fail_if_success (with_reducible show wpAny _ _ (compareOp CmpOp.NotEq (Value.ref _) (Value.ref _)) _ _ _)); (fail_if_success (with_reducible show wpAny _ _ (subscriptTail _ _ _ _) _ _ _)); (fail_if_success (with_reducible show wpAny _ _ (eval (PySem.Expr.ListComp _ _ _ _) _) _ _ _)); (fail_if_success (with_reducible show InvPostN _ _ _ _ _ _ _ _ _)); (fail_if_success (with_reducible show InvEndN _ _ _ _ _ _ _)); first | (k_unfold; (try dsimp only)) | (with_reducible (k_here; (with_reducible show wpAny _ _ (eval _ (compEnv _ _ _)) _ _ _); first | refine ldc (by assumption) (by assumption) ?_ | k_dflt (refine cg_global (by k_asm) (by k_asm) (by k_asm) (by k_is) ?_) | k_dflt (refine cg_built (by k_asm) (by k_asm) (by k_asm) (by k_is) (by boot_by_name) (by decide) ?_))) | (with_reducible ((with_reducible show wpAny _ _ (newTuple _) _ _ _); (k_here; k_dflt (refine' newTuple_kp ?F ?N ?_ ?z; (case F => k_asm); (case N => k_asm); (case z => (rw [sizeLine_eq]; decide))); intro D' h' kp F' N' l1; (try k_lt l1); (try k_sweep)))) | walk1 | (dsimp only; walk1)))
  rename News _ _ _ _ => NK
  refine join_at NK (.tail _ (.tail _ (.head _))) hvt (by decide +kernel) hrl hrw ?_
  intro t8 k8
  (repeat' ((fail_if_success (with_reducible show wpOn _ _ _ _ _ _ _)); (fail_if_success (with_reducible show wpAny _ _ (noteFrame _ _) _ _ _)); (fail_if_success (with_reducible show wpAny _ _ (call (Value.ref _) _ _) _ _ _)); (fail_if_success (with_reducible show wpAny _ _ (pyIter _) _ _ _)); (fail_if_success (with_reducible show wpAny _ _ (call (Value.builtin "str.join") _ _) _ _ _)); (fail_if_success (with_reducible show wpAny _ _ (compareOp CmpOp.NotEq (Value.ref _) (Value.ref _)) _ _ _)); (fail_if_success (with_reducible show wpAny _ _ (subscriptTail _ _ _ _) _ _ _)); (fail_if_success (with_reducible show wpAny _ _ (eval (PySem.Expr.ListComp _ _ _ _) _) _ _ _)); (fail_if_success (with_reducible show InvPostN _ _ _ _ _ _ _ _ _)); (fail_if_success (with_reducible show InvEndN _ _ _ _ _ _ _)); first | (k_unfold; (try dsimp only)) | (with_reducible (k_here; (with_reducible show wpAny _ _ (eval _ (compEnv _ _ _)) _ _ _); first | refine ldc (by assumption) (by assumption) ?_ | k_dflt (refine cg_global (by k_asm) (by k_asm) (by k_asm) (by k_is) ?_) | k_dflt (refine cg_built (by k_asm) (by k_asm) (by k_asm) (by k_is) (by boot_by_name) (by decide) ?_))) | (with_reducible ((with_reducible show wpAny _ _ (newTuple _) _ _ _); (k_here; k_dflt (refine' newTuple_kp ?F ?N ?_ ?z; (case F => k_asm); (case N => k_asm); (case z => (rw [sizeLine_eq]; decide))); intro D' h' kp F' N' l1; (try k_lt l1); (try k_sweep)))) | walk1 | (dsimp only; walk1)))
  rename Fr _ _ _ _ => FL
  rename News _ _ _ _ => NL
  obtain ⟨l4, hl4⟩ : ∃ l4, l4 = [(lt2, listOf vt2.toArray nt2), (lr, listOf vr.toArray nr), (lt, listOf vt.toArray nt), (D1, listOf (List.take (Int.toNat 12) nv).toArray 0)] := ⟨_, rfl⟩
  rename_i lx _ _
  have hps : StrsAre [Value.str x t2, Value.str (Txt.join (Str.ofString ".") rs) t6, Value.str (Txt.join (Str.ofString "+_") rs) t7, Value.str (Txt.join (Str.ofString "-.") rs) t8] [x, Txt.join (Str.ofString ".") rs, Txt.join (Str.ofString "+_") rs, Txt.join (Str.ofString "-.") rs] := .cons _ _ (.cons _ _ (.cons _ _ (.cons _ _ .nil)))
  have hall : ∀ y ∈ [x, Txt.join (Str.ofString ".") rs, Txt.join (Str.ofString "+_") rs, Txt.join (Str.ofString "-.") rs], y.length ≤ 600 ∧ (∀ c ∈ y.cps.toList, c < 128 ∨ c = 233) ∧ rOf y.cps.toList = rs := by
    intro y hy
    simp only [List.mem_cons, List.not_mem_nil, or_false] at hy
    rcases hy with rfl | rfl | rfl | rfl
    · exact ⟨by omega, hxc, hrs.symm⟩
    · exact joined_ok (by decide +kernel) (by decide +kernel) (by decide +kernel) (by decide +kernel) htk hrc hsum hrl
    · exact joined_ok (by decide +kernel) (by decide +kernel) (by decide +kernel) (by decide +kernel) htk hrc hsum hrl
    · exact joined_ok (by decide +kernel) (by decide +kernel) (by decide +kernel) (by decide +kernel) htk hrc hsum hrl
  generalize [x, Txt.join (Str.ofString ".") rs, Txt.join (Str.ofString "+_") rs, Txt.join (Str.ofString "-.") rs] = ps at hps hall
  refine' strs_codeOn (σ := Unit) (l := lx) (ps := ps) (nn := 0) (Q := fun _ _ => False) (E' := fun _ _ => False) (fun _ => [(lx, listOf [Value.str x t2, Value.str (Txt.join (Str.ofString ".") rs) t6, Value.str (Txt.join (Str.ofString "+_") rs) t7, Value.str (Txt.join (Str.ofString "-.") rs) t8].toArray 0), (lt2, listOf vt2.toArray nt2), (lr, listOf vr.toArray nr), (lt, listOf vt.toArray nt), (D1, listOf (List.take (Int.toNat 12) nv).toArray 0)]) (fun _ => []) (fun _ => True) [Str.ofString "text", Str.ofString "told"] (fun _ _ => True) () (fun Γ c q => HasC.goto q) rfl rfl rfl (fun _ _ h => h.elim) (fun _ _ h => h.elim) (fun _ h => h.elim) (fun c => List.Mem.head _) hps (fun c => rfl) FL NL trivial (fun p hp => nomatch hp) trivial ?turn ?done
  case done =>
    intro c u h tk _ _ F1 N1
    dsimp only
    refine on_any ?_
    (repeat' ((fail_if_success (with_reducible show wpOn _ _ _ _ _ _ _)); (fail_if_success (with_reducible show wpAny _ _ (noteFrame _ _) _ _ _)); (fail_if_success (with_reducible show wpAny _ _ (call (Value.ref _) _ _) _ _ _)); (fail_if_success (with_reducible show wpAny _ _ (pyIter _) _ _ _)); (fail_if_success (with_reducible show wpAny _ _ (call (Value.builtin "str.join") _ _) _ _ _)); (fail_if_success (with_reducible show wpAny _ _ (compareOp CmpOp.NotEq (Value.ref _) (Value.ref _)) _ _ _)); (fail_if_success (with_reducible show wpAny _ _ (subscriptTail _ _ _ _) _ _ _)); (fail_if_success (with_reducible show wpAny _ _ (eval (PySem.Expr.ListComp _ _ _ _) _) _ _ _)); (fail_if_success (with_reducible show InvPostN _ _ _ _ _ _ _ _ _)); (fail_if_success (with_reducible show InvEndN _ _ _ _ _ _ _)); first | (k_unfold; (try dsimp only)) | (with_reducible (k_here; (with_reducible show wpAny _ _ (eval _ (compEnv _ _ _)) _ _ _); first | refine ldc (by assumption) (by assumption) ?_ | k_dflt (refine cg_global (by k_asm) (by k_asm) (by k_asm) (by k_is) ?_) | k_dflt (refine cg_built (by k_asm) (by k_asm) (by k_asm) (by k_is) (by boot_by_name) (by decide) ?_))) | (with_reducible ((with_reducible show wpAny _ _ (newTuple _) _ _ _); (k_here; k_dflt (refine' newTuple_kp ?F ?N ?_ ?z; (case F => k_asm); (case N => k_asm); (case z => (rw [sizeLine_eq]; decide))); intro D' h' kp F' N' l1; (try k_lt l1); (try k_sweep)))) | walk1 | (dsimp only; walk1)))
    rename Fr _ _ _ _ => FM
    rename News _ _ _ _ => NM
    refine all_at (dp := dp + 1) (un := un + 3) (gd := gd) FM NM (.tail _ (.tail _ (.head _))) X T rfl rfl (by omega) (by omega) hvr htk hrc hrl hrw1 hsum hfg fun h9 k9 F9 N9 => ?_
    (repeat' ((fail_if_success (with_reducible show wpOn _ _ _ _ _ _ _)); (fail_if_success (with_reducible show wpAny _ _ (noteFrame _ _) _ _ _)); (fail_if_success (with_reducible show wpAny _ _ (call (Value.ref _) _ _) _ _ _)); (fail_if_success (with_reducible show wpAny _ _ (pyIter _) _ _ _)); (fail_if_success (with_reducible show wpAny _ _ (call (Value.builtin "str.join") _ _) _ _ _)); (fail_if_success (with_reducible show wpAny _ _ (compareOp CmpOp.NotEq (Value.ref _) (Value.ref _)) _ _ _)); (fail_if_success (with_reducible show wpAny _ _ (subscriptTail _ _ _ _) _ _ _)); (fail_if_success (with_reducible show wpAny _ _ (eval (PySem.Expr.ListComp _ _ _ _) _) _ _ _)); (fail_if_success (with_reducible show InvPostN _ _ _ _ _ _ _ _ _)); (fail_if_success (with_reducible show InvEndN _ _ _ _ _ _ _)); first | (k_unfold; (try dsimp only)) | (with_reducible (k_here; (with_reducible show wpAny _ _ (eval _ (compEnv _ _ _)) _ _ _); first | refine ldc (by assumption) (by assumption) ?_ | k_dflt (refine cg_global (by k_asm) (by k_asm) (by k_asm) (by k_is) ?_) | k_dflt (refine cg_built (by k_asm) (by k_asm) (by k_asm) (by k_is) (by boot_by_name) (by decide) ?_))) | (with_reducible ((with_reducible show wpAny _ _ (newTuple _) _ _ _); (k_here; k_dflt (refine' newTuple_kp ?F ?N ?_ ?z; (case F => k_asm); (case N => k_asm); (case z => (rw [sizeLine_eq]; decide))); intro D' h' kp F' N' l1; (try k_lt l1); (try k_sweep)))) | walk1 | (dsimp only; walk1)))
    rename Fr _ _ _ _ => FP
    exact hret _ _ FP.keep
  case turn =>
    intro c pre post y ty u h tk own hpq hoff _ _ F1 N1
    obtain ⟨hy1, hy2, hy3⟩ := hall y (by rw [hpq]; exact List.mem_append_right _ (.head _))
    refine on_execs_cons (on_Assign (on_Call_Name ?_) ?sw)
    case sw => rfl
    (repeat' ((fail_if_success (with_reducible show wpOn _ _ _ _ _ _ _)); (fail_if_success (with_reducible show wpAny _ _ (noteFrame _ _) _ _ _)); (fail_if_success (with_reducible show wpAny _ _ (call (Value.ref _) _ _) _ _ _)); (fail_if_success (with_reducible show wpAny _ _ (pyIter _) _ _ _)); (fail_if_success (with_reducible show wpAny _ _ (call (Value.builtin "str.join") _ _) _ _ _)); (fail_if_success (with_reducible show wpAny _ _ (compareOp CmpOp.NotEq (Value.ref _) (Value.ref _)) _ _ _)); (fail_if_success (with_reducible show wpAny _ _ (subscriptTail _ _ _ _) _ _ _)); (fail_if_success (with_reducible show wpAny _ _ (eval (PySem.Expr.ListComp _ _ _ _) _) _ _ _)); (fail_if_success (with_reducible show InvPostN _ _ _ _ _ _ _ _ _)); (fail_if_success (with_reducible show InvEndN _ _ _ _ _ _ _)); first | (k_unfold; (try dsimp only)) | (with_reducible (k_here; (with_reducible show wpAny _ _ (eval _ (compEnv _ _ _)) _ _ _); first | refine ldc (by assumption) (by assumption) ?_ | k_dflt (refine cg_global (by k_asm) (by k_asm) (by k_asm) (by k_is) ?_) | k_dflt (refine cg_built (by k_asm) (by k_asm) (by k_asm) (by k_is) (by boot_by_name) (by decide) ?_))) | (with_reducible ((with_reducible show wpAny _ _ (newTuple _) _ _ _); (k_here; k_dflt (refine' newTuple_kp ?F ?N ?_ ?z; (case F => k_asm); (case N => k_asm); (case z => (rw [sizeLine_eq]; decide))); intro D' h' kp F' N' l1; (try k_lt l1); (try k_sweep)))) | walk1 | (dsimp only; walk1)))
    obtain ⟨fd, hfd⟩ : ∃ fd, (o57 w.params).data = .func fd := ⟨_, rfl⟩
    refine on_callWith_ref (o := o57 w.params) (fd := fd) ?_
    (repeat' ((fail_if_success (with_reducible show wpOn _ _ _ _ _ _ _)); (fail_if_success (with_reducible show wpAny _ _ (noteFrame _ _) _ _ _)); (fail_if_success (with_reducible show wpAny _ _ (call (Value.ref _) _ _) _ _ _)); (fail_if_success (with_reducible show wpAny _ _ (pyIter _) _ _ _)); (fail_if_success (with_reducible show wpAny _ _ (call (Value.builtin "str.join") _ _) _ _ _)); (fail_if_success (with_reducible show wpAny _ _ (compareOp CmpOp.NotEq (Value.ref _) (Value.ref _)) _ _ _)); (fail_if_success (with_reducible show wpAny _ _ (subscriptTail _ _ _ _) _ _ _)); (fail_if_success (with_reducible show wpAny _ _ (eval (PySem.Expr.ListComp _ _ _ _) _) _ _ _)); (fail_if_success (with_reducible show InvPostN _ _ _ _ _ _ _ _ _)); (fail_if_success (with_reducible show InvEndN _ _ _ _ _ _ _)); first | (k_unfold; (try dsimp only)) | (with_reducible (k_here; (with_reducible show wpAny _ _ (eval _ (compEnv _ _ _)) _ _ _); first | refine ldc (by assumption) (by assumption) ?_ | k_dflt (refine cg_global (by k_asm) (by k_asm) (by k_asm) (by k_is) ?_) | k_dflt (refine cg_built (by k_asm) (by k_asm) (by k_asm) (by k_is) (by boot_by_name) (by decide) ?_))) | (with_reducible ((with_reducible show wpAny _ _ (newTuple _) _ _ _); (k_here; k_dflt (refine' newTuple_kp ?F ?N ?_ ?z; (case F => k_asm); (case N => k_asm); (case z => (rw [sizeLine_eq]; decide))); intro D' h' kp F' N' l1; (try k_lt l1); (try k_sweep)))) | walk1 | (dsimp only; walk1)))
    · exact F1.keep _ _ (X _ _ rfl)
    rename Fr _ _ _ _ => FQ
    rename News _ _ _ _ => NQ
    refine on_call (fun Γ p q => HasC.enter q) ?_
    refine cc_at (dp := dp + 1) (un := un + 3) (gd := gd) FQ NQ X T rfl rfl (by omega) (by omega) hy1 hy2 fun la va na h7 k7 hta F7 N7 n7 => ?_
    rw [hy3] at hta
    dsimp only
    (repeat' ((fail_if_success (with_reducible show wpOn _ _ _ _ _ _ _)); (fail_if_success (with_reducible show wpAny _ _ (noteFrame _ _) _ _ _)); (fail_if_success (with_reducible show wpAny _ _ (call (Value.ref _) _ _) _ _ _)); (fail_if_success (with_reducible show wpAny _ _ (pyIter _) _ _ _)); (fail_if_success (with_reducible show wpAny _ _ (call (Value.builtin "str.join") _ _) _ _ _)); (fail_if_success (with_reducible show wpAny _ _ (compareOp CmpOp.NotEq (Value.ref _) (Value.ref _)) _ _ _)); (fail_if_success (with_reducible show wpAny _ _ (subscriptTail _ _ _ _) _ _ _)); (fail_if_success (with_reducible show wpAny _ _ (eval (PySem.Expr.ListComp _ _ _ _) _) _ _ _)); (fail_if_success (with_reducible show InvPostN _ _ _ _ _ _ _ _ _)); (fail_if_success (with_reducible show InvEndN _ _ _ _ _ _ _)); first | (k_unfold; (try dsimp only)) | (with_reducible (k_here; (with_reducible show wpAny _ _ (eval _ (compEnv _ _ _)) _ _ _); first | refine ldc (by assumption) (by assumption) ?_ | k_dflt (refine cg_global (by k_asm) (by k_asm) (by k_asm) (by k_is) ?_) | k_dflt (refine cg_built (by k_asm) (by k_asm) (by k_asm) (by k_is) (by boot_by_name) (by decide) ?_))) | (with_reducible ((with_reducible show wpAny _ _ (newTuple _) _ _ _); (k_here; k_dflt (refine' newTuple_kp ?F ?N ?_ ?z; (case F => k_asm); (case N => k_asm); (case z => (rw [sizeLine_eq]; decide))); intro D' h' kp F' N' l1; (try k_lt l1); (try k_sweep)))) | walk1 | (dsimp only; walk1)))
    rename Fr _ _ _ _ => FS
    rename News _ _ _ _ => NS
    refine on_execs_cons (on_If ?_)
    (repeat' ((fail_if_success (with_reducible show wpOn _ _ _ _ _ _ _)); (fail_if_success (with_reducible show wpAny _ _ (noteFrame _ _) _ _ _)); (fail_if_success (with_reducible show wpAny _ _ (call (Value.ref _) _ _) _ _ _)); (fail_if_success (with_reducible show wpAny _ _ (pyIter _) _ _ _)); (fail_if_success (with_reducible show wpAny _ _ (call (Value.builtin "str.join") _ _) _ _ _)); (fail_if_success (with_reducible show wpAny _ _ (compareOp CmpOp.NotEq (Value.ref _) (Value.ref _)) _ _ _)); (fail_if_success (with_reducible show wpAny _ _ (subscriptTail _ _ _ _) _ _ _)); (fail_if_success (with_reducible show wpAny _ _ (eval (PySem.Expr.ListComp _ _ _ _) _) _ _ _)); (fail_if_success (with_reducible show InvPostN _ _ _ _ _ _ _ _ _)); (fail_if_success (with_reducible show InvEndN _ _ _ _ _ _ _)); first | (k_unfold; (try dsimp only)) | (with_reducible (k_here; (with_reducible show wpAny _ _ (eval _ (compEnv _ _ _)) _ _ _); first | refine ldc (by assumption) (by assumption) ?_ | k_dflt (refine cg_global (by k_asm) (by k_asm) (by k_asm) (by k_is) ?_) | k_dflt (refine cg_built (by k_asm) (by k_asm) (by k_asm) (by k_is) (by boot_by_name) (by decide) ?_))) | (with_reducible ((with_reducible show wpAny _ _ (newTuple _) _ _ _); (k_here; k_dflt (refine' newTuple_kp ?F ?N ?_ ?z; (case F => k_asm); (case N => k_asm); (case z => (rw [sizeLine_eq]; decide))); intro D' h' kp F' N' l1; (try k_lt l1); (try k_sweep)))) | walk1 | (dsimp only; walk1)))
    rename Fr _ _ _ _ => FT
    rename News _ _ _ _ => NT
    refine told_at (dp := dp + 1) (un := un + 3) (gd := gd) FT NT (lr := lr) (.tail _ (.tail _ (.tail _ (.head _)))) X T hvr htk (by omega) (fun r hr => Nat.le_trans (hrw1 r hr) (by decide)) (by omega) (by omega) fun lb vb nb h8 k8 htb F8 N8 n8 => ?_
    (repeat' ((fail_if_success (with_reducible show wpOn _ _ _ _ _ _ _)); (fail_if_success (with_reducible show wpAny _ _ (noteFrame _ _) _ _ _)); (fail_if_success (with_reducible show wpAny _ _ (call (Value.ref _) _ _) _ _ _)); (fail_if_success (with_reducible show wpAny _ _ (pyIter _) _ _ _)); (fail_if_success (with_reducible show wpAny _ _ (call (Value.builtin "str.join") _ _) _ _ _)); (fail_if_success (with_reducible show wpAny _ _ (compareOp CmpOp.NotEq (Value.ref _) (Value.ref _)) _ _ _)); (fail_if_success (with_reducible show wpAny _ _ (subscriptTail _ _ _ _) _ _ _)); (fail_if_success (with_reducible show wpAny _ _ (eval (PySem.Expr.ListComp _ _ _ _) _) _ _ _)); (fail_if_success (with_reducible show InvPostN _ _ _ _ _ _ _ _ _)); (fail_if_success (with_reducible show InvEndN _ _ _ _ _ _ _)); first | (k_unfold; (try dsimp only)) | (with_reducible (k_here; (with_reducible show wpAny _ _ (eval _ (compEnv _ _ _)) _ _ _); first | refine ldc (by assumption) (by assumption) ?_ | k_dflt (refine cg_global (by k_asm) (by k_asm) (by k_asm) (by k_is) ?_) | k_dflt (refine cg_built (by k_asm) (by k_asm) (by k_asm) (by k_is) (by boot_by_name) (by decide) ?_))) | (with_reducible ((with_reducible show wpAny _ _ (newTuple _) _ _ _); (k_here; k_dflt (refine' newTuple_kp ?F ?N ?_ ?z; (case F => k_asm); (case N => k_asm); (case z => (rw [sizeLine_eq]; decide))); intro D' h' kp F' N' l1; (try k_lt l1); (try k_sweep)))) | walk1 | (dsimp only; walk1)))
    rename Fr _ _ _ _ => FU
    rename News _ _ _ _ => NU
    refine ne_lists (NU.isList (.tail _ (.head _))) (NU.isList (.head _)) (same_ix (told_same hta htb)) ?u3 ?_
    case u3 => (dsimp only [Around.deeper]; omega)
    (repeat' ((fail_if_success (with_reducible show wpOn _ _ _ _ _ _ _)); (fail_if_success (with_reducible show wpAny _ _ (noteFrame _ _) _ _ _)); (fail_if_success (with_reducible show wpAny _ _ (call (Value.ref _) _ _) _ _ _)); (fail_if_success (with_reducible show wpAny _ _ (pyIter _) _ _ _)); (fail_if_success (with_reducible show wpAny _ _ (call (Value.builtin "str.join") _ _) _ _ _)); (fail_if_success (with_reducible show wpAny _ _ (compareOp CmpOp.NotEq (Value.ref _) (Value.ref _)) _ _ _)); (fail_if_success (with_reducible show wpAny _ _ (subscriptTail _ _ _ _) _ _ _)); (fail_if_success (with_reducible show wpAny _ _ (eval (PySem.Expr.ListComp _ _ _ _) _) _ _ _)); (fail_if_success (with_reducible show InvPostN _ _ _ _ _ _ _ _ _)); (fail_if_success (with_reducible show InvEndN _ _ _ _ _ _ _)); first | (k_unfold; (try dsimp only)) | (with_reducible (k_here; (with_reducible show wpAny _ _ (eval _ (compEnv _ _ _)) _ _ _); first | refine ldc (by assumption) (by assumption) ?_ | k_dflt (refine cg_global (by k_asm) (by k_asm) (by k_asm) (by k_is) ?_) | k_dflt (refine cg_built (by k_asm) (by k_asm) (by k_asm) (by k_is) (by boot_by_name) (by decide) ?_))) | (with_reducible ((with_reducible show wpAny _ _ (newTuple _) _ _ _); (k_here; k_dflt (refine' newTuple_kp ?F ?N ?_ ?z; (case F => k_asm); (case N => k_asm); (case z => (rw [sizeLine_eq]; decide))); intro D' h' kp F' N' l1; (try k_lt l1); (try k_sweep)))) | walk1 | (dsimp only; walk1)))
    rename Fr _ _ _ _ => FV
    rename News _ _ _ _ => NV
    k_dflt (refine comp_in (h₀ := s.heap) (L := L') (fun _ => false) Eq FV rfl (by decide) (by decide) rfl (by decide) rfl ?_ (by intro _; rfl))
    (repeat' ((fail_if_success (with_reducible show wpOn _ _ _ _ _ _ _)); (fail_if_success (with_reducible show wpAny _ _ (noteFrame _ _) _ _ _)); (fail_if_success (with_reducible show wpAny _ _ (call (Value.ref _) _ _) _ _ _)); (fail_if_success (with_reducible show wpAny _ _ (pyIter _) _ _ _)); (fail_if_success (with_reducible show wpAny _ _ (call (Value.builtin "str.join") _ _) _ _ _)); (fail_if_success (with_reducible show wpAny _ _ (compareOp CmpOp.NotEq (Value.ref _) (Value.ref _)) _ _ _)); (fail_if_success (with_reducible show wpAny _ _ (subscriptTail _ _ _ _) _ _ _)); (fail_if_success (with_reducible show wpAny _ _ (eval (PySem.Expr.ListComp _ _ _ _) _) _ _ _)); (fail_if_success (with_reducible show InvPostN _ _ _ _ _ _ _ _ _)); (fail_if_success (with_reducible show InvEndN _ _ _ _ _ _ _)); first | (k_unfold; (try dsimp only)) | (with_reducible (k_here; (with_reducible show wpAny _ _ (eval _ (compEnv _ _ _)) _ _ _); first | refine ldc (by assumption) (by assumption) ?_ | k_dflt (refine cg_global (by k_asm) (by k_asm) (by k_asm) (by k_is) ?_) | k_dflt (refine cg_built (by k_asm) (by k_asm) (by k_asm) (by k_is) (by boot_by_name) (by decide) ?_))) | (with_reducible ((with_reducible show wpAny _ _ (newTuple _) _ _ _); (k_here; k_dflt (refine' newTuple_kp ?F ?N ?_ ?z; (case F => k_asm); (case N => k_asm); (case z => (rw [sizeLine_eq]; decide))); intro D' h' kp F' N' l1; (try k_lt l1); (try k_sweep)))) | walk1 | (dsimp only; walk1)))
    rename Fr _ _ _ _ => FW
    rename News _ _ _ _ => NW
    refine ⟨la, va.toArray, _, rfl, FW, NW, ⟨_, NW.get (.tail _ (.head _)), rfl, na, rfl⟩, ?z, ?t, ?e, ?d⟩
    case z =>
      rw [List.size_toArray, hta.length, sizeLine_eq]
      omega
    case t =>
      intro C v s₂ m₂ E' hv hn hm hk
      have hm' : s₂.heap.Ns C m₂ := hn
      have F13 := FW.of_stays (fun b o e => hk b o (FW.keep b o e)) (Heap.UpToSlots.of_keeps hk)
      have N13 := NW.grown hk
      rcases told_kinds hta v (List.mem_toArray.mp hv) with ⟨n, t, rfl⟩ | ⟨z, t, rfl⟩
      · (repeat' ((fail_if_success (with_reducible show wpOn _ _ _ _ _ _ _)); (fail_if_success (with_reducible show wpAny _ _ (noteFrame _ _) _ _ _)); (fail_if_success (with_reducible show wpAny _ _ (call (Value.ref _) _ _) _ _ _)); (fail_if_success (with_reducible show wpAny _ _ (pyIter _) _ _ _)); (fail_if_success (with_reducible show wpAny _ _ (call (Value.builtin "str.join") _ _) _ _ _)); (fail_if_success (with_reducible show wpAny _ _ (compareOp CmpOp.NotEq (Value.ref _) (Value.ref _)) _ _ _)); (fail_if_success (with_reducible show wpAny _ _ (subscriptTail _ _ _ _) _ _ _)); (fail_if_success (with_reducible show wpAny _ _ (eval (PySem.Expr.ListComp _ _ _ _) _) _ _ _)); (fail_if_success (with_reducible show InvPostN _ _ _ _ _ _ _ _ _)); (fail_if_success (with_reducible show InvEndN _ _ _ _ _ _ _)); first | (k_unfold; (try dsimp only)) | (with_reducible (k_here; (with_reducible show wpAny _ _ (eval _ (compEnv _ _ _)) _ _ _); first | refine ldc (by assumption) (by assumption) ?_ | k_dflt (refine cg_global (by k_asm) (by k_asm) (by k_asm) (by k_is) ?_) | k_dflt (refine cg_built (by k_asm) (by k_asm) (by k_asm) (by k_is) (by boot_by_name) (by decide) ?_))) | (with_reducible ((with_reducible show wpAny _ _ (newTuple _) _ _ _); (k_here; k_dflt (refine' newTuple_kp ?F ?N ?_ ?z; (case F => k_asm); (case N => k_asm); (case z => (rw [sizeLine_eq]; decide))); intro D' h' kp F' N' l1; (try k_lt l1); (try k_sweep)))) | walk1 | (dsimp only; walk1)))
        rename (∀ b o, s₂.heap.get? b = some o → _) => kq
        exact ⟨_, _, rfl, kq⟩
      · (repeat' ((fail_if_success (with_reducible show wpOn _ _ _ _ _ _ _)); (fail_if_success (with_reducible show wpAny _ _ (noteFrame _ _) _ _ _)); (fail_if_success (with_reducible show wpAny _ _ (call (Value.ref _) _ _) _ _ _)); (fail_if_success (with_reducible show wpAny _ _ (pyIter _) _ _ _)); (fail_if_success (with_reducible show wpAny _ _ (call (Value.builtin "str.join") _ _) _ _ _)); (fail_if_success (with_reducible show wpAny _ _ (compareOp CmpOp.NotEq (Value.ref _) (Value.ref _)) _ _ _)); (fail_if_success (with_reducible show wpAny _ _ (subscriptTail _ _ _ _) _ _ _)); (fail_if_success (with_reducible show wpAny _ _ (eval (PySem.Expr.ListComp _ _ _ _) _) _ _ _)); (fail_if_success (with_reducible show InvPostN _ _ _ _ _ _ _ _ _)); (fail_if_success (with_reducible show InvEndN _ _ _ _ _ _ _)); first | (k_unfold; (try dsimp only)) | (with_reducible (k_here; (with_reducible show wpAny _ _ (eval _ (compEnv _ _ _)) _ _ _); first | refine ldc (by assumption) (by assumption) ?_ | k_dflt (refine cg_global (by k_asm) (by k_asm) (by k_asm) (by k_is) ?_) | k_dflt (refine cg_built (by k_asm) (by k_asm) (by k_asm) (by k_is) (by boot_by_name) (by decide) ?_))) | (with_reducible ((with_reducible show wpAny _ _ (newTuple _) _ _ _); (k_here; k_dflt (refine' newTuple_kp ?F ?N ?_ ?z; (case F => k_asm); (case N => k_asm); (case z => (rw [sizeLine_eq]; decide))); intro D' h' kp F' N' l1; (try k_lt l1); (try k_sweep)))) | walk1 | (dsimp only; walk1)))
        rename (∀ b o, s₂.heap.get? b = some o → _) => kq
        exact ⟨_, _, rfl, kq⟩
    case e =>
      intro C v s₂ m₂ E' hv hp hn hm hk
      exact absurd hp Bool.false_ne_true
    case d =>
      intro D h9 tk9 ys hD hP F9 N9 q1 q2 q3
      obtain ⟨oD, hoD, hDc, kD, hDd⟩ := id hD
      have N10 := news_put N9 hoD ⟨q2, q1⟩
      clear N9
      have hys := paired_eq hP
      have hy0 : ys = #[] := Array.toList_inj.mp (hys.trans (by simp))
      subst hy0
      (repeat' ((fail_if_success (with_reducible show wpOn _ _ _ _ _ _ _)); (fail_if_success (with_reducible show wpAny _ _ (noteFrame _ _) _ _ _)); (fail_if_success (with_reducible show wpAny _ _ (call (Value.ref _) _ _) _ _ _)); (fail_if_success (with_reducible show wpAny _ _ (pyIter _) _ _ _)); (fail_if_success (with_reducible show wpAny _ _ (call (Value.builtin "str.join") _ _) _ _ _)); (fail_if_success (with_reducible show wpAny _ _ (compareOp CmpOp.NotEq (Value.ref _) (Value.ref _)) _ _ _)); (fail_if_success (with_reducible show wpAny _ _ (subscriptTail _ _ _ _) _ _ _)); (fail_if_success (with_reducible show wpAny _ _ (eval (PySem.Expr.ListComp _ _ _ _) _) _ _ _)); (fail_if_success (with_reducible show InvPostN _ _ _ _ _ _ _ _ _)); (fail_if_success (with_reducible show InvEndN _ _ _ _ _ _ _)); first | (k_unfold; (try dsimp only)) | (with_reducible (k_here; (with_reducible show wpAny _ _ (eval _ (compEnv _ _ _)) _ _ _); first | refine ldc (by assumption) (by assumption) ?_ | k_dflt (refine cg_global (by k_asm) (by k_asm) (by k_asm) (by k_is) ?_) | k_dflt (refine cg_built (by k_asm) (by k_asm) (by k_asm) (by k_is) (by boot_by_name) (by decide) ?_))) | (with_reducible ((with_reducible show wpAny _ _ (newTuple _) _ _ _); (k_here; k_dflt (refine' newTuple_kp ?F ?N ?_ ?z; (case F => k_asm); (case N => k_asm); (case z => (rw [sizeLine_eq]; decide))); intro D' h' kp F' N' l1; (try k_lt l1); (try k_sweep)))) | walk1 | (dsimp only; walk1)))
      rename Fr _ _ _ _ => FX
      rename News _ _ _ _ => NX
      refine ne_lists (xs := []) (ys := []) ⟨oD, NX.get (.tail _ (.head _)), hDc, kD, hDd⟩ (NX.isList (.head _)) ⟨rfl, fun j a b ha => by simp at ha⟩ ?u4 ?_
      case u4 => (dsimp only [Around.deeper]; omega)
      (repeat' ((fail_if_success (with_reducible show wpOn _ _ _ _ _ _ _)); (fail_if_success (with_reducible show wpAny _ _ (noteFrame _ _) _ _ _)); (fail_if_success (with_reducible show wpAny _ _ (call (Value.ref _) _ _) _ _ _)); (fail_if_success (with_reducible show wpAny _ _ (pyIter _) _ _ _)); (fail_if_success (with_reducible show wpAny _ _ (call (Value.builtin "str.join") _ _) _ _ _)); (fail_if_success (with_reducible show wpAny _ _ (compareOp CmpOp.NotEq (Value.ref _) (Value.ref _)) _ _ _)); (fail_if_success (with_reducible show wpAny _ _ (subscriptTail _ _ _ _) _ _ _)); (fail_if_success (with_reducible show wpAny _ _ (eval (PySem.Expr.ListComp _ _ _ _) _) _ _ _)); (fail_if_success (with_reducible show InvPostN _ _ _ _ _ _ _ _ _)); (fail_if_success (with_reducible show InvEndN _ _ _ _ _ _ _)); first | (k_unfold; (try dsimp only)) | (with_reducible (k_here; (with_reducible show wpAny _ _ (eval _ (compEnv _ _ _)) _ _ _); first | refine ldc (by assumption) (by assumption) ?_ | k_dflt (refine cg_global (by k_asm) (by k_asm) (by k_asm) (by k_is) ?_) | k_dflt (refine cg_built (by k_asm) (by k_asm) (by k_asm) (by k_is) (by boot_by_name) (by decide) ?_))) | (with_reducible ((with_reducible show wpAny _ _ (newTuple _) _ _ _); (k_here; k_dflt (refine' newTuple_kp ?F ?N ?_ ?z; (case F => k_asm); (case N => k_asm); (case z => (rw [sizeLine_eq]; decide))); intro D' h' kp F' N' l1; (try k_lt l1); (try k_sweep)))) | walk1 | (dsimp only; walk1)))
      refine on_any (wpAny_execs_nil ?_)
      dsimp only
      refine on_any (wpAny_execs_nil ?_)
      rename Fr _ _ _ _ => FY
      rename News _ _ _ _ => NY
      refine sl_end (σ := Unit) (pr := fun _ => []) (Q := fun _ _ => False) () FY NY (fun p hp => ?_) (fun p hp => ?_) rfl trivial (fun p hp => nomatch hp) (fun z h1 _ h3 => ?_) trivial
      · simp only [List.mem_append, List.mem_cons, List.not_mem_nil, or_false] at hp ⊢
        rcases hp with h | h | h | h | h <;> simp [h]
      · simp only [List.mem_append, List.mem_cons]
        simp [hp]
      · have hz : z ≠ Str.ofString "told" := by
          rintro rfl
          exact absurd h3 (by decide +kernel)
        simp only [if_neg h1, if_neg hz]
        show (if _ then _ else _) = _
        rw [h3]
        rfl
end Mine
end
section
open PySem PySem.W PySem.W.X PyProof.Rows PySem.Calls
set_option maxRecDepth 100000
namespace Mine
theorem loose_eq : looseW q1 loose1 = loose1 := by decide +kernel
theorem final_walk : WalkOn q1 loose1 (fun _ _ => True) (obsZ asK) (valZ K1 803 1358) PySem.Challenge.rw_ox0114_01.row.toRowW := by
  intro w s₀ s₁ mg mb G Y args vals as hgens hpre hlay L
  have IK : InK K1 w s₀.heap := InK.of (as := asK) (fun _ => rfl) w s₀ (congrArg Prod.fst Y)
  have IK1 : (K2 w.params).In s₁.heap := InK.keeps w _ _ IK L.keeps
  have T := G.T
  rw [loose_eq] at T
  refine ⟨.ref 802, mg_of IK1 T.g rfl, ?_⟩
  have hrd := L.reads
  have hwl := L.well
  have hsz : s₀.heap.objs.size = 803 := congrArg (fun x => x.2.1) Y
  have hlo := L.low (by rw [hsz]; decide)
  wrow_args hpre hlay hrd hwl hlo
  rename Heap.IsList _ _ _ => hL
  rename IntsAre _ _ => hI
  rename ¬ _ < _ => hn
  refine on_call (P' := HasC) (fun Γ p q => HasC.first q) ?_
  refine law_spec (dp := 1 + claimMargin) (un := 4) (gd := some []) IK1 T hL hI (by omega) (by decide) (by decide) fun h' tk' hst => ?_
  dsimp only
  refine ⟨.inl ⟨_, _, _, rfl, ?zr, ReadsW.bool _, ?zp, ?zu⟩, .of_keep ?zk, rfl, ?zg⟩
  case zr => (refine raisesW_false ?_; wrow_none_raised)
  case zp => wrow_post
  case zu => (intro _; exact ⟨List.nodup_nil, fun a ha => nomatch ha⟩)
  case zk => exact fun b o e => hst b o e
  case zg => exact .of_eq hgens
noncomputable def lawRec : DefRec := match stAt 34 with
  | .FunctionDef n a body _ _ _ sc _ _ ps => ⟨n, a, body, sc, ps⟩
  | _ => ⟨Str.ofString "", ⟨[], [], none, [], [], none, []⟩, [], default, default⟩
set_option maxHeartbeats 0 in
theorem all_holds : PySem.Challenge.rw_ox0114_01.Holds := holds_law said0 fun said => holds_on (r := PySem.Challenge.rw_ox0114_01.row) (d := lawRec) (kwd := []) left1 (fun _ _ => trivial) (fun _ _ _ _ _ => trivial) (by kernel_rfl) (by kernel_rfl) (by kernel_rfl) (fun _ _ => recFacts_nil rfl) rfl said (by decide +kernel) ⟨rfl, rfl, rfl, rfl, rfl, by decide +kernel⟩ (by w_witness2) final_walk
end Mine
end
theorem PySem.Challenge.cw_ox0114_01_holds : PySem.Challenge.rw_ox0114_01.Holds := by
  exact Mine.all_holds
