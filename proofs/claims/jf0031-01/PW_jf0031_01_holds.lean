import PyProof.Rows.All
import Wide.All
import OpenK.AllK
import Wide.FinOn
import KE.KLam
import KE.KSortTup
import PyProof.SliceMore
import PyProof.WalksPairs
import PyProof.RulesTry
import OpenK.XSeg
import PyProof.EnumFor
import PyProof.EnumMake
import PyProof.EnumStmt
import PySem.Challenge.RW_jf0031_01
set_option Elab.async false
set_option maxRecDepth 100000
set_option linter.all false
set_option compiler.extract_closed false
set_option genInjectivity false
set_option genSizeOfSpec false
set_option genSizeOf false
open PySem PySem.W PyProof.Rows
namespace Jf
open PySem PySem.W PySem.Calls PyProof.Rows
noncomputable def nth : List Stmt → Nat → Stmt
  | [], _ => .Pass ⟨0, 0, 0, 0⟩
  | s :: _, 0 => s
  | _ :: r, n + 1 => nth r n
noncomputable def noA : Arguments := ⟨[], [], none, [], [], none, []⟩
noncomputable def noS : Scope := { kind := .module, names := [], isGenerator := false, isCoroutine := false, more := [] }
noncomputable def sel : Stmt → List Stmt × List Stmt × Arguments × Scope
  | .FunctionDef _ a b _ _ _ sc _ _ _ => (b, [], a, sc)
  | .ClassDef _ _ _ b _ _ _ _ _ _ _ => (b, [], noA, noS)
  | .If _ b e _ => (b, e, noA, noS)
  | .For _ _ b _ _ => (b, [], noA, noS)
  | _ => ([], [], noA, noS)
noncomputable def fB (s : Stmt) : List Stmt := (sel s).1
noncomputable def fP (s : Stmt) : Arguments := (sel s).2.2.1
noncomputable def fS (s : Stmt) : Scope := (sel s).2.2.2
noncomputable abbrev sv (s : String) (t : Tok) : Value := .str (Str.ofString s) t
noncomputable abbrev de (P : Params) (s : String) (t : Tok) (v : Value) : DictEntry := ⟨PyData.keyHash P (Str.ofString s), .str (Str.ofString s) t, v⟩
noncomputable abbrev mB : List Stmt := PySem.Challenge.pw_jf0031_01.main.body
noncomputable def k0 (P : Params) : Obj := { cls := (.type "dict"), dict := none, data := (.dict ⟨[de P "__name__" 1 (sv "builtins" 160), de P "__doc__" 2 (.builtin "builtins.__doc__:str#opaque"), de P "__package__" 3 (.builtin "builtins.__package__:str#opaque"), de P "__loader__" 4 (.builtin "builtins.__loader__:shared#opaque"), de P "__spec__" 5 (.builtin "builtins.__spec__#opaque"), de P "__build_class__" 6 (.builtin "__build_class__"), de P "__import__" 7 (.builtin "__import__"), de P "abs" 8 (.builtin "abs"), de P "all" 9 (.builtin "all"), de P "any" 10 (.builtin "any"), de P "ascii" 11 (.builtin "ascii"), de P "bin" 12 (.builtin "bin"), de P "breakpoint" 13 (.builtin "breakpoint"), de P "callable" 14 (.builtin "callable"), de P "chr" 15 (.builtin "chr"), de P "compile" 16 (.builtin "compile"), de P "delattr" 17 (.builtin "delattr"), de P "dir" 18 (.builtin "dir"), de P "divmod" 19 (.builtin "divmod"), de P "eval" 20 (.builtin "eval"), de P "exec" 21 (.builtin "exec"), de P "format" 22 (.builtin "format"), de P "getattr" 23 (.builtin "getattr"), de P "globals" 24 (.builtin "globals"), de P "hasattr" 25 (.builtin "hasattr"), de P "hash" 26 (.builtin "hash"), de P "hex" 27 (.builtin "hex"), de P "id" 28 (.builtin "id"), de P "input" 29 (.builtin "input"), de P "isinstance" 30 (.builtin "isinstance"), de P "issubclass" 31 (.builtin "issubclass"), de P "iter" 32 (.builtin "iter"), de P "aiter" 33 (.builtin "aiter"), de P "len" 34 (.builtin "len"), de P "locals" 35 (.builtin "locals"), de P "max" 36 (.builtin "max"), de P "min" 37 (.builtin "min"), de P "next" 38 (.builtin "next"), de P "anext" 39 (.builtin "anext"), de P "oct" 40 (.builtin "oct"), de P "ord" 41 (.builtin "ord"), de P "pow" 42 (.builtin "pow"), de P "print" 43 (.builtin "print"), de P "repr" 44 (.builtin "repr"), de P "round" 45 (.builtin "round"), de P "setattr" 46 (.builtin "setattr"), de P "sorted" 47 (.builtin "sorted"), de P "sum" 48 (.builtin "sum"), de P "vars" 49 (.builtin "vars"), de P "None" 50 .none, ⟨PyData.keyHash P (Str.ofString "Ellipsis"), (sv "Ellipsis" 51), .ellipsis⟩, ⟨PyData.keyHash P (Str.ofString "NotImplemented"), (sv "NotImplemented" 52), .notImplemented⟩, de P "False" 53 (.bool false), de P "True" 54 (.bool true), de P "bool" 55 (.type "bool"), de P "memoryview" 56 (.type "memoryview"), de P "bytearray" 57 (.type "bytearray"), de P "bytes" 58 (.type "bytes"), de P "classmethod" 59 (.type "classmethod"), de P "complex" 60 (.type "complex"), de P "dict" 61 (.type "dict"), de P "enumerate" 62 (.type "enumerate"), de P "filter" 63 (.type "filter"), de P "float" 64 (.type "float"), de P "frozenset" 65 (.type "frozenset"), de P "property" 66 (.type "property"), de P "int" 67 (.type "int"), de P "list" 68 (.type "list"), de P "map" 69 (.type "map"), de P "object" 70 (.type "object"), de P "range" 71 (.type "range"), de P "reversed" 72 (.type "reversed"), de P "set" 73 (.type "set"), de P "slice" 74 (.type "slice"), de P "staticmethod" 75 (.type "staticmethod"), de P "str" 76 (.type "str"), de P "super" 77 (.type "super"), de P "tuple" 78 (.type "tuple"), de P "type" 79 (.type "type"), de P "zip" 80 (.type "zip"), de P "__debug__" 81 (.bool true), de P "BaseException" 82 (.type "BaseException"), de P "BaseExceptionGroup" 83 (.type "BaseExceptionGroup"), de P "Exception" 84 (.type "Exception"), de P "GeneratorExit" 85 (.type "GeneratorExit"), de P "KeyboardInterrupt" 86 (.type "KeyboardInterrupt"), de P "SystemExit" 87 (.type "SystemExit"), de P "ArithmeticError" 88 (.type "ArithmeticError"), de P "AssertionError" 89 (.type "AssertionError"), de P "AttributeError" 90 (.type "AttributeError"), de P "BufferError" 91 (.type "BufferError"), de P "EOFError" 92 (.type "EOFError"), de P "ImportError" 93 (.type "ImportError"), de P "LookupError" 94 (.type "LookupError"), de P "MemoryError" 95 (.type "MemoryError"), de P "NameError" 96 (.type "NameError"), de P "OSError" 97 (.type "OSError"), de P "ReferenceError" 98 (.type "ReferenceError"), de P "RuntimeError" 99 (.type "RuntimeError"), de P "StopAsyncIteration" 100 (.type "StopAsyncIteration"), de P "StopIteration" 101 (.type "StopIteration"), de P "SyntaxError" 102 (.type "SyntaxError"), de P "SystemError" 103 (.type "SystemError"), de P "TypeError" 104 (.type "TypeError"), de P "ValueError" 105 (.type "ValueError"), de P "Warning" 106 (.type "Warning"), de P "FloatingPointError" 107 (.type "FloatingPointError"), de P "OverflowError" 108 (.type "OverflowError"), de P "ZeroDivisionError" 109 (.type "ZeroDivisionError"), de P "BytesWarning" 110 (.type "BytesWarning"), de P "DeprecationWarning" 111 (.type "DeprecationWarning"), de P "EncodingWarning" 112 (.type "EncodingWarning"), de P "FutureWarning" 113 (.type "FutureWarning"), de P "ImportWarning" 114 (.type "ImportWarning"), de P "PendingDeprecationWarning" 115 (.type "PendingDeprecationWarning"), de P "ResourceWarning" 116 (.type "ResourceWarning"), de P "RuntimeWarning" 117 (.type "RuntimeWarning"), de P "SyntaxWarning" 118 (.type "SyntaxWarning"), de P "UnicodeWarning" 119 (.type "UnicodeWarning"), de P "UserWarning" 120 (.type "UserWarning"), de P "BlockingIOError" 121 (.type "BlockingIOError"), de P "ChildProcessError" 122 (.type "ChildProcessError"), de P "ConnectionError" 123 (.type "ConnectionError"), de P "FileExistsError" 124 (.type "FileExistsError"), de P "FileNotFoundError" 125 (.type "FileNotFoundError"), de P "InterruptedError" 126 (.type "InterruptedError"), de P "IsADirectoryError" 127 (.type "IsADirectoryError"), de P "NotADirectoryError" 128 (.type "NotADirectoryError"), de P "PermissionError" 129 (.type "PermissionError"), de P "ProcessLookupError" 130 (.type "ProcessLookupError"), de P "TimeoutError" 131 (.type "TimeoutError"), de P "IndentationError" 132 (.type "IndentationError"), de P "_IncompleteInputError" 133 (.type "_IncompleteInputError"), de P "IndexError" 134 (.type "IndexError"), de P "KeyError" 135 (.type "KeyError"), de P "ModuleNotFoundError" 136 (.type "ModuleNotFoundError"), de P "NotImplementedError" 137 (.type "NotImplementedError"), de P "PythonFinalizationError" 138 (.type "PythonFinalizationError"), de P "RecursionError" 139 (.type "RecursionError"), de P "UnboundLocalError" 140 (.type "UnboundLocalError"), de P "UnicodeError" 141 (.type "UnicodeError"), de P "BrokenPipeError" 142 (.type "BrokenPipeError"), de P "ConnectionAbortedError" 143 (.type "ConnectionAbortedError"), de P "ConnectionRefusedError" 144 (.type "ConnectionRefusedError"), de P "ConnectionResetError" 145 (.type "ConnectionResetError"), de P "TabError" 146 (.type "TabError"), de P "UnicodeDecodeError" 147 (.type "UnicodeDecodeError"), de P "UnicodeEncodeError" 148 (.type "UnicodeEncodeError"), de P "UnicodeTranslateError" 149 (.type "UnicodeTranslateError"), de P "ExceptionGroup" 150 (.type "ExceptionGroup"), de P "EnvironmentError" 151 (.type "OSError"), de P "IOError" 152 (.type "OSError"), de P "open" 153 (.builtin "open"), de P "quit" 154 (.builtin "builtins.quit#opaque"), de P "exit" 155 (.builtin "builtins.exit#opaque"), de P "copyright" 156 (.builtin "builtins.copyright#opaque"), de P "credits" 157 (.builtin "builtins.credits#opaque"), de P "license" 158 (.builtin "builtins.license#opaque"), de P "help" 159 (.builtin "builtins.help#opaque")]⟩ 159), slots := ⟨[]⟩ }
noncomputable def k2 (P : Params) : Obj := { cls := .none, dict := none, data := (.dict ⟨[]⟩ 0), slots := ⟨[]⟩ }
noncomputable def k3 (P : Params) : Obj := { cls := (.type "dict"), dict := none, data := (.dict ⟨[de P "__name__" 165 (sv "law_jf0031_01" 1251), de P "__doc__" 166 .none, de P "__package__" 167 .none, de P "__loader__" 168 (.builtin "__main__.__loader__#opaque"), de P "__spec__" 169 .none, de P "__annotations__" 170 (.ref 6), de P "__builtins__" 171 (.ref 4), de P "__file__" 173 (sv "/claim/cut.py" 172), de P "__cached__" 174 .none, de P "_wall" 193 (.ref 21), de P "Multiset" 342 (.ref 135), de P "_tuplegetter" 401 (.ref 178), de P "_sort" 410 (.ref 189), de P "Expression" 571 (.ref 308), de P "Arity" 686 (.ref 380), de P "_OperationMeta" 744 (.ref 415), de P "Operation" 949 (.ref 561), de P "Atom" 967 (.ref 573), de P "Symbol" 1045 (.ref 637), de P "Wildcard" 1190 (.ref 741), de P "preorder_iter_with_position" 1204 (.ref 750), de P "create_operation_expression" 1213 (.ref 758), de P "op_iter" 1220 (.ref 765), de P "op_len" 1227 (.ref 772), de P "replace" 1243 (.ref 779), de P "replace_many" 1250 (.ref 784), de P "_law_make" 1258 (.ref 789), de P "_law_told" 1264 (.ref 794), de P "_law_opened" 1274 (.ref 801), de P "_law_next" 1282 (.ref 808), de P "_law_grown" 1288 (.ref 813), de P "_law_places" 1298 (.ref 820), de P "_law_piece" 1307 (.ref 827), de P "_law_put" 1317 (.ref 834), de P "_law_replaced" 1330 (.ref 841), de P "_law_at" 1338 (.ref 848), de P "_law_asked" 1347 (.ref 855), de P "_law_many" 1355 (.ref 862), de P "_law_clash" 1364 (.ref 869), de P "law" 1370 (.ref 874)]⟩ 40), slots := ⟨[]⟩ }
noncomputable def k4 (P : Params) : Obj := { cls := (.type "module"), dict := (some 0), data := .plain, slots := ⟨[]⟩ }
noncomputable def k20 (P : Params) : Obj := { cls := (.type "code"), dict := none, data := (.fields ⟨[(sv "_wall" 187), (sv "_wall" 188), (sv "/claim/cut.py" 189), (.int 1 0), (.int 1 0), (.int 0 0), (.int 0 0), (.int 3 0), (.ref 15), (.bool true), (.int 181 0), (.ref 16), .none, (.ref 17), (.ref 18), (.ref 19), (.int 191 0), (.int 1 0), (sv "/claim/cut.py" 192)]⟩), slots := ⟨[]⟩ }
noncomputable def f21 : FuncData := { name := Str.ofString "_wall", qualname := Str.ofString "_wall", params := fP (nth mB 0), body := .stmts (fB (nth mB 0)), scope := fS (nth mB 0), globals := 3, closure := [], defaults := .none, kwdefaults := .none, doc := .none, pyModule := (sv "__main__" 164), annotations := none, code := (.ref 20), closureTuple := .none, builtins := 0 }
noncomputable def k21 (P : Params) : Obj := { cls := (.type "function"), dict := none, data := (.func f21), slots := ⟨[]⟩ }
noncomputable def k134 (P : Params) : Obj := { cls := (.type "dict"), dict := none, data := (.dict ⟨[de P "__module__" 203 (sv "matchpy.utils" 194), de P "__firstlineno__" 207 (.int 5 206), de P "__init__" 213 (.ref 35), de P "__getitem__" 222 (.ref 42), de P "__setitem__" 228 (.ref 47), de P "__contains__" 236 (.ref 54), de P "__len__" 245 (.ref 61), de P "__iter__" 254 (.ref 68), de P "items" 260 (.ref 73), de P "distinct_elements" 267 (.ref 80), de P "copy" 274 (.ref 87), de P "add" 282 (.ref 94), de P "__eq__" 288 (.ref 99), de P "__ne__" 296 (.ref 106), de P "__le__" 302 (.ref 111), de P "__add__" 312 (.ref 118), de P "__sub__" 322 (.ref 125), de P "__mul__" 332 (.ref 132), de P "__static_attributes__" 334 (.ref 133), de P "__dict__" 336 (.ref 136), de P "__weakref__" 338 (.ref 137), de P "__doc__" 339 .none, de P "__hash__" 340 .none]⟩ 5), slots := ⟨[]⟩ }
noncomputable def k135 (P : Params) : Obj := { cls := (.type "type"), dict := none, data := (.cls { name := Str.ofString "Multiset", bases := [(.type "object")], mro := [(.ref 135), (.type "object")], ns := 134, qualname := Str.ofString "Multiset", hasDict := true, slotNames := [], subclasses := [], abstract := false, collection := none, hasDel := false }), slots := ⟨[none, none, (some (sv "Multiset" 196)), (some (sv "Multiset" 204)), (some (.builtin "object.__new__")), (some (.bool true))]⟩ }
noncomputable def k154 (P : Params) : Obj := { cls := (.type "tuple"), dict := none, data := (.seq ⟨[.none]⟩ 0), slots := ⟨[]⟩ }
noncomputable def k160 (P : Params) : Obj := { cls := (.type "code"), dict := none, data := (.fields ⟨[(sv "__get__" 366), (sv "_tuplegetter.__get__" 367), (sv "/claim/cut.py" 368), (.int 95 0), (.int 3 0), (.int 0 0), (.int 0 0), (.int 3 0), (.ref 155), (.bool true), (.int 181 0), (.ref 156), .none, (.ref 157), (.ref 158), (.ref 159), (.int 372 0), (.int 95 0), (sv "/claim/cut.py" 373)]⟩), slots := ⟨[]⟩ }
noncomputable def f161 : FuncData := { name := Str.ofString "__get__", qualname := Str.ofString "_tuplegetter.__get__", params := fP (nth (fB (nth mB 4)) 1), body := .stmts (fB (nth (fB (nth mB 4)) 1)), scope := fS (nth (fB (nth mB 4)) 1), globals := 3, closure := [], defaults := (.ref 154), kwdefaults := .none, doc := .none, pyModule := (sv "matchpy.expressions.expressions" 343), annotations := none, code := (.ref 160), closureTuple := .none, builtins := 0 }
noncomputable def k161 (P : Params) : Obj := { cls := (.type "function"), dict := none, data := (.func f161), slots := ⟨[]⟩ }
noncomputable def k177 (P : Params) : Obj := { cls := (.type "dict"), dict := none, data := (.dict ⟨[de P "__module__" 352 (sv "matchpy.expressions.expressions" 343), de P "__firstlineno__" 356 (.int 89 355), de P "__init__" 365 (.ref 153), de P "__get__" 374 (.ref 161), de P "__set__" 383 (.ref 168), de P "__delete__" 391 (.ref 175), de P "__static_attributes__" 394 (.ref 176), de P "__dict__" 396 (.ref 179), de P "__weakref__" 398 (.ref 180), de P "__doc__" 399 .none]⟩ 4), slots := ⟨[]⟩ }
noncomputable def k178 (P : Params) : Obj := { cls := (.type "type"), dict := none, data := (.cls { name := Str.ofString "_tuplegetter", bases := [(.type "object")], mro := [(.ref 178), (.type "object")], ns := 177, qualname := Str.ofString "_tuplegetter", hasDict := true, slotNames := [], subclasses := [], abstract := false, collection := none, hasDel := false }), slots := ⟨[none, none, (some (sv "_tuplegetter" 345)), (some (sv "_tuplegetter" 353)), (some (.builtin "object.__new__")), (some (.bool true))]⟩ }
noncomputable def k202 (P : Params) : Obj := { cls := (.type "code"), dict := none, data := (.fields ⟨[(sv "__init__" 426), (sv "Expression.__init__" 427), (sv "/claim/cut.py" 428), (.int 126 0), (.int 2 0), (.int 0 0), (.int 0 0), (.int 3 0), (.ref 197), (.bool true), (.int 181 0), (.ref 198), .none, (.ref 199), (.ref 200), (.ref 201), (.int 431 0), (.int 126 0), (sv "/claim/cut.py" 432)]⟩), slots := ⟨[]⟩ }
noncomputable def f203 : FuncData := { name := Str.ofString "__init__", qualname := Str.ofString "Expression.__init__", params := fP (nth (fB (nth mB 6)) 1), body := .stmts (fB (nth (fB (nth mB 6)) 1)), scope := fS (nth (fB (nth mB 6)) 1), globals := 3, closure := [], defaults := .none, kwdefaults := .none, doc := .none, pyModule := (sv "matchpy.expressions.expressions" 343), annotations := none, code := (.ref 202), closureTuple := .none, builtins := 0 }
noncomputable def k203 (P : Params) : Obj := { cls := (.type "function"), dict := none, data := (.func f203), slots := ⟨[]⟩ }
noncomputable def k297 (P : Params) : Obj := { cls := (.type "code"), dict := none, data := (.fields ⟨[(sv "__getitem__" 547), (sv "Expression.__getitem__" 548), (sv "/claim/cut.py" 549), (.int 202 0), (.int 2 0), (.int 0 0), (.int 0 0), (.int 3 0), (.ref 292), (.bool true), (.int 181 0), (.ref 293), .none, (.ref 294), (.ref 295), (.ref 296), (.int 552 0), (.int 202 0), (sv "/claim/cut.py" 553)]⟩), slots := ⟨[]⟩ }
noncomputable def f298 : FuncData := { name := Str.ofString "__getitem__", qualname := Str.ofString "Expression.__getitem__", params := fP (nth (fB (nth mB 6)) 13), body := .stmts (fB (nth (fB (nth mB 6)) 13)), scope := fS (nth (fB (nth mB 6)) 13), globals := 3, closure := [], defaults := .none, kwdefaults := .none, doc := (sv "Return the subexpression at the given position(s).\n\nIt is also possible to use a slice notation to extract a sequence of subexpressions:\n\n>>> expr = f(a, b, a, c)\n>>> expr[(1, ):(2, )]\n[Symbol('b'), Symbol('a')]\n\nArgs:\n    position:\n        The position as a tuple. See :meth:`preorder_iter` for its format.\n        Alternatively, a range of positions can be passed using the slice notation.\n\nReturns:\n    The subexpression at the given position(s).\n\nRaises:\n    IndexError: If the position is invalid, i.e. it refers to a non-existing subexpression.\n" 554), pyModule := (sv "matchpy.expressions.expressions" 343), annotations := none, code := (.ref 297), closureTuple := .none, builtins := 0 }
noncomputable def k298 (P : Params) : Obj := { cls := (.type "function"), dict := none, data := (.func f298), slots := ⟨[]⟩ }
noncomputable def k307 (P : Params) : Obj := { cls := (.type "dict"), dict := none, data := (.dict ⟨[de P "__module__" 418 (sv "matchpy.expressions.expressions" 343), de P "__firstlineno__" 422 (.int 114 421), de P "__doc__" 424 (sv "Base class for all expressions.\n\nDo not subclass this class directly but rather :class:`Symbol` or :class:`Operation`.\nCreating a direct subclass of Expression might break several (matching) algorithms.\n\nAttributes:\n    head (Optional[Union[type, Atom]]):\n        The head of the expression. For an operation, it is the type of the operation (i.e. a subclass of\n        :class:`Operation`). For wildcards, it is ``None``. For symbols, it is the symbol itself.\n" 423), de P "__init__" 433 (.ref 203), de P "variables" 443 (.ref 211), de P "collect_variables" 452 (.ref 218), de P "symbols" 460 (.ref 226), de P "collect_symbols" 468 (.ref 233), de P "is_constant" 476 (.ref 241), de P "_is_constant" 494 (.ref 250), de P "is_syntactic" 502 (.ref 259), de P "_is_syntactic" 520 (.ref 268), de P "with_renamed_vars" 528 (.ref 276), de P "preorder_iter" 537 (.ref 284), de P "_preorder_iter" 546 (.ref 291), de P "__getitem__" 555 (.ref 298), de P "__contains__" 563 (.ref 305), de P "__static_attributes__" 565 (.ref 306), de P "__dict__" 567 (.ref 309), de P "__weakref__" 569 (.ref 310)]⟩ 3), slots := ⟨[]⟩ }
noncomputable def k308 (P : Params) : Obj := { cls := (.type "type"), dict := none, data := (.cls { name := Str.ofString "Expression", bases := [(.type "object")], mro := [(.ref 308), (.type "object")], ns := 307, qualname := Str.ofString "Expression", hasDict := true, slotNames := [], subclasses := [(.ref 561), (.ref 573)], abstract := false, collection := none, hasDel := false }), slots := ⟨[none, none, (some (sv "Expression" 411)), (some (sv "Expression" 419)), (some (.builtin "object.__new__")), (some (.bool true))]⟩ }
noncomputable def k329 (P : Params) : Obj := { cls := (.type "code"), dict := none, data := (.fields ⟨[(sv "__new__" 592), (sv "Arity.__new__" 593), (sv "/claim/cut.py" 594), (.int 234 0), (.int 3 0), (.int 0 0), (.int 0 0), (.int 3 0), (.ref 324), (.bool true), (.int 181 0), (.ref 325), .none, (.ref 326), (.ref 327), (.ref 328), (.int 598 0), (.int 234 0), (sv "/claim/cut.py" 599)]⟩), slots := ⟨[]⟩ }
noncomputable def f330 : FuncData := { name := Str.ofString "__new__", qualname := Str.ofString "Arity.__new__", params := fP (nth (fB (nth mB 7)) 4), body := .stmts (fB (nth (fB (nth mB 7)) 4)), scope := fS (nth (fB (nth mB 7)) 4), globals := 3, closure := [], defaults := .none, kwdefaults := .none, doc := (sv "Create new instance of Arity(min_count, fixed_size)" 600), pyModule := (sv "matchpy.expressions.expressions" 343), annotations := none, code := (.ref 329), closureTuple := .none, builtins := 0 }
noncomputable def k330 (P : Params) : Obj := { cls := (.type "function"), dict := none, data := (.func f330), slots := ⟨[]⟩ }
noncomputable def k371 (P : Params) : Obj := { cls := (.type "dict"), dict := none, data := (.dict ⟨[de P "index" 668 (.int 0 662), de P "__doc__" 670 (sv "Alias for field number 0" 663)]⟩ 2), slots := ⟨[]⟩ }
noncomputable def k372 (P : Params) : Obj := { cls := (.ref 178), dict := (some 371), data := .plain, slots := ⟨[]⟩ }
noncomputable def k374 (P : Params) : Obj := { cls := (.type "dict"), dict := none, data := (.dict ⟨[de P "index" 678 (.int 1 672), de P "__doc__" 680 (sv "Alias for field number 1" 673)]⟩ 2), slots := ⟨[]⟩ }
noncomputable def k375 (P : Params) : Obj := { cls := (.ref 178), dict := (some 374), data := .plain, slots := ⟨[]⟩ }
noncomputable def k379 (P : Params) : Obj := { cls := (.type "dict"), dict := none, data := (.dict ⟨[de P "__module__" 579 (sv "matchpy.expressions.expressions" 343), de P "__firstlineno__" 583 (.int 228 582), de P "__doc__" 585 (sv "Arity(min_count, fixed_size)" 584), de P "__slots__" 587 (.ref 321), de P "_fields" 590 (.ref 322), de P "_field_defaults" 591 (.ref 323), de P "__new__" 601 (.ref 381), de P "_make" 623 (.ref 339), de P "_replace" 634 (.ref 348), de P "__replace__" 635 (.ref 348), de P "__repr__" 643 (.ref 355), de P "_asdict" 650 (.ref 362), de P "__getnewargs__" 658 (.ref 369), de P "__match_args__" 661 (.ref 370), de P "min_count" 671 (.ref 372), de P "fixed_size" 681 (.ref 375), de P "__static_attributes__" 682 (.ref 377)]⟩ 2), slots := ⟨[]⟩ }
noncomputable def k380 (P : Params) : Obj := { cls := (.type "type"), dict := none, data := (.cls { name := Str.ofString "Arity", bases := [(.type "tuple")], mro := [(.ref 380), (.type "tuple"), (.type "object")], ns := 379, qualname := Str.ofString "Arity", hasDict := false, slotNames := [], subclasses := [], abstract := false, collection := none, hasDel := false }), slots := ⟨[(some (.ref 313)), none, (some (sv "Arity" 572)), (some (sv "Arity" 580)), (some .none), (some (.bool false))]⟩ }
noncomputable def k381 (P : Params) : Obj := { cls := (.type "staticmethod"), dict := none, data := (.fields ⟨[(.ref 330)]⟩), slots := ⟨[]⟩ }
noncomputable def k396 (P : Params) : Obj := { cls := (.type "code"), dict := none, data := (.fields ⟨[(sv "__init__" 702), (sv "_OperationMeta.__init__" 703), (sv "/claim/cut.py" 704), (.int 277 0), (.int 7 0), (.int 0 0), (.int 0 0), (.int 3 0), (.ref 391), (.bool true), (.int 181 0), (.ref 392), .none, (.ref 393), (.ref 394), (.ref 395), (.int 712 0), (.int 277 0), (sv "/claim/cut.py" 713)]⟩), slots := ⟨[]⟩ }
noncomputable def f397 : FuncData := { name := Str.ofString "__init__", qualname := Str.ofString "_OperationMeta.__init__", params := fP (nth (fB (nth mB 8)) 1), body := .stmts (fB (nth (fB (nth mB 8)) 1)), scope := fS (nth (fB (nth mB 8)) 1), globals := 3, closure := [], defaults := .none, kwdefaults := .none, doc := .none, pyModule := (sv "matchpy.expressions.expressions" 343), annotations := none, code := (.ref 396), closureTuple := .none, builtins := 0 }
noncomputable def k397 (P : Params) : Obj := { cls := (.type "function"), dict := none, data := (.func f397), slots := ⟨[]⟩ }
noncomputable def k398 (P : Params) : Obj := { cls := (.type "dict"), dict := none, data := (.dict ⟨[de P "variable_name" 715 .none]⟩ 1), slots := ⟨[]⟩ }
noncomputable def k404 (P : Params) : Obj := { cls := (.type "code"), dict := none, data := (.fields ⟨[(sv "__call__" 716), (sv "_OperationMeta.__call__" 717), (sv "/claim/cut.py" 718), (.int 287 0), (.int 1 0), (.int 0 0), (.int 1 0), (.int 7 0), (.ref 399), (.bool true), (.int 181 0), (.ref 400), .none, (.ref 401), (.ref 402), (.ref 403), (.int 723 0), (.int 287 0), (sv "/claim/cut.py" 724)]⟩), slots := ⟨[]⟩ }
noncomputable def f405 : FuncData := { name := Str.ofString "__call__", qualname := Str.ofString "_OperationMeta.__call__", params := fP (nth (fB (nth mB 8)) 2), body := .stmts (fB (nth (fB (nth mB 8)) 2)), scope := fS (nth (fB (nth mB 8)) 2), globals := 3, closure := [], defaults := .none, kwdefaults := (.ref 398), doc := .none, pyModule := (sv "matchpy.expressions.expressions" 343), annotations := none, code := (.ref 404), closureTuple := .none, builtins := 0 }
noncomputable def k405 (P : Params) : Obj := { cls := (.type "function"), dict := none, data := (.func f405), slots := ⟨[]⟩ }
noncomputable def k411 (P : Params) : Obj := { cls := (.type "code"), dict := none, data := (.fields ⟨[(sv "_simplify" 726), (sv "_OperationMeta._simplify" 727), (sv "/claim/cut.py" 728), (.int 294 0), (.int 2 0), (.int 0 0), (.int 0 0), (.int 3 0), (.ref 406), (.bool true), (.int 181 0), (.ref 407), .none, (.ref 408), (.ref 409), (.ref 410), (.int 734 0), (.int 294 0), (sv "/claim/cut.py" 735)]⟩), slots := ⟨[]⟩ }
noncomputable def f412 : FuncData := { name := Str.ofString "_simplify", qualname := Str.ofString "_OperationMeta._simplify", params := fP (nth (fB (nth mB 8)) 3), body := .stmts (fB (nth (fB (nth mB 8)) 3)), scope := fS (nth (fB (nth mB 8)) 3), globals := 3, closure := [], defaults := .none, kwdefaults := .none, doc := (sv "Flatten/sort the operands of associative/commutative operations.\n\nReturns:\n    True iff *one_identity* is True and the operation contains a single\n    argument that is not a sequence wildcard.\n" 736), pyModule := (sv "matchpy.expressions.expressions" 343), annotations := none, code := (.ref 411), closureTuple := .none, builtins := 0 }
noncomputable def k412 (P : Params) : Obj := { cls := (.type "function"), dict := none, data := (.func f412), slots := ⟨[]⟩ }
noncomputable def k414 (P : Params) : Obj := { cls := (.type "dict"), dict := none, data := (.dict ⟨[de P "__module__" 694 (sv "matchpy.expressions.expressions" 343), de P "__firstlineno__" 698 (.int 270 697), de P "__doc__" 700 (sv "Metaclass for `Operation`\n\nThis metaclass is mainly used to override :meth:`__call__` to provide simplification when creating a\nnew operation expression. This is done to avoid problems when overriding ``__new__`` of the operation class.\n" 699), de P "__init__" 714 (.ref 397), de P "__call__" 725 (.ref 405), de P "_simplify" 737 (.ref 412), de P "__static_attributes__" 738 (.ref 413), de P "__dict__" 740 (.ref 416), de P "__weakref__" 742 (.ref 417)]⟩ 3), slots := ⟨[]⟩ }
noncomputable def k415 (P : Params) : Obj := { cls := (.type "type"), dict := none, data := (.cls { name := Str.ofString "_OperationMeta", bases := [(.type "object")], mro := [(.ref 415), (.type "object")], ns := 414, qualname := Str.ofString "_OperationMeta", hasDict := true, slotNames := [], subclasses := [], abstract := false, collection := none, hasDel := false }), slots := ⟨[none, none, (some (sv "_OperationMeta" 687)), (some (sv "_OperationMeta" 695)), (some (.builtin "object.__new__")), (some (.bool true))]⟩ }
noncomputable def k423 (P : Params) : Obj := { cls := (.type "cell"), dict := none, data := (.cell (some (.ref 561))), slots := ⟨[]⟩ }
noncomputable def k428 (P : Params) : Obj := { cls := (.type "tuple"), dict := none, data := (.seq ⟨[.none]⟩ 0), slots := ⟨[]⟩ }
noncomputable def k435 (P : Params) : Obj := { cls := (.type "code"), dict := none, data := (.fields ⟨[(sv "__init__" 760), (sv "Operation.__init__" 761), (sv "/claim/cut.py" 762), (.int 324 0), (.int 4 0), (.int 0 0), (.int 0 0), (.int 3 0), (.ref 430), (.bool true), (.int 181 0), (.ref 431), .none, (.ref 432), (.ref 433), (.ref 434), (.int 770 0), (.int 324 0), (sv "/claim/cut.py" 771)]⟩), slots := ⟨[]⟩ }
noncomputable def f436 : FuncData := { name := Str.ofString "__init__", qualname := Str.ofString "Operation.__init__", params := fP (nth (fB (nth mB 9)) 1), body := .stmts (fB (nth (fB (nth mB 9)) 1)), scope := fS (nth (fB (nth mB 9)) 1), globals := 3, closure := [(Str.ofString "__class__", 423)], defaults := (.ref 428), kwdefaults := .none, doc := (sv "Create an operation expression.\n\nArgs:\n    *operands\n        The operands for the operation expression.\n\nRaises:\n    ValueError:\n        if the operand count does not match the operation's arity.\n    ValueError:\n        if the operation contains conflicting variables, i.e. variables with the same name that match\n        different things. A common example would be mixing sequence and fixed variables with the same name in\n        one expression.\n" 772), pyModule := (sv "matchpy.expressions.expressions" 343), annotations := none, code := (.ref 435), closureTuple := (.ref 429), builtins := 0 }
noncomputable def k436 (P : Params) : Obj := { cls := (.type "function"), dict := none, data := (.func f436), slots := ⟨[]⟩ }
noncomputable def k442 (P : Params) : Obj := { cls := (.type "code"), dict := none, data := (.fields ⟨[(sv "_count_operands" 774), (sv "Operation._count_operands" 775), (sv "/claim/cut.py" 776), (.int 353 0), (.int 1 0), (.int 0 0), (.int 0 0), (.int 3 0), (.ref 437), (.bool true), (.int 181 0), (.ref 438), .none, (.ref 439), (.ref 440), (.ref 441), (.int 781 0), (.int 353 0), (sv "/claim/cut.py" 782)]⟩), slots := ⟨[]⟩ }
noncomputable def f443 : FuncData := { name := Str.ofString "_count_operands", qualname := Str.ofString "Operation._count_operands", params := fP (nth (fB (nth mB 9)) 2), body := .stmts (fB (nth (fB (nth mB 9)) 2)), scope := fS (nth (fB (nth mB 9)) 2), globals := 3, closure := [], defaults := .none, kwdefaults := .none, doc := .none, pyModule := (sv "matchpy.expressions.expressions" 343), annotations := (some 446), code := (.ref 442), closureTuple := .none, builtins := 0 }
noncomputable def k443 (P : Params) : Obj := { cls := (.type "function"), dict := none, data := (.func f443), slots := ⟨[]⟩ }
noncomputable def k445 (P : Params) : Obj := { cls := (.type "staticmethod"), dict := (some 444), data := (.fields ⟨[(.ref 443), (.bool false)]⟩), slots := ⟨[]⟩ }
noncomputable def k447 (P : Params) : Obj := { cls := (.type "tuple"), dict := none, data := (.seq ⟨[.none]⟩ 0), slots := ⟨[]⟩ }
noncomputable def k448 (P : Params) : Obj := { cls := (.type "dict"), dict := none, data := (.dict ⟨[de P "associative" 796 (.bool false), de P "commutative" 797 (.bool false), de P "one_identity" 798 (.bool false)]⟩ 3), slots := ⟨[]⟩ }
noncomputable def k454 (P : Params) : Obj := { cls := (.type "code"), dict := none, data := (.fields ⟨[(sv "new" 799), (sv "Operation.new" 800), (sv "/claim/cut.py" 801), (.int 366 0), (.int 3 0), (.int 0 0), (.int 3 0), (.int 3 0), (.ref 449), (.bool true), (.int 181 0), (.ref 450), .none, (.ref 451), (.ref 452), (.ref 453), (.int 808 0), (.int 366 0), (sv "/claim/cut.py" 809)]⟩), slots := ⟨[]⟩ }
noncomputable def f455 : FuncData := { name := Str.ofString "new", qualname := Str.ofString "Operation.new", params := fP (nth (fB (nth mB 9)) 3), body := .stmts (fB (nth (fB (nth mB 9)) 3)), scope := fS (nth (fB (nth mB 9)) 3), globals := 3, closure := [], defaults := (.ref 447), kwdefaults := (.ref 448), doc := (sv "Utility method to create a new operation type.\n\nExample:\n\n>>> Times = Operation.new('*', Arity.polyadic, 'Times', associative=True, commutative=True, one_identity=True)\n>>> Times\nTimes['*', Arity(min_count=2, fixed_size=False), associative, commutative, one_identity]\n>>> str(Times(Symbol('a'), Symbol('b')))\n'*(a, b)'\n\nArgs:\n    name:\n        Name or symbol for the operator. Will be used as name for the new class if\n        `class_name` is not specified.\n    arity:\n        The arity of the operator as explained in the documentation of `Operation`.\n    class_name:\n        Name for the new operation class to be used instead of name. This argument\n        is required if `name` is not a valid python identifier.\n\nKeyword Args:\n    associative:\n        See :attr:`~Operation.associative`.\n    commutative:\n        See :attr:`~Operation.commutative`.\n    one_identity:\n        See :attr:`~Operation.one_identity`.\n    infix:\n        See :attr:`~Operation.infix`.\n\nRaises:\n    ValueError: if the class name of the operation is not a valid class identifier.\n" 810), pyModule := (sv "matchpy.expressions.expressions" 343), annotations := (some 458), code := (.ref 454), closureTuple := .none, builtins := 0 }
noncomputable def k455 (P : Params) : Obj := { cls := (.type "function"), dict := none, data := (.func f455), slots := ⟨[]⟩ }
noncomputable def k457 (P : Params) : Obj := { cls := (.type "staticmethod"), dict := (some 456), data := (.fields ⟨[(.ref 455), (.bool false)]⟩), slots := ⟨[]⟩ }
noncomputable def k492 (P : Params) : Obj := { cls := (.type "code"), dict := none, data := (.fields ⟨[(sv "__len__" 857), (sv "Operation.__len__" 858), (sv "/claim/cut.py" 859), (.int 432 0), (.int 1 0), (.int 0 0), (.int 0 0), (.int 3 0), (.ref 487), (.bool true), (.int 181 0), (.ref 488), .none, (.ref 489), (.ref 490), (.ref 491), (.int 861 0), (.int 432 0), (sv "/claim/cut.py" 862)]⟩), slots := ⟨[]⟩ }
noncomputable def f493 : FuncData := { name := Str.ofString "__len__", qualname := Str.ofString "Operation.__len__", params := fP (nth (fB (nth mB 9)) 8), body := .stmts (fB (nth (fB (nth mB 9)) 8)), scope := fS (nth (fB (nth mB 9)) 8), globals := 3, closure := [], defaults := .none, kwdefaults := .none, doc := .none, pyModule := (sv "matchpy.expressions.expressions" 343), annotations := none, code := (.ref 492), closureTuple := .none, builtins := 0 }
noncomputable def k493 (P : Params) : Obj := { cls := (.type "function"), dict := none, data := (.func f493), slots := ⟨[]⟩ }
noncomputable def k499 (P : Params) : Obj := { cls := (.type "code"), dict := none, data := (.fields ⟨[(sv "__getitem__" 864), (sv "Operation.__getitem__" 865), (sv "/claim/cut.py" 866), (.int 435 0), (.int 2 0), (.int 0 0), (.int 0 0), (.int 3 0), (.ref 494), (.bool true), (.int 181 0), (.ref 495), .none, (.ref 496), (.ref 497), (.ref 498), (.int 869 0), (.int 435 0), (sv "/claim/cut.py" 870)]⟩), slots := ⟨[]⟩ }
noncomputable def f500 : FuncData := { name := Str.ofString "__getitem__", qualname := Str.ofString "Operation.__getitem__", params := fP (nth (fB (nth mB 9)) 9), body := .stmts (fB (nth (fB (nth mB 9)) 9)), scope := fS (nth (fB (nth mB 9)) 9), globals := 3, closure := [], defaults := .none, kwdefaults := .none, doc := .none, pyModule := (sv "matchpy.expressions.expressions" 343), annotations := none, code := (.ref 499), closureTuple := .none, builtins := 0 }
noncomputable def k500 (P : Params) : Obj := { cls := (.type "function"), dict := none, data := (.func f500), slots := ⟨[]⟩ }
noncomputable def k560 (P : Params) : Obj := { cls := (.type "dict"), dict := none, data := (.dict ⟨[de P "__module__" 752 (sv "matchpy.expressions.expressions" 343), de P "__firstlineno__" 756 (.int 317 755), de P "__doc__" 758 (sv "Base class for all operations.\n\nDo not instantiate this class directly, but create a subclass for every operation in your domain.\nYou can use :meth:`new` as a shortcut for doing so.\n" 757), de P "__init__" 773 (.ref 436), de P "_count_operands" 795 (.ref 445), de P "new" 823 (.ref 457), de P "type_name" 830 (.ref 465), de P "__lt__" 840 (.ref 472), de P "__eq__" 848 (.ref 479), de P "__iter__" 856 (.ref 486), de P "__len__" 863 (.ref 493), de P "__getitem__" 871 (.ref 500), de P "__contains__" 880 (.ref 507), de P "_is_constant" 887 (.ref 514), de P "_is_syntactic" 894 (.ref 521), de P "collect_variables" 903 (.ref 528), de P "collect_symbols" 911 (.ref 535), de P "_preorder_iter" 922 (.ref 544), de P "with_renamed_vars" 930 (.ref 551), de P "__copy__" 937 (.ref 558), de P "__static_attributes__" 945 (.ref 559), de P "__hash__" 947 .none]⟩ 3), slots := ⟨[]⟩ }
noncomputable def k561 (P : Params) : Obj := { cls := (.type "type"), dict := none, data := (.cls { name := Str.ofString "Operation", bases := [(.ref 308)], mro := [(.ref 561), (.ref 308), (.type "object")], ns := 560, qualname := Str.ofString "Operation", hasDict := true, slotNames := [], subclasses := [], abstract := false, collection := none, hasDel := false }), slots := ⟨[(some (.ref 420)), none, (some (sv "Operation" 745)), (some (sv "Operation" 753)), (some (.builtin "object.__new__")), (some (.bool true))]⟩ }
noncomputable def k572 (P : Params) : Obj := { cls := (.type "dict"), dict := none, data := (.dict ⟨[de P "__module__" 957 (sv "matchpy.expressions.expressions" 343), de P "__firstlineno__" 961 (.int 483 960), de P "__doc__" 963 (sv "Base for all atomic expressions." 962), de P "__static_attributes__" 965 (.ref 571)]⟩ 1), slots := ⟨[]⟩ }
noncomputable def k573 (P : Params) : Obj := { cls := (.type "type"), dict := none, data := (.cls { name := Str.ofString "Atom", bases := [(.ref 308)], mro := [(.ref 573), (.ref 308), (.type "object")], ns := 572, qualname := Str.ofString "Atom", hasDict := true, slotNames := [], subclasses := [(.ref 637), (.ref 741)], abstract := false, collection := none, hasDel := false }), slots := ⟨[(some (.ref 564)), none, (some (sv "Atom" 950)), (some (sv "Atom" 958)), (some (.builtin "object.__new__")), (some (.bool true))]⟩ }
noncomputable def k579 (P : Params) : Obj := { cls := (.type "cell"), dict := none, data := (.cell (some (.ref 637))), slots := ⟨[]⟩ }
noncomputable def k584 (P : Params) : Obj := { cls := (.type "tuple"), dict := none, data := (.seq ⟨[.none]⟩ 0), slots := ⟨[]⟩ }
noncomputable def k591 (P : Params) : Obj := { cls := (.type "code"), dict := none, data := (.fields ⟨[(sv "__init__" 983), (sv "Symbol.__init__" 984), (sv "/claim/cut.py" 985), (.int 495 0), (.int 3 0), (.int 0 0), (.int 0 0), (.int 3 0), (.ref 586), (.bool true), (.int 181 0), (.ref 587), .none, (.ref 588), (.ref 589), (.ref 590), (.int 990 0), (.int 495 0), (sv "/claim/cut.py" 991)]⟩), slots := ⟨[]⟩ }
noncomputable def f592 : FuncData := { name := Str.ofString "__init__", qualname := Str.ofString "Symbol.__init__", params := fP (nth (fB (nth mB 11)) 1), body := .stmts (fB (nth (fB (nth mB 11)) 1)), scope := fS (nth (fB (nth mB 11)) 1), globals := 3, closure := [(Str.ofString "__class__", 579)], defaults := (.ref 584), kwdefaults := .none, doc := (sv "\nArgs:\n    name:\n        The name of the symbol that uniquely identifies it.\n" 992), pyModule := (sv "matchpy.expressions.expressions" 343), annotations := none, code := (.ref 591), closureTuple := (.ref 585), builtins := 0 }
noncomputable def k592 (P : Params) : Obj := { cls := (.type "function"), dict := none, data := (.func f592), slots := ⟨[]⟩ }
noncomputable def k636 (P : Params) : Obj := { cls := (.type "dict"), dict := none, data := (.dict ⟨[de P "__module__" 975 (sv "matchpy.expressions.expressions" 343), de P "__firstlineno__" 979 (.int 485 978), de P "__doc__" 981 (sv "An atomic constant expression term.\n\nIt is uniquely identified by its name.\n\nAttributes:\n    name (str):\n        The symbol's name.\n" 980), de P "__init__" 993 (.ref 592), de P "collect_symbols" 1001 (.ref 599), de P "with_renamed_vars" 1009 (.ref 606), de P "__copy__" 1016 (.ref 613), de P "type_name" 1023 (.ref 620), de P "__lt__" 1031 (.ref 627), de P "__eq__" 1039 (.ref 634), de P "__static_attributes__" 1041 (.ref 635), de P "__hash__" 1043 .none]⟩ 3), slots := ⟨[]⟩ }
noncomputable def k637 (P : Params) : Obj := { cls := (.type "type"), dict := none, data := (.cls { name := Str.ofString "Symbol", bases := [(.ref 573)], mro := [(.ref 637), (.ref 573), (.ref 308), (.type "object")], ns := 636, qualname := Str.ofString "Symbol", hasDict := true, slotNames := [], subclasses := [], abstract := false, collection := none, hasDel := false }), slots := ⟨[(some (.ref 576)), none, (some (sv "Symbol" 968)), (some (sv "Symbol" 976)), (some (.builtin "object.__new__")), (some (.bool true))]⟩ }
noncomputable def k740 (P : Params) : Obj := { cls := (.type "dict"), dict := none, data := (.dict ⟨[de P "__module__" 1053 (sv "matchpy.expressions.expressions" 343), de P "__firstlineno__" 1057 (.int 529 1056), de P "__doc__" 1059 (sv "A wildcard that matches any expression.\n\nThe wildcard will match any number of expressions between *min_count* and *fixed_size*.\nOptionally, the wildcard can also be constrained to only match expressions satisfying a predicate.\n\nAttributes:\n    min_count (int):\n        The minimum number of expressions this wildcard will match.\n    fixed_size (bool):\n        If ``True``, the wildcard matches exactly *min_count* expressions.\n        If ``False``, the wildcard is a sequence wildcard and can match *min_count* or more expressions.\n" 1058), de P "__init__" 1073 (.ref 656), de P "_is_constant" 1080 (.ref 663), de P "_is_syntactic" 1087 (.ref 670), de P "with_renamed_vars" 1095 (.ref 677), de P "dot" 1114 (.ref 687), de P "star" 1133 (.ref 698), de P "plus" 1152 (.ref 709), de P "type_name" 1159 (.ref 717), de P "__lt__" 1167 (.ref 724), de P "__eq__" 1175 (.ref 731), de P "__copy__" 1182 (.ref 738), de P "__static_attributes__" 1186 (.ref 739), de P "__hash__" 1188 .none]⟩ 3), slots := ⟨[]⟩ }
noncomputable def k741 (P : Params) : Obj := { cls := (.type "type"), dict := none, data := (.cls { name := Str.ofString "Wildcard", bases := [(.ref 573)], mro := [(.ref 741), (.ref 573), (.ref 308), (.type "object")], ns := 740, qualname := Str.ofString "Wildcard", hasDict := true, slotNames := [], subclasses := [], abstract := false, collection := none, hasDel := false }), slots := ⟨[(some (.ref 640)), none, (some (sv "Wildcard" 1046)), (some (sv "Wildcard" 1054)), (some (.builtin "object.__new__")), (some (.bool true))]⟩ }
noncomputable def k749 (P : Params) : Obj := { cls := (.type "code"), dict := none, data := (.fields ⟨[(sv "preorder_iter_with_position" 1193), (sv "preorder_iter_with_position" 1194), (sv "/claim/cut.py" 1195), (.int 607 0), (.int 1 0), (.int 0 0), (.int 0 0), (.int 35 0), (.ref 744), (.bool true), (.int 181 0), (.ref 745), .none, (.ref 746), (.ref 747), (.ref 748), (.int 1201 0), (.int 607 0), (sv "/claim/cut.py" 1202)]⟩), slots := ⟨[]⟩ }
noncomputable def f750 : FuncData := { name := Str.ofString "preorder_iter_with_position", qualname := Str.ofString "preorder_iter_with_position", params := fP (nth mB 14), body := .stmts (fB (nth mB 14)), scope := fS (nth mB 14), globals := 3, closure := [], defaults := .none, kwdefaults := .none, doc := (sv "Iterate over the expression in preorder.\n\nAlso yields the position of each subexpression.\n" 1203), pyModule := (sv "matchpy.expressions.functions" 1191), annotations := none, code := (.ref 749), closureTuple := .none, builtins := 0 }
noncomputable def k750 (P : Params) : Obj := { cls := (.type "function"), dict := none, data := (.func f750), slots := ⟨[]⟩ }
noncomputable def k751 (P : Params) : Obj := { cls := (.type "tuple"), dict := none, data := (.seq ⟨[(.bool true)]⟩ 0), slots := ⟨[]⟩ }
noncomputable def k757 (P : Params) : Obj := { cls := (.type "code"), dict := none, data := (.fields ⟨[(sv "create_operation_expression" 1205), (sv "create_operation_expression" 1206), (sv "/claim/cut.py" 1207), (.int 617 0), (.int 3 0), (.int 0 0), (.int 0 0), (.int 3 0), (.ref 752), (.bool true), (.int 181 0), (.ref 753), .none, (.ref 754), (.ref 755), (.ref 756), (.int 1211 0), (.int 617 0), (sv "/claim/cut.py" 1212)]⟩), slots := ⟨[]⟩ }
noncomputable def f758 : FuncData := { name := Str.ofString "create_operation_expression", qualname := Str.ofString "create_operation_expression", params := fP (nth mB 15), body := .stmts (fB (nth mB 15)), scope := fS (nth mB 15), globals := 3, closure := [], defaults := (.ref 751), kwdefaults := .none, doc := .none, pyModule := (sv "matchpy.expressions.functions" 1191), annotations := none, code := (.ref 757), closureTuple := .none, builtins := 0 }
noncomputable def k758 (P : Params) : Obj := { cls := (.type "function"), dict := none, data := (.func f758), slots := ⟨[]⟩ }
noncomputable def k764 (P : Params) : Obj := { cls := (.type "code"), dict := none, data := (.fields ⟨[(sv "op_iter" 1214), (sv "op_iter" 1215), (sv "/claim/cut.py" 1216), (.int 621 0), (.int 1 0), (.int 0 0), (.int 0 0), (.int 3 0), (.ref 759), (.bool true), (.int 181 0), (.ref 760), .none, (.ref 761), (.ref 762), (.ref 763), (.int 1218 0), (.int 621 0), (sv "/claim/cut.py" 1219)]⟩), slots := ⟨[]⟩ }
noncomputable def f765 : FuncData := { name := Str.ofString "op_iter", qualname := Str.ofString "op_iter", params := fP (nth mB 16), body := .stmts (fB (nth mB 16)), scope := fS (nth mB 16), globals := 3, closure := [], defaults := .none, kwdefaults := .none, doc := .none, pyModule := (sv "matchpy.expressions.functions" 1191), annotations := none, code := (.ref 764), closureTuple := .none, builtins := 0 }
noncomputable def k765 (P : Params) : Obj := { cls := (.type "function"), dict := none, data := (.func f765), slots := ⟨[]⟩ }
noncomputable def k771 (P : Params) : Obj := { cls := (.type "code"), dict := none, data := (.fields ⟨[(sv "op_len" 1221), (sv "op_len" 1222), (sv "/claim/cut.py" 1223), (.int 625 0), (.int 1 0), (.int 0 0), (.int 0 0), (.int 3 0), (.ref 766), (.bool true), (.int 181 0), (.ref 767), .none, (.ref 768), (.ref 769), (.ref 770), (.int 1225 0), (.int 625 0), (sv "/claim/cut.py" 1226)]⟩), slots := ⟨[]⟩ }
noncomputable def f772 : FuncData := { name := Str.ofString "op_len", qualname := Str.ofString "op_len", params := fP (nth mB 17), body := .stmts (fB (nth mB 17)), scope := fS (nth mB 17), globals := 3, closure := [], defaults := .none, kwdefaults := .none, doc := .none, pyModule := (sv "matchpy.expressions.functions" 1191), annotations := none, code := (.ref 771), closureTuple := .none, builtins := 0 }
noncomputable def k772 (P : Params) : Obj := { cls := (.type "function"), dict := none, data := (.func f772), slots := ⟨[]⟩ }
noncomputable def k778 (P : Params) : Obj := { cls := (.type "code"), dict := none, data := (.fields ⟨[(sv "replace" 1230), (sv "replace" 1231), (sv "/claim/cut.py" 1232), (.int 628 0), (.int 3 0), (.int 0 0), (.int 0 0), (.int 3 0), (.ref 773), (.bool true), (.int 181 0), (.ref 774), .none, (.ref 775), (.ref 776), (.ref 777), (.int 1240 0), (.int 628 0), (sv "/claim/cut.py" 1241)]⟩), slots := ⟨[]⟩ }
noncomputable def f779 : FuncData := { name := Str.ofString "replace", qualname := Str.ofString "replace", params := fP (nth mB 19), body := .stmts (fB (nth mB 19)), scope := fS (nth mB 19), globals := 3, closure := [], defaults := .none, kwdefaults := .none, doc := (sv "Replaces the subexpression of `expression` at the given `position` with the given `replacement`.\n\nThe original `expression` itself is not modified, but a modified copy is returned. If the replacement\nis a list of expressions, it will be expanded into the list of operands of the respective operation:\n\n>>> print(replace(f(a), (0, ), [b, c]))\nf(b, c)\n\nParameters:\n    expression:\n        An :class:`Expression` where a (sub)expression is to be replaced.\n    position:\n        A tuple of indices, e.g. the empty tuple refers to the `expression` itself,\n        `(0, )` refers to the first child (operand) of the `expression`, `(0, 0)` to the first\n        child of the first child etc.\n    replacement:\n        Either an :class:`Expression` or a list of :class:`Expression`\\s to be\n        inserted into the `expression` instead of the original expression at that `position`.\n\nReturns:\n    The resulting expression from the replacement.\n\nRaises:\n    IndexError: If the position is invalid or out of range.\n" 1242), pyModule := (sv "matchpy.functions" 1228), annotations := none, code := (.ref 778), closureTuple := .none, builtins := 0 }
noncomputable def k779 (P : Params) : Obj := { cls := (.type "function"), dict := none, data := (.func f779), slots := ⟨[]⟩ }
noncomputable def k781 (P : Params) : Obj := { cls := .none, dict := none, data := (.fields ⟨[]⟩), slots := ⟨[]⟩ }
noncomputable def k783 (P : Params) : Obj := { cls := (.type "code"), dict := none, data := (.fields ⟨[(sv "replace_many" 1244), (sv "replace_many" 1245), (sv "/claim/cut.py" 1246), (.int 668 0), (.int 2 0), (.int 0 0), (.int 0 0), (.int 3 0), (.ref 780), (.bool true), (.int 181 0), (.ref 781), .none, .none, .none, (.ref 782), (.int 1247 0), (.int 668 0), (sv "/claim/cut.py" 1248)]⟩), slots := ⟨[]⟩ }
noncomputable def f784 : FuncData := { name := Str.ofString "replace_many", qualname := Str.ofString "replace_many", params := fP (nth mB 20), body := .stmts (fB (nth mB 20)), scope := fS (nth mB 20), globals := 3, closure := [], defaults := .none, kwdefaults := .none, doc := (sv "Replaces the subexpressions of *expression* at the given positions with the given replacements.\n\nThe original *expression* itself is not modified, but a modified copy is returned. If the replacement\nis a sequence of expressions, it will be expanded into the list of operands of the respective operation.\n\nThis function works the same as `replace`, but allows multiple positions to be replaced at the same time.\nHowever, compared to just replacing each position individually with `replace`, this does work when positions are\nmodified due to replacing a position with a sequence:\n\n>>> expr = f(a, b)\n>>> expected_result = replace_many(expr, [((0, ), [c, c]), ((1, ), a)])\n>>> print(expected_result)\nf(c, c, a)\n\nHowever, using `replace` for one position at a time gives the wrong result:\n\n>>> step1 = replace(expr, (0, ), [c, c])\n>>> print(step1)\nf(c, c, b)\n>>> step2 = replace(step1, (1, ), a)\n>>> print(step2)\nf(c, a, b)\n\nParameters:\n    expression:\n        An :class:`Expression` where a (sub)expression is to be replaced.\n    replacements:\n        A collection of tuples consisting of a position in the expression and a replacement for that position.\n        With just a single replacement pair, this is equivalent to using `replace`:\n\n        >>> replace(a, (), b) == replace_many(a, [((), b)])\n        True\n\nReturns:\n    The resulting expression from the replacements.\n\nRaises:\n    IndexError: If a position is invalid or out of range or if you try to replace a subterm of a term you are\n    already replacing.\n" 1249), pyModule := (sv "matchpy.functions" 1228), annotations := none, code := (.ref 783), closureTuple := .none, builtins := 0 }
noncomputable def k784 (P : Params) : Obj := { cls := (.type "function"), dict := none, data := (.func f784), slots := ⟨[]⟩ }
noncomputable def k788 (P : Params) : Obj := { cls := (.type "code"), dict := none, data := (.fields ⟨[(sv "_law_make" 1253), (sv "_law_make" 1254), (sv "/claim/cut.py" 1255), (.int 742 0), (.int 2 0), (.int 0 0), (.int 0 0), (.int 3 0), (.ref 785), (.bool true), (.int 181 0), (.ref 786), .none, .none, .none, (.ref 787), (.int 1256 0), (.int 742 0), (sv "/claim/cut.py" 1257)]⟩), slots := ⟨[]⟩ }
noncomputable def f789 : FuncData := { name := Str.ofString "_law_make", qualname := Str.ofString "_law_make", params := fP (nth mB 22), body := .stmts (fB (nth mB 22)), scope := fS (nth mB 22), globals := 3, closure := [], defaults := .none, kwdefaults := .none, doc := .none, pyModule := (sv "law_jf0031_01" 1251), annotations := none, code := (.ref 788), closureTuple := .none, builtins := 0 }
noncomputable def k789 (P : Params) : Obj := { cls := (.type "function"), dict := none, data := (.func f789), slots := ⟨[]⟩ }
noncomputable def k793 (P : Params) : Obj := { cls := (.type "code"), dict := none, data := (.fields ⟨[(sv "_law_told" 1259), (sv "_law_told" 1260), (sv "/claim/cut.py" 1261), (.int 746 0), (.int 1 0), (.int 0 0), (.int 0 0), (.int 3 0), (.ref 790), (.bool true), (.int 181 0), (.ref 791), .none, .none, .none, (.ref 792), (.int 1262 0), (.int 746 0), (sv "/claim/cut.py" 1263)]⟩), slots := ⟨[]⟩ }
noncomputable def f794 : FuncData := { name := Str.ofString "_law_told", qualname := Str.ofString "_law_told", params := fP (nth mB 23), body := .stmts (fB (nth mB 23)), scope := fS (nth mB 23), globals := 3, closure := [], defaults := .none, kwdefaults := .none, doc := .none, pyModule := (sv "law_jf0031_01" 1251), annotations := none, code := (.ref 793), closureTuple := .none, builtins := 0 }
noncomputable def k794 (P : Params) : Obj := { cls := (.type "function"), dict := none, data := (.func f794), slots := ⟨[]⟩ }
noncomputable def k800 (P : Params) : Obj := { cls := (.type "code"), dict := none, data := (.fields ⟨[(sv "_law_opened" 1265), (sv "_law_opened" 1266), (sv "/claim/cut.py" 1267), (.int 750 0), (.int 2 0), (.int 0 0), (.int 0 0), (.int 3 0), (.ref 795), (.bool true), (.int 181 0), (.ref 796), .none, (.ref 797), (.ref 798), (.ref 799), (.int 1272 0), (.int 750 0), (sv "/claim/cut.py" 1273)]⟩), slots := ⟨[]⟩ }
noncomputable def f801 : FuncData := { name := Str.ofString "_law_opened", qualname := Str.ofString "_law_opened", params := fP (nth mB 24), body := .stmts (fB (nth mB 24)), scope := fS (nth mB 24), globals := 3, closure := [], defaults := .none, kwdefaults := .none, doc := .none, pyModule := (sv "law_jf0031_01" 1251), annotations := none, code := (.ref 800), closureTuple := .none, builtins := 0 }
noncomputable def k801 (P : Params) : Obj := { cls := (.type "function"), dict := none, data := (.func f801), slots := ⟨[]⟩ }
noncomputable def k807 (P : Params) : Obj := { cls := (.type "code"), dict := none, data := (.fields ⟨[(sv "_law_next" 1275), (sv "_law_next" 1276), (sv "/claim/cut.py" 1277), (.int 758 0), (.int 2 0), (.int 0 0), (.int 0 0), (.int 3 0), (.ref 802), (.bool true), (.int 181 0), (.ref 803), .none, (.ref 804), (.ref 805), (.ref 806), (.int 1280 0), (.int 758 0), (sv "/claim/cut.py" 1281)]⟩), slots := ⟨[]⟩ }
noncomputable def f808 : FuncData := { name := Str.ofString "_law_next", qualname := Str.ofString "_law_next", params := fP (nth mB 25), body := .stmts (fB (nth mB 25)), scope := fS (nth mB 25), globals := 3, closure := [], defaults := .none, kwdefaults := .none, doc := .none, pyModule := (sv "law_jf0031_01" 1251), annotations := none, code := (.ref 807), closureTuple := .none, builtins := 0 }
noncomputable def k808 (P : Params) : Obj := { cls := (.type "function"), dict := none, data := (.func f808), slots := ⟨[]⟩ }
noncomputable def k812 (P : Params) : Obj := { cls := (.type "code"), dict := none, data := (.fields ⟨[(sv "_law_grown" 1283), (sv "_law_grown" 1284), (sv "/claim/cut.py" 1285), (.int 763 0), (.int 2 0), (.int 0 0), (.int 0 0), (.int 3 0), (.ref 809), (.bool true), (.int 181 0), (.ref 810), .none, .none, .none, (.ref 811), (.int 1286 0), (.int 763 0), (sv "/claim/cut.py" 1287)]⟩), slots := ⟨[]⟩ }
noncomputable def f813 : FuncData := { name := Str.ofString "_law_grown", qualname := Str.ofString "_law_grown", params := fP (nth mB 26), body := .stmts (fB (nth mB 26)), scope := fS (nth mB 26), globals := 3, closure := [], defaults := .none, kwdefaults := .none, doc := .none, pyModule := (sv "law_jf0031_01" 1251), annotations := none, code := (.ref 812), closureTuple := .none, builtins := 0 }
noncomputable def k813 (P : Params) : Obj := { cls := (.type "function"), dict := none, data := (.func f813), slots := ⟨[]⟩ }
noncomputable def k819 (P : Params) : Obj := { cls := (.type "code"), dict := none, data := (.fields ⟨[(sv "_law_places" 1289), (sv "_law_places" 1290), (sv "/claim/cut.py" 1291), (.int 769 0), (.int 2 0), (.int 0 0), (.int 0 0), (.int 3 0), (.ref 814), (.bool true), (.int 181 0), (.ref 815), .none, (.ref 816), (.ref 817), (.ref 818), (.int 1296 0), (.int 769 0), (sv "/claim/cut.py" 1297)]⟩), slots := ⟨[]⟩ }
noncomputable def f820 : FuncData := { name := Str.ofString "_law_places", qualname := Str.ofString "_law_places", params := fP (nth mB 27), body := .stmts (fB (nth mB 27)), scope := fS (nth mB 27), globals := 3, closure := [], defaults := .none, kwdefaults := .none, doc := .none, pyModule := (sv "law_jf0031_01" 1251), annotations := none, code := (.ref 819), closureTuple := .none, builtins := 0 }
noncomputable def k820 (P : Params) : Obj := { cls := (.type "function"), dict := none, data := (.func f820), slots := ⟨[]⟩ }
noncomputable def k826 (P : Params) : Obj := { cls := (.type "code"), dict := none, data := (.fields ⟨[(sv "_law_piece" 1299), (sv "_law_piece" 1300), (sv "/claim/cut.py" 1301), (.int 775 0), (.int 2 0), (.int 0 0), (.int 0 0), (.int 3 0), (.ref 821), (.bool true), (.int 181 0), (.ref 822), .none, (.ref 823), (.ref 824), (.ref 825), (.int 1305 0), (.int 775 0), (sv "/claim/cut.py" 1306)]⟩), slots := ⟨[]⟩ }
noncomputable def f827 : FuncData := { name := Str.ofString "_law_piece", qualname := Str.ofString "_law_piece", params := fP (nth mB 28), body := .stmts (fB (nth mB 28)), scope := fS (nth mB 28), globals := 3, closure := [], defaults := .none, kwdefaults := .none, doc := .none, pyModule := (sv "law_jf0031_01" 1251), annotations := none, code := (.ref 826), closureTuple := .none, builtins := 0 }
noncomputable def k827 (P : Params) : Obj := { cls := (.type "function"), dict := none, data := (.func f827), slots := ⟨[]⟩ }
noncomputable def k833 (P : Params) : Obj := { cls := (.type "code"), dict := none, data := (.fields ⟨[(sv "_law_put" 1308), (sv "_law_put" 1309), (sv "/claim/cut.py" 1310), (.int 781 0), (.int 3 0), (.int 0 0), (.int 0 0), (.int 3 0), (.ref 828), (.bool true), (.int 181 0), (.ref 829), .none, (.ref 830), (.ref 831), (.ref 832), (.int 1315 0), (.int 781 0), (sv "/claim/cut.py" 1316)]⟩), slots := ⟨[]⟩ }
noncomputable def f834 : FuncData := { name := Str.ofString "_law_put", qualname := Str.ofString "_law_put", params := fP (nth mB 29), body := .stmts (fB (nth mB 29)), scope := fS (nth mB 29), globals := 3, closure := [], defaults := .none, kwdefaults := .none, doc := .none, pyModule := (sv "law_jf0031_01" 1251), annotations := none, code := (.ref 833), closureTuple := .none, builtins := 0 }
noncomputable def k834 (P : Params) : Obj := { cls := (.type "function"), dict := none, data := (.func f834), slots := ⟨[]⟩ }
noncomputable def k836 (P : Params) : Obj := { cls := .none, dict := none, data := (.fields ⟨[]⟩), slots := ⟨[]⟩ }
noncomputable def k840 (P : Params) : Obj := { cls := (.type "code"), dict := none, data := (.fields ⟨[(sv "_law_replaced" 1318), (sv "_law_replaced" 1319), (sv "/claim/cut.py" 1320), (.int 790 0), (.int 2 0), (.int 0 0), (.int 0 0), (.int 3 0), (.ref 835), (.bool true), (.int 181 0), (.ref 836), .none, (.ref 837), (.ref 838), (.ref 839), (.int 1328 0), (.int 790 0), (sv "/claim/cut.py" 1329)]⟩), slots := ⟨[]⟩ }
noncomputable def f841 : FuncData := { name := Str.ofString "_law_replaced", qualname := Str.ofString "_law_replaced", params := fP (nth mB 30), body := .stmts (fB (nth mB 30)), scope := fS (nth mB 30), globals := 3, closure := [], defaults := .none, kwdefaults := .none, doc := .none, pyModule := (sv "law_jf0031_01" 1251), annotations := none, code := (.ref 840), closureTuple := .none, builtins := 0 }
noncomputable def k841 (P : Params) : Obj := { cls := (.type "function"), dict := none, data := (.func f841), slots := ⟨[]⟩ }
noncomputable def k847 (P : Params) : Obj := { cls := (.type "code"), dict := none, data := (.fields ⟨[(sv "_law_at" 1331), (sv "_law_at" 1332), (sv "/claim/cut.py" 1333), (.int 799 0), (.int 2 0), (.int 0 0), (.int 0 0), (.int 3 0), (.ref 842), (.bool true), (.int 181 0), (.ref 843), .none, (.ref 844), (.ref 845), (.ref 846), (.int 1336 0), (.int 799 0), (sv "/claim/cut.py" 1337)]⟩), slots := ⟨[]⟩ }
noncomputable def f848 : FuncData := { name := Str.ofString "_law_at", qualname := Str.ofString "_law_at", params := fP (nth mB 31), body := .stmts (fB (nth mB 31)), scope := fS (nth mB 31), globals := 3, closure := [], defaults := .none, kwdefaults := .none, doc := .none, pyModule := (sv "law_jf0031_01" 1251), annotations := none, code := (.ref 847), closureTuple := .none, builtins := 0 }
noncomputable def k848 (P : Params) : Obj := { cls := (.type "function"), dict := none, data := (.func f848), slots := ⟨[]⟩ }
noncomputable def k854 (P : Params) : Obj := { cls := (.type "code"), dict := none, data := (.fields ⟨[(sv "_law_asked" 1339), (sv "_law_asked" 1340), (sv "/claim/cut.py" 1341), (.int 804 0), (.int 3 0), (.int 0 0), (.int 0 0), (.int 3 0), (.ref 849), (.bool true), (.int 181 0), (.ref 850), .none, (.ref 851), (.ref 852), (.ref 853), (.int 1345 0), (.int 804 0), (sv "/claim/cut.py" 1346)]⟩), slots := ⟨[]⟩ }
noncomputable def f855 : FuncData := { name := Str.ofString "_law_asked", qualname := Str.ofString "_law_asked", params := fP (nth mB 32), body := .stmts (fB (nth mB 32)), scope := fS (nth mB 32), globals := 3, closure := [], defaults := .none, kwdefaults := .none, doc := .none, pyModule := (sv "law_jf0031_01" 1251), annotations := none, code := (.ref 854), closureTuple := .none, builtins := 0 }
noncomputable def k855 (P : Params) : Obj := { cls := (.type "function"), dict := none, data := (.func f855), slots := ⟨[]⟩ }
noncomputable def k861 (P : Params) : Obj := { cls := (.type "code"), dict := none, data := (.fields ⟨[(sv "_law_many" 1348), (sv "_law_many" 1349), (sv "/claim/cut.py" 1350), (.int 809 0), (.int 2 0), (.int 0 0), (.int 0 0), (.int 3 0), (.ref 856), (.bool true), (.int 181 0), (.ref 857), .none, (.ref 858), (.ref 859), (.ref 860), (.int 1353 0), (.int 809 0), (sv "/claim/cut.py" 1354)]⟩), slots := ⟨[]⟩ }
noncomputable def f862 : FuncData := { name := Str.ofString "_law_many", qualname := Str.ofString "_law_many", params := fP (nth mB 33), body := .stmts (fB (nth mB 33)), scope := fS (nth mB 33), globals := 3, closure := [], defaults := .none, kwdefaults := .none, doc := .none, pyModule := (sv "law_jf0031_01" 1251), annotations := none, code := (.ref 861), closureTuple := .none, builtins := 0 }
noncomputable def k862 (P : Params) : Obj := { cls := (.type "function"), dict := none, data := (.func f862), slots := ⟨[]⟩ }
noncomputable def k868 (P : Params) : Obj := { cls := (.type "code"), dict := none, data := (.fields ⟨[(sv "_law_clash" 1356), (sv "_law_clash" 1357), (sv "/claim/cut.py" 1358), (.int 814 0), (.int 1 0), (.int 0 0), (.int 0 0), (.int 3 0), (.ref 863), (.bool true), (.int 181 0), (.ref 864), .none, (.ref 865), (.ref 866), (.ref 867), (.int 1362 0), (.int 814 0), (sv "/claim/cut.py" 1363)]⟩), slots := ⟨[]⟩ }
noncomputable def f869 : FuncData := { name := Str.ofString "_law_clash", qualname := Str.ofString "_law_clash", params := fP (nth mB 34), body := .stmts (fB (nth mB 34)), scope := fS (nth mB 34), globals := 3, closure := [], defaults := .none, kwdefaults := .none, doc := .none, pyModule := (sv "law_jf0031_01" 1251), annotations := none, code := (.ref 868), closureTuple := .none, builtins := 0 }
noncomputable def k869 (P : Params) : Obj := { cls := (.type "function"), dict := none, data := (.func f869), slots := ⟨[]⟩ }
noncomputable def k873 (P : Params) : Obj := { cls := (.type "code"), dict := none, data := (.fields ⟨[(sv "law" 1365), (sv "law" 1366), (sv "/claim/cut.py" 1367), (.int 820 0), (.int 1 0), (.int 0 0), (.int 0 0), (.int 3 0), (.ref 870), (.bool true), (.int 181 0), (.ref 871), .none, .none, .none, (.ref 872), (.int 1368 0), (.int 820 0), (sv "/claim/cut.py" 1369)]⟩), slots := ⟨[]⟩ }
noncomputable def f874 : FuncData := { name := Str.ofString "law", qualname := Str.ofString "law", params := fP (nth mB 35), body := .stmts (fB (nth mB 35)), scope := fS (nth mB 35), globals := 3, closure := [], defaults := .none, kwdefaults := .none, doc := .none, pyModule := (sv "law_jf0031_01" 1251), annotations := none, code := (.ref 873), closureTuple := .none, builtins := 0 }
noncomputable def k874 (P : Params) : Obj := { cls := (.type "function"), dict := none, data := (.func f874), slots := ⟨[]⟩ }
noncomputable def KK (P : Params) : Frag := [(0, k0 P), (2, k2 P), (3, k3 P), (4, k4 P), (20, k20 P), (21, k21 P), (134, k134 P), (135, k135 P), (154, k154 P), (160, k160 P), (161, k161 P), (177, k177 P), (178, k178 P), (202, k202 P), (203, k203 P), (297, k297 P), (298, k298 P), (307, k307 P), (308, k308 P), (329, k329 P), (330, k330 P), (371, k371 P), (372, k372 P), (374, k374 P), (375, k375 P), (379, k379 P), (380, k380 P), (381, k381 P), (396, k396 P), (397, k397 P), (398, k398 P), (404, k404 P), (405, k405 P), (411, k411 P), (412, k412 P), (414, k414 P), (415, k415 P), (423, k423 P), (428, k428 P), (435, k435 P), (436, k436 P), (442, k442 P), (443, k443 P), (445, k445 P), (447, k447 P), (448, k448 P), (454, k454 P), (455, k455 P), (457, k457 P), (492, k492 P), (493, k493 P), (499, k499 P), (500, k500 P), (560, k560 P), (561, k561 P), (572, k572 P), (573, k573 P), (579, k579 P), (584, k584 P), (591, k591 P), (592, k592 P), (636, k636 P), (637, k637 P), (740, k740 P), (741, k741 P), (749, k749 P), (750, k750 P), (751, k751 P), (757, k757 P), (758, k758 P), (764, k764 P), (765, k765 P), (771, k771 P), (772, k772 P), (778, k778 P), (779, k779 P), (783, k783 P), (784, k784 P), (788, k788 P), (789, k789 P), (793, k793 P), (794, k794 P), (800, k800 P), (801, k801 P), (807, k807 P), (808, k808 P), (812, k812 P), (813, k813 P), (819, k819 P), (820, k820 P), (826, k826 P), (827, k827 P), (833, k833 P), (834, k834 P), (840, k840 P), (841, k841 P), (847, k847 P), (848, k848 P), (854, k854 P), (855, k855 P), (861, k861 P), (862, k862 P), (868, k868 P), (869, k869 P), (873, k873 P), (874, k874 P)]
noncomputable def kAs : List Addr := [0, 2, 3, 4, 20, 21, 134, 135, 154, 160, 161, 177, 178, 202, 203, 297, 298, 307, 308, 329, 330, 371, 372, 374, 375, 379, 380, 381, 396, 397, 398, 404, 405, 411, 412, 414, 415, 423, 428, 435, 436, 442, 443, 445, 447, 448, 454, 455, 457, 492, 493, 499, 500, 560, 561, 572, 573, 579, 584, 591, 592, 636, 637, 740, 741, 749, 750, 751, 757, 758, 764, 765, 771, 772, 778, 779, 783, 784, 788, 789, 793, 794, 800, 801, 807, 808, 812, 813, 819, 820, 826, 827, 833, 834, 840, 841, 847, 848, 854, 855, 861, 862, 868, 869, 873, 874]
noncomputable def kObs (s : Shared) : List (Option Obj) := kAs.map s.heap.get?
noncomputable def kVal (w : World) : List (Option Obj) := [some (k0 w.params), some (k2 w.params), some (k3 w.params), some (k4 w.params), some (k20 w.params), some (k21 w.params), some (k134 w.params), some (k135 w.params), some (k154 w.params), some (k160 w.params), some (k161 w.params), some (k177 w.params), some (k178 w.params), some (k202 w.params), some (k203 w.params), some (k297 w.params), some (k298 w.params), some (k307 w.params), some (k308 w.params), some (k329 w.params), some (k330 w.params), some (k371 w.params), some (k372 w.params), some (k374 w.params), some (k375 w.params), some (k379 w.params), some (k380 w.params), some (k381 w.params), some (k396 w.params), some (k397 w.params), some (k398 w.params), some (k404 w.params), some (k405 w.params), some (k411 w.params), some (k412 w.params), some (k414 w.params), some (k415 w.params), some (k423 w.params), some (k428 w.params), some (k435 w.params), some (k436 w.params), some (k442 w.params), some (k443 w.params), some (k445 w.params), some (k447 w.params), some (k448 w.params), some (k454 w.params), some (k455 w.params), some (k457 w.params), some (k492 w.params), some (k493 w.params), some (k499 w.params), some (k500 w.params), some (k560 w.params), some (k561 w.params), some (k572 w.params), some (k573 w.params), some (k579 w.params), some (k584 w.params), some (k591 w.params), some (k592 w.params), some (k636 w.params), some (k637 w.params), some (k740 w.params), some (k741 w.params), some (k749 w.params), some (k750 w.params), some (k751 w.params), some (k757 w.params), some (k758 w.params), some (k764 w.params), some (k765 w.params), some (k771 w.params), some (k772 w.params), some (k778 w.params), some (k779 w.params), some (k783 w.params), some (k784 w.params), some (k788 w.params), some (k789 w.params), some (k793 w.params), some (k794 w.params), some (k800 w.params), some (k801 w.params), some (k807 w.params), some (k808 w.params), some (k812 w.params), some (k813 w.params), some (k819 w.params), some (k820 w.params), some (k826 w.params), some (k827 w.params), some (k833 w.params), some (k834 w.params), some (k840 w.params), some (k841 w.params), some (k847 w.params), some (k848 w.params), some (k854 w.params), some (k855 w.params), some (k861 w.params), some (k862 w.params), some (k868 w.params), some (k869 w.params), some (k873 w.params), some (k874 w.params)]
theorem kVal_eq (w : World) : kVal w = (KK w.params).map fun p => some p.2 := rfl
theorem k_in (w : World) (s : Shared) (e : kObs s = kVal w) : InK KK w s.heap := InK.of (as := kAs) (fun V => rfl) w s (by rw [← kVal_eq]; exact e)
noncomputable def saysK (w : World) (h : Heap) : Prop := InK KK w h ∧ h.get? 781 = some (k781 w.params) ∧ h.get? 836 = some (k836 w.params)
theorem saysK.keeps (w : World) (h h' : Heap) (y : saysK w h) (k : ∀ b o, h.get? b = some o → h'.get? b = some o) : saysK w h' := ⟨InK.keeps w h h' y.1 k, k _ _ y.2.1, k _ _ y.2.2⟩
noncomputable def theHook {α : Type} (obs : Shared → α) (val : World → α) : Hook :=
  ⟨α, obs, val, fun w h => (∀ w s, obs s = val w → saysK w s.heap) → saysK w h, fun w s e g => g w s e, fun w h h' y k g => saysK.keeps w h h' (y g) k⟩
noncomputable def hook : Hook := theHook (fun s => (kObs s, s.heap.get? 781, s.heap.get? 836)) (fun w => (kVal w, some (k781 w.params), some (k836 w.params)))
theorem hook_in {w : World} {h : Heap} (y : hook.says w h) : saysK w h := y fun w s e => ⟨k_in w s (congrArg (·.1) e), congrArg (·.2.1) e, congrArg (·.2.2) e⟩
end Jf
set_option tactic.hygienic false
theorem Jf.Internal.ro0 {a b k : Nat} (h : a + b < k) : a < k := Nat.lt_of_le_of_lt (Nat.le_add_right a b) h
theorem Jf.Internal.ro1 {a b c k : Nat} (h : a + c < k) (e : Nat.ble b c = true) : a + b < k := Nat.lt_of_le_of_lt (Nat.add_le_add_left (Nat.le_of_ble_eq_true e) a) h
theorem Jf.Internal.le1 {a b c : Nat} (h : a ≤ b) (e : Nat.ble b c = true) : a ≤ c := Nat.le_trans h (Nat.le_of_ble_eq_true e)
theorem Jf.Internal.letP {G : Prop} (h : let X := G; X) : G := h
local macro_rules | `(tactic| trivial) => `(tactic| first | exact .head _ | (apply List.Mem.tail; trivial))
local macro_rules | `(tactic| omega) => `(tactic| first | assumption | exact Jf.Internal.ro0 (by assumption) | exact Jf.Internal.ro1 (by assumption) rfl | exact Jf.Internal.le1 (by assumption) rfl | exact Nat.zero_le _ | exact Nat.le_add_right _ _ | decide | lia)
set_option hygiene false in
local macro_rules | `(tactic| obtain $p:rcasesPatMed := $e:term) => `(tactic| (refine Jf.Internal.letP ?_; intro xX; rcases $e:term with $p))
namespace Jf.Internal
open PySem PySem.W PySem.Calls PyProof.Rows
def rt : Lean.Syntax := .node .none `Lean.Parser.Tactic.tacticSeq #[.node .none `Lean.Parser.Tactic.tacticSeq1Indented #[.node .none `null #[.node .none `Lean.Parser.Tactic.intros #[.atom .none "intros", .node .none `null #[]], .atom .none ";", .node .none `Lean.Parser.Tactic.tacticRfl #[.atom .none "rfl"]]]]
noncomputable abbrev Zm := Addr → Option Obj
noncomputable def Zm.le (Z Z' : Zm) : Prop := ∀ a o, Z a = some o → Z' a = some o
theorem Zm.le.refl (Z : Zm) : Z.le Z := fun V V e => e
theorem Zm.le.trans {Z Z' Z'' : Zm} (a : Z.le Z') (b : Z'.le Z'') : Z.le Z'' := fun x o e => b x o (a x o e)
noncomputable def Zm.add (Z : Zm) (a : Addr) (o : Obj) : Zm := fun b => if b = a then some o else Z b
noncomputable abbrev Vars := List (Str × Value)
structure JC where
  Z : Zm
  nss : List (Addr × Vars)
  own : List (Addr × Obj)
  gens : Array GenState
structure JP where
  w : World
  d : Drawn
  os : OsState
noncomputable abbrev JP.M (p : JP) : Model := model PySem.Challenge.pw_jf0031_01 p.w
noncomputable def JC.addrs (c : JC) : List Addr := c.nss.map (·.1) ++ c.own.map (·.1)
structure JC.At (p : JP) (c : JC) (s : Shared) : Prop where
  d : s.drawn = p.d
  os : s.os = p.os
  gens : s.gens = c.gens
  k : ∀ a o, (KK p.w.params).lookup a = some o → c.Z a = some o
  z : ∀ a o, c.Z a = some o → s.heap.get? a = some o
  ns : ∀ q ∈ c.nss, ∃ m, s.heap.Ns q.1 m ∧ ∀ x v, q.2.lookup x = some v → m x = some v
  own : ∀ q ∈ c.own, s.heap.get? q.1 = some q.2
  sep : c.addrs.Nodup
  off : ∀ a ∈ c.addrs, c.Z a = none
noncomputable def JC.Has (c : JC) (a : Addr) (o : Obj) : Prop := c.Z a = some o ∨ (a, o) ∈ c.own
theorem JC.Has.get {p : JP} {c : JC} {s : Shared} {a : Addr} {o : Obj} (h : c.Has a o) (H : c.At p s) : s.heap.get? a = some o :=
  h.elim (H.z a o) fun m => H.own _ m
structure Fly where
  x : Addr
  oe : Obj
  more : List (Addr × Obj)
noncomputable def Fly.ok (f : Fly) : Prop := f.oe.cls = .type "IndexError" ∧ ∃ vs, f.oe.data = .fields vs ∧
  ((vs[1]? = some .none ∧ f.more = []) ∨ ∃ T oT ts fl, f.more = [(T, oT)] ∧ vs[1]? = some (.ref T) ∧ oT.data = .fields ts ∧ ts[3]? = some fl)
noncomputable abbrev JC.psh (c : JC) (a : Addr) (o : Obj) : JC := match c with | ⟨Z, nss, own, g⟩ => ⟨Z, nss, (a, o) :: own, g⟩
noncomputable abbrev JC.sto (c : JC) (own' : List (Addr × Obj)) : JC := match c with | ⟨Z, nss, _, g⟩ => ⟨Z, nss, own', g⟩
noncomputable def JC.fly (c : JC) (f : Fly) : JC := { c with own := (f.x, f.oe) :: (f.more ++ c.own) }
inductive postQ {α : Type} (p : JP) (Q : α → JC → Prop) (v : α) (s' : Shared) : Prop
  | mk : ∀ c' : JC, c'.At p s' → Q v c' → postQ p Q v s'
theorem postQ.elim {α : Type} {p : JP} {Q : α → JC → Prop} {v : α} {s' : Shared} {G : Prop} (h : postQ p Q v s') (k : ∀ c', c'.At p s' ∧ Q v c' → G) : G := by cases h; exact k _ ⟨by assumption, by assumption⟩
noncomputable def postE (p : JP) (E : JC → Prop) : Value → Shared → Prop := fun e s' => ∃ c' f, f.ok ∧ e = .ref f.x ∧ (c'.fly f).At p s' ∧ E c'
noncomputable def postR (p : JP) (Q : Flow → JC → Prop) (E : JC → Prop) : Result → Shared → Prop := fun r s' => match r with
  | .ok f => postQ p Q f s'
  | .error e => postE p E e s'
structure jwp {α : Type} (p : JP) (A : Around) (t : Sem α) (Q : α → JC → Prop) (E : JC → Prop) (c : JC) : Prop where of ::
  run : ∀ s, c.At p s → wpAny p.M A t (postQ p Q) (postE p E) s
structure jcode (p : JP) (A : Around) (t : Code) (Q : Flow → JC → Prop) (E : JC → Prop) (c : JC) : Prop where of ::
  run : ∀ s, c.At p s → codeAny p.M A t (postR p Q E) s
section
variable {α β : Type} {p : JP} {A : Around} {c : JC} {E E' : JC → Prop}
theorem postQ.turn {M : Model} {β γ : Type} {t : Sem γ} {f : γ → β} {Q : β → JC → Prop} {R : Value → Shared → Prop} {s : Shared} (h : wpAny M A t (postQ p fun v => Q (f v)) R s) : wpAny M A t (fun v s' => postQ p Q (f v) s') R s :=
  wpAny_mono h (fun V V z => z.elim fun c e => ⟨c, e.1, e.2⟩) fun V V x => x
theorem jwp.mono {t : Sem α} {Q Q' : α → JC → Prop} (h : jwp p A t Q E c) (hQ : ∀ v c, Q v c → Q' v c) (hE : ∀ (_ : Unit) c, E c → E' c) : jwp p A t Q' E' c :=
  .of fun s H => wpAny_mono (h.run s H) (fun v V z2 => z2.elim fun c' y20 => y20.elim fun H' q => ⟨c', H', hQ v c' q⟩) fun v V z2 => z2.elim fun c' y20 => y20.elim fun f y21 => y21.elim fun h1 y22 => y22.elim fun h2 y23 => y23.elim fun H' q => ⟨c', f, h1, h2, H', hE () c' q⟩
theorem jwp_pure {a : α} {Q : α → JC → Prop} (h : Q a c) : jwp p A (pure a) Q E c := .of fun s H => wpAny_pure ⟨c, H, h⟩
theorem jwp_bind {m : Sem β} {f : β → Sem α} {Q : α → JC → Prop} (h : jwp p A m (fun a c' => jwp p A (f a) Q E c') E c) : jwp p A (m >>= f) Q E c :=
  .of fun s H => wpAny_bind (wpAny_mono (h.run s H) (fun V s' z2 => z2.elim fun V y20 => y20.elim fun H' q => q.run s' H') fun V V x => x)
theorem jwp_holding {vs : List Value} {m : Sem α} {Q : α → JC → Prop} (h : jwp p A m Q E c) : jwp p A (holding vs m) Q E c := .of fun s H => wpAny_holding (h.run s H)
theorem ifT {X Y : Prop} (h : X) : (if true = true then X else Y) := h
theorem ifF {X Y : Prop} (h : Y) : (if false = true then X else Y) := h
theorem ifB {b : Bool} {X Y : Prop} (e : b = true) (h : X) : (if b = true then X else Y) := by rw [if_pos e]; exact h
theorem ifN {b : Bool} {X Y : Prop} (e : b = false) (h : Y) : (if b = true then X else Y) := by rw [e]; exact h
theorem jwp_opaque {t : Sem α} {Q : α → JC → Prop} (h : ∀ Q' : α → JC → Prop, (∀ v c, Q v c → Q' v c) → jwp p A t Q' E c) : jwp p A t Q E c := h Q fun V V x => x
theorem jwp_opaque2 {t : Sem α} {Q : α → JC → Prop} (h : ∀ (Q' : α → JC → Prop) (E' : JC → Prop), (∀ v c, Q v c → Q' v c) → (∀ c, E c → E' c) → jwp p A t Q' E' c) : jwp p A t Q E c := h Q E (fun V V x => x) fun V x => x
noncomputable def Conv (p : JP) (c c' : JC) : Prop := ∀ s, c.At p s → c'.At p s
theorem Conv.refl (c : JC) : Conv p c c := fun V H => H
theorem Conv.trans {c c' c'' : JC} (a : Conv p c c') (b : Conv p c' c'') : Conv p c c'' := fun s H => b s (a s H)
theorem jwp_conv {t : Sem α} {Q : α → JC → Prop} {c' : JC} (hc : Conv p c c') (h : jwp p A t Q E c') : jwp p A t Q E c := .of fun s H => h.run s (hc s H)
theorem jwp_up {t : Sem α} {Q : α → JC → Prop} (h : jwp p A t (fun v c₁ => ∃ c₂, Conv p c₁ c₂ ∧ Q v c₂) E c) : jwp p A t Q E c :=
  .of fun s H => wpAny_mono (h.run s H) (fun v s' z2 => z2.elim fun c' y20 => y20.elim fun H' y21 => y21.elim fun c₂ y22 => y22.elim fun hc q => ⟨c₂, hc s' H', q⟩) fun V V x => x
end
theorem nodup_middle {α : Type} {a : α} {l r : List α} : (l ++ a :: r).Nodup ↔ (a :: (l ++ r)).Nodup := List.perm_middle.nodup_iff
namespace JC
variable {p : JP} {c : JC} {s : Shared}
theorem At.toks (H : c.At p s) (t : Nat) : c.At p { s with toks := t } := ⟨H.d, H.os, H.gens, H.k, H.z, H.ns, H.own, H.sep, H.off⟩
theorem At.inK (H : c.At p s) : (KK p.w.params).In s.heap := fun a o e => H.z a o (H.k a o e)
theorem At.ns_lt (H : c.At p s) {q : Addr × Vars} (h : q ∈ c.nss) : q.1 < s.heap.objs.size := let ⟨_, n, _⟩ := H.ns q h; n.lt
theorem At.addr_lt (H : c.At p s) {a : Addr} (h : a ∈ c.addrs) : a < s.heap.objs.size := by
  rcases List.mem_append.mp h with h | h
  · obtain ⟨q, hq, rfl⟩ := List.mem_map.mp h; exact H.ns_lt hq
  · obtain ⟨q, hq, rfl⟩ := List.mem_map.mp h; exact Heap.lt_size (H.own q hq)
theorem At.z_fresh (H : c.At p s) {a : Addr} (h : s.heap.objs.size ≤ a) : c.Z a = none := by
  cases q : c.Z a with
  | none => rfl
  | some o => exact absurd (Heap.lt_size (H.z a o q)) (Nat.not_lt.mpr h)
theorem At.fresh (H : c.At p s) {a : Addr} (h : s.heap.objs.size ≤ a) : a ∉ c.addrs := fun m => absurd (H.addr_lt m) (Nat.not_lt.mpr h)
theorem At.noLimit (H : c.At p s) : s.heap.NoLimit :=
  ⟨fun V => none, ⟨_, #[], 0, H.z _ _ (H.k 2 (k2 p.w.params) rfl), rfl, fun V h => by simp at h, fun V => rfl⟩, rfl⟩
theorem At.push (H : c.At p s) (o : Obj) (hf : o.isFreed = false) (t : Nat) :
    ({ c with own := (s.heap.objs.size, o) :: c.own } : JC).At p { s with heap := s.heap.push o, toks := t } := by
  have hn := H.fresh (Nat.le_refl _)
  refine ⟨H.d, H.os, H.gens, H.k, fun a o' e => Heap.get?_push_of_some _ (H.z a o' e), fun q hq => ?_, fun q hq => ?_, ?_, fun a ha => ?_⟩
  · obtain ⟨m, n, hm⟩ := H.ns q hq; exact ⟨m, n.push o, hm⟩
  · rcases List.mem_cons.mp hq with rfl | hq
    · exact Heap.get?_push_size _ hf
    · exact Heap.get?_push_of_some _ (H.own q hq)
  · have := H.sep
    simp only [JC.addrs, List.map_cons] at hn this ⊢
    rw [nodup_middle, List.nodup_cons]
    exact ⟨hn, this⟩
  · simp only [JC.addrs, List.map_cons] at ha
    rcases List.mem_append.mp ha with ha | ha
    · exact H.off a (List.mem_append_left _ ha)
    · rcases List.mem_cons.mp ha with rfl | ha
      · exact H.z_fresh (Nat.le_refl _)
      · exact H.off a (List.mem_append_right _ ha)
theorem At.frame (H : c.At p s) {h : Heap} {l : Vars} {m : Str → Option Value} (hn : h.Ns s.heap.objs.size m) (hk : ∀ b o, s.heap.get? b = some o → h.get? b = some o)
    (hm : ∀ x v, l.lookup x = some v → m x = some v) (t : Nat) : ({ c with nss := (s.heap.objs.size, l) :: c.nss } : JC).At p { s with heap := h, toks := t } := by
  have hf := H.fresh (Nat.le_refl _)
  refine ⟨H.d, H.os, H.gens, H.k, fun a o' e => hk _ _ (H.z a o' e), fun q hq => ?_, fun q hq => hk _ _ (H.own q hq), ?_, fun a ha => ?_⟩
  · rcases List.mem_cons.mp hq with rfl | hq
    · exact ⟨m, hn, hm⟩
    · obtain ⟨m, n, hm⟩ := H.ns q hq; exact ⟨m, n.keeps hk, hm⟩
  · exact List.nodup_cons.mpr ⟨hf, H.sep⟩
  · rcases List.mem_cons.mp ha with rfl | ha
    · exact H.z_fresh (Nat.le_refl _)
    · exact H.off a ha
theorem At.put (H : c.At p s) {h : Heap} {a : Addr} {o o' : Obj} {pre post : List (Addr × Obj)} (ho : c.own = pre ++ (a, o) :: post) (hs : Heap.SameBut a s.heap h) (hg : h.get? a = some o') (t : Nat) :
    ({ c with own := pre ++ (a, o') :: post } : JC).At p { s with heap := h, toks := t } := by
  have e : ({ c with own := pre ++ (a, o') :: post } : JC).addrs = c.addrs := by simp only [JC.addrs, ho, List.map_append, List.map_cons]
  have hin : a ∈ c.addrs := by simp only [JC.addrs, ho, List.map_append, List.map_cons]; simp
  have hsep := H.sep
  simp only [JC.addrs, ho, List.map_append, List.map_cons] at hsep
  have hne : ∀ q ∈ pre ++ post, q.1 ≠ a := by
    intro q hq e
    have h2 := (List.nodup_append.mp hsep).2.1
    rw [nodup_middle, List.nodup_cons] at h2
    refine h2.1 ?_
    rw [← List.map_append]
    exact e ▸ List.mem_map_of_mem hq
  refine ⟨H.d, H.os, H.gens, H.k, fun b o' e => ?_, fun q hq => ?_, fun q hq => ?_, e ▸ H.sep, e ▸ H.off⟩
  · refine (hs.2 b ?_).trans (H.z b o' e)
    rintro rfl
    rw [H.off _ hin] at e; cases e
  · obtain ⟨m, n, hm⟩ := H.ns q hq
    refine ⟨m, n.sameBut hs ?_, hm⟩
    intro e
    have h3 := (List.nodup_append.mp hsep).2.2 q.1 (List.mem_map_of_mem hq) a (by simp)
    exact h3 e
  · rcases List.mem_append.mp hq with hq | hq
    · exact (hs.2 _ (hne q (List.mem_append_left _ hq))).trans (H.own q (by rw [ho]; exact List.mem_append_left _ hq))
    · rcases List.mem_cons.mp hq with rfl | hq
      · exact hg
      · exact (hs.2 _ (hne q (List.mem_append_right _ hq))).trans (H.own q (by rw [ho]; exact List.mem_append_right _ (List.mem_cons_of_mem _ hq)))
theorem At.set (H : c.At p s) {h : Heap} {L : Addr} {l l' : Vars} {m' : Str → Option Value} {pre post : List (Addr × Vars)} (ho : c.nss = pre ++ (L, l) :: post) (hs : Heap.SameBut L s.heap h) (hn : h.Ns L m')
    (hm : ∀ x v, l'.lookup x = some v → m' x = some v) (t : Nat) : ({ c with nss := pre ++ (L, l') :: post } : JC).At p { s with heap := h, toks := t } := by
  have e : ({ c with nss := pre ++ (L, l') :: post } : JC).addrs = c.addrs := by simp only [JC.addrs, ho, List.map_append, List.map_cons]
  have hin : L ∈ c.addrs := by simp only [JC.addrs, ho, List.map_append, List.map_cons]; simp
  have hsep := H.sep
  simp only [JC.addrs, ho, List.map_append, List.map_cons] at hsep
  have h1 := (List.nodup_append.mp hsep).1
  rw [nodup_middle, List.nodup_cons] at h1
  have hne : ∀ q ∈ pre ++ post, q.1 ≠ L := fun q hq e => h1.1 (by rw [← List.map_append]; exact e ▸ List.mem_map_of_mem hq)
  refine ⟨H.d, H.os, H.gens, H.k, fun b o' e => ?_, fun q hq => ?_, fun q hq => ?_, e ▸ H.sep, e ▸ H.off⟩
  · refine (hs.2 b ?_).trans (H.z b o' e)
    rintro rfl
    rw [H.off _ hin] at e; cases e
  · have keepN : ∀ q ∈ pre ++ post, q ∈ c.nss → ∃ m, h.Ns q.1 m ∧ ∀ x v, q.2.lookup x = some v → m x = some v := fun q hq hc => by
      obtain ⟨m, n, hm⟩ := H.ns q hc
      exact ⟨m, n.sameBut hs (hne q hq), hm⟩
    rcases List.mem_append.mp hq with hq | hq
    · exact keepN q (List.mem_append_left _ hq) (by rw [ho]; exact List.mem_append_left _ hq)
    · rcases List.mem_cons.mp hq with rfl | hq
      · exact ⟨m', hn, hm⟩
      · exact keepN q (List.mem_append_right _ hq) (by rw [ho]; exact List.mem_append_right _ (List.mem_cons_of_mem _ hq))
  · refine (hs.2 _ ?_).trans (H.own q hq)
    intro e
    have h3 := (List.nodup_append.mp hsep).2.2 L (by simp) q.1 (List.mem_map_of_mem hq)
    exact h3 e.symm
theorem At.drop (H : c.At p s) {nss : List (Addr × Vars)} {own : List (Addr × Obj)} (hn : nss.Sublist c.nss) (ho : own.Sublist c.own) : ({ c with nss := nss, own := own } : JC).At p s := by
  have hs : List.Sublist ({ c with nss := nss, own := own } : JC).addrs c.addrs := (hn.map _).append (ho.map _)
  exact ⟨H.d, H.os, H.gens, H.k, H.z, fun q hq => H.ns q (hn.subset hq), fun q hq => H.own q (ho.subset hq), H.sep.sublist hs, fun a ha => H.off a (hs.subset ha)⟩
theorem At.sub (H : c.At p s) {own l : List (Addr × Obj)} (hp : own.Perm l) (ho : l.Sublist c.own) : ({ c with own := own } : JC).At p s := by
  have H' := H.drop (List.Sublist.refl _) ho
  have hs : List.Perm ({ c with own := own } : JC).addrs ({ c with own := l } : JC).addrs := (List.Perm.refl _).append (hp.map _)
  exact ⟨H.d, H.os, H.gens, H.k, H.z, H.ns, fun q hq => H'.own q (hp.subset hq), hs.nodup_iff.mpr H'.sep, fun a ha => H'.off a (hs.subset ha)⟩
theorem At.know (H : c.At p s) {L : Addr} {l l' : Vars} {nss : List (Addr × Vars)} (hn : c.nss = (L, l) :: nss) (hl : ∀ x v, l'.lookup x = some v → l.lookup x = some v) : ({ c with nss := (L, l') :: nss } : JC).At p s := by
  have e : ({ c with nss := (L, l') :: nss } : JC).addrs = c.addrs := by simp only [JC.addrs, hn, List.map_cons]
  refine ⟨H.d, H.os, H.gens, H.k, H.z, fun q hq => ?_, H.own, e ▸ H.sep, e ▸ H.off⟩
  rcases List.mem_cons.mp hq with rfl | hq
  · obtain ⟨m, n, hm⟩ := H.ns (L, l) (by rw [hn]; exact List.mem_cons_self)
    exact ⟨m, n, fun x v e => hm x v (hl x v e)⟩
  · exact H.ns q (by rw [hn]; exact List.mem_cons_of_mem _ hq)
theorem At.freeze (H : c.At p s) {a : Addr} {o : Obj} {pre post : List (Addr × Obj)} (ho : c.own = pre ++ (a, o) :: post) : ({ c with Z := c.Z.add a o, own := pre ++ post } : JC).At p s := by
  have hin : a ∈ c.addrs := by simp only [JC.addrs, ho, List.map_append, List.map_cons]; simp
  have hget := H.own (a, o) (by rw [ho]; simp)
  have hsep := H.sep
  have e0 : c.addrs = c.nss.map (·.1) ++ (pre.map (·.1) ++ a :: post.map (·.1)) := by simp only [JC.addrs, ho, List.map_append, List.map_cons]
  have hs : List.Sublist ({ c with Z := c.Z.add a o, own := pre ++ post } : JC).addrs c.addrs := by
    rw [e0]
    simp only [JC.addrs, List.map_append]
    exact (List.Sublist.refl _).append ((List.Sublist.refl _).append (List.sublist_cons_self _ _))
  have hna : a ∉ ({ c with Z := c.Z.add a o, own := pre ++ post } : JC).addrs := by
    rw [e0, ← List.append_assoc, nodup_middle, List.nodup_cons] at hsep
    simp only [JC.addrs, List.map_append, ← List.append_assoc]
    exact hsep.1
  refine ⟨H.d, H.os, H.gens, fun b o' e => ?_, fun b o' e => ?_, H.ns, fun q hq => H.own q (by rw [ho]; exact (List.Sublist.append (List.Sublist.refl _) (List.sublist_cons_self _ _)).subset hq), H.sep.sublist hs, fun b hb => ?_⟩
  · have := H.k b o' e
    simp only [Zm.add]
    split
    · rename_i q; subst q; rw [H.off _ hin] at this; cases this
    · exact this
  · simp only [Zm.add] at e
    split at e
    · rename_i q; subst q; cases e; exact hget
    · exact H.z b o' e
  · have : b ≠ a := fun e => hna (e ▸ hb)
    simp only [Zm.add, this, if_false]
    exact H.off b (hs.subset hb)
theorem At.add_le (H : c.At p s) {a : Addr} {o : Obj} (h : a ∈ c.addrs) : c.Z.le (c.Z.add a o) := fun b o' e => by
  simp only [Zm.add]
  split
  · rename_i q; subst q; rw [H.off _ h] at e; cases e
  · exact e
end JC
section
variable {α β : Type} {p : JP} {A : Around} {c : JC} {E : JC → Prop} {env : Env}
theorem j_standAt {pos : Pos} {Q : Unit → JC → Prop} (h : Q () c) : jwp p A (standAt pos) Q E c := .of fun s H => wpAny_standAt ⟨c, H, h⟩
theorem j_rule {t : String} {Q : Unit → JC → Prop} (h : Q () c) : jwp p A (rule t) Q E c := .of fun s H => wpAny_rule ⟨c, H, h⟩
theorem j_point {Q : Unit → JC → Prop} (h : Q () c) : jwp p A point Q E c := .of fun s H => wpAny_point ⟨c, H, h⟩
theorem j_standThen {pos : Pos} {t : Sem α} {Q : α → JC → Prop} (h : jwp p A t Q E c) : jwp p A (standAt pos >>= fun V => t) Q E c := jwp_bind (j_standAt h)
theorem j_release {vs keep : List Value} {Q : Unit → JC → Prop} (h : Q () c) : jwp p A (release vs keep) Q E c :=
  .of fun s H Γ ps hΓ => by rw [Sem.wp_release]; exact ⟨c, H, h⟩
theorem j_operate {vs : List Value} {m : Sem Value} {Q : Value → JC → Prop} (h : jwp p A m Q E c) : jwp p A (operate vs m) Q E c := .of fun s H => wpAny_operating (h.run s H)
theorem j_bindName {x : Str} {v : Value} {Q : Unit → JC → Prop} (h : jwp p A (storeName env x v) Q E c) : jwp p A (bindName env x v) Q E c := .of fun s H => wpAny_bindName (h.run s H)
theorem j_eq {t t' : Sem α} {Q : α → JC → Prop} (e : t = t') (h : jwp p A t' Q E c) : jwp p A t Q E c := e ▸ h
theorem j_newList {items : List Value} {Q : Value → JC → Prop} (h : ∀ a, Q (.ref a) (c.psh a { cls := .type "list", data := .seq items.toArray })) (hsz : items.length ≤ sizeLine) :
    jwp p A (newList items) Q E c := .of fun s H => wpAny_newList ⟨_, H.push _ rfl s.toks, h _⟩ hsz
theorem j_newTuple {items : List Value} {Q : Value → JC → Prop} (h : ∀ a, Q (.ref a) (c.psh a { cls := .type "tuple", data := .seq items.toArray })) (hsz : items.length ≤ sizeLine) :
    jwp p A (newTuple items) Q E c := .of fun s H => wpAny_newTuple ⟨_, H.push _ rfl s.toks, h _⟩ hsz
theorem j_Name {x : Str} {pos : Pos} {Q : Value → JC → Prop} (h : jwp p A (loadName env x) Q E c) (hd : autoParam ((x == ("__debug__" : Str)) = false) rt) : jwp p A (eval (.Name x pos) env) Q E c :=
  .of fun s H => wpAny_Name (h.run s H) hd
noncomputable def inL (env : Env) (x : Str) : Bool := decide (env.scope.kind = .function ∧ env.kindOf x = some .local ∧ (x == ("__debug__" : Str)) = false)
noncomputable def inG (env : Env) (x : Str) : Bool := decide (env.globals = 3 ∧ env.scope.kind = .function ∧ env.kindOf x = some .globalImplicit ∧ (x == ("__debug__" : Str)) = false)
noncomputable def inB (env : Env) (x : Str) : Bool := decide (env.globals = 3 ∧ env.builtins = 0 ∧ env.scope.kind = .function ∧ env.kindOf x = some .globalImplicit ∧ (x == ("__debug__" : Str)) = false)
theorem j_local {x : Str} {pos : Pos} {l : Vars} {v : Value} {Q : Value → JC → Prop} (hm : (env.locals, l) ∈ c.nss) (hv : l.lookup x = some v) (h : Q v c) (hk : autoParam (inL env x = true) rt) : jwp p A (eval (.Name x pos) env) Q E c :=
  have ⟨hk, hx, hd⟩ := of_decide_eq_true hk
  j_Name (.of fun s H => let ⟨m, n, hm'⟩ := H.ns _ hm; wpAny_loadName_local hk hx n (hm' x v hv) ⟨c, H, h⟩) hd
theorem j_loadGlobal {x : Str} {v : Value} {Q : Value → JC → Prop} (hg : env.globals = 3) (e : nsIn (KK p.w.params) 3 x = some (some v)) (h : Q v c) : jwp p A (loadGlobal env x) Q E c := .of fun s H => by
  unfold loadGlobal
  rw [hg]
  refine wpAny_bind ((looks_nsIn H.inK e).at ?_)
  exact wpAny_pure ⟨c, H, h⟩
theorem j_loadBuiltin {x : Str} {v : Value} {Q : Value → JC → Prop} (hg : env.globals = 3) (hb : env.builtins = 0) (e : nsIn (KK p.w.params) 3 x = some none) (e' : nsIn (KK p.w.params) 0 x = some (some v)) (h : Q v c) :
    jwp p A (loadGlobal env x) Q E c := .of fun s H => by
  unfold loadGlobal
  rw [hg, hb]
  refine wpAny_bind ((looks_nsIn H.inK e).at ?_)
  refine wpAny_bind ((looks_nsIn H.inK e').at ?_)
  exact wpAny_pure ⟨c, H, h⟩
theorem loadName_global {x : Str} (hk : env.scope.kind = .function) (hx : env.kindOf x = some .globalImplicit) : loadName env x = loadGlobal env x := by
  unfold loadName
  simp only [Env.blockKind, hk, hx, ScopeKind.isAnnotationScope, Bool.false_and, Bool.false_eq_true, if_false]
theorem j_global {x : Str} {pos : Pos} {v : Value} {Q : Value → JC → Prop} (e : nsIn (KK p.w.params) 3 x = some (some v)) (h : Q v c) (hg : autoParam (inG env x = true) rt) : jwp p A (eval (.Name x pos) env) Q E c :=
  have ⟨hg, hk, hx, hd⟩ := of_decide_eq_true hg
  j_Name (j_eq (loadName_global hk hx) (j_loadGlobal hg e h)) hd
theorem j_builtin {x : Str} {pos : Pos} {v : Value} {Q : Value → JC → Prop} (e : nsIn (KK p.w.params) 3 x = some none) (e' : nsIn (KK p.w.params) 0 x = some (some v)) (h : Q v c) (hg : autoParam (inB env x = true) rt) : jwp p A (eval (.Name x pos) env) Q E c :=
  have ⟨hg, hb, hk, hx, hd⟩ := of_decide_eq_true hg
  j_Name (j_eq (loadName_global hk hx) (j_loadBuiltin hg hb e e' h)) hd
theorem j_cell {x : Str} {pos : Pos} {a : Addr} {o : Obj} {v : Value} {Q : Value → JC → Prop} (hc : env.cells.lookup x = some a) (ho : c.Has a o) (hd' : o.data = .cell (some v)) (h : Q v c)
    (hk : autoParam (env.scope.kind = .function) rt) (hx : autoParam (env.kindOf x = some .cell) rt) (hd : autoParam ((x == ("__debug__" : Str)) = false) rt) : jwp p A (eval (.Name x pos) env) Q E c :=
  j_Name (.of fun s H => wpAny_loadName_cell hk hx hc ⟨o, ho.get H, hd'⟩ ⟨c, H, h⟩) hd
theorem lookup_cons_cases {l : Vars} {x y : Str} {u v : Value} (e : List.lookup y ((x, u) :: l) = some v) : (y = x ∧ v = u) ∨ (y ≠ x ∧ l.lookup y = some v) := by
  rw [List.lookup_cons] at e
  by_cases h : y = x
  · subst h; simp at e; exact .inl ⟨rfl, e.symm⟩
  · have : (y == x) = false := beq_eq_false_iff_ne.mpr h
    rw [this] at e; exact .inr ⟨h, e⟩
theorem j_store {x : Str} {v : Value} {l : Vars} {pre post : List (Addr × Vars)} {Q : Unit → JC → Prop} (hn : c.nss = pre ++ (env.locals, l) :: post) (h : Q () { c with nss := pre ++ (env.locals, (x, v) :: l) :: post })
    (hx : autoParam (env.kindOf x = some .local) rt) (hp : autoParam ((env.scope.kind == .class || (env.scope.kind == .module && env.locals != env.globals)) = false) rt) : jwp p A (storeName env x v) Q E c := .of fun s H => by
  obtain ⟨m, n, hm⟩ := H.ns (env.locals, l) (by rw [hn]; simp)
  refine wpAny_storeName_local hx n (fun h' hn' hs => ⟨_, H.set hn hs hn' (l' := (x, v) :: l) (fun y u e => ?_) _, h⟩) hp
  rcases lookup_cons_cases e with ⟨rfl, rfl⟩ | ⟨hy, e⟩
  · simp
  · simp only [hy, if_false]; exact hm y u e
theorem j_store0 {x : Str} {v : Value} {l : Vars} {L : Addr} {Z : Zm} {nss : List (Addr × Vars)} {own : List (Addr × Obj)} {g : Array GenState} {Q : Unit → JC → Prop} (h : Q () ⟨Z, (L, (x, v) :: l) :: nss, own, g⟩)
    (hL : autoParam (env.locals = L) rt) (hx : autoParam (env.kindOf x = some .local) rt) (hp : autoParam ((env.scope.kind == .class || (env.scope.kind == .module && env.locals != env.globals)) = false) rt) : jwp p A (storeName env x v) Q E ⟨Z, (L, l) :: nss, own, g⟩ := by
  subst hL
  exact j_store (pre := []) rfl h hx hp
theorem j_storeCell {x : Str} {v : Value} {a : Addr} {o : Obj} {v₀ : Option Value} {pre post : List (Addr × Obj)} {Q : Unit → JC → Prop} (hc : env.cells.lookup x = some a) (hn : c.own = pre ++ (a, o) :: post) (ho : o.data = .cell v₀)
    (h : ∀ o' : Obj, o'.data = .cell (some v) → Q () (c.sto (pre ++ (a, o') :: post)))
    (hk : autoParam (env.scope.kind = .function) rt) (hx : autoParam (env.kindOf x = some .cell) rt) : jwp p A (storeName env x v) Q E c := .of fun s H => by
  refine wpAny_storeName_cell hk hx hc ⟨o, H.own (a, o) (by rw [hn]; simp), ho⟩ fun h' z1 hs => z1.elim fun o' y10 => y10.elim fun g d => ⟨_, H.put hn hs g s.toks, h o' d⟩
theorem j_cInt {i k pos} {Q : Value → JC → Prop} (h : ∀ t, Q (.int i t) c) : jwp p A (eval (.Constant (.int i) k pos) env) Q E c := .of fun s H => wpAny_Constant_int ⟨c, H.toks _, h _⟩
theorem j_cStr {x : Str} {k : Nat} {pos} {Q : Value → JC → Prop} (h : ∀ t, Q (.str x t) c) : jwp p A (eval (.Constant (.str x) k pos) env) Q E c := .of fun s H => Calls.Constant_str ⟨c, H.toks _, h _⟩
theorem j_cBool {b : Bool} {k pos} {Q : Value → JC → Prop} (h : Q (.bool b) c) : jwp p A (eval (.Constant (.bool b) k pos) env) Q E c := .of fun s H Γ ps hΓ => ⟨c, H, h⟩
theorem j_cNone {k pos} {Q : Value → JC → Prop} (h : Q .none c) : jwp p A (eval (.Constant .none k pos) env) Q E c := .of fun s H Γ ps hΓ => ⟨c, H, h⟩
section
variable (p : JP) (A : Around)
noncomputable abbrev BnQ2 (op : Operator) (a : Value) (Q : Value → JC → Prop) (E : JC → Prop) : Value → JC → Prop := fun b c => jwp p A (binaryOp op a b) Q E c
noncomputable abbrev BnQ (r : Expr) (env : Env) (op : Operator) (Q : Value → JC → Prop) (E : JC → Prop) : Value → JC → Prop := fun a c => jwp p A (eval r env) (BnQ2 p A op a Q E) E c
noncomputable abbrev CmQ3 (Q : Bool → JC → Prop) (E : JC → Prop) : Value → JC → Prop := fun v c => jwp p A (truthy v) Q E c
noncomputable abbrev CmQ2 (op : CmpOp) (a : Value) (Q : Value → JC → Prop) (E : JC → Prop) : Value → JC → Prop := fun b c => jwp p A (compareOp op a b) Q E c
noncomputable abbrev CmQ (r : Expr) (env : Env) (op : CmpOp) (Q : Value → JC → Prop) (E : JC → Prop) : Value → JC → Prop := fun a c => jwp p A (eval r env) (CmQ2 p A op a Q E) E c
noncomputable abbrev NtQ (Q : Bool → JC → Prop) : Bool → JC → Prop := fun b => Q (!b)
noncomputable abbrev AnQ (rest : List Expr) (env : Env) (Q : Bool → JC → Prop) (E : JC → Prop) : Bool → JC → Prop := fun b c => match b with | false => Q false c | true => jwp p A (allTrue .And rest env) Q E c
noncomputable abbrev OrQ (rest : List Expr) (env : Env) (Q : Bool → JC → Prop) (E : JC → Prop) : Bool → JC → Prop := fun b c => match b with | true => Q true c | false => jwp p A (allTrue .Or rest env) Q E c
noncomputable abbrev IeQ (body orelse : Expr) (env : Env) (Q : Value → JC → Prop) (E : JC → Prop) : Bool → JC → Prop := fun b c => if b then jwp p A (eval body env) Q E c else jwp p A (eval orelse env) Q E c
noncomputable abbrev SpQ2 (Q : List Value → JC → Prop) (v : Value) : List Value → JC → Prop := fun vs => Q (v :: vs)
noncomputable abbrev SpQ (rest : List (Bool × Sem Value)) (Q : List Value → JC → Prop) (E : JC → Prop) : Value → JC → Prop := fun v c => jwp p A (spliced rest) (SpQ2 Q v) E c
noncomputable abbrev SbQ3 (slice : Expr) (o i : Value) (Q : Value → JC → Prop) (E : JC → Prop) : Bool → JC → Prop := fun b c => jwp p A (subscripted slice b o i) Q E c
noncomputable abbrev SbQ2 (slice : Expr) (o : Value) (Q : Value → JC → Prop) (E : JC → Prop) : Value → JC → Prop := fun i c => jwp p A (getitemInPython o) (SbQ3 p A slice o i Q E) E c
noncomputable abbrev SbQ (slice : Expr) (env : Env) (Q : Value → JC → Prop) (E : JC → Prop) : Value → JC → Prop := fun o c => jwp p A (eval slice env) (SbQ2 p A slice o Q E) E c
noncomputable abbrev SQ (rest : List Stmt) (env : Env) (Q : Flow → JC → Prop) (E : JC → Prop) : Flow → JC → Prop := fun f c => match f with | .next => jwp p A (execs rest env) Q E c | f => Q f c
noncomputable abbrev IfQ (body orelse : List Stmt) (env : Env) (Q : Flow → JC → Prop) (E : JC → Prop) : Bool → JC → Prop := fun b c => if b then jwp p A (execs body env) Q E c else jwp p A (execs orelse env) Q E c
noncomputable abbrev RtQ (Q : Flow → JC → Prop) : Value → JC → Prop := fun v => Q (.ret v)
noncomputable abbrev NxQ (Q : Flow → JC → Prop) : Unit → JC → Prop := fun V => Q .next
noncomputable abbrev AsQ (env : Env) (x : Str) (Q : Flow → JC → Prop) (E : JC → Prop) : Value → JC → Prop := fun v c => jwp p A (storeName env x v) (NxQ Q) E c
noncomputable abbrev ExQ (Q : Flow → JC → Prop) : Value → JC → Prop := fun v c => v = .none ∧ Q .next c
end
theorem j_BinOp {l op r pos} {Q : Value → JC → Prop} (h : jwp p A (eval l env) (BnQ p A r env op Q E) E c) :
    jwp p A (eval (.BinOp l op r pos) env) Q E c :=
  .of fun s H => wpAny_BinOp (wpAny_mono (h.run s H) (fun V s₁ z2 => z2.elim fun V y20 => y20.elim fun H₁ q₁ => wpAny_mono (q₁.run s₁ H₁) (fun V s₂ z2 => z2.elim fun V y20 => y20.elim fun H₂ q₂ => q₂.run s₂ H₂) fun V V x => x) fun V V x => x)
theorem j_Compare1 {l op r pos} {Q : Value → JC → Prop} (h : jwp p A (eval l env) (CmQ p A r env op Q E) E c)
    (hm : behindInMarks op r = false := by with_unfolding_all rfl) : jwp p A (eval (.Compare l [op] [r] pos) env) Q E c :=
  .of fun s H => wpAny_Compare1 (wpAny_mono (h.run s H) (fun V s₁ z2 => z2.elim fun V y20 => y20.elim fun H₁ q₁ => wpAny_mono (q₁.run s₁ H₁) (fun V s₂ z2 => z2.elim fun V y20 => y20.elim fun H₂ q₂ => q₂.run s₂ H₂) fun V V x => x) fun V V x => x) hm
theorem j_isTrueCompare1 {l op r pos whole} {Q : Bool → JC → Prop} (h : jwp p A (eval l env) (CmQ p A r env op (CmQ3 p A Q E) E) E c)
    (hm : behindInMarks op r = false := by with_unfolding_all rfl) : jwp p A (isTrue (.Compare l [op] [r] pos) env whole) Q E c :=
  .of fun s H => wpAny_isTrue_Compare1 (wpAny_mono (h.run s H) (fun V s₁ z2 => z2.elim fun V y20 => y20.elim fun H₁ q₁ => wpAny_mono (q₁.run s₁ H₁) (fun V s₂ z2 => z2.elim fun V y20 => y20.elim fun H₂ q₂ => wpAny_mono (q₂.run s₂ H₂) (fun V s₃ z2 => z2.elim fun V y20 => y20.elim fun H₃ q₃ => q₃.run s₃ H₃) fun V V x => x) fun V V x => x) fun V V x => x) hm
theorem j_truthyBool {b : Bool} {Q : Bool → JC → Prop} (h : Q b c) : jwp p A (truthy (.bool b)) Q E c := .of fun s H => wpAny_truthy_bool ⟨c, H, h⟩
theorem j_isTrueNot {x px whole} {Q : Bool → JC → Prop} (h : jwp p A (isTrue x env (eval x env)) (NtQ Q) E c) : jwp p A (isTrue (.UnaryOp .Not x px) env whole) Q E c := by
  rw [arm_isTrue_UnaryOp]; exact jwp_bind (h.mono (fun V V q => jwp_pure q) fun V V x => x)
theorem j_allTrueNil {Q : Bool → JC → Prop} (h : Q true c) : jwp p A (allTrue .And [] env) Q E c := by rw [arm_allTrue_nil]; exact jwp_pure h
theorem j_allTrueNilOr {Q : Bool → JC → Prop} (h : Q false c) : jwp p A (allTrue .Or [] env) Q E c := by rw [arm_allTrue_nil]; exact jwp_pure h
theorem j_allTrueAnd {x rest} {Q : Bool → JC → Prop} (h : jwp p A (isTrue x env (eval x env)) (AnQ p A rest env Q E) E c) : jwp p A (allTrue .And (x :: rest) env) Q E c := by
  rw [arm_allTrue_cons]
  refine jwp_bind (h.mono (fun b V q => ?_) fun V V x => x)
  cases b
  · exact jwp_pure q
  · exact q
theorem j_allTrueOr {x rest} {Q : Bool → JC → Prop} (h : jwp p A (isTrue x env (eval x env)) (OrQ p A rest env Q E) E c) : jwp p A (allTrue .Or (x :: rest) env) Q E c := by
  rw [arm_allTrue_cons]
  refine jwp_bind (h.mono (fun b V q => ?_) fun V V x => x)
  cases b
  · exact q
  · exact jwp_pure q
theorem j_isTrueBoolOp {op values pos whole} {Q : Bool → JC → Prop} (h : jwp p A (allTrue op values env) Q E c) : jwp p A (isTrue (.BoolOp op values pos) env whole) Q E c := by rw [arm_isTrue_BoolOp]; exact h
theorem j_IfExp {test body orelse pos} {Q : Value → JC → Prop} (h : jwp p A (isTrue test env (eval test env)) (IeQ p A body orelse env Q E) E c) :
    jwp p A (eval (.IfExp test body orelse pos) env) Q E c := by
  rw [arm_eval_IfExp]
  refine jwp_bind (h.mono (fun b V q => ?_) fun V V x => x)
  cases b <;> exact q
theorem j_splicedNil {Q : List Value → JC → Prop} (h : Q [] c) : jwp p A (spliced []) Q E c := jwp_pure h
theorem j_splicedCons {x : Sem Value} {rest : List (Bool × Sem Value)} {Q : List Value → JC → Prop} (h : jwp p A x (SpQ p A rest Q E) E c) : jwp p A (spliced ((false, x) :: rest)) Q E c :=
  .of fun s H => Calls.spliced_cons (wpAny_mono (h.run s H) (fun V s₁ z2 => z2.elim fun V y20 => y20.elim fun H₁ q₁ => postQ.turn (q₁.run s₁ H₁)) fun V V x => x)
theorem j_List {elts pos} {Q : Value → JC → Prop} (h : jwp p A (spliced (backTo pos (starEach elts env))) (fun vs c₁ => vs.length ≤ sizeLine ∧ ∀ a, Q (.ref a) (c₁.psh a { cls := .type "list", data := .seq vs.toArray })) E c) :
    jwp p A (eval (.List elts pos) env) Q E c := by
  rw [arm_eval_List]
  exact j_standThen (jwp_bind (h.mono (fun V V q => j_newList q.2 q.1) fun V V x => x))
theorem j_Tuple {elts k pos} {Q : Value → JC → Prop} (h : jwp p A (spliced (backTo pos (starEach elts env))) (fun vs c₁ => vs.length ≤ sizeLine ∧ ∀ a, Q (.ref a) (c₁.psh a { cls := .type "tuple", data := .seq vs.toArray })) E c) :
    jwp p A (eval (.Tuple elts k pos) env) Q E c := by
  rw [arm_eval_Tuple]
  exact j_standThen (jwp_bind (h.mono (fun V V q => j_newTuple q.2 q.1) fun V V x => x))
theorem j_letGo {base : Expr} {o r : Value} {Q : Unit → JC → Prop} (h : Q () c) : jwp p A (letTemporaryGo base o r) Q E c := .of fun s H => wpAny_letTemporaryGo ⟨c, H, h⟩
theorem j_Subscript {value slice pos} {Q : Value → JC → Prop} (h : jwp p A (eval value env) (SbQ p A slice env Q E) E c) :
    jwp p A (eval (.Subscript value slice pos) env) Q E c := by
  rw [arm_eval_Subscript]
  exact jwp_bind (h.mono (fun o V q => jwp_bind (jwp_holding (q.mono (fun i V q => j_standThen (jwp_bind (q.mono (fun b V q => jwp_bind (q.mono (fun r V q => jwp_bind (j_letGo (jwp_pure q))) fun V V x => x)) fun V V x => x))) fun V V x => x))) fun V V x => x)
theorem j_Slice {lower upper pos} {Q : Value → JC → Prop} (h : jwp p A (valueOrNone (evalOpt lower env)) (fun l c₁ => jwp p A (valueOrNone (evalOpt upper env)) (fun u c₂ => ∀ a, Q (.ref a) (c₂.psh a { cls := .type "slice", data := .fields #[l, u, .none] })) E c₁) E c) :
    jwp p A (eval (.Slice lower upper none pos) env) Q E c := by
  rw [arm_eval_Slice]
  refine jwp_bind (h.mono (fun l V q => jwp_bind (jwp_holding (q.mono (fun u c₂ q => jwp_bind (jwp_holding (jwp_pure ?_))) fun V V x => x))) fun V V x => x)
  exact .of fun s H => wpAny_newObj_type ⟨_, H.push _ rfl s.toks, q _⟩
theorem j_nil {Q : Flow → JC → Prop} (h : Q .next c) : jwp p A (execs [] env) Q E c := .of fun s H => wpAny_execs_nil ⟨c, H, h⟩
theorem j_cons {st rest} {Q : Flow → JC → Prop} {Z : Zm} {nss : List (Addr × Vars)} {own : List (Addr × Obj)} {g : Array GenState} (h : jwp p A (exec st env) (SQ p A rest env Q E) E ⟨Z, nss, own, g⟩) : jwp p A (execs (st :: rest) env) Q E ⟨Z, nss, own, g⟩ := by
  rw [execs_cons]
  refine jwp_bind (h.mono (fun f V q => ?_) fun V V x => x)
  cases f
  · exact q
  all_goals exact jwp_pure q
theorem j_If {test body orelse pos} {Q : Flow → JC → Prop} (h : jwp p A (isTrue test env (eval test env)) (IfQ p A body orelse env Q E) E c) :
    jwp p A (exec (.If test body orelse pos) env) Q E c := by
  rw [exec_If]
  refine j_standThen (jwp_bind (h.mono (fun b V q => ?_) fun V V x => x))
  cases b <;> exact q
theorem j_Return {e pos} {Q : Flow → JC → Prop} (h : jwp p A (eval e env) (RtQ Q) E c) : jwp p A (exec (.Return (some e) pos) env) Q E c := by
  rw [exec_Return_some]; exact j_standThen (jwp_bind (h.mono (fun V V q => jwp_pure q) fun V V x => x))
theorem j_Assign {x pos' value pos} {Q : Flow → JC → Prop} (h : jwp p A (eval value env) (AsQ p A env x Q E) E c) (hs : autoParam (swapsWith value (some (.Name x pos')) pos.line env = pure false) rt) :
    jwp p A (exec (.Assign [.Name x pos'] value pos) env) Q E c := by
  rw [exec_Assign_Name env x pos' value pos hs]
  exact j_standThen (jwp_bind (h.mono (fun v V q => j_standThen (jwp_bind (j_bindName (q.mono (fun V V q => jwp_pure q) fun V V x => x)))) fun V V x => x))
theorem j_ExprNone {e pos} {Q : Flow → JC → Prop} (h : jwp p A (eval e env) (ExQ Q) E c) (hi : autoParam (interactive env = false) rt) (hs : autoParam (swapsWith e none pos.line env = pure false) rt) :
    jwp p A (exec (.Expr e pos) env) Q E c := by
  rw [exec_Expr env e pos hi hs]
  refine j_standThen (jwp_bind (h.mono (fun v V q => ?_) fun V V x => x))
  rcases q with ⟨rfl, q⟩
  rw [dropValue_plain (by intro a; exact fun h => by cases h)]
  exact jwp_pure q
theorem j_callWith {pos : Pos} {f : Value} {first : List Value} {args : List (Bool × Sem Value)} {kws : List (Option Str × Sem Value)} {Q : Value → JC → Prop} {k : Keeper}
    (h : jwp p A (evalArgs f true args kws) (fun a c₁ => jwp p A (keeperOf f) (fun V c₂ => jwp p A (call f (first ++ a.pos) a.kw) Q E c₂) E c₁) E c) : jwp p A (callWith pos f first args kws) Q E c := by
  unfold callWith
  refine jwp_bind (jwp_holding (h.mono (fun a c₁ q => j_standThen (jwp_bind (q.mono (fun k c₂ q => ?_) fun V V x => x))) fun V V x => x))
  have tail : ∀ {t : Sem Value} {c₂ : JC}, jwp p A t Q E c₂ → jwp p A (t >>= fun r => holding [r] point >>= fun V => pure r) Q E c₂ :=
    fun ht => jwp_bind (ht.mono (fun r V hr => jwp_bind (jwp_holding (j_point (jwp_pure hr)))) fun V V x => x)
  have hm : ∀ {m f : Value} {ps : List Value} {kw : List (Str × Value)} {c₂ : JC}, jwp p A (call f ps kw) Q E c₂ → jwp p A (callMarked m f ps kw) Q E c₂ := fun h => .of fun s H => by unfold callMarked; exact Calls.wpAny_keep (h.run s H)
  dsimp only
  generalize (_ || _) = b
  cases k <;> cases b <;> first | exact tail q | exact tail (hm q) | exact tail (j_operate q) | (dsimp only; by_cases e : args.length + 2 * kws.length > 30; (rw [if_pos e]; exact tail q); (rw [if_neg e]; exact tail (hm q)))
end
noncomputable def flowV : Flow → Value
  | .ret v => v
  | _ => .none
noncomputable def RetQ (Q : Value → JC → Prop) : Flow → JC → Prop := fun f c => match f with
  | .ret v => Q v c
  | _ => False
noncomputable def JC.leave (c : JC) (L : Addr) (nss : List (Addr × Vars)) (R : JC → Prop) : Prop := ∃ l, c.nss = (L, l) :: nss ∧ R { c with nss := nss }
noncomputable def BodyQ (L : Addr) (nss : List (Addr × Vars)) (Q : Value → JC → Prop) : Flow → JC → Prop := fun fl c' => c'.leave L nss (Q (flowV fl))
noncomputable def BodyE (L : Addr) (nss : List (Addr × Vars)) (E : JC → Prop) : JC → Prop := fun c' => c'.leave L nss E
theorem bodyQ_ret {L : Addr} {nss : List (Addr × Vars)} {Q : Value → JC → Prop} {v : Value} {c : JC} {l : Vars} (e : c.nss = (L, l) :: nss) (h : Q v { c with nss := nss }) : BodyQ L nss Q (.ret v) c := ⟨l, e, h⟩
theorem bodyQ_next {L : Addr} {nss : List (Addr × Vars)} {Q : Value → JC → Prop} {c : JC} {l : Vars} (e : c.nss = (L, l) :: nss) (h : Q .none { c with nss := nss }) : BodyQ L nss Q .next c := ⟨l, e, h⟩
structure FnAt (P : Params) (a ca : Addr) (fd : FuncData) (body : List Stmt) : Prop where
  at_ : ((KK P).lookup a).map Obj.data = some (.func fd)
  cd : fd.code = .ref ca
  cq : ∃ vs t, ((KK P).lookup ca).map Obj.data = some (.fields vs) ∧ vs[1]? = some (.str fd.qualname t)
  body : fd.body = .stmts body
theorem FnAt.o {P : Params} {a ca : Addr} {fd : FuncData} {body : List Stmt} (F : FnAt P a ca fd body) : ∃ o, (KK P).lookup a = some o ∧ o.data = .func fd := Option.map_eq_some_iff.mp F.at_
theorem FnAt.code {P : Params} {a ca : Addr} {fd : FuncData} {body : List Stmt} (F : FnAt P a ca fd body) : ∃ ca co vs t, fd.code = .ref ca ∧ (KK P).lookup ca = some co ∧ co.data = .fields vs ∧ vs[1]? = some (.str fd.qualname t) :=
  F.cq.elim fun vs h => h.elim fun t h => (Option.map_eq_some_iff.mp h.1).elim fun co e => ⟨ca, co, vs, t, F.cd, e.1, e.2, h.2⟩
section
variable {α β : Type} {p : JP} {A : Around} {c : JC} {E : JC → Prop} {env : Env}
theorem j_call {f : Value} {pos : List Value} {kw : List (Str × Value)} {Q : Value → JC → Prop} (h : jcode p A (.call f ⟨pos, kw⟩) (RetQ Q) E c) : jwp p A (call f pos kw) Q E c := .of fun s H =>
  wpAny_call (codeAny_mono (h.run s H) fun r s' q => by
    cases r with
    | error e => exact q
    | ok f =>
      obtain ⟨c', H', q⟩ := q
      cases f with
      | ret v => exact ⟨c', H', q⟩
      | next => exact q
      | brk => exact q
      | cont => exact q)
theorem JC.leave.go {s : Shared} {L : Addr} {nss : List (Addr × Vars)} {R : JC → Prop} (h : c.leave L nss R) (H : c.At p s) : ∃ c', c'.At p s ∧ R c' :=
  let ⟨l, e, r⟩ := h; ⟨_, H.drop (e ▸ List.sublist_cons_self _ _) (List.Sublist.refl _), r⟩
theorem j_field {a : Addr} {o : Obj} {vs : Array Value} {i : Nat} {v : Value} {Q : Value → JC → Prop} (ho : c.Has a o) (hd : o.data = .fields vs) (hi : vs[i]? = some v) (h : Q v c) : jwp p A (field (.ref a) i) Q E c :=
  .of fun s H => wpAny_field (ho.get H) hd hi ⟨c, H, h⟩
theorem j_setField {a : Addr} {o : Obj} {vs : Array Value} {i : Nat} {v : Value} {pre post : List (Addr × Obj)} {Q : Unit → JC → Prop} (ho : c.own = pre ++ (a, o) :: post) (hd : o.data = .fields vs) (hi : i < vs.size)
    (h : Q () (c.sto (pre ++ (a, Obj.mapFields (·.setIfInBounds i v) o) :: post))) : jwp p A (setField (.ref a) i v) Q E c := .of fun s H => by
  have hg : s.heap.get? a = some o := H.own (a, o) (by rw [ho]; simp)
  refine wpAny_setField hg hd hi ⟨_, H.put ho (Heap.SameBut.update s.heap a _) (Heap.get?_update_self _ hg ?_) s.toks, h⟩
  exact Obj.isFreed_of_fields (Obj.data_mapFields hd _)
noncomputable def FramesIn (A : Around) (keys : List Addr) : Prop := ∃ outer, A.frames = some outer ∧ ∀ env ∈ outer, env.scope.kind ≠ .module ∧ ∃ L, env.frame = some L ∧ L ∈ keys
theorem FramesIn.deeper {A : Around} {keys : List Addr} {env : Env} {L : Addr} (F : FramesIn A keys) (hf : env.frame = some L) (hk : env.scope.kind = .function) : FramesIn (A.deeper env) (L :: keys) := by
  obtain ⟨outer, h1, h2⟩ := F
  refine ⟨env :: outer, Around.frames_deeper h1, fun e he => ?_⟩
  rcases List.mem_cons.mp he with rfl | he
  · exact ⟨by rw [hk]; decide, L, hf, List.mem_cons_self⟩
  · obtain ⟨k, L', e1, e2⟩ := h2 e he
    exact ⟨k, L', e1, List.mem_cons_of_mem _ e2⟩
noncomputable def TopIs (A : Around) (env : Env) (L : Addr) : Prop := env.frame = some L ∧ ∃ ev outer, A.frames = some (ev :: outer) ∧ ev.frame = some L
theorem funFrames_of {h base : Heap} : ∀ {l : List Env}, (∀ env ∈ l, env.scope.kind ≠ .module ∧ ∃ L o, env.frame = some L ∧ base.get? L = none ∧ h.get? L = some o ∧ ∀ vs, o.data ≠ .fields vs) → h.FunFrames base l
  | [], _ => trivial
  | e :: l, H => ⟨(H e List.mem_cons_self).1, (H e List.mem_cons_self).2, funFrames_of fun env he => H env (List.mem_cons_of_mem _ he)⟩
theorem JC.At.slots {s : Shared} {h : Heap} {S : List Addr} (H : c.At p s) (hS : ∀ a ∈ S, a ∈ c.nss.map (·.1)) (hs : Heap.SlotsOnly S s.heap h) : c.At p { s with heap := h } := by
  have hn : ∀ a, a ∉ c.nss.map (·.1) → h.get? a = s.heap.get? a := fun a ha => hs.2.1 a fun m => ha (hS a m)
  refine ⟨H.d, H.os, H.gens, H.k, fun a o e => (hn a fun m => ?_).trans (H.z a o e), fun q hq => ?_, fun q hq => (hn q.1 fun m => ?_).trans (H.own q hq), H.sep, H.off⟩
  · rw [H.off a (List.mem_append_left _ m)] at e; cases e
  · obtain ⟨m, ⟨o, es, ep, ho, hdd, hk, hf⟩, hm⟩ := H.ns q hq
    obtain ⟨sl, e⟩ := hs.2.2 _ _ ho
    exact ⟨m, ⟨_, es, ep, e, hdd, hk, hf⟩, hm⟩
  · exact (List.nodup_append.mp H.sep).2.2 _ m _ (List.mem_map_of_mem hq) rfl
theorem j_frameOf {env : Env} {L : Addr} {Q : Value → JC → Prop} (F : FramesIn A (c.nss.map (·.1))) (hT : TopIs A env L) (h : Q (.ref L) c) : jwp p A (PySem.frameOf env) Q E c := .of fun s H => by
  rcases hT with ⟨hf, ev, outer, hA, hev⟩
  rcases F with ⟨outer', hA', hF⟩
  rw [hA] at hA'; cases hA'
  have hl : s.heap.FunFrames (default : Heap) (ev :: outer) := funFrames_of fun ev' he => by
    rcases hF ev' he with ⟨k, L', e1, e2⟩
    rcases List.mem_map.mp e2 with ⟨q, hq, rfl⟩
    rcases H.ns q hq with ⟨m, ⟨o, es, ep, ho, hdd, _⟩, _⟩
    exact ⟨k, q.1, o, e1, rfl, ho, fun vs z => by rw [hdd] at z; cases z⟩
  have e : PySem.frameOf env = PySem.frameOf ev := by
    unfold PySem.frameOf
    rw [hf, hev]
  rw [e]
  refine wpAny_frameOf_fun hA hl hev fun h' hs => ⟨c, H.slots (fun a ha => ?_) hs, h⟩
  obtain ⟨ev', he, e1⟩ := List.mem_filterMap.mp ha
  obtain ⟨_, L', e2, e3⟩ := hF ev' he
  rw [e2] at e1; cases e1; exact e3
theorem j_entryPlaceOf {L : Addr} {b : Bool} {Q : List Value → JC → Prop} (h : ∀ pl, IsPlace pl → Q pl c) : jwp p A (entryPlaceOf L b) Q E c := .of fun s H => wpAny_entryPlaceOf fun pl hp => ⟨c, H, h pl hp⟩
noncomputable def Flies (p : JP) (A : Around) (t : Sem Unit) (c : JC) (f : Fly) : Prop := jwp p A t (fun V c₂ => ∃ f', Fly.ok f' ∧ f'.x = f.x ∧ (∃ T oT, f'.more = [(T, oT)]) ∧ Conv p c₂ (c.fly f')) (fun V => False) (c.fly f)
theorem flies_setFlight {f : Fly} {fr : Option Addr} {T : Addr} {oT : Obj} (hm : f.more = [(T, oT)]) (hf : f.ok) : Flies p A (setFlight (.ref f.x) fr) c f := by
  rcases hf with ⟨h1, vs, h2, h3⟩
  rcases h3 with ⟨_, h4⟩ | ⟨T', oT', ts, fl, h4, h5, h6, h7⟩
  · rw [hm] at h4; cases h4
  rw [hm] at h4
  cases h4
  unfold Flies setFlight
  obtain ⟨x, oe, more⟩ := f
  dsimp only at hm h1 h2
  subst hm
  refine jwp_bind (j_field (o := oe) (.inr List.mem_cons_self) h2 h5 ?_)
  rw [if_pos (show (Value.ref T != Value.none) = true from by simp)]
  have hlt : 3 < ts.size := (Array.getElem?_eq_some_iff.mp h7).1
  refine j_setField (pre := [(x, oe)]) (post := c.own) rfl h6 hlt ?_
  refine ⟨⟨x, oe, [(T, _)]⟩, ⟨h1, vs, h2, .inr ⟨T, _, _, _, rfl, h5, Obj.data_mapFields h6 _, by simp [hlt]; rfl⟩⟩, rfl, ⟨_, _, rfl⟩, Conv.refl _⟩
theorem flies_noteFrame {f : Fly} {env : Env} {L : Addr} (F : FramesIn A (c.nss.map (·.1))) (hT : TopIs A env L) (hf : f.ok) : Flies p A (noteFrame (.ref f.x) env) c f := by
  rcases hf with ⟨h1, vs, h2, h3⟩
  rcases f with ⟨x, oe, more⟩
  dsimp only at h1 h2 h3
  unfold Flies noteFrame
  rw [hT.1]
  dsimp only
  have entry : ∀ (mid : List (Addr × Obj)) (head : Value) (b : Bool), 1 < vs.size → jwp p A (do let a ← PySem.frameOf env; let pl ← entryPlaceOf L b; let y ← EntryCells.newEntry head a .none (rawInt L) .none pl; setField (.ref x) 1 y)
      (fun V c₂ => ∃ f', Fly.ok f' ∧ f'.x = x ∧ (∃ T oT, f'.more = [(T, oT)]) ∧ Conv p c₂ (c.fly f')) (fun V => False) (c.sto ((x, oe) :: (mid ++ c.own))) := by
    intro mid head b hsz
    refine jwp_bind (j_frameOf F hT (jwp_bind (j_entryPlaceOf fun pl hpl => ?_)))
    unfold EntryCells.newEntry newFields
    refine jwp_bind <| .of fun s H => wpAny_newObj_type ⟨_, H.push _ rfl s.toks, ?_⟩ (hpl.sizeOk5 _ _ _ _ _)
    refine j_setField (pre := [(_, _)]) (post := mid ++ c.own) rfl h2 hsz ?_
    refine ⟨⟨x, Obj.mapFields (·.setIfInBounds 1 (.ref s.heap.objs.size)) oe, [(s.heap.objs.size, { cls := .type "traceback", data := .fields (([head, .ref L, .none, rawInt L, .none] ++ (if pl.isEmpty then List.replicate 6 Value.none else pl)).toArray) })]⟩, ⟨(Obj.cls_mapFields _ _).trans h1, _, Obj.data_mapFields h2 _, .inr ⟨s.heap.objs.size, _, (([head, .ref L, .none, rawInt L, .none] ++ (if pl.isEmpty then List.replicate 6 Value.none else pl)).toArray), rawInt L, rfl, by simp [hsz], rfl, by simp⟩⟩, rfl, ⟨_, _, rfl⟩, ?_⟩
    intro s' H'
    refine H'.sub (own := _) (l := _) (List.Perm.swap _ _ _) ?_
    exact (((List.sublist_append_right mid c.own).cons_cons _).cons_cons _)
  rcases h3 with ⟨h4, h5⟩ | ⟨T, oT, ts, fl, h4, h5, h6, h7⟩
  · refine jwp_bind (j_field (o := oe) (.inr List.mem_cons_self) h2 h4 ?_)
    rw [if_neg (by decide)]
    subst h5
    exact entry [] .none _ (Array.getElem?_eq_some_iff.mp h4).1
  · subst h4
    refine jwp_bind (j_field (o := oe) (.inr List.mem_cons_self) h2 h5 ?_)
    rw [if_pos (show (Value.ref T != Value.none) = true from by simp)]
    refine jwp_bind (j_field (o := oT) (.inr (List.mem_cons_of_mem _ List.mem_cons_self)) h6 h7 ?_)
    split
    · exact jwp_pure ⟨⟨x, oe, [(T, oT)]⟩, ⟨h1, vs, h2, .inr ⟨T, oT, ts, fl, rfl, h5, h6, h7⟩⟩, rfl, ⟨_, _, rfl⟩, Conv.refl _⟩
    · refine jwp_bind (j_setField (pre := [(x, oe)]) (post := c.own) rfl h6 (Array.getElem?_eq_some_iff.mp h7).1 ?_)
      exact entry [(T, _)] (.ref T) _ (Array.getElem?_eq_some_iff.mp h5).1
theorem flies_bind {t t' : Sem Unit} {f : Fly} (h : Flies p A t c f) (h' : ∀ f', Fly.ok f' → f'.x = f.x → (∃ T oT, f'.more = [(T, oT)]) → Flies p A t' c f') : Flies p A (t >>= fun V => t') c f := by
  refine jwp_bind (h.mono (fun V c₂ z2 => z2.elim fun f' y20 => y20.elim fun h1 y21 => y21.elim fun h2 y22 => y22.elim fun h3 h4 => ?_) fun V V x => x)
  refine jwp_conv h4 ((h' f' h1 h2 h3).mono (fun V c₃ z2 => z2.elim fun f'' y20 => y20.elim fun g1 y21 => y21.elim fun g2 y22 => y22.elim fun g3 g4 => ⟨f'', g1, g2.trans h2, g3, g4⟩) fun V V x => x)
theorem flies_leaving {f : Fly} {env : Env} {L : Addr} (F : FramesIn A (c.nss.map (·.1))) (hT : TopIs A env L) (hf : f.ok) : Flies p A (leaving env (.ref f.x)) c f := by
  unfold leaving
  refine flies_bind (flies_noteFrame F hT hf) fun f' h1 h2 z3 => z3.elim fun T y30 => y30.elim fun oT h3 => ?_
  rw [← h2]
  exact flies_setFlight h3 h1
theorem flies_back {f' : Fly} {env : Env} {T : Addr} {oT : Obj} (h1 : f'.ok) (h3 : f'.more = [(T, oT)]) :
    Flies p A (do
        if (← field (.ref f'.x) 1) == .none then unsupported "frame.own-activation:exception-without-traceback"
        setFlight (.ref f'.x) env.frame : Sem Unit) c f' := by
  rcases id h1 with ⟨k1, vs, k2, k3⟩
  rcases k3 with ⟨_, k4⟩ | ⟨T', oT', ts, fl, k4, k5, k6, k7⟩
  · rw [h3] at k4; cases k4
  unfold Flies
  refine jwp_bind (j_field (o := f'.oe) (.inr List.mem_cons_self) k2 k5 ?_)
  rw [if_neg (by simp)]
  exact flies_setFlight h3 h1
theorem jcode_fnE {a cq : Addr} {fd : FuncData} {body : List Stmt} {args : Args} {binds : List (Str × Value)} {Q : Value → JC → Prop} (F : FnAt p.w.params a cq fd body) (hroom : A.depth < recursionLimit) (FI : FramesIn A (c.nss.map (·.1)))
    (hbind : bindArgs fd args = pure binds)
    (h : ∀ L, FramesIn (A.deeper (callEnv fd L a)) (L :: c.nss.map (·.1)) → TopIs (A.deeper (callEnv fd L a)) (callEnv fd L a) L → jwp p (A.deeper (callEnv fd L a)) (execs body (callEnv fd L a)) (BodyQ L c.nss Q) (BodyE L c.nss E) { c with nss := (L, binds.reverse) :: c.nss })
    (hcell' : autoParam ((fd.scope.names.all fun x => match x.2 with | .cell => false | _ => true) = true) rt) (hloc' : autoParam (((binds.map (·.1)).all fun x => match fd.scope.names.lookup x with | some .local => true | _ => false) = true) rt)
    (hco : autoParam (fd.scope.isCoroutine = false) rt) (hgen : autoParam (fd.scope.isGenerator = false) rt) (hk : autoParam (fd.scope.kind = .function) rt) : jcode p A (.call (.ref a) args) (RetQ Q) E c := .of fun s H => by
  obtain ⟨o, ho, hd⟩ := F.o
  obtain ⟨ca, co, vs, t, e1, e2, e3, e4⟩ := F.code
  have HK := H.inK
  have hcell : ∀ x ∈ fd.scope.names, x.2 ≠ .cell := fun x hx e => by
    have := List.all_eq_true.mp hcell' x hx
    rw [e] at this; cases this
  have hloc : ∀ x ∈ binds, fd.scope.names.lookup x.1 = some .local := fun x hx => by
    have := List.all_eq_true.mp hloc' x.1 (List.mem_map_of_mem hx)
    revert this
    cases fd.scope.names.lookup x.1 with
    | none => intro h; cases h
    | some k => cases k <;> intro h <;> first | rfl | cases h
  refine codeAny_call_def hroom (HK _ _ ho) hd H.noLimit ⟨ca, co, vs, t, e1, HK _ _ e2, e3, e4⟩ F.body (BindsTo.of_eq hbind) hcell hloc (fun h₀ hn hk₀ => ?_) hco hgen hk
  have FI' := FI.deeper (env := callEnv fd s.heap.objs.size a) (L := s.heap.objs.size) rfl hk
  have hT0 : TopIs (A.deeper (callEnv fd s.heap.objs.size a)) (callEnv fd s.heap.objs.size a) s.heap.objs.size := let ⟨o, h1, _⟩ := FI; ⟨rfl, _, o, Around.frames_deeper h1, rfl⟩
  refine wpAny_mono ((h s.heap.objs.size FI' hT0).run _ (H.frame (l := binds.reverse) hn hk₀ (fun V V e => e) _)) (fun fl s' z2 => z2.elim fun c' y20 => y20.elim fun H' q => ?_) fun e s' z2 => z2.elim fun c' y20 => y20.elim fun f y21 => y21.elim fun hf y22 => y22.elim fun he y23 => y23.elim fun H' q => ?_
  · have := q.go H'
    rcases this with ⟨c, h1, h2⟩
    cases fl <;> exact ⟨c, h1, h2⟩
  · subst he
    obtain ⟨l, e1, q⟩ := q
    have FI2 : FramesIn (A.deeper (callEnv fd s.heap.objs.size a)) (c'.nss.map (·.1)) := by rw [e1]; exact FI'
    have hT : TopIs (A.deeper (callEnv fd s.heap.objs.size a)) (callEnv fd s.heap.objs.size a) s.heap.objs.size := let ⟨o, h1, _⟩ := FI; ⟨rfl, _, o, Around.frames_deeper h1, rfl⟩
    refine wpAny_mono ((flies_leaving FI2 hT hf).run s' H') (fun _ s'' ⟨c₂, H₂, f', hf', hx, _, hc⟩ => ?_) fun e s'' z2 => z2.elim fun V y20 => y20.elim fun V y21 => y21.elim fun V y22 => y22.elim fun V y23 => y23.elim fun V q => q.elim
    have hs : List.Sublist c.nss c'.nss := e1 ▸ List.sublist_cons_self _ _
    exact ⟨{ c' with nss := c.nss }, f', hf', by rw [hx], (hc s'' H₂).drop hs (List.Sublist.refl _), q⟩
theorem jcode_fn {a cq : Addr} {fd : FuncData} {body : List Stmt} {args : Args} {binds : List (Str × Value)} {Q : Value → JC → Prop} (F : FnAt p.w.params a cq fd body) (hroom : A.depth < recursionLimit)
    (hbind : bindArgs fd args = pure binds)
    (h : ∀ L, jwp p (A.deeper (callEnv fd L a)) (execs body (callEnv fd L a)) (BodyQ L c.nss Q) (fun V => False) { c with nss := (L, binds.reverse) :: c.nss })
    (hcell' : autoParam ((fd.scope.names.all fun x => match x.2 with | .cell => false | _ => true) = true) rt) (hloc' : autoParam (((binds.map (·.1)).all fun x => match fd.scope.names.lookup x with | some .local => true | _ => false) = true) rt)
    (hco : autoParam (fd.scope.isCoroutine = false) rt) (hgen : autoParam (fd.scope.isGenerator = false) rt) (hk : autoParam (fd.scope.kind = .function) rt) : jcode p A (.call (.ref a) args) (RetQ Q) E c := .of fun s H => by
  obtain ⟨o, ho, hd⟩ := F.o
  obtain ⟨ca, co, vs, t, e1, e2, e3, e4⟩ := F.code
  have HK := H.inK
  have hcell : ∀ x ∈ fd.scope.names, x.2 ≠ .cell := fun x hx e => by
    have := List.all_eq_true.mp hcell' x hx
    rw [e] at this; cases this
  have hloc : ∀ x ∈ binds, fd.scope.names.lookup x.1 = some .local := fun x hx => by
    have := List.all_eq_true.mp hloc' x.1 (List.mem_map_of_mem hx)
    revert this
    cases fd.scope.names.lookup x.1 with
    | none => intro h; cases h
    | some k => cases k <;> intro h <;> first | rfl | cases h
  refine codeAny_call_def hroom (HK _ _ ho) hd H.noLimit ⟨ca, co, vs, t, e1, HK _ _ e2, e3, e4⟩ F.body (BindsTo.of_eq hbind) hcell hloc (fun h₀ hn hk₀ => ?_) hco hgen hk
  refine wpAny_mono ((h s.heap.objs.size).run _ (H.frame (l := binds.reverse) hn hk₀ (fun V V e => e) _)) (fun fl s' z2 => z2.elim fun c' y20 => y20.elim fun H' q => ?_) fun e s' z2 => z2.elim fun c' y20 => y20.elim fun f y21 => y21.elim fun hf y22 => y22.elim fun he y23 => y23.elim fun H' q => q.elim
  have := q.go H'
  rcases this with ⟨c, h1, h2⟩
  cases fl <;> exact ⟨c, h1, h2⟩
end
theorem F161 (P : Params) : FnAt P 161 160 f161 (fB (nth (fB (nth mB 4)) 1)) := ⟨rfl, rfl, ⟨_, _, rfl, rfl⟩, rfl⟩
theorem F203 (P : Params) : FnAt P 203 202 f203 (fB (nth (fB (nth mB 6)) 1)) := ⟨rfl, rfl, ⟨_, _, rfl, rfl⟩, rfl⟩
theorem F298 (P : Params) : FnAt P 298 297 f298 (fB (nth (fB (nth mB 6)) 13)) := ⟨rfl, rfl, ⟨_, _, rfl, rfl⟩, rfl⟩
theorem F330 (P : Params) : FnAt P 330 329 f330 (fB (nth (fB (nth mB 7)) 4)) := ⟨rfl, rfl, ⟨_, _, rfl, rfl⟩, rfl⟩
theorem F397 (P : Params) : FnAt P 397 396 f397 (fB (nth (fB (nth mB 8)) 1)) := ⟨rfl, rfl, ⟨_, _, rfl, rfl⟩, rfl⟩
theorem F405 (P : Params) : FnAt P 405 404 f405 (fB (nth (fB (nth mB 8)) 2)) := ⟨rfl, rfl, ⟨_, _, rfl, rfl⟩, rfl⟩
theorem F412 (P : Params) : FnAt P 412 411 f412 (fB (nth (fB (nth mB 8)) 3)) := ⟨rfl, rfl, ⟨_, _, rfl, rfl⟩, rfl⟩
theorem F436 (P : Params) : FnAt P 436 435 f436 (fB (nth (fB (nth mB 9)) 1)) := ⟨rfl, rfl, ⟨_, _, rfl, rfl⟩, rfl⟩
theorem F443 (P : Params) : FnAt P 443 442 f443 (fB (nth (fB (nth mB 9)) 2)) := ⟨rfl, rfl, ⟨_, _, rfl, rfl⟩, rfl⟩
theorem F455 (P : Params) : FnAt P 455 454 f455 (fB (nth (fB (nth mB 9)) 3)) := ⟨rfl, rfl, ⟨_, _, rfl, rfl⟩, rfl⟩
theorem F493 (P : Params) : FnAt P 493 492 f493 (fB (nth (fB (nth mB 9)) 8)) := ⟨rfl, rfl, ⟨_, _, rfl, rfl⟩, rfl⟩
theorem F500 (P : Params) : FnAt P 500 499 f500 (fB (nth (fB (nth mB 9)) 9)) := ⟨rfl, rfl, ⟨_, _, rfl, rfl⟩, rfl⟩
theorem F592 (P : Params) : FnAt P 592 591 f592 (fB (nth (fB (nth mB 11)) 1)) := ⟨rfl, rfl, ⟨_, _, rfl, rfl⟩, rfl⟩
theorem F750 (P : Params) : FnAt P 750 749 f750 (fB (nth mB 14)) := ⟨rfl, rfl, ⟨_, _, rfl, rfl⟩, rfl⟩
theorem F758 (P : Params) : FnAt P 758 757 f758 (fB (nth mB 15)) := ⟨rfl, rfl, ⟨_, _, rfl, rfl⟩, rfl⟩
theorem F765 (P : Params) : FnAt P 765 764 f765 (fB (nth mB 16)) := ⟨rfl, rfl, ⟨_, _, rfl, rfl⟩, rfl⟩
theorem F772 (P : Params) : FnAt P 772 771 f772 (fB (nth mB 17)) := ⟨rfl, rfl, ⟨_, _, rfl, rfl⟩, rfl⟩
theorem F779 (P : Params) : FnAt P 779 778 f779 (fB (nth mB 19)) := ⟨rfl, rfl, ⟨_, _, rfl, rfl⟩, rfl⟩
theorem F784 (P : Params) : FnAt P 784 783 f784 (fB (nth mB 20)) := ⟨rfl, rfl, ⟨_, _, rfl, rfl⟩, rfl⟩
theorem F789 (P : Params) : FnAt P 789 788 f789 (fB (nth mB 22)) := ⟨rfl, rfl, ⟨_, _, rfl, rfl⟩, rfl⟩
theorem F794 (P : Params) : FnAt P 794 793 f794 (fB (nth mB 23)) := ⟨rfl, rfl, ⟨_, _, rfl, rfl⟩, rfl⟩
theorem F801 (P : Params) : FnAt P 801 800 f801 (fB (nth mB 24)) := ⟨rfl, rfl, ⟨_, _, rfl, rfl⟩, rfl⟩
theorem F808 (P : Params) : FnAt P 808 807 f808 (fB (nth mB 25)) := ⟨rfl, rfl, ⟨_, _, rfl, rfl⟩, rfl⟩
theorem F813 (P : Params) : FnAt P 813 812 f813 (fB (nth mB 26)) := ⟨rfl, rfl, ⟨_, _, rfl, rfl⟩, rfl⟩
theorem F820 (P : Params) : FnAt P 820 819 f820 (fB (nth mB 27)) := ⟨rfl, rfl, ⟨_, _, rfl, rfl⟩, rfl⟩
theorem F827 (P : Params) : FnAt P 827 826 f827 (fB (nth mB 28)) := ⟨rfl, rfl, ⟨_, _, rfl, rfl⟩, rfl⟩
theorem F834 (P : Params) : FnAt P 834 833 f834 (fB (nth mB 29)) := ⟨rfl, rfl, ⟨_, _, rfl, rfl⟩, rfl⟩
theorem F841 (P : Params) : FnAt P 841 840 f841 (fB (nth mB 30)) := ⟨rfl, rfl, ⟨_, _, rfl, rfl⟩, rfl⟩
theorem F848 (P : Params) : FnAt P 848 847 f848 (fB (nth mB 31)) := ⟨rfl, rfl, ⟨_, _, rfl, rfl⟩, rfl⟩
theorem F855 (P : Params) : FnAt P 855 854 f855 (fB (nth mB 32)) := ⟨rfl, rfl, ⟨_, _, rfl, rfl⟩, rfl⟩
theorem F862 (P : Params) : FnAt P 862 861 f862 (fB (nth mB 33)) := ⟨rfl, rfl, ⟨_, _, rfl, rfl⟩, rfl⟩
theorem F869 (P : Params) : FnAt P 869 868 f869 (fB (nth mB 34)) := ⟨rfl, rfl, ⟨_, _, rfl, rfl⟩, rfl⟩
theorem F874 (P : Params) : FnAt P 874 873 f874 (fB (nth mB 35)) := ⟨rfl, rfl, ⟨_, _, rfl, rfl⟩, rfl⟩
noncomputable abbrev LO (items : Array Value) (n : Nat) : Obj := { cls := .type "list", dict := none, data := .seq items n, slots := #[] }
noncomputable abbrev TO (items : Array Value) (n : Nat) : Obj := { cls := .type "tuple", dict := none, data := .seq items n, slots := #[] }
section
variable {α β : Type} {p : JP} {A : Around} {c : JC} {E : JC → Prop} {env : Env} {a b : Int} {t u : Tok} {x y : Str} {Q : Value → JC → Prop}
theorem j_add (h : ∀ t, Q (.int (a + b) t) c) : jwp p A (binaryOp .Add (.int a t) (.int b u)) Q E c := .of fun s H => PyProof.Rows.add_int ⟨c, H.toks _, h _⟩
theorem j_sub (h : ∀ t, Q (.int (a - b) t) c) : jwp p A (binaryOp .Sub (.int a t) (.int b u)) Q E c := .of fun s H => PyProof.Rows.sub_int' ⟨c, H.toks _, h _⟩
theorem j_mod (hb : b ≠ 0) (h : ∀ t, Q (.int (a.fmod b) t) c) : jwp p A (binaryOp .Mod (.int a t) (.int b u)) Q E c := .of fun s H => PyProof.Rows.mod_int' hb ⟨c, H.toks _, h _⟩
theorem j_iadd (h : ∀ t, Q (.int (a + b) t) c) : jwp p A (inplaceOp .Add (.int a t) (.int b u)) Q E c := .of fun s H => PyProof.Rows.iadd_int ⟨c, H.toks _, h _⟩
theorem j_gt (h : Q (.bool (decide (b < a))) c) : jwp p A (compareOp .Gt (.int a t) (.int b u)) Q E c := .of fun s H => PyProof.Rows.gt_int ⟨c, H, h⟩
theorem j_lt (h : Q (.bool (decide (a < b))) c) : jwp p A (compareOp .Lt (.int a t) (.int b u)) Q E c := .of fun s H => PyProof.Rows.lt_int ⟨c, H, h⟩
theorem j_ge (h : Q (.bool (decide (b ≤ a))) c) : jwp p A (compareOp .GtE (.int a t) (.int b u)) Q E c := .of fun s H => PyProof.Rows.ge_int ⟨c, H, h⟩
theorem j_eqInt (h : Q (.bool (a == b)) c) : jwp p A (compareOp .Eq (.int a t) (.int b u)) Q E c := .of fun s H => PyProof.Rows.eq_int ⟨c, H, h⟩
theorem j_neInt (h : Q (.bool (a != b)) c) : jwp p A (compareOp .NotEq (.int a t) (.int b u)) Q E c := .of fun s H => PyProof.Rows.ne_int ⟨c, H, h⟩
theorem j_eqStr (h : Q (.bool (x == y)) c) : jwp p A (compareOp .Eq (.str x t) (.str y u)) Q E c := .of fun s H => PyProof.Rows.eq_str ⟨c, H, h⟩
theorem j_neStr (h : Q (.bool (x != y)) c) : jwp p A (compareOp .NotEq (.str x t) (.str y u)) Q E c := .of fun s H => PyProof.Rows.ne_str ⟨c, H, h⟩
variable {l r : Addr} {items items2 : Array Value} {n n2 : Nat} {pos : Pos}
theorem has_list {s : Shared} (ho : c.Has l (LO items n)) (H : c.At p s) : IsL s.heap l items n := ho.get H
theorem has_tup {s : Shared} (ho : c.Has l (TO items n)) (H : c.At p s) : IsT s.heap l items n := ho.get H
theorem j_getitemInPythonList {Q : Bool → JC → Prop} (ho : c.Has l (LO items n)) (h : Q false c) : jwp p A (getitemInPython (.ref l)) Q E c := .of fun s H => by
  rw [getitemInPython_of_ne (by intro e; cases e)]
  exact wpAny_bind (wpAny_specialOf (has_list ho H).isList.typeIs F.slot_list_getitem.lookup (wpAny_pure ⟨c, H, h⟩))
theorem j_getitemInPythonTup {Q : Bool → JC → Prop} (ho : c.Has l (TO items n)) (h : Q false c) : jwp p A (getitemInPython (.ref l)) Q E c := .of fun s H => by
  rw [getitemInPython_of_ne (by intro e; cases e)]
  exact wpAny_bind (wpAny_specialOf (v := .ref l) (T := "tuple") ⟨_, has_tup ho H, rfl⟩ F.slot_tuple_getitem.lookup (wpAny_pure ⟨c, H, h⟩))
theorem j_subPlain {slice : Expr} {o i : Value} (h : jwp p A (getItem o i) Q E c) : jwp p A (subscripted slice false o i) Q E c := by
  cases slice with
  | Slice a b s q => cases s <;> exact j_operate h
  | _ => exact j_operate h
theorem j_listItem {k : Int} {v : Value} (ho : c.Has l (LO items n)) (h0 : 0 ≤ k) (hfit : k < 2 ^ 63) (hx : items[k.toNat]? = some v) (h : Q v c) : jwp p A (getItem (.ref l) (.int k t)) Q E c :=
  .of fun s H => wpAny_getItem_list (has_list ho H).isList h0 hfit hx ⟨c, H, h⟩
theorem j_tupItem {k : Int} {v : Value} {i : Nat} (ho : c.Has l (TO items n)) (hlo : -2 ^ 63 ≤ k) (hhi : k < 2 ^ 63) (hk : seqIndex? k items.size = some i) (hx : items[i]? = some v) (h : Q v c) : jwp p A (getItem (.ref l) (.int k t)) Q E c :=
  .of fun s H => PySem.P.getItem_tuple (has_tup ho H) hlo hhi hk hx ⟨c, H, h⟩
theorem j_atL {x : Str} {p1 p2 p3 : Pos} {kk : Nat} {k : Int} {v : Value} {vs : Vars} {Q : Value → JC → Prop} (hm : (env.locals, vs) ∈ c.nss) (hv : vs.lookup x = some (.ref l)) (ho : c.Has l (LO items n)) (hx : items[k.toNat]? = some v) (h : Q v c)
    (hk : autoParam (inL env x = true) rt) (hr : autoParam (decide (0 ≤ k ∧ k < 2 ^ 63) = true) rt) : jwp p A (eval (.Subscript (.Name x p1) (.Constant (.int k) kk p2) p3) env) Q E c :=
  have ⟨h1, h2⟩ := of_decide_eq_true hr
  j_Subscript (j_local hm hv (j_cInt fun t => j_getitemInPythonList ho (j_subPlain (j_listItem ho h1 h2 hx h))) hk)
theorem j_atT {x : Str} {p1 p2 p3 : Pos} {kk : Nat} {k : Int} {v : Value} {i : Nat} {vs : Vars} {Q : Value → JC → Prop} (hm : (env.locals, vs) ∈ c.nss) (hv : vs.lookup x = some (.ref l)) (ho : c.Has l (TO items n)) (hi : seqIndex? k items.size = some i) (hx : items[i]? = some v) (h : Q v c)
    (hk : autoParam (inL env x = true) rt) (hr : autoParam (decide (-2 ^ 63 ≤ k ∧ k < 2 ^ 63) = true) rt) : jwp p A (eval (.Subscript (.Name x p1) (.Constant (.int k) kk p2) p3) env) Q E c :=
  have ⟨h1, h2⟩ := of_decide_eq_true hr
  j_Subscript (j_local hm hv (j_cInt fun t => j_getitemInPythonTup ho (j_subPlain (j_tupItem ho h1 h2 hi hx h))) hk)
theorem j_setListItem {k : Nat} {v : Value} {pre post : List (Addr × Obj)} {Q : Unit → JC → Prop} (ho : c.own = pre ++ (l, LO items n) :: post) (hk : k < items.size) (hfit : (k : Int) < 2 ^ 63)
    (h : Q () (c.sto (pre ++ (l, LO (items.setIfInBounds k v) n) :: post))) : jwp p A (setItem (.ref l) (.int k t) v) Q E c := .of fun s H => by
  have hl : IsL s.heap l items n := H.own (l, _) (by rw [ho]; simp)
  have h0 : (0 : Int) ≤ k := Int.natCast_nonneg k
  obtain ⟨z, hz⟩ : ∃ z : Int, z = k := ⟨_, rfl⟩
  rw [← hz] at h0 hfit ⊢
  unfold setItem
  try with_reducible refine wpAny_holding ?_
  first | refine wpAny_bind (wpAny_pure ?_) | skip
  refine wpAny_bind (wpAny_sequenceKey hl.isList.typeIs (by decide) ?_)
  refine wpAny_bind (wpAny_callSpecial?_slot (name := Str.ofString "__setitem__") hl.isList.typeIs slot_list_setitem
    (wpAny_call_entry slot_list_setitem hl.isList.typeIs entry_list_setitem ?_ (args_list_setitem _ _ _)))
  show wpAny _ _ (Builtin.List.listSubscript? (.int z t) >>= _) _ _ s
  refine wpAny_bind (wpAny_listSubscript_int (fitsIndex_of h0 hfit) ?_)
  clear hfit
  subst hz
  have hx' : items[k]? = some items[k] := Array.getElem?_eq_getElem hk
  show wpAny _ _ ((seqItemAt l k >>= fun r => pure (r.map (k, ·))) >>= _) _ _ s
  refine wpAny_bind (wpAny_bind (wpAny_seqItemAt hl rfl (wpAny_pure ?_)))
  rw [hx']
  show wpAny _ _ (setSeqItemAt l k v >>= _) _ _ s
  refine wpAny_bind (wpAny_setSeqItemAt hl rfl ?_)
  have hu := hl.update (·.setIfInBounds k v)
  rw [if_pos (by simp)] at hu
  have fin := H.put ho (Heap.SameBut.update s.heap l _) hu s.toks
  first
    | exact wpAny_bind (wpAny_pure (wpAny_pure ⟨.none, rfl, wpAny_pure ⟨_, fin, h⟩⟩))
    | exact wpAny_pure ⟨.none, rfl, wpAny_pure ⟨_, fin, h⟩⟩
theorem j_lenList (ho : c.Has l (LO items n)) (hfit : (items.size : Int) < 2 ^ 63) (h : ∀ t, Q (.int items.size t) c) : jwp p A (call (.builtin "len") [.ref l]) Q E c :=
  .of fun s H => PyProof.Rows.len_list (has_list ho H).isList hfit ⟨c, H.toks _, h _⟩
theorem j_lenTup (ho : c.Has l (TO items n)) (hfit : (items.size : Int) < 2 ^ 63) (h : ∀ t, Q (.int items.size t) c) : jwp p A (call (.builtin "len") [.ref l]) Q E c :=
  .of fun s H => PySem.P.len_tuple (has_tup ho H) (by omega) ⟨c, H.toks _, h _⟩
theorem j_addList (hl : c.Has l (LO items n)) (hr : c.Has r (LO items2 n2)) (hsz : items.size + items2.size ≤ sizeLine) (h : ∀ a, Q (.ref a) (c.psh a (LO (items ++ items2) 0))) :
    jwp p A (binaryOp .Add (.ref l) (.ref r)) Q E c := .of fun s H => PySem.P.add_list (has_list hl H) (has_list hr H) ⟨_, H.push _ rfl s.toks, h _⟩ hsz
theorem j_AugSub {o i : Expr} {sp pos : Pos} {op : Operator} {value : Expr} {Q : Flow → JC → Prop} (hi : ∀ a b c d, i ≠ .Slice a b c d)
    (h : jwp p A (eval o env) (fun ov c₁ => jwp p A (eval i env) (fun iv c₂ => jwp p A (getItem ov iv) (fun old c₃ => jwp p A (eval value env) (fun v c₄ => jwp p A (inplaceOp op old v) (fun new c₅ =>
      jwp p A (setItem ov iv new) (fun V => Q .next) E c₅) E c₄) E c₃) E c₂) E c₁) E c) : jwp p A (exec (.AugAssign (.Subscript o i sp) op value pos) env) Q E c := by
  show jwp p A (do
    standAt pos
    let ov ← eval o env
    let iv ← holding [ov] (eval i env)
    let new ← holding [ov, iv] do
      standAt sp
      let old ← getItem ov iv
      let v ← holding [old] (eval value env)
      standAt pos
      operate [old, v] (inplaceOp op old v)
    standAt sp
    augStore i ov iv new) Q E c
  refine j_standThen (jwp_bind (h.mono (fun ov c₁ q => jwp_bind (jwp_holding (q.mono (fun iv c₂ q => ?_) fun V V x => x))) fun V V x => x))
  refine jwp_bind (jwp_holding (j_standThen (jwp_bind (q.mono (fun old c₃ q => jwp_bind (jwp_holding (q.mono (fun v c₄ q => j_standThen (j_operate (q.mono (fun new c₅ q => j_standThen ?_) fun V V x => x))) fun V V x => x))) fun V V x => x))))
  have T := jwp_bind (f := fun V => release [new, ov, iv] [] >>= fun V => pure Flow.next) (jwp_holding (vs := [new, ov, iv]) (q.mono (fun V V q => jwp_bind (j_release (jwp_pure q))) fun V V x => x))
  cases i with
  | Slice a b s r =>
    cases s with
    | none => exact absurd rfl (hi _ _ _ _)
    | some _ => exact T
  | _ => exact T
end
theorem g_law_make (P : Params) : nsIn (KK P) 3 (Str.ofString "_law_make") = some (some (.ref 789)) := by kernel_rfl
theorem g_law_told (P : Params) : nsIn (KK P) 3 (Str.ofString "_law_told") = some (some (.ref 794)) := by kernel_rfl
theorem g_law_opened (P : Params) : nsIn (KK P) 3 (Str.ofString "_law_opened") = some (some (.ref 801)) := by kernel_rfl
theorem g_law_next (P : Params) : nsIn (KK P) 3 (Str.ofString "_law_next") = some (some (.ref 808)) := by kernel_rfl
theorem g_law_grown (P : Params) : nsIn (KK P) 3 (Str.ofString "_law_grown") = some (some (.ref 813)) := by kernel_rfl
theorem g_law_places (P : Params) : nsIn (KK P) 3 (Str.ofString "_law_places") = some (some (.ref 820)) := by kernel_rfl
theorem g_law_piece (P : Params) : nsIn (KK P) 3 (Str.ofString "_law_piece") = some (some (.ref 827)) := by kernel_rfl
theorem g_law_put (P : Params) : nsIn (KK P) 3 (Str.ofString "_law_put") = some (some (.ref 834)) := by kernel_rfl
theorem g_law_replaced (P : Params) : nsIn (KK P) 3 (Str.ofString "_law_replaced") = some (some (.ref 841)) := by kernel_rfl
theorem g_law_at (P : Params) : nsIn (KK P) 3 (Str.ofString "_law_at") = some (some (.ref 848)) := by kernel_rfl
theorem g_law_asked (P : Params) : nsIn (KK P) 3 (Str.ofString "_law_asked") = some (some (.ref 855)) := by kernel_rfl
theorem g_law_many (P : Params) : nsIn (KK P) 3 (Str.ofString "_law_many") = some (some (.ref 862)) := by kernel_rfl
theorem g_law_clash (P : Params) : nsIn (KK P) 3 (Str.ofString "_law_clash") = some (some (.ref 869)) := by kernel_rfl
theorem g_preorder_iter_with_position (P : Params) : nsIn (KK P) 3 (Str.ofString "preorder_iter_with_position") = some (some (.ref 750)) := by kernel_rfl
theorem g_create_operation_expression (P : Params) : nsIn (KK P) 3 (Str.ofString "create_operation_expression") = some (some (.ref 758)) := by kernel_rfl
theorem g_op_iter (P : Params) : nsIn (KK P) 3 (Str.ofString "op_iter") = some (some (.ref 765)) := by kernel_rfl
theorem g_op_len (P : Params) : nsIn (KK P) 3 (Str.ofString "op_len") = some (some (.ref 772)) := by kernel_rfl
theorem g_replace (P : Params) : nsIn (KK P) 3 (Str.ofString "replace") = some (some (.ref 779)) := by kernel_rfl
theorem g_replace_many (P : Params) : nsIn (KK P) 3 (Str.ofString "replace_many") = some (some (.ref 784)) := by kernel_rfl
theorem g_Multiset (P : Params) : nsIn (KK P) 3 (Str.ofString "Multiset") = some (some (.ref 135)) := by kernel_rfl
theorem g_Arity (P : Params) : nsIn (KK P) 3 (Str.ofString "Arity") = some (some (.ref 380)) := by kernel_rfl
theorem g_OperationMeta (P : Params) : nsIn (KK P) 3 (Str.ofString "_OperationMeta") = some (some (.ref 415)) := by kernel_rfl
theorem g_Operation (P : Params) : nsIn (KK P) 3 (Str.ofString "Operation") = some (some (.ref 561)) := by kernel_rfl
theorem g_Symbol (P : Params) : nsIn (KK P) 3 (Str.ofString "Symbol") = some (some (.ref 637)) := by kernel_rfl
theorem g_Wildcard (P : Params) : nsIn (KK P) 3 (Str.ofString "Wildcard") = some (some (.ref 741)) := by kernel_rfl
theorem m_len (P : Params) : nsIn (KK P) 3 (Str.ofString "len") = some none := by kernel_rfl
theorem b_len (P : Params) : nsIn (KK P) 0 (Str.ofString "len") = some (some (.builtin "len")) := by kernel_rfl
theorem m_range (P : Params) : nsIn (KK P) 3 (Str.ofString "range") = some none := by kernel_rfl
theorem b_range (P : Params) : nsIn (KK P) 0 (Str.ofString "range") = some (some (.type "range")) := by kernel_rfl
theorem m_isinstance (P : Params) : nsIn (KK P) 3 (Str.ofString "isinstance") = some none := by kernel_rfl
theorem b_isinstance (P : Params) : nsIn (KK P) 0 (Str.ofString "isinstance") = some (some (.builtin "isinstance")) := by kernel_rfl
theorem m_list (P : Params) : nsIn (KK P) 3 (Str.ofString "list") = some none := by kernel_rfl
theorem b_list (P : Params) : nsIn (KK P) 0 (Str.ofString "list") = some (some (.type "list")) := by kernel_rfl
theorem m_tuple (P : Params) : nsIn (KK P) 3 (Str.ofString "tuple") = some none := by kernel_rfl
theorem b_tuple (P : Params) : nsIn (KK P) 0 (Str.ofString "tuple") = some (some (.type "tuple")) := by kernel_rfl
theorem m_enumerate (P : Params) : nsIn (KK P) 3 (Str.ofString "enumerate") = some none := by kernel_rfl
theorem b_enumerate (P : Params) : nsIn (KK P) 0 (Str.ofString "enumerate") = some (some (.type "enumerate")) := by kernel_rfl
theorem m_sorted (P : Params) : nsIn (KK P) 3 (Str.ofString "sorted") = some none := by kernel_rfl
theorem b_sorted (P : Params) : nsIn (KK P) 0 (Str.ofString "sorted") = some (some (.builtin "sorted")) := by kernel_rfl
theorem m_int (P : Params) : nsIn (KK P) 3 (Str.ofString "int") = some none := by kernel_rfl
theorem b_int (P : Params) : nsIn (KK P) 0 (Str.ofString "int") = some (some (.type "int")) := by kernel_rfl
theorem m_IndexError (P : Params) : nsIn (KK P) 3 (Str.ofString "IndexError") = some none := by kernel_rfl
theorem b_IndexError (P : Params) : nsIn (KK P) 0 (Str.ofString "IndexError") = some (some (.type "IndexError")) := by kernel_rfl
theorem m_type (P : Params) : nsIn (KK P) 3 (Str.ofString "type") = some none := by kernel_rfl
theorem b_type (P : Params) : nsIn (KK P) 0 (Str.ofString "type") = some (some (.type "type")) := by kernel_rfl
theorem j_callFn {p : JP} {A : Around} {c : JC} {E : JC → Prop} {pos : Pos} {f : Addr} {first : List Value} {args : List (Bool × Sem Value)} {o : Obj} {fd : FuncData} {Q : Value → JC → Prop} (ho : (KK p.w.params).lookup f = some o) (hd : o.data = .func fd)
    (h : jwp p A (evalArgs (.ref f) true args []) (fun a c₁ => jwp p A (call (.ref f) (first ++ a.pos) a.kw) Q E c₁) E c) : jwp p A (callWith pos (.ref f) first args []) Q E c :=
  j_callWith (k := .frame) (h.mono (fun a c₁ q => .of fun s H => by
    unfold keeperOf
    refine wpAny_bind (wpAny_load (H.inK _ _ ho) ?_)
    rw [hd]
    exact wpAny_pure ⟨c₁, H, q⟩) fun V V x => x)
theorem j_callB {p : JP} {A : Around} {c : JC} {E : JC → Prop} {pos : Pos} {f : Value} {first : List Value} {args : List (Bool × Sem Value)} {Q : Value → JC → Prop} (hf : ∀ a, f ≠ .ref a)
    (h : jwp p A (evalArgs f true args []) (fun a c₁ => jwp p A (call f (first ++ a.pos) a.kw) Q E c₁) E c) : jwp p A (callWith pos f first args []) Q E c :=
  j_callWith (k := .machine) (h.mono (fun a c₁ q => by
    unfold keeperOf
    split
    · exact absurd rfl (hf _)
    · exact jwp_pure q) fun V V x => x)
theorem j_args {p : JP} {A : Around} {c : JC} {E : JC → Prop} {f : Value} {x : Sem Value} {rest : List (Bool × Sem Value)} {Q : Args → JC → Prop} (h : jwp p A (spliced ((false, x) :: rest)) (fun vs => Q ⟨vs, []⟩) E c) :
    jwp p A (evalArgs f true ((false, x) :: rest) []) Q E c := .of fun s H => Calls.evalArgs_plain (postQ.turn (h.run s H))
theorem j_args1 {p : JP} {A : Around} {c : JC} {E : JC → Prop} {env : Env} {pos : Pos} {f : Value} {e : Expr} {Q : Args → JC → Prop} (h : jwp p A (eval e env) (fun v => Q ⟨[v], []⟩) E c)
    (hs : autoParam (starEach [e] env = [(false, eval e env)]) rt) : jwp p A (evalArgs f true (backTo pos (starEach [e] env)) []) Q E c := by
  rw [hs]; exact j_args (j_splicedCons (h.mono (fun v V q => j_splicedNil q) fun V V x => x))
theorem j_args2 {p : JP} {A : Around} {c : JC} {E : JC → Prop} {env : Env} {pos : Pos} {f : Value} {e e' : Expr} {Q : Args → JC → Prop} (h : jwp p A (eval e env) (fun v c₁ => jwp p A (eval e' env) (fun v' => Q ⟨[v, v'], []⟩) E c₁) E c)
    (hs : autoParam (starEach [e, e'] env = [(false, eval e env), (false, eval e' env)]) rt) : jwp p A (evalArgs f true (backTo pos (starEach [e, e'] env)) []) Q E c := by
  rw [hs]; exact j_args (j_splicedCons (h.mono (fun v V q => j_splicedCons (q.mono (fun v' V q => j_splicedNil q) fun V V x => x)) fun V V x => x))
theorem j_args3 {p : JP} {A : Around} {c : JC} {E : JC → Prop} {env : Env} {pos : Pos} {f : Value} {e e' e'' : Expr} {Q : Args → JC → Prop}
    (h : jwp p A (eval e env) (fun v c₁ => jwp p A (eval e' env) (fun v' c₂ => jwp p A (eval e'' env) (fun v'' => Q ⟨[v, v', v''], []⟩) E c₂) E c₁) E c)
    (hs : autoParam (starEach [e, e', e''] env = [(false, eval e env), (false, eval e' env), (false, eval e'' env)]) rt) : jwp p A (evalArgs f true (backTo pos (starEach [e, e', e''] env)) []) Q E c := by
  rw [hs]; exact j_args (j_splicedCons (h.mono (fun v V q => j_splicedCons (q.mono (fun v' V q => j_splicedCons (q.mono (fun v'' V q => j_splicedNil q) fun V V x => x)) fun V V x => x)) fun V V x => x))
theorem j_Tuple2 {p : JP} {A : Around} {c : JC} {E : JC → Prop} {env : Env} {e e' : Expr} {k : Nat} {pos : Pos} {Q : Value → JC → Prop}
    (h : jwp p A (eval e env) (fun v c₁ => jwp p A (eval e' env) (fun v' c₂ => ∀ a, Q (.ref a) (c₂.psh a (TO #[v, v'] 0))) E c₁) E c)
    (hs : autoParam (starEach [e, e'] env = [(false, eval e env), (false, eval e' env)]) rt) : jwp p A (eval (.Tuple [e, e'] k pos) env) Q E c := by
  refine j_Tuple ?_
  rw [hs]
  exact j_splicedCons (h.mono (fun v V q => j_splicedCons (q.mono (fun v' V q => j_splicedNil ⟨by show 2 ≤ sizeLine; unfold sizeLine; omega, q⟩) fun V V x => x)) fun V V x => x)
theorem j_CallName {p : JP} {A : Around} {c : JC} {E : JC → Prop} {env : Env} {id : Str} {np pos : Pos} {args : List Expr} {kws : List Keyword} {Q : Value → JC → Prop}
    (h : jwp p A (eval (.Name id np) env) (fun f c₁ => jwp p A (callWith pos f [] (backTo pos (starEach args env)) (backToKw pos (keywordEach kws env))) Q E c₁) E c) : jwp p A (eval (.Call (.Name id np) args kws pos) env) Q E c := by
  rw [arm_eval_Call_Name']; exact jwp_bind h
noncomputable def nS : Expr → Bool
  | .Starred .. => false
  | _ => true
noncomputable def nR : Value → Bool
  | .ref _ => false
  | _ => true
theorem nR_ne {g : Value} (h : nR g = true) : ∀ a, g ≠ .ref a := fun a e => by subst e; cases h
theorem starEach_cons {e : Expr} {r : List Expr} {env : Env} (h : nS e = true) : starEach (e :: r) env = (false, eval e env) :: starEach r env := by
  cases e
  all_goals first | rfl | cases h
theorem starEach1 {e : Expr} {env : Env} (h : nS e = true) : starEach [e] env = [(false, eval e env)] := starEach_cons h
theorem starEach2 {e e' : Expr} {env : Env} (h : (nS e && nS e') = true) : starEach [e, e'] env = [(false, eval e env), (false, eval e' env)] := by
  rw [Bool.and_eq_true] at h
  rw [starEach_cons h.1, starEach1 h.2]
theorem starEach3 {e e' e'' : Expr} {env : Env} (h : (nS e && (nS e' && nS e'')) = true) : starEach [e, e', e''] env = [(false, eval e env), (false, eval e' env), (false, eval e'' env)] := by
  rw [Bool.and_eq_true] at h
  rw [starEach_cons h.1, starEach2 h.2]
section
variable (p : JP) (A : Around)
noncomputable abbrev C1Q (g : Value) (Q : Value → JC → Prop) (E : JC → Prop) : Value → JC → Prop := fun v c => jwp p A (call g [v] []) Q E c
noncomputable abbrev C2Q2 (g v : Value) (Q : Value → JC → Prop) (E : JC → Prop) : Value → JC → Prop := fun v' c => jwp p A (call g [v, v'] []) Q E c
noncomputable abbrev C2Q (e' : Expr) (env : Env) (g : Value) (Q : Value → JC → Prop) (E : JC → Prop) : Value → JC → Prop := fun v c => jwp p A (eval e' env) (C2Q2 p A g v Q E) E c
noncomputable abbrev C3Q3 (g v v' : Value) (Q : Value → JC → Prop) (E : JC → Prop) : Value → JC → Prop := fun v'' c => jwp p A (call g [v, v', v''] []) Q E c
noncomputable abbrev C3Q2 (e'' : Expr) (env : Env) (g v : Value) (Q : Value → JC → Prop) (E : JC → Prop) : Value → JC → Prop := fun v' c => jwp p A (eval e'' env) (C3Q3 p A g v v' Q E) E c
noncomputable abbrev C3Q (e' e'' : Expr) (env : Env) (g : Value) (Q : Value → JC → Prop) (E : JC → Prop) : Value → JC → Prop := fun v c => jwp p A (eval e' env) (C3Q2 p A e'' env g v Q E) E c
end
section
variable {p : JP} {A : Around} {c : JC} {E : JC → Prop} {env : Env} {x : Str} {np pos : Pos} {e e' e'' : Expr} {g : Value} {f : Addr} {o : Obj} {fd : FuncData} {Q : Value → JC → Prop}
theorem j_B1 (m : nsIn (KK p.w.params) 3 x = some none) (b : nsIn (KK p.w.params) 0 x = some (some g)) (h : jwp p A (eval e env) (C1Q p A g Q E) E c)
    (hr : autoParam (nR g = true) rt) (hx : autoParam (inB env x = true) rt) (hs : autoParam (nS e = true) rt) : jwp p A (eval (.Call (.Name x np) [e] [] pos) env) Q E c :=
  j_CallName (j_builtin m b (j_callB (nR_ne hr) (j_args1 h (starEach1 hs))) hx)
theorem j_B2 (m : nsIn (KK p.w.params) 3 x = some none) (b : nsIn (KK p.w.params) 0 x = some (some g)) (h : jwp p A (eval e env) (C2Q p A e' env g Q E) E c)
    (hr : autoParam (nR g = true) rt) (hx : autoParam (inB env x = true) rt) (hs : autoParam ((nS e && nS e') = true) rt) : jwp p A (eval (.Call (.Name x np) [e, e'] [] pos) env) Q E c :=
  j_CallName (j_builtin m b (j_callB (nR_ne hr) (j_args2 h (starEach2 hs))) hx)
theorem j_F1 (g : nsIn (KK p.w.params) 3 x = some (some (.ref f))) (ho : (KK p.w.params).lookup f = some o) (hd : o.data = .func fd) (h : jwp p A (eval e env) (C1Q p A (.ref f) Q E) E c)
    (hx : autoParam (inG env x = true) rt) (hs : autoParam (nS e = true) rt) : jwp p A (eval (.Call (.Name x np) [e] [] pos) env) Q E c :=
  j_CallName (j_global g (j_callFn ho hd (j_args1 h (starEach1 hs))) hx)
theorem j_F2 (g : nsIn (KK p.w.params) 3 x = some (some (.ref f))) (ho : (KK p.w.params).lookup f = some o) (hd : o.data = .func fd) (h : jwp p A (eval e env) (C2Q p A e' env (.ref f) Q E) E c)
    (hx : autoParam (inG env x = true) rt) (hs : autoParam ((nS e && nS e') = true) rt) : jwp p A (eval (.Call (.Name x np) [e, e'] [] pos) env) Q E c :=
  j_CallName (j_global g (j_callFn ho hd (j_args2 h (starEach2 hs))) hx)
theorem j_F3 (g : nsIn (KK p.w.params) 3 x = some (some (.ref f))) (ho : (KK p.w.params).lookup f = some o) (hd : o.data = .func fd)
    (h : jwp p A (eval e env) (C3Q p A e' e'' env (.ref f) Q E) E c)
    (hx : autoParam (inG env x = true) rt) (hs : autoParam ((nS e && (nS e' && nS e'')) = true) rt) : jwp p A (eval (.Call (.Name x np) [e, e', e''] [] pos) env) Q E c :=
  j_CallName (j_global g (j_callFn ho hd (j_args3 h (starEach3 hs))) hx)
end
theorem JC.has_mid {Z : Zm} {nss : List (Addr × Vars)} {pre post : List (Addr × Obj)} {g : Array GenState} {a : Addr} {o : Obj} : (JC.mk Z nss (pre ++ (a, o) :: post) g).Has a o := .inr (by simp)
noncomputable def IntsAt (xs : Array Value) (is : List Int) : Prop := xs.size = is.length ∧ ∀ (i : Nat) (x : Int), is[i]? = some x → ∃ t, xs[i]? = some (Value.int x t)
noncomputable def drawAt (is : List Int) (n : Nat) (lim : Int) : Int := match is[n]? with
  | some i => i.fmod lim
  | none => 0
noncomputable abbrev e808 (L : Addr) : Env := callEnv f808 L 808
set_option maxHeartbeats 1000000 in
theorem law_next {p : JP} {A : Around} {c : JC} {E : JC → Prop} {Q : Value → JC → Prop} {pre post : List (Addr × Obj)} {st sl : Addr} {n m : Nat} {t u : Tok} {xs : Array Value} {is : List Int} {lim : Int}
    (hroom : A.depth < recursionLimit) (ho : c.own = pre ++ (st, LO #[.ref sl, .int n t] 0) :: post) (hs : c.Z sl = some (LO xs m)) (hx : IntsAt xs is) (hl : is.length ≤ 1000) (hn : n ≤ 1000000) (hlim : lim ≠ 0)
    (h : ∀ t' t'', Q (.int (drawAt is n lim) t') (c.sto (pre ++ (st, LO #[.ref sl, .int ((n : Int) + 1) t''] 0) :: post))) : jwp p A (call (.ref 808) [.ref st, .int lim u]) Q E c := by
  obtain ⟨Z, nss, own, g⟩ := c
  dsimp only at ho hs h
  subst ho
  refine j_call (jcode_fn (F808 p.w.params) hroom (binds := [(Str.ofString "state", .ref st), (Str.ofString "limit", .int lim u)]) rfl fun L => ?_)
  refine j_cons (j_AugSub (fun V V V V e => by cases e) ?_)
  refine j_local (l := _) List.mem_cons_self rfl ?_
  refine j_cInt fun t1 => ?_
  refine j_listItem JC.has_mid (by decide) (by decide) rfl ?_
  refine j_cInt fun t2 => ?_
  refine j_iadd fun t3 => ?_
  refine j_setListItem (k := 1) rfl (by show 1 < 2; decide) (by decide) ?_
  dsimp only
  refine j_cons (j_If (j_isTrueCompare1 ?_))
  refine j_Subscript (j_local (l := _) List.mem_cons_self rfl ?_)
  refine j_cInt fun t4 => ?_
  refine j_getitemInPythonList JC.has_mid ?_
  refine j_subPlain (j_listItem JC.has_mid (by decide) (by decide) rfl ?_)
  refine j_CallName (j_builtin (m_len _) (b_len _) ?_)
  refine j_callB (fun V e => by cases e) (j_args (j_splicedCons ?_))
  refine j_Subscript (j_local (l := _) List.mem_cons_self rfl ?_)
  refine j_cInt fun t5 => ?_
  refine j_getitemInPythonList JC.has_mid ?_
  refine j_subPlain (j_listItem JC.has_mid (by decide) (by decide) rfl ?_)
  refine j_splicedNil ?_
  refine j_lenList (.inl hs) (by have := hx.1; omega) fun t6 => ?_
  refine j_gt (j_truthyBool ?_)
  by_cases hc : (xs.size : Int) < (n : Int) + 1
  · rw [decide_eq_true hc]
    refine ifT ?_
    refine j_cons (j_Return (j_cInt fun t7 => bodyQ_ret rfl ?_))
    have e : drawAt is n lim = 0 := by unfold drawAt; rw [List.getElem?_eq_none (by have := hx.1; omega)]
    have := h t7 t3
    rw [e] at this
    exact this
  · rw [decide_eq_false hc]
    refine ifF ?_
    refine j_nil ?_
    refine j_cons (j_Return (j_BinOp ?_))
    refine j_Subscript (j_Subscript (j_local (l := _) List.mem_cons_self rfl ?_))
    refine j_cInt fun t7 => ?_
    refine j_getitemInPythonList JC.has_mid ?_
    refine j_subPlain (j_listItem JC.has_mid (by decide) (by decide) rfl ?_)
    refine j_BinOp (j_Subscript (j_local (l := _) List.mem_cons_self rfl ?_))
    refine j_cInt fun t8 => ?_
    refine j_getitemInPythonList JC.has_mid ?_
    refine j_subPlain (j_listItem JC.has_mid (by decide) (by decide) rfl ?_)
    refine j_cInt fun t9 => ?_
    refine j_sub fun t10 => ?_
    have hlt : n < is.length := by have := hx.1; omega
    obtain ⟨t11, e1⟩ := hx.2 n is[n] (List.getElem?_eq_getElem hlt)
    refine j_getitemInPythonList (.inl hs) ?_
    refine j_subPlain (j_listItem (v := .int is[n] t11) (.inl hs) (by omega) (by omega) (by rw [show ((n : Int) + 1 - 1).toNat = n by omega]; exact e1) ?_)
    refine j_local (l := _) List.mem_cons_self rfl ?_
    refine j_mod hlim fun t12 => bodyQ_ret rfl ?_
    have e : drawAt is n lim = is[n].fmod lim := by unfold drawAt; rw [List.getElem?_eq_getElem hlt]
    have := h t12 t3
    rw [e] at this
    exact this
theorem JC.At.ext {p : JP} {c : JC} {s : Shared} (H : c.At p s) {h : Heap} {a : Addr} {o : Obj} {pre post : List (Addr × Obj)} (ho : c.own = pre ++ (a, o) :: post) (hs : Heap.ExtBut a s.heap h) (t : Nat) :
    ({ c with own := pre ++ post } : JC).At p { s with heap := h, toks := t } := by
  have hd := H.drop (own := pre ++ post) (List.Sublist.refl _) (by rw [ho]; exact (List.Sublist.refl _).append (List.sublist_cons_self _ _))
  have hsep := H.sep
  have e0 : c.addrs = c.nss.map (·.1) ++ (pre.map (·.1) ++ a :: post.map (·.1)) := by simp only [JC.addrs, ho, List.map_append, List.map_cons]
  have hin : a ∈ c.addrs := by rw [e0]; simp
  have hna : a ∉ ({ c with own := pre ++ post } : JC).addrs := by
    rw [e0, ← List.append_assoc, nodup_middle, List.nodup_cons] at hsep
    simp only [JC.addrs, List.map_append, ← List.append_assoc]
    exact hsep.1
  refine ⟨H.d, H.os, H.gens, H.k, fun b o' e => hs b o' (fun q => ?_) (H.z b o' e), fun q hq => ?_, fun q hq => hs _ _ (fun z => hna ?_) (hd.own q hq), hd.sep, hd.off⟩
  · subst q; rw [H.off _ hin] at e; cases e
  · obtain ⟨m, n, hm⟩ := H.ns q hq
    exact ⟨m, n.extBut hs (fun z => hna (z ▸ List.mem_append_left _ (List.mem_map_of_mem hq))), hm⟩
  · rw [← z]; exact List.mem_append_right _ (List.mem_map_of_mem hq)
theorem JC.At.extNs {p : JP} {c : JC} {s : Shared} (H : c.At p s) {h : Heap} {L : Addr} {l : Vars} {pre post : List (Addr × Vars)} (ho : c.nss = pre ++ (L, l) :: post) (hs : Heap.ExtBut L s.heap h) (t : Nat) :
    ({ c with nss := pre ++ post } : JC).At p { s with heap := h, toks := t } := by
  have hd := H.drop (nss := pre ++ post) (own := c.own) (by rw [ho]; exact (List.Sublist.refl _).append (List.sublist_cons_self _ _)) (List.Sublist.refl _)
  have hsep := H.sep
  have e0 : c.addrs = (pre.map (·.1) ++ L :: post.map (·.1)) ++ c.own.map (·.1) := by simp only [JC.addrs, ho, List.map_append, List.map_cons]
  have hin : L ∈ c.addrs := by rw [e0]; simp
  have hna : L ∉ ({ c with nss := pre ++ post } : JC).addrs := by
    rw [e0, List.append_assoc, List.cons_append, nodup_middle, List.nodup_cons] at hsep
    simp only [JC.addrs, List.map_append, List.append_assoc]
    exact hsep.1
  refine ⟨H.d, H.os, H.gens, H.k, fun b o' e => hs b o' (fun q => ?_) (H.z b o' e), fun q hq => ?_, fun q hq => hs _ _ (fun z => hna ?_) (hd.own q hq), hd.sep, hd.off⟩
  · subst q; rw [H.off _ hin] at e; cases e
  · obtain ⟨m, n, hm⟩ := hd.ns q hq
    exact ⟨m, n.extBut hs (fun z => hna (z ▸ List.mem_append_left _ (List.mem_map_of_mem hq))), hm⟩
  · rw [← z]; exact List.mem_append_right _ (List.mem_map_of_mem hq)
structure IterOK (p : JP) (n : Nat) (elem : Nat → Value → Prop) (side : JC → Prop) (is : Obj → Nat → Prop) : Prop where
  next : ∀ {A : Around} {c : JC} {E : JC → Prop} {Q : Option Value → JC → Prop} {pre post : List (Addr × Obj)} {it : Addr} {o : Obj} {i : Nat}, c.own = pre ++ (it, o) :: post → is o i → side c → i < n →
    (∀ v o', elem i v → is o' (i + 1) → Q (some v) (c.sto (pre ++ (it, o') :: post))) → jwp p A (pyNext (.ref it)) Q E c
  stop : ∀ {A : Around} {c : JC} {E : JC → Prop} {Q : Option Value → JC → Prop} {pre post : List (Addr × Obj)} {it : Addr} {o : Obj}, c.own = pre ++ (it, o) :: post → is o n → side c → A.handled = none →
    Q none (c.sto (pre ++ post)) → jwp p A (pyNext (.ref it)) Q E c
  self : ∀ {A : Around} {c : JC} {E : JC → Prop} {Q : Value → JC → Prop} {it : Addr} {o : Obj} {i : Nat}, (it, o) ∈ c.own → is o i → Q (.ref it) c → jwp p A (pyIter (.ref it)) Q E c
section
variable {p : JP}
noncomputable def isListIt (l : Addr) (o : Obj) (i : Nat) : Prop := o.cls = .type "list_iterator" ∧ o.data = .fields #[.ref l, .int i 0]
noncomputable def isTupIt (l : Addr) (o : Obj) (i : Nat) : Prop := o.cls = .type "tuple_iterator" ∧ o.data = .fields #[.ref l, .int i 0]
noncomputable def isRangeIt (n : Nat) (o : Obj) (i : Nat) : Prop := i ≤ n ∧ o = { cls := .type "range_iterator", dict := none, data := .fields #[rawInt i, rawInt ((n : Int) - i), rawInt 1], slots := #[] }
theorem iter_list (l : Addr) (items : Array Value) (m : Nat) : IterOK p items.size (fun i v => items[i]? = some v) (fun c => c.Has l (LO items m)) (isListIt l) where
  next := fun {A c E Q pre post it o i} ho hi hs hlt h => .of fun s H => by
    have hg := H.own (it, o) (by rw [ho]; simp)
    refine wpAny_pyNext_list_item (x := items[i]) ⟨o, hg, hi⟩ (has_list hs H).isList (Array.getElem?_eq_getElem hlt) fun h' z1 hsb => z1.elim fun o' y10 => y10.elim fun hg' hi' => ?_
    exact ⟨_, H.put ho hsb hg' s.toks, h _ o' (Array.getElem?_eq_getElem hlt) hi'⟩
  stop := fun {A c E Q pre post it o} ho hi hs hh h => .of fun s H => by
    have hg := H.own (it, o) (by rw [ho]; simp)
    exact wpAny_pyNext_list_end hh ⟨o, hg, hi⟩ (has_list hs H).isList (by simp) fun h' hsb => ⟨_, H.ext ho hsb s.toks, h⟩
  self := fun {A c E Q it o i} ho hi h => .of fun s H => wpAny_pyIter_listiter ⟨o, H.own _ ho, hi⟩ ⟨c, H, h⟩
theorem iter_tup (l : Addr) (items : Array Value) (m : Nat) : IterOK p items.size (fun i v => items[i]? = some v) (fun c => c.Has l (TO items m)) (isTupIt l) where
  next := fun {A c E Q pre post it o i} ho hi hs hlt h => .of fun s H => by
    have hg := H.own (it, o) (by rw [ho]; simp)
    refine wpAny_pyNext_tuple_item (x := items[i]) ⟨o, hg, hi⟩ ⟨_, has_tup hs H, rfl, _, rfl⟩ (Array.getElem?_eq_getElem hlt) fun h' z1 hsb => z1.elim fun o' y10 => y10.elim fun hg' hi' => ?_
    exact ⟨_, H.put ho hsb hg' s.toks, h _ o' (Array.getElem?_eq_getElem hlt) hi'⟩
  stop := fun {A c E Q pre post it o} ho hi hs hh h => .of fun s H => by
    have hg := H.own (it, o) (by rw [ho]; simp)
    exact wpAny_pyNext_tuple_end hh ⟨o, hg, hi⟩ ⟨_, has_tup hs H, rfl, _, rfl⟩ (by simp) fun h' hsb => ⟨_, H.ext ho hsb s.toks, h⟩
  self := fun {A c E Q it o i} ho hi h => .of fun s H => wpAny_pyIter_tupleiter ⟨o, H.own _ ho, hi⟩ ⟨c, H, h⟩
theorem iter_range (n : Nat) : IterOK p n (fun i v => ∃ t, v = .int i t) (fun V => True) (isRangeIt n) where
  next := fun {A c E Q pre post it o i} ho hi _ hlt h => .of fun s H => by
    obtain ⟨_, rfl⟩ := hi
    have hg := H.own (it, _) (by rw [ho]; exact List.mem_append_right _ List.mem_cons_self)
    refine wpAny_pyNext_range_item (x := i) (left := (n : Int) - i) (step := 1) hg (by omega) fun h' hit' hsb => ?_
    refine ⟨_, H.put ho hsb hit' (s.toks + 1), h _ _ ⟨_, rfl⟩ ⟨hlt, ?_⟩⟩
    rw [show ((i : Int) + 1) = ((i + 1 : Nat) : Int) by omega, show (n : Int) - i - 1 = (n : Int) - ((i + 1 : Nat) : Int) by omega]
  stop := fun {A c E Q pre post it o} ho hi _ hh h => .of fun s H => by
    obtain ⟨_, rfl⟩ := hi
    have hg := H.own (it, _) (by rw [ho]; exact List.mem_append_right _ List.mem_cons_self)
    exact wpAny_pyNext_range_end (x := n) (left := (n : Int) - n) (step := 1) hh hg (by omega) fun h' hsb => ⟨_, H.ext ho hsb s.toks, h⟩
  self := fun {A c E Q it o i} ho hi h => .of fun s H => by
    obtain ⟨_, rfl⟩ := hi
    exact wpAny_pyIter_rangeiter (x := i) (left := (n : Int) - i) (step := 1) (H.own _ ho) ⟨c, H, h⟩
variable {A : Around} {c : JC} {E : JC → Prop} {env : Env}
theorem j_iterList {l : Addr} {items : Array Value} {m : Nat} {Q : Value → JC → Prop} (ho : c.Has l (LO items m)) (h : ∀ it o, isListIt l o 0 → Q (.ref it) (c.psh it o)) : jwp p A (pyIter (.ref l)) Q E c :=
  .of fun s H => wpAny_pyIter_list (has_list ho H).isList ⟨_, H.push _ rfl s.toks, h _ _ ⟨rfl, rfl⟩⟩
theorem j_iterTup {l : Addr} {items : Array Value} {m : Nat} {Q : Value → JC → Prop} (ho : c.Has l (TO items m)) (h : ∀ it o, isTupIt l o 0 → Q (.ref it) (c.psh it o)) : jwp p A (pyIter (.ref l)) Q E c :=
  .of fun s H => wpAny_pyIter_tuple ⟨_, has_tup ho H, rfl, _, rfl⟩ ⟨_, H.push _ rfl s.toks, h _ _ ⟨rfl, rfl⟩⟩
noncomputable abbrev RO (n : Int) (t u v : Tok) : Obj := { cls := .type "range", dict := none, data := .fields #[.int 0 t, .int n u, .int 1 v], slots := #[] }
theorem j_range {n : Nat} {t : Tok} {Q : Value → JC → Prop} (h : ∀ r t u v, Q (.ref r) (c.psh r (RO n t u v))) : jwp p A (call (.type "range") [.int n t]) Q E c := .of fun s H => by
  refine call_range_1 ?_
  refine ⟨_, H.push _ rfl (s.toks + 1 + 1), h _ _ _ _⟩
theorem j_iterRange {r : Addr} {n : Nat} {t u v : Tok} {Q : Value → JC → Prop} (hn : n < 1000000) (ho : c.Has r (RO n t u v)) (h : ∀ it o, isRangeIt n o 0 → Q (.ref it) (c.psh it o)) : jwp p A (pyIter (.ref r)) Q E c := .of fun s H => by
  refine wpAny_pyIter_range (ho.get H) (small_one (by decide) (by decide) (by omega) (by omega)) ⟨_, H.push _ rfl s.toks, h _ _ ⟨Nat.zero_le _, ?_⟩⟩
  have : Builtin.Range.rangeSize 0 n 1 = (n : Int) - ((0 : Nat) : Int) := by rw [rangeSize_one]; split <;> omega
  rw [this]; rfl
theorem postE_noted {E' : JC → Prop} {L : Addr} (hE : ∀ c, E' c → E c ∧ FramesIn A (c.nss.map (·.1)) ∧ TopIs A env L) (e : Value) (s : Shared) (h : postE p E' e s) : notedBy p.M A env (cameBackBy p.M A env (postE p E)) e s := by
  obtain ⟨c', f, hf, rfl, H, q⟩ := h
  obtain ⟨q1, q2, q3⟩ := hE c' q
  refine wpAny_mono ((flies_noteFrame q2 q3 hf).run s H) (fun _ s' ⟨c₂, H₂, f', hf', hx, ⟨T, oT, hm⟩, hc⟩ => ?_) fun V s' z2 => z2.elim fun V y20 => y20.elim fun V y21 => y21.elim fun V y22 => y22.elim fun V y23 => y23.elim fun V y => y.elim
  rw [← hx]
  refine wpAny_mono ((flies_back (p := p) (c := c') (env := env) hf' hm).run s' (hc s' H₂)) (fun _ s'' ⟨c₃, H₃, f'', hf'', hx', _, hc'⟩ => ?_) fun V s' z2 => z2.elim fun V y20 => y20.elim fun V y21 => y21.elim fun V y22 => y22.elim fun V y23 => y23.elim fun V y => y.elim
  exact ⟨c', f'', hf'', by rw [hx'], hc' s'' H₃, q1⟩
end
inductive HitOK (p : JP) (v : Value) (c₂ : JC) (is : Obj → Nat → Prop) (J : JC → Prop) : Prop
  | mk (it : Addr) (o : Obj) (c₃ : JC) (e : v = .ref it) (h : is o 0) (hc : Conv p c₂ (c₃.psh it o)) (hJ : J c₃)
inductive TurnOK (p : JP) (c₃ : JC) (it : Addr) (o : Obj) (J : JC → Prop) : Prop
  | mk (c₄ : JC) (hc : Conv p c₃ (c₄.psh it o)) (hJ : J c₄)
section
variable {p : JP} {A : Around} {c : JC} {E E' : JC → Prop} {env : Env}
noncomputable def GoOK (p : JP) (A : Around) (target : Expr) (elem : Nat → Value → Prop) (is : Obj → Nat → Prop) (E : JC → Prop) : Prop :=
  ∀ (i : Nat) (v : Value) (c₁ : JC) (it : Addr) (o : Obj) (Q : Unit → JC → Prop), elem i v → is o (i + 1) → (it, o) ∈ c₁.own → Q () c₁ → jwp p A (letOwnedTupleGo target (.ref it) v) Q E c₁
theorem go_name {x : Str} {pos : Pos} {elem : Nat → Value → Prop} {is : Obj → Nat → Prop} : GoOK p A (.Name x pos) elem is E := fun V V V V V V V V V h => jwp_pure h
noncomputable def NotRaised (p : JP) (A : Around) (env : Env) (E' E : JC → Prop) : Prop := ∃ L, ∀ c, E' c → E c ∧ FramesIn A (c.nss.map (·.1)) ∧ TopIs A env L
theorem NotRaised.never : NotRaised p A env (fun V => False) E := ⟨0, fun V h => h.elim⟩
theorem j_forLoop {n : Nat} {elem : Nat → Value → Prop} {side : JC → Prop} {is : Obj → Nat → Prop} (IT : IterOK p n elem side is) (I : Nat → JC → Prop) {target : Expr} {body orelse : List Stmt} {Q : Flow → JC → Prop} {it : Addr} {o : Obj} (hh : A.handled = none)
    (hE : NotRaised p A env E' E) (hside : ∀ i c₁ o, I i c₁ → side (c₁.psh it o)) (hgo : GoOK p A target elem is E')
    (turn : ∀ i v c₁ o, i < n → elem i v → is o (i + 1) → I i c₁ → jwp p A (assign target env v) (fun V c₂ => jwp p A (execs body env) (fun f c₃ => match f with
      | .next | .cont => TurnOK p c₃ it o (I (i + 1))
      | .brk => False
      | .ret v => ∃ c₄, Conv p c₃ c₄ ∧ Q (.ret v) c₄) E' c₂) E' (c₁.psh it o))
    (fin : ∀ c₁, I n c₁ → jwp p A (execs orelse env) Q E' c₁) (h0 : is o 0) (hI : I 0 c) :
    ∀ s, ({ c with own := (it, o) :: c.own } : JC).At p s → codeAny p.M A (.forLoop target (.ref it) body orelse env) (fun r s' => match r with | .ok f => postQ p Q f s' | .error e => cameBackBy p.M A env (postE p E) e s') s := fun s H => by
  obtain ⟨L, hE⟩ := hE
  have noted : ∀ {s : Shared} {e : Value}, postE p E' e s → notedBy p.M A env (fun e s' => cameBackBy p.M A env (postE p E) e s') e s := fun h => postE_noted hE _ _ h
  refine codeAny_loop' rfl (fun k s => ∃ i c₁ o, k = n - i ∧ i ≤ n ∧ is o i ∧ I i c₁ ∧ ({ c₁ with own := (it, o) :: c₁.own } : JC).At p s) (fun k s hk => ?_) n ⟨0, c, o, rfl, Nat.zero_le _, h0, hI, H⟩
  obtain ⟨i, c₁, o, rfl, hi, his, hIi, H⟩ := hk
  show wpAny _ _ ((forTurn target (.ref it) body orelse env).onRaise (fun x => do noteFrame x env; theTreesLotGoes x)) _ _ s
  refine wpAny_noted ?_
  simp only [forTurn]
  refine wpAny_bind (wpAny_standAt (wpAny_bind (wpAny_onRaise ?_)))
  rcases Nat.lt_or_eq_of_le hi with hlt | rfl
  · refine wpAny_mono ((IT.next (A := A) (E := E') (Q := fun r c₂ => ∃ v o', r = some v ∧ elem i v ∧ is o' (i + 1) ∧ c₂ = (c₁.psh it o')) (pre := []) (post := c₁.own) rfl his (hside i c₁ o hIi) hlt (fun v o' h1 h2 => ⟨v, o', rfl, h1, h2, rfl⟩)).run s H) (fun r s₁ q => ?_) fun e s₁ q => wpAny_standAt (noted q)
    rcases q with ⟨c₂, H₂, v, o', rfl, hv, ho', rfl⟩
    dsimp only
    refine wpAny_bind (wpAny_mono ((hgo i v _ it o' (fun V c₂ => c₂ = (c₁.psh it o')) hv ho' List.mem_cons_self rfl).run s₁ H₂) (fun V s₂ q => ?_) fun e s₁ q => noted q)
    obtain ⟨c₃, H₃, rfl⟩ := q
    refine wpAny_bind (wpAny_mono ((turn i v c₁ o' hlt hv ho' hIi).run s₂ H₃) (fun V s₃ q => ?_) fun e s₁ q => noted q)
    obtain ⟨c₄, H₄, q⟩ := q
    refine wpAny_bind (wpAny_mono (q.run s₃ H₄) (fun f s₄ q => ?_) fun e s₁ q => noted q)
    obtain ⟨c₅, H₅, q⟩ := q
    cases f with
    | next => obtain ⟨c₆, hc, q⟩ := q; exact wpAny_pure (.inl ⟨rfl, n - (i + 1), by omega, i + 1, c₆, o', rfl, hlt, ho', q, hc _ H₅⟩)
    | cont => obtain ⟨c₆, hc, q⟩ := q; exact wpAny_pure (.inl ⟨rfl, n - (i + 1), by omega, i + 1, c₆, o', rfl, hlt, ho', q, hc _ H₅⟩)
    | brk => exact q.elim
    | ret v => obtain ⟨c₆, hc, q⟩ := q; exact wpAny_pure ⟨c₆, hc _ H₅, q⟩
  · refine wpAny_mono ((IT.stop (A := A) (E := E') (Q := fun r c₂ => r = none ∧ c₂ = c₁) (pre := []) (post := c₁.own) rfl his (hside i c₁ o hIi) hh ⟨rfl, rfl⟩).run s H) (fun r s₁ q => ?_) fun e s₁ q => wpAny_standAt (noted q)
    obtain ⟨c₂, H₂, rfl, rfl⟩ := q
    refine wpAny_pure (.inr ⟨rfl, codeAny_block ?_⟩)
    exact wpAny_mono ((fin c₂ hIi).run s₁ H₂) (fun V V q => q) fun e s₁ q => noted q
theorem j_For {n : Nat} {elem : Nat → Value → Prop} {side : JC → Prop} {is : Obj → Nat → Prop} (IT : IterOK p n elem side is) (I : Nat → JC → Prop) {target iter : Expr} {body orelse : List Stmt} {pos : Pos} {Q : Flow → JC → Prop} (hh : A.handled = none)
    (hE : NotRaised p A env E' E) (hgo : GoOK p A target elem is E')
    (hit : jwp p A (eval iter env) (fun x c₁ => jwp p A (pyIter x) (fun v c₂ => HitOK p v c₂ is (I 0)) E c₁) E c)
    (hside : ∀ i c₁ it o, I i c₁ → side (c₁.psh it o))
    (turn : ∀ i v c₁ it o, i < n → elem i v → is o (i + 1) → I i c₁ → jwp p A (assign target env v) (fun V c₂ => jwp p A (execs body env) (fun f c₃ => match f with
      | .next | .cont => TurnOK p c₃ it o (I (i + 1))
      | .brk => False
      | .ret v => ∃ c₄, Conv p c₃ c₄ ∧ Q (.ret v) c₄) E' c₂) E' (c₁.psh it o))
    (fin : ∀ c₁, I n c₁ → jwp p A (execs orelse env) Q E' c₁)
    (hs : autoParam (∀ x, foldedSetIterable iter env x = pure x) rt) : jwp p A (exec (.For target iter body orelse pos) env) Q E c := .of fun s H => by
  refine wpAny_For (wpAny_mono (hit.run s H) (fun x s₁ z2 => z2.elim fun c₁ y20 => y20.elim fun H₁ q => wpAny_mono (q.run s₁ H₁) (fun v s₂ ⟨c₂, H₂, it, o, c₃, e, h0, hc, hI⟩ => ?_) fun V V x => x) fun V V x => x) hs
  subst e
  exact j_forLoop IT I hh hE (fun i c₁ o h => hside i c₁ it o h) hgo (fun i v c₁ o h1 h2 h3 h4 => turn i v c₁ it o h1 h2 h3 h4) fin h0 hI s₂ (hc _ H₂)
end
section
variable {p : JP} {A : Around} {c : JC} {E : JC → Prop} {env : Env}
theorem j_append {l : Addr} {items : Array Value} {m : Nat} {v : Value} {pre post : List (Addr × Obj)} {Q : Value → JC → Prop} (ho : c.own = pre ++ (l, LO items m) :: post) (hsz : items.size ≤ sizeLine)
    (h : ∀ k, Q .none (c.sto (pre ++ (l, LO (items.push v) k) :: post))) : jwp p A (call (.builtin "list.append") [.ref l, v]) Q E c := .of fun s H => by
  have hl : IsL s.heap l items m := H.own (l, _) (by rw [ho]; simp)
  refine wpAny_call_entry slot_list_append hl.isList.typeIs entry_list_append ?_ (args_list_append _ _)
  show wpAny _ _ (updateSeq l (·.push v) >>= fun V => ret .none) _ _ s
  refine wpAny_bind ?_
  have hu := hl.update (·.push v)
  exact wpAny_updateSeq hl rfl (wpAny_pure ⟨.none, rfl, ⟨_, H.put ho (Heap.SameBut.update s.heap l _) hu s.toks, h _⟩⟩)
noncomputable abbrev jtests (ifs : List Expr) (env : Env) : Sem Bool := forIn ifs true fun c r => if r = true then do let ok ← isTrue c env (eval c env); pure (ForInStep.yield ok) else pure (ForInStep.yield r)
theorem j_testsNil {Q : Bool → JC → Prop} (h : Q true c) : jwp p A (jtests [] env) Q E c := jwp_pure h
theorem j_testsOne {t : Expr} {Q : Bool → JC → Prop} (h : jwp p A (isTrue t env (eval t env)) Q E c) : jwp p A (jtests [t] env) Q E c := .of fun s H => PySem.wpAny_tests_one (h.run s H)
noncomputable def JC.comp (c : JC) (C : Addr) (l : Vars) (acc : Addr) (ys : Array Value) (k : Nat) (it : Addr) (o : Obj) : JC := { c with nss := (C, l) :: c.nss, own := (acc, LO ys k) :: (it, o) :: c.own }
inductive CompOK (p : JP) (c : JC) (C acc : Addr) (ys : Array Value) (k : Nat) (it : Addr) (o : Obj) (J : JC → Prop) : Prop
  | mk (c₅ : JC) (hc : Conv p c (c₅.comp C [] acc ys k it o)) (hJ : J c₅)
theorem j_compCore {n : Nat} {elem : Nat → Value → Prop} {side : JC → Prop} {is : Obj → Nat → Prop} (IT : IterOK p n elem side is) (I : Nat → Array Value → JC → Prop) {elt target iter : Expr} {ifs : List Expr} {scope : Scope} {pos : Pos}
    {QQ : Value → Shared → Prop} {use : Option (Value → Sem Unit)} {cl : List (Str × Addr)} (hh : A.handled = none) (hgo : ∀ A', GoOK p A' target elem is (fun V => False))
    (hclos : closureFor scope env = pure cl) (hkind : scope.kind = .function) (hnames : (scope.names.all fun x => match x.2 with | .local => (match scope.names.lookup x.1 with | some .local => true | _ => false) | .cell => false | _ => true) = true)
    (hit : jwp p A (eval iter env) (fun x c₁ => jwp p A (pyIter x) (fun v c₂ => HitOK p v c₂ is (I 0 #[])) E c₁) E c)
    (hside : ∀ i ys c₁ C l acc k it o, I i ys c₁ → side (c₁.comp C l acc ys k it o)) (hsz : ∀ i ys c₁, I i ys c₁ → i < n → ys.size ≤ sizeLine)
    (turn : ∀ i v c₁ C acc ys k it o, i < n → elem i v → is o (i + 1) → I i ys c₁ → jwp p A (assign target (compEnvC scope cl C env) v) (fun V c₂ => jwp p A (jtests ifs (compEnvC scope cl C env)) (fun ok c₃ =>
      if ok = true then jwp p A (eval elt (compEnvC scope cl C env)) (fun y c₄ => CompOK p c₄ C acc ys k it o (I (i + 1) (ys.push y))) (fun V => False) c₃
      else CompOK p c₃ C acc ys k it o (I (i + 1) ys)) (fun V => False) c₂) (fun V => False) (c₁.comp C [] acc ys k it o))
    (fin : ∀ ys c₁ acc k C s, I n ys c₁ → ({ c₁ with nss := (C, []) :: c₁.nss, own := (acc, LO ys k) :: c₁.own } : JC).At p s → compPost p.M A (postE p E) use QQ (.ref acc) C (.ok .next) s)
    (hs : autoParam (∀ x, foldedSetIterable iter env x = pure x) rt) : ∀ s, c.At p s → wpAny p.M A (comprehension (.ListComp elt [⟨target, iter, ifs, 0⟩] scope pos) scope env (firstIterPos [⟨target, iter, ifs, 0⟩] pos) (newList []) false (eval iter env) use) QQ (postE p E) s := fun s H => by
  have hcell : ∀ x ∈ scope.names, x.2 ≠ .cell := fun x hx e => by
    have := List.all_eq_true.mp hnames x hx
    rw [e] at this; cases this
  have hloc : ∀ x ∈ scope.names, x.2 = .local → scope.names.lookup x.1 = some .local := fun x hx e => by
    have := List.all_eq_true.mp hnames x hx
    rw [e] at this
    revert this
    cases scope.names.lookup x.1 with
    | none => intro h; cases h
    | some k => cases k <;> intro h <;> first | rfl | cases h
  refine wpAny_comprehension_free rfl hs hclos hkind hloc ?_
  refine wpAny_mono (hit.run s H) (fun x s₁ z2 => z2.elim fun c₁ y20 => y20.elim fun H₁ q => wpAny_mono (q.run s₁ H₁) (fun v s₂ ⟨c₂, H₂, it, o, c₃, e, h0, hc, hI⟩ => ?_) fun V V x => x) fun V V x => x
  subst e
  have H₃ := hc s₂ H₂
  refine wpAny_newList (items := []) ?_ (Nat.zero_le _)
  have H₄ := H₃.push { cls := .type "list", data := .seq #[] } rfl s₂.toks
  refine wpAny_newFunctionEnv hcell (fun x hx => nomatch hx) (fun h' hn hsb => ?_) hkind
  have H₅ := H₄.frame (l := []) hn (fun b o e => hsb.extBut b o (Nat.ne_of_lt (Heap.lt_size e)) (Heap.get?_push_of_some _ e)) (fun V V e => nomatch e) (s₂.toks + 0)
  have loop : ∀ (C : Addr) (acc : Addr) s', (c₃.comp C [] acc #[] 0 it o).At p s' → codeAny p.M A (.compLoop (.ListComp elt [⟨target, iter, ifs, 0⟩] scope pos) 0 (.ref it) (.ref acc) (compEnvC scope cl C env))
      (compPost p.M A (postE p E) use QQ (.ref acc) C) s' := by
    intro C acc s' H'
    have noted : ∀ {R : Result → Shared → Prop} {s : Shared} {e : Value}, postE p (fun V => False) e s → notedBy p.M A (compEnvC scope cl C env) (fun e s' => R (.error e) s') e s := fun z0 => z0.elim fun V y0 => y0.elim fun V y1 => y1.elim fun V y2 => y2.elim fun V y3 => y3.elim fun V f => f.elim
    refine codeAny_loop rfl (fun m s => ∃ i c₁ ys k o, m = n - i ∧ i ≤ n ∧ is o i ∧ I i ys c₁ ∧ (c₁.comp C [] acc ys k it o).At p s) (fun m s hm => ?_) n ⟨0, c₃, #[], 0, o, rfl, Nat.zero_le _, h0, hI, H'⟩
    obtain ⟨i, c₁, ys, k, o, rfl, hi, his, hIi, H⟩ := hm
    show wpAny _ A ((compTurn (.ListComp elt [⟨target, iter, ifs, 0⟩] scope pos) 0 (.ref it) (.ref acc) (compEnvC scope cl C env)).onRaise (fun x => do noteFrame x (compEnvC scope cl C env); theTreesLotGoes x)) _ _ s
    refine wpAny_noted ?_
    rw [compTurn_list]
    refine wpAny_bind (wpAny_standAt (wpAny_bind ?_))
    rcases Nat.lt_or_eq_of_le hi with hlt | rfl
    · refine wpAny_mono ((IT.next (A := A) (E := fun V => False) (Q := fun r c₂ => ∃ v o', r = some v ∧ elem i v ∧ is o' (i + 1) ∧ c₂ = c₁.comp C [] acc ys k it o') (pre := [(acc, LO ys k)]) (post := c₁.own) rfl his (hside i ys c₁ C [] acc k it o hIi) hlt (fun v o' h1 h2 => ⟨v, o', rfl, h1, h2, rfl⟩)).run s H) (fun r s₁ q => ?_) fun e s₁ q => noted q
      rcases q with ⟨c₂, H₂, v, o', rfl, hv, ho', rfl⟩
      dsimp only
      refine wpAny_bind (wpAny_mono ((hgo A i v _ it o' (fun V c₂ => c₂ = c₁.comp C [] acc ys k it o') hv ho' (List.mem_cons_of_mem _ List.mem_cons_self) rfl).run s₁ H₂) (fun V s₂ q => ?_) fun e s₁ q => noted q)
      obtain ⟨c₃, H₃, rfl⟩ := q
      refine wpAny_bind (wpAny_mono ((turn i v c₁ C acc ys k it o' hlt hv ho' hIi).run s₂ H₃) (fun V s₃ q => ?_) fun e s₁ q => noted q)
      obtain ⟨c₄, H₄, q⟩ := q
      refine wpAny_bind (wpAny_mono (q.run s₃ H₄) (fun ok s₄ q => ?_) fun e s₁ q => noted q)
      obtain ⟨c₅, H₅, q⟩ := q
      cases ok with
      | false =>
        rw [if_neg (by decide)] at q
        obtain ⟨c₆, hc, q⟩ := q
        exact wpAny_pure ⟨rfl, n - (i + 1), by omega, i + 1, c₆, ys, k, o', rfl, hlt, ho', q, hc _ H₅⟩
      | true =>
        rw [if_pos rfl] at q
        refine wpAny_bind (wpAny_bind (wpAny_mono (q.run s₄ H₅) (fun y s₅ q => ?_) fun e s₁ q => noted q))
        obtain ⟨c₆, H₆, c₇, hc, q⟩ := q
        have H₇ := hc _ H₆
        refine wpAny_bind (wpAny_mono ((j_append (A := A) (E := fun V => False) (v := y) (pre := []) (post := (it, o') :: c₇.own) (Q := fun V c₈ => ∃ k', c₈ = c₇.comp C [] acc (ys.push y) k' it o') rfl (hsz i ys c₁ hIi hlt) (fun k' => ⟨k', rfl⟩)).run s₅ H₇) (fun V s₆ q' => ?_) fun e s₁ q => noted q)
        obtain ⟨c₈, H₈, k', rfl⟩ := q'
        exact wpAny_pure (wpAny_pure ⟨rfl, n - (i + 1), by omega, i + 1, c₇, ys.push y, k', o', rfl, hlt, ho', q, H₈⟩)
    · refine wpAny_mono ((IT.stop (A := A) (E := fun V => False) (Q := fun r c₂ => r = none ∧ c₂ = { c₁ with nss := (C, []) :: c₁.nss, own := (acc, LO ys k) :: c₁.own }) (pre := [(acc, LO ys k)]) (post := c₁.own) rfl his (hside i ys c₁ C [] acc k it o hIi) hh ⟨rfl, rfl⟩).run s H) (fun r s₁ q => ?_) fun e s₁ q => noted q
      obtain ⟨c₂, H₂, rfl, rfl⟩ := q
      exact wpAny_pure (fin ys c₁ acc k C s₁ hIi H₂)
  have noted0 : ∀ {R : Result → Shared → Prop} {env' : Env} {s : Shared} {e : Value}, postE p (fun V => False) e s → notedBy p.M A env' (fun e s' => R (.error e) s') e s := fun z0 => z0.elim fun V y0 => y0.elim fun V y1 => y1.elim fun V y2 => y2.elim fun V y3 => y3.elim fun V f => f.elim
  refine codeAny_compStart_list (loop _ _ _ H₅) ?_
  refine wpAny_mono ((IT.self (A := A) (E := fun V => False) (Q := fun v c₂ => v = .ref it ∧ c₂ = c₃.comp _ [] _ #[] 0 it o) (List.mem_cons_of_mem _ List.mem_cons_self) h0 ⟨rfl, rfl⟩).run _ H₅) (fun v s₅ q => ?_) fun e s₁ q => noted0 q
  obtain ⟨c₄, H₆, rfl, rfl⟩ := q
  exact loop _ _ _ H₆
theorem j_ListComp {n : Nat} {elem : Nat → Value → Prop} {side : JC → Prop} {is : Obj → Nat → Prop} (IT : IterOK p n elem side is) (I : Nat → Array Value → JC → Prop) {elt target iter : Expr} {ifs : List Expr} {scope : Scope} {pos : Pos}
    {Q : Value → JC → Prop} {cl : List (Str × Addr)} (hh : A.handled = none) (hgo : ∀ A', GoOK p A' target elem is (fun V => False))
    (hclos : closureFor scope env = pure cl) (hkind : scope.kind = .function) (hnames : (scope.names.all fun x => match x.2 with | .local => (match scope.names.lookup x.1 with | some .local => true | _ => false) | .cell => false | _ => true) = true)
    (hit : jwp p A (eval iter env) (fun x c₁ => jwp p A (pyIter x) (fun v c₂ => HitOK p v c₂ is (I 0 #[])) E c₁) E c)
    (hside : ∀ i ys c₁ C l acc k it o, I i ys c₁ → side (c₁.comp C l acc ys k it o)) (hsz : ∀ i ys c₁, I i ys c₁ → i < n → ys.size ≤ sizeLine)
    (turn : ∀ i v c₁ C acc ys k it o, i < n → elem i v → is o (i + 1) → I i ys c₁ → jwp p A (assign target (compEnvC scope cl C env) v) (fun V c₂ => jwp p A (jtests ifs (compEnvC scope cl C env)) (fun ok c₃ =>
      if ok = true then jwp p A (eval elt (compEnvC scope cl C env)) (fun y c₄ => CompOK p c₄ C acc ys k it o (I (i + 1) (ys.push y))) (fun V => False) c₃
      else CompOK p c₃ C acc ys k it o (I (i + 1) ys)) (fun V => False) c₂) (fun V => False) (c₁.comp C [] acc ys k it o))
    (fin : ∀ ys c₁ acc k, I n ys c₁ → Q (.ref acc) (c₁.psh acc (LO ys k)))
    (hs : autoParam (∀ x, foldedSetIterable iter env x = pure x) rt) : jwp p A (eval (.ListComp elt [⟨target, iter, ifs, 0⟩] scope pos) env) Q E c := .of fun s H => by
  rw [eval_ListComp]
  refine j_compCore IT I hh hgo hclos hkind hnames hit hside hsz turn (fun ys c₁ acc k C s₁ hI H₁ => ?_) hs s H
  obtain ⟨m', hn', _⟩ := H₁.ns (C, []) List.mem_cons_self
  exact ⟨m', hn', fun h' hs' => ⟨_, H₁.extNs (pre := []) rfl hs'.extBut s₁.toks, fin ys c₁ acc k hI⟩⟩
theorem j_AssignComp {n : Nat} {elem : Nat → Value → Prop} {side : JC → Prop} {is : Obj → Nat → Prop} (IT : IterOK p n elem side is) (I : Nat → Array Value → JC → Prop) {elt target iter : Expr} {ifs : List Expr} {scope : Scope} {pos : Pos}
    {Q : Flow → JC → Prop} {y : Str} {py spos : Pos} {cl : List (Str × Addr)} (hh : A.handled = none) (hgo : ∀ A', GoOK p A' target elem is (fun V => False))
    (hclos : closureFor scope env = pure cl) (hkind : scope.kind = .function) (hnames : (scope.names.all fun x => match x.2 with | .local => (match scope.names.lookup x.1 with | some .local => true | _ => false) | .cell => false | _ => true) = true)
    (hit : jwp p A (eval iter env) (fun x c₁ => jwp p A (pyIter x) (fun v c₂ => HitOK p v c₂ is (I 0 #[])) E c₁) E c)
    (hside : ∀ i ys c₁ C l acc k it o, I i ys c₁ → side (c₁.comp C l acc ys k it o)) (hsz : ∀ i ys c₁, I i ys c₁ → i < n → ys.size ≤ sizeLine)
    (turn : ∀ i v c₁ C acc ys k it o, i < n → elem i v → is o (i + 1) → I i ys c₁ → jwp p A (assign target (compEnvC scope cl C env) v) (fun V c₂ => jwp p A (jtests ifs (compEnvC scope cl C env)) (fun ok c₃ =>
      if ok = true then jwp p A (eval elt (compEnvC scope cl C env)) (fun y c₄ => CompOK p c₄ C acc ys k it o (I (i + 1) (ys.push y))) (fun V => False) c₃
      else CompOK p c₃ C acc ys k it o (I (i + 1) ys)) (fun V => False) c₂) (fun V => False) (c₁.comp C [] acc ys k it o))
    (fin : ∀ ys c₁ acc k, I n ys c₁ → ∃ l nss, c₁.nss = (env.locals, l) :: nss ∧ Q .next { c₁ with nss := (env.locals, (y, .ref acc) :: l) :: nss, own := (acc, LO ys k) :: c₁.own })
    (hy : autoParam (env.kindOf y = some .local) rt) (hp : autoParam ((env.scope.kind == .class || (env.scope.kind == .module && env.locals != env.globals)) = false) rt)
    (hsw : autoParam (swapsWith (.ListComp elt [⟨target, iter, ifs, 0⟩] scope pos) (some (.Name y py)) spos.line env = pure true) rt)
    (hs : autoParam (∀ x, foldedSetIterable iter env x = pure x) rt) : jwp p A (exec (.Assign [.Name y py] (.ListComp elt [⟨target, iter, ifs, 0⟩] scope pos) spos) env) Q E c := .of fun s H => by
  rw [exec_Assign_Name_used _ _ _ _ hsw]
  refine wpAny_bind (wpAny_standAt (wpAny_bind ?_))
  show wpAny _ A (do let _ ← comprehension (.ListComp elt [⟨target, iter, ifs, 0⟩] scope pos) scope env _ (newList []) false (eval iter env) (some (assign (.Name y py) env))) _ _ s
  refine wpAny_bind (wpAny_mono (j_compCore (QQ := fun V s' => postQ p Q .next s') (use := some (assign (.Name y py) env)) IT I hh hgo hclos hkind hnames hit hside hsz turn (fun ys c₁ acc k C s₁ hI H₁ => ?_) hs s H) (fun V s' hq => wpAny_pure (wpAny_pure hq)) fun V V e => e)
  obtain ⟨l, nss, e1, q⟩ := fin ys c₁ acc k hI
  have := j_store (p := p) (A := A) (E := E) (env := env) (x := y) (v := .ref acc) (c := { c₁ with nss := (C, []) :: c₁.nss, own := (acc, LO ys k) :: c₁.own }) (pre := [(C, [])]) (l := l) (post := nss)
    (Q := fun V c₂ => c₂ = { c₁ with nss := (C, []) :: (env.locals, (y, .ref acc) :: l) :: nss, own := (acc, LO ys k) :: c₁.own }) (by rw [e1]; rfl) rfl hy hp
  show wpAny _ A (assign (.Name y py) env (.ref acc)) _ _ _
  refine wpAny_assign_Name (wpAny_mono (this.run s₁ H₁) (fun V s₂ z2 => z2.elim fun c₂ y20 => y20.elim fun H₂ e => ?_) fun V V x => x)
  subst e
  obtain ⟨m', hn', _⟩ := H₂.ns (C, []) List.mem_cons_self
  exact ⟨m', hn', fun h' hs' => ⟨_, H₂.extNs (pre := []) rfl hs'.extBut s₂.toks, q⟩⟩
theorem j_CallListM {o : Expr} {name : Str} {apos pos : Pos} {args : List Expr} {id : String} {Q : Value → JC → Prop} (slot : Slot "list" name id) (hty : typeOf (.builtin id) = pure (.type "method_descriptor"))
    (h : jwp p A (eval o env) (fun ov c₁ => ∃ l items m, ov = .ref l ∧ c₁.Has l (LO items m) ∧ jwp p A (callWith pos (.builtin id) [ov] (backTo pos (starEach args env)) []) Q E c₁) E c)
    (hbase : autoParam (attributeBase o name env (eval o env) = eval o env) rt)
    (hfew : autoParam (((backTo pos (starEach args env)).all (fun x => !x.1) && (backToKw pos (keywordEach [] env)).all (fun x => x.1.isSome)
      && decide (args.length + ([] : List Keyword).length + (if ([] : List Keyword).isEmpty then 0 else 1) < 30)) = true) rt)
    (hline : autoParam ((apos.endLine == pos.line) = true) rt) : jwp p A (eval (.Call (.Attribute o name apos) args [] pos) env) Q E c := .of fun s H =>
  wpAny_Call_method hbase hfew hline F.plainAttrs_list slot hty (wpAny_mono (h.run s H) (fun ov s₁ z => by
    rcases z with ⟨c₁, H₁, l, items, m, rfl, hl, q⟩
    exact ⟨(has_list hl H₁).isList.typeIs, fun a e => by cases e; exact ⟨_, has_list hl H₁, rfl⟩, q.run s₁ H₁⟩) fun V V x => x)
theorem j_appendM {o elt : Expr} {apos pos : Pos} {Q : Value → JC → Prop}
    (h : jwp p A (eval o env) (fun ov c₁ => ∃ l items m, ov = .ref l ∧ c₁.Has l (LO items m) ∧ jwp p A (eval elt env) (fun v c₂ => jwp p A (call (.builtin "list.append") [.ref l, v]) Q E c₂) E c₁) E c)
    (hbase : autoParam (attributeBase o "append" env (eval o env) = eval o env) rt) (htrees : autoParam (starEach [elt] env = [(false, eval elt env)]) rt)
    (hline : autoParam ((apos.endLine == pos.line) = true) rt) : jwp p A (eval (.Call (.Attribute o "append" apos) [elt] [] pos) env) Q E c := by
  refine j_CallListM F.slot_list_append F.type_list_append (h.mono (fun ov c₁ z2 => z2.elim fun l y20 => y20.elim fun items y21 => y21.elim fun m y22 => y22.elim fun e y23 => y23.elim fun hl q => ⟨l, items, m, e, hl, ?_⟩) fun V V x => x) hbase (by rw [htrees]; rfl) hline
  subst e
  rw [htrees]
  refine j_callB (fun V e => by cases e) (j_args (j_splicedCons (q.mono (fun v c₂ q => j_splicedNil q) fun V V x => x)))
end
noncomputable def Turn (p : JP) (c : JC) (R : JC → Prop) : Prop := ∀ s, c.At p s → ∃ c', c'.At p s ∧ R c'
section
variable {α : Type} {p : JP} {A : Around} {c : JC} {E : JC → Prop} {R : JC → Prop}
theorem Turn.done (h : R c) : Turn p c R := fun s H => ⟨c, H, h⟩
theorem Turn.conv {c' : JC} (hc : Conv p c c') (h : Turn p c' R) : Turn p c R := fun s H => h s (hc s H)
theorem Turn.freeze {a : Addr} {o : Obj} {pre post : List (Addr × Obj)} (ho : c.own = pre ++ (a, o) :: post) (h : ∀ Z', c.Z.le Z' → Z' a = some o → Turn p { c with Z := Z', own := pre ++ post } R) : Turn p c R := fun s H =>
  h (c.Z.add a o) (H.add_le (by simp only [JC.addrs, ho, List.map_append, List.map_cons]; simp)) (by simp [Zm.add]) s (H.freeze ho)
theorem Turn.freeze0 {a : Addr} {o : Obj} {post : List (Addr × Obj)} {Z : Zm} {nss : List (Addr × Vars)} {g : Array GenState} (h : ∀ Z', Z.le Z' → Z' a = some o → Turn p (JC.mk Z' nss post g) R) : Turn p (JC.mk Z nss ((a, o) :: post) g) R :=
  Turn.freeze (pre := []) rfl h
theorem Turn.drop0 {q : Addr × Obj} {post : List (Addr × Obj)} {Z : Zm} {nss : List (Addr × Vars)} {g : Array GenState} (h : Turn p (JC.mk Z nss post g) R) : Turn p (JC.mk Z nss (q :: post) g) R :=
  Turn.conv (fun s H => H.drop (List.Sublist.refl _) (List.sublist_cons_self _ _)) h
theorem Turn.swap {q r : Addr × Obj} {post : List (Addr × Obj)} {Z : Zm} {nss : List (Addr × Vars)} {g : Array GenState} (h : Turn p (JC.mk Z nss (r :: q :: post) g) R) : Turn p (JC.mk Z nss (q :: r :: post) g) R :=
  Turn.conv (fun s H => H.sub (List.Perm.swap _ _ _) (List.Sublist.refl _)) h
theorem jwp_turn {t : Sem α} {Q : α → JC → Prop} (h : jwp p A t (fun v c₁ => Turn p c₁ (Q v)) E c) : jwp p A t Q E c :=
  .of fun s H => wpAny_mono (h.run s H) (fun v s' z2 => z2.elim fun c₁ y20 => y20.elim fun H₁ q => (q s' H₁).elim fun c e => ⟨c, e.1, e.2⟩) fun V V x => x
theorem jwp_turn0 {t : Sem α} {Q : α → JC → Prop} (h : Turn p c (fun c' => jwp p A t Q E c')) : jwp p A t Q E c := .of fun s H => let ⟨_, H', q⟩ := h s H; q.run s H'
end
noncomputable def KnowL (l : Vars) : Vars → Prop
  | [] => True
  | q :: r => l.lookup q.1 = some q.2 ∧ KnowL l r
theorem KnowL.le {l : Vars} : ∀ {l' : Vars}, KnowL l l' → ∀ x v, l'.lookup x = some v → l.lookup x = some v
  | [], _, x, v, e => by cases e
  | (y, u) :: r, h, x, v, e => by
    rcases lookup_cons_cases e with ⟨rfl, rfl⟩ | ⟨_, e⟩
    · exact h.1
    · exact KnowL.le h.2 x v e
section
variable {p : JP} {Z : Zm} {L : Addr} {l l' : Vars} {nss : List (Addr × Vars)} {own own' own'' : List (Addr × Obj)} {g : Array GenState}
theorem Conv.know (hk : KnowL l l') : Conv p ⟨Z, (L, l) :: nss, own, g⟩ ⟨Z, (L, l') :: nss, own, g⟩ := fun s H => H.know rfl hk.le
theorem Conv.ow (hp : own'.Perm own'') (hs : own''.Sublist own) : Conv p ⟨Z, nss, own, g⟩ ⟨Z, nss, own', g⟩ := fun s H => H.sub hp hs
theorem Conv.both (hk : KnowL l l') (hp : own'.Perm own'') (hs : own''.Sublist own) : Conv p ⟨Z, (L, l) :: nss, own, g⟩ ⟨Z, (L, l') :: nss, own', g⟩ := (Conv.know hk).trans (Conv.ow hp hs)
end
set_option genInjectivity true in
inductive T where
  | leaf (s : Str)
  | node (s : Str) (ps : List T)
noncomputable def T.name : T → Str
  | .leaf s => s
  | .node s _ => s
mutual
noncomputable def Told (Z : Zm) : T → Value → Prop
  | .leaf s, v => ∃ a tk n, v = .ref a ∧ Z a = some (TO #[.str s tk, .none] n)
  | .node s ps, v => ∃ a tk n l xs m, v = .ref a ∧ Z a = some (TO #[.str s tk, .ref l] n) ∧ Z l = some (LO xs m) ∧ ToldAll Z ps xs.toList
noncomputable def ToldAll (Z : Zm) : List T → List Value → Prop
  | [], vs => vs = []
  | t :: ts, vs => ∃ v r, vs = v :: r ∧ Told Z t v ∧ ToldAll Z ts r
end
theorem Told_e1 : ∀ (Z : Zm) (x : Value) (s : Str), Told Z (T.leaf s) x = ∃ (a : Addr), ∃ (tk : Tok), ∃ (n : Nat), x = Value.ref a ∧ Z a = some (TO #[Value.str s tk, Value.none] n) := by intros; rfl
theorem Told_e2 : ∀ (Z : Zm) (x : Value) (s : Str) (ps : List T), Told Z (T.node s ps) x = ∃ (a : Addr), ∃ (tk : Tok), ∃ (n : Nat), ∃ (l : Addr), ∃ (xs : Array Value), ∃ (m : Nat), x = Value.ref a ∧ Z a = some (TO #[Value.str s tk, Value.ref l] n) ∧ Z l = some (LO xs m) ∧ ToldAll Z ps (Array.toList xs) := by intros; rfl
theorem ToldAll_e1 : ∀ (Z : Zm) (x : List Value), ToldAll Z [] x = (x = []) := by intros; rfl
theorem ToldAll_e2 : ∀ (Z : Zm) (x : List Value) (t : T) (ts : List T), ToldAll Z (t :: ts) x = ∃ (v : Value), ∃ (r : List Value), x = v :: r ∧ Told Z t v ∧ ToldAll Z ts r := by intros; rfl
mutual
theorem Told.mono {Z Z' : Zm} (h : Z.le Z') : ∀ {t : T} {v : Value}, Told Z t v → Told Z' t v
  | .leaf s, v, H => by
    simp only [Told_e1, Told_e2] at H ⊢
    obtain ⟨a, tk, n, e, x⟩ := H
    exact ⟨a, tk, n, e, h _ _ x⟩
  | .node s ps, v, H => by
    simp only [Told_e1, Told_e2] at H ⊢
    obtain ⟨a, tk, n, l, xs, m, e, x, y, z⟩ := H
    exact ⟨a, tk, n, l, xs, m, e, h _ _ x, h _ _ y, ToldAll.mono h z⟩
theorem ToldAll.mono {Z Z' : Zm} (h : Z.le Z') : ∀ {ts : List T} {vs : List Value}, ToldAll Z ts vs → ToldAll Z' ts vs
  | [], vs, H => by simp only [ToldAll_e1, ToldAll_e2] at H ⊢; exact H
  | t :: ts, vs, H => by
    simp only [ToldAll_e1, ToldAll_e2] at H ⊢
    obtain ⟨v, r, e, x, y⟩ := H
    exact ⟨v, r, e, Told.mono h x, ToldAll.mono h y⟩
end
theorem ToldAll.length {Z : Zm} : ∀ {ts : List T} {vs : List Value}, ToldAll Z ts vs → vs.length = ts.length
  | [], vs, H => by simp only [ToldAll_e1, ToldAll_e2] at H; subst H; rfl
  | t :: ts, vs, H => by
    simp only [ToldAll_e1, ToldAll_e2] at H
    rcases H with ⟨v, r, rfl, _, y⟩
    simp [y.length]
theorem ToldAll.get {Z : Zm} : ∀ {ts : List T} {vs : List Value} {i : Nat} {v : Value}, ToldAll Z ts vs → vs[i]? = some v → ∃ t, ts[i]? = some t ∧ Told Z t v
  | [], vs, i, v, H, e => by simp only [ToldAll_e1, ToldAll_e2] at H; subst H; simp at e
  | t :: ts, vs, i, v, H, e => by
    simp only [ToldAll_e1, ToldAll_e2] at H
    obtain ⟨v', r, rfl, x, y⟩ := H
    cases i with
    | zero => simp at e; subst e; exact ⟨t, rfl, x⟩
    | succ i => simp at e; obtain ⟨t', e', z⟩ := y.get e; exact ⟨t', by simpa using e', z⟩
theorem ToldAll.getT {Z : Zm} {ts : List T} {vs : List Value} {i : Nat} {t : T} (H : ToldAll Z ts vs) (e : ts[i]? = some t) : ∃ v, vs[i]? = some v ∧ Told Z t v := by
  have hl := H.length
  have hi : i < vs.length := by rw [hl]; exact (List.getElem?_eq_some_iff.mp e).1
  obtain ⟨t', e', x⟩ := H.get (List.getElem?_eq_getElem hi)
  rw [e] at e'; cases e'
  exact ⟨_, List.getElem?_eq_getElem hi, x⟩
theorem ToldAll.append {Z : Zm} : ∀ {ts us : List T} {vs ws : List Value}, ToldAll Z ts vs → ToldAll Z us ws → ToldAll Z (ts ++ us) (vs ++ ws)
  | [], us, vs, ws, H, K => by simp only [ToldAll_e1, ToldAll_e2] at H; subst H; exact K
  | t :: ts, us, vs, ws, H, K => by
    simp only [ToldAll_e1, ToldAll_e2] at H
    rcases H with ⟨v, r, rfl, x, y⟩
    simp only [List.cons_append, ToldAll_e1, ToldAll_e2]
    exact ⟨v, r ++ ws, rfl, x, y.append K⟩
theorem ToldAll.one {Z : Zm} {t : T} {v : Value} (x : Told Z t v) : ToldAll Z [t] [v] := by simp only [ToldAll_e1, ToldAll_e2]; exact ⟨v, [], rfl, x, rfl⟩
theorem ToldAll.nil {Z : Zm} : ToldAll Z [] [] := by simp only [ToldAll_e1, ToldAll_e2]
theorem ToldAll.push {Z : Zm} {ts : List T} {xs : Array Value} {t : T} {v : Value} (H : ToldAll Z ts xs.toList) (x : Told Z t v) : ToldAll Z (ts ++ [t]) (xs.push v).toList := by
  rw [Array.toList_push]; exact H.append (.one x)
theorem ToldAll.take {Z : Zm} : ∀ {ts : List T} {vs : List Value} (n : Nat), ToldAll Z ts vs → ToldAll Z (ts.take n) (vs.take n)
  | _, _, 0, _ => by simp only [List.take_zero]; exact .nil
  | [], vs, n + 1, H => by simp only [ToldAll_e1, ToldAll_e2] at H; subst H; exact .nil
  | t :: ts, vs, n + 1, H => by
    simp only [ToldAll_e1, ToldAll_e2] at H
    rcases H with ⟨v, r, rfl, x, y⟩
    simp only [List.take_succ_cons, ToldAll_e1, ToldAll_e2]
    exact ⟨v, _, rfl, x, y.take n⟩
theorem ToldAll.drop {Z : Zm} : ∀ {ts : List T} {vs : List Value} (n : Nat), ToldAll Z ts vs → ToldAll Z (ts.drop n) (vs.drop n)
  | _, _, 0, H => H
  | [], vs, n + 1, H => by simp only [ToldAll_e1, ToldAll_e2] at H; subst H; exact .nil
  | t :: ts, vs, n + 1, H => by
    simp only [ToldAll_e1, ToldAll_e2] at H
    rcases H with ⟨v, r, rfl, x, y⟩
    simp only [List.drop_succ_cons]
    exact y.drop n
noncomputable def openedOne (name : Str) (t : T) : List T := if name ≠ Str.ofString "f" ∧ t.name = name then (match t with | .node _ qs => qs | .leaf _ => [t]) else [t]
noncomputable def openedParts (name : Str) (ps : List T) : List T := ps.flatMap (openedOne name)
noncomputable def opened (name : Str) (ps : List T) : T := .node name (openedParts name ps)
section
variable {p : JP} {A : Around} {c : JC} {E : JC → Prop} {env : Env}
theorem j_assignName {x : Str} {pos : Pos} {v : Value} {Q : Unit → JC → Prop} (h : jwp p A (storeName env x v) Q E c) : jwp p A (assign (.Name x pos) env v) Q E c := by
  rw [arm_assign_Name]; exact j_standThen (j_bindName h)
theorem has_weak {Z : Zm} {nss nss' : List (Addr × Vars)} {own own' : List (Addr × Obj)} {g g' : Array GenState} {a : Addr} {o : Obj} (h : (JC.mk Z nss own g).Has a o) (hs : ∀ q ∈ own, q ∈ own') : (JC.mk Z nss' own' g').Has a o :=
  h.imp id (hs _)
theorem has_own {Z : Zm} {nss : List (Addr × Vars)} {own : List (Addr × Obj)} {g : Array GenState} {a : Addr} {o : Obj} (h : (a, o) ∈ own) : (JC.mk Z nss own g).Has a o := .inr h
theorem has_z {Z : Zm} {nss : List (Addr × Vars)} {own : List (Addr × Obj)} {g : Array GenState} {a : Addr} {o : Obj} (h : Z a = some o) : (JC.mk Z nss own g).Has a o := .inl h
end
theorem list_take_succ {α : Type} {l : List α} {i : Nat} {x : α} (e : l[i]? = some x) : l.take (i + 1) = l.take i ++ [x] := by
  rw [List.take_add_one, e]; rfl
theorem told_tuple {Z : Zm} {t : T} {v : Value} (h : Told Z t v) : ∃ a tk n r, v = .ref a ∧ Z a = some (TO #[.str t.name tk, r] n) ∧ match t with
    | .leaf _ => r = .none
    | .node _ ps => ∃ l xs m, r = .ref l ∧ Z l = some (LO xs m) ∧ ToldAll Z ps xs.toList := by
  cases t with
  | leaf s => simp only [Told_e1, Told_e2] at h; obtain ⟨a, tk, n, e, x⟩ := h; exact ⟨a, tk, n, _, e, x, rfl⟩
  | node s ps => simp only [Told_e1, Told_e2] at h; obtain ⟨a, tk, n, l, xs, m, e, x, y, z⟩ := h; exact ⟨a, tk, n, _, e, x, l, xs, m, rfl, y, z⟩
set_option maxHeartbeats 2000000 in
theorem law_opened {p : JP} {A : Around} {c : JC} {E : JC → Prop} {Q : Value → JC → Prop} {name : Str} {tk : Tok} {l : Addr} {xs : Array Value} {m : Nat} {ps : List T}
    (hroom : A.depth < recursionLimit) (hh : A.handled = none) (hl : c.Has l (LO xs m)) (ht : ToldAll c.Z ps xs.toList) (hne : ∀ s, .leaf s ∈ ps → s ≠ name) (hsz : (openedParts name ps).length ≤ 100000)
    (h : ∀ Z' v, c.Z.le Z' → Told Z' (opened name ps) v → Q v { c with Z := Z' }) : jwp p A (call (.ref 801) [.str name tk, .ref l]) Q E c := by
  obtain ⟨Z, nss, own, g⟩ := c
  dsimp only at ht h
  refine jwp_turn (j_call (jcode_fn (F801 p.w.params) hroom (binds := [(Str.ofString "name", .str name tk), (Str.ofString "parts", .ref l)]) rfl fun L => ?_))
  have hlen := ht.length
  refine j_cons (j_Assign (j_List (j_splicedNil ⟨Nat.zero_le _, fun D => ?_⟩)))
  refine j_store0 ?_
  refine j_cons (j_For (E' := fun V => False) (iter_list l xs m) (fun i c₁ => ∀ X : Prop, (∀ D ys k, c₁ = ⟨Z, (L, [(Str.ofString "made", .ref D), (Str.ofString "parts", .ref l), (Str.ofString "name", .str name tk)]) :: nss, (D, LO ys k) :: own, g⟩ → ToldAll Z (openedParts name (ps.take i)) ys.toList → X) → X)
    (by exact hh) NotRaised.never go_name ?_ ?_ ?_ ?_)
  · refine j_local (l := _) List.mem_cons_self rfl (j_iterList (has_weak hl fun q hq => List.mem_cons_of_mem _ hq) fun it o ho => ⟨it, o, _, rfl, ho, Conv.refl _, fun V kK => kK D #[] 0 rfl ?_⟩)
    simp only [List.take_zero, openedParts, List.flatMap_nil]; exact .nil
  · intro i c₁ it o hX
    refine hX _ fun D ys k eS V => ?_
    clear hX
    subst eS
    exact has_weak hl fun q hq => List.mem_cons_of_mem _ (List.mem_cons_of_mem _ hq)
  · intro i v c₁ it o hi hv ho hX
    refine hX _ fun D ys k eS hy => ?_
    clear hX
    subst eS
    have hv' : xs.toList[i]? = some v := by rw [Array.getElem?_toList]; exact hv
    obtain ⟨t, hti, htv⟩ := ht.get hv'
    have hlt : (openedParts name (ps.take i)).length + (openedOne name t).length ≤ 100000 := by
      have e : openedParts name (ps.take (i + 1)) = openedParts name (ps.take i) ++ openedOne name t := by rw [list_take_succ hti]; simp [openedParts]
      have : (openedParts name (ps.take (i + 1))).length ≤ (openedParts name ps).length := by
        have e2 : openedParts name ps = openedParts name (ps.take (i + 1)) ++ openedParts name (ps.drop (i + 1)) := by unfold openedParts; rw [← List.flatMap_append, List.take_append_drop]
        rw [e2, List.length_append]; omega
      rw [e, List.length_append] at this; omega
    have hyl := hy.length
    rw [Array.length_toList] at hyl
    obtain ⟨a, tk', n, r, rfl, hZa, hr⟩ := told_tuple htv
    refine j_assignName (j_store0 ?_)
    refine j_cons (j_If (j_isTrueBoolOp (j_allTrueAnd (j_isTrueCompare1 ?_))))
    refine j_local (l := _) List.mem_cons_self rfl (j_cStr fun t1 => j_neStr (j_truthyBool ?_))
    have hones : openedParts name (ps.take (i + 1)) = openedParts name (ps.take i) ++ openedOne name t := by rw [list_take_succ hti]; simp [openedParts]
    by_cases hf : name = Str.ofString "f"
    · have e : (name != Str.ofString "f") = false := by simp [hf]
      rw [e]
      have h1 : openedOne name t = [t] := by simp [openedOne, hf]
      refine ifF ?_
      refine j_cons (j_ExprNone (j_appendM (j_local (l := _) List.mem_cons_self rfl ⟨D, ys, k, rfl, has_own (by trivial), ?_⟩)))
      refine j_local (l := _) List.mem_cons_self rfl (j_append (pre := [(it, o)]) rfl (by show ys.size ≤ sizeLine; unfold sizeLine; omega) fun k' => ⟨rfl, j_nil (j_nil ?_)⟩)
      refine ⟨⟨Z, (L, [(Str.ofString "made", .ref D), (Str.ofString "parts", .ref l), (Str.ofString "name", .str name tk)]) :: nss, (D, LO (ys.push (.ref a)) k') :: own, g⟩, Conv.know ⟨rfl, rfl, rfl, trivial⟩, fun V kK => kK D _ k' rfl ?_⟩
      rw [hones, h1]; exact hy.push htv
    · have e : (name != Str.ofString "f") = true := by simp [hf]
      rw [e]
      refine j_allTrueAnd (j_isTrueCompare1 ?_)
      refine j_atT (i := 0) List.mem_cons_self rfl (has_z hZa) rfl rfl ?_
      refine j_local (l := _) List.mem_cons_self rfl (j_eqStr (j_truthyBool ?_))
      by_cases hn : t.name = name
      · have e : (t.name == name) = true := by simp [hn]
        rw [e]
        refine j_allTrueNil ?_
        refine ifT ?_
        cases t with
        | leaf s => exact absurd hn (hne s (List.mem_of_getElem? hti))
        | node s qs =>
          obtain ⟨l2, xs2, m2, rfl, hZl, hq⟩ := hr
          have h1 : openedOne name (.node s qs) = qs := by
            have : s = name := hn
            simp [openedOne, T.name, hf, this]
          rw [h1] at hlt
          have hql := hq.length
          rw [Array.length_toList] at hql
          refine j_cons (j_Assign (j_BinOp (j_local (l := _) List.mem_cons_self rfl ?_)))
          refine j_atT (i := 1) List.mem_cons_self rfl (has_z hZa) rfl rfl ?_
          refine j_addList (items := ys) (n := k) (has_own (by trivial)) (has_z hZl) (by unfold sizeLine; omega) fun D' => ?_
          refine j_store0 (j_nil (j_nil ?_))
          refine ⟨⟨Z, (L, [(Str.ofString "made", .ref D'), (Str.ofString "parts", .ref l), (Str.ofString "name", .str name tk)]) :: nss, (D', LO (ys ++ xs2) 0) :: own, g⟩, ?_, fun V kK => kK D' _ 0 rfl ?_⟩
          · exact Conv.both ⟨rfl, rfl, rfl, trivial⟩ (List.Perm.swap _ _ _) (((List.sublist_cons_self _ _).cons_cons _).cons_cons _)
          · rw [hones, h1, Array.toList_append]; exact hy.append hq
      · have e : (t.name == name) = false := by simp [hn]
        rw [e]
        have h1 : openedOne name t = [t] := by simp [openedOne, hn]
        refine ifF ?_
        refine j_cons (j_ExprNone (j_appendM (j_local (l := _) List.mem_cons_self rfl ⟨D, ys, k, rfl, has_own (by trivial), ?_⟩)))
        refine j_local (l := _) List.mem_cons_self rfl (j_append (pre := [(it, o)]) rfl (by show ys.size ≤ sizeLine; unfold sizeLine; omega) fun k' => ⟨rfl, j_nil (j_nil ?_)⟩)
        refine ⟨⟨Z, (L, [(Str.ofString "made", .ref D), (Str.ofString "parts", .ref l), (Str.ofString "name", .str name tk)]) :: nss, (D, LO (ys.push (.ref a)) k') :: own, g⟩, Conv.know ⟨rfl, rfl, rfl, trivial⟩, fun V kK => kK D _ k' rfl ?_⟩
        rw [hones, h1]; exact hy.push htv
  · intro c₁ hX
    refine hX _ fun D ys k eS hy => ?_
    clear hX
    subst eS
    refine j_nil (j_cons (j_Return (j_Tuple ?_)))
    refine j_splicedCons (j_local (l := _) List.mem_cons_self rfl (j_splicedCons (j_local (l := _) List.mem_cons_self rfl (j_splicedNil ⟨by show 2 ≤ sizeLine; unfold sizeLine; omega, fun a => ?_⟩))))
    refine bodyQ_ret rfl ?_
    refine Turn.freeze0 fun Z₁ le₁ h₁ => Turn.freeze0 fun Z₂ le₂ h₂ => Turn.done ?_
    refine h Z₂ _ (le₁.trans le₂) ?_
    simp only [opened, Told_e1, Told_e2]
    refine ⟨a, tk, 0, D, ys, k, rfl, le₂ _ _ h₁, h₂, ?_⟩
    have hfull : ps.take xs.size = ps := by
      rw [Array.length_toList] at hlen
      rw [hlen]; exact List.take_length
    rw [hfull] at hy
    exact hy.mono (le₁.trans le₂)
noncomputable def CellsOwn (cm : Str → Option Value) : List (Str × Addr) → List (Addr × Obj) → Prop
  | [], cells => cells = []
  | (n, a) :: r, cells => ∃ o r', cells = (a, o) :: r' ∧ o.data = .cell (cm n) ∧ CellsOwn cm r r'
theorem cellsOwn_of {h : Heap} {cm : Str → Option Value} {lo : Nat} : ∀ {cs : List (Str × Addr)}, (∀ q ∈ cs, h.IsCell q.2 (cm q.1) ∧ lo < q.2) → (cs.Pairwise fun x y => x.2 ≠ y.2) →
    ∃ cells, CellsOwn cm cs cells ∧ cells.map (·.1) = cs.map (·.2) ∧ (∀ q ∈ cells, h.get? q.1 = some q.2 ∧ lo < q.1) ∧ (cells.map (·.1)).Nodup
  | [], _, _ => ⟨[], rfl, rfl, (fun q h => by simp at h), List.nodup_nil⟩
  | (n, a) :: r, H, hp => by
    obtain ⟨h1, h2⟩ := List.pairwise_cons.mp hp
    obtain ⟨cells, k1, k2, k3, k4⟩ := cellsOwn_of (cs := r) (fun q hq => H q (List.mem_cons_of_mem _ hq)) h2
    obtain ⟨⟨o, ho, hd⟩, hlo⟩ := H (n, a) List.mem_cons_self
    refine ⟨(a, o) :: cells, ⟨o, cells, rfl, hd, k1⟩, by simp [k2], fun q hq => ?_, ?_⟩
    · rcases List.mem_cons.mp hq with rfl | hq
      · exact ⟨ho, hlo⟩
      · exact k3 q hq
    · rw [List.map_cons, List.nodup_cons]
      refine ⟨fun hm => ?_, k4⟩
      rw [k2] at hm
      obtain ⟨q, hq, e⟩ := List.mem_map.mp hm
      exact h1 q hq e.symm
theorem JC.At.frameC {p : JP} {c : JC} {s : Shared} (H : c.At p s) {h : Heap} {l : Vars} {m : Str → Option Value} {cells : List (Addr × Obj)} (hn : h.Ns s.heap.objs.size m) (hk : ∀ b o, s.heap.get? b = some o → h.get? b = some o)
    (hm : ∀ x v, l.lookup x = some v → m x = some v) (hc : ∀ q ∈ cells, h.get? q.1 = some q.2 ∧ s.heap.objs.size < q.1) (nd : (cells.map (·.1)).Nodup) (t : Nat) :
    ({ c with nss := (s.heap.objs.size, l) :: c.nss, own := cells ++ c.own } : JC).At p { s with heap := h, toks := t } := by
  have H1 := H.frame hn hk hm t
  have fresh : ∀ a ∈ cells.map (·.1), a ∉ ({ c with nss := (s.heap.objs.size, l) :: c.nss } : JC).addrs ∧ c.Z a = none := fun a ha => by
    obtain ⟨q, hq, rfl⟩ := List.mem_map.mp ha
    have hlt := (hc q hq).2
    refine ⟨fun hm => ?_, H.z_fresh (Nat.le_of_lt hlt)⟩
    rcases List.mem_cons.mp hm with e | hm
    · rw [e] at hlt; exact Nat.lt_irrefl _ hlt
    · exact H.fresh (Nat.le_of_lt hlt) hm
  refine ⟨H1.d, H1.os, H1.gens, H1.k, H1.z, H1.ns, fun q hq => ?_, ?_, fun a ha => ?_⟩
  · rcases List.mem_append.mp hq with hq | hq
    · exact (hc q hq).1
    · exact H1.own q hq
  · have e : ({ c with nss := (s.heap.objs.size, l) :: c.nss, own := cells ++ c.own } : JC).addrs.Perm (cells.map (·.1) ++ ({ c with nss := (s.heap.objs.size, l) :: c.nss } : JC).addrs) := by
      simp only [JC.addrs, List.map_append]
      rw [← List.append_assoc, ← List.append_assoc]
      exact List.perm_append_comm.append_right _
    rw [e.nodup_iff, List.nodup_append]
    exact ⟨nd, H1.sep, fun a ha b hb e => (fresh a ha).1 (e ▸ hb)⟩
  · simp only [JC.addrs, List.map_append] at ha
    rcases List.mem_append.mp ha with ha | ha
    · exact H1.off a (List.mem_append_left _ ha)
    · rcases List.mem_append.mp ha with ha | ha
      · exact (fresh a ha).2
      · exact H1.off a (List.mem_append_right _ ha)
section
variable {p : JP} {A : Around} {c : JC} {E : JC → Prop} {env : Env}
theorem jcode_fnC {a cq : Addr} {fd : FuncData} {body : List Stmt} {vals : List Value} {binds : List (Str × Value)} {Q : Value → JC → Prop} (l : Vars) (F : FnAt p.w.params a cq fd body) (hroom : A.depth < recursionLimit)
    (hbind : bindArgs fd ⟨vals, []⟩ = pure binds)
    (hl : ∀ L, ∀ x v, l.lookup x = some v → bindL (callEnvC fd L a).kindOf binds (fun V => none) x = some v)
    (h : ∀ L cells, CellsOwn (bindC (callEnvC fd L a).kindOf binds fun V => none) (callEnvC fd L a).cells cells →
      jwp p (A.deeper (callEnvC fd L a)) (execs body (callEnvC fd L a)) (fun fl c' => BodyQ L c.nss Q fl c') (fun V => False) { c with nss := (L, l) :: c.nss, own := cells ++ c.own })
    (hkind' : ∀ n, ((binds.map (·.1)).all fun x => match fd.scope.names.lookup x with | some .local => true | some .cell => ((cellsFrom n fd.scope.names []).lookup x).isSome | _ => false) = true)
    (hnd : ((cellsFrom 0 fd.scope.names []).map (·.1)).Nodup := by decide) (hclo : autoParam (fd.closure = []) rt)
    (hco : autoParam (fd.scope.isCoroutine = false) rt) (hgen : autoParam (fd.scope.isGenerator = false) rt) (hk : autoParam (fd.scope.kind = .function) rt) : jcode p A (.call (.ref a) ⟨vals, []⟩) (RetQ Q) E c := .of fun s H => by
  obtain ⟨o, ho, hd⟩ := F.o
  obtain ⟨ca, co, vs, t, e1, e2, e3, e4⟩ := F.code
  have HK := H.inK
  have hkind : ∀ x ∈ binds, fd.scope.names.lookup x.1 = some .local ∨ (fd.scope.names.lookup x.1 = some .cell ∧ ((cellsFrom (s.heap.objs.size + 1) fd.scope.names []).lookup x.1).isSome = true) := fun x hx => by
    have := List.all_eq_true.mp (hkind' (s.heap.objs.size + 1)) x.1 (List.mem_map_of_mem hx)
    revert this
    cases fd.scope.names.lookup x.1 with
    | none => intro h; cases h
    | some k => cases k <;> intro h <;> first | exact .inl rfl | exact .inr ⟨rfl, h⟩ | cases h
  refine codeAny_call_cells hroom (HK _ _ ho) hd H.noLimit ⟨ca, co, vs, t, e1, HK _ _ e2, e3, e4⟩ F.body hbind hclo hkind (fun s₁ x => ?_) hco hgen hk
  obtain ⟨h₁, tk, rfl, hkeep⟩ := x.done
  obtain ⟨cells, k1, k2, k3, k4⟩ := cellsOwn_of (lo := s.heap.objs.size) (fun q hq => ⟨x.cell q.1 q.2 (lookup_of_mem_nodup (cellsFrom_names fd.scope.names 0 (s.heap.objs.size + 1) [] [] rfl ▸ hnd) hq), x.above q.1 q.2 hq⟩) x.apart
  have H' := H.frameC (l := l) x.toInCall.ns hkeep (hl _) k3 k4 tk
  refine wpAny_mono ((h s.heap.objs.size cells k1).run _ H') (fun fl s' z2 => z2.elim fun c' y20 => y20.elim fun H' q => ?_) fun e s' z2 => z2.elim fun c' y20 => y20.elim fun f y21 => y21.elim fun hf y22 => y22.elim fun he y23 => y23.elim fun H' q => q.elim
  have := q.go H'
  rcases this with ⟨c, h1, h2⟩
  cases fl <;> exact ⟨c, h1, h2⟩
end
noncomputable def abd (r : Int) : Str := if r = 0 then Str.ofString "a" else if r = 1 then Str.ofString "b" else Str.ofString "d"
noncomputable def fgsf (r : Int) : Str := if r = 4 then Str.ofString "g" else if r = 5 then Str.ofString "s" else Str.ofString "f"
noncomputable def growMany (f : Nat → T × Nat) : Nat → Nat → List T × Nat
  | 0, n => ([], n)
  | k + 1, n => let r := growMany f k n; let q := f r.2; (r.1 ++ [q.1], q.2)
theorem growMany_e1 : ∀ (f : Nat → T × Nat) (x : Nat), growMany f 0 x = ([], x) := by intros; rfl
theorem growMany_e2 : ∀ (f : Nat → T × Nat) (x k : Nat), growMany f ((k + 1)) x = (Prod.fst (growMany f k x) ++ [Prod.fst (f (Prod.snd (growMany f k x)))], Prod.snd (f (Prod.snd (growMany f k x)))) := by intros; rfl
noncomputable def grown (is : List Int) : Nat → Nat → T × Nat
  | 0, n => (.leaf (abd ((drawAt is n 7).fmod 3)), n + 1)
  | d + 1, n => if drawAt is n 7 < 3 then (.leaf (abd ((drawAt is n 7).fmod 3)), n + 1) else
      let r := growMany (grown is d) (drawAt is (n + 1) 4).toNat (n + 2); (opened (fgsf (drawAt is n 7)) r.1, r.2)
theorem grown_e1 : ∀ (is : List Int) (x : Nat), grown is 0 x = (T.leaf (abd (Int.fmod (drawAt is x 7) 3)), x + 1) := by intros; rfl
theorem grown_e2 : ∀ (is : List Int) (x k : Nat), grown is (k + 1) x = if drawAt is x 7 < 3 then (T.leaf (abd (Int.fmod (drawAt is x 7) 3)), x + 1) else (opened (fgsf (drawAt is x 7)) (growMany (grown is k) (Int.toNat (drawAt is (x + 1) 4)) (x + 2)).1, (growMany (grown is k) (Int.toNat (drawAt is (x + 1) 4)) (x + 2)).2) := by intros; rfl
theorem drawAt_range {is : List Int} {n : Nat} {k : Int} (hk : 0 < k) : 0 ≤ drawAt is n k ∧ drawAt is n k < k := by
  unfold drawAt
  split
  · exact ⟨Int.fmod_nonneg_of_pos _ hk, Int.fmod_lt_of_pos _ hk⟩
  · exact ⟨Int.le_refl _, hk⟩
mutual
noncomputable def T.size : T → Nat
  | .leaf _ => 1
  | .node _ ps => 1 + sizes ps
noncomputable def sizes : List T → Nat
  | [] => 0
  | t :: ts => t.size + sizes ts
end
theorem T_size_e1 : ∀ (s : Str), T.size (T.leaf s) = 1 := by intros; rfl
theorem T_size_e2 : ∀ (s : Str) (ps : List T), T.size (T.node s ps) = 1 + sizes ps := by intros; rfl
theorem sizes_e1 : sizes [] = 0 := rfl
theorem sizes_e2 : ∀ (t : T) (ts : List T), sizes (t :: ts) = T.size t + sizes ts := by intros; rfl
noncomputable def isKind (s : Str) : Prop := s = Str.ofString "f" ∨ s = Str.ofString "g" ∨ s = Str.ofString "s"
noncomputable def isLeaf (s : Str) : Prop := s = Str.ofString "a" ∨ s = Str.ofString "b" ∨ s = Str.ofString "d" ∨ s = Str.ofString "e"
theorem isLeaf.ne {s t : Str} (h : isLeaf s) (k : isKind t) : s ≠ t := by
  rcases h with rfl | rfl | rfl | rfl <;> rcases k with rfl | rfl | rfl <;> decide
mutual
noncomputable def T.Ok : T → Prop
  | .leaf s => isLeaf s
  | .node s ps => isKind s ∧ Oks ps
noncomputable def Oks : List T → Prop
  | [] => True
  | t :: ts => t.Ok ∧ Oks ts
end
theorem T_Ok_e1 : ∀ (s : Str), T.Ok (T.leaf s) = isLeaf s := by intros; rfl
theorem T_Ok_e2 : ∀ (s : Str) (ps : List T), T.Ok (T.node s ps) = (isKind s ∧ Oks ps) := by intros; rfl
theorem Oks_e1 : Oks [] = True := rfl
theorem Oks_e2 : ∀ (t : T) (ts : List T), Oks (t :: ts) = (T.Ok t ∧ Oks ts) := by intros; rfl
theorem sizes_append : ∀ (a b : List T), sizes (a ++ b) = sizes a + sizes b
  | [], b => by simp [sizes_e1, sizes_e2]
  | t :: a, b => by simp [sizes_e1, sizes_e2, sizes_append a b]; omega
theorem Oks_append : ∀ {a b : List T}, Oks (a ++ b) ↔ Oks a ∧ Oks b
  | [], b => by simp [Oks_e1, Oks_e2]
  | t :: a, b => by simp [Oks_e1, Oks_e2, Oks_append (a := a), and_assoc]
theorem T.size_pos : ∀ (t : T), 0 < t.size
  | .leaf _ => by simp [T_size_e1, T_size_e2]
  | .node _ _ => by simp only [T_size_e1, T_size_e2]; omega
theorem length_le_sizes : ∀ (l : List T), l.length ≤ sizes l
  | [] => Nat.zero_le _
  | t :: l => by
    have h1 := t.size_pos
    have h2 := length_le_sizes l
    simp only [sizes_e1, sizes_e2, List.length_cons]; omega
theorem sizes_openedOne (name : Str) (t : T) : sizes (openedOne name t) ≤ t.size := by
  unfold openedOne
  split
  · cases t with
    | leaf s => simp [sizes_e1, sizes_e2, T_size_e1, T_size_e2]
    | node s ps => simp [T_size_e1, T_size_e2]
  · simp [sizes_e1, sizes_e2]
theorem sizes_openedParts (name : Str) : ∀ (ps : List T), sizes (openedParts name ps) ≤ sizes ps
  | [] => Nat.le_refl _
  | t :: ps => by
    have h1 := sizes_openedOne name t
    have h2 := sizes_openedParts name ps
    have e : openedParts name (t :: ps) = openedOne name t ++ openedParts name ps := by simp [openedParts]
    rw [e, sizes_append]
    simp only [sizes_e1, sizes_e2]; omega
theorem Oks_openedOne {name : Str} {t : T} (h : t.Ok) : Oks (openedOne name t) := by
  unfold openedOne
  split
  · cases t with
    | leaf s => simpa [Oks_e1, Oks_e2] using h
    | node s ps => simp only [T_Ok_e1, T_Ok_e2] at h; exact h.2
  · simpa [Oks_e1, Oks_e2] using h
theorem Oks_openedParts {name : Str} : ∀ {ps : List T}, Oks ps → Oks (openedParts name ps)
  | [], _ => trivial
  | t :: ps, h => by
    simp only [Oks_e1, Oks_e2] at h
    have e : openedParts name (t :: ps) = openedOne name t ++ openedParts name ps := by simp [openedParts]
    rw [e, Oks_append]
    exact ⟨Oks_openedOne h.1, Oks_openedParts h.2⟩
theorem opened_size (name : Str) (ps : List T) : (opened name ps).size ≤ 1 + sizes ps := by
  have := sizes_openedParts name ps
  simp only [opened, T_size_e1, T_size_e2]; omega
theorem opened_ok {name : Str} {ps : List T} (hn : isKind name) (h : Oks ps) : (opened name ps).Ok := by
  simp only [opened, T_Ok_e1, T_Ok_e2]; exact ⟨hn, Oks_openedParts h⟩
theorem Oks.mem : ∀ {ps : List T}, Oks ps → ∀ {t : T}, t ∈ ps → t.Ok
  | _ :: _, h, t, m => by
    simp only [Oks_e1, Oks_e2] at h
    rcases List.mem_cons.mp m with rfl | m
    · exact h.1
    · exact Oks.mem h.2 m
theorem Oks.leaf_ne {ps : List T} (h : Oks ps) {name : Str} (hn : isKind name) : ∀ s, .leaf s ∈ ps → s ≠ name := fun s m e => by
  have := h.mem m
  simp only [T_Ok_e1, T_Ok_e2] at this
  exact this.ne hn e
theorem isKind_fgsf (r : Int) : isKind (fgsf r) := by
  unfold fgsf isKind
  split
  · exact .inr (.inl rfl)
  · split
    · exact .inr (.inr rfl)
    · exact .inl rfl
theorem abd_isLeaf (r : Int) : isLeaf (abd r) := by
  unfold abd isLeaf
  split
  · exact .inl rfl
  · split
    · exact .inr (.inl rfl)
    · exact .inr (.inr (.inl rfl))
theorem growMany_length (f : Nat → T × Nat) : ∀ k n, (growMany f k n).1.length = k
  | 0, n => rfl
  | k + 1, n => by simp [growMany_e1, growMany_e2, growMany_length f k n]
theorem growMany_le {f : Nat → T × Nat} (hf : ∀ n, n ≤ (f n).2) : ∀ k n, n ≤ (growMany f k n).2
  | 0, n => Nat.le_refl _
  | k + 1, n => Nat.le_trans (growMany_le hf k n) (hf _)
theorem growMany_mono {f : Nat → T × Nat} (hf : ∀ n, n ≤ (f n).2) {i k n : Nat} (h : i ≤ k) : (growMany f i n).2 ≤ (growMany f k n).2 := by
  induction h with
  | refl => exact Nat.le_refl _
  | step _ ih => exact Nat.le_trans ih (hf _)
theorem grown_le (is : List Int) : ∀ d n, n ≤ (grown is d n).2
  | 0, n => Nat.le_succ _
  | d + 1, n => by
    simp only [grown_e1, grown_e2]
    split
    · exact Nat.le_succ _
    · have := growMany_le (grown_le is d) (drawAt is (n + 1) 4).toNat (n + 2)
      simp only; omega
theorem growMany_ok {f : Nat → T × Nat} {B : Nat} (hf : ∀ n, (f n).1.Ok ∧ (f n).1.size ≤ B) : ∀ k n, Oks (growMany f k n).1 ∧ sizes (growMany f k n).1 ≤ k * B
  | 0, n => ⟨trivial, by simp [growMany_e1, growMany_e2, sizes_e1, sizes_e2]⟩
  | k + 1, n => by
    rcases growMany_ok hf k n with ⟨h1, h2⟩
    rcases hf (growMany f k n).2 with ⟨h3, h4⟩
    simp only [growMany_e1, growMany_e2, Oks_append, sizes_append]
    refine ⟨⟨h1, by simp [Oks_e1, Oks_e2, h3]⟩, ?_⟩
    rw [Nat.succ_mul]
    simp only [sizes_e1, sizes_e2]; omega
theorem grown_ok (is : List Int) : ∀ d n, (grown is d n).1.Ok ∧ (grown is d n).1.size ≤ 4 ^ d
  | 0, n => ⟨abd_isLeaf _, Nat.le_refl _⟩
  | d + 1, n => by
    have hp : 0 < 4 ^ d := Nat.pos_of_ne_zero (by simp)
    simp only [grown_e1, grown_e2]
    split
    · refine ⟨abd_isLeaf _, ?_⟩
      simp only [T_size_e1, T_size_e2]
      rw [Nat.pow_succ]; omega
    · obtain ⟨h1, h2⟩ := growMany_ok (grown_ok is d) (drawAt is (n + 1) 4).toNat (n + 2)
      refine ⟨opened_ok (isKind_fgsf _) h1, ?_⟩
      have h3 := opened_size (fgsf (drawAt is n 7)) (growMany (grown is d) (drawAt is (n + 1) 4).toNat (n + 2)).1
      have h4 := drawAt_range (is := is) (n := n + 1) (k := 4) (by decide)
      have h5 : (drawAt is (n + 1) 4).toNat * 4 ^ d ≤ 3 * 4 ^ d := Nat.mul_le_mul_right _ (by omega)
      rw [Nat.pow_succ]
      simp only; omega
section
variable {p : JP} {A : Around} {c : JC} {E : JC → Prop} {env : Env}
theorem j_strItem {x : Str} {t u : Tok} {i : Int} {ch : Nat} {Q : Value → JC → Prop} (hr : (decide (i < -(2 ^ 63 : Int)) || decide (i ≥ 2 ^ 63)) = false) (hc : (seqIndex? i x.length).bind (x.cps[·]?) = some ch) (h : ∀ t, Q (.str ⟨#[ch]⟩ t) c) :
    jwp p A (getItem (.str x t) (.int i u)) Q E c := .of fun s H => PySem.P.getItem_str hr hc ⟨c, H.toks _, h _⟩
theorem j_getitemInPythonStr {x : Str} {t : Tok} {Q : Bool → JC → Prop} (h : Q false c) : jwp p A (getitemInPython (.str x t)) Q E c := .of fun s H => by
  rw [getitemInPython_of_ne (by intro e; cases e)]
  exact wpAny_bind (wpAny_specialOf (typeIs_str s x t) F.slot_str_getitem.lookup (wpAny_pure ⟨c, H, h⟩))
end
theorem abd_item {pick : Int} (h : 0 ≤ pick.fmod 3 ∧ pick.fmod 3 < 3) : ∃ ch, (decide (pick.fmod 3 < -(2 ^ 63 : Int)) || decide (pick.fmod 3 ≥ 2 ^ 63)) = false ∧ (seqIndex? (pick.fmod 3) (Str.ofString "abd").length).bind ((Str.ofString "abd").cps[·]?) = some ch ∧ (⟨#[ch]⟩ : Str) = abd (pick.fmod 3) := by
  obtain ⟨z, hz⟩ : ∃ z, z = pick.fmod 3 := ⟨_, rfl⟩
  rw [← hz] at h ⊢
  have : z = 0 ∨ z = 1 ∨ z = 2 := by omega
  rcases this with rfl | rfl | rfl
  · exact ⟨97, by decide, by decide, by decide⟩
  · exact ⟨98, by decide, by decide, by decide⟩
  · exact ⟨100, by decide, by decide, by decide⟩
theorem fgsf_item {pick : Int} (h : 3 ≤ pick ∧ pick < 7) : ∃ ch, (decide (pick - 3 < -(2 ^ 63 : Int)) || decide (pick - 3 ≥ 2 ^ 63)) = false ∧ (seqIndex? (pick - 3) (Str.ofString "fgsf").length).bind ((Str.ofString "fgsf").cps[·]?) = some ch ∧ (⟨#[ch]⟩ : Str) = fgsf pick := by
  have : pick = 3 ∨ pick = 4 ∨ pick = 5 ∨ pick = 6 := by omega
  rcases this with rfl | rfl | rfl | rfl
  · exact ⟨102, by decide, by decide, by decide⟩
  · exact ⟨103, by decide, by decide, by decide⟩
  · exact ⟨115, by decide, by decide, by decide⟩
  · exact ⟨102, by decide, by decide, by decide⟩
noncomputable abbrev stO (sl : Addr) (n : Nat) (t : Tok) : Obj := LO #[.ref sl, .int n t] 0
noncomputable def GrownAt (p : JP) (st sl : Addr) (m : Nat) (xs : Array Value) (is : List Int) (d : Nat) : Prop := ∀ {A : Around} {c : JC} {E : JC → Prop} {Q : Value → JC → Prop} {pre post : List (Addr × Obj)} {n : Nat} {t u : Tok},
    d ≤ 5 → A.depth + d + 3 < recursionLimit → A.handled = none → c.own = pre ++ (st, stO sl n t) :: post → c.Z sl = some (LO xs m) → (grown is d n).2 ≤ 100000 →
    (∀ Z' v t', c.Z.le Z' → Told Z' (grown is d n).1 v → Q v { c with Z := Z', own := pre ++ (st, stO sl (grown is d n).2 t') :: post }) → jwp p A (call (.ref 813) [.ref st, .int d u]) Q E c
set_option maxHeartbeats 2000000 in
theorem law_grown_step {p : JP} {st sl : Addr} {m : Nat} {xs : Array Value} {is : List Int} (hx : IntsAt xs is) (hlen : is.length ≤ 1000) (d : Nat) (ih : ∀ d', d = d' + 1 → GrownAt p st sl m xs is d') : GrownAt p st sl m xs is d := by
  intro A c E Q pre post n t u hd hroom hh ho hs hn h
  obtain ⟨Z, nss, own, g⟩ := c
  dsimp only at ho hs h
  subst ho
  refine jwp_turn (j_call (jcode_fnC (l := []) (F813 p.w.params) (by omega) (binds := [(Str.ofString "state", .ref st), (Str.ofString "deep", .int d u)]) rfl (fun L x v e => nomatch e) (fun L cells hc => ?_) (fun n => rfl)))
  change CellsOwn _ [(_, _), (_, _)] _ at hc
  rcases hc with ⟨o1, r1, rfl, d1, o2, r2, rfl, d2, rfl⟩
  have hnn : n ≤ 100000 := Nat.le_trans (grown_le is d n) hn
  have hroom' : (A.deeper (callEnvC f813 L 813)).depth + d + 2 < recursionLimit := by show A.depth + 1 + d + 2 < _; omega
  dsimp only
  have d1' : o1.data = .cell (some (.int d u)) := d1
  have d2' : o2.data = .cell (some (.ref st)) := d2
  refine j_cons (j_Assign (j_F2 (fd := f808) (g_law_next _) rfl rfl ?_))
  refine (j_cell rfl (has_own (List.mem_cons_of_mem _ List.mem_cons_self)) d2' (j_cInt fun t1 => ?_))
  refine law_next (pre := (L + 1 + 1, o1) :: (L + 1, o2) :: pre) (post := post) (n := n) (by omega) rfl hs hx (by omega) (by omega) (by decide) fun t2 t3 => ?_
  obtain ⟨pick, hpk⟩ : ∃ pick, pick = drawAt is n 7 := ⟨_, rfl⟩
  have hpr := drawAt_range (is := is) (n := n) (k := 7) (by decide)
  rw [← hpk] at hpr ⊢
  refine j_store0 ?_
  have leaf : (d = 0 ∨ pick < 3) → grown is d n = (.leaf (abd (pick.fmod 3)), n + 1) := by
    intro hc
    cases d with
    | zero => simp only [grown_e1, grown_e2, ← hpk]
    | succ d =>
      have : pick < 3 := hc.resolve_left (by omega)
      simp only [grown_e1, grown_e2, ← hpk, this, if_true]
  refine j_cons (j_If (j_isTrueBoolOp (j_allTrueOr (j_isTrueCompare1 (j_cell rfl (has_own List.mem_cons_self) d1' (j_cInt fun t4 => j_eqInt (j_truthyBool ?_)))))))
  by_cases hd0 : d = 0
  · have e : ((d : Int) == 0) = true := by simp [hd0]
    rw [e]
    refine ifT ?_
    refine j_cons (j_Return (j_Tuple2 (j_Subscript (j_cStr fun t6 => j_BinOp (j_local (l := _) List.mem_cons_self rfl (j_cInt fun t7 => j_mod (by decide) fun t8 => ?_))))))
    obtain ⟨ch, c1, c2, c3⟩ := abd_item (pick := pick) ⟨Int.fmod_nonneg_of_pos _ (by decide), Int.fmod_lt_of_pos _ (by decide)⟩
    refine j_getitemInPythonStr (j_subPlain (j_strItem c1 c2 fun t9 => j_cNone fun a => bodyQ_ret rfl ?_))
    refine Turn.freeze0 fun Z' le hZ => Turn.drop0 (Turn.drop0 (Turn.done ?_))
    have hg := leaf (.inl hd0)
    have := h Z' (.ref a) t3 le (by rw [hg]; simp only [Told_e1, Told_e2]; exact ⟨a, t9, 0, rfl, by rw [hZ, c3]⟩)
    rw [hg] at this
    exact this
  · have e : ((d : Int) == 0) = false := by simp [hd0]
    rw [e]
    refine j_allTrueOr (j_isTrueCompare1 (j_local (l := _) List.mem_cons_self rfl (j_cInt fun t5 => j_lt (j_truthyBool ?_))))
    by_cases hp3 : pick < 3
    · rw [decide_eq_true hp3]
      refine ifT ?_
      refine j_cons (j_Return (j_Tuple2 (j_Subscript (j_cStr fun t6 => j_BinOp (j_local (l := _) List.mem_cons_self rfl (j_cInt fun t7 => j_mod (by decide) fun t8 => ?_))))))
      obtain ⟨ch, c1, c2, c3⟩ := abd_item (pick := pick) ⟨Int.fmod_nonneg_of_pos _ (by decide), Int.fmod_lt_of_pos _ (by decide)⟩
      refine j_getitemInPythonStr (j_subPlain (j_strItem c1 c2 fun t9 => j_cNone fun a => bodyQ_ret rfl ?_))
      refine Turn.freeze0 fun Z' le hZ => Turn.drop0 (Turn.drop0 (Turn.done ?_))
      have hg := leaf (.inr hp3)
      have := h Z' (.ref a) t3 le (by rw [hg]; simp only [Told_e1, Told_e2]; exact ⟨a, t9, 0, rfl, by rw [hZ, c3]⟩)
      rw [hg] at this
      exact this
    · rw [decide_eq_false hp3]
      refine j_allTrueNilOr ?_
      refine ifF ?_
      refine j_nil ?_
      obtain ⟨d, rfl⟩ : ∃ d', d = d' + 1 := ⟨d - 1, by omega⟩
      have hg : grown is (d + 1) n = (opened (fgsf pick) (growMany (grown is d) (drawAt is (n + 1) 4).toNat (n + 2)).1, (growMany (grown is d) (drawAt is (n + 1) 4).toNat (n + 2)).2) := by
        simp only [grown_e1, grown_e2, ← hpk, hp3, if_false]
      have hcr := drawAt_range (is := is) (n := n + 1) (k := 4) (by decide)
      obtain ⟨N, hN⟩ : ∃ N, N = (drawAt is (n + 1) 4).toNat := ⟨_, rfl⟩
      have hcnt : drawAt is (n + 1) 4 = (N : Int) := by omega
      rw [← hN] at hg
      rw [hg] at hn
      dsimp only at hn
      have hmono : ∀ i, i ≤ N → (growMany (grown is d) i (n + 2)).2 ≤ 100000 := fun i hi => Nat.le_trans (growMany_mono (grown_le is d) hi) hn
      refine j_cons (j_AssignComp (y := Str.ofString "parts") (iter_range N) (fun i ys c₁ => ∀ X : Prop, (∀ Z' t', c₁ = ⟨Z', (L, [(Str.ofString "pick", .int pick t2)]) :: nss, (L + 1 + 1, o1) :: (L + 1, o2) :: (pre ++ (st, stO sl (growMany (grown is d) i (n + 2)).2 t') :: post), g⟩ → Z.le Z' → ToldAll Z' (growMany (grown is d) i (n + 2)).1 ys.toList → X) → X)
        hh (fun V => go_name) rfl rfl rfl ?_ (by intros; trivial) ?_ ?_ ?_)
      · refine j_B1 (m_range _) (b_range _) (j_F2 (fd := f808) (g_law_next _) rfl rfl ?_)
        refine (j_cell rfl (has_own (List.mem_cons_of_mem _ List.mem_cons_self)) d2' (j_cInt fun t6 => ?_))
        refine law_next (pre := (L + 1 + 1, o1) :: (L + 1, o2) :: pre) (post := post) (n := n + 1) (by omega) rfl hs hx (by omega) (by omega) (by decide) fun t7 t8 => ?_
        rw [hcnt]
        refine j_range fun r a b c => j_iterRange (by omega) (has_own List.mem_cons_self) fun it o ho => ⟨it, o, ⟨Z, (L, [(Str.ofString "pick", .int pick t2)]) :: nss, (L + 1 + 1, o1) :: (L + 1, o2) :: (pre ++ (st, stO sl (n + 2) t8) :: post), g⟩, rfl, ho, ?_, fun V kK => kK Z t8 rfl (Zm.le.refl _) .nil⟩
        exact Conv.ow (List.Perm.refl _) ((List.sublist_cons_self _ _).cons_cons _)
      · intro i ys c₁ hX3 hi
        refine hX3 _ fun Z' t' eS le hy => ?_
        clear hX3
        subst eS
        have := hy.length
        rw [Array.length_toList, growMany_length] at this
        unfold sizeLine; omega
      · intro i v c₁ C acc ys k it o hi hv ho hX
        refine hX _ fun Z' t' eS le hy => ?_
        clear hX
        subst eS
        refine j_assignName (j_store0 (j_testsNil ?_))
        refine ifT ?_
        refine j_F2 (fd := f813) (g_law_grown _) rfl rfl ?_
        refine (j_cell rfl (has_own (List.mem_cons_of_mem _ (List.mem_cons_of_mem _ (List.mem_cons_of_mem _ List.mem_cons_self)))) d2' ?_)
        refine j_BinOp (j_cell rfl (has_own (List.mem_cons_of_mem _ (List.mem_cons_of_mem _ List.mem_cons_self))) d1' (j_cInt fun t6 => j_sub fun t7 => ?_))
        rw [show (((d + 1 : Nat) : Int) - 1) = d by omega]
        refine ih d rfl (pre := (acc, _) :: (it, o) :: (L + 1 + 1, o1) :: (L + 1, o2) :: pre) (post := post) (by omega) (by show A.depth + 1 + d + 3 < _; omega) hh rfl (le _ _ hs) (hmono (i + 1) hi) fun Z₂ v t'' le₂ hv₂ => ?_
        exact ⟨⟨Z₂, (L, [(Str.ofString "pick", .int pick t2)]) :: nss, (L + 1 + 1, o1) :: (L + 1, o2) :: (pre ++ (st, stO sl (growMany (grown is d) (i + 1) (n + 2)).2 t'') :: post), g⟩, Conv.know (l' := []) trivial, fun V kK => kK Z₂ t'' rfl (le.trans le₂) ((hy.mono le₂).push hv₂)⟩
      · intro ys c₁ acc k hX
        refine hX _ fun Z' t' eS le hy => ?_
        clear hX
        subst eS
        refine ⟨_, _, rfl, ?_⟩
        refine j_cons (j_Return (j_F2 (fd := f801) (g_law_opened _) rfl rfl (j_Subscript (j_cStr fun t6 => j_BinOp (j_local (l := _) List.mem_cons_self rfl (j_cInt fun t7 => j_sub fun t8 => ?_))))))
        obtain ⟨ch, c1, c2, c3⟩ := fgsf_item (pick := pick) ⟨by omega, by omega⟩
        refine j_getitemInPythonStr (j_subPlain (j_strItem c1 c2 fun t9 => ?_))
        rw [c3]
        refine j_local (l := _) List.mem_cons_self rfl ?_
        have hok := growMany_ok (grown_ok is d) N (n + 2)
        refine law_opened (by omega) hh (has_own List.mem_cons_self) hy (hok.1.leaf_ne (isKind_fgsf _)) ?_ fun Z₂ v le₂ hv₂ => bodyQ_ret rfl ?_
        · have h1 := sizes_openedParts (fgsf pick) (growMany (grown is d) N (n + 2)).1
          have h2 := length_le_sizes (openedParts (fgsf pick) (growMany (grown is d) N (n + 2)).1)
          have h3 : N * 4 ^ d ≤ 3 * 4 ^ 5 := Nat.mul_le_mul (by omega) (Nat.pow_le_pow_right (by decide) (by omega))
          have h4 := hok.2
          omega
        · refine Turn.drop0 (Turn.drop0 (Turn.drop0 (Turn.done ?_)))
          rw [hg] at h
          exact h Z₂ v t' (le.trans le₂) hv₂
theorem law_grown {p : JP} {st sl : Addr} {m : Nat} {xs : Array Value} {is : List Int} (hx : IntsAt xs is) (hlen : is.length ≤ 1000) : ∀ d, GrownAt p st sl m xs is d
  | 0 => law_grown_step hx hlen 0 fun V e => by cases e
  | d + 1 => law_grown_step hx hlen (d + 1) fun d' e => by cases e; exact law_grown hx hlen d
section
variable {p : JP} {A : Around} {c : JC} {E : JC → Prop} {env : Env} {a b : Value} {Q : Value → JC → Prop}
theorem j_is (hp : plainIs a b = true) (h : Q (.bool (a == b)) c) : jwp p A (compareOp .Is a b) Q E c := .of fun s H => wpAny_is_plain hp ⟨c, H, h⟩
theorem j_isNot (hp : plainIs a b = true) (h : Q (.bool (!(a == b))) c) : jwp p A (compareOp .IsNot a b) Q E c := .of fun s H => wpAny_isNot_plain hp ⟨c, H, h⟩
end
noncomputable def NatsAt (vs : List Value) (ns : List Nat) : Prop := vs.length = ns.length ∧ ∀ (i : Nat) (n : Nat), ns[i]? = some n → ∃ t, vs[i]? = some (.int (n : Int) t)
inductive PlaceAt (Z : Zm) (ns : List Nat) (v : Value) : Prop
  | mk : ∀ a xs m, v = .ref a → Z a = some (TO xs m) → NatsAt xs.toList ns → PlaceAt Z ns v
theorem PlaceAt.mono {Z Z' : Zm} (h : Z.le Z') {ns : List Nat} {v : Value} (x : PlaceAt Z ns v) : PlaceAt Z' ns v := let ⟨a, xs, m, e, hz, k⟩ := x; ⟨a, xs, m, e, h _ _ hz, k⟩
noncomputable def OptTold (Z : Zm) : Option T → Value → Prop
  | none, v => v = .none
  | some t, v => Told Z t v
theorem OptTold.mono {Z Z' : Zm} (h : Z.le Z') : ∀ {o : Option T} {v : Value}, OptTold Z o v → OptTold Z' o v
  | none, _, x => x
  | some _, _, x => Told.mono h x
noncomputable def piece : T → List Nat → Option T
  | t, [] => some t
  | .leaf _, _ :: _ => none
  | .node _ ps, k :: r => match ps[k]? with
    | some q => piece q r
    | none => none
theorem piece_split (t : T) : ∀ (l r : List Nat), piece t (l ++ r) = (piece t l).bind fun q => piece q r := by
  intro l
  induction l generalizing t with
  | nil => intro r; simp [piece]
  | cons k l ih =>
    intro r
    cases t with
    | leaf s => simp [piece]
    | node s ps =>
      simp only [List.cons_append, piece]
      cases ps[k]? with
      | none => rfl
      | some q => exact ih q r
theorem told_node {Z : Zm} {s : Str} {ps : List T} {v : Value} (h : Told Z (.node s ps) v) : ∃ a tk n l xs m, v = .ref a ∧ Z a = some (TO #[.str s tk, .ref l] n) ∧ Z l = some (LO xs m) ∧ ToldAll Z ps xs.toList := by simpa only [Told_e1, Told_e2] using h
theorem told_leaf {Z : Zm} {s : Str} {v : Value} (h : Told Z (.leaf s) v) : ∃ a tk n, v = .ref a ∧ Z a = some (TO #[.str s tk, .none] n) := by simpa only [Told_e1, Told_e2] using h
theorem size_le_of_get {ps : List T} {i : Nat} {q : T} (h : ps[i]? = some q) : q.size ≤ sizes ps := by
  induction ps generalizing i with
  | nil => simp at h
  | cons t ps ih =>
    simp only [sizes_e1, sizes_e2]
    cases i with
    | zero => simp at h; subst h; omega
    | succ i => simp at h; have := ih h; omega
set_option maxHeartbeats 2000000 in
theorem law_piece {p : JP} {A : Around} {c : JC} {E : JC → Prop} {Q : Value → JC → Prop} {t : T} {vt vp : Value} {pl : List Nat}
    (hroom : A.depth < recursionLimit) (hh : A.handled = none) (ht : Told c.Z t vt) (hp : PlaceAt c.Z pl vp) (hsz : t.size ≤ 100000) (hk : ∀ n ∈ pl, n ≤ 100000)
    (h : ∀ v, OptTold c.Z (piece t pl) v → Q v c) : jwp p A (call (.ref 827) [vt, vp]) Q E c := by
  obtain ⟨Z, nss, own, g⟩ := c
  dsimp only at ht hp h
  obtain ⟨a, xs, m, rfl, hZ, hlen, hns⟩ := hp
  rw [Array.length_toList] at hlen
  refine jwp_turn (j_call (jcode_fn (F827 p.w.params) hroom (binds := [(Str.ofString "node", vt), (Str.ofString "place", .ref a)]) rfl fun L => ?_))
  refine j_cons (j_For (E' := fun V => False) (iter_tup a xs m) (fun i c₁ => ∀ X : Prop, (∀ q vq, c₁ = ⟨Z, (L, [(Str.ofString "node", vq), (Str.ofString "place", .ref a)]) :: nss, own, g⟩ → piece t (pl.take i) = some q → Told Z q vq → q.size ≤ 100000 → X) → X)
    hh NotRaised.never go_name ?_ ?_ ?_ ?_)
  · refine j_local (l := _) List.mem_cons_self rfl (j_iterTup (has_z hZ) fun it o ho => ⟨it, o, ⟨Z, (L, [(Str.ofString "node", vt), (Str.ofString "place", .ref a)]) :: nss, own, g⟩, rfl, ho, Conv.know ⟨rfl, rfl, trivial⟩, fun V kK => kK t vt rfl ?_ ht hsz⟩)
    simp [piece]
  · intro i c₁ it o hX
    refine hX _ fun q vq eS V V V => ?_
    clear hX
    subst eS
    exact has_z hZ
  · intro i v c₁ it o hi hv ho hX
    refine hX _ fun q vq eS hpq hq hqs => ?_
    clear hX
    subst eS
    obtain ⟨k, hki⟩ : ∃ k, pl[i]? = some k := ⟨pl[i]'(by omega), List.getElem?_eq_getElem (by omega)⟩
    obtain ⟨tk, hv'⟩ := hns i k hki
    rw [Array.getElem?_toList, hv] at hv'
    cases hv'
    have hk' := hk k (List.mem_of_getElem? hki)
    have hstep : piece t (pl.take (i + 1)) = piece q [k] := by rw [list_take_succ hki, piece_split, hpq]; rfl
    have hrest : piece t pl = (piece q [k]).bind fun q' => piece q' (pl.drop (i + 1)) := by
      conv => lhs; rw [← List.take_append_drop (i + 1) pl]
      rw [piece_split, hstep]
    refine j_assignName (j_store0 ?_)
    refine j_cons (j_If (j_isTrueBoolOp (j_allTrueOr (j_isTrueCompare1 ?_))))
    cases q with
    | leaf s =>
      obtain ⟨aq, tq, nq, rfl, hZq⟩ := told_leaf hq
      refine j_atT (v := .none) (i := 1) List.mem_cons_self rfl (has_z hZq) rfl rfl ?_
      refine j_cNone (j_is rfl (j_truthyBool ?_))
      refine ifB (show (Value.none == Value.none) = true from rfl) ?_
      refine j_cons (j_Return (j_cNone ⟨⟨Z, (L, []) :: nss, own, g⟩, ?_, bodyQ_ret rfl (Turn.done (h .none ?_))⟩))
      · exact Conv.both trivial (List.Perm.refl _) (List.sublist_cons_self _ _)
      · rw [hrest]; rfl
    | node s ps =>
      obtain ⟨aq, tq, nq, l, ys, mq, rfl, hZq, hZl, hps⟩ := told_node hq
      have hpl := hps.length
      rw [Array.length_toList] at hpl
      have hps1 := length_le_sizes ps
      simp only [T_size_e1, T_size_e2] at hqs
      refine j_atT (v := .ref l) (i := 1) List.mem_cons_self rfl (has_z hZq) rfl rfl ?_
      refine j_cNone (j_is rfl (j_truthyBool ?_))
      rw [show ((Value.ref l == Value.none) = false) from rfl]
      refine j_allTrueOr (j_isTrueCompare1 (j_local (l := _) List.mem_cons_self rfl ?_))
      refine j_B1 (m_len _) (b_len _) ?_
      refine j_atT (v := .ref l) (i := 1) List.mem_cons_self rfl (has_z hZq) rfl rfl ?_
      refine j_lenList (has_z hZl) (by omega) fun t4 => j_ge (j_truthyBool ?_)
      by_cases hge : (ys.size : Int) ≤ (k : Int)
      · rw [decide_eq_true hge]
        refine ifT ?_
        refine j_cons (j_Return (j_cNone ⟨⟨Z, (L, []) :: nss, own, g⟩, ?_, bodyQ_ret rfl (Turn.done (h .none ?_))⟩))
        · exact Conv.both trivial (List.Perm.refl _) (List.sublist_cons_self _ _)
        · rw [hrest]
          have : ps[k]? = none := List.getElem?_eq_none (by omega)
          simp [piece, this, OptTold]
      · rw [decide_eq_false hge]
        refine j_allTrueNilOr ?_
        refine ifF ?_
        have hkl : k < ps.length := by omega
        obtain ⟨vk, hvk, htk⟩ := hps.getT (List.getElem?_eq_getElem hkl)
        rw [Array.getElem?_toList] at hvk
        refine j_nil (j_cons (j_Assign ?_))
        refine j_Subscript (j_atT (v := .ref l) (i := 1) List.mem_cons_self rfl (has_z hZq) rfl rfl ?_)
        refine j_local (l := _) List.mem_cons_self rfl (j_getitemInPythonList (has_z hZl) (j_subPlain (j_listItem (has_z hZl) (by omega) (by omega) hvk ?_)))
        refine j_store0 (j_nil ?_)
        refine ⟨⟨Z, (L, [(Str.ofString "node", vk), (Str.ofString "place", .ref a)]) :: nss, own, g⟩, Conv.know ⟨rfl, rfl, trivial⟩, fun V kK => kK (ps[k]) vk rfl ?_ htk ?_⟩
        · rw [hstep]; simp [piece, List.getElem?_eq_getElem hkl]
        · have := size_le_of_get (List.getElem?_eq_getElem hkl); omega
  · intro c₁ hX
    refine hX _ fun q vq eS hpq hq V => ?_
    clear hX
    subst eS
    refine j_nil (j_cons (j_Return (j_local (l := _) List.mem_cons_self rfl (bodyQ_ret rfl (Turn.done (h vq ?_))))))
    rw [hlen, List.take_length] at hpq
    rw [hpq]; exact hq
section
variable {p : JP} {A : Around} {c : JC} {E : JC → Prop} {env : Env} {Q : Value → JC → Prop} {l sl : Addr} {items : Array Value} {n : Nat} {u : Tok}
noncomputable abbrev SO (a b : Value) : Obj := { cls := .type "slice", dict := none, data := .fields #[a, b, .none], slots := #[] }
theorem j_listTo {k : Nat} (ho : c.Has l (LO items n)) (hs : c.Has sl (SO .none (.int k u))) (hk : k ≤ items.size) (hsz : items.size ≤ sizeLine) (h : ∀ a, Q (.ref a) (c.psh a (LO (items.toList.take k).toArray 0))) :
    jwp p A (getItem (.ref l) (.ref sl)) Q E c := .of fun s H =>
  wpAny_getItem_list_slice (has_list ho H).isList ⟨_, hs.get H, rfl, rfl⟩ .none (.int _ _) .none (by intro e; cases e) (by rw [slicePick_upto items k hk]; exact ⟨_, H.push _ rfl s.toks, h _⟩) hsz
theorem j_listFrom {k : Nat} (ho : c.Has l (LO items n)) (hs : c.Has sl (SO (.int k u) .none)) (hk : k ≤ items.size) (hsz : items.size ≤ sizeLine) (h : ∀ a, Q (.ref a) (c.psh a (LO (items.toList.drop k).toArray 0))) :
    jwp p A (getItem (.ref l) (.ref sl)) Q E c := .of fun s H =>
  wpAny_getItem_list_slice (has_list ho H).isList ⟨_, hs.get H, rfl, rfl⟩ (.int _ _) .none .none (by intro e; cases e) (by rw [slicePick_from items k hk]; exact ⟨_, H.push _ rfl s.toks, h _⟩) hsz
theorem j_tupFrom {k : Nat} (ho : c.Has l (TO items n)) (hs : c.Has sl (SO (.int k u) .none)) (h1 : 1 ≤ k) (hk : k ≤ items.size) (hsz : items.size ≤ sizeLine) (h : ∀ a, Q (.ref a) (c.psh a (TO (items.toList.drop k).toArray 0))) :
    jwp p A (getItem (.ref l) (.ref sl)) Q E c := .of fun s H =>
  PyProof.Rows.getItem_tuple_from ⟨_, has_tup ho H, rfl, _, rfl⟩ ⟨_, hs.get H, rfl, rfl⟩ h1 hk ⟨_, H.push _ rfl s.toks, h _⟩ hsz
theorem j_sliceTo {e : Expr} {pos : Pos} (h : jwp p A (eval e env) (fun v c₁ => ∀ a, Q (.ref a) (c₁.psh a (SO .none v))) E c) : jwp p A (eval (.Slice none (some e) none pos) env) Q E c :=
  j_Slice (jwp_pure h)
theorem j_sliceFrom {e : Expr} {pos : Pos} (h : jwp p A (eval e env) (fun v c₁ => ∀ a, Q (.ref a) (c₁.psh a (SO v .none))) E c) : jwp p A (eval (.Slice (some e) none none pos) env) Q E c := by
  refine j_Slice ?_
  show jwp p A (eval e env) _ E c
  exact h.mono (fun v V q => jwp_pure q) fun V V x => x
theorem j_sliceRun {e e' : Expr} {pos : Pos} (h : jwp p A (eval e env) (fun v c₁ => jwp p A (eval e' env) (fun v' c₂ => ∀ a, Q (.ref a) (c₂.psh a (SO v v'))) E c₁) E c) : jwp p A (eval (.Slice (some e) (some e') none pos) env) Q E c := by
  refine j_Slice ?_
  show jwp p A (eval e env) _ E c
  exact h.mono (fun v V q => q.mono (fun v' V q => q) fun V V x => x) fun V V x => x
end
mutual
noncomputable def dataT : T → PyData
  | .leaf s => .tuple [.str s, .none]
  | .node s ps => .tuple [.str s, .list (dataTs ps)]
noncomputable def dataTs : List T → List PyData
  | [] => []
  | t :: ts => dataT t :: dataTs ts
end
theorem dataT_e1 : ∀ (s : Str), dataT (T.leaf s) = PyData.tuple [PyData.str s, PyData.none] := by intros; rfl
theorem dataT_e2 : ∀ (s : Str) (ps : List T), dataT (T.node s ps) = PyData.tuple [PyData.str s, PyData.list (dataTs ps)] := by intros; rfl
theorem dataTs_e1 : dataTs [] = [] := rfl
theorem dataTs_e2 : ∀ (t : T) (ts : List T), dataTs (t :: ts) = dataT t :: dataTs ts := by intros; rfl
mutual
noncomputable def T.deep : T → Nat
  | .leaf _ => 1
  | .node _ ps => 2 + deeps ps
noncomputable def deeps : List T → Nat
  | [] => 0
  | t :: ts => max t.deep (deeps ts)
end
theorem T_deep_e1 : ∀ (s : Str), T.deep (T.leaf s) = 1 := by intros; rfl
theorem T_deep_e2 : ∀ (s : Str) (ps : List T), T.deep (T.node s ps) = 2 + deeps ps := by intros; rfl
theorem deeps_e1 : deeps [] = 0 := rfl
theorem deeps_e2 : ∀ (t : T) (ts : List T), deeps (t :: ts) = max (T.deep t) (deeps ts) := by intros; rfl
mutual
theorem told_reads {p : JP} {c : JC} {s : Shared} (H : c.At p s) : ∀ {t : T} {v : Value}, Told c.Z t v → ∃ as, Reads s.heap v (dataT t) as
  | .leaf x, v, h => by
    simp only [Told_e1, Told_e2] at h
    rcases h with ⟨a, tk, n, rfl, hz⟩
    simp only [dataT_e1, dataT_e2]
    exact ⟨_, .tuple (H.z _ _ hz) rfl rfl (.cons (.str _ _) (.cons .none .nil))⟩
  | .node x ps, v, h => by
    simp only [Told_e1, Told_e2] at h
    rcases h with ⟨a, tk, n, l, xs, m, rfl, hz, hl, hp⟩
    rcases told_readsAll H hp with ⟨as, ra⟩
    simp only [dataT_e1, dataT_e2]
    exact ⟨_, .tuple (H.z _ _ hz) rfl rfl (.cons (.str _ _) (.cons (.list (H.z _ _ hl) rfl rfl ra) .nil))⟩
theorem told_readsAll {p : JP} {c : JC} {s : Shared} (H : c.At p s) : ∀ {ts : List T} {vs : List Value}, ToldAll c.Z ts vs → ∃ as, ReadsAll s.heap vs (dataTs ts) as
  | [], vs, h => by
    simp only [ToldAll_e1, ToldAll_e2] at h
    subst h
    exact ⟨_, .nil⟩
  | t :: ts, vs, h => by
    simp only [ToldAll_e1, ToldAll_e2] at h
    rcases h with ⟨v, r, rfl, h1, h2⟩
    rcases told_reads H h1 with ⟨as, ra⟩
    rcases told_readsAll H h2 with ⟨bs, rb⟩
    simp only [dataTs_e1, dataTs_e2]
    exact ⟨_, .cons ra rb⟩
end
set_option tactic.hygienic true in
mutual
theorem eqv_dataT : ∀ (a b : T), PyData.eqv (dataT a) (dataT b) = true ↔ a = b
  | .leaf x, .leaf y => by simp [dataT_e1, dataT_e2, PyData.eqv, PyData.eqvAll]
  | .leaf x, .node y qs => by simp [dataT_e1, dataT_e2, PyData.eqv, PyData.eqvAll]
  | .node x ps, .leaf y => by simp [dataT_e1, dataT_e2, PyData.eqv, PyData.eqvAll]
  | .node x ps, .node y qs => by simp [dataT_e1, dataT_e2, PyData.eqv, PyData.eqvAll, eqv_dataTs ps qs]
theorem eqv_dataTs : ∀ (a b : List T), PyData.eqvAll (dataTs a) (dataTs b) = true ↔ a = b
  | [], [] => by simp [dataTs_e1, dataTs_e2, PyData.eqvAll]
  | [], _ :: _ => by simp [dataTs_e1, dataTs_e2, PyData.eqvAll]
  | _ :: _, [] => by simp [dataTs_e1, dataTs_e2, PyData.eqvAll]
  | a :: as, b :: bs => by simp [dataTs_e1, dataTs_e2, PyData.eqvAll, eqv_dataT a b, eqv_dataTs as bs]
end
mutual
theorem depth_dataT : ∀ (t : T), (dataT t).depth ≤ t.deep
  | .leaf x => by simp [dataT_e1, dataT_e2, PyData.depth, PyData.depthAll, T_deep_e1, T_deep_e2]
  | .node x ps => by
    have := depth_dataTs ps
    simp only [dataT_e1, dataT_e2, PyData.depth, PyData.depthAll, T_deep_e1, T_deep_e2]; omega
theorem depth_dataTs : ∀ (ts : List T), PyData.depthAll (dataTs ts) ≤ deeps ts
  | [] => by simp [dataTs_e1, dataTs_e2, PyData.depthAll, deeps_e1, deeps_e2]
  | t :: ts => by
    have h1 := depth_dataT t
    have h2 := depth_dataTs ts
    simp only [dataTs_e1, dataTs_e2, PyData.depthAll, deeps_e1, deeps_e2]; omega
end
mutual
theorem canLay_dataT : ∀ (t : T), t.Ok → (dataT t).canLay0 = true
  | .leaf x, h => by
    simp only [T_Ok_e1, T_Ok_e2] at h
    simp only [dataT_e1, dataT_e2, PyData.canLay0, PyData.canLayAll0, Bool.and_true]
    rcases h with rfl | rfl | rfl | rfl <;> decide +kernel
  | .node x ps, h => by
    simp only [T_Ok_e1, T_Ok_e2] at h
    have h2 := canLay_dataTs ps h.2
    simp only [dataT_e1, dataT_e2, PyData.canLay0, PyData.canLayAll0, h2, Bool.and_true]
    rcases h.1 with rfl | rfl | rfl <;> decide +kernel
theorem canLay_dataTs : ∀ (ts : List T), Oks ts → PyData.canLayAll0 (dataTs ts) = true
  | [], _ => rfl
  | t :: ts, h => by
    simp only [Oks_e1, Oks_e2] at h
    simp only [dataTs_e1, dataTs_e2, PyData.canLayAll0, canLay_dataT t h.1, canLay_dataTs ts h.2, Bool.and_true]
end
theorem shaped_dataT {t : T} (h : t.Ok) (hd : t.deep ≤ 64) : PySem.SeqAt.shaped (dataT t) = true := by
  unfold PySem.SeqAt.shaped
  rw [canLay_dataT t h, Bool.true_and]
  exact decide_eq_true (Nat.le_trans (depth_dataT t) hd)
section
variable {p : JP} {A : Around} {c : JC} {E : JC → Prop} {va vb : Value} {a b : T} {Q : Value → JC → Prop}
open Classical in
theorem j_eqTold (ha : Told c.Z a va) (hb : Told c.Z b vb) (oa : a.Ok) (ob : b.Ok) (da : a.deep ≤ 64) (db : b.deep ≤ 64) (hu : A.units + 64 < cLine) (h : ∀ r, (r = true ↔ a = b) → Q (.bool r) c) : jwp p A (compareOp .Eq va vb) Q E c := .of fun s H => by
  obtain ⟨as, ra⟩ := told_reads H ha
  obtain ⟨bs, rb⟩ := told_reads H hb
  exact eq_dataH ra rb (shaped_dataT oa da) (shaped_dataT ob db) hu ⟨c, H, h _ (eqv_dataT a b)⟩
theorem j_neTold (ha : Told c.Z a va) (hb : Told c.Z b vb) (oa : a.Ok) (ob : b.Ok) (da : a.deep ≤ 64) (db : b.deep ≤ 64) (hu : A.units + 64 < cLine) (h : ∀ r, (r = true ↔ a ≠ b) → Q (.bool r) c) : jwp p A (compareOp .NotEq va vb) Q E c := .of fun s H => by
  obtain ⟨as, ra⟩ := told_reads H ha
  obtain ⟨bs, rb⟩ := told_reads H hb
  refine ne_dataH ra rb (shaped_dataT oa da) (shaped_dataT ob db) hu ⟨c, H, h _ ?_⟩
  have := eqv_dataT a b
  cases hq : PyData.eqv (dataT a) (dataT b) <;> simp_all
end
noncomputable def placeD (ns : List Nat) : PyData := .tuple (ns.map fun (n : Nat) => PyData.int (n : Int))
theorem nats_reads {h : Heap} : ∀ {vs : List Value} {ns : List Nat}, NatsAt vs ns → ∃ as, ReadsAll h vs (ns.map fun (n : Nat) => PyData.int (n : Int)) as
  | [], [], _ => ⟨_, .nil⟩
  | [], _ :: _, ⟨e, _⟩ => by simp at e
  | _ :: _, [], ⟨e, _⟩ => by simp at e
  | v :: vs, n :: ns, ⟨e, k⟩ => by
    obtain ⟨t, h1⟩ := k 0 n rfl
    simp at h1
    subst h1
    obtain ⟨as, ra⟩ := nats_reads (h := h) (vs := vs) (ns := ns) ⟨by simpa using e, fun i m hi => by simpa using k (i + 1) m (by simpa using hi)⟩
    exact ⟨_, .cons (.int _ _) ra⟩
inductive PlaceHas (c : JC) (ns : List Nat) (v : Value) : Prop
  | mk : ∀ a xs m, v = .ref a → c.Has a (TO xs m) → NatsAt xs.toList ns → PlaceHas c ns v
theorem PlaceAt.has {c : JC} {ns : List Nat} {v : Value} (h : PlaceAt c.Z ns v) : PlaceHas c ns v := let ⟨a, xs, m, e, hz, k⟩ := h; ⟨a, xs, m, e, .inl hz, k⟩
theorem place_reads {p : JP} {c : JC} {s : Shared} (H : c.At p s) {ns : List Nat} {v : Value} (h : PlaceHas c ns v) : ∃ as, Reads s.heap v (placeD ns) as := by
  obtain ⟨a, xs, m, rfl, ho, k⟩ := h
  obtain ⟨as, ra⟩ := nats_reads (h := s.heap) k
  exact ⟨_, .tuple (ho.get H) rfl rfl ra⟩
theorem eqv_ints : ∀ (a b : List Nat), PyData.eqvAll (a.map fun (n : Nat) => PyData.int (n : Int)) (b.map fun (n : Nat) => PyData.int (n : Int)) = true ↔ a = b
  | [], [] => by simp [PyData.eqvAll]
  | [], _ :: _ => by simp [PyData.eqvAll]
  | _ :: _, [] => by simp [PyData.eqvAll]
  | a :: as, b :: bs => by
    simp only [List.map_cons, PyData.eqvAll, PyData.eqv, Bool.and_eq_true, beq_iff_eq, eqv_ints as bs, List.cons.injEq, Int.natCast_inj]
theorem eqv_place (a b : List Nat) : PyData.eqv (placeD a) (placeD b) = true ↔ a = b := by
  simp only [placeD, PyData.eqv]; exact eqv_ints a b
theorem canLay_ints : ∀ (a : List Nat), PyData.canLayAll0 (a.map fun (n : Nat) => PyData.int (n : Int)) = true
  | [] => rfl
  | a :: as => by simp only [List.map_cons, PyData.canLayAll0, PyData.canLay0, canLay_ints as, Bool.and_true]
theorem depth_ints : ∀ (a : List Nat), PyData.depthAll (a.map fun (n : Nat) => PyData.int (n : Int)) = 0
  | [] => by simp [PyData.depthAll]
  | a :: as => by simp [PyData.depthAll, PyData.depth, depth_ints as]
theorem shaped_place (a : List Nat) : PySem.SeqAt.shaped (placeD a) = true := by
  unfold PySem.SeqAt.shaped placeD
  simp only [PyData.canLay0, canLay_ints, PyData.depth, depth_ints]
  decide
section
variable {p : JP} {A : Around} {c : JC} {E : JC → Prop} {va vb : Value} {a b : List Nat} {Q : Value → JC → Prop}
theorem j_eqPlace (ha : PlaceHas c a va) (hb : PlaceHas c b vb) (hu : A.units + 64 < cLine) (h : ∀ r, (r = true ↔ a = b) → Q (.bool r) c) : jwp p A (compareOp .Eq va vb) Q E c := .of fun s H => by
  obtain ⟨as, ra⟩ := place_reads H ha
  obtain ⟨bs, rb⟩ := place_reads H hb
  exact eq_dataH ra rb (shaped_place a) (shaped_place b) hu ⟨c, H, h _ (eqv_place a b)⟩
end
noncomputable def put : T → List Nat → List T → Option (List T)
  | _, [], rows => some rows
  | .leaf _, _ :: _, _ => none
  | .node s ps, k :: r, rows => match ps[k]? with
    | none => none
    | some q => match put q r rows with
      | none => none
      | some inner => some [opened s (ps.take k ++ inner ++ ps.drop (k + 1))]
theorem sizes_split {ps : List T} {k : Nat} {q : T} (h : ps[k]? = some q) : sizes ps = sizes (ps.take k) + q.size + sizes (ps.drop (k + 1)) := by
  have hk : k < ps.length := (List.getElem?_eq_some_iff.mp h).1
  have e : ps = ps.take k ++ (q :: ps.drop (k + 1)) := by
    have : ps[k] = q := (List.getElem?_eq_some_iff.mp h).2
    rw [← this, List.getElem_cons_drop, List.take_append_drop]
  conv => lhs; rw [e]
  rw [sizes_append]
  simp only [sizes_e1, sizes_e2]; omega
set_option tactic.hygienic true in
theorem put_size : ∀ (pl : List Nat) (t : T) (rows out : List T), put t pl rows = some out → sizes out ≤ t.size + sizes rows
  | [], t, rows, out, h => by simp only [put, Option.some.injEq] at h; subst h; omega
  | k :: r, .leaf s, rows, out, h => by simp [put] at h
  | k :: r, .node s ps, rows, out, h => by
    simp only [put] at h
    split at h
    · cases h
    · rename_i q hq
      split at h
      · cases h
      · rename_i inner hi
        cases h
        have h1 := put_size r q rows inner hi
        have h2 := opened_size s (ps.take k ++ inner ++ ps.drop (k + 1))
        have h3 := sizes_split hq
        rw [sizes_append, sizes_append] at h2
        simp only [sizes_e1, sizes_e2, T_size_e1, T_size_e2]; omega
theorem Oks_take : ∀ {ps : List T} (n : Nat), Oks ps → Oks (ps.take n)
  | _, 0, _ => by simp [Oks_e1, Oks_e2]
  | [], n + 1, _ => trivial
  | t :: ps, n + 1, h => by simp only [Oks_e1, Oks_e2] at h; simp only [List.take_succ_cons, Oks_e1, Oks_e2]; exact ⟨h.1, Oks_take n h.2⟩
theorem Oks_drop : ∀ {ps : List T} (n : Nat), Oks ps → Oks (ps.drop n)
  | _, 0, h => h
  | [], n + 1, _ => trivial
  | t :: ps, n + 1, h => by simp only [Oks_e1, Oks_e2] at h; simp only [List.drop_succ_cons]; exact Oks_drop n h.2
set_option tactic.hygienic true in
theorem put_ok : ∀ (pl : List Nat) (t : T) (rows out : List T), t.Ok → Oks rows → put t pl rows = some out → Oks out
  | [], t, rows, out, ht, hr, h => by simp only [put, Option.some.injEq] at h; subst h; exact hr
  | k :: r, .leaf s, rows, out, ht, hr, h => by simp [put] at h
  | k :: r, .node s ps, rows, out, ht, hr, h => by
    simp only [T_Ok_e1, T_Ok_e2] at ht
    simp only [put] at h
    split at h
    · cases h
    · rename_i q hq
      split at h
      · cases h
      · rename_i inner hi
        cases h
        have h1 := put_ok r q rows inner (ht.2.mem (List.mem_of_getElem? hq)) hr hi
        simp only [Oks_e1, Oks_e2, and_true]
        exact opened_ok ht.1 (Oks_append.mpr ⟨Oks_append.mpr ⟨Oks_take k ht.2, h1⟩, Oks_drop (k + 1) ht.2⟩)
theorem j_List1 {p : JP} {A : Around} {c : JC} {E : JC → Prop} {env : Env} {e : Expr} {pos : Pos} {Q : Value → JC → Prop}
    (h : jwp p A (eval e env) (fun v c₁ => ∀ a, Q (.ref a) (c₁.psh a (LO #[v] 0))) E c)
    (hs : autoParam (starEach [e] env = [(false, eval e env)]) rt) : jwp p A (eval (.List [e] pos) env) Q E c := by
  refine j_List ?_
  rw [hs]
  exact j_splicedCons (h.mono (fun v V q => j_splicedNil ⟨by show 1 ≤ sizeLine; unfold sizeLine; omega, q⟩) fun V V x => x)
inductive RowsAt (Z : Zm) (rows : List T) (v : Value) : Prop
  | mk : ∀ a xs m, v = .ref a → Z a = some (LO xs m) → ToldAll Z rows xs.toList → RowsAt Z rows v
theorem RowsAt.mono {Z Z' : Zm} (h : Z.le Z') {rows : List T} {v : Value} (x : RowsAt Z rows v) : RowsAt Z' rows v := let ⟨a, xs, m, e, hz, k⟩ := x; ⟨a, xs, m, e, h _ _ hz, k.mono h⟩
noncomputable def OptRows (Z : Zm) : Option (List T) → Value → Prop
  | none, v => v = .none
  | some r, v => RowsAt Z r v
set_option maxHeartbeats 4000000 in
theorem law_put {p : JP} : ∀ (pl : List Nat) {A : Around} {c : JC} {E : JC → Prop} {Q : Value → JC → Prop} {t : T} {vt vp vr : Value} {rows : List T},
    A.depth + pl.length + 3 < recursionLimit → A.units + 3 * pl.length + 80 < cLine → A.handled = none → Told c.Z t vt → PlaceAt c.Z pl vp → RowsAt c.Z rows vr → t.Ok → Oks rows → t.size + sizes rows ≤ 50000 → (∀ n ∈ pl, n ≤ 100000) → pl.length ≤ 1000 →
    (∀ Z' v, c.Z.le Z' → OptRows Z' (put t pl rows) v → Q v { c with Z := Z' }) → jwp p A (call (.ref 834) [vt, vp, vr]) Q E c := by
  intro pl
  induction pl with
  | nil =>
    intro A c E Q t vt vp vr rows hroom hu hh ht hp hr tok rok hsz hk hpl h
    obtain ⟨Z, nss, own, g⟩ := c
    dsimp only at ht hp hr h
    refine jwp_turn (j_call (jcode_fn (F834 p.w.params) (by omega) (binds := [(Str.ofString "node", vt), (Str.ofString "place", vp), (Str.ofString "rows", vr)]) rfl fun L => ?_))
    refine j_cons (j_If (j_isTrueCompare1 (j_local (l := _) (List.mem_cons_self) rfl ?_)))
    refine j_Tuple (j_splicedNil ⟨Nat.zero_le _, fun e => ?_⟩)
    refine j_eqPlace (a := []) (b := []) hp.has ⟨e, #[], 0, rfl, has_own List.mem_cons_self, rfl, fun V V h => by simp at h⟩ (by show A.units + 3 + 64 < _; omega) fun r hr' => j_truthyBool ?_
    obtain rfl : r = true := hr'.mpr rfl
    refine ifT ?_
    refine j_cons (j_Return (j_local (l := _) List.mem_cons_self rfl (bodyQ_ret rfl (Turn.drop0 (Turn.done (h Z vr (Zm.le.refl _) ?_))))))
    simp only [put, OptRows]; exact hr
  | cons k r ih =>
    intro A c E Q t vt vp vr rows hroom hu hh ht hp hr tok rok hsz hk hpl h
    obtain ⟨Z, nss, own, g⟩ := c
    dsimp only at ht hp hr h
    obtain ⟨ap, xp, mp, rfl, hZp, hns⟩ := hp
    obtain ⟨tk, hk0⟩ := hns.2 0 k rfl
    have hxl : xp.size = r.length + 1 := by have := hns.1; simpa using this
    rw [Array.getElem?_toList] at hk0
    simp only [List.length_cons] at hroom hu hpl
    have hkk : k ≤ 100000 := hk k List.mem_cons_self
    refine jwp_turn (j_call (jcode_fn (F834 p.w.params) (by omega) (binds := [(Str.ofString "node", vt), (Str.ofString "place", .ref ap), (Str.ofString "rows", vr)]) rfl fun L => ?_))
    refine j_cons (j_If (j_isTrueCompare1 (j_local (l := _) (List.mem_cons_self) rfl ?_)))
    refine j_Tuple (j_splicedNil ⟨Nat.zero_le _, fun e => ?_⟩)
    refine j_eqPlace (a := k :: r) (b := []) ⟨ap, xp, mp, rfl, has_z hZp, hns⟩ ⟨e, #[], 0, rfl, has_own List.mem_cons_self, rfl, fun V V h => by simp at h⟩ (by show A.units + 3 + 64 < _; omega) fun b hb => j_truthyBool ?_
    obtain rfl : b = false := by cases b with | true => exact absurd (hb.mp rfl) (by simp) | false => rfl
    refine ifF ?_
    refine j_nil (j_cons (j_If (j_isTrueBoolOp (j_allTrueOr (j_isTrueCompare1 ?_)))))
    cases t with
    | leaf s =>
      obtain ⟨aq, tq, nq, rfl, hZq⟩ := told_leaf ht
      refine j_atT (v := .none) (i := 1) List.mem_cons_self rfl (has_z hZq) rfl rfl ?_
      refine j_cNone (j_is rfl (j_truthyBool ?_))
      refine ifB (show (Value.none == Value.none) = true from rfl) ?_
      refine j_cons (j_Return (j_cNone (bodyQ_ret rfl (Turn.drop0 (Turn.done (h Z .none (Zm.le.refl _) ?_))))))
      simp [put, OptRows]
    | node s ps =>
      obtain ⟨aq, tq, nq, l, ys, mq, rfl, hZq, hZl, hps⟩ := told_node ht
      have hyl := hps.length
      rw [Array.length_toList] at hyl
      have hps1 := length_le_sizes ps
      simp only [T_size_e1, T_size_e2] at hsz
      simp only [T_Ok_e1, T_Ok_e2] at tok
      refine j_atT (v := .ref l) (i := 1) List.mem_cons_self rfl (has_z hZq) rfl rfl ?_
      refine j_cNone (j_is rfl (j_truthyBool ?_))
      rw [show (Value.ref l == Value.none) = false from rfl]
      refine j_allTrueOr (j_isTrueCompare1 ?_)
      refine j_atT (v := .int k tk) (i := 0) List.mem_cons_self rfl (has_z hZp) ?_ hk0 ?_
      · rw [hxl]; unfold seqIndex?; simp
      refine j_B1 (m_len _) (b_len _) ?_
      refine j_atT (v := .ref l) (i := 1) List.mem_cons_self rfl (has_z hZq) rfl rfl ?_
      refine j_lenList (has_z hZl) (by omega) fun t5 => j_ge (j_truthyBool ?_)
      by_cases hge : (ys.size : Int) ≤ (k : Int)
      · rw [decide_eq_true hge]
        refine ifT ?_
        refine j_cons (j_Return (j_cNone (bodyQ_ret rfl (Turn.drop0 (Turn.done (h Z .none (Zm.le.refl _) ?_))))))
        have : ps[k]? = none := List.getElem?_eq_none (by omega)
        simp [put, this, OptRows]
      · rw [decide_eq_false hge]
        refine j_allTrueNilOr ?_
        refine ifF ?_
        have hkl : k < ps.length := by omega
        have hq : ps[k]? = some ps[k] := List.getElem?_eq_getElem hkl
        obtain ⟨vk, hvk, htk⟩ := hps.getT hq
        rw [Array.getElem?_toList] at hvk
        refine j_nil (j_cons (j_Assign (j_F3 (fd := f834) (g_law_put _) rfl rfl ?_)))
        refine j_Subscript (j_atT (v := .ref l) (i := 1) List.mem_cons_self rfl (has_z hZq) rfl rfl ?_)
        refine j_atT (v := .int k tk) (i := 0) List.mem_cons_self rfl (has_z hZp) ?_ hk0 ?_
        · rw [hxl]; unfold seqIndex?; simp
        refine j_getitemInPythonList (has_z hZl) (j_subPlain (j_listItem (v := vk) (has_z hZl) (by omega) (by omega) hvk ?_))
        refine j_Subscript (j_local (l := _) List.mem_cons_self rfl (j_sliceFrom (j_cInt fun t8 => fun sa => j_getitemInPythonTup (has_z hZp) (j_subPlain (j_tupFrom (k := 1) (has_z hZp) (has_own List.mem_cons_self) (by decide) (by omega) (by unfold sizeLine; omega) fun pa => ?_)))))
        refine j_local (l := _) List.mem_cons_self rfl ?_
        refine jwp_turn0 (Turn.freeze0 fun Z₁ le₁ h₁ => Turn.drop0 (Turn.drop0 (Turn.done ?_)))
        have hqs := size_le_of_get hq
        refine ih (t := ps[k]) (vp := .ref pa) (by show A.depth + 1 + r.length + 3 < _; omega) (by show A.units + 3 + 3 * r.length + 80 < _; omega) hh (htk.mono le₁) ⟨pa, _, 0, rfl, h₁, ?_⟩ (hr.mono le₁) (tok.2.mem (List.mem_of_getElem? hq)) rok (by omega) (fun n hn => hk n (List.mem_cons_of_mem _ hn)) (by omega) fun Z₂ v le₂ hv => ?_
        · refine ⟨by simp [hxl], fun i n hi => ?_⟩
          obtain ⟨t', e'⟩ := hns.2 (i + 1) n (by simpa using hi)
          refine ⟨t', ?_⟩
          simpa [Nat.add_comm] using e'
        have le := le₁.trans le₂
        refine j_store0 (j_cons (j_If (j_isTrueCompare1 (j_local (l := _) List.mem_cons_self rfl (j_cNone ?_)))))
        have hput : put (.node s ps) (k :: r) rows = match put ps[k] r rows with | none => none | some inner => some [opened s (ps.take k ++ inner ++ ps.drop (k + 1))] := by
          simp only [put, hq]
          all_goals (cases put ps[k] r rows <;> rfl)
        cases hpi : put ps[k] r rows with
        | none =>
          rw [hpi] at hv hput
          obtain rfl : v = .none := hv
          refine j_is rfl (j_truthyBool ?_)
          refine ifB (show (Value.none == Value.none) = true from rfl) ?_
          refine j_cons (j_Return (j_cNone (bodyQ_ret rfl (Turn.done (h Z₂ .none le ?_)))))
          rw [hput]; rfl
        | some inner =>
          rw [hpi] at hv hput
          obtain ⟨ai, xi, mi, rfl, hZi, hti⟩ := hv
          refine j_is rfl (j_truthyBool ?_)
          refine ifN (show (Value.ref ai == Value.none) = false from rfl) ?_
          have hisz := put_size r ps[k] rows inner hpi
          have hil := length_le_sizes inner
          have htil := hti.length
          rw [Array.length_toList] at htil
          have hspl := sizes_split hq
          refine j_nil (j_cons (j_Return (j_List1 (j_F2 (fd := f801) (g_law_opened _) rfl rfl ?_))))
          refine j_atT (v := .str s tq) (i := 0) (List.mem_cons_self) rfl (has_z (le _ _ hZq)) rfl rfl ?_
          refine j_BinOp (j_BinOp (j_Subscript (j_atT (v := .ref l) (i := 1) List.mem_cons_self rfl (has_z (le _ _ hZq)) rfl rfl ?_)))
          refine j_sliceTo (j_atT (v := .int k tk) (i := 0) List.mem_cons_self rfl (has_z (le _ _ hZp)) ?_ hk0 ?_)
          · rw [hxl]; unfold seqIndex?; simp
          intro sb
          refine j_getitemInPythonList (has_z (le _ _ hZl)) (j_subPlain (j_listTo (k := k) (has_z (le _ _ hZl)) (has_own List.mem_cons_self) (by omega) (by unfold sizeLine; omega) fun la => ?_))
          refine j_local (l := _) List.mem_cons_self rfl (j_addList (items := (ys.toList.take k).toArray) (n := 0) (items2 := xi) (n2 := mi) (has_own List.mem_cons_self) (has_z hZi) ?_ fun lb => ?_)
          · have : ((ys.toList.take k).toArray).size ≤ ys.size := by simp; omega
            unfold sizeLine; omega
          refine j_Subscript (j_atT (v := .ref l) (i := 1) List.mem_cons_self rfl (has_z (le _ _ hZq)) rfl rfl ?_)
          refine j_sliceFrom (j_BinOp (j_atT (v := .int k tk) (i := 0) List.mem_cons_self rfl (has_z (le _ _ hZp)) ?_ hk0 ?_))
          · rw [hxl]; unfold seqIndex?; simp
          refine j_cInt fun t14 => j_add fun t15 sc => ?_
          rw [show ((k : Int) + 1) = ((k + 1 : Nat) : Int) by omega]
          refine j_getitemInPythonList (has_z (le _ _ hZl)) (j_subPlain (j_listFrom (k := k + 1) (has_z (le _ _ hZl)) (has_own List.mem_cons_self) (by omega) (by unfold sizeLine; omega) fun lc => ?_))
          refine j_addList (items := (ys.toList.take k).toArray ++ xi) (n := 0) (items2 := (ys.toList.drop (k + 1)).toArray) (n2 := 0) (has_own (List.mem_cons_of_mem _ (List.mem_cons_of_mem _ List.mem_cons_self))) (has_own List.mem_cons_self) ?_ fun ld => ?_
          · have h1 : ((ys.toList.take k).toArray).size ≤ ys.size := by simp; omega
            have h2 : ((ys.toList.drop (k + 1)).toArray).size ≤ ys.size := by simp
            rw [Array.size_append]
            unfold sizeLine; omega
          have hall : ToldAll Z₂ (ps.take k ++ inner ++ ps.drop (k + 1)) (((ys.toList.take k).toArray ++ xi) ++ (ys.toList.drop (k + 1)).toArray).toList := by
            have h0 := hps.mono le
            simp only [Array.toList_append]
            exact ((h0.take k).append hti).append (h0.drop (k + 1))
          have hoks : Oks (ps.take k ++ inner ++ ps.drop (k + 1)) := Oks_append.mpr ⟨Oks_append.mpr ⟨Oks_take k tok.2, put_ok r ps[k] rows inner (tok.2.mem (List.mem_of_getElem? hq)) rok hpi⟩, Oks_drop (k + 1) tok.2⟩
          have hss : sizes (ps.take k ++ inner ++ ps.drop (k + 1)) ≤ 50000 := by rw [sizes_append, sizes_append]; omega
          refine law_opened (by show A.depth + 1 < _; omega) hh (has_own List.mem_cons_self) hall (hoks.leaf_ne tok.1) ?_ fun Z₃ v le₃ hv₃ ld' => bodyQ_ret rfl ?_
          · have h1 := sizes_openedParts s (ps.take k ++ inner ++ ps.drop (k + 1))
            have h2 := length_le_sizes (openedParts s (ps.take k ++ inner ++ ps.drop (k + 1)))
            omega
          · refine Turn.freeze0 fun Z₄ le₄ h₄ => Turn.drop0 (Turn.drop0 (Turn.drop0 (Turn.drop0 (Turn.drop0 (Turn.drop0 (Turn.done (h Z₄ (.ref ld') ((le.trans le₃).trans le₄) ?_)))))))
            rw [hput]
            exact ⟨ld', #[v], 0, rfl, h₄, .one (hv₃.mono le₄)⟩
end Jf.Internal
namespace Jf.Internal
open PySem PySem.W PySem.Calls PyProof.Rows MeetsSeq
section
variable {p : JP} {A : Around} {c : JC} {E : JC → Prop} {Q : Value → JC → Prop} {l r : Addr} {items items2 : Array Value} {n n2 : Nat}
theorem j_addTup (hl : c.Has l (TO items n)) (hr : c.Has r (TO items2 n2)) (h2 : ¬ items2.isEmpty = true) (hsz : items.size + items2.size ≤ sizeLine) (h0 : items.isEmpty = true → Q (.ref r) c)
    (h : ∀ a, Q (.ref a) (c.psh a (TO (items ++ items2) 0))) : jwp p A (binaryOp .Add (.ref l) (.ref r)) Q E c := .of fun s H => by
  by_cases h1 : items.isEmpty = true
  · exact concat_meets ⟨_, hl.get H, rfl⟩ ⟨_, hr.get H, rfl⟩ noFill_tuple_add seq_tuple_add F.slot_tuple_add F.entry_tuple_add (F.args_tuple_add_2 _ _) (AutoSeq1.tuple___add___tuple_tuple_0 l items n r items2 n2 h1) ⟨hl.get H, hr.get H, ⟨c, H.toks _, h0 h1⟩⟩
  · exact PySem.P.add_tuple (has_tup hl H) (has_tup hr H) h1 h2 ⟨_, H.push _ rfl s.toks, h _⟩ hsz
end
theorem j_Tuple1 {p : JP} {A : Around} {c : JC} {E : JC → Prop} {env : Env} {e : Expr} {k : Nat} {pos : Pos} {Q : Value → JC → Prop}
    (h : jwp p A (eval e env) (fun v c₁ => ∀ a, Q (.ref a) (c₁.psh a (TO #[v] 0))) E c)
    (hs : autoParam (starEach [e] env = [(false, eval e env)]) rt) : jwp p A (eval (.Tuple [e] k pos) env) Q E c := by
  refine j_Tuple ?_
  rw [hs]
  exact j_splicedCons (h.mono (fun v V q => j_splicedNil ⟨by show 1 ≤ sizeLine; unfold sizeLine; omega, q⟩) fun V V x => x)
theorem NatsAt.snoc {vs : List Value} {ns : List Nat} {k : Nat} {t : Tok} (h : NatsAt vs ns) : NatsAt (vs ++ [.int (k : Int) t]) (ns ++ [k]) := by
  refine ⟨by simp [h.1], fun i n hi => ?_⟩
  rw [List.getElem?_append] at hi ⊢
  rw [h.1]
  split at hi
  · rename_i hlt
    rw [if_pos hlt]; exact h.2 i n hi
  · rename_i hlt
    rw [if_neg hlt]
    cases hz : i - ns.length with
    | zero => rw [hz] at hi; simp at hi; subst hi; exact ⟨t, rfl⟩
    | succ j => rw [hz] at hi; simp at hi
mutual
noncomputable def places : T → List Nat → List (List Nat × T)
  | .leaf s, pl => [(pl, .leaf s)]
  | .node s ps, pl => (pl, .node s ps) :: placesL ps pl 0
noncomputable def placesL : List T → List Nat → Nat → List (List Nat × T)
  | [], _, _ => []
  | t :: ts, pl, k => places t (pl ++ [k]) ++ placesL ts pl (k + 1)
end
theorem places_e1 : ∀ (x : List Nat) (s : Str), places (T.leaf s) x = [(x, T.leaf s)] := by intros; rfl
theorem places_e2 : ∀ (x : List Nat) (s : Str) (ps : List T), places (T.node s ps) x = (x, T.node s ps) :: placesL ps x 0 := by intros; rfl
theorem placesL_e1 : ∀ (x : List Nat) (x_1 : Nat), placesL [] x x_1 = [] := by intros; rfl
theorem placesL_e2 : ∀ (x : List Nat) (x_1 : Nat) (t : T) (ts : List T), placesL (t :: ts) x x_1 = places t (x ++ [x_1]) ++ placesL ts x (x_1 + 1) := by intros; rfl
inductive PairAt (Z : Zm) (x : List Nat × T) (v : Value) : Prop
  | mk : ∀ a vp vt n, v = .ref a → Z a = some (TO #[vp, vt] n) → PlaceAt Z x.1 vp → Told Z x.2 vt → PairAt Z x v
theorem PairAt.mono {Z Z' : Zm} (h : Z.le Z') {x : List Nat × T} {v : Value} (H : PairAt Z x v) : PairAt Z' x v :=
  let ⟨a, vp, vt, n, e, z, hp, ht⟩ := H; ⟨a, vp, vt, n, e, h _ _ z, hp.mono h, Told.mono h ht⟩
inductive All2 {α : Type} (R : α → Value → Prop) : List α → List Value → Prop
  | nil : All2 R [] []
  | cons {x v xs vs} : R x v → All2 R xs vs → All2 R (x :: xs) (v :: vs)
theorem All2.append {α : Type} {R : α → Value → Prop} : ∀ {xs ys : List α} {vs ws : List Value}, All2 R xs vs → All2 R ys ws → All2 R (xs ++ ys) (vs ++ ws) := fun a b => by
  induction a with
  | nil => exact b
  | cons h t ih => exact .cons h ih
theorem All2.mono {α : Type} {R R' : α → Value → Prop} (h : ∀ x v, R x v → R' x v) : ∀ {xs : List α} {vs : List Value}, All2 R xs vs → All2 R' xs vs := fun a => by
  induction a with
  | nil => exact .nil
  | cons a t ih => exact .cons (h _ _ a) ih
theorem All2.length {α : Type} {R : α → Value → Prop} : ∀ {xs : List α} {vs : List Value}, All2 R xs vs → vs.length = xs.length
  | _, _, .nil => rfl
  | _, _, .cons _ t => by simp [t.length]
end Jf.Internal
namespace Jf.Internal
open PySem PySem.W PySem.Calls PyProof.Rows
theorem placesL_append : ∀ (a b : List T) (pl : List Nat) (k : Nat), placesL (a ++ b) pl k = placesL a pl k ++ placesL b pl (k + a.length)
  | [], b, pl, k => by simp [placesL_e1, placesL_e2]
  | t :: a, b, pl, k => by
    simp only [List.cons_append, placesL_e1, placesL_e2, placesL_append a b pl (k + 1), List.append_assoc, List.length_cons]
    congr 3; omega
theorem placesL_snoc {ps : List T} {i : Nat} {q : T} (h : ps[i]? = some q) (pl : List Nat) : placesL (ps.take (i + 1)) pl 0 = placesL (ps.take i) pl 0 ++ places q (pl ++ [i]) := by
  have hi : i < ps.length := (List.getElem?_eq_some_iff.mp h).1
  rw [list_take_succ h, placesL_append]
  simp only [placesL_e1, placesL_e2, List.append_nil, List.length_take, Nat.zero_add]
  rw [Nat.min_eq_left (by omega)]
mutual
theorem places_length : ∀ (t : T) (pl : List Nat), (places t pl).length ≤ t.size
  | .leaf s, pl => by simp [places_e1, places_e2, T_size_e1, T_size_e2]
  | .node s ps, pl => by
    have := placesL_length ps pl 0
    simp only [places_e1, places_e2, List.length_cons, T_size_e1, T_size_e2]; omega
theorem placesL_length : ∀ (ts : List T) (pl : List Nat) (k : Nat), (placesL ts pl k).length ≤ sizes ts
  | [], _, _ => by simp [placesL_e1, placesL_e2, sizes_e1, sizes_e2]
  | t :: ts, pl, k => by
    have h1 := places_length t (pl ++ [k])
    have h2 := placesL_length ts pl (k + 1)
    simp only [placesL_e1, placesL_e2, List.length_append, sizes_e1, sizes_e2]; omega
end
theorem sizes_take_le (ps : List T) (i : Nat) : sizes (ps.take i) ≤ sizes ps := by
  conv => rhs; rw [← List.take_append_drop i ps]
  rw [sizes_append]; omega
theorem deep_le_of_get {ps : List T} {i : Nat} {q : T} (h : ps[i]? = some q) : q.deep ≤ deeps ps := by
  induction ps generalizing i with
  | nil => simp at h
  | cons t ps ih =>
    simp only [deeps_e1, deeps_e2]
    cases i with
    | zero => simp at h; subst h; omega
    | succ i => simp at h; have := ih h; omega
inductive PairsAt (Z : Zm) (l : List (List Nat × T)) (v : Value) : Prop
  | mk : ∀ a xs m, v = .ref a → Z a = some (LO xs m) → All2 (PairAt Z) l xs.toList → PairsAt Z l v
set_option maxHeartbeats 4000000 in
theorem law_places {p : JP} : ∀ (N : Nat) (t : T), t.size ≤ N → ∀ {A : Around} {c : JC} {E : JC → Prop} {Q : Value → JC → Prop} {vt vp : Value} {pl : List Nat},
    A.depth + t.deep + 2 < recursionLimit → A.handled = none → Told c.Z t vt → PlaceAt c.Z pl vp → t.size ≤ 50000 → pl.length + t.deep ≤ 1000 →
    (∀ Z' v, c.Z.le Z' → PairsAt Z' (places t pl) v → Q v { c with Z := Z' }) → jwp p A (call (.ref 820) [vt, vp]) Q E c := by
  intro N
  induction N with
  | zero => intro t ht; exact absurd ht (by have := t.size_pos; omega)
  | succ N ih =>
    intro t htN A c E Q vt vp pl hroom hh ht hp hsz hpl h
    obtain ⟨Z, nss, own, g⟩ := c
    dsimp only at ht hp h
    refine jwp_turn (j_call (jcode_fn (F820 p.w.params) (by omega) (binds := [(Str.ofString "node", vt), (Str.ofString "place", vp)]) rfl fun L => ?_))
    refine j_cons (j_Assign (j_List1 (j_Tuple2 (j_local (l := _) List.mem_cons_self rfl (j_local (l := _) List.mem_cons_self rfl fun ta la => ?_)))))
    refine j_store0 ?_
    refine jwp_turn0 (Turn.swap (Turn.freeze0 fun Z₁ le₁ h₁ => Turn.done ?_))
    have hpair : PairAt Z₁ (pl, t) (.ref ta) := ⟨ta, vp, vt, 0, rfl, h₁, hp.mono le₁, ht.mono le₁⟩
    refine j_cons (j_If (j_isTrueCompare1 ?_))
    cases t with
    | leaf s =>
      obtain ⟨aq, tq, nq, rfl, hZq⟩ := told_leaf ht
      refine j_atT (v := .none) (i := 1) List.mem_cons_self rfl (has_z (le₁ _ _ hZq)) rfl rfl ?_
      refine j_cNone (j_isNot rfl (j_truthyBool ?_))
      refine ifN (show (!(Value.none == Value.none)) = false from rfl) ?_
      refine j_nil (j_cons (j_Return (j_local (l := _) List.mem_cons_self rfl (bodyQ_ret rfl (Turn.freeze0 fun Z₂ le₂ h₂ => Turn.done (h Z₂ _ (le₁.trans le₂) ⟨la, #[.ref ta], 0, rfl, h₂, ?_⟩))))))
      simp only [places_e1, places_e2]
      exact .cons (hpair.mono le₂) .nil
    | node s ps =>
      obtain ⟨aq, tq, nq, l, ys, mq, rfl, hZq, hZl, hps⟩ := told_node ht
      have hyl := hps.length
      rw [Array.length_toList] at hyl
      have hps1 := length_le_sizes ps
      simp only [T_size_e1, T_size_e2] at hsz htN
      simp only [T_deep_e1, T_deep_e2] at hroom hpl
      refine j_atT (v := .ref l) (i := 1) List.mem_cons_self rfl (has_z (le₁ _ _ hZq)) rfl rfl ?_
      refine j_cNone (j_isNot rfl (j_truthyBool ?_))
      refine ifB (show (!(Value.ref l == Value.none)) = true from rfl) ?_
      obtain ⟨ap, xp, mp, rfl, hZp, hns⟩ := hp
      have hxl := hns.1
      rw [Array.length_toList] at hxl
      refine j_cons (j_For (E' := fun V => False) (iter_range ys.size) (fun i c₁ => ∀ X : Prop, (∀ Z' D zs k, c₁ = ⟨Z', (L, [(Str.ofString "found", .ref D), (Str.ofString "place", .ref ap), (Str.ofString "node", .ref aq)]) :: nss, (D, LO zs k) :: own, g⟩ → Z₁.le Z' → All2 (PairAt Z') ((pl, .node s ps) :: placesL (ps.take i) pl 0) zs.toList → X) → X)
        hh NotRaised.never go_name ?_ (by intros; trivial) ?_ ?_)
      · refine j_B1 (m_range _) (b_range _) (j_B1 (m_len _) (b_len _) ?_)
        refine j_atT (v := .ref l) (i := 1) List.mem_cons_self rfl (has_z (le₁ _ _ hZq)) rfl rfl ?_
        refine j_lenList (has_z (le₁ _ _ hZl)) (by omega) fun t4 => j_range fun r a b d => j_iterRange (by omega) (has_own List.mem_cons_self) fun it o ho => ⟨it, o, ⟨Z₁, (L, [(Str.ofString "found", .ref la), (Str.ofString "place", .ref ap), (Str.ofString "node", .ref aq)]) :: nss, (la, LO #[.ref ta] 0) :: own, g⟩, rfl, ho, ?_, fun V kK => kK Z₁ la #[.ref ta] 0 rfl (Zm.le.refl _) ?_⟩
        · exact Conv.both ⟨rfl, rfl, rfl, trivial⟩ (List.Perm.refl _) ((List.sublist_cons_self _ _).cons_cons _)
        · simp only [List.take_zero, placesL_e1, placesL_e2]; exact .cons hpair .nil
      · intro i v c₁ it o hi hX6 ho hX8
        obtain ⟨tv, rfl⟩ := hX6
        refine hX8 _ fun Z' D zs k eS le' hz => ?_
        clear hX8
        subst eS
        have hil : i < ps.length := by omega
        have hq : ps[i]? = some ps[i] := List.getElem?_eq_getElem hil
        obtain ⟨vk, hvk, htk⟩ := hps.getT hq
        rw [Array.getElem?_toList] at hvk
        have le := le₁.trans le'
        have hqs := size_le_of_get hq
        have hqd := deep_le_of_get hq
        have hzl := hz.length
        rw [Array.length_toList, List.length_cons] at hzl
        have hpt := placesL_length (ps.take i) pl 0
        have hst := sizes_take_le ps i
        refine j_assignName (j_store0 (j_cons (j_Assign (j_BinOp (j_local (l := _) List.mem_cons_self rfl (j_F2 (fd := f820) (g_law_places _) rfl rfl ?_))))))
        refine j_Subscript (j_atT (v := .ref l) (i := 1) List.mem_cons_self rfl (has_z (le _ _ hZq)) rfl rfl ?_)
        refine j_local (l := _) List.mem_cons_self rfl (j_getitemInPythonList (has_z (le _ _ hZl)) (j_subPlain (j_listItem (v := vk) (has_z (le _ _ hZl)) (by omega) (by omega) hvk ?_)))
        have go : ∀ (Z₂ : Zm) (vp' : Value), Z'.le Z₂ → PlaceAt Z₂ (pl ++ [i]) vp' → jwp p (A.deeper (callEnv f820 L 820)) (call (.ref 820) [vk, vp']) (fun b c₂ => ∃ Z₃, Z₂.le Z₃ ∧ PairsAt Z₃ (places ps[i] (pl ++ [i])) b ∧ c₂ = ⟨Z₃, (L, [(Str.ofString "k", .int (i : Int) tv), (Str.ofString "found", .ref D), (Str.ofString "place", .ref ap), (Str.ofString "node", .ref aq)]) :: nss, (it, o) :: (D, LO zs k) :: own, g⟩) (fun V => False)
            ⟨Z₂, (L, [(Str.ofString "k", .int (i : Int) tv), (Str.ofString "found", .ref D), (Str.ofString "place", .ref ap), (Str.ofString "node", .ref aq)]) :: nss, (it, o) :: (D, LO zs k) :: own, g⟩ := by
          intro Z₂ vp' le₂ hpp
          refine ih ps[i] (by omega) (by show A.depth + 1 + ps[i].deep + 2 < _; omega) hh ((htk.mono le).mono le₂) hpp (by omega) (by simp only [List.length_append, List.length_cons, List.length_nil]; omega) fun Z₃ b le₃ hb => ⟨Z₃, le₃, hb, rfl⟩
        have fin : ∀ (Z₂ : Zm) (b : Value) (c₂ : JC), Z'.le Z₂ → (∃ Z₃, Z₂.le Z₃ ∧ PairsAt Z₃ (places ps[i] (pl ++ [i])) b ∧ c₂ = ⟨Z₃, (L, [(Str.ofString "k", .int (i : Int) tv), (Str.ofString "found", .ref D), (Str.ofString "place", .ref ap), (Str.ofString "node", .ref aq)]) :: nss, (it, o) :: (D, LO zs k) :: own, g⟩) →
            ∃ Z₃ ar xr mr, b = .ref ar ∧ Z'.le Z₃ ∧ Z₃ ar = some (LO xr mr) ∧ All2 (PairAt Z₃) (places ps[i] (pl ++ [i])) xr.toList ∧ c₂ = ⟨Z₃, (L, [(Str.ofString "k", .int (i : Int) tv), (Str.ofString "found", .ref D), (Str.ofString "place", .ref ap), (Str.ofString "node", .ref aq)]) :: nss, (it, o) :: (D, LO zs k) :: own, g⟩ := by
          intro Z₂ b c₂ le₂ hX
          obtain ⟨Z₃, le₃, ⟨ar, xr, mr, e1, e2, e3⟩, e4⟩ := hX
          exact ⟨Z₃, ar, xr, mr, e1, le₂.trans le₃, e2, e3, e4⟩
        have rest : ∀ (Z₂ : Zm) (vp' : Value), Z'.le Z₂ → PlaceAt Z₂ (pl ++ [i]) vp' → _ := fun Z₂ vp' le₂ hpp => (go Z₂ vp' le₂ hpp).mono (fun b c₂ q => fin Z₂ b c₂ le₂ q) fun V V x => x
        refine j_BinOp (j_local (l := _) List.mem_cons_self rfl (j_Tuple1 (j_local (l := _) List.mem_cons_self rfl fun tb => ?_)))
        refine j_addTup (items := xp) (n := mp) (items2 := #[.int (i : Int) tv]) (n2 := 0) (has_z (le _ _ hZp)) (has_own List.mem_cons_self) (by simp) (by show xp.size + 1 ≤ _; unfold sizeLine; omega) (fun he => ?_) fun ta' => ?_
        · have hpe : pl = [] := by
            have : xp.size = 0 := by simpa using he
            exact List.eq_nil_of_length_eq_zero (by omega)
          refine jwp_turn0 (Turn.freeze0 fun Z₂ le₂ h₂ => Turn.done ?_)
          refine (rest Z₂ _ le₂ ⟨tb, _, 0, rfl, h₂, by subst hpe; exact NatsAt.snoc (vs := []) (ns := []) ⟨rfl, fun V V h => by simp at h⟩⟩).mono (fun b c₂ q => ?_) fun V V x => x
          obtain ⟨Z₃, ar, xr, mr, rfl, le₃, hZr, hall, rfl⟩ := q
          have hrl := hall.length
          have hpl2 := places_length ps[i] (pl ++ [i])
          rw [Array.length_toList] at hrl
          refine j_addList (items := zs) (n := k) (items2 := xr) (n2 := mr) (has_own (List.mem_cons_of_mem _ List.mem_cons_self)) (has_z hZr) (by unfold sizeLine; omega) fun D' => ?_
          refine j_store0 (j_nil ⟨⟨Z₃, (L, [(Str.ofString "found", .ref D'), (Str.ofString "place", .ref ap), (Str.ofString "node", .ref aq)]) :: nss, (D', LO (zs ++ xr) 0) :: own, g⟩, ?_, fun V kK => kK Z₃ D' (zs ++ xr) 0 rfl (le'.trans le₃) ?_⟩)
          · exact Conv.both ⟨rfl, rfl, rfl, trivial⟩ (List.Perm.swap _ _ _) (((List.sublist_cons_self _ _).cons_cons _).cons_cons _)
          · rw [placesL_snoc hq, Array.toList_append, ← List.cons_append]
            exact (hz.mono fun V V x => x.mono le₃).append hall
        · refine jwp_turn0 (Turn.freeze0 fun Z₂ le₂ h₂ => Turn.drop0 (Turn.done ?_))
          refine (rest Z₂ _ le₂ ⟨ta', _, 0, rfl, h₂, by rw [Array.toList_append]; exact hns.snoc⟩).mono (fun b c₂ q => ?_) fun V V x => x
          obtain ⟨Z₃, ar, xr, mr, rfl, le₃, hZr, hall, rfl⟩ := q
          have hrl := hall.length
          have hpl2 := places_length ps[i] (pl ++ [i])
          rw [Array.length_toList] at hrl
          refine j_addList (items := zs) (n := k) (items2 := xr) (n2 := mr) (has_own (List.mem_cons_of_mem _ List.mem_cons_self)) (has_z hZr) (by unfold sizeLine; omega) fun D' => ?_
          refine j_store0 (j_nil ⟨⟨Z₃, (L, [(Str.ofString "found", .ref D'), (Str.ofString "place", .ref ap), (Str.ofString "node", .ref aq)]) :: nss, (D', LO (zs ++ xr) 0) :: own, g⟩, ?_, fun V kK => kK Z₃ D' (zs ++ xr) 0 rfl (le'.trans le₃) ?_⟩)
          · exact Conv.both ⟨rfl, rfl, rfl, trivial⟩ (List.Perm.swap _ _ _) (((List.sublist_cons_self _ _).cons_cons _).cons_cons _)
          · rw [placesL_snoc hq, Array.toList_append, ← List.cons_append]
            exact (hz.mono fun V V x => x.mono le₃).append hall
      · intro c₁ hX
        refine hX _ fun Z' D zs k eS le' hz => ?_
        clear hX
        subst eS
        refine j_nil (j_nil (j_cons (j_Return (j_local (l := _) List.mem_cons_self rfl (bodyQ_ret rfl (Turn.freeze0 fun Z₂ le₂ h₂ => Turn.done (h Z₂ _ ((le₁.trans le').trans le₂) ⟨D, zs, k, rfl, h₂, ?_⟩)))))))
        rw [hyl, List.take_length] at hz
        simp only [places_e1, places_e2]
        exact hz.mono fun V V x => x.mono le₂
theorem adjust_to (k n : Nat) : Builtin.Slice.sliceAdjust none (some (k : Int)) 1 (n : Int) = (0, ((min k n : Nat) : Int)) := by
  unfold Builtin.Slice.sliceAdjust
  have h1 : ¬ ((1 : Int) < 0) := by omega
  have h2 : ¬ ((k : Int) < 0) := by omega
  simp only [h1, h2, if_false]
  congr 1
  omega
theorem places_to (m : Nat) : Builtin.Slice.slicePlaces 0 (m : Int) 1 = m := by
  unfold Builtin.Slice.slicePlaces
  have h1 : (1 : Int) > 0 := by omega
  simp only [h1, if_true, Int.ediv_one]
  split <;> omega
section
variable {prog : Program} {w : World} {A : Around} {E : Value → Shared → Prop} {s : Shared}
theorem sliceApplied_to {sl : Addr} {k n : Nat} {u : Tok} {Q : Int × Int × Nat → Shared → Prop} (hs : s.heap.IsSliceOf sl .none (.int k u) .none) (h : Q (0, 1, min k n) s) :
    wpAny (model prog w) A (Builtin.Slice.sliceApplied (.ref sl) (pure (n : Int))) Q E s := by
  rcases id hs with ⟨os, hos, hcs, hds⟩
  unfold Builtin.Slice.sliceApplied Builtin.Slice.sliceFields
  refine wpAny_bind (wpAny_bind (wpAny_field hos hds (x := .none) rfl (wpAny_bind (wpAny_field hos hds (x := .int k u) rfl (wpAny_bind (wpAny_field hos hds (x := .none) rfl (wpAny_pure ?_)))))))
  refine wpAny_bind (slicePart_none ?_)
  show wpAny _ _ (if ((1 : Int) == 0) = true then _ else _) _ _ s
  rw [if_neg (by decide)]
  refine wpAny_bind (slicePart_none (wpAny_bind (slicePart_int (wpAny_bind (wpAny_pure ?_)))))
  show wpAny _ _ (match Builtin.Slice.sliceAdjust none (some (k : Int)) 1 (n : Int) with | (lo, hi) => pure (lo, (1 : Int), Builtin.Slice.slicePlaces lo hi 1)) _ _ s
  rw [adjust_to k n]
  show wpAny _ _ (pure ((0 : Int), (1 : Int), Builtin.Slice.slicePlaces 0 ((min k n : Nat) : Int) 1)) _ _ s
  rw [places_to]
  exact wpAny_pure h
theorem pick_to (xs : Array Value) (k : Nat) : ((List.range k).filterMap fun (j : Nat) => xs[((0 : Int) + (j : Int) * 1).toNat]?).toArray = (xs.toList.take k).toArray := by
  have e : (fun (j : Nat) => xs[((0 : Int) + (j : Int) * 1).toNat]?) = fun j => xs[0 + j]? := by
    funext j
    have : ((0 : Int) + (j : Int) * 1).toNat = 0 + j := by omega
    rw [this]
  rw [e]
  have := pick_run xs 0 k
  rw [List.filterMap_map] at this
  have e2 : ((fun x => xs[x]?) ∘ fun x => 0 + x) = fun j => xs[0 + j]? := rfl
  rw [e2] at this
  rw [this, List.drop_zero]
theorem getItem_tuple_to {t sl : Addr} {items : Array Value} {k : Nat} {u : Tok} {Q : Value → Shared → Prop} (ht : IsTup s.heap t items) (hs : s.heap.IsSliceOf sl .none (.int k u) .none)
    (h0 : items.size ≤ k → Q (.ref t) s) (h : k < items.size → Q (.ref s.heap.objs.size) { s with heap := s.heap.push { cls := .type "tuple", data := .seq (items.toList.take k).toArray } })
    (hsz : items.size ≤ sizeLine) : wpAny (model prog w) A (getItem (.ref t) (.ref sl)) Q E s := by
  have hdrop : sizeOk (.seq (items.toList.take k).toArray) := by
    show (items.toList.take k).toArray.size ≤ sizeLine
    rw [List.size_toArray, List.length_take, Array.length_toList]
    omega
  rcases id hs with ⟨os, hos, hcs, hds⟩
  have hTs : s.TypeIs (.ref sl) "slice" := ⟨os, hos, hcs⟩
  unfold getItem
  try with_reducible refine wpAny_holding ?_
  first | refine wpAny_bind (wpAny_pure ?_) | skip
  refine wpAny_bind (wpAny_sequenceKey ht.typeIs (by decide) ?_)
  refine wpAny_bind (wpAny_callSpecial?_slot (name := Str.ofString "__getitem__") ht.typeIs F.slot_tuple_getitem
    (wpAny_call_entry F.slot_tuple_getitem ht.typeIs F.entry_tuple_getitem ?_ (F.args_tuple_getitem_2 _ _)))
  show wpAny _ _ (Builtin.Tuple.tupleItemsOf (.ref t) >>= _) _ _ s
  refine wpAny_bind (tupleItemsOf_ ht ?_)
  refine wpAny_bind (wpAny_typeOf hTs ?_)
  rw [if_pos (by decide)]
  refine wpAny_bind (sliceApplied_to hs ?_)
  show wpAny _ _ (if ((0 : Int) == 0 && (1 : Int) == 1 && (min k items.size) == items.size) = true then _ else _) _ _ s
  by_cases hk : k < items.size
  · have hno : ¬ (((0 : Int) == 0 && (1 : Int) == 1 && (min k items.size) == items.size) = true) := by
      have : (min k items.size == items.size) = false := by rw [beq_eq_false_iff_ne]; omega
      rw [this]; simp
    rw [if_neg hno, show min k items.size = k by omega, pick_to items k]
    have h := h hk
    first
      | exact wpAny_bind (m := Builtin.Tuple.tupleExact _) (wpAny_newObj_type (wpAny_pure ⟨_, rfl, wpAny_pure h⟩) hdrop)
      | exact wpAny_bind (m := Builtin.Tuple.tupleExact _) (wpAny_newObj_type (wpAny_bind (wpAny_pure (wpAny_pure ⟨_, rfl, wpAny_pure h⟩))) hdrop)
      | exact wpAny_bind (wpAny_bind (m := Builtin.Tuple.tupleExact _) (wpAny_newObj_type (wpAny_pure (wpAny_pure ⟨_, rfl, wpAny_pure h⟩)) hdrop))
      | exact wpAny_bind (wpAny_bind (m := Builtin.Tuple.tupleExact _) (wpAny_newObj_type (wpAny_pure ⟨_, rfl, wpAny_pure h⟩) hdrop))
  · have hyes : ((0 : Int) == 0 && (1 : Int) == 1 && (min k items.size) == items.size) = true := by
      have : (min k items.size == items.size) = true := by rw [beq_iff_eq]; omega
      rw [this]; rfl
    rw [if_pos hyes]
    have h0 := h0 (by omega)
    refine wpAny_bind ?_
    unfold Builtin.Tuple.tupleIsExact
    refine wpAny_bind (wpAny_typeOf ht.typeIs (wpAny_pure ?_))
    rw [if_pos (by decide)]
    first
      | exact wpAny_bind (wpAny_rule (wpAny_pure ⟨_, rfl, wpAny_pure h0⟩))
      | exact wpAny_bind (wpAny_bind (wpAny_rule (wpAny_pure ⟨_, rfl, wpAny_pure h0⟩)))
end
section
variable {p : JP} {A : Around} {c : JC} {E : JC → Prop} {Q : Value → JC → Prop} {l sl : Addr} {items : Array Value} {n : Nat} {u : Tok}
theorem j_tupTo {k : Nat} (ho : c.Has l (TO items n)) (hs : c.Has sl (SO .none (.int k u))) (hsz : items.size ≤ sizeLine) (h0 : items.size ≤ k → Q (.ref l) c) (h : k < items.size → ∀ a, Q (.ref a) (c.psh a (TO (items.toList.take k).toArray 0))) :
    jwp p A (getItem (.ref l) (.ref sl)) Q E c := .of fun s H =>
  getItem_tuple_to ⟨_, has_tup ho H, rfl, _, rfl⟩ ⟨_, hs.get H, rfl, rfl⟩ (fun hk => ⟨c, H, h0 hk⟩) (fun hk => ⟨_, H.push _ rfl s.toks, h hk _⟩) hsz
end
theorem All2.get {α : Type} {R : α → Value → Prop} : ∀ {xs : List α} {vs : List Value} {i : Nat} {x : α}, All2 R xs vs → xs[i]? = some x → ∃ v, vs[i]? = some v ∧ R x v := fun {xs vs i x} a e => by
  induction a generalizing i with
  | nil => cases e
  | cons h t ih => cases i with
    | zero => cases e; exact ⟨_, rfl, h⟩
    | succ i => exact ih e
noncomputable abbrev Deed := List Nat × List T
inductive DeedAt (Z : Zm) (d : Deed) (v : Value) : Prop
  | mk : ∀ a vp vr n, v = .ref a → Z a = some (TO #[vp, vr] n) → PlaceAt Z d.1 vp → RowsAt Z d.2 vr → DeedAt Z d v
theorem DeedAt.mono {Z Z' : Zm} (h : Z.le Z') {d : Deed} {v : Value} (H : DeedAt Z d v) : DeedAt Z' d v :=
  let ⟨a, vp, vr, n, e, z, hp, hr⟩ := H; ⟨a, vp, vr, n, e, h _ _ z, hp.mono h, hr.mono h⟩
noncomputable def clashAt (ds : List Deed) (k j : Nat) : Prop := k ≠ j ∧ ∃ dk dj, ds[k]? = some dk ∧ ds[j]? = some dj ∧ dj.1.take dk.1.length = dk.1
noncomputable def Clash (ds : List Deed) : Prop := ∃ k j, clashAt ds k j
theorem NatsAt.take {vs : List Value} {ns : List Nat} (n : Nat) (h : NatsAt vs ns) : NatsAt (vs.take n) (ns.take n) := by
  refine ⟨by simp [h.1], fun i m hi => ?_⟩
  rw [List.getElem?_take] at hi ⊢
  split at hi
  · rename_i hlt; rw [if_pos hlt]; exact h.2 i m hi
  · cases hi
set_option maxHeartbeats 4000000 in
theorem law_clash {p : JP} {A : Around} {c : JC} {E : JC → Prop} {Q : Value → JC → Prop} {l : Addr} {xs : Array Value} {m : Nat} {ds : List Deed}
    (hroom : A.depth + 2 < recursionLimit) (hu : A.units + 80 < cLine) (hh : A.handled = none) (hl : c.Has l (LO xs m)) (hds : All2 (DeedAt c.Z) ds xs.toList) (hsz : ds.length ≤ 1000) (hpl : ∀ d ∈ ds, d.1.length ≤ 1000)
    (h : ∀ b, (b = true ↔ Clash ds) → Q (.bool b) c) : jwp p A (call (.ref 869) [.ref l]) Q E c := by
  obtain ⟨Z, nss, own, g⟩ := c
  dsimp only at hds h
  have hlen := hds.length
  rw [Array.length_toList] at hlen
  refine jwp_turn (j_call (jcode_fn (F869 p.w.params) (by omega) (binds := [(Str.ofString "deeds", .ref l)]) rfl fun L => ?_))
  refine j_cons (j_For (E' := fun V => False) (iter_range xs.size) (fun i c₁ => c₁ = ⟨Z, (L, [(Str.ofString "deeds", .ref l)]) :: nss, own, g⟩ ∧ ∀ k j, k < i → ¬ clashAt ds k j) hh NotRaised.never go_name ?_ (by intros; trivial) ?_ ?_)
  · refine j_B1 (m_range _) (b_range _) (j_B1 (m_len _) (b_len _) ?_)
    refine j_local (l := _) List.mem_cons_self rfl (j_lenList (has_weak hl fun q hq => hq) (by omega) fun t4 => j_range fun r a b d => j_iterRange (by omega) (has_own List.mem_cons_self) fun it o ho => ⟨it, o, ⟨Z, (L, [(Str.ofString "deeds", .ref l)]) :: nss, own, g⟩, rfl, ho, Conv.ow (List.Perm.refl _) ((List.sublist_cons_self _ _).cons_cons _), rfl, fun k j hk => absurd hk (by omega)⟩)
  · intro i v c₁ it o hi hX6 ho hX8
    obtain ⟨tv, rfl⟩ := hX6
    obtain ⟨rfl, hno⟩ := hX8
    have hik : i < ds.length := by omega
    have hk : ds[i]? = some ds[i] := List.getElem?_eq_getElem hik
    refine j_assignName (j_store0 (jwp_opaque fun Q1 hQ1 => j_cons (j_For (E' := fun V => False) (iter_range xs.size) (fun j c₂ => c₂ = ⟨Z, (L, [(Str.ofString "k", .int (i : Int) tv), (Str.ofString "deeds", .ref l)]) :: nss, (it, o) :: own, g⟩ ∧ ∀ j', j' < j → ¬ clashAt ds i j') hh NotRaised.never go_name ?_ (by intros; trivial) ?_ ?_)))
    · refine j_B1 (m_range _) (b_range _) (j_B1 (m_len _) (b_len _) ?_)
      refine j_local (l := _) List.mem_cons_self rfl (j_lenList (has_weak hl fun q hq => List.mem_cons_of_mem _ hq) (by omega) fun t4 => j_range fun r a b d => j_iterRange (by omega) (has_own List.mem_cons_self) fun it' o' ho' => ⟨it', o', ⟨Z, (L, [(Str.ofString "k", .int (i : Int) tv), (Str.ofString "deeds", .ref l)]) :: nss, (it, o) :: own, g⟩, rfl, ho', Conv.both ⟨rfl, rfl, trivial⟩ (List.Perm.refl _) ((List.sublist_cons_self _ _).cons_cons _), rfl, fun j hj => absurd hj (by omega)⟩)
    · intro j v c₂ it' o' hj hX6 ho' hX8
      obtain ⟨tj, rfl⟩ := hX6
      obtain ⟨rfl, hnj⟩ := hX8
      have hjl : j < ds.length := by omega
      have hjd : ds[j]? = some ds[j] := List.getElem?_eq_getElem hjl
      refine j_assignName (j_store0 (jwp_opaque fun Q' hQ => j_cons (j_If (j_isTrueBoolOp (j_allTrueAnd (j_isTrueCompare1 (j_local (l := _) (List.mem_cons_self) rfl (j_local (l := _) List.mem_cons_self rfl (j_neInt (j_truthyBool ?_))))))))))
      have done : ¬ clashAt ds i j → TurnOK p ⟨Z, (L, (Str.ofString "j", .int (j : Int) tj) :: [(Str.ofString "k", .int (i : Int) tv), (Str.ofString "deeds", .ref l)]) :: nss, (it', o') :: (it, o) :: own, g⟩ it' o' fun c₄ => c₄ = ⟨Z, (L, [(Str.ofString "k", .int (i : Int) tv), (Str.ofString "deeds", .ref l)]) :: nss, (it, o) :: own, g⟩ ∧ ∀ j', j' < j + 1 → ¬ clashAt ds i j' := fun hn =>
        ⟨⟨Z, (L, [(Str.ofString "k", .int (i : Int) tv), (Str.ofString "deeds", .ref l)]) :: nss, (it, o) :: own, g⟩, Conv.know ⟨rfl, rfl, trivial⟩, rfl, fun j' hj' => by
          rcases Nat.lt_or_eq_of_le (Nat.le_of_lt_succ hj') with h1 | rfl
          · exact hnj j' h1
          · exact hn⟩
      by_cases hij : i = j
      · have e : ((i : Int) != (j : Int)) = false := by simp [hij]
        rw [e]
        refine ifF ?_
        exact j_nil (j_nil (hQ _ _ (done fun hc => hc.1 hij)))
      · have e : ((i : Int) != (j : Int)) = true := by simp; omega
        rw [e]
        obtain ⟨vj, hvj, aj, vpj, vrj, nj, rfl, hZj, hpj, hrj⟩ := hds.get hjd
        obtain ⟨vk, hvk, ak, vpk, vrk, nk, rfl, hZk, hpk, hrk⟩ := hds.get hk
        rw [Array.getElem?_toList] at hvj hvk
        obtain ⟨apj, xpj, mpj, rfl, hZpj, hnj2⟩ := hpj
        obtain ⟨apk, xpk, mpk, rfl, hZpk, hnk2⟩ := hpk
        have hlj := hnj2.1
        have hlk := hnk2.1
        rw [Array.length_toList] at hlj hlk
        have hdj := hpl _ (List.mem_of_getElem? hjd)
        have hdk := hpl _ (List.mem_of_getElem? hk)
        have hl2 : ∀ {nss' : List (Addr × Vars)} {own' : List (Addr × Obj)}, (∀ q ∈ own, q ∈ own') → (JC.mk Z nss' own' g).Has l (LO xs m) := fun hq => has_weak hl hq
        refine j_allTrueAnd (j_isTrueCompare1 ?_)
        refine j_Subscript (j_Subscript (j_Subscript (j_local (l := _) List.mem_cons_self rfl (j_local (l := _) List.mem_cons_self rfl (j_getitemInPythonList (hl2 fun q hq => List.mem_cons_of_mem _ (List.mem_cons_of_mem _ hq)) (j_subPlain (j_listItem (v := .ref aj) (hl2 fun q hq => List.mem_cons_of_mem _ (List.mem_cons_of_mem _ hq)) (by omega) (by omega) hvj ?_)))))))
        refine j_cInt fun t2 => j_getitemInPythonTup (has_z hZj) (j_subPlain (j_tupItem (v := .ref apj) (i := 0) (has_z hZj) (by decide) (by decide) rfl rfl ?_))
        refine j_sliceTo (j_B1 (m_len _) (b_len _) ?_)
        refine j_Subscript (j_Subscript (j_local (l := _) List.mem_cons_self rfl (j_local (l := _) List.mem_cons_self rfl (j_getitemInPythonList (hl2 fun q hq => List.mem_cons_of_mem _ (List.mem_cons_of_mem _ hq)) (j_subPlain (j_listItem (v := .ref ak) (hl2 fun q hq => List.mem_cons_of_mem _ (List.mem_cons_of_mem _ hq)) (by omega) (by omega) hvk ?_))))))
        refine j_cInt fun t3 => j_getitemInPythonTup (has_z hZk) (j_subPlain (j_tupItem (v := .ref apk) (i := 0) (has_z hZk) (by decide) (by decide) rfl rfl ?_))
        refine j_lenTup (has_z hZpk) (by omega) fun t4 sl => ?_
        refine j_getitemInPythonTup (has_z hZpj) (j_subPlain (j_tupTo (k := xpk.size) (has_z hZpj) (has_own List.mem_cons_self) (by unfold sizeLine; omega) (fun hle => ?_) fun hlt ts => ?_))
        · have ht : ds[j].1.take ds[i].1.length = ds[j].1 := List.take_of_length_le (by omega)
          refine j_Subscript (j_Subscript (j_local (l := _) List.mem_cons_self rfl (j_local (l := _) List.mem_cons_self rfl (j_getitemInPythonList (hl2 fun q hq => List.mem_cons_of_mem _ (List.mem_cons_of_mem _ (List.mem_cons_of_mem _ (hq)))) (j_subPlain (j_listItem (v := .ref ak) (hl2 fun q hq => List.mem_cons_of_mem _ (List.mem_cons_of_mem _ (List.mem_cons_of_mem _ (hq)))) (by omega) (by omega) hvk ?_))))))
          refine j_cInt fun t5 => j_getitemInPythonTup (has_z hZk) (j_subPlain (j_tupItem (v := .ref apk) (i := 0) (has_z hZk) (by decide) (by decide) rfl rfl ?_))
          refine j_eqPlace (a := ds[j].1.take ds[i].1.length) (b := ds[i].1) ⟨apj, xpj, mpj, rfl, has_z hZpj, by rw [ht]; exact hnj2⟩ ⟨apk, xpk, mpk, rfl, has_z hZpk, hnk2⟩ (by show A.units + 3 + 64 < _; omega) fun b hb => j_truthyBool ?_
          cases b with
          | true =>
            refine j_allTrueNil ?_
            refine ifT ?_
            refine j_cons (j_Return (j_cBool (hQ _ _ ⟨⟨Z, (L, []) :: nss, (it, o) :: own, g⟩, Conv.both trivial (List.Perm.refl _) (List.Sublist.cons _ (List.Sublist.cons _ (List.Sublist.refl _))), hQ1 _ _ ⟨⟨Z, (L, []) :: nss, own, g⟩, Conv.ow (List.Perm.refl _) (List.sublist_cons_self _ _), bodyQ_ret rfl (Turn.done (h true ⟨fun V => ⟨i, j, hij, _, _, hk, hjd, hb.mp rfl⟩, fun V => rfl⟩))⟩⟩)))
          | false =>
            refine ifF ?_
            refine j_nil (j_nil ?_)
            obtain ⟨c₄, h1, h2⟩ := done (fun hc => by
              obtain ⟨_, dk, dj, e1, e2, e3⟩ := hc
              rw [hk] at e1; rw [hjd] at e2
              cases e1; cases e2
              exact absurd (hb.mpr e3) (by decide))
            exact hQ _ _ ⟨c₄, (Conv.ow (List.Perm.refl _) (List.Sublist.cons _ (List.Sublist.refl _))).trans h1, h2⟩
        · have hlt' := hlt
          refine j_Subscript (j_Subscript (j_local (l := _) List.mem_cons_self rfl (j_local (l := _) List.mem_cons_self rfl (j_getitemInPythonList (hl2 fun q hq => List.mem_cons_of_mem _ (List.mem_cons_of_mem _ (List.mem_cons_of_mem _ (List.mem_cons_of_mem _ (hq))))) (j_subPlain (j_listItem (v := .ref ak) (hl2 fun q hq => List.mem_cons_of_mem _ (List.mem_cons_of_mem _ (List.mem_cons_of_mem _ (List.mem_cons_of_mem _ (hq))))) (by omega) (by omega) hvk ?_))))))
          refine j_cInt fun t5 => j_getitemInPythonTup (has_z hZk) (j_subPlain (j_tupItem (v := .ref apk) (i := 0) (has_z hZk) (by decide) (by decide) rfl rfl ?_))
          refine j_eqPlace (a := ds[j].1.take ds[i].1.length) (b := ds[i].1) ⟨ts, _, 0, rfl, has_own List.mem_cons_self, by rw [hlk]; exact hnj2.take _⟩ ⟨apk, xpk, mpk, rfl, has_z hZpk, hnk2⟩ (by show A.units + 3 + 64 < _; omega) fun b hb => j_truthyBool ?_
          cases b with
          | true =>
            refine j_allTrueNil ?_
            refine ifT ?_
            refine j_cons (j_Return (j_cBool (hQ _ _ ⟨⟨Z, (L, []) :: nss, (it, o) :: own, g⟩, Conv.both trivial (List.Perm.refl _) (List.Sublist.cons _ (List.Sublist.cons _ (List.Sublist.cons _ (List.Sublist.refl _)))), hQ1 _ _ ⟨⟨Z, (L, []) :: nss, own, g⟩, Conv.ow (List.Perm.refl _) (List.sublist_cons_self _ _), bodyQ_ret rfl (Turn.done (h true ⟨fun V => ⟨i, j, hij, _, _, hk, hjd, hb.mp rfl⟩, fun V => rfl⟩))⟩⟩)))
          | false =>
            refine ifF ?_
            refine j_nil (j_nil ?_)
            obtain ⟨c₄, h1, h2⟩ := done (fun hc => by
              obtain ⟨_, dk, dj, e1, e2, e3⟩ := hc
              rw [hk] at e1; rw [hjd] at e2
              cases e1; cases e2
              exact absurd (hb.mpr e3) (by decide))
            exact hQ _ _ ⟨c₄, (Conv.ow (List.Perm.refl _) (List.Sublist.cons _ (List.Sublist.cons _ (List.Sublist.refl _)))).trans h1, h2⟩
    · intro c₂ hX
      obtain ⟨rfl, hnj⟩ := hX
      refine j_nil (j_nil (hQ1 _ _ ⟨⟨Z, (L, [(Str.ofString "deeds", .ref l)]) :: nss, own, g⟩, Conv.know ⟨rfl, trivial⟩, rfl, fun k j hlt => ?_⟩))
      rcases Nat.lt_or_eq_of_le (Nat.le_of_lt_succ hlt) with hlt | rfl
      · exact hno k j hlt
      · by_cases hj : j < xs.size
        · exact hnj j hj
        · intro hX
          obtain ⟨_, dk, dj, _, e2, _⟩ := hX
          have := (List.getElem?_eq_some_iff.mp e2).1
          omega
  · intro c₁ hX
    obtain ⟨rfl, hno⟩ := hX
    refine j_nil (j_cons (j_Return (j_cBool (bodyQ_ret rfl (Turn.done (h false ?_))))))
    refine ⟨(fun e => by cases e), fun hx => ?_⟩
    obtain ⟨k, j, hc⟩ := hx
    obtain ⟨_, dk, dj, e1, _⟩ := id hc
    exact absurd hc (hno k j (by have := (List.getElem?_eq_some_iff.mp e1).1; omega))
section
variable {p : JP} {A : Around} {c : JC} {E : JC → Prop} {a : Addr} {items : Array Value} {n : Nat} {pre post : List (Addr × Obj)}
theorem j_listItems {Q : Array Value → JC → Prop} (ho : c.Has a (LO items n)) (h : Q items c) : jwp p A (Builtin.List.listItems (.ref a)) Q E c := .of fun s H => listItems_at (ho.get H) rfl ⟨c, H, h⟩
theorem j_seqEpoch {Q : Nat → JC → Prop} (ho : c.Has a (LO items n)) (h : Q n c) : jwp p A (seqEpoch a) Q E c := .of fun s H => seqEpoch_at (ho.get H) rfl ⟨c, H, h⟩
theorem j_listUpdate {f : Array Value → Array Value} {Q : Unit → JC → Prop} (ho : c.own = pre ++ (a, LO items n) :: post) (hsz : items.size ≤ sizeLine) (hsz2 : (f items).size ≤ sizeLine + 1)
    (h : Q () (c.sto (pre ++ (a, LO (f items) (if (f items).size == items.size then n else n + 1)) :: post))) : jwp p A (Builtin.List.listUpdate (.ref a) f) Q E c := .of fun s H => by
  have hl : IsL s.heap a items n := H.own (a, _) (by rw [ho]; simp)
  exact listUpdate_at hl rfl ⟨_, H.put ho (Heap.SameBut.update s.heap a _) (hl.update f) s.toks, h⟩ hsz hsz2
theorem j_collect {Q : List Value → JC → Prop} (ho : c.Has a (LO items n)) (hsz : items.size ≤ sizeLine) (h : Q items.toList c) : jwp p A (collect (.ref a)) Q E c := .of fun s H => by
  refine collect_list (vs := items.toList) (by simpa using (has_list ho H).isList) ?_ (by simpa using hsz)
  have H1 := H.push (LO #[] 0) rfl s.toks
  have hl : IsL (s.heap.push (LO #[] 0)) s.heap.objs.size #[] 0 := Heap.get?_push_size _ rfl
  have H2 := H1.put (pre := []) (post := c.own) rfl (Heap.SameBut.update _ s.heap.objs.size _) (hl.update (· ++ items.toList.toArray)) s.toks
  exact ⟨c, H2.drop (List.Sublist.refl _) (List.sublist_cons_self _ _), h⟩
end
structure Inst (c : JC) (x C dx : Addr) (es : List DictEntry) (n : Nat) : Prop where
  x : c.Has x (instObj C dx)
  d : c.Has dx (dictOf es n)
theorem Inst.at {p : JP} {c : JC} {s : Shared} {x C dx : Addr} {es : List DictEntry} {n : Nat} (I : Inst c x C dx es n) (H : c.At p s) : InstAt s.heap x (instObj C dx) C (some (dictOf es n)) :=
  ⟨I.x.get H, rfl, rfl, I.d.get H⟩
noncomputable def attrOk (K : Frag) (C : Addr) (name : Str) : Bool := plainGet K C name && hasDictIn K C && (match findIn K (.ref C) name with | some attr => noGet K attr | none => false)
theorem attrOk_of {K : Frag} {C : Addr} {name : Str} (h : attrOk K C name = true) : plainGet K C name = true ∧ hasDictIn K C = true ∧ ∃ attr, findIn K (.ref C) name = some attr ∧ noGet K attr = true := by
  unfold attrOk at h
  simp only [Bool.and_eq_true] at h
  obtain ⟨⟨a, b⟩, d⟩ := h
  refine ⟨a, b, ?_⟩
  cases q : findIn K (.ref C) name with
  | none => rw [q] at d; cases d
  | some attr => rw [q] at d; exact ⟨attr, rfl, d⟩
noncomputable def setOk (K : Frag) (C : Addr) (name : Str) : Bool := findIn K (.ref C) "__setattr__" == some (some (.builtin "object.__setattr__")) && plainOver K C && takerIn K C name == some none && hasDictIn K C
theorem setOk_of {K : Frag} {C : Addr} {name : Str} (h : setOk K C name = true) : findIn K (.ref C) "__setattr__" = some (some (.builtin "object.__setattr__")) ∧ plainOver K C = true ∧ takerIn K C name = some none ∧ hasDictIn K C = true := by
  unfold setOk at h
  simp only [Bool.and_eq_true, beq_iff_eq] at h
  exact ⟨h.1.1.1, h.1.1.2, h.1.2, h.2⟩
section
variable {α : Type} {p : JP} {A : Around} {c : JC} {E : JC → Prop} {env : Env} {x C dx : Addr} {es : List DictEntry} {n : Nat} {name : Str}
theorem j_getOwn {v : Value} {expr : Bool} {Q : Value → JC → Prop} (I : Inst c x C dx es n) (ok : attrOk (KK p.w.params) C name = true) (hl : getL name es = some (some v)) (hv : handedIn v = true) (h : Q v c) :
    jwp p A (getAttr (.ref x) name expr) Q E c := .of fun s H => by
  obtain ⟨a, b, attr, d, e⟩ := attrOk_of ok
  exact get_value H.inK (I.at H) (plainGet_of a).1 (findObj_own b d e hl) hv ⟨c, H.toks _, h⟩
theorem j_Attribute {value : Expr} {attr : Str} {pos : Pos} {Q : Value → JC → Prop} (h : jwp p A (eval value env) (fun o c₁ => jwp p A (getAttr o attr true) Q E c₁) E c)
    (hb : autoParam (attributeBase value attr env (eval value env) = eval value env) rt) : jwp p A (eval (.Attribute value attr pos) env) Q E c := by
  rw [arm_eval_Attribute, hb]
  exact jwp_bind (h.mono (fun o V q => j_standThen (jwp_bind (jwp_holding (q.mono (fun r V q => jwp_bind (j_letGo (jwp_pure q))) fun V V x => x)))) fun V V x => x)
theorem JC.At.putDict {s : Shared} (H : c.At p s) {pre post : List (Addr × Obj)} (ho : c.own = pre ++ (dx, dictOf es n) :: post) (hsh : Int) (k v : Value) (t : Nat) :
    ({ c with own := pre ++ (dx, dictOf (putL name hsh k v es) (putN name es n)) :: post } : JC).At p { s with heap := s.heap.update dx (Obj.putName name hsh k v), toks := t } := by
  have hg : s.heap.get? dx = some (dictOf es n) := H.own (dx, _) (by rw [ho]; simp)
  refine H.put ho (Heap.SameBut.update s.heap dx _) ?_ t
  have := Heap.get?_update_self (Obj.putName name hsh k v) hg (by rw [putName_dict]; rfl)
  rw [putName_dict] at this
  exact this
set_option tactic.hygienic true in
theorem j_setOwn {v : Value} {pre post : List (Addr × Obj)} {Q : Unit → JC → Prop} (hx : c.Has x (instObj C dx)) (ho : c.own = pre ++ (dx, dictOf es n) :: post) (ok : setOk (KK p.w.params) C name = true)
    (hl : (getL name es).isSome = true) (hz : es.length ≤ 900)
    (h : ∀ t, Q () (c.sto (pre ++ (dx, dictOf (putL name (PyData.keyHash p.w.params name) (.str name t) v es) (putN name es n)) :: post))) : jwp p A (setAttr (.ref x) name v) Q E c := .of fun s H => by
  obtain ⟨k1, k2, k3, k4⟩ := setOk_of ok
  have X := H.inK
  have I : InstAt s.heap x (instObj C dx) C (some (dictOf es n)) := ⟨hx.get H, rfl, rfl, H.own (dx, _) (by rw [ho]; simp)⟩
  obtain ⟨hh, g, d, t, os⟩ := s
  refine set_plain X I k1 ?_
  refine osa_open (s := ⟨hh, g, d, t + 1, os⟩) X I k2 k3 fun b => ?_
  obtain ⟨cd, hc, hd'⟩ := any_some k4
  have D : hh.get? dx = some (dictOf es n) := I.dict
  have hx' : hh.get? x = some (instObj C dx) := I.at_
  have L0 : Looks p.M hh (classData C) cd := looks_clsIn X hc
  refine wpAny_bind (wpAny_pure (wpAny_bind (wpAny_bind (wpAny_loadPart (s := ⟨hh, g, d, t + 1, os⟩) hx' (wpAny_bind (L0.at ?_))))))
  rw [hd']
  refine wpAny_pure (a := some dx) (wpAny_bind (wpAny_pure (wpAny_bind ?_)))
  unfold nsSet
  refine wpAny_bind (wpAny_bind (wpAny_askSetting (wpAny_pure (wpAny_bind (wpAny_mkText (wpAny_bind (wpAny_loadPart D ?_)))))))
  dsimp only
  have c0 : (!es.toArray.any (·.key.isStr name) && es.toArray.any (·.refKey)) = false := by
    rw [List.any_toArray, List.any_toArray]
    unfold getL at hl
    split at hl
    · rename_i en he
      rw [List.any_eq_true.mpr ⟨en, List.mem_of_find?_eq_some he, List.find?_some he⟩]; rfl
    · split at hl
      · cases hl
      · rename_i z; rw [Bool.not_eq_true] at z; rw [z, Bool.and_false]
  rw [aRefKeyMayBeTheName_at, c0]
  refine wpAny_updatePart D ?_
  have H2 := H.putDict (name := name) ho (PyData.keyHash p.w.params name) (.str name (t + 1)) v (t + 1 + 1)
  have D' := H2.own (dx, _) (List.mem_append_right _ List.mem_cons_self)
  have hlen : (putL name (PyData.keyHash p.w.params name) (.str name (t + 1)) v es).length ≤ 901 := by
    have : ∀ es : List DictEntry, (putL name (PyData.keyHash p.w.params name) (.str name (t + 1)) v es).length ≤ es.length + 1 := by
      intro es
      induction es with
      | nil => exact Nat.le_refl _
      | cons e r ih =>
        unfold putL
        split
        · simp
        · simp only [List.length_cons]; omega
    have := this es; omega
  refine wpAny_bind (wpAny_lookBehind D' (by exact pastItsLine_dict (by rw [List.size_toArray, sizeLine_eq]; omega)) ?_)
  exact wpAny_pure ⟨_, H2, h _⟩
theorem j_AssignAttr {o : Expr} {attr : Str} {pos' pos : Pos} {value : Expr} {Q : Flow → JC → Prop}
    (h : jwp p A (eval value env) (fun v c₁ => jwp p A (eval o env) (fun ov c₂ => jwp p A (setAttr ov attr v) (fun V => Q .next) E c₂) E c₁) E c)
    (hs : autoParam (swapsWith value (some (.Attribute o attr pos')) pos.line env = pure false) rt) : jwp p A (exec (.Assign [.Attribute o attr pos'] value pos) env) Q E c := by
  rw [plainObj_exec_Assign_Attribute o attr pos' value pos hs]
  refine j_standThen (jwp_bind (h.mono (fun v c₁ q => jwp_bind ?_) fun V V x => x))
  rw [assign_Attribute]
  exact jwp_bind (jwp_holding (q.mono (fun ov c₂ q => j_standThen (jwp_bind (jwp_holding (q.mono (fun V V q => j_release (jwp_pure q)) fun V V x => x)))) fun V V x => x))
theorem j_newObj {fI : Addr} {rest : List Value} {kw : List (Str × Value)} {Q : Value → JC → Prop} (hm : makesIn (KK p.w.params) C = true) (hi : findIn (KK p.w.params) (.ref C) "__init__" = some (some (.ref fI)))
    (hf : typeIn (KK p.w.params) (.ref fI) = some (.type "function"))
    (h : ∀ x dx, jcode p (A.under (.builtin "type.__call__" ⟨.ref C :: rest, kw⟩)) (.call (.ref fI) ⟨.ref x :: rest, kw⟩) (RetQ fun v c' => v = .none ∧ Q (.ref x) c') E ((c.psh dx (dictOf [] 0)).psh x (instObj C dx))) :
    jcode p A (.call (.ref C) ⟨rest, kw⟩) (RetQ Q) E c := .of fun s H => by
  obtain ⟨hh, g, d, t, os⟩ := s
  have X := H.inK
  refine make_core (makes_of X hm) (looks_findIn X hi) (fun self => bind_fn X self hf) (.inl rfl) ?_
  have H1 := H.push (dictOf [] 0) rfl t
  have H2 := H1.push (instObj C hh.objs.size) rfl t
  have e : ({ heap := hh, gens := g, drawn := d, toks := t, os := os } : Shared).heap.objs.size = hh.objs.size := rfl
  simp only [Heap.size_push] at H2
  refine codeAny_mono ((h (hh.objs.size + 1) hh.objs.size).run _ H2) fun r s' q => ?_
  cases r with
  | error e => exact q
  | ok f =>
    obtain ⟨c', H', q⟩ := q
    cases f with
    | ret v => exact ⟨q.1, c', H', q.2⟩
    | next => exact q
    | brk => exact q
    | cont => exact q
theorem j_callObj {f : Addr} {a : Args} {Q : Value → JC → Prop} (I : Inst c x C dx es n) (hs : findIn (KK p.w.params) (.ref C) "__call__" = some (some (.ref f))) (hf : isFn (KK p.w.params) (.ref f) = true) (hfn : fnIn (KK p.w.params) f = true)
    (h : jcode p A (.call (.ref f) { a with pos := .ref x :: a.pos }) (RetQ Q) E c) : jcode p A (.call (.ref x) a) (RetQ Q) E c := .of fun s H =>
  kco_code H.inK (I.at H) rfl hs hf hfn (h.run s H)
end
theorem ca561_variable_name (P : Params) : attrOk (KK P) 561 (Str.ofString "variable_name") = true := by kernel_rfl
theorem cs561_variable_name (P : Params) : setOk (KK P) 561 (Str.ofString "variable_name") = true := by kernel_rfl
theorem ca561_head (P : Params) : attrOk (KK P) 561 (Str.ofString "head") = true := by kernel_rfl
theorem cs561_head (P : Params) : setOk (KK P) 561 (Str.ofString "head") = true := by kernel_rfl
theorem ca561_name (P : Params) : attrOk (KK P) 561 (Str.ofString "name") = true := by kernel_rfl
theorem cs561_name (P : Params) : setOk (KK P) 561 (Str.ofString "name") = true := by kernel_rfl
theorem ca561_arity (P : Params) : attrOk (KK P) 561 (Str.ofString "arity") = true := by kernel_rfl
theorem cs561_arity (P : Params) : setOk (KK P) 561 (Str.ofString "arity") = true := by kernel_rfl
theorem cs561_associative (P : Params) : setOk (KK P) 561 (Str.ofString "associative") = true := by kernel_rfl
theorem cs561_commutative (P : Params) : setOk (KK P) 561 (Str.ofString "commutative") = true := by kernel_rfl
theorem cs561_one_identity (P : Params) : setOk (KK P) 561 (Str.ofString "one_identity") = true := by kernel_rfl
theorem ca561_operands (P : Params) : attrOk (KK P) 561 (Str.ofString "operands") = true := by kernel_rfl
theorem cs561_operands (P : Params) : setOk (KK P) 561 (Str.ofString "operands") = true := by kernel_rfl
theorem cm561 (P : Params) : makesIn (KK P) 561 = true := by kernel_rfl
theorem ci561 (P : Params) : findIn (KK P) (.ref 561) (Str.ofString "__init__") = some (some (.ref 436)) := by kernel_rfl
theorem cf436 (P : Params) : typeIn (KK P) (.ref 436) = some (.type "function") := by kernel_rfl
theorem cs637_variable_name (P : Params) : setOk (KK P) 637 (Str.ofString "variable_name") = true := by kernel_rfl
theorem ca637_name (P : Params) : attrOk (KK P) 637 (Str.ofString "name") = true := by kernel_rfl
theorem cs637_name (P : Params) : setOk (KK P) 637 (Str.ofString "name") = true := by kernel_rfl
theorem cm637 (P : Params) : makesIn (KK P) 637 = true := by kernel_rfl
theorem ci637 (P : Params) : findIn (KK P) (.ref 637) (Str.ofString "__init__") = some (some (.ref 592)) := by kernel_rfl
theorem cf592 (P : Params) : typeIn (KK P) (.ref 592) = some (.type "function") := by kernel_rfl
theorem ca415_name (P : Params) : attrOk (KK P) 415 (Str.ofString "name") = true := by kernel_rfl
theorem cs415_name (P : Params) : setOk (KK P) 415 (Str.ofString "name") = true := by kernel_rfl
theorem ca415_arity (P : Params) : attrOk (KK P) 415 (Str.ofString "arity") = true := by kernel_rfl
theorem cs415_arity (P : Params) : setOk (KK P) 415 (Str.ofString "arity") = true := by kernel_rfl
theorem cs415_class_name (P : Params) : setOk (KK P) 415 (Str.ofString "class_name") = true := by kernel_rfl
theorem ca415_associative (P : Params) : attrOk (KK P) 415 (Str.ofString "associative") = true := by kernel_rfl
theorem cs415_associative (P : Params) : setOk (KK P) 415 (Str.ofString "associative") = true := by kernel_rfl
theorem ca415_commutative (P : Params) : attrOk (KK P) 415 (Str.ofString "commutative") = true := by kernel_rfl
theorem cs415_commutative (P : Params) : setOk (KK P) 415 (Str.ofString "commutative") = true := by kernel_rfl
theorem ca415_one_identity (P : Params) : attrOk (KK P) 415 (Str.ofString "one_identity") = true := by kernel_rfl
theorem cs415_one_identity (P : Params) : setOk (KK P) 415 (Str.ofString "one_identity") = true := by kernel_rfl
theorem cm415 (P : Params) : makesIn (KK P) 415 = true := by kernel_rfl
theorem ci415 (P : Params) : findIn (KK P) (.ref 415) (Str.ofString "__init__") = some (some (.ref 397)) := by kernel_rfl
theorem cf397 (P : Params) : typeIn (KK P) (.ref 397) = some (.type "function") := by kernel_rfl
theorem cg415_simplify (P : Params) : findIn (KK P) (.ref 415) (Str.ofString "_simplify") = some (some (.ref 412)) := by kernel_rfl
theorem cn412 (P : Params) : isFn (KK P) (.ref 412) = true := by kernel_rfl
theorem cg561_len (P : Params) : findIn (KK P) (.ref 561) (Str.ofString "__len__") = some (some (.ref 493)) := by kernel_rfl
theorem cn493 (P : Params) : isFn (KK P) (.ref 493) = true := by kernel_rfl
theorem cg561_getitem (P : Params) : findIn (KK P) (.ref 561) (Str.ofString "__getitem__") = some (some (.ref 500)) := by kernel_rfl
theorem cn500 (P : Params) : isFn (KK P) (.ref 500) = true := by kernel_rfl
theorem cg637_getitem (P : Params) : findIn (KK P) (.ref 637) (Str.ofString "__getitem__") = some (some (.ref 298)) := by kernel_rfl
theorem cn298 (P : Params) : isFn (KK P) (.ref 298) = true := by kernel_rfl
theorem cg415_call (P : Params) : findIn (KK P) (.ref 415) (Str.ofString "__call__") = some (some (.ref 405)) := by kernel_rfl
theorem cn405 (P : Params) : isFn (KK P) (.ref 405) = true := by kernel_rfl
theorem cd405 (P : Params) : fnIn (KK P) 405 = true := by kernel_rfl
theorem cp561 (P : Params) : plainGet (KK P) 561 Str.empty = true := by kernel_rfl
theorem ck561 (P : Params) : hasDictIn (KK P) 561 = true ∧ findIn (KK P) (.ref 561) "__class__" = some (some (.builtin "object.__class__")) ∧ mroIn (KK P) 561 (.type "object") = some true := ⟨by kernel_rfl, by kernel_rfl, by kernel_rfl⟩
theorem cp637 (P : Params) : plainGet (KK P) 637 Str.empty = true := by kernel_rfl
theorem ck637 (P : Params) : hasDictIn (KK P) 637 = true ∧ findIn (KK P) (.ref 637) "__class__" = some (some (.builtin "object.__class__")) ∧ mroIn (KK P) 637 (.type "object") = some true := ⟨by kernel_rfl, by kernel_rfl, by kernel_rfl⟩
theorem cp415 (P : Params) : plainGet (KK P) 415 Str.empty = true := by kernel_rfl
theorem ckd (P : Params) : specialIn (KK P) (.builtin "object.__class__") "__get__" = some (some (.builtin "getset_descriptor.__get__")) ∧ takesIn (KK P) (.builtin "object.__class__") = some true := ⟨by kernel_rfl, by kernel_rfl⟩
theorem ki561_561 (P : Params) : kitOne (KK P) (.ref 561) (.ref 561) = some true := by kernel_rfl
theorem ki561_741 (P : Params) : kitOne (KK P) (.ref 561) (.ref 741) = some false := by kernel_rfl
theorem ki561_lt (P : Params) : kitAny (KK P) (.ref 561) [.type "list", .type "tuple"] = some false := by kernel_rfl
theorem ki561_ltm (P : Params) : kitAny (KK P) (.ref 561) [.type "list", .type "tuple", .ref 135] = some false := by kernel_rfl
theorem ki637_561 (P : Params) : kitOne (KK P) (.ref 637) (.ref 561) = some false := by kernel_rfl
theorem ki637_741 (P : Params) : kitOne (KK P) (.ref 637) (.ref 741) = some false := by kernel_rfl
theorem ki637_lt (P : Params) : kitAny (KK P) (.ref 637) [.type "list", .type "tuple"] = some false := by kernel_rfl
theorem ki637_ltm (P : Params) : kitAny (KK P) (.ref 637) [.type "list", .type "tuple", .ref 135] = some false := by kernel_rfl
theorem ki_list_lt (P : Params) : kitAny (KK P) (.type "list") [.type "list", .type "tuple"] = some true := by kernel_rfl
theorem ki_list_ltm (P : Params) : kitAny (KK P) (.type "list") [.type "list", .type "tuple", .ref 135] = some true := by kernel_rfl
theorem ki_tuple_lt (P : Params) : kitAny (KK P) (.type "tuple") [.type "list", .type "tuple"] = some true := by kernel_rfl
theorem ki_tuple_int (P : Params) : kitOne (KK P) (.type "tuple") (.type "int") = some false := by kernel_rfl
noncomputable def jwpAt {α : Type} (p : JP) (A : Around) (cd : Code) (t : Sem α) (Q : α → JC → Prop) (E : JC → Prop) (c : JC) : Prop := ∀ s, c.At p s → _root_.PySem.wpAt p.M A cd t (postQ p Q) (postE p E) s
section
variable {α β : Type} {p : JP} {A : Around} {c : JC} {E : JC → Prop} {env : Env} {cd : Code}
theorem jwpAt_of {t : Sem α} {Q : α → JC → Prop} (h : jwp p A t Q E c) : jwpAt p A cd t Q E c := fun s H => wpAt_of_wpAny (h.run s H)
theorem jcode_fnG {a cq : Addr} {fd : FuncData} {body : List Stmt} {args : Args} {Q : Value → JC → Prop} (F : FnAt p.w.params a cq fd body) (hroom : A.depth < recursionLimit)
    (h : jwp p A.in1 (bindArgs fd args) (fun binds c₁ => ((binds.map (·.1)).all fun x => match fd.scope.names.lookup x with | some .local => true | _ => false) = true ∧
      ∀ L, jwpAt p (A.deeper (callEnv fd L a)) (.func body (callEnv fd L a)) (execs body (callEnv fd L a)) (BodyQ L c₁.nss Q) (fun V => False) { c₁ with nss := (L, binds.reverse) :: c₁.nss }) (fun V => False) c)
    (hcell' : autoParam ((fd.scope.names.all fun x => match x.2 with | .cell => false | _ => true) = true) rt)
    (hco : autoParam (fd.scope.isCoroutine = false) rt) (hgen : autoParam (fd.scope.isGenerator = false) rt) (hk : autoParam (fd.scope.kind = .function) rt) : jcode p A (.call (.ref a) args) (RetQ Q) E c := .of fun s H => by
  obtain ⟨o, ho, hd⟩ := F.o
  obtain ⟨ca, co, vs, t, e1, e2, e3, e4⟩ := F.code
  have HK := H.inK
  have hcell : ∀ x ∈ fd.scope.names, x.2 ≠ .cell := fun x hx e => by
    have := List.all_eq_true.mp hcell' x hx
    rw [e] at this; cases this
  refine codeAny_call_function hroom (HK _ _ ho) hd hco hgen F.body ⟨ca, co, vs, t, e1, HK _ _ e2, e3, e4⟩ ?_
  refine wpAny_mono (h.run s H) (fun binds s₁ z2 => z2.elim fun c₁ y20 => y20.elim fun H₁ y21 => y21.elim fun hloc' q => ?_) fun e s' z2 => z2.elim fun V y20 => y20.elim fun V y21 => y21.elim fun V y22 => y22.elim fun V y23 => y23.elim fun V q => q.elim
  have hloc : ∀ x ∈ binds, fd.scope.names.lookup x.1 = some .local := fun x hx => by
    have := List.all_eq_true.mp hloc' x.1 (List.mem_map_of_mem hx)
    revert this
    cases fd.scope.names.lookup x.1 with
    | none => intro h; cases h
    | some k => cases k <;> intro h <;> first | rfl | cases h
  refine wpAny_newFunctionEnv hcell hloc (fun h₀ hns₀ hsb₀ => ⟨H₁.noLimit.fresh _ hsb₀, ks_codeAny_funcAt ?_⟩) hk
  refine ks_wpAt_mono (q s₁.heap.objs.size _ (H₁.frame (l := binds.reverse) hns₀ (fun b o e => hsb₀.extBut b o (Nat.ne_of_lt (Heap.lt_size e)) (Heap.get?_push_of_some _ e)) (fun V V e => e) _)) (fun fl s' z2 => z2.elim fun c' y20 => y20.elim fun H' q => ?_) fun e s' z2 => z2.elim fun V y20 => y20.elim fun V y21 => y21.elim fun V y22 => y22.elim fun V y23 => y23.elim fun V q => q.elim
  have := q.go H'
  rcases this with ⟨c, h1, h2⟩
  cases fl <;> exact ⟨c, h1, h2⟩
theorem jcode_fnB {a cq : Addr} {fd : FuncData} {body : List Stmt} {args : Args} {Q : Value → JC → Prop} (F : FnAt p.w.params a cq fd body) (hroom : A.depth < recursionLimit)
    (h : jwp p A.in1 (bindArgs fd args) (fun binds c₁ => ((binds.map (·.1)).all fun x => match fd.scope.names.lookup x with | some .local => true | _ => false) = true ∧
      ∀ L, jwp p (A.deeper (callEnv fd L a)) (execs body (callEnv fd L a)) (BodyQ L c₁.nss Q) (fun V => False) { c₁ with nss := (L, binds.reverse) :: c₁.nss }) (fun V => False) c)
    (hcell' : autoParam ((fd.scope.names.all fun x => match x.2 with | .cell => false | _ => true) = true) rt)
    (hco : autoParam (fd.scope.isCoroutine = false) rt) (hgen : autoParam (fd.scope.isGenerator = false) rt) (hk : autoParam (fd.scope.kind = .function) rt) : jcode p A (.call (.ref a) args) (RetQ Q) E c :=
  jcode_fnG F hroom (h.mono (fun binds c₁ q => ⟨q.1, fun L => jwpAt_of (q.2 L)⟩) fun V V x => x) hcell' hco hgen hk
theorem j_seqItems {T : Addr} {xs : Array Value} {n : Nat} {Q : Option (Array Value) → JC → Prop} (ho : c.Has T (TO xs n)) (h : Q (some xs) c) : jwp p A (seqItems? (.ref T)) Q E c := .of fun s H =>
  wpAny_seqItems (ho.get H) rfl ⟨c, H, h⟩
theorem jwp_known {t : Sem α} {Q : α → JC → Prop} (h : (∀ a o, (KK p.w.params).lookup a = some o → c.Has a o) → jwp p A t Q E c) : jwp p A t Q E c := .of fun s H => (h (fun a o e => .inl (H.k a o e))).run s H
end
theorem clsIn_get {K : Frag} {D : Addr} {cd : ClassData} (h : clsIn K D = some cd) : ∃ o, K.lookup D = some o ∧ o.data = .cls cd := by
  unfold clsIn at h
  cases e : K.lookup D with
  | none => rw [e] at h; cases h
  | some o =>
    rw [e] at h
    cases o with
    | mk cl di da sl => cases da <;> cases h; exact ⟨_, rfl, rfl⟩
theorem JC.At.keep1 {p : JP} {c : JC} {s : Shared} (H : c.At p s) {h : Heap} {o : Obj} (hk : ∀ b o, s.heap.get? b = some o → h.get? b = some o) (ho : h.get? s.heap.objs.size = some o) (t : Nat) :
    ({ c with own := (s.heap.objs.size, o) :: c.own } : JC).At p { s with heap := h, toks := t } := by
  have hn := H.fresh (Nat.le_refl _)
  refine ⟨H.d, H.os, H.gens, H.k, fun a o' e => hk _ _ (H.z a o' e), fun q hq => ?_, fun q hq => ?_, ?_, fun a ha => ?_⟩
  · obtain ⟨m, n, hm⟩ := H.ns q hq; exact ⟨m, n.keeps hk, hm⟩
  · rcases List.mem_cons.mp hq with rfl | hq
    · exact ho
    · exact hk _ _ (H.own q hq)
  · have := H.sep
    simp only [JC.addrs, List.map_cons] at hn this ⊢
    rw [nodup_middle, List.nodup_cons]
    exact ⟨hn, this⟩
  · simp only [JC.addrs, List.map_cons] at ha
    rcases List.mem_append.mp ha with ha | ha
    · exact H.off a (List.mem_append_left _ ha)
    · rcases List.mem_cons.mp ha with rfl | ha
      · exact H.z_fresh (Nat.le_refl _)
      · exact H.off a (List.mem_append_right _ ha)
section
variable {α β : Type} {p : JP} {A : Around} {c : JC} {E : JC → Prop} {env : Env} {cd : Code}
theorem j_bindD {fd : FuncData} {args : Args} {binds : List (Str × Value)} {T : Addr} {xs : Array Value} {n : Nat} {k : Option (Array Value) → Sem (List (Str × Value))} {Q : List (Str × Value) → JC → Prop}
    (hd : fd.defaults = .ref T) (ho : (KK p.w.params).lookup T = some (TO xs n)) (h₁ : bindArgs fd args = seqItems? fd.defaults >>= k) (h₂ : k (some xs) = pure binds) (h : Q binds c) : jwp p A (bindArgs fd args) Q E c := by
  rw [h₁, hd]
  exact jwp_known fun K => jwp_bind (j_seqItems (K _ _ ho) (by rw [h₂]; exact jwp_pure h))
theorem j_Doc {x : Str} {k : Nat} {cp pos : Pos} {Q : Flow → JC → Prop} (h : Q .next c) (hi : autoParam (interactive env = false) rt) (hs : autoParam (swapsWith (.Constant (.str x) k cp) none pos.line env = pure false) rt) :
    jwp p A (exec (.Expr (.Constant (.str x) k cp) pos) env) Q E c := by
  rw [exec_Expr env _ pos hi hs]
  refine j_standThen (jwp_bind (j_cStr fun t => ?_))
  rw [dropValue_plain (by intro a; exact fun h => by cases h)]
  exact jwp_pure h
theorem jAt_cons {st : Stmt} {rest : List Stmt} {Q : Flow → JC → Prop} (h : jwp p A (exec st env) (fun f c₁ => match f with | .next => jwpAt p A cd (execs rest env) Q E c₁ | f => Q f c₁) E c) : jwpAt p A cd (execs (st :: rest) env) Q E c := fun s H => by
  refine ks_wpAt_execs_cons (wpAt_of_wpAny (wpAny_mono (h.run s H) (fun f s' z2 => z2.elim fun c' y20 => y20.elim fun H' q => ?_) fun V V x => x))
  cases f <;> first | exact q s' H' | exact ⟨c', H', q⟩
theorem j_keeperMeth {q f2 : Addr} {x : Value} {fo : Obj} {fd : FuncData} {Q : Keeper → JC → Prop} (hq : c.Has q (methodObj (.ref f2) x)) (hf : (KK p.w.params).lookup f2 = some fo) (hd : fo.data = .func fd) (h : ∀ k, Q k c) : jwp p A (keeperOf (.ref q)) Q E c := .of fun s H => by
  unfold keeperOf
  refine wpAny_bind (wpAny_load (hq.get H) ?_)
  dsimp only
  rw [if_neg (by decide)]
  refine wpAny_bind (wpAny_load (H.inK _ _ hf) ?_)
  rw [hd]
  exact wpAny_pure ⟨c, H, h _⟩
theorem j_callMeth {q f2 : Addr} {x : Value} {fo : Obj} {fd : FuncData} {pos : Pos} {args : List (Bool × Sem Value)} {Q : Value → JC → Prop} (hf : (KK p.w.params).lookup f2 = some fo) (hd : fo.data = .func fd)
    (h : jwp p A (evalArgs (.ref q) true args []) (fun a c₁ => c₁.Has q (methodObj (.ref f2) x) ∧ jcode p A (.call (.ref f2) { a with pos := x :: a.pos }) (RetQ Q) E c₁) E c) : jwp p A (callWith pos (.ref q) [] args []) Q E c :=
  j_callWith (k := .frame) (h.mono (fun a c₁ q' => j_keeperMeth q'.1 hf hd fun k => j_call <| .of fun s H => ks_codeAny_call_bound (q'.1.get H) (q'.2.run s H)) fun V V x => x)
set_option tactic.hygienic true in
theorem j_superInit {fd : FuncData} {L a cda cc x C D f2 dx : Addr} {ar : Arg} {arg : Expr} {p0 p1 apos cpos epos : Pos} {rest body : List Stmt} {Q : Flow → JC → Prop} {vs : Array Value} {file : Str} {tf : Tok} {of oc ocell fo : Obj} {cdD : ClassData} {l : Vars} {fd2 : FuncData}
    (hf : (KK p.w.params).lookup a = some of) (hfd : of.data = .func fd) (hp : (fd.params.posonlyargs ++ fd.params.args).head? = some ar) (hco : fd.code = .ref cda) (hcl : (KK p.w.params).lookup cda = some oc) (hoc : oc.data = .fields vs) (hvs : vs[2]? = some (.str file tf))
    (hfile : ((PySem.Challenge.pw_jf0031_01.main.file : Str) == file) = true) (hcell : (KK p.w.params).lookup cc = some ocell) (hcd : ocell.data = .cell (some (.ref D))) (hcc : fd.closure.lookup ("__class__" : Str) = some cc)
    (hD : clsIn (KK p.w.params) D = some cdD) (hsub : mroIn (KK p.w.params) C (.ref D) = some true) (hx : c.Has x (instObj C dx)) (hl : (L, l) ∈ c.nss) (hself : l.lookup ar.arg = some (.ref x))
    (hm : ks_superIn (KK p.w.params) C D (Str.ofString "__init__") = some (some (.ref f2))) (hf2 : (KK p.w.params).lookup f2 = some fo) (hf2c : fo.cls = .type "function") (hf2d : fo.data = .func fd2) (hxC : x ≠ C)
    (hno : nsIn (KK p.w.params) cStatics "thirdparty.any" = some none) (hs1 : nsIn (KK p.w.params) 3 (Str.ofString "super") = some none) (hs2 : nsIn (KK p.w.params) 0 (Str.ofString "super") = some (some (.type "super")))
    (hg : fd.globals = 3) (hb : fd.builtins = 0)
    (h : ∀ so q, jwp p A (evalArgs (.ref q) true (backTo cpos (starEach [arg] (callEnv fd L a))) []) (fun ar c₁ => c₁.Has q (methodObj (.ref f2) (.ref x)) ∧ jcode p A (.call (.ref f2) { ar with pos := .ref x :: ar.pos }) (RetQ fun r c₂ => jwpAt p A (.func body (callEnv fd L a)) (execs rest (callEnv fd L a)) Q E c₂) E c₁) E ((c.psh so (ks_superObj D x C)).psh q (methodObj (.ref f2) (.ref x))))
    (hks : autoParam ((callEnv fd L a).kindOf ("super" : Str) = some .globalImplicit) rt) (hkc : autoParam ((callEnv fd L a).kindOf ("__class__" : Str) = some .free) rt) (hka : autoParam ((callEnv fd L a).kindOf ar.arg = some .local) rt) (hk : autoParam (fd.scope.kind = .function) rt)
    (htop : autoParam ((PySem.Challenge.pw_jf0031_01.main.scope.names.lookup ("super" : Str)).isSome = false) rt)
    (he : autoParam (eval (.Call (.Attribute (.Call (.Name "super" p0) [] [] p1) "__init__" apos) [arg] [] cpos) (callEnv fd L a) = (do
      let ov ← attributeBase (.Call (.Name "super" p0) [] [] p1) "__init__" (callEnv fd L a) (eval (.Call (.Name "super" p0) [] [] p1) (callEnv fd L a))
      standAt apos.atName
      let (f, first) ← holding [ov] (getMethod ov "__init__")
      callWith cpos f first (backTo cpos (starEach [arg] (callEnv fd L a))) [])) rt)
    (hi : autoParam (interactive (callEnv fd L a) = false) rt) (hsw : autoParam (swapsWith (.Call (.Attribute (.Call (.Name "super" p0) [] [] p1) "__init__" apos) [arg] [] cpos) none epos.line (callEnv fd L a) = pure false) rt) :
    jwpAt p A (.func body (callEnv fd L a)) (execs (.Expr (.Call (.Attribute (.Call (.Name "super" p0) [] [] p1) "__init__" apos) [arg] [] cpos) epos :: rest) (callEnv fd L a)) Q E c := fun s H => by
  have X := H.inK
  refine ks_wpAt_execs_cons (ks_wpAt_Expr_any (ks_wpAt_MethodCall (pl := pure false) ?_ he) hi hsw)
  obtain ⟨hh, g, d, t, os⟩ := s
  obtain ⟨oD, hD1, hD2⟩ : ∃ oD, hh.get? D = some oD ∧ oD.data = .cls cdD := by
    obtain ⟨o, h1, h2⟩ := clsIn_get hD
    exact ⟨o, X _ _ h1, h2⟩
  have hx' : hh.get? x = some (instObj C dx) := hx.get H
  refine ks_wpAt_super_base hks hkc (by rfl) rfl (X _ _ hf) hfd hp hco (X _ _ hcl) hoc hvs hfile htop ?_
  refine wpAny_mono ((j_eq (p := p) (A := A) (E := E) (c := c) (Q := fun v c' => v = .type "super" ∧ c' = c) (loadName_global hk hks) (j_loadBuiltin hg hb hs1 hs2 ⟨rfl, rfl⟩)).run _ H) (fun v s₁ z2 => z2.elim fun c₁ y20 => y20.elim fun H₁ y21 => y21.elim fun e1 e2 => ?_) fun V V x => x
  subst e1 e2
  refine ⟨rfl, ?_⟩
  have hlc : c₁.Has cc ocell := .inl (H.k _ _ hcell)
  refine wpAny_loadName_free hk hkc (by exact hcc) ⟨_, hlc.get H₁, hcd⟩ ?_
  obtain ⟨m, n, hm'⟩ := H₁.ns _ hl
  refine wpAny_loadName_local hk hka n (hm' _ _ hself) ?_
  obtain ⟨hh₁, g₁, d₁, t₁, os₁⟩ := s₁
  have X₁ := H₁.inK
  obtain ⟨oD₁, hD1', hD2'⟩ : ∃ oD, hh₁.get? D = some oD ∧ oD.data = .cls cdD := by
    obtain ⟨o, h1, h2⟩ := clsIn_get hD
    exact ⟨o, X₁ _ _ h1, h2⟩
  have hx₁ : hh₁.get? x = some (instObj C dx) := hx.get H₁
  refine ks_wpAny_isType_cls hD1' hD2' ⟨rfl, ?_⟩
  refine ks_wpAny_call_super hD1' hD2' hx₁ rfl (fun c e => by cases e) (looks_mroIn X₁ hsub) fun h' e k => ?_
  have H₂ := H₁.keep1 k e t₁
  have X₂ := H₂.inK
  have hso : h'.get? hh₁.objs.size = some (ks_superObj D x C) := e
  cases hc : clsIn (KK p.w.params) C with
  | none => unfold ks_superIn at hm; rw [hc] at hm; cases hm
  | some cdC =>
    unfold ks_superIn at hm
    rw [hc] at hm
    refine ks_wpAny_getMethod_super hso (looks_opaque X₂ hno) (l₀ := cdC.mro) (fun A Q E s k q => wpAny_bind ((looks_clsIn X₂ hc) A _ E s k (wpAny_pure q))) rfl X₂ hm (X₂ _ _ hf2) hf2c hxC (by rfl) ?_
    have H₃ := H₂.push (methodObj (.ref f2) (.ref x)) rfl (t₁ + 1)
    refine wpAny_mono ((j_callMeth hf2 hf2d (h _ _)).run _ H₃) (fun r s' z2 => z2.elim fun c' y20 => y20.elim fun H' q => ?_) fun V V x => x
    exact q s' H'
end
theorem exp_init {p : JP} {A : Around} {c : JC} {E : JC → Prop} {Q : Value → JC → Prop} {x C dx : Addr} {v : Value} {es : List DictEntry} {n : Nat} {pre post : List (Addr × Obj)} (hroom : A.depth < recursionLimit)
    (hx : c.Has x (instObj C dx)) (ho : c.own = pre ++ (dx, dictOf es n) :: post) (ok : setOk (KK p.w.params) C (Str.ofString "variable_name") = true) (hl : (getL (Str.ofString "variable_name") es).isSome = true) (hz : es.length ≤ 900)
    (h : ∀ t, Q .none (c.sto (pre ++ (dx, dictOf (putL (Str.ofString "variable_name") (PyData.keyHash p.w.params (Str.ofString "variable_name")) (.str (Str.ofString "variable_name") t) v es) (putN (Str.ofString "variable_name") es n)) :: post))) :
    jcode p A (.call (.ref 203) ⟨[.ref x, v], []⟩) (RetQ Q) E c := by
  obtain ⟨Z, nss, own, g⟩ := c
  dsimp only at ho
  subst ho
  refine jcode_fn (F203 p.w.params) hroom (binds := [(Str.ofString "self", .ref x), (Str.ofString "variable_name", v)]) rfl fun L => ?_
  refine j_cons (j_AssignAttr (j_local (l := _) List.mem_cons_self rfl (j_local (l := _) List.mem_cons_self rfl ?_)))
  refine j_setOwn (C := C) (hx.imp id id) rfl ok hl hz fun t => ?_
  exact j_nil (bodyQ_next rfl (h t))
theorem no_tp (P : Params) : nsIn (KK P) cStatics "thirdparty.any" = some none := by kernel_rfl
theorem m_super (P : Params) : nsIn (KK P) 3 (Str.ofString "super") = some none := by kernel_rfl
theorem b_super (P : Params) : nsIn (KK P) 0 (Str.ofString "super") = some (some (.type "super")) := by kernel_rfl
theorem mro637 (P : Params) : mroIn (KK P) 637 (.ref 637) = some true := by kernel_rfl
theorem mro561 (P : Params) : mroIn (KK P) 561 (.ref 561) = some true := by kernel_rfl
theorem su637 (P : Params) : ks_superIn (KK P) 637 637 (Str.ofString "__init__") = some (some (.ref 203)) := by kernel_rfl
theorem su561 (P : Params) : ks_superIn (KK P) 561 561 (Str.ofString "__init__") = some (some (.ref 203)) := by kernel_rfl
noncomputable abbrev eN (P : Params) (name : Str) (t : Tok) (v : Value) : DictEntry := ⟨PyData.keyHash P name, .str name t, v⟩
noncomputable abbrev symE (P : Params) (t u : Tok) (s : Str) (ts : Tok) : List DictEntry := [eN P (Str.ofString "variable_name") t .none, eN P (Str.ofString "name") u (.str s ts)]
theorem fresh_ne {p : JP} {c : JC} {x : Addr} {C : Addr} {dx : Addr} {o : Obj} (hx : (x, instObj C dx) ∈ c.own) (hk : (KK p.w.params).lookup C = some o) (s : Shared) (H : c.At p s) : x ≠ C := by
  rintro rfl
  have h1 := H.off x (List.mem_append_right _ (List.mem_map_of_mem hx))
  rw [H.k _ _ hk] at h1; cases h1
theorem jwp_ne {α : Type} {p : JP} {A : Around} {c : JC} {E : JC → Prop} {t : Sem α} {Q : α → JC → Prop} {x C dx : Addr} {o : Obj} {cd : Code} (hx : (x, instObj C dx) ∈ c.own) (hk : (KK p.w.params).lookup C = some o) (h : x ≠ C → jwpAt p A cd t Q E c) : jwpAt p A cd t Q E c :=
  fun s H => h (fresh_ne hx hk s H) s H
theorem jcode_turn {p : JP} {A : Around} {c : JC} {E : JC → Prop} {t : Code} {Q : Value → JC → Prop} (h : jcode p A t (RetQ fun v c₁ => Turn p c₁ (Q v)) E c) : jcode p A t (RetQ Q) E c :=
  .of fun s H => codeAny_mono (h.run s H) fun r s' q => by
    cases r with
    | error e => exact q
    | ok f =>
      obtain ⟨c', H', q⟩ := q
      cases f with
      | ret v => exact (q s' H').elim fun c e => ⟨c, e.1, e.2⟩
      | next => exact q.elim
      | brk => exact q.elim
      | cont => exact q.elim
set_option maxHeartbeats 1000000 in
theorem sym_new {p : JP} {A : Around} {c : JC} {E : JC → Prop} {Q : Value → JC → Prop} {s : Str} {ts : Tok} (hroom : A.depth + 3 < recursionLimit)
    (h : ∀ x dx t u n, Q (.ref x) ((c.psh dx (dictOf (symE p.w.params t u s ts) n)).psh x (instObj 637 dx))) : jcode p A (.call (.ref 637) ⟨[.str s ts], []⟩) (RetQ Q) E c := by
  obtain ⟨Z, nss, own, g⟩ := c
  refine jcode_turn (j_newObj (cm637 _) (ci637 _) (cf592 _) fun x dx => ?_)
  refine jcode_fnG (F592 p.w.params) (by show A.depth + 1 < _; omega) (j_bindD rfl rfl rfl rfl ⟨rfl, fun L => ?_⟩)
  refine jAt_cons (j_Doc ?_)
  refine jwp_ne (x := x) (C := 637) (dx := dx) (by trivial) rfl fun hne => ?_
  refine j_superInit (C := 637) (D := 637) (x := x) (dx := dx) rfl rfl rfl rfl rfl rfl rfl rfl rfl rfl rfl rfl (mro637 _) (.inr (by trivial)) List.mem_cons_self rfl (su637 _) rfl rfl rfl hne (no_tp _) (m_super _) (b_super _) rfl rfl fun so q => ?_
  refine j_args1 (j_local (l := _) List.mem_cons_self rfl ⟨.inr (by trivial), ?_⟩)
  refine exp_init (C := 637) (dx := dx) (pre := [_, _, _]) (by show A.depth + 1 + 1 < _; omega) (.inr (by trivial)) rfl (cs637_variable_name _) rfl (by decide) fun t => ?_
  refine jwpAt_of (j_cons (j_AssignAttr (j_local (l := _) List.mem_cons_self rfl (j_local (l := _) List.mem_cons_self rfl ?_))))
  refine j_setOwn (C := 637) (dx := dx) (pre := [_, _, _]) (.inr (by trivial)) rfl (cs637_name _) rfl (by show 1 ≤ 900; decide) fun u => ?_
  exact j_nil (bodyQ_next rfl ⟨rfl, Turn.drop0 (Turn.drop0 (Turn.done (h x dx t u _)))⟩)
theorem JC.At.keeps {p : JP} {c : JC} {s : Shared} (H : c.At p s) {h : Heap} (hk : ∀ b o, s.heap.get? b = some o → h.get? b = some o) (t : Nat) : c.At p { s with heap := h, toks := t } :=
  ⟨H.d, H.os, H.gens, H.k, fun a o' e => hk _ _ (H.z a o' e), fun q hq => let ⟨m, n, hm⟩ := H.ns q hq; ⟨m, n.keeps hk, hm⟩, fun q hq => hk _ _ (H.own q hq), H.sep, H.off⟩
section
variable {α β : Type} {p : JP} {A : Around} {c : JC} {E : JC → Prop} {env : Env} {cd : Code} {l r : Addr} {items items2 : Array Value} {n n2 : Nat}
theorem j_listOfTup {Q : Value → JC → Prop} (ho : c.Has l (TO items n)) (hsz : items.size ≤ sizeLine) (h : ∀ a k, Q (.ref a) (c.psh a (LO items k))) : jwp p A (call (.type "list") [.ref l]) Q E c := .of fun s H =>
  call_list_seq l (.inr rfl) (ho.get H) rfl rfl (fun h' k hk hs => ⟨_, H.keep1 hk hs s.toks, h _ _⟩) hsz
theorem j_listOfList {Q : Value → JC → Prop} (ho : c.Has l (LO items n)) (hsz : items.size ≤ sizeLine) (h : ∀ a k, Q (.ref a) (c.psh a (LO items k))) : jwp p A (call (.type "list") [.ref l]) Q E c := .of fun s H =>
  call_list_seq l (.inl rfl) (ho.get H) rfl rfl (fun h' k hk hs => ⟨_, H.keep1 hk hs s.toks, h _ _⟩) hsz
theorem j_tupOfList {Q : Value → JC → Prop} (ho : c.Has l (LO items n)) (hsz : items.size ≤ sizeLine) (h : ∀ a, Q (.ref a) (c.psh a (TO items 0))) : jwp p A (call (.type "tuple") [.ref l]) Q E c := .of fun s H =>
  call_tuple_list (has_list ho H).isList (fun h' hk => ⟨_, (H.keeps hk s.toks).push _ rfl s.toks, h _⟩) hsz
theorem notLong {a b : Nat} (h : a + b ≤ 1000000) : ¬(Builtin.List.listTooLong (a + b)) = true := by
  unfold Builtin.List.listTooLong
  rw [sizeLine_eq]
  simp
  omega
theorem j_extend {Q : Value → JC → Prop} {pre post : List (Addr × Obj)} (ho : c.own = pre ++ (l, LO items n) :: post) (hr : c.Has r (LO items2 n2)) (hsz : items.size + items2.size ≤ 1000000)
    (h : ∀ k, Q .none (c.sto (pre ++ (l, LO (items ++ items2) k) :: post))) : jwp p A (call (.builtin "list.extend") [.ref l, .ref r]) Q E c := .of fun s H => by
  have hl : IsL s.heap l items n := H.own (l, _) (by rw [ho]; simp)
  have hl' : s.heap.get? l = some (LO items n) := hl
  refine call_meets F.slot_list_extend hl.isList.typeIs F.entry_list_extend (F.args_list_extend_2 _ _) (AutoSeq1.list_extend_list_list_0 l items n r items2 n2 (fun q => ?_) (by rw [sizeLine_eq]; omega) (by rw [sizeLine_eq]; omega)) ⟨hl', hr.get H, ?_⟩
  · rw [Bool.and_eq_true] at q; exact notLong hsz q.2
  · exact ⟨_, H.put ho (Heap.SameBut.update s.heap l _) (hl.update (· ++ items2)) s.toks, h _⟩
theorem j_clear {Q : Value → JC → Prop} {pre post : List (Addr × Obj)} (ho : c.own = pre ++ (l, LO items n) :: post) (hsz : items.size ≤ sizeLine) (h : ∀ k, Q .none (c.sto (pre ++ (l, LO #[] k) :: post))) :
    jwp p A (call (.builtin "list.clear") [.ref l]) Q E c := .of fun s H => by
  have hl : IsL s.heap l items n := H.own (l, _) (by rw [ho]; simp)
  have hl' : s.heap.get? l = some (LO items n) := hl
  exact call_meets F.slot_list_clear hl.isList.typeIs F.entry_list_clear (F.args_list_clear_1 _) (AutoSeq1.list_clear_list_0 l items n hsz) ⟨hl', ⟨_, H.put ho (Heap.SameBut.update s.heap l _) (hl.update (fun V => #[])) s.toks, h _⟩⟩
theorem j_extendM {o elt : Expr} {apos pos : Pos} {Q : Value → JC → Prop}
    (h : jwp p A (eval o env) (fun ov c₁ => ∃ l items m, ov = .ref l ∧ c₁.Has l (LO items m) ∧ jwp p A (eval elt env) (fun v c₂ => jwp p A (call (.builtin "list.extend") [.ref l, v]) Q E c₂) E c₁) E c)
    (hbase : autoParam (attributeBase o "extend" env (eval o env) = eval o env) rt) (htrees : autoParam (starEach [elt] env = [(false, eval elt env)]) rt)
    (hline : autoParam ((apos.endLine == pos.line) = true) rt) : jwp p A (eval (.Call (.Attribute o "extend" apos) [elt] [] pos) env) Q E c := by
  refine j_CallListM F.slot_list_extend F.type_list_extend (h.mono (fun ov c₁ z2 => z2.elim fun l y20 => y20.elim fun items y21 => y21.elim fun m y22 => y22.elim fun e y23 => y23.elim fun hl q => ⟨l, items, m, e, hl, ?_⟩) fun V V x => x) hbase (by rw [htrees]; rfl) hline
  subst e
  rw [htrees]
  exact j_callB (fun V e => by cases e) (j_args (j_splicedCons (q.mono (fun v c₂ q => j_splicedNil q) fun V V x => x)))
theorem j_argsNil {f : Value} {Q : Args → JC → Prop} (h : Q ⟨[], []⟩ c) : jwp p A (evalArgs f true [] []) Q E c := .of fun s H => evalArgs_nil3 ⟨c, H, h⟩
theorem j_clearM {o : Expr} {apos pos : Pos} {Q : Value → JC → Prop}
    (h : jwp p A (eval o env) (fun ov c₁ => ∃ l items m, ov = .ref l ∧ c₁.Has l (LO items m) ∧ jwp p A (call (.builtin "list.clear") [.ref l]) Q E c₁) E c)
    (hbase : autoParam (attributeBase o "clear" env (eval o env) = eval o env) rt)
    (hline : autoParam ((apos.endLine == pos.line) = true) rt) : jwp p A (eval (.Call (.Attribute o "clear" apos) [] [] pos) env) Q E c := by
  refine j_CallListM F.slot_list_clear F.type_list_clear (h.mono (fun ov c₁ z2 => z2.elim fun l y20 => y20.elim fun items y21 => y21.elim fun m y22 => y22.elim fun e y23 => y23.elim fun hl q => ⟨l, items, m, e, hl, ?_⟩) fun V V x => x) hbase rfl hline
  subst e
  exact j_callB (fun V e => by cases e) (j_argsNil q)
theorem j_evalAll1 {x : Sem Value} {Q : List Value → JC → Prop} (h : jwp p A x (fun v => Q [v]) E c) : jwp p A (evalAll [x]) Q E c := .of fun s H =>
  wpAny_evalAll_cons (wpAny_mono (h.run s H) (fun k s' q' => wpAny_evalAll_nil (q'.elim fun c e => ⟨c, e.1, e.2⟩)) fun V V x => x)
theorem j_args2kw1 {pos : Pos} {f : Value} {e e' : Expr} {kw : Str} {e'' : Expr} {kws : List Keyword} {Q : Args → JC → Prop}
    (h : jwp p A (eval e env) (fun v c₁ => jwp p A (eval e' env) (fun v' c₂ => jwp p A (eval e'' env) (fun k => Q ⟨[v, v'], [(kw, k)]⟩) E c₂) E c₁) E c)
    (hs : autoParam (starEach [e, e'] env = [(false, eval e env), (false, eval e' env)]) rt) (hk : autoParam (keywordEach kws env = [(some kw, eval e'' env)]) rt) :
    jwp p A (evalArgs f true (backTo pos (starEach [e, e'] env)) (backToKw pos (keywordEach kws env))) Q E c := by
  rw [hs, hk]
  unfold evalArgs
  show jwp p A (spliced (backTo pos [(false, eval e env), (false, eval e' env)]) >>= _) Q E c
  refine jwp_bind (j_splicedCons (h.mono (fun v c₁ q => j_splicedCons (q.mono (fun v' c₂ q => j_splicedNil ?_) fun V V x => x)) fun V V x => x))
  refine jwp_bind (jwp_pure (jwp_holding ?_))
  show jwp p A ((evalAll [do let v ← eval e'' env; standAt pos; pure v]) >>= _) Q E c₂
  refine jwp_bind (j_evalAll1 (jwp_bind (q.mono (fun k c₃ q' => j_standThen (jwp_pure ?_)) fun V V x => x)))
  exact jwp_bind (jwp_pure (jwp_pure q'))
noncomputable def HasSeq (c : JC) (l : Addr) (items : Array Value) : Prop := ∃ n, c.Has l (LO items n) ∨ c.Has l (TO items n)
theorem j_collectSeq {Q : List Value → JC → Prop} (ho : HasSeq c l items) (hsz : items.size ≤ sizeLine) (h : Q items.toList c) : jwp p A (collect (.ref l)) Q E c := .of fun s H => by
  obtain ⟨n, ho | ho⟩ := ho
  · exact wpAny_collect_seq l (.inl rfl) (ho.get H) rfl rfl (fun h' hk => ⟨c, H.keeps hk s.toks, h⟩) hsz
  · exact wpAny_collect_seq l (.inr rfl) (ho.get H) rfl rfl (fun h' hk => ⟨c, H.keeps hk s.toks, h⟩) hsz
theorem j_iterable {Q : Bool → JC → Prop} (ho : HasSeq c l items) (h : Q false c) : jwp p A (notIterableAtAll (.ref l)) Q E c := .of fun s H => by
  obtain ⟨n, ho | ho⟩ := ho
  · exact wpAny_bind (wpAny_specialOf (v := .ref l) (T := "list") ⟨_, ho.get H, rfl⟩ F.slot_list_iter.lookup (wpAny_pure ⟨c, H, h⟩))
  · exact wpAny_bind (wpAny_specialOf (v := .ref l) (T := "tuple") ⟨_, ho.get H, rfl⟩ F.slot_tuple_iter.lookup (wpAny_pure ⟨c, H, h⟩))
theorem j_starKw1 {pos sp : Pos} {f : Value} {e : Expr} {kw : Str} {e'' : Expr} {kws : List Keyword} {Q : Args → JC → Prop}
    (h : jwp p A (eval e env) (fun v c₁ => jwp p A (eval e'' env) (fun k c₂ => ∃ l items, v = .ref l ∧ HasSeq c₂ l items ∧ items.size ≤ sizeLine ∧ Q ⟨items.toList, [(kw, k)]⟩ c₂) E c₁) E c)
    (hs : autoParam (starEach [.Starred e sp] env = [(true, eval e env)]) rt) (hk : autoParam (keywordEach kws env = [(some kw, eval e'' env)]) rt) :
    jwp p A (evalArgs f true (backTo pos (starEach [.Starred e sp] env)) (backToKw pos (keywordEach kws env))) Q E c := by
  rw [hs, hk]
  unfold evalArgs
  show jwp p A ((do let v ← eval e env; standAt pos; pure v) >>= _) Q E c
  refine jwp_bind (jwp_bind (h.mono (fun v c₁ q => j_standThen (jwp_pure (jwp_bind (jwp_pure (jwp_holding ?_))))) fun V V x => x))
  show jwp p A ((evalAll [do let v ← eval e'' env; standAt pos; pure v]) >>= _) Q E c₁
  refine jwp_bind (j_evalAll1 (jwp_bind (q.mono (fun k c₃ q' => j_standThen (jwp_pure ?_)) fun V V x => x)))
  obtain ⟨l, items, rfl, ho, hsz, q'⟩ := q'
  refine jwp_bind (jwp_bind (j_iterable ho ?_))
  first
    | exact jwp_holding (j_collectSeq ho hsz (jwp_pure q'))
    | exact jwp_bind (jwp_holding (j_collectSeq ho hsz (jwp_pure (jwp_pure q'))))
end
structure OpD where
  (t1 t2 t3 t4 t5 t6 t7 t8 ts : Tok)
  ar : Addr
  b : Bool
noncomputable abbrev opE (P : Params) (q : OpD) (s : Str) (k l : Addr) : List DictEntry :=
  [eN P (Str.ofString "variable_name") q.t1 .none, eN P (Str.ofString "head") q.t2 (.ref k), eN P (Str.ofString "name") q.t3 (.str s q.ts), eN P (Str.ofString "arity") q.t4 (.ref q.ar), eN P (Str.ofString "associative") q.t5 (.bool q.b),
    eN P (Str.ofString "commutative") q.t6 (.bool false), eN P (Str.ofString "one_identity") q.t7 (.bool false), eN P (Str.ofString "operands") q.t8 (.ref l)]
structure KiD where
  (t1 t2 t3 t4 t5 t6 ts ta : Tok)
  ar : Addr
  ad : Addr
  cn : Value
noncomputable abbrev kindE (P : Params) (q : KiD) (s : Str) (b : Bool) : List DictEntry :=
  [eN P (Str.ofString "name") q.t1 (.str s q.ts), eN P (Str.ofString "arity") q.t2 (.ref q.ar), eN P (Str.ofString "class_name") q.t3 q.cn, eN P (Str.ofString "associative") q.t4 (.bool b), eN P (Str.ofString "commutative") q.t5 (.bool false), eN P (Str.ofString "one_identity") q.t6 (.bool false)]
noncomputable abbrev arO (t : Tok) (d : Addr) : Obj := { cls := .ref 380, dict := some d, data := .seq #[.int 0 t, .bool false] 0, slots := #[] }
noncomputable def isF (s : Str) : Bool := s == Str.ofString "f"
inductive KindAt (P : Params) (Z : Zm) (k : Addr) (s : Str) : Prop
  | mk : ∀ dk q n, Z k = some (instObj 415 dk) → Z dk = some (dictOf (kindE P q s (!isF s)) n) → Z q.ar = some (arO q.ta q.ad) → Z q.ad = some (dictOf [] 0) → KindAt P Z k s
noncomputable def KindsAt (P : Params) (kd : Str → Addr) (Z : Zm) : Prop := ∀ s, isKind s → KindAt P Z (kd s) s
theorem KindAt.mono {P : Params} {Z Z' : Zm} (h : Z.le Z') {k : Addr} {s : Str} (x : KindAt P Z k s) : KindAt P Z' k s := let ⟨dk, q, n, a, b, c, d⟩ := x; ⟨dk, q, n, h _ _ a, h _ _ b, h _ _ c, h _ _ d⟩
theorem KindsAt.mono {P : Params} {kd : Str → Addr} {Z Z' : Zm} (h : Z.le Z') (x : KindsAt P kd Z) : KindsAt P kd Z' := fun s hs => (x s hs).mono h
mutual
noncomputable def EAt (P : Params) (kd : Str → Addr) (Z : Zm) : T → Value → Prop
  | .leaf s, v => ∃ x dx t u ts n, v = .ref x ∧ Z x = some (instObj 637 dx) ∧ Z dx = some (dictOf (symE P t u s ts) n)
  | .node s ps, v => ∃ x dx q l xs m n, v = .ref x ∧ Z x = some (instObj 561 dx) ∧ Z dx = some (dictOf (opE P q s (kd s) l) n) ∧ Z l = some (LO xs m) ∧ EAtAll P kd Z ps xs.toList
noncomputable def EAtAll (P : Params) (kd : Str → Addr) (Z : Zm) : List T → List Value → Prop
  | [], vs => vs = []
  | t :: ts, vs => ∃ v r, vs = v :: r ∧ EAt P kd Z t v ∧ EAtAll P kd Z ts r
end
theorem EAt_e1 : ∀ (P : Params) (kd : Str → Addr) (Z : Zm) (x : Value) (s : Str), EAt P kd Z (T.leaf s) x = ∃ (x_1 : Addr), ∃ (dx : Addr), ∃ (t : Tok), ∃ (u : Tok), ∃ (ts : Tok), ∃ (n : Nat), x = Value.ref x_1 ∧ Z x_1 = some (instObj 637 dx) ∧ Z dx = some (dictOf (symE P t u s ts) n) := by intros; rfl
theorem EAt_e2 : ∀ (P : Params) (kd : Str → Addr) (Z : Zm) (x : Value) (s : Str) (ps : List T), EAt P kd Z (T.node s ps) x = ∃ (x_1 : Addr), ∃ (dx : Addr), ∃ (q : OpD), ∃ (l : Addr), ∃ (xs : Array Value), ∃ (m : Nat), ∃ (n : Nat), x = Value.ref x_1 ∧ Z x_1 = some (instObj 561 dx) ∧ Z dx = some (dictOf (opE P q s (kd s) l) n) ∧ Z l = some (LO xs m) ∧ EAtAll P kd Z ps (Array.toList xs) := by intros; rfl
theorem EAtAll_e1 : ∀ (P : Params) (kd : Str → Addr) (Z : Zm) (x : List Value), EAtAll P kd Z [] x = (x = []) := by intros; rfl
theorem EAtAll_e2 : ∀ (P : Params) (kd : Str → Addr) (Z : Zm) (x : List Value) (t : T) (ts : List T), EAtAll P kd Z (t :: ts) x = ∃ (v : Value), ∃ (r : List Value), x = v :: r ∧ EAt P kd Z t v ∧ EAtAll P kd Z ts r := by intros; rfl
section
variable {P : Params} {kd : Str → Addr} {Z Z' : Zm}
mutual
theorem EAt.mono (h : Z.le Z') : ∀ {t : T} {v : Value}, EAt P kd Z t v → EAt P kd Z' t v
  | .leaf s, v, H => by
    simp only [EAt_e1, EAt_e2] at H ⊢
    obtain ⟨x, dx, t, u, ts, n, e, a, b⟩ := H
    exact ⟨x, dx, t, u, ts, n, e, h _ _ a, h _ _ b⟩
  | .node s ps, v, H => by
    simp only [EAt_e1, EAt_e2] at H ⊢
    obtain ⟨x, dx, q, l, xs, m, n, e, a, b, c, d⟩ := H
    exact ⟨x, dx, q, l, xs, m, n, e, h _ _ a, h _ _ b, h _ _ c, EAtAll.mono h d⟩
theorem EAtAll.mono (h : Z.le Z') : ∀ {ts : List T} {vs : List Value}, EAtAll P kd Z ts vs → EAtAll P kd Z' ts vs
  | [], vs, H => by simp only [EAtAll_e1, EAtAll_e2] at H ⊢; exact H
  | t :: ts, vs, H => by
    simp only [EAtAll_e1, EAtAll_e2] at H ⊢
    obtain ⟨v, r, e, x, y⟩ := H
    exact ⟨v, r, e, EAt.mono h x, EAtAll.mono h y⟩
end
theorem EAtAll.nil : EAtAll P kd Z [] [] := by simp only [EAtAll_e1, EAtAll_e2]
theorem EAtAll.one {t : T} {v : Value} (x : EAt P kd Z t v) : EAtAll P kd Z [t] [v] := by simp only [EAtAll_e1, EAtAll_e2]; exact ⟨v, [], rfl, x, rfl⟩
theorem EAtAll.length : ∀ {ts : List T} {vs : List Value}, EAtAll P kd Z ts vs → vs.length = ts.length
  | [], vs, H => by simp only [EAtAll_e1, EAtAll_e2] at H; subst H; rfl
  | t :: ts, vs, H => by
    simp only [EAtAll_e1, EAtAll_e2] at H
    rcases H with ⟨v, r, rfl, _, y⟩
    simp [y.length]
theorem EAtAll.get : ∀ {ts : List T} {vs : List Value} {i : Nat} {v : Value}, EAtAll P kd Z ts vs → vs[i]? = some v → ∃ t, ts[i]? = some t ∧ EAt P kd Z t v
  | [], vs, i, v, H, e => by simp only [EAtAll_e1, EAtAll_e2] at H; subst H; simp at e
  | t :: ts, vs, i, v, H, e => by
    simp only [EAtAll_e1, EAtAll_e2] at H
    obtain ⟨v', r, rfl, x, y⟩ := H
    cases i with
    | zero => simp at e; subst e; exact ⟨t, rfl, x⟩
    | succ i => simp at e; obtain ⟨t', e', z⟩ := y.get e; exact ⟨t', by simpa using e', z⟩
theorem EAtAll.getT {ts : List T} {vs : List Value} {i : Nat} {t : T} (H : EAtAll P kd Z ts vs) (e : ts[i]? = some t) : ∃ v, vs[i]? = some v ∧ EAt P kd Z t v := by
  have hl := H.length
  have hi : i < vs.length := by rw [hl]; exact (List.getElem?_eq_some_iff.mp e).1
  obtain ⟨t', e', x⟩ := H.get (List.getElem?_eq_getElem hi)
  rw [e] at e'; cases e'
  exact ⟨_, List.getElem?_eq_getElem hi, x⟩
theorem EAtAll.append : ∀ {ts us : List T} {vs ws : List Value}, EAtAll P kd Z ts vs → EAtAll P kd Z us ws → EAtAll P kd Z (ts ++ us) (vs ++ ws)
  | [], us, vs, ws, H, K => by simp only [EAtAll_e1, EAtAll_e2] at H; subst H; exact K
  | t :: ts, us, vs, ws, H, K => by
    simp only [EAtAll_e1, EAtAll_e2] at H
    rcases H with ⟨v, r, rfl, x, y⟩
    simp only [List.cons_append, EAtAll_e1, EAtAll_e2]
    exact ⟨v, r ++ ws, rfl, x, y.append K⟩
theorem EAtAll.push {ts : List T} {xs : Array Value} {t : T} {v : Value} (H : EAtAll P kd Z ts xs.toList) (x : EAt P kd Z t v) : EAtAll P kd Z (ts ++ [t]) (xs.push v).toList := by
  rw [Array.toList_push]; exact H.append (.one x)
theorem EAtAll.take : ∀ {ts : List T} {vs : List Value} (n : Nat), EAtAll P kd Z ts vs → EAtAll P kd Z (ts.take n) (vs.take n)
  | _, _, 0, _ => by simp only [List.take_zero]; exact .nil
  | [], vs, n + 1, H => by simp only [EAtAll_e1, EAtAll_e2] at H; subst H; exact .nil
  | t :: ts, vs, n + 1, H => by
    simp only [EAtAll_e1, EAtAll_e2] at H
    rcases H with ⟨v, r, rfl, x, y⟩
    simp only [List.take_succ_cons, EAtAll_e1, EAtAll_e2]
    exact ⟨v, _, rfl, x, y.take n⟩
theorem EAtAll.drop : ∀ {ts : List T} {vs : List Value} (n : Nat), EAtAll P kd Z ts vs → EAtAll P kd Z (ts.drop n) (vs.drop n)
  | _, _, 0, H => H
  | [], vs, n + 1, H => by simp only [EAtAll_e1, EAtAll_e2] at H; subst H; exact .nil
  | t :: ts, vs, n + 1, H => by
    simp only [EAtAll_e1, EAtAll_e2] at H
    rcases H with ⟨v, r, rfl, x, y⟩
    simp only [List.drop_succ_cons]
    exact y.drop n
theorem eat_node {s : Str} {ps : List T} {v : Value} (h : EAt P kd Z (.node s ps) v) : ∃ x dx q l xs m n, v = .ref x ∧ Z x = some (instObj 561 dx) ∧ Z dx = some (dictOf (opE P q s (kd s) l) n) ∧ Z l = some (LO xs m) ∧ EAtAll P kd Z ps xs.toList := by simpa only [EAt_e1, EAt_e2] using h
theorem eat_leaf {s : Str} {v : Value} (h : EAt P kd Z (.leaf s) v) : ∃ x dx t u ts n, v = .ref x ∧ Z x = some (instObj 637 dx) ∧ Z dx = some (dictOf (symE P t u s ts) n) := by simpa only [EAt_e1, EAt_e2] using h
end
noncomputable def T.isNode : T → Bool
  | .leaf _ => false
  | .node _ _ => true
section
variable {p : JP} {A : Around} {c : JC} {E : JC → Prop} {env : Env} {kd : Str → Addr} {t : T} {v : Value} {expr : Bool} {Q : Value → JC → Prop}
theorem j_eName (h : EAt p.w.params kd c.Z t v) (q : ∀ ts, Q (.str t.name ts) c) : jwp p A (getAttr v (Str.ofString "name") expr) Q E c := by
  cases t with
  | leaf s =>
    obtain ⟨x, dx, t, u, ts, n, rfl, hx, hd⟩ := eat_leaf h
    exact j_getOwn ⟨.inl hx, .inl hd⟩ (ca637_name _) rfl rfl (q ts)
  | node s ps =>
    obtain ⟨x, dx, d, l, xs, m, n, rfl, hx, hd, _⟩ := eat_node h
    exact j_getOwn ⟨.inl hx, .inl hd⟩ (ca561_name _) rfl rfl (q _)
theorem j_isOne {x dx C D : Addr} {es : List DictEntry} {n : Nat} {b : Bool} (I : Inst c x D dx es n) (hg : plainGet (KK p.w.params) D Str.empty = true) (hk : hasDictIn (KK p.w.params) D = true ∧ findIn (KK p.w.params) (.ref D) "__class__" = some (some (.builtin "object.__class__")) ∧ mroIn (KK p.w.params) D (.type "object") = some true)
    (e : kitOne (KK p.w.params) (.ref D) (.ref C) = some b) (q : Q (.bool b) c) : jwp p A (call (.builtin "isinstance") [.ref x, .ref C]) Q E c := .of fun s H =>
  kia_one (kitx_own (ox := instObj D dx) (od := dictOf es n) hg hk.1 hk.2.1 (ckd _).1 (ckd _).2 hk.2.2) H.inK (I.at H) e (fun h => by cases h) fun tk => ⟨c, H.toks tk, q⟩
theorem j_eIsOp (h : EAt p.w.params kd c.Z t v) (q : Q (.bool t.isNode) c) : jwp p A (call (.builtin "isinstance") [v, .ref 561]) Q E c := by
  cases t with
  | leaf s =>
    obtain ⟨x, dx, t, u, ts, n, rfl, hx, hd⟩ := eat_leaf h
    exact j_isOne ⟨.inl hx, .inl hd⟩ (cp637 _) (ck637 _) (ki637_561 _) q
  | node s ps =>
    obtain ⟨x, dx, d, l, xs, m, n, rfl, hx, hd, _⟩ := eat_node h
    exact j_isOne ⟨.inl hx, .inl hd⟩ (cp561 _) (ck561 _) (ki561_561 _) q
theorem j_eIsWild (h : EAt p.w.params kd c.Z t v) (q : Q (.bool false) c) : jwp p A (call (.builtin "isinstance") [v, .ref 741]) Q E c := by
  cases t with
  | leaf s =>
    obtain ⟨x, dx, t, u, ts, n, rfl, hx, hd⟩ := eat_leaf h
    exact j_isOne ⟨.inl hx, .inl hd⟩ (cp637 _) (ck637 _) (ki637_741 _) q
  | node s ps =>
    obtain ⟨x, dx, d, l, xs, m, n, rfl, hx, hd, _⟩ := eat_node h
    exact j_isOne ⟨.inl hx, .inl hd⟩ (cp561 _) (ck561 _) (ki561_741 _) q
theorem j_IsOp {e : Expr} {np np' pos : Pos} {Q : Value → JC → Prop} (h : jwp p A (eval e env) (fun v c₁ => ∃ t, EAt p.w.params kd c₁.Z t v ∧ Q (.bool t.isNode) c₁) E c) (hs : autoParam (starEach [e, .Name (Str.ofString "Operation") np'] env = [(false, eval e env), (false, eval (.Name (Str.ofString "Operation") np') env)]) rt)
    (hg : autoParam (inB env (Str.ofString "isinstance") = true) rt) (hg' : autoParam (inG env (Str.ofString "Operation") = true) rt) :
    jwp p A (eval (.Call (.Name (Str.ofString "isinstance") np) [e, .Name (Str.ofString "Operation") np'] [] pos) env) Q E c := by
  refine j_CallName (j_builtin (m_isinstance _) (b_isinstance _) (j_callB (fun V e => by cases e) (j_args2 (h.mono (fun v c₁ q => j_global (g_Operation _) ?_ hg') fun V V x => x) hs)) hg)
  obtain ⟨t, h1, h2⟩ := q
  exact j_eIsOp h1 h2
end
noncomputable abbrev thB := fB
noncomputable def elB (s : Stmt) : List Stmt := (sel s).2.1
noncomputable abbrev forB := fB
section
variable {p : JP} {A : Around} {c : JC} {E : JC → Prop} {env : Env} {Q : Bool → JC → Prop}
theorem j_isTrueAttr {value : Expr} {attr : Str} {pos : Pos} {whole : Sem Value} (h : jwp p A whole (fun v c₁ => jwp p A (truthy v) Q E c₁) E c) : jwp p A (isTrue (.Attribute value attr pos) env whole) Q E c := by
  show jwp p A (whole >>= fun v => standAt _ >>= fun V => holding [v] (truthy v)) Q E c
  exact jwp_bind (h.mono (fun v V q => j_standThen (jwp_holding q)) fun V V x => x)
theorem j_isTrueCall {f : Expr} {args : List Expr} {kws : List Keyword} {pos : Pos} {whole : Sem Value} (h : jwp p A whole (fun v c₁ => jwp p A (truthy v) Q E c₁) E c) : jwp p A (isTrue (.Call f args kws pos) env whole) Q E c := by
  show jwp p A (whole >>= fun v => standAt _ >>= fun V => holding [v] (truthy v)) Q E c
  exact jwp_bind (h.mono (fun v V q => j_standThen (jwp_holding q)) fun V V x => x)
theorem j_isTrueName {x : Str} {pos : Pos} {whole : Sem Value} (h : jwp p A whole (fun v c₁ => jwp p A (truthy v) Q E c₁) E c) : jwp p A (isTrue (.Name x pos) env whole) Q E c := by
  show jwp p A (whole >>= fun v => standAt _ >>= fun V => holding [v] (truthy v)) Q E c
  exact jwp_bind (h.mono (fun v V q => j_standThen (jwp_holding q)) fun V V x => x)
end
set_option maxHeartbeats 2000000 in
theorem op_simplify {p : JP} {A : Around} {c : JC} {E : JC → Prop} {Q : Value → JC → Prop} {kd : Str → Addr} {s : Str} {l : Addr} {xs : Array Value} {m : Nat} {ts : List T} {pre post : List (Addr × Obj)}
    (hroom : A.depth + 3 < recursionLimit) (hh : A.handled = none) (hs : isKind s) (hkd : KindsAt p.w.params kd c.Z) (ho : c.own = pre ++ (l, LO xs m) :: post) (ht : EAtAll p.w.params kd c.Z ts xs.toList) (hsz : ts.length ≤ 100000) (hsz2 : (openedParts s ts).length ≤ 100000)
    (h : ∀ ys k, EAtAll p.w.params kd c.Z (openedParts s ts) ys.toList → Q (.bool false) (c.sto (pre ++ (l, LO ys k) :: post))) : jcode p A (.call (.ref 412) ⟨[.ref (kd s), .ref l], []⟩) (RetQ Q) E c := by
  obtain ⟨Z, nss, own, g⟩ := c
  dsimp only at ho ht hkd h
  subst ho
  obtain ⟨dk, q, n, hk1, hk2, hk3⟩ := hkd s hs
  have hlen := ht.length
  rw [Array.length_toList] at hlen
  refine jcode_turn (jcode_fn (F412 p.w.params) (by omega) (binds := [(Str.ofString "cls", .ref (kd s)), (Str.ofString "operands", .ref l)]) rfl fun L => ?_)
  have tail : ∀ (Z' : Zm) (l' : Vars) (own' : List (Addr × Obj)), l'.lookup (Str.ofString "cls") = some (.ref (kd s)) → Z.le Z' → (Turn p ⟨Z', nss, own', g⟩ (Q (.bool false))) →
      jwp p (A.deeper (callEnv f412 L 412)) (execs ((fB (nth (fB (nth (PySem.Challenge.pw_jf0031_01.main.body) 8)) 3)).drop 2) (callEnv f412 L 412)) (BodyQ L nss fun v c₁ => Turn p c₁ (Q v)) (fun V => False) ⟨Z', (L, l') :: nss, own', g⟩ := by
    intro Z' l' own' hl le ht
    refine j_cons (j_If (j_isTrueBoolOp (j_allTrueAnd (j_isTrueAttr (j_Attribute (j_local (l := _) List.mem_cons_self hl (j_getOwn (C := 415) ⟨.inl (le _ _ hk1), .inl (le _ _ hk2)⟩ (ca415_one_identity _) rfl rfl (j_truthyBool ?_))))))))
    refine ifF ?_
    refine j_nil (j_cons (j_If (j_isTrueAttr (j_Attribute (j_local (l := _) List.mem_cons_self hl (j_getOwn (C := 415) ⟨.inl (le _ _ hk1), .inl (le _ _ hk2)⟩ (ca415_commutative _) rfl rfl (j_truthyBool ?_)))))))
    refine ifF ?_
    exact j_nil (j_cons (j_Return (j_cBool (bodyQ_ret rfl ht))))
  refine j_cons (j_Doc ?_)
  refine j_cons (j_If (j_isTrueAttr (j_Attribute (j_local (l := _) List.mem_cons_self rfl (j_getOwn (C := 415) ⟨.inl hk1, .inl hk2⟩ (ca415_associative _) rfl rfl (j_truthyBool ?_))))))
  cases hf : isF s with
  | true =>
    have e1 : openedParts s ts = ts := by
      have : s = Str.ofString "f" := by simpa [isF] using hf
      have h1 : openedOne s = fun t => [t] := by funext t; simp [openedOne, this]
      unfold openedParts
      rw [h1]; simp
    refine ifF ?_
    refine j_nil (tail Z _ _ rfl (Zm.le.refl _) (Turn.done (h xs m ?_)))
    rw [e1]; exact ht
  | false =>
    have hnf : s ≠ Str.ofString "f" := by intro e; subst e; simp [isF] at hf
    refine ifT ?_
    refine j_cons (j_Assign (j_List (j_splicedNil ⟨Nat.zero_le _, fun D => ?_⟩)))
    refine j_store0 ?_
    refine j_cons (j_For (E' := fun V => False) (iter_list l xs m) (fun i c₁ => ∃ ys k, c₁ = ⟨Z, (L, [(Str.ofString "new_operands", .ref D), (Str.ofString "operands", .ref l), (Str.ofString "cls", .ref (kd s))]) :: nss, (D, LO ys k) :: (pre ++ (l, LO xs m) :: post), g⟩ ∧ EAtAll p.w.params kd Z (openedParts s (ts.take i)) ys.toList)
      hh NotRaised.never go_name ?_ ?_ ?_ ?_)
    · refine j_local (l := _) List.mem_cons_self rfl (j_iterList (items := xs) (m := m) (has_own (by first | (trivial; done) | simp)) fun it o ho => ⟨it, o, _, rfl, ho, Conv.refl _, #[], 0, rfl, ?_⟩)
      simp only [List.take_zero, openedParts, List.flatMap_nil]; exact .nil
    · intro i c₁ it o hX
      obtain ⟨ys, k, rfl, _⟩ := hX
      exact has_own (by first | (trivial; done) | simp)
    · intro i v c₁ it o hi hv ho hX
      obtain ⟨ys, k, rfl, hy⟩ := hX
      have hv' : xs.toList[i]? = some v := by rw [Array.getElem?_toList]; exact hv
      obtain ⟨t, hti, htv⟩ := ht.get hv'
      have hones : openedParts s (ts.take (i + 1)) = openedParts s (ts.take i) ++ openedOne s t := by rw [list_take_succ hti]; simp [openedParts]
      have hlt : (openedParts s (ts.take i)).length + (openedOne s t).length ≤ 100000 := by
        have : (openedParts s (ts.take (i + 1))).length ≤ (openedParts s ts).length := by
          have e2 : openedParts s ts = openedParts s (ts.take (i + 1)) ++ openedParts s (ts.drop (i + 1)) := by unfold openedParts; rw [← List.flatMap_append, List.take_append_drop]
          rw [e2, List.length_append]; omega
        rw [hones, List.length_append] at this; omega
      have hyl := hy.length
      rw [Array.length_toList] at hyl
      have app : openedOne s t = [t] → ∀ (nv : Vars), KnowL nv [(Str.ofString "new_operands", .ref D), (Str.ofString "operands", .ref l), (Str.ofString "cls", .ref (kd s))] → nv.lookup (Str.ofString "new_operands") = some (.ref D) → nv.lookup (Str.ofString "operand") = some v →
          jwp p (A.deeper (callEnv f412 L 412)) (execs [nth (elB (nth (forB (nth (thB (nth (fB (nth (fB (nth (PySem.Challenge.pw_jf0031_01.main.body) 8)) 3)) 1)) 1)) 0)) 0] (callEnv f412 L 412)) (fun f c₃ => match f with
            | .next => TurnOK p c₃ it o fun c₄ => ∃ ys k, c₄ = ⟨Z, (L, [(Str.ofString "new_operands", .ref D), (Str.ofString "operands", .ref l), (Str.ofString "cls", .ref (kd s))]) :: nss, (D, LO ys k) :: (pre ++ (l, LO xs m) :: post), g⟩ ∧ EAtAll p.w.params kd Z (openedParts s (ts.take (i + 1))) ys.toList
            | _ => False) (fun V => False) ⟨Z, (L, nv) :: nss, (it, o) :: (D, LO ys k) :: (pre ++ (l, LO xs m) :: post), g⟩ := by
        intro h1 nv hnv hD hop
        refine j_cons (j_ExprNone (j_appendM (j_local (l := _) List.mem_cons_self hD ⟨D, ys, k, rfl, has_own (o := LO ys k) (by first | (trivial; done) | simp), ?_⟩)))
        refine j_local (l := _) List.mem_cons_self hop (j_append (pre := [(it, o)]) rfl (by show ys.size ≤ sizeLine; rw [sizeLine_eq]; omega) fun k' => ⟨rfl, j_nil ?_⟩)
        refine ⟨⟨Z, (L, [(Str.ofString "new_operands", .ref D), (Str.ofString "operands", .ref l), (Str.ofString "cls", .ref (kd s))]) :: nss, (D, LO (ys.push v) k') :: (pre ++ (l, LO xs m) :: post), g⟩, Conv.know hnv, _, k', rfl, ?_⟩
        rw [hones, h1]; exact hy.push htv
      refine j_assignName (j_store0 ?_)
      refine j_cons (j_If (j_isTrueBoolOp (j_allTrueAnd (j_isTrueCall (j_IsOp (j_local (l := _) List.mem_cons_self rfl ⟨t, htv, j_truthyBool ?_⟩))))))
      cases t with
      | leaf s' =>
        dsimp only [T.isNode]
        refine ifF ?_
        refine (app (by unfold openedOne; split <;> rfl) ((Str.ofString "operand", v) :: [(Str.ofString "new_operands", .ref D), (Str.ofString "operands", .ref l), (Str.ofString "cls", .ref (kd s))]) ⟨rfl, rfl, rfl, trivial⟩ rfl rfl).mono (fun f c₃ q => ?_) fun V V x => x
        cases f with
        | next => exact j_nil q
        | brk => exact q.elim
        | cont => exact q.elim
        | ret v => exact q.elim
      | node s' qs =>
        dsimp only [T.isNode]
        refine j_allTrueAnd (j_isTrueCompare1 (j_Attribute (j_local (l := _) List.mem_cons_self rfl (j_eName htv fun tk => j_Attribute (j_local (l := _) List.mem_cons_self rfl (j_getOwn (C := 415) ⟨.inl hk1, .inl hk2⟩ (ca415_name _) rfl rfl (j_eqStr (j_truthyBool ?_))))))))
        by_cases hn : s' = s
        · have e : ((T.node s' qs).name == s) = true := by simp [T.name, hn]
          rw [e]
          refine j_allTrueNil ?_
          refine ifT ?_
          have h1 : openedOne s (.node s' qs) = qs := by simp [openedOne, T.name, hn, hnf]
          rw [h1] at hlt
          obtain ⟨x, dx, d, l2, xs2, m2, n2, rfl, hx, hd, hl2, hq⟩ := eat_node htv
          have hql := hq.length
          rw [Array.length_toList] at hql
          refine j_cons (j_ExprNone (j_extendM (j_local (l := _) List.mem_cons_self rfl ⟨D, ys, k, rfl, has_own (o := LO ys k) (by first | (trivial; done) | simp), ?_⟩)))
          refine j_Attribute (j_local (l := _) List.mem_cons_self rfl (j_getOwn (C := 561) ⟨.inl hx, .inl hd⟩ (ca561_operands _) rfl rfl ?_))
          refine j_extend (pre := [(it, o)]) rfl (.inl hl2) (by omega) fun k' => ⟨rfl, j_nil (j_nil ?_)⟩
          refine ⟨⟨Z, (L, [(Str.ofString "new_operands", .ref D), (Str.ofString "operands", .ref l), (Str.ofString "cls", .ref (kd s))]) :: nss, (D, LO (ys ++ xs2) k') :: (pre ++ (l, LO xs m) :: post), g⟩, Conv.know ⟨rfl, rfl, rfl, trivial⟩, _, k', rfl, ?_⟩
          rw [hones, h1, Array.toList_append]; exact hy.append hq
        · have e : ((T.node s' qs).name == s) = false := by simp [T.name, hn]
          rw [e]
          refine ifF ?_
          refine (app (by simp [openedOne, T.name, hn]) ((Str.ofString "operand", v) :: [(Str.ofString "new_operands", .ref D), (Str.ofString "operands", .ref l), (Str.ofString "cls", .ref (kd s))]) ⟨rfl, rfl, rfl, trivial⟩ rfl rfl).mono (fun f c₃ q => ?_) fun V V x => x
          cases f with
          | next => exact j_nil q
          | brk => exact q.elim
          | cont => exact q.elim
          | ret v => exact q.elim
    · intro c₁ hX
      obtain ⟨ys, k, rfl, hy⟩ := hX
      have hfull : ts.take xs.size = ts := by rw [hlen]; exact List.take_length
      rw [hfull] at hy
      have hyl := hy.length
      rw [Array.length_toList] at hyl
      refine j_nil (j_cons (j_ExprNone (j_clearM (j_local (l := _) List.mem_cons_self rfl ⟨l, xs, m, rfl, has_own (o := LO xs m) (by first | (trivial; done) | simp), ?_⟩))))
      refine j_clear (pre := (D, LO ys k) :: pre) rfl (by rw [sizeLine_eq]; omega) fun k1 => ⟨rfl, ?_⟩
      refine j_cons (j_ExprNone (j_extendM (j_local (l := _) List.mem_cons_self rfl ⟨l, #[], k1, rfl, has_own (o := LO #[] k1) (by first | (trivial; done) | simp), ?_⟩)))
      refine j_local (l := _) List.mem_cons_self rfl (j_extend (pre := (D, LO ys k) :: pre) (post := post) (items2 := ys) (n2 := k) rfl (has_own (by first | (trivial; done) | simp)) (by simp; omega) fun k2 => ⟨rfl, j_nil ?_⟩)
      refine tail Z _ _ rfl (Zm.le.refl _) (Turn.drop0 (Turn.done (h _ k2 ?_)))
      simpa using hy
section
variable {α β : Type} {p : JP} {A : Around} {c : JC} {E : JC → Prop} {env : Env} {cd : Code}
theorem j_MethodCall {o : Expr} {name : Str} {apos pos : Pos} {args : List Expr} {kws : List Keyword} {pl : Sem Bool} {Q : Value → JC → Prop}
    (h : jwp p A (eval o env) (fun ov c₁ => jwp p A (getMethod ov name pl) (fun fx c₂ => jwp p A (callWith pos fx.1 fx.2 (backTo pos (starEach args env)) (backToKw pos (keywordEach kws env))) Q E c₂) E c₁) E c)
    (he : autoParam (eval (.Call (.Attribute o name apos) args kws pos) env = (do
      let ov ← eval o env
      standAt apos.atName
      let (f, first) ← holding [ov] (getMethod ov name pl)
      callWith pos f first (backTo pos (starEach args env)) (backToKw pos (keywordEach kws env)))) rt) :
    jwp p A (eval (.Call (.Attribute o name apos) args kws pos) env) Q E c := by
  rw [he]
  exact jwp_bind (h.mono (fun ov c₁ q => j_standThen (jwp_bind (jwp_holding (q.mono (fun fx c₂ q => q) fun V V x => x)))) fun V V x => x)
theorem j_methodT {T : String} {name : Str} {v : Value} {pl : Sem Bool} {Q : Value × List Value → JC → Prop} (ht : typeOf (.type T) = pure (.type "type")) (hs : Manifest.isStub T = false)
    (e : findCls (KK p.w.params) (.type T) (.type "type") name = some (.val v)) (hh : handedIn v = true) (h : Q (v, []) c) : jwp p A (getMethod (.type T) name pl) Q E c := .of fun s H => by
  have X := H.inK
  have hstub : opaqueClassAbove (.type T) = pure none := by unfold opaqueClassAbove; dsimp only; rw [hs]; rfl
  have L0 : Looks p.M s.heap (typeOf (.type T)) (.type "type") := Looks.of_pure ht
  have hg : findIn (KK p.w.params) (.type "type") "__getattribute__" = some (some (.builtin "type.__getattribute__")) := type_tga
  unfold getMethod specialOf
  refine wpAny_bind (wpAny_bind (L0.here ((looks_findIn X hg).here ?_)))
  dsimp only
  rw [if_pos canon_tga]
  refine wpAny_bind (wpAny_mono (Q := fun v s' => postQ p Q (v, []) s') (E := postE p E) ?_ (fun V V z => wpAny_pure z) fun V V z => z)
  have LO : Looks p.M s.heap (opaqueClassAbove (.type T)) none := Looks.of_pure hstub
  exact cls_open X LO L0 hg (looks_hook X (r := none) (by rfl)) (by show subIn (KK p.w.params) _ _ = _; rfl) e
    (wpAny_pure (by show wpAny _ _ (handedOut v) _ _ _; rw [handedOut_of hh]; exact wpAny_pure ⟨c, H.toks _, h⟩))
theorem ar_mro (P : Params) : mroIn (KK P) 380 (.type "tuple") = some true := by kernel_rfl
theorem kind_tuple_getitem : builtinKind "tuple.__getitem__" = some .slot := by decide +kernel
theorem split_tuple_getitem : splitId "tuple.__getitem__" = some ("tuple", "__getitem__") := by decide +kernel
theorem idx_int : typeLookup (.type "int") "__index__" = pure (some (.builtin "int.__index__")) := by rw [typeLookup_type, builtinLookup_eq_fast]; kernel_rfl
theorem arType {M : Model} {h : Heap} {ar ad : Addr} {t : Tok} (ho : h.get? ar = some (arO t ad)) : Looks M h (typeOf (.ref ar)) (.ref 380) := (Looks.ld (part := some headPart) ho).andThen .now
theorem j_arItem {ar ad : Addr} {t u : Tok} {i : Nat} {v : Value} {Q : Value → JC → Prop} (ho : c.Has ar (arO t ad)) (hi : (#[.int 0 t, .bool false] : Array Value)[i]? = some v) (h : Q v c) :
    jwp p A (call (.builtin "tuple.__getitem__") [.ref ar, .int (i : Int) u]) Q E c := .of fun s H => by
  obtain ⟨hh, g, d, tk, os⟩ := s
  have hg := ho.get H
  dsimp only at hg
  have LI : Looks p.M hh (isInstance (.ref ar) (.type "tuple")) true := (arType hg).andThen (looks_mroIn H.inK (ar_mro _))
  refine wpAny_call (codeAny_call_builtin F.slot_tuple_getitem.plain F.entry_tuple_getitem (@check_slot p.M _ _ ⟨hh, g, d, tk, os⟩ "tuple.__getitem__" "tuple" "__getitem__" (.ref ar) [.int (i : Int) u] [] _ kind_tuple_getitem split_tuple_getitem LI (F.args_tuple_getitem_2 (.ref ar) (.int (i : Int) u)) ?_))
  have hi2 : i < 2 := by have := (Array.getElem?_eq_some_iff.mp hi).1; simpa using this
  show wpAny _ _ (Builtin.Tuple.tupleItemsOf (.ref ar) >>= _) _ _ _
  refine wpAny_bind ?_
  unfold Builtin.Tuple.tupleItemsOf
  refine wpAny_bind (wpAny_seqItems hg rfl (wpAny_pure ?_))
  refine wpAny_bind (m := typeOf (.int (i : Int) u)) (wpAny_pure ?_)
  rw [if_neg (by decide)]
  have L1 : Looks p.M hh (specialOf (.int (i : Int) u) "__index__") (some (.builtin "int.__index__")) := (Looks.of_pure rfl : Looks p.M hh (typeOf (.int (i : Int) u)) (.type "int")).andThen (Looks.of_pure idx_int)
  refine wpAny_bind (L1.at ?_)
  rw [if_neg (by decide)]
  have L2 : Looks p.M hh (asIndex (.int (i : Int) u)) (i : Int) := Looks.of_pure rfl
  refine wpAny_bind (L2.at ?_)
  have hfit : ¬ ((decide ((i : Int) < -(2 ^ 63)) || decide ((i : Int) ≥ 2 ^ 63)) = true) := by simp; omega
  rw [if_neg hfit]
  have e : (seqIndex? (i : Int) (#[.int 0 t, .bool false] : Array Value).size).bind ((#[.int 0 t, .bool false] : Array Value)[·]?) = some v := by
    have : i = 0 ∨ i = 1 := by omega
    rcases this with rfl | rfl <;> exact hi
  rw [e]
  exact wpAny_pure ⟨c, H, h⟩
theorem issub_arity (P : Params) : Meets (Builtin.«issubclass» ⟨[.ref 380, .type "tuple"], []⟩) (fun V R s => (KK P).In s.heap ∧ R (.ok (.ret (.bool true))) s) := fun prog w A R s hs => by
  refine issubclass_outer ?_
  rcases s with ⟨hh, g, d, tk, os⟩
  rcases hs with ⟨X, hq⟩
  have L1 : Looks (model prog w) hh (typeOf (.type "tuple")) (.type "type") := Looks.of_pure (kitMeta_of (by decide +kernel))
  have L2 : Looks (model prog w) hh (isSubtype (.ref 380) (.type "tuple")) true := looks_mroIn X (ar_mro _)
  unfold Builtin.«issubclass.nested»
  dsimp only
  refine wpAny_bind (L1.at ?_)
  rw [if_pos (by decide)]
  k_delta "plainIsSubclass"
  have hx : hh.get? 380 = some (k380 P) := X _ _ rfl
  refine wpAny_bind (wpAny_bind (m := isType (.ref 380)) ?_)
  unfold isType
  refine wpAny_bind (wpAny_loadPart hx (wpAny_pure ?_))
  refine wpAny_bind (m := isType (.type "tuple")) (wpAny_pure ?_)
  rw [if_pos (by rfl)]
  exact L2.at (wpAny_pure hq)
theorem j_issubArity {Q : Value → JC → Prop} (h : Q (.bool true) c) : jwp p A (call (.builtin "issubclass") [.ref 380, .type "tuple"]) Q E c := .of fun s H =>
  call_issubclass (issub_arity p.w.params) ⟨H.inK, ⟨c, H, h⟩⟩
theorem j_typeOfObj {x : Addr} {o : Obj} {Q : Value → JC → Prop} (ho : c.Has x o) (hn : (o.cls == .type "builtin_function_or_method") = false) (h : Q o.cls c) : jwp p A (call (.type "type") [.ref x]) Q E c := .of fun s H => by
  obtain ⟨hh, g, d, t, os⟩ := s
  exact call_type_obj (ho.get H) hn ⟨c, H, h⟩
end
theorem m_issubclass (P : Params) : nsIn (KK P) 3 (Str.ofString "issubclass") = some none := by kernel_rfl
theorem b_issubclass (P : Params) : nsIn (KK P) 0 (Str.ofString "issubclass") = some (some (.builtin "issubclass")) := by kernel_rfl
theorem ca178_index (P : Params) : attrOk (KK P) 178 (Str.ofString "index") = true := by kernel_rfl
theorem ar_min (P : Params) : findObj (KK P) 380 (some (dictOf [] 0)) (Str.ofString "min_count") = some (.bind (.ref 161) (.ref 372)) := by kernel_rfl
theorem ar_fix (P : Params) : findObj (KK P) 380 (some (dictOf [] 0)) (Str.ofString "fixed_size") = some (.bind (.ref 161) (.ref 375)) := by kernel_rfl
theorem ar_ga (P : Params) : findIn (KK P) (.ref 380) "__getattribute__" = some (some (.builtin "tuple.__getattribute__")) := by kernel_rfl
theorem ar_gattr (P : Params) : findIn (KK P) (.ref 380) "__getattr__" = some none := by kernel_rfl
theorem kind_tuple_ga : builtinKind "tuple.__getattribute__" = some .slot := by decide +kernel
theorem split_tuple_ga : splitId "tuple.__getattribute__" = some ("tuple", "__getattribute__") := by decide +kernel
theorem t_tuple_gi (P : Params) : findCls (KK P) (.type "tuple") (.type "type") (Str.ofString "__getitem__") = some (.val (.builtin "tuple.__getitem__")) := by kernel_rfl
theorem mt_tuple : typeOf (.type "tuple") = pure (.type "type") := kitMeta_of (by decide +kernel)
theorem st_tuple : Manifest.isStub "tuple" = false := by decide +kernel
theorem hd_tuple_gi : handedIn (.builtin "tuple.__getitem__") = true := by decide +kernel
section
variable {p : JP} {A : Around} {c : JC} {E : JC → Prop} {env : Env}
theorem j_getter {g dx ar ad : Addr} {t u w : Tok} {i : Nat} {v : Value} {x2 : DictEntry} {n : Nat} {Q : Value → JC → Prop} (hroom : A.depth < recursionLimit) (hg : (KK p.w.params).lookup g = some (instObj 178 dx))
    (hd : (KK p.w.params).lookup dx = some (dictOf [eN p.w.params (Str.ofString "index") t (.int (i : Int) u), x2] n)) (ho : c.Has ar (arO w ad)) (hi : (#[.int 0 w, .bool false] : Array Value)[i]? = some v) (h : Q v c) :
    jcode p A (.call (.ref 161) ⟨[.ref g, .ref ar, .ref 380], []⟩) (RetQ Q) E c := by
  obtain ⟨Z, nss, own, gens⟩ := c
  refine jcode_fnB (F161 p.w.params) hroom (j_bindD (binds := [(Str.ofString "self", .ref g), (Str.ofString "obj", .ref ar), (Str.ofString "objtype", .ref 380)]) rfl rfl rfl rfl ⟨rfl, fun L => ?_⟩)
  refine j_cons (j_If (j_isTrueCompare1 (j_local (l := _) List.mem_cons_self rfl (j_cNone (j_is rfl (j_truthyBool ?_))))))
  rw [show (Value.ref ar == Value.none) = false from rfl]
  refine ifF ?_
  refine j_nil (j_cons (j_If (j_isTrueNot (j_isTrueCall ?_))))
  refine j_B2 (m_issubclass _) (b_issubclass _) ?_
  refine j_B1 (m_type _) (b_type _) ?_
  refine (j_local (l := _) List.mem_cons_self rfl ?_)
  refine j_typeOfObj (o := arO w ad) (ho.imp id id) rfl ?_
  refine j_builtin (m_tuple _) (b_tuple _) ?_
  refine j_issubArity (j_truthyBool ?_)
  dsimp only
  refine ifF ?_
  refine j_nil (j_cons (j_Return ?_))
  refine j_MethodCall ?_
  refine j_builtin (m_tuple _) (b_tuple _) ?_
  refine j_methodT mt_tuple st_tuple (t_tuple_gi _) hd_tuple_gi ?_
  refine jwp_known fun K => ?_
  refine j_callB (fun V e => by cases e) (j_args2 (j_local (l := _) List.mem_cons_self rfl (j_Attribute (j_local (l := _) List.mem_cons_self rfl (j_getOwn (C := 178) ⟨K _ _ hg, K _ _ hd⟩ (ca178_index _) rfl rfl ?_)))))
  exact j_arItem (ho.imp id id) hi (bodyQ_ret rfl h)
end
section
variable {p : JP} {A : Around} {c : JC} {E : JC → Prop} {env : Env}
theorem j_arAttr {ar ad g dx : Addr} {w t u : Tok} {i : Nat} {v : Value} {name : Str} {x2 : DictEntry} {n : Nat} {expr : Bool} {Q : Value → JC → Prop} (hroom : A.depth < recursionLimit) (ho : c.Has ar (arO w ad)) (hoD : c.Has ad (dictOf [] 0)) (hf : findObj (KK p.w.params) 380 (some (dictOf [] 0)) name = some (.bind (.ref 161) (.ref g)))
    (hg : (KK p.w.params).lookup g = some (instObj 178 dx)) (hd : (KK p.w.params).lookup dx = some (dictOf [eN p.w.params (Str.ofString "index") t (.int (i : Int) u), x2] n)) (hi : (#[.int 0 w, .bool false] : Array Value)[i]? = some v) (hv : handedIn v = true)
    (h : Q v c) : jwp p A (getAttr (.ref ar) name expr) Q E c := .of fun s H => by
  have X := H.inK
  have H1 := H.toks (s.toks + 1)
  rcases s with ⟨hh, gg, d, tk, os⟩
  have hgr := ho.get H
  have hgd := hoD.get H
  dsimp only at hgr hgd X
  have I : InstAt hh ar (arO w ad) 380 (some (dictOf [] 0)) := ⟨hgr, rfl, rfl, hgd⟩
  have L0 : Looks p.M hh (typeOf (.ref ar)) (.ref 380) := arType hgr
  have L1 : Looks p.M hh (typeLookup (.ref 380) "__getattribute__") _ := looks_findIn X (ar_ga _)
  have L2 : Looks p.M hh (typeLookup (.ref 380) "__getattr__") _ := looks_findIn X (ar_gattr _)
  have LI : Looks p.M hh (isInstance (.ref ar) (.type "tuple")) true := L0.andThen (looks_mroIn X (ar_mro _))
  unfold getAttr getAttrBy
  refine wpAny_bind (wpAny_mkText (wpAny_holding (wpAny_bind (L0.at (wpAny_bind (L1.at ?_))))))
  show wpAny _ _ (getAttrByItsOwn (.ref ar) (.str name tk) (.ref 380) (.builtin "tuple.__getattribute__") true expr) _ _ _
  unfold getAttrByItsOwn hookBefore callGetattribute boundAndCalled
  rw [if_pos (show onTheHeap (.ref 380) = true from rfl)]
  refine wpAny_bind (L2.at (wpAny_bind (wpAny_attempt (wpAny_holding ?_))))
  rw [show (expr && onTheHeap (Value.builtin "tuple.__getattribute__")) = false from Bool.and_false _, if_neg (by decide)]
  refine wpAny_bind (wpAny_of_eq (F.slot_tuple_getattribute.bind _) ?_)
  refine wpAny_call (codeAny_call_builtin F.slot_tuple_getattribute.plain F.entry_tuple_ga (@check_slot p.M _ _ ⟨hh, gg, d, tk + 1, os⟩ "tuple.__getattribute__" "tuple" "__getattribute__" (.ref ar) [.str name tk] [] _ kind_tuple_ga split_tuple_ga LI (F.args_tuple_getattribute_2 (.ref ar) (.str name tk)) ?_))
  unfold Builtin.«object.__getattribute__»
  refine wpAny_bind (wpAny_pure (wpAny_bind (wpAny_pure (wpAny_bind (L0.at (wpAny_bind ((looks_find X I hf).at ?_)))))))
  show wpAny _ _ (holding [.ref g] (call (.ref 161) [.ref g, .ref ar, .ref 380]) >>= ret) _ _ _
  refine wpAny_bind (wpAny_holding (wpAny_mono ((j_call (j_getter (A := A.in1) (E := fun V => False) (Q := fun r c' => r = v ∧ Q v c') hroom hg hd ho hi ⟨rfl, h⟩)).run _ H1) (fun r s' q => wpAny_pure ?_) fun e s' z2 => z2.elim fun V y20 => y20.elim fun V y21 => y21.elim fun V y22 => y22.elim fun V y23 => y23.elim fun V q => q.elim))
  obtain ⟨c', H', rfl, q⟩ := q
  show wpAny _ _ (handedOut r) _ _ _
  rw [handedOut_of hv]
  exact wpAny_pure ⟨c', H', q⟩
end
section
variable {p : JP} {A : Around} {c : JC} {E : JC → Prop} {env : Env}
theorem j_AugName {x : Str} {pos' pos : Pos} {op : Operator} {value : Expr} {Q : Flow → JC → Prop}
    (h : jwp p A (loadName env x) (fun old c₁ => jwp p A (eval value env) (fun v c₂ => jwp p A (inplaceOp op old v) (fun r c₃ => jwp p A (storeName env x r) (fun V => Q .next) E c₃) E c₂) E c₁) E c) :
    jwp p A (exec (.AugAssign (.Name x pos') op value pos) env) Q E c := by
  rw [exec_AugAssign_Name]
  exact j_standThen (jwp_bind (h.mono (fun old c₁ q => jwp_bind (jwp_holding (q.mono (fun v c₂ q => j_standThen (jwp_bind (j_operate (q.mono (fun r c₃ q => j_standThen (jwp_bind (j_bindName (q.mono (fun V V q => jwp_pure q) fun V V x => x)))) fun V V x => x)))) fun V V x => x))) fun V V x => x))
theorem j_loadLocal {x : Str} {l : Vars} {v : Value} {Q : Value → JC → Prop} (hm : (env.locals, l) ∈ c.nss) (hv : l.lookup x = some v) (h : Q v c)
    (hk : autoParam (env.scope.kind = .function) rt) (hx : autoParam (env.kindOf x = some .local) rt) : jwp p A (loadName env x) Q E c :=
  .of fun s H => let ⟨m, n, hm'⟩ := H.ns _ hm; wpAny_loadName_local hk hx n (hm' x v hv) ⟨c, H, h⟩
theorem j_assignTup2 {x y : Str} {px py tpos : Pos} {k : Nat} {t : Addr} {u v : Value} {n : Nat} {Q : Unit → JC → Prop} (hh : A.handled = none) (ht : c.Has t (TO #[u, v] n))
    (h : jwp p A (storeName env x u) (fun V c₁ => jwp p A (storeName env y v) Q E c₁) E c) : jwp p A (assign (.Tuple [.Name x px, .Name y py] k tpos) env (.ref t)) Q E c := .of fun s H => by
  refine wpAny_assign_Tuple hh ⟨_, has_tup ht H, rfl, _, rfl⟩ rfl rfl fun h' hx => ?_
  have H' := H.keeps (h := h') (fun b o e => hx b o (Nat.ne_of_lt (Heap.lt_size e)) e) s.toks
  show wpAny _ A (do holding [v] (assign (.Name x px) env u); do holding [] (assign (.Name y py) env v); pure ()) _ _ _
  refine wpAny_bind (wpAny_holding (wpAny_mono ((j_assignName (h.mono (fun V c₁ q => q) fun V V x => x)).run _ H') (fun V s₁ z2 => z2.elim fun c₁ y20 => y20.elim fun H₁ q => ?_) fun V V x => x))
  exact wpAny_bind (wpAny_holding (wpAny_mono ((j_assignName q).run _ H₁) (fun V s₂ q => wpAny_pure q) fun V V x => x))
theorem j_AssignTup {elts : List Expr} {k : Nat} {tpos pos : Pos} {value : Expr} {Q : Flow → JC → Prop}
    (h : jwp p A (eval value env) (fun v c₁ => jwp p A (assign (.Tuple elts k tpos) env v) (fun V => Q .next) E c₁) E c)
    (hs : autoParam (swapsWithSole [.Tuple elts k tpos] value pos.line env = pure false) rt)
    (hw : autoParam (swappedStores [.Tuple elts k tpos] value env = pure none) rt) : jwp p A (exec (.Assign [.Tuple elts k tpos] value pos) env) Q E c := .of fun s H =>
  Assign_Tuple (wpAny_mono (h.run s H) (fun v s₁ z2 => z2.elim fun c₁ y20 => y20.elim fun H₁ q => postQ.turn (f := fun V => Flow.next) (q.run s₁ H₁)) fun V V x => x) hs hw
end
section
set_option maxHeartbeats 1000000 in
theorem op_count {p : JP} {A : Around} {c : JC} {E : JC → Prop} {Q : Value → JC → Prop} {kd : Str → Addr} {l : Addr} {xs : Array Value} {m : Nat} {ts : List T} (hroom : A.depth < recursionLimit) (hh : A.handled = none)
    (hl : c.Has l (LO xs m)) (ht : EAtAll p.w.params kd c.Z ts xs.toList)
    (h : ∀ a t, Q (.ref a) (c.psh a (TO #[.int (xs.size : Int) t, .bool false] 0))) : jcode p A (.call (.ref 443) ⟨[.ref l], []⟩) (RetQ Q) E c := by
  obtain ⟨Z, nss, own, g⟩ := c
  dsimp only at ht h
  refine jcode_fn (F443 p.w.params) hroom (binds := [(Str.ofString "operands", .ref l)]) rfl fun L => ?_
  refine j_cons (j_Assign (j_cInt fun t0 => j_store0 ?_))
  refine j_cons (j_Assign (j_cBool (j_store0 ?_)))
  refine j_cons (j_For (E' := fun V => False) (iter_list l xs m) (fun i c₁ => ∃ t, c₁ = ⟨Z, (L, [(Str.ofString "operand_count", .int (i : Int) t), (Str.ofString "variable", .bool false), (Str.ofString "operands", .ref l)]) :: nss, own, g⟩)
    hh NotRaised.never go_name ?_ ?_ ?_ ?_)
  · refine j_local (l := _) List.mem_cons_self rfl (j_iterList (has_weak hl fun q hq => hq) fun it o ho => ⟨it, o, ⟨Z, (L, [(Str.ofString "operand_count", .int 0 t0), (Str.ofString "variable", .bool false), (Str.ofString "operands", .ref l)]) :: nss, own, g⟩, rfl, ho, Conv.know ⟨rfl, rfl, rfl, trivial⟩, t0, rfl⟩)
  · intro i c₁ it o hX
    obtain ⟨t, rfl⟩ := hX
    exact has_weak hl fun q hq => List.mem_cons_of_mem _ hq
  · intro i v c₁ it o hi hv ho hX
    obtain ⟨t, rfl⟩ := hX
    have hv' : xs.toList[i]? = some v := by rw [Array.getElem?_toList]; exact hv
    obtain ⟨tr, hti, htv⟩ := ht.get hv'
    refine j_assignName (j_store0 ?_)
    refine j_cons (j_If (j_isTrueCall ?_))
    refine j_B2 (m_isinstance _) (b_isinstance _) ?_
    refine (j_local (l := _) List.mem_cons_self rfl (j_global (g_Wildcard _) ?_))
    refine j_eIsWild htv (j_truthyBool ?_)
    refine ifF ?_
    refine j_cons (j_AugName (j_loadLocal (l := _) List.mem_cons_self rfl (j_cInt fun t1 => j_iadd fun t2 => j_store0 (j_nil (j_nil ?_)))))
    refine ⟨⟨Z, (L, [(Str.ofString "operand_count", .int ((i + 1 : Nat) : Int) t2), (Str.ofString "variable", .bool false), (Str.ofString "operands", .ref l)]) :: nss, own, g⟩, Conv.know ⟨rfl, rfl, rfl, trivial⟩, t2, rfl⟩
  · intro c₁ hX
    obtain ⟨t, rfl⟩ := hX
    exact j_nil (j_cons (j_Return (j_Tuple2 (j_local (l := _) List.mem_cons_self rfl (j_local (l := _) List.mem_cons_self rfl fun a => bodyQ_ret rfl (h a t))))))
end
theorem findObj_static {K : Frag} {C : Addr} {od : Obj} {name : Str} {a g : Value} (hh : hasDictIn K C = true) (ha : findIn K (.ref C) name = some (some a)) (hg : specialIn K a "__get__" = some (some g)) (ht : takesIn K a = some false)
    (hl : lookIn name od = some none) (hc : copiedNames.contains name = false) : findObj K C (some od) name = some (.bind g a) := by
  rcases any_some hh with ⟨cd, hc', hd⟩
  have ho : W.ownOf cd (some od) name = some none := by unfold W.ownOf; rw [if_pos hd]; exact hl
  show (clsIn K C).bind _ = _
  rw [hc']
  show (findIn K (.ref C) name).bind _ = _
  rw [ha]
  show (specialIn K a "__get__").bind _ = _
  rw [hg]
  show (takesIn K a).bind _ = _
  rw [ht]
  show (W.ownOf cd (some od) name).bind _ = _
  rw [ho]
  show (if (copiedNames.contains name && _) = true then _ else _) = _
  rw [hc]
  rfl
theorem st_find (P : Params) : findIn (KK P) (.ref 561) (Str.ofString "_count_operands") = some (some (.ref 445)) := by kernel_rfl
theorem st_get (P : Params) : specialIn (KK P) (.ref 445) "__get__" = some (some (.builtin "staticmethod.__get__")) := by kernel_rfl
theorem st_takes (P : Params) : takesIn (KK P) (.ref 445) = some false := by kernel_rfl
theorem st_usual (P : Params) : (some (Value.ref 445)).all (fun a => (typeIn (KK P) a).any fun t => t != .type "function" && t != .type "method_descriptor" && t != .type "wrapper_descriptor") = true := by kernel_rfl
theorem st_rec (P : Params) : recIn (KK P) 445 "staticmethod" = some [.ref 443, .bool false] := by kernel_rfl
theorem st_copied : copiedNames.contains (Str.ofString "_count_operands") = false := by decide +kernel
section
variable {p : JP} {A : Around} {c : JC} {E : JC → Prop} {env : Env}
theorem j_methodStatic {x dx : Addr} {es : List DictEntry} {n : Nat} {pl : Sem Bool} {Q : Value × List Value → JC → Prop} (I : Inst c x 561 dx es n) (hl : getL (Str.ofString "_count_operands") es = some none) (h : Q (.ref 443, []) c) :
    jwp p A (getMethod (.ref x) (Str.ofString "_count_operands") pl) Q E c := .of fun s H => by
  obtain ⟨ga, gk⟩ := plainGet_of (cp561 p.w.params)
  refine method_usual H.inK (I.at H) ga gk (st_find _) (st_usual _) ?_
  refine get_bind H.inK (I.at H) ga (findObj_static (ck561 _).1 (st_find _) (st_get _) (st_takes _) hl st_copied) gk ?_
  refine wpAny_call (sm_get (s := { s with toks := s.toks + 1 }) (H.toks (s.toks + 1)).inK (st_rec _) ?_)
  exact handed_on rfl ⟨c, H.toks _, h⟩
end
section
set_option maxHeartbeats 2000000 in
theorem op_init {p : JP} {A : Around} {c : JC} {E : JC → Prop} {Q : Value → JC → Prop} {kd : Str → Addr} {s : Str} {x dx l : Addr} {xs : Array Value} {m : Nat} {ts : List T} {own : List (Addr × Obj)} (hroom : A.depth + 4 < recursionLimit) (hh : A.handled = none)
    (hs : isKind s) (hkd : KindsAt p.w.params kd c.Z) (ho : c.own = (x, instObj 561 dx) :: (dx, dictOf [] 0) :: own) (hl : (l, LO xs m) ∈ own) (ht : EAtAll p.w.params kd c.Z ts xs.toList)
    (h : ∀ q n, Q .none (c.sto ((x, instObj 561 dx) :: (dx, dictOf (opE p.w.params q s (kd s) l) n) :: own))) :
    jcode p A (.call (.ref 436) ⟨[.ref x, .ref (kd s), .ref l], [(Str.ofString "variable_name", .none)]⟩) (RetQ Q) E c := by
  obtain ⟨Z, nss, own', g⟩ := c
  dsimp only at ho ht hkd h
  subst ho
  obtain ⟨dk, q, n, hk1, hk2, hk3, hk4⟩ := hkd s hs
  refine jcode_turn (jcode_fnG (F436 p.w.params) (by omega) (j_bindD (binds := [(Str.ofString "self", .ref x), (Str.ofString "kind", .ref (kd s)), (Str.ofString "operands", .ref l), (Str.ofString "variable_name", .none)]) rfl rfl rfl rfl ⟨rfl, fun L => ?_⟩))
  refine jAt_cons (j_Doc ?_)
  refine jwp_ne (x := x) (C := 561) (dx := dx) (by trivial) rfl fun hne => ?_
  refine j_superInit (C := 561) (D := 561) (x := x) (dx := dx) rfl rfl rfl rfl rfl rfl rfl rfl rfl rfl rfl rfl (mro561 _) (.inr (by trivial)) List.mem_cons_self rfl (su561 _) rfl rfl rfl hne (no_tp _) (m_super _) (b_super _) rfl rfl fun so q1 => ?_
  refine j_args1 (j_local (l := _) List.mem_cons_self rfl ⟨.inr (by trivial), ?_⟩)
  refine exp_init (C := 561) (dx := dx) (pre := [_, _, _]) (by show A.depth + 1 < _; omega) (.inr (by trivial)) rfl (cs561_variable_name _) rfl (by decide) fun t1 => ?_
  refine jwpAt_of ?_
  refine j_cons (j_AssignAttr (j_local (l := _) List.mem_cons_self rfl (j_local (l := _) List.mem_cons_self rfl ?_)))
  refine j_setOwn (C := 561) (dx := dx) (pre := [_, _, _]) (.inr (by trivial)) rfl (cs561_head _) rfl (by show 1 ≤ 900; decide) fun t2 => ?_
  refine j_cons (j_AssignAttr (j_Attribute (j_local (l := _) List.mem_cons_self rfl (j_getOwn (C := 415) ⟨.inl hk1, .inl hk2⟩ (ca415_name _) rfl rfl (j_local (l := _) List.mem_cons_self rfl ?_)))))
  refine j_setOwn (C := 561) (dx := dx) (pre := [_, _, _]) (.inr (by trivial)) rfl (cs561_name _) rfl (by show 2 ≤ 900; decide) fun t3 => ?_
  refine j_cons (j_AssignAttr (j_Attribute (j_local (l := _) List.mem_cons_self rfl (j_getOwn (C := 415) ⟨.inl hk1, .inl hk2⟩ (ca415_arity _) rfl rfl (j_local (l := _) List.mem_cons_self rfl ?_)))))
  refine j_setOwn (C := 561) (dx := dx) (pre := [_, _, _]) (.inr (by trivial)) rfl (cs561_arity _) rfl (by show 3 ≤ 900; decide) fun t4 => ?_
  refine j_cons (j_AssignAttr (j_Attribute (j_local (l := _) List.mem_cons_self rfl (j_getOwn (C := 415) ⟨.inl hk1, .inl hk2⟩ (ca415_associative _) rfl rfl (j_local (l := _) List.mem_cons_self rfl ?_)))))
  refine j_setOwn (C := 561) (dx := dx) (pre := [_, _, _]) (.inr (by trivial)) rfl (cs561_associative _) rfl (by show 4 ≤ 900; decide) fun t5 => ?_
  refine j_cons (j_AssignAttr (j_Attribute (j_local (l := _) List.mem_cons_self rfl (j_getOwn (C := 415) ⟨.inl hk1, .inl hk2⟩ (ca415_commutative _) rfl rfl (j_local (l := _) List.mem_cons_self rfl ?_)))))
  refine j_setOwn (C := 561) (dx := dx) (pre := [_, _, _]) (.inr (by trivial)) rfl (cs561_commutative _) rfl (by show 5 ≤ 900; decide) fun t6 => ?_
  refine j_cons (j_AssignAttr (j_Attribute (j_local (l := _) List.mem_cons_self rfl (j_getOwn (C := 415) ⟨.inl hk1, .inl hk2⟩ (ca415_one_identity _) rfl rfl (j_local (l := _) List.mem_cons_self rfl ?_)))))
  refine j_setOwn (C := 561) (dx := dx) (pre := [_, _, _]) (.inr (by trivial)) rfl (cs561_one_identity _) rfl (by show 6 ≤ 900; decide) fun t7 => ?_
  refine j_cons (j_AssignTup ?_)
  refine j_MethodCall ?_
  refine j_local (l := _) List.mem_cons_self rfl ?_
  refine j_methodStatic (x := x) (dx := dx) ⟨.inr (by trivial), .inr (List.mem_cons_of_mem _ (List.mem_cons_of_mem _ (List.mem_cons_of_mem _ List.mem_cons_self)))⟩ rfl ?_
  refine j_callFn (fd := f443) rfl rfl (j_args1 (j_local (l := _) List.mem_cons_self rfl ?_))
  refine j_call (op_count (m := m) (xs := xs) (by show A.depth + 1 < _; omega) hh (.inr (by simp [hl])) ht fun a t8 => ?_)
  refine j_assignTup2 hh (.inr List.mem_cons_self) ?_
  refine j_store0 (j_store0 ?_)
  dsimp only
  refine j_cons (j_If (j_isTrueBoolOp (j_allTrueAnd (j_isTrueNot (j_isTrueName (j_local (l := _) List.mem_cons_self rfl (j_truthyBool ?_)))))))
  refine j_allTrueAnd (j_isTrueCompare1 (j_local (l := _) List.mem_cons_self rfl ?_))
  refine j_Attribute (j_Attribute (j_local (l := _) List.mem_cons_self rfl ?_))
  refine j_getOwn (C := 561) (x := x) (dx := dx) ⟨.inr (by trivial), .inr (List.mem_cons_of_mem _ (List.mem_cons_of_mem _ (List.mem_cons_of_mem _ (List.mem_cons_of_mem _ List.mem_cons_self))))⟩ (ca561_arity _) rfl rfl ?_
  refine j_arAttr (i := 0) (w := q.ta) (by show A.depth + 1 < _; omega) (.inl hk3) (.inl hk4) (ar_min _) rfl rfl rfl rfl ?_
  refine j_lt (j_truthyBool ?_)
  rw [decide_eq_false (by omega)]
  refine ifF ?_
  refine j_nil (j_cons (j_If (j_isTrueBoolOp (j_allTrueAnd (j_isTrueAttr (j_Attribute (j_Attribute (j_local (l := _) List.mem_cons_self rfl ?_))))))))
  refine j_getOwn (C := 561) (x := x) (dx := dx) ⟨.inr (by trivial), .inr (List.mem_cons_of_mem _ (List.mem_cons_of_mem _ (List.mem_cons_of_mem _ (List.mem_cons_of_mem _ List.mem_cons_self))))⟩ (ca561_arity _) rfl rfl ?_
  refine j_arAttr (i := 1) (w := q.ta) (by show A.depth + 1 < _; omega) (.inl hk3) (.inl hk4) (ar_fix _) rfl rfl rfl rfl (j_truthyBool ?_)
  refine ifF ?_
  refine j_nil (j_cons (j_AssignAttr (j_local (l := _) List.mem_cons_self rfl (j_local (l := _) List.mem_cons_self rfl ?_))))
  refine j_setOwn (C := 561) (dx := dx) (pre := [_, _, _, _]) (.inr (by trivial)) rfl (cs561_operands _) rfl (by show 7 ≤ 900; decide) fun t9 => ?_
  refine j_nil (bodyQ_next rfl ?_)
  exact Turn.drop0 (Turn.drop0 (Turn.drop0 (Turn.done (h ⟨t1, t2, t3, t4, t5, t6, t7, t9, q.ts, q.ar, !isF s⟩ _))))
end
theorem bind405k (k v : Value) (vs : List Value) : bindArgs f405 ⟨k :: vs, [(Str.ofString "variable_name", v)]⟩ = (newTuple vs >>= fun t => pure [(Str.ofString "cls", k), (Str.ofString "variable_name", v), (Str.ofString "operands", t)]) := by
  cases vs with
  | nil => rfl
  | cons u vs => rfl
theorem bind405n (k : Value) (vs : List Value) {p : JP} {A : Around} {c : JC} {E : JC → Prop} {Q : List (Str × Value) → JC → Prop}
    (h : jwp p A (newTuple vs) (fun t => Q [(Str.ofString "cls", k), (Str.ofString "variable_name", .none), (Str.ofString "operands", t)]) E c)
    (hn : ∀ Q' : Option Value → JC → Prop, Q' (some .none) c → jwp p A (nsGet 398 (Str.ofString "variable_name")) Q' E c) : jwp p A (bindArgs f405 ⟨k :: vs, []⟩) Q E c := by
  cases vs with
  | nil =>
    first
      | (show jwp p A ((nsGet 398 (Str.ofString "variable_name") >>= _) >>= _) Q E c; refine jwp_bind (jwp_bind (hn _ ?_)))
      | (show jwp p A (((nsGet 398 (Str.ofString "variable_name") >>= _) >>= _) >>= _) Q E c; refine jwp_bind (jwp_bind (jwp_bind (hn _ ?_))))
    show jwp p A (pure _) _ E c
    refine jwp_pure ?_
    show jwp p A (pure _) _ E c
    refine jwp_pure ?_
    show jwp p A (newTuple [] >>= _) Q E c
    exact jwp_bind (h.mono (fun V V q => jwp_pure q) fun V V x => x)
  | cons u vs =>
    first
      | (show jwp p A ((nsGet 398 (Str.ofString "variable_name") >>= _) >>= _) Q E c; refine jwp_bind (jwp_bind (hn _ ?_)))
      | (show jwp p A (((nsGet 398 (Str.ofString "variable_name") >>= _) >>= _) >>= _) Q E c; refine jwp_bind (jwp_bind (jwp_bind (hn _ ?_))))
    show jwp p A (pure _) _ E c
    refine jwp_pure ?_
    show jwp p A (pure _) _ E c
    refine jwp_pure ?_
    show jwp p A (newTuple (u :: vs) >>= _) Q E c
    exact jwp_bind (h.mono (fun V V q => jwp_pure q) fun V V x => x)
section
variable {p : JP} {A : Around} {c : JC} {E : JC → Prop} {env : Env}
theorem j_nsGet {a : Addr} {o : Obj} {name : Str} {r : Option Value} {Q : Option Value → JC → Prop} (ho : c.Has a o) (hl : lookIn name o = some r) (h : Q r c) : jwp p A (nsGet a name) Q E c := .of fun s H => by
  unfold nsGet
  refine wpAny_bind (wpAny_loadPart (ho.get H) ?_)
  rw [nsLook_of hl]
  exact wpAny_pure ⟨c, H, h⟩
theorem j_methodFn {x C dx f : Addr} {es : List DictEntry} {n : Nat} {name : Str} {pl : Sem Bool} {Q : Value × List Value → JC → Prop} (I : Inst c x C dx es n) (hg : plainGet (KK p.w.params) C Str.empty = true) (hf : findIn (KK p.w.params) (.ref C) name = some (some (.ref f))) (ht : isFn (KK p.w.params) (.ref f) = true)
    (hl : getL name es = some none) (h : Q (.ref f, [.ref x]) c) : jwp p A (getMethod (.ref x) name pl) Q E c := .of fun s H =>
  method_fn H.inK (I.at H) (plainGet_of hg).1 (plainGet_of hg).2 hf (beq_iff_eq.mp ht) (by show (lookIn name (dictOf es n)).map _ = _; rw [lookIn_dict, hl]; rfl) ⟨c, H, h⟩
theorem j_callCls {pos : Pos} {C : Addr} {args : List (Bool × Sem Value)} {kws : List (Option Str × Sem Value)} {Q : Value → JC → Prop} (hm : makesIn (KK p.w.params) C = true)
    (h : jwp p A (evalArgs (.ref C) true args kws) (fun a c₁ => jcode p A (.call (.ref C) a) (RetQ Q) E c₁) E c) : jwp p A (callWith pos (.ref C) [] args kws) Q E c :=
  j_callWith (k := .machine) (h.mono (fun a c₁ q => .of fun s H => by
    have Y := makes_of (M := p.M) H.inK hm
    rcases Y.obj with ⟨oc, od, cd, sl, hC, _⟩
    have L := Y.call
    rcases s with ⟨hh, g, d, t, os⟩
    unfold keeperOf
    refine wpAny_bind (wpAny_load hC ?_)
    dsimp only
    refine wpAny_bind (L.at ?_)
    exact wpAny_pure ⟨c₁, H, j_call q⟩) fun V V x => x)
end
section
set_option maxHeartbeats 2000000 in
theorem kind_call {p : JP} {A : Around} {c : JC} {E : JC → Prop} {Q : Value → JC → Prop} {kd : Str → Addr} {s : Str} {vals : List Value} {kw : List (Str × Value)} {ts : List T} (hroom : A.depth + 8 < recursionLimit) (hh : A.handled = none)
    (hs : isKind s) (hkd : KindsAt p.w.params kd c.Z) (hkw : kw = [] ∨ kw = [(Str.ofString "variable_name", .none)]) (ht : EAtAll p.w.params kd c.Z ts vals) (hsz : ts.length ≤ 100000) (hsz2 : (openedParts s ts).length ≤ 100000)
    (h : ∀ Z' v, c.Z.le Z' → EAt p.w.params kd Z' (opened s ts) v → Q v { c with Z := Z' }) : jcode p A (.call (.ref (kd s)) ⟨vals, kw⟩) (RetQ Q) E c := by
  obtain ⟨Z, nss, own, g⟩ := c
  dsimp only at ht hkd h
  have hkd' := hkd
  obtain ⟨dk, q, n, hk1, hk2, hk3⟩ := hkd s hs
  have hlen := ht.length
  refine j_callObj (C := 415) (x := kd s) (dx := dk) ⟨.inl hk1, .inl hk2⟩ (cg415_call _) (cn405 _) (cd405 _) ?_
  have body : ∀ (t L : Addr), jwp p (A.deeper (callEnv f405 L 405)) (execs (fB (nth (fB (nth (PySem.Challenge.pw_jf0031_01.main.body) 8)) 2)) (callEnv f405 L 405)) (BodyQ L nss fun v c₁ => Turn p c₁ (Q v)) (fun V => False)
      ⟨Z, (L, [(Str.ofString "cls", .ref (kd s)), (Str.ofString "variable_name", .none), (Str.ofString "operands", .ref t)].reverse) :: nss, (t, TO vals.toArray 0) :: own, g⟩ := by
    intro t L
    refine j_cons (j_Assign ?_)
    refine j_B1 (m_list _) (b_list _) ?_
    refine (j_local (l := _) List.mem_cons_self rfl ?_)
    refine j_listOfTup (items := vals.toArray) (n := 0) (.inr List.mem_cons_self) (by rw [sizeLine_eq]; simp; omega) fun l k => ?_
    refine j_store0 ?_
    refine j_cons (j_Assign (j_MethodCall (j_local (l := _) List.mem_cons_self rfl ?_)))
    refine j_methodFn (C := 415) (dx := dk) ⟨.inl hk1, .inl hk2⟩ (cp415 _) (cg415_simplify _) (cn412 _) rfl ?_
    refine j_callFn (fd := f412) rfl rfl (j_args1 (j_local (l := _) List.mem_cons_self rfl (j_call ?_)))
    refine op_simplify (pre := []) (post := (t, TO vals.toArray 0) :: own) (l := l) (xs := vals.toArray) (m := k) (ts := ts) (s := s) (by show A.depth + 1 + 3 < _; omega) hh hs hkd' rfl (by simpa using ht) hsz hsz2 fun ys k2 hy => ?_
    refine j_store0 ?_
    refine j_cons (j_If (j_isTrueName (j_local (l := _) List.mem_cons_self rfl (j_truthyBool ?_))))
    refine ifF ?_
    refine j_nil (j_cons (j_Return ?_))
    refine j_CallName (j_global (g_Operation _) ?_)
    refine j_callCls (cm561 _) (j_args2kw1 ?_)
    refine j_local (l := _) List.mem_cons_self rfl ?_
    refine j_local (l := _) List.mem_cons_self rfl ?_
    refine j_local (l := _) List.mem_cons_self rfl ?_
    refine j_newObj (cm561 _) (ci561 _) (cf436 _) fun x dx => ?_
    refine op_init (own := (l, LO ys k2) :: (t, TO vals.toArray 0) :: own) (l := l) (xs := ys) (m := k2) (ts := openedParts s ts) (s := s) (kd := kd) (by show A.depth + 1 + 1 + 4 < _; omega) hh hs hkd' rfl List.mem_cons_self hy fun qd n => ⟨rfl, ?_⟩
    refine bodyQ_ret rfl ?_
    refine Turn.freeze0 fun Z1 le1 h1 => Turn.freeze0 fun Z2 le2 h2 => Turn.freeze0 fun Z3 le3 h3 => Turn.drop0 (Turn.done ?_)
    refine h Z3 _ ((le1.trans le2).trans le3) ?_
    simp only [opened, EAt_e1, EAt_e2]
    exact ⟨x, dx, qd, l, ys, k2, n, rfl, le3 _ _ (le2 _ _ h1), le3 _ _ h2, h3, hy.mono ((le1.trans le2).trans le3)⟩
  refine jcode_turn (jcode_fnB (F405 p.w.params) (by omega) ?_)
  rcases hkw with rfl | rfl
  · refine bind405n _ _ (j_newTuple (fun t => ⟨rfl, fun L => body t L⟩) (by show vals.length ≤ _; rw [sizeLine_eq]; omega)) fun Q' h' => ?_
    exact jwp_known fun K => j_nsGet (K 398 _ rfl) rfl h'
  · rw [bind405k]
    exact jwp_bind (j_newTuple (fun t => jwp_pure ⟨rfl, fun L => body t L⟩) (by show vals.length ≤ _; rw [sizeLine_eq]; omega))
end
section
variable {p : JP} {A : Around} {c : JC} {E : JC → Prop} {env : Env}
theorem j_AttrCall {o : Expr} {name : Str} {apos pos : Pos} {args : List Expr} {kws : List Keyword} {Q : Value → JC → Prop}
    (h : jwp p A (eval o env) (fun ov c₁ => jwp p A (getAttr ov name true) (fun f c₂ => jwp p A (callWith pos f [] (backTo pos (starEach args env)) (backToKw pos (keywordEach kws env))) Q E c₂) E c₁) E c)
    (he : autoParam (eval (.Call (.Attribute o name apos) args kws pos) env = (do
      let ov ← eval o env
      standAt apos.atName
      let (f, first) ← holding [ov] (do pure (← getAttr ov name true, []))
      callWith pos f first (backTo pos (starEach args env)) (backToKw pos (keywordEach kws env)))) rt) :
    jwp p A (eval (.Call (.Attribute o name apos) args kws pos) env) Q E c := by
  rw [he]
  exact jwp_bind (h.mono (fun ov c₁ q => j_standThen (jwp_bind (jwp_holding (jwp_bind (q.mono (fun fx c₂ q => jwp_pure q) fun V V x => x))))) fun V V x => x)
theorem j_keeperObj {x C dx : Addr} {Q : Keeper → JC → Prop} (hx : c.Has x (instObj C dx)) (h : Q .caller c) : jwp p A (keeperOf (.ref x)) Q E c := .of fun s H => by
  unfold keeperOf
  exact wpAny_bind (wpAny_load (hx.get H) (wpAny_pure ⟨c, H, h⟩))
theorem j_callInst {pos : Pos} {x C dx : Addr} {args : List (Bool × Sem Value)} {kws : List (Option Str × Sem Value)} {Q : Value → JC → Prop}
    (h : jwp p A (evalArgs (.ref x) true args kws) (fun a c₁ => c₁.Has x (instObj C dx) ∧ jcode p A (.call (.ref x) a) (RetQ Q) E c₁) E c) : jwp p A (callWith pos (.ref x) [] args kws) Q E c :=
  j_callWith (k := .machine) (h.mono (fun a c₁ q => j_keeperObj q.1 (j_call q.2)) fun V V x => x)
theorem j_lenObj {x C dx f : Addr} {es : List DictEntry} {n : Nat} {Q : Value → JC → Prop} (I : Inst c x C dx es n) (hs : findIn (KK p.w.params) (.ref C) "__len__" = some (some (.ref f))) (hf : isFn (KK p.w.params) (.ref f) = true)
    (h : jwp p A.in1 (call (.ref f) [.ref x]) (fun r c₁ => ∃ n t, r = .int n t ∧ 0 ≤ n ∧ n < 2 ^ 63 ∧ ∀ t', Q (.int n t') c₁) E c) : jwp p A (call (.builtin "len") [.ref x]) Q E c := .of fun s H => by
  refine Calls.call_function_entry kind_len plain_len entry_len (args_len1 _) ?_
  unfold Builtin.«len»
  refine wpAny_bind (m := oneArg "len" _) (wpAny_pure ?_)
  refine wpAny_bind (m := callSpecial? (.ref x) (Str.ofString "__len__")) (special_fn H.inK (I.at H) hs (beq_iff_eq.mp hf) (wpAny_mono (h.run s H) (fun r s' hr => ?_) fun V V y => y))
  obtain ⟨c', H', n, t, rfl, h0, h1, q⟩ := hr
  refine wpAny_bind (wpAny_holding (wpAny_pure ?_))
  refine wpAny_bind (wpAny_letGo ?_)
  show wpAny _ _ (if n < 0 then _ else _) _ _ _
  rw [if_neg (by omega)]
  show wpAny _ _ (if n ≥ 2 ^ 63 then _ else _) _ _ _
  rw [if_neg (by omega)]
  exact wpAny_bind (wpAny_mkInt (wpAny_pure ⟨_, rfl, ⟨c', H'.toks _, q _⟩⟩))
end
section
variable {p : JP} {A : Around} {c : JC} {E : JC → Prop} {Q : Value → JC → Prop} {kd : Str → Addr} {s : Str} {ps ts : List T} {v : Value}
theorem op_iter {x dx l : Addr} {q : OpD} {n : Nat} (hroom : A.depth < recursionLimit) (hx : c.Z x = some (instObj 561 dx)) (hd : c.Z dx = some (dictOf (opE p.w.params q s (kd s) l) n))
    (h : Q (.ref l) c) : jcode p A (.call (.ref 765) ⟨[.ref x], []⟩) (RetQ Q) E c := by
  obtain ⟨Z, nss, own, g⟩ := c
  refine jcode_fn (F765 p.w.params) hroom (binds := [(Str.ofString "operation", .ref x)]) rfl fun L => ?_
  refine j_cons (j_If (j_isTrueCall ?_))
  refine j_B2 (m_isinstance _) (b_isinstance _) ?_
  refine (j_local (l := _) List.mem_cons_self rfl (j_global (g_Operation _) ?_))
  refine j_isOne (D := 561) (dx := dx) ⟨.inl hx, .inl hd⟩ (cp561 _) (ck561 _) (ki561_561 _) (j_truthyBool ?_)
  refine ifT ?_
  exact j_cons (j_Return (j_Attribute (j_local (l := _) List.mem_cons_self rfl (j_getOwn (C := 561) ⟨.inl hx, .inl hd⟩ (ca561_operands _) rfl rfl (bodyQ_ret rfl h)))))
theorem op_len {x dx l : Addr} {q : OpD} {n m : Nat} {xs : Array Value} (hroom : A.depth + 1 < recursionLimit) (hx : c.Z x = some (instObj 561 dx)) (hd : c.Z dx = some (dictOf (opE p.w.params q s (kd s) l) n)) (hl : c.Z l = some (LO xs m)) (hsz : xs.size ≤ 100000)
    (h : ∀ t, Q (.int (xs.size : Int) t) c) : jcode p A (.call (.ref 772) ⟨[.ref x], []⟩) (RetQ Q) E c := by
  obtain ⟨Z, nss, own, g⟩ := c
  refine jcode_fn (F772 p.w.params) (by omega) (binds := [(Str.ofString "operation", .ref x)]) rfl fun L => ?_
  refine j_cons (j_Return ?_)
  refine j_B1 (m_len _) (b_len _) ?_
  refine (j_local (l := _) List.mem_cons_self rfl ?_)
  refine j_lenObj (C := 561) (dx := dx) ⟨.inl hx, .inl hd⟩ (cg561_len _) (cn493 _) (j_call ?_)
  refine jcode_fn (F493 p.w.params) (by show A.depth + 1 < _; omega) (binds := [(Str.ofString "self", .ref x)]) rfl fun L' => ?_
  refine j_cons (j_Return ?_)
  refine j_B1 (m_len _) (b_len _) ?_
  refine (j_Attribute (j_local (l := _) List.mem_cons_self rfl (j_getOwn (C := 561) ⟨.inl hx, .inl hd⟩ (ca561_operands _) rfl rfl ?_)))
  refine j_lenList (.inl hl) (by omega) fun t => bodyQ_ret rfl ⟨_, t, rfl, by omega, by omega, fun t' => bodyQ_ret rfl (h t')⟩
theorem op_create {vo : Value} {l : Addr} {items : Array Value} (hroom : A.depth + 12 < recursionLimit) (hh : A.handled = none) (hs : isKind s) (hkd : KindsAt p.w.params kd c.Z) (ho : EAt p.w.params kd c.Z (.node s ps) vo)
    (hl : HasSeq c l items) (ht : EAtAll p.w.params kd c.Z ts items.toList) (hsz : ts.length ≤ 100000) (hsz2 : (openedParts s ts).length ≤ 100000)
    (h : ∀ Z' v, c.Z.le Z' → EAt p.w.params kd Z' (opened s ts) v → Q v { c with Z := Z' }) : jcode p A (.call (.ref 758) ⟨[vo, .ref l], []⟩) (RetQ Q) E c := by
  obtain ⟨Z, nss, own, g⟩ := c
  obtain ⟨x, dx, q, lo, xs, m, n, rfl, hx, hd, hlo, hps⟩ := eat_node ho
  have hlen := ht.length
  rw [Array.length_toList] at hlen
  refine jcode_fnB (F758 p.w.params) (by omega) (j_bindD (binds := [(Str.ofString "old_operation", .ref x), (Str.ofString "new_operands", .ref l), (Str.ofString "variable_name", .bool true)]) rfl rfl rfl rfl ⟨rfl, fun L => ?_⟩)
  refine j_cons (j_If (j_isTrueCompare1 (j_local (l := _) List.mem_cons_self rfl (j_cBool (j_is rfl (j_truthyBool ?_))))))
  rw [show (Value.bool true == Value.bool true) = true from rfl]
  refine ifT ?_
  refine j_cons (j_Assign (j_Attribute (j_local (l := _) List.mem_cons_self rfl (j_getOwn (C := 561) ⟨.inl hx, .inl hd⟩ (ca561_variable_name _) rfl rfl ?_))))
  refine j_store0 (j_nil (j_cons (j_Return ?_)))
  refine j_AttrCall (j_local (l := _) List.mem_cons_self rfl ?_)
  refine j_getOwn (C := 561) ⟨.inl hx, .inl hd⟩ (ca561_head _) rfl rfl ?_
  obtain ⟨dk, qk, nk, hk1, hk2, hk3⟩ := id hkd s hs
  refine j_callInst (C := 415) (dx := dk) (j_starKw1 ?_)
  refine j_local (l := _) List.mem_cons_self rfl ?_
  refine j_local (l := _) List.mem_cons_self rfl ⟨l, items, rfl, ?_, by rw [sizeLine_eq]; omega, .inl hk1, ?_⟩
  · obtain ⟨k, hk | hk⟩ := hl
    · exact ⟨k, .inl (hk.imp id id)⟩
    · exact ⟨k, .inr (hk.imp id id)⟩
  refine kind_call (by show A.depth + 1 + 8 < _; omega) hh hs hkd (.inr rfl) ht hsz hsz2 fun Z' v le hv => ?_
  exact bodyQ_ret rfl (h Z' v le hv)
end
noncomputable def DictP (p : JP) (o : Obj) (kvs : List (Str × Value)) : Prop := ∃ es ep, o.ExactDict ∧ o.data = .dict es ep ∧ KeysOf (strKind PySem.Challenge.pw_jf0031_01 p.w) es ∧ Pairs (strKind PySem.Challenge.pw_jf0031_01 p.w) es.toList kvs ∧ (kvs.map (·.1)).Nodup
section
variable {p : JP} {A : Around} {c : JC} {E : JC → Prop} {env : Env} {d : Addr} {o : Obj} {kvs : List (Str × Value)}
theorem DictP.of {s : Shared} (h : DictP p o kvs) (ho : s.heap.get? d = some o) : s.heap.DictOf (strKind PySem.Challenge.pw_jf0031_01 p.w) d kvs := let ⟨es, ep, r⟩ := h; ⟨o, es, ep, ho, r⟩
theorem j_Dict0 {pos : Pos} {Q : Value → JC → Prop} (h : ∀ a o, DictP p o [] → Q (.ref a) (c.psh a o)) : jwp p A (eval (.Dict [] [] pos) env) Q E c := .of fun s H => by
  rw [eval_Dict_empty]
  refine wpAny_bind (wpAny_standAt ?_)
  exact wpAny_newObj_type ⟨_, H.push _ rfl s.toks, h _ _ ⟨#[], 0, ⟨rfl, rfl, rfl⟩, rfl, fun V he => by simp at he, Pairs.nil, List.nodup_nil⟩⟩
theorem j_dictItem {k : Str} {t : Tok} {v : Value} {Q : Value → JC → Prop} (ho : c.Has d o) (hp : DictP p o kvs) (hv : valueAt kvs k = some v) (h : Q v c) : jwp p A (getItem (.ref d) (.str k t)) Q E c := .of fun s H =>
  wpAny_getItem_of (knd := strKind PySem.Challenge.pw_jf0031_01 p.w) (strKind_is _ _ k t) (hp.of (ho.get H)).mapOf hv ⟨c, H.toks _, h⟩
theorem j_getitemInPythonDict {Q : Bool → JC → Prop} (ho : c.Has d o) (hp : DictP p o kvs) (h : Q false c) : jwp p A (getitemInPython (.ref d)) Q E c := .of fun s H => by
  rw [getitemInPython_of_ne (by intro e; cases e)]
  exact wpAny_bind (wpAny_specialOf (v := .ref d) (T := "dict") (hp.of (ho.get H)).typeIs F.slot_dict_getitem.lookup (wpAny_pure ⟨c, H, h⟩))
theorem j_dictSet {k : Str} {t : Tok} {v : Value} {pre post : List (Addr × Obj)} {Q : Unit → JC → Prop} (ho : c.own = pre ++ (d, o) :: post) (hp : DictP p o kvs) (hsz : kvs.length ≤ 1000)
    (h : ∀ o', DictP p o' (stored kvs k v) → Q () (c.sto (pre ++ (d, o') :: post))) : jwp p A (setItem (.ref d) (.str k t) v) Q E c := .of fun s H => by
  have hg : s.heap.get? d = some o := H.own (d, _) (by rw [ho]; simp)
  refine wpAny_setItem_pairs (knd := strKind PySem.Challenge.pw_jf0031_01 p.w) (strKind_is _ _ k t) (hp.of hg) (fun h' hd hs => ?_) (by rw [sizeLine_eq]; omega)
  obtain ⟨o', es, ep, ho', r⟩ := hd
  exact ⟨_, H.put ho hs ho' _, h o' ⟨es, ep, r⟩⟩
end
mutual
noncomputable def T.Flat : T → Prop
  | .leaf _ => True
  | .node s ps => (s ≠ Str.ofString "f" → ∀ q ∈ ps, q.name ≠ s) ∧ Flats ps
noncomputable def Flats : List T → Prop
  | [] => True
  | t :: ts => t.Flat ∧ Flats ts
end
theorem T_Flat_e1 : ∀ (s : Str), T.Flat (T.leaf s) = True := by intros; rfl
theorem T_Flat_e2 : ∀ (s : Str) (ps : List T), T.Flat (T.node s ps) = ((s ≠ Str.ofString "f" → ∀ (q : T), q ∈ ps → T.name q ≠ s) ∧ Flats ps) := by intros; rfl
theorem Flats_e1 : Flats [] = True := rfl
theorem Flats_e2 : ∀ (t : T) (ts : List T), Flats (t :: ts) = (T.Flat t ∧ Flats ts) := by intros; rfl
theorem Flats.mem : ∀ {ps : List T}, Flats ps → ∀ {t : T}, t ∈ ps → t.Flat
  | _ :: _, h, t, m => by
    simp only [Flats_e1, Flats_e2] at h
    rcases List.mem_cons.mp m with rfl | m
    · exact h.1
    · exact Flats.mem h.2 m
theorem openedParts_flat {s : Str} {ps : List T} (h : s ≠ Str.ofString "f" → ∀ q ∈ ps, q.name ≠ s) : openedParts s ps = ps := by
  unfold openedParts
  induction ps with
  | nil => rfl
  | cons t ps ih =>
    have e : openedOne s t = [t] := by
      unfold openedOne
      rw [if_neg]
      intro hX
      obtain ⟨a, b⟩ := hX
      exact h a t List.mem_cons_self b
    rw [List.flatMap_cons, e, ih fun a q hq => h a q (List.mem_cons_of_mem _ hq)]
    rfl
theorem opened_flat {s : Str} {ps : List T} (h : (T.node s ps).Flat) : opened s ps = .node s ps := by
  simp only [T_Flat_e1, T_Flat_e2] at h
  unfold opened
  rw [openedParts_flat h.1]
section
variable {p : JP} {A : Around} {c : JC} {E : JC → Prop} {env : Env}
theorem j_CallSub {o i : Expr} {sp pos : Pos} {args : List Expr} {kws : List Keyword} {Q : Value → JC → Prop}
    (h : jwp p A (eval (.Subscript o i sp) env) (fun f c₁ => jwp p A (callWith pos f [] (backTo pos (starEach args env)) (backToKw pos (keywordEach kws env))) Q E c₁) E c) : jwp p A (eval (.Call (.Subscript o i sp) args kws pos) env) Q E c := by
  show jwp p A (eval (.Subscript o i sp) env >>= _) Q E c
  exact jwp_bind h
end
noncomputable def KdIn (kd : Str → Addr) (kvs : List (Str × Value)) : Prop := ∀ s, isKind s → valueAt kvs s = some (.ref (kd s))
noncomputable def KDict (p : JP) (kd : Str → Addr) (c : JC) (D : Addr) : Prop := ∃ o kvs, c.Has D o ∧ DictP p o kvs ∧ KdIn kd kvs
theorem deep_mem {ps : List T} {q : T} (h : q ∈ ps) : q.deep ≤ deeps ps := by
  induction ps with
  | nil => cases h
  | cons t ps ih =>
    simp only [deeps_e1, deeps_e2]
    rcases List.mem_cons.mp h with rfl | h
    · omega
    · have := ih h; omega
theorem size_mem {ps : List T} {q : T} (h : q ∈ ps) : q.size ≤ sizes ps := by
  induction ps with
  | nil => cases h
  | cons t ps ih =>
    simp only [sizes_e1, sizes_e2]
    rcases List.mem_cons.mp h with rfl | h
    · omega
    · have := ih h; omega
section
set_option maxHeartbeats 2000000 in
theorem law_make {p : JP} {kd : Str → Addr} : ∀ (n : Nat) (t : T), t.deep ≤ n → ∀ {A : Around} {c : JC} {E : JC → Prop} {Q : Value → JC → Prop} {vt : Value} {D : Addr},
    A.depth + n + 20 < recursionLimit → A.handled = none → Told c.Z t vt → t.Ok → t.Flat → t.size ≤ 50000 → KindsAt p.w.params kd c.Z → KDict p kd c D →
    (∀ Z' v, c.Z.le Z' → EAt p.w.params kd Z' t v → Q v { c with Z := Z' }) → jwp p A (call (.ref 789) [.ref D, vt]) Q E c := by
  intro n
  induction n with
  | zero => intro t ht; cases t <;> simp [T_deep_e1, T_deep_e2] at ht
  | succ n ih =>
    intro t hdeep A c E Q vt D hroom hh ht tok tfl hsz hkd hD h
    obtain ⟨Z, nss, own, g⟩ := c
    have hr2 : A.depth + 20 < recursionLimit := by omega
    obtain ⟨oD, kvs, hDo, hDp, hDk⟩ := hD
    dsimp only at ht hkd h
    refine jwp_turn (j_call (jcode_fnC (l := [(Str.ofString "node", vt)]) (F789 p.w.params) (by omega) (binds := [(Str.ofString "kinds", .ref D), (Str.ofString "node", vt)]) rfl (fun L x v e => ?_) (fun L cells hc => ?_) (fun n => rfl)))
    · rcases lookup_cons_cases e with ⟨rfl, rfl⟩ | ⟨_, e⟩
      · rfl
      · cases e
    change CellsOwn _ [(_, _)] _ at hc
    rcases hc with ⟨o1, r1, rfl, d1, rfl⟩
    have d1' : o1.data = .cell (some (.ref D)) := d1
    have hD1 : ∀ {Z' : Zm} {nss' : List (Addr × Vars)} {own' : List (Addr × Obj)}, Z.le Z' → (∀ q ∈ own, q ∈ own') → (JC.mk Z' nss' own' g).Has D oD := fun le hq => hDo.imp (le _ _) (hq _)
    refine j_cons (j_If (j_isTrueCompare1 ?_))
    cases t with
    | leaf s =>
      obtain ⟨aq, tq, nq, rfl, hZq⟩ := told_leaf ht
      refine j_atT (v := .none) (i := 1) List.mem_cons_self rfl (has_z hZq) rfl rfl ?_
      refine j_cNone (j_is rfl (j_truthyBool ?_))
      refine ifB (show (Value.none == Value.none) = true from rfl) ?_
      refine j_cons (j_Return ?_)
      refine j_CallName (j_global (g_Symbol _) ?_)
      refine j_callCls (cm637 _) (j_args1 ?_)
      refine j_atT (v := .str s tq) (i := 0) List.mem_cons_self rfl (has_z hZq) rfl rfl ?_
      refine sym_new (by show A.depth + 1 + 3 < _; omega) fun x dx t u n => bodyQ_ret rfl ?_
      refine Turn.freeze0 fun Z1 le1 h1 => Turn.freeze0 fun Z2 le2 h2 => Turn.drop0 (Turn.done ?_)
      refine h Z2 _ (le1.trans le2) ?_
      simp only [EAt_e1, EAt_e2]
      exact ⟨x, dx, t, u, tq, n, rfl, le2 _ _ h1, h2⟩
    | node s ps =>
      obtain ⟨aq, tq, nq, l, ys, mq, rfl, hZq, hZl, hps⟩ := told_node ht
      have hyl := hps.length
      rw [Array.length_toList] at hyl
      have hps1 := length_le_sizes ps
      simp only [T_size_e1, T_size_e2] at hsz
      simp only [T_deep_e1, T_deep_e2] at hdeep
      have tok' := tok
      simp only [T_Ok_e1, T_Ok_e2] at tok'
      have tfl' := tfl
      simp only [T_Flat_e1, T_Flat_e2] at tfl'
      refine j_atT (v := .ref l) (i := 1) List.mem_cons_self rfl (has_z hZq) rfl rfl ?_
      refine j_cNone (j_is rfl (j_truthyBool ?_))
      refine ifN (show (Value.ref l == Value.none) = false from rfl) ?_
      refine j_nil (j_cons (j_Return ?_))
      refine j_F2 (fd := f758) (g_create_operation_expression _) rfl rfl ?_
      refine j_CallSub (j_Subscript ?_)
      refine j_cell rfl (has_own List.mem_cons_self) d1' ?_
      refine j_atT (v := .str s tq) (i := 0) List.mem_cons_self rfl (has_z hZq) rfl rfl ?_
      refine j_getitemInPythonDict (hD1 (Zm.le.refl _) fun q hq => List.mem_cons_of_mem _ hq) hDp ?_
      refine j_subPlain (j_dictItem (hD1 (Zm.le.refl _) fun q hq => List.mem_cons_of_mem _ hq) hDp (hDk s tok'.1) ?_)
      obtain ⟨dk, qk, nk, hk1, hk2, hk3⟩ := id hkd s tok'.1
      refine j_callInst (C := 415) (dx := dk) (j_argsNil ⟨.inl hk1, ?_⟩)
      refine kind_call (ts := []) (by show A.depth + 1 + 8 < _; omega) hh tok'.1 hkd (.inl rfl) .nil (by trivial) (Nat.zero_le _) fun Z1 vo le1 hvo => ?_
      have hvo' : EAt p.w.params kd Z1 (.node s []) vo := hvo
      refine j_ListComp (iter_list l ys mq) (fun i zs c₁ => ∀ X : Prop, (∀ Z', c₁ = ⟨Z', (L, [(Str.ofString "node", .ref aq)]) :: nss, (L + 1, o1) :: own, g⟩ → Z1.le Z' → EAtAll p.w.params kd Z' (ps.take i) zs.toList → X) → X)
        hh (fun V => go_name) rfl rfl rfl ?_ ?_ ?_ ?_ ?_
      · refine j_atT (v := .ref l) (i := 1) List.mem_cons_self rfl (has_z (le1 _ _ hZq)) rfl rfl ?_
        refine j_iterList (has_z (le1 _ _ hZl)) fun it o ho => ⟨it, o, _, rfl, ho, Conv.refl _, fun V kK => kK Z1 rfl (Zm.le.refl _) ?_⟩
        simp only [List.take_zero]; exact .nil
      · intro i zs c₁ C l' acc k it o hX
        refine hX _ fun Z' eS le' V => ?_
        clear hX
        subst eS
        exact has_z (le' _ _ (le1 _ _ hZl))
      · intro i zs c₁ hX3 hi
        refine hX3 _ fun Z' eS le' hz => ?_
        clear hX3
        subst eS
        have := hz.length
        rw [Array.length_toList, List.length_take] at this
        rw [sizeLine_eq]; omega
      · intro i v c₁ C acc zs k it o hi hv ho hX
        refine hX _ fun Z' eS le' hz => ?_
        clear hX
        subst eS
        have hv' : ys.toList[i]? = some v := by rw [Array.getElem?_toList]; exact hv
        obtain ⟨tr, hti, htv⟩ := hps.get hv'
        have hmem := List.mem_of_getElem? hti
        refine j_assignName (j_store0 (j_testsNil ?_))
        refine ifT ?_
        refine j_F2 (fd := f789) (g_law_make _) rfl rfl ?_
        refine j_cell rfl (has_own (List.mem_cons_of_mem _ (List.mem_cons_of_mem _ List.mem_cons_self))) d1' ?_
        refine j_local (l := _) List.mem_cons_self rfl ?_
        have hd := deep_mem hmem
        have hs2 := size_mem hmem
        refine ih tr (by omega) (by show A.depth + 1 + n + 20 < _; omega) hh (htv.mono (le1.trans le')) (tok'.2.mem hmem) (tfl'.2.mem hmem) (by omega) (hkd.mono (le1.trans le')) ⟨oD, kvs, hD1 (le1.trans le') fun q hq => List.mem_cons_of_mem _ (List.mem_cons_of_mem _ (List.mem_cons_of_mem _ hq)), hDp, hDk⟩ fun Z2 v2 le2 hv2 => ?_
        refine ⟨⟨Z2, (L, [(Str.ofString "node", .ref aq)]) :: nss, (L + 1, o1) :: own, g⟩, Conv.know (l' := []) trivial, fun V kK => kK Z2 rfl (le'.trans le2) ?_⟩
        rw [list_take_succ hti]
        exact (hz.mono le2).push hv2
      · intro zs c₁ acc k hX
        refine hX _ fun Z' eS le' hz => ?_
        clear hX
        subst eS
        rw [hyl, List.take_length] at hz
        refine j_call (op_create (ts := ps) (s := s) (ps := []) (by show A.depth + 1 + 12 < _; omega) hh tok'.1 (hkd.mono (le1.trans le')) (hvo'.mono le') ⟨k, .inl (has_own List.mem_cons_self)⟩ hz (by omega) ?_ fun Z2 v2 le2 hv2 => bodyQ_ret rfl ?_)
        · rw [openedParts_flat tfl'.1]; omega
        · rw [opened_flat tfl] at hv2
          exact Turn.drop0 (Turn.drop0 (Turn.done (h Z2 v2 ((le1.trans le').trans le2) hv2)))
end
section
set_option maxHeartbeats 2000000 in
theorem law_told {p : JP} {kd : Str → Addr} : ∀ (n : Nat) (t : T), t.deep ≤ n → ∀ {A : Around} {c : JC} {E : JC → Prop} {Q : Value → JC → Prop} {vt : Value},
    A.depth + n + 4 < recursionLimit → A.handled = none → EAt p.w.params kd c.Z t vt → t.size ≤ 50000 →
    (∀ Z' v, c.Z.le Z' → Told Z' t v → Q v { c with Z := Z' }) → jwp p A (call (.ref 794) [vt]) Q E c := by
  intro n
  induction n with
  | zero => intro t ht; cases t <;> simp [T_deep_e1, T_deep_e2] at ht
  | succ n ih =>
    intro t hdeep A c E Q vt hroom hh ht hsz h
    obtain ⟨Z, nss, own, g⟩ := c
    dsimp only at ht h
    refine jwp_turn (j_call (jcode_fn (F794 p.w.params) (by omega) (binds := [(Str.ofString "expression", vt)]) rfl fun L => ?_))
    refine j_cons (j_If (j_isTrueCall (j_IsOp (j_local (l := _) List.mem_cons_self rfl ⟨t, ht, j_truthyBool ?_⟩))))
    cases t with
    | leaf s =>
      refine ifN (show (T.leaf s).isNode = false from rfl) ?_
      refine j_nil (j_cons (j_Return (j_Tuple2 (j_Attribute (j_local (l := _) List.mem_cons_self rfl (j_eName ht fun tk => j_cNone fun a => bodyQ_ret rfl ?_))))))
      refine Turn.freeze0 fun Z1 le1 h1 => Turn.done (h Z1 _ le1 ?_)
      simp only [Told_e1, Told_e2]
      exact ⟨a, tk, 0, rfl, h1⟩
    | node s ps =>
      refine ifB (show (T.node s ps).isNode = true from rfl) ?_
      obtain ⟨x, dx, d, l, ys, mq, nq, rfl, hx, hd, hZl, hps⟩ := eat_node ht
      have hyl := hps.length
      rw [Array.length_toList] at hyl
      have hps1 := length_le_sizes ps
      simp only [T_size_e1, T_size_e2] at hsz
      simp only [T_deep_e1, T_deep_e2] at hdeep
      refine j_cons (j_Return (j_Tuple2 (j_Attribute (j_local (l := _) List.mem_cons_self rfl (j_eName ht fun tk => ?_)))))
      refine j_ListComp (iter_list l ys mq) (fun i zs c₁ => ∀ X : Prop, (∀ Z', c₁ = ⟨Z', (L, [(Str.ofString "expression", .ref x)]) :: nss, own, g⟩ → Z.le Z' → ToldAll Z' (ps.take i) zs.toList → X) → X)
        hh (fun V => go_name) rfl rfl rfl ?_ ?_ ?_ ?_ ?_
      · refine j_Attribute (j_local (l := _) List.mem_cons_self rfl (j_getOwn (C := 561) ⟨.inl hx, .inl hd⟩ (ca561_operands _) rfl rfl ?_))
        refine j_iterList (has_z hZl) fun it o ho => ⟨it, o, _, rfl, ho, Conv.refl _, fun V kK => kK Z rfl (Zm.le.refl _) ?_⟩
        simp only [List.take_zero]; exact .nil
      · intro i zs c₁ C l' acc k it o hX
        refine hX _ fun Z' eS le' V => ?_
        clear hX
        subst eS
        exact has_z (le' _ _ hZl)
      · intro i zs c₁ hX3 hi
        refine hX3 _ fun Z' eS le' hz => ?_
        clear hX3
        subst eS
        have := hz.length
        rw [Array.length_toList, List.length_take] at this
        rw [sizeLine_eq]; omega
      · intro i v c₁ C acc zs k it o hi hv ho hX
        refine hX _ fun Z' eS le' hz => ?_
        clear hX
        subst eS
        have hv' : ys.toList[i]? = some v := by rw [Array.getElem?_toList]; exact hv
        obtain ⟨tr, hti, htv⟩ := hps.get hv'
        have hmem := List.mem_of_getElem? hti
        refine j_assignName (j_store0 (j_testsNil ?_))
        refine ifT ?_
        refine j_F1 (fd := f794) (g_law_told _) rfl rfl ?_
        refine j_local (l := _) List.mem_cons_self rfl ?_
        have hd := deep_mem hmem
        have hs2 := size_mem hmem
        refine ih tr (by omega) (by show A.depth + 1 + n + 4 < _; omega) hh (htv.mono le') (by omega) fun Z2 v2 le2 hv2 => ?_
        refine ⟨⟨Z2, (L, [(Str.ofString "expression", .ref x)]) :: nss, own, g⟩, Conv.know (l' := []) trivial, fun V kK => kK Z2 rfl (le'.trans le2) ?_⟩
        rw [list_take_succ hti]
        exact (hz.mono le2).push hv2
      · intro zs c₁ acc k hX4 a
        refine hX4 _ fun Z' eS le' hz => ?_
        clear hX4
        subst eS
        rw [hyl, List.take_length] at hz
        refine bodyQ_ret rfl ?_
        refine Turn.freeze0 fun Z1 le1 h1 => Turn.freeze0 fun Z2 le2 h2 => Turn.done (h Z2 _ ((le'.trans le1).trans le2) ?_)
        simp only [Told_e1, Told_e2]
        exact ⟨a, tk, 0, acc, zs, k, rfl, le2 _ _ h1, h2, hz.mono (le1.trans le2)⟩
end
theorem JC.At.newExc {p : JP} {c : JC} {s : Shared} (H : c.At p s) {h' : Heap} {e : Addr} (N : Heap.NewExc s.heap h' e "IndexError") (t : Nat) : ∃ f : Fly, f.ok ∧ f.x = e ∧ (c.fly f).At p { s with heap := h', toks := t } := by
  obtain ⟨hk, hn, ob, tt, ho, hc, hd⟩ := N
  refine ⟨⟨e, ob, []⟩, ⟨hc, _, hd, .inl ⟨rfl, rfl⟩⟩, rfl, ?_⟩
  have hne : e ∉ c.addrs := fun m => by
    rcases List.mem_append.mp m with m | m
    · obtain ⟨q, hq, rfl⟩ := List.mem_map.mp m
      obtain ⟨mm, ⟨o, es, ep, ho', _⟩, _⟩ := H.ns q hq
      rw [hn] at ho'; cases ho'
    · obtain ⟨q, hq, rfl⟩ := List.mem_map.mp m
      rw [H.own q hq] at hn; cases hn
  have hz : c.Z e = none := by
    cases q : c.Z e with
    | none => rfl
    | some o => have := H.z e o q; rw [hn] at this; cases this
  have H' := H.keeps hk t
  refine ⟨H'.d, H'.os, H'.gens, H'.k, H'.z, H'.ns, fun q hq => ?_, ?_, fun a ha => ?_⟩
  · rcases List.mem_cons.mp hq with rfl | hq
    · exact ho
    · exact H'.own q (by simpa using hq)
  · have := H.sep
    simp only [JC.addrs] at hne this
    simp only [JC.addrs, JC.fly, List.map_cons, List.nil_append]
    rw [nodup_middle, List.nodup_cons]
    exact ⟨hne, this⟩
  · simp only [JC.addrs, JC.fly, List.map_cons, List.nil_append] at ha
    rcases List.mem_append.mp ha with ha | ha
    · exact H.off a (List.mem_append_left _ ha)
    · rcases List.mem_cons.mp ha with rfl | ha
      · exact hz
      · exact H.off a (List.mem_append_right _ ha)
noncomputable def TurnE (p : JP) (c : JC) (R : JC → Prop) : Prop := ∀ f s, (c.fly f).At p s → ∃ c', (c'.fly f).At p s ∧ R c'
section
variable {α : Type} {p : JP} {A : Around} {c : JC} {E : JC → Prop} {env : Env} {R : JC → Prop}
theorem TurnE.done (h : R c) : TurnE p c R := fun f s H => ⟨c, H, h⟩
theorem TurnE.drop0 {q : Addr × Obj} {post : List (Addr × Obj)} {Z : Zm} {nss : List (Addr × Vars)} {g : Array GenState} (h : TurnE p (JC.mk Z nss post g) R) : TurnE p (JC.mk Z nss (q :: post) g) R := fun f s H =>
  h f s (H.drop (own := (f.x, f.oe) :: (f.more ++ post)) (List.Sublist.refl _) (((List.Sublist.refl _).append (List.sublist_cons_self _ _)).cons_cons _))
theorem jwp_turnE {t : Sem α} {Q : α → JC → Prop} (h : jwp p A t Q (fun c₁ => TurnE p c₁ E) c) : jwp p A t Q E c := .of fun s H =>
  wpAny_mono (h.run s H) (fun V V q => q) fun e s' z2 => z2.elim fun c' y20 => y20.elim fun f y21 => y21.elim fun hf y22 => y22.elim fun he y23 => y23.elim fun H' q => let ⟨c₂, H₂, q₂⟩ := q f s' H'; ⟨c₂, f, hf, he, H₂, q₂⟩
theorem j_listOut {l : Addr} {items : Array Value} {n : Nat} {k : Int} {t : Tok} {Q : Value → JC → Prop} (hh : A.handled = none) (ho : c.Has l (LO items n)) (hout : (items.size : Int) ≤ k) (hhi : k < 2 ^ 63) (h : E c) : jwp p A (getItem (.ref l) (.int k t)) Q E c := .of fun s H =>
  wpAny_getItem_list_out hh (has_list ho H).isList (.inr hout) (by omega) hhi fun h' tk e N => by
    obtain ⟨f, hf, rfl, H'⟩ := H.newExc N tk
    exact ⟨c, f, hf, rfl, H', h⟩
theorem j_raiseIE {x : Str} {np cpos pos kpos : Pos} {m : Str} {k : Nat} {Q : Flow → JC → Prop} (hh : A.handled = none) (hx : jwp p A (eval (.Name x np) env) (fun f c₁ => f = .type "IndexError" ∧ c₁ = c) E c) (h : E c)
    (hs : autoParam (starEach [.Constant (.str m) k kpos] env = [(false, eval (.Constant (.str m) k kpos) env)]) rt) : jwp p A (exec (.Raise (some (.Call (.Name x np) [.Constant (.str m) k kpos] [] cpos)) none pos) env) Q E c := .of fun s H => by
  refine wpAny_Raise_call F.excCall_IndexError F.excRaise_IndexError hh (by rw [hs]; rfl) (wpAny_mono (hx.run s H) (fun f s₁ z2 => z2.elim fun c₁ y20 => y20.elim fun H₁ y21 => y21.elim fun e1 e2 => ⟨e1, ?_⟩) fun V V x => x)
  subst e2
  rw [hs]
  refine wpAny_mono ((j_args (f := .type "IndexError") (E := E) (x := eval (.Constant (.str m) k kpos) env) (rest := []) (Q := fun a c₂ => a.kw = [] ∧ a.pos.length ≤ 1 ∧ c₂ = c₁) (j_splicedCons (j_cStr fun t => j_splicedNil ⟨rfl, Nat.le_refl _, rfl⟩))).run s₁ H₁) (fun a s₂ z2 => z2.elim fun c₂ y20 => y20.elim fun H₂ y21 => y21.elim fun e3 y22 => y22.elim fun e4 e5 => ⟨e3, by rw [sizeLine_eq]; omega, fun h' e N => ?_⟩) fun V V x => x
  subst e5
  obtain ⟨f, hf, rfl, H'⟩ := H₂.newExc N.newExc s₂.toks
  exact ⟨c₂, f, hf, rfl, H', h⟩
theorem j_getitemInPythonObj {x C dx f : Addr} {es : List DictEntry} {n : Nat} {fo : Obj} {fd : FuncData} {Q : Bool → JC → Prop} (I : Inst c x C dx es n) (hs : findIn (KK p.w.params) (.ref C) "__getitem__" = some (some (.ref f))) (hf : (KK p.w.params).lookup f = some fo) (hd : fo.data = .func fd) (h : Q true c) :
    jwp p A (getitemInPython (.ref x)) Q E c := .of fun s H => by
  unfold getitemInPython
  refine wpAny_bind (wpAny_bind ((I.at H).type.here ((looks_findIn H.inK hs).here ?_)))
  dsimp only
  refine wpAny_bind (wpAny_load (H.inK _ _ hf) ?_)
  rw [hd]
  exact wpAny_pure ⟨c, H, h⟩
theorem j_subObj {slice : Expr} {x C dx f : Addr} {es : List DictEntry} {n : Nat} {i : Value} {Q : Value → JC → Prop} (I : Inst c x C dx es n) (hs : findIn (KK p.w.params) (.ref C) "__getitem__" = some (some (.ref f))) (hf : isFn (KK p.w.params) (.ref f) = true)
    (h : jwp p A.in1 (call (.ref f) [.ref x, i]) Q E c) (hsl : subscripted slice true (.ref x) i = runValue (.builtin "lifetime.subscript" ⟨[.ref x, i], []⟩) := by with_unfolding_all rfl) :
    jwp p A (subscripted slice true (.ref x) i) Q E c := .of fun s H => by
  rw [hsl]
  refine wpAny_runValue (codeAny_builtin entry_sub ?_)
  unfold Builtin.«lifetime.subscript»
  refine wpAny_bind (special_fn H.inK (I.at H) hs (beq_iff_eq.mp hf) (wpAny_mono (h.run s H) (fun v s' z => ?_) fun V V z => z))
  exact wpAny_pure z
end
section
variable {p : JP} {A : Around} {c : JC} {E : JC → Prop} {env : Env}
theorem j_kitTup {x t : Value} {Hp : Heap → Prop} {tp : Addr} {its : List Value} {n : Nat} {b : Bool} {Q : Value → JC → Prop} (Z : KitX (KK p.w.params) x t Hp) (hp : ∀ s, c.At p s → Hp s.heap) (htp : c.Has tp (TO its.toArray n)) (e : kitAny (KK p.w.params) t its = some b)
    (hx : x ≠ .builtin "__main__.__loader__#opaque") (q : Q (.bool b) c) : jwp p A (call (.builtin "isinstance") [x, .ref tp]) Q E c := .of fun s H =>
  kia_tup Z H.inK (hp s H) (htp.get H) e hx fun tk => ⟨c, H.toks tk, q⟩
theorem j_kitOne {x t C : Value} {Hp : Heap → Prop} {b : Bool} {Q : Value → JC → Prop} (Z : KitX (KK p.w.params) x t Hp) (hp : ∀ s, c.At p s → Hp s.heap) (e : kitOne (KK p.w.params) t C = some b)
    (hx : x ≠ .builtin "__main__.__loader__#opaque") (q : Q (.bool b) c) : jwp p A (call (.builtin "isinstance") [x, C]) Q E c := .of fun s H =>
  kia_one Z H.inK (hp s H) e hx fun tk => ⟨c, H.toks tk, q⟩
theorem NatsAt.drop1 {xs : Array Value} {k : Nat} {r : List Nat} (h : NatsAt xs.toList (k :: r)) : NatsAt ((xs.toList.drop 1).toArray).toList r := by
  refine ⟨by have := h.1; simp at this ⊢; omega, fun i n hi => ?_⟩
  obtain ⟨t', e'⟩ := h.2 (i + 1) n (by simpa using hi)
  refine ⟨t', ?_⟩
  simpa [Nat.add_comm] using e'
end
section
noncomputable def itemFn (t : T) : Addr := if t.isNode then 500 else 298
set_option maxHeartbeats 2000000 in
theorem law_item {p : JP} {kd : Str → Addr} : ∀ (pl : List Nat) {A : Around} {c : JC} {E : JC → Prop} {Q : Value → JC → Prop} {t : T} {v vp : Value},
    A.depth + pl.length + 3 < recursionLimit → A.handled = none → FramesIn A (c.nss.map (·.1)) → EAt p.w.params kd c.Z t v → PlaceAt c.Z pl vp → t.size ≤ 50000 → (∀ n ∈ pl, n ≤ 100000) → pl.length ≤ 1000 →
    (∀ Z' t' u, c.Z.le Z' → piece t pl = some t' → EAt p.w.params kd Z' t' u → Q u { c with Z := Z' }) → (∀ Z', c.Z.le Z' → piece t pl = none → E { c with Z := Z' }) →
    jwp p A (call (.ref (itemFn t)) [v, vp]) Q E c := by
  intro pl
  induction pl with
  | nil =>
    intro A c E Q t v vp hroom hh FI ht hp hsz hk hpl h he
    obtain ⟨Z, nss, own, g⟩ := c
    dsimp only at ht hp h he
    obtain ⟨pa, xp, mp, rfl, hZp, hns⟩ := hp
    have hxl : xp.size = 0 := by have := hns.1; simpa using this
    have fin := h Z t v (Zm.le.refl _) (by cases t <;> rfl) ht
    cases t with
    | leaf s =>
      refine j_call (jcode_fn (F298 p.w.params) (by omega) (binds := [(Str.ofString "self", v), (Str.ofString "position", .ref pa)]) rfl fun L => ?_)
      refine j_cons (j_Doc (j_cons (j_If (j_isTrueCompare1 ?_))))
      refine j_B1 (m_len _) (b_len _) ?_
      refine (j_local (l := _) List.mem_cons_self rfl ?_)
      refine j_lenTup (has_z hZp) (by omega) fun t1 => j_cInt fun t2 => j_eqInt (j_truthyBool ?_)
      refine ifB (show ((xp.size : Int) == 0) = true by rw [hxl]; rfl) ?_
      exact j_cons (j_Return (j_local (l := _) List.mem_cons_self rfl (bodyQ_ret rfl fin)))
    | node s ps =>
      refine jwp_turn (j_call (jcode_fn (F500 p.w.params) (by omega) (binds := [(Str.ofString "self", v), (Str.ofString "key", .ref pa)]) rfl fun L => ?_))
      refine j_cons (j_If (j_isTrueCall ?_))
      refine j_B2 (m_isinstance _) (b_isinstance _) ?_
      refine (j_local (l := _) List.mem_cons_self rfl (j_builtin (m_int _) (b_int _) ?_))
      refine j_kitOne kitx_tuple (fun s H => ⟨_, H.z _ _ hZp, rfl⟩) (ki_tuple_int _) (fun e => by cases e) (j_truthyBool ?_)
      refine ifF ?_
      refine j_nil (j_cons (j_If (j_isTrueCall ?_)))
      refine j_B2 (m_isinstance _) (b_isinstance _) ?_
      refine (j_local (l := _) List.mem_cons_self rfl ?_)
      refine j_Tuple2 (j_builtin (m_list _) (b_list _) (j_builtin (m_tuple _) (b_tuple _) fun tt => ?_))
      refine j_kitTup (its := [.type "list", .type "tuple"]) kitx_tuple (fun s H => ⟨_, H.z _ _ hZp, rfl⟩) (has_own List.mem_cons_self) (ki_tuple_lt _) (fun e => by cases e) (j_truthyBool ?_)
      refine ifT ?_
      refine j_cons (j_If (j_isTrueCompare1 ?_))
      refine j_B1 (m_len _) (b_len _) ?_
      refine (j_local (l := _) List.mem_cons_self rfl ?_)
      refine j_lenTup (has_z hZp) (by omega) fun t1 => j_cInt fun t2 => j_eqInt (j_truthyBool ?_)
      refine ifB (show ((xp.size : Int) == 0) = true by rw [hxl]; rfl) ?_
      exact j_cons (j_Return (j_local (l := _) List.mem_cons_self rfl (bodyQ_ret rfl (Turn.drop0 (Turn.done fin)))))
  | cons k r ih =>
    intro A c E Q t v vp hroom hh FI ht hp hsz hk hpl h he
    obtain ⟨Z, nss, own, g⟩ := c
    dsimp only at ht hp h he FI
    obtain ⟨pa, xp, mp, rfl, hZp, hns⟩ := hp
    have hxl : xp.size = r.length + 1 := by have := hns.1; simpa using this
    obtain ⟨tk, hk0⟩ := hns.2 0 k rfl
    rw [Array.getElem?_toList] at hk0
    have hkk := hk k List.mem_cons_self
    simp only [List.length_cons] at hroom hpl
    cases t with
    | leaf s =>
      have hE := he Z (Zm.le.refl _) rfl
      refine j_call (jcode_fnE (F298 p.w.params) (by omega) FI (binds := [(Str.ofString "self", v), (Str.ofString "position", .ref pa)]) rfl fun L FI' hT => ?_)
      refine j_cons (j_Doc (j_cons (j_If (j_isTrueCompare1 ?_))))
      refine j_B1 (m_len _) (b_len _) ?_
      refine (j_local (l := _) List.mem_cons_self rfl ?_)
      refine j_lenTup (has_z hZp) (by omega) fun t1 => j_cInt fun t2 => j_eqInt (j_truthyBool ?_)
      refine ifN (show ((xp.size : Int) == 0) = false by rw [hxl, beq_eq_false_iff_ne]; omega) ?_
      refine j_nil (j_cons (j_raiseIE hh (j_builtin (m_IndexError _) (b_IndexError _) ⟨rfl, rfl⟩) ⟨_, rfl, hE⟩))
    | node s ps =>
      obtain ⟨x, dx, d, l, ys, mq, nq, rfl, hx, hd, hZl, hps⟩ := eat_node ht
      have hyl := hps.length
      rw [Array.length_toList] at hyl
      have hps1 := length_le_sizes ps
      simp only [T_size_e1, T_size_e2] at hsz
      refine jwp_turn (jwp_turnE (j_call (jcode_fnE (F500 p.w.params) (by omega) FI (binds := [(Str.ofString "self", .ref x), (Str.ofString "key", .ref pa)]) rfl fun L FI' hT => ?_)))
      refine j_cons (j_If (j_isTrueCall ?_))
      refine j_B2 (m_isinstance _) (b_isinstance _) ?_
      refine (j_local (l := _) List.mem_cons_self rfl (j_builtin (m_int _) (b_int _) ?_))
      refine j_kitOne kitx_tuple (fun s H => ⟨_, H.z _ _ hZp, rfl⟩) (ki_tuple_int _) (fun e => by cases e) (j_truthyBool ?_)
      refine ifF ?_
      refine j_nil (j_cons (j_If (j_isTrueCall ?_)))
      refine j_B2 (m_isinstance _) (b_isinstance _) ?_
      refine (j_local (l := _) List.mem_cons_self rfl ?_)
      refine j_Tuple2 (j_builtin (m_list _) (b_list _) (j_builtin (m_tuple _) (b_tuple _) fun tt => ?_))
      refine j_kitTup (its := [.type "list", .type "tuple"]) kitx_tuple (fun s H => ⟨_, H.z _ _ hZp, rfl⟩) (has_own List.mem_cons_self) (ki_tuple_lt _) (fun e => by cases e) (j_truthyBool ?_)
      refine ifT ?_
      refine j_cons (j_If (j_isTrueCompare1 ?_))
      refine j_B1 (m_len _) (b_len _) ?_
      refine (j_local (l := _) List.mem_cons_self rfl ?_)
      refine j_lenTup (has_z hZp) (by omega) fun t1 => j_cInt fun t2 => j_eqInt (j_truthyBool ?_)
      refine ifN (show ((xp.size : Int) == 0) = false by rw [hxl, beq_eq_false_iff_ne]; omega) ?_
      refine j_nil (j_cons (j_Return ?_))
      refine j_Subscript (j_Subscript ?_)
      refine j_Attribute (j_local (l := _) List.mem_cons_self rfl (j_getOwn (C := 561) ⟨.inl hx, .inl hd⟩ (ca561_operands _) rfl rfl ?_))
      refine j_atT (v := .int k tk) (i := 0) List.mem_cons_self rfl (has_z hZp) ?_ hk0 ?_
      · rw [hxl]; unfold seqIndex?; simp
      refine j_getitemInPythonList (has_z hZl) (j_subPlain ?_)
      by_cases hlt : k < ps.length
      · have hq : ps[k]? = some ps[k] := List.getElem?_eq_getElem hlt
        obtain ⟨vk, hvk, htk⟩ := hps.getT hq
        rw [Array.getElem?_toList] at hvk
        refine j_listItem (v := vk) (has_z hZl) (by omega) (by omega) hvk ?_
        refine j_Subscript (j_local (l := _) List.mem_cons_self rfl (j_sliceFrom (j_cInt fun t4 => fun sa => j_getitemInPythonTup (has_z hZp) (j_subPlain (j_tupFrom (k := 1) (has_z hZp) (has_own List.mem_cons_self) (by decide) (by omega) (by rw [sizeLine_eq]; omega) fun pa2 => ?_)))))
        refine jwp_turn0 (Turn.freeze0 fun Z₁ le₁ h₁ => Turn.drop0 (Turn.drop0 (Turn.done ?_)))
        have hqs := size_le_of_get hq
        have hpc : piece (.node s ps) (k :: r) = piece ps[k] r := by simp [piece, hq]
        have hrec := @ih ((A.deeper (callEnv f500 L 500)).in1) ⟨Z₁, (L, [(Str.ofString "self", Value.ref x), (Str.ofString "key", Value.ref pa)].reverse) :: nss, own, g⟩
          (BodyE L nss fun c₁ => TurnE p c₁ E) (fun v => BodyQ L nss (fun v c₁ => Turn p c₁ (Q v)) (.ret v)) ps[k] vk (.ref pa2) (by show A.depth + 1 + r.length + 3 < _; omega) hh FI' (htk.mono le₁)
          ⟨pa2, _, 0, rfl, h₁, hns.drop1⟩ (by omega) (fun n hn => hk n (List.mem_cons_of_mem _ hn)) (by omega)
          (fun Z' t' u le hpp hu => bodyQ_ret rfl (Turn.done (h Z' t' u (le₁.trans le) (by rw [hpc]; exact hpp) hu))) (fun Z' le hpp => ⟨_, rfl, TurnE.done (he Z' (le₁.trans le) (by rw [hpc]; exact hpp))⟩)
        generalize hqq : ps[k] = q at htk hqs hpc hrec
        cases q with
        | leaf s2 =>
          obtain ⟨x2, dx2, t5, u5, ts5, n5, rfl, hx2, hd2⟩ := eat_leaf htk
          refine j_getitemInPythonObj (C := 637) (dx := dx2) ⟨.inl (le₁ _ _ hx2), .inl (le₁ _ _ hd2)⟩ (cg637_getitem _) rfl rfl ?_
          exact j_subObj (C := 637) (dx := dx2) ⟨.inl (le₁ _ _ hx2), .inl (le₁ _ _ hd2)⟩ (cg637_getitem _) (cn298 _) hrec
        | node s2 qs2 =>
          obtain ⟨x2, dx2, d2, l2, ys2, m2, n2, rfl, hx2, hd2, _⟩ := eat_node htk
          refine j_getitemInPythonObj (C := 561) (dx := dx2) ⟨.inl (le₁ _ _ hx2), .inl (le₁ _ _ hd2)⟩ (cg561_getitem _) rfl rfl ?_
          exact j_subObj (C := 561) (dx := dx2) ⟨.inl (le₁ _ _ hx2), .inl (le₁ _ _ hd2)⟩ (cg561_getitem _) (cn500 _) hrec
      · have hpc : piece (.node s ps) (k :: r) = none := by simp [piece, List.getElem?_eq_none (Nat.le_of_not_lt hlt)]
        exact j_listOut hh (has_z hZl) (by omega) (by omega) ⟨_, rfl, TurnE.drop0 (TurnE.done (he Z (Zm.le.refl _) hpc))⟩
end
end Jf.Internal
namespace Jf.Internal
open PySem PySem.W PySem.Calls PyProof.Rows MeetsSeq
inductive Repl where
  | one (t : T)
  | many (ts : List T)
noncomputable def Repl.rows : Repl → List T
  | .one t => [t]
  | .many ts => ts
noncomputable def Repl.isMany : Repl → Bool
  | .one _ => false
  | .many _ => true
noncomputable def RAt (P : Params) (kd : Str → Addr) (Z : Zm) : Repl → Value → Prop
  | .one t, v => EAt P kd Z t v
  | .many ts, v => ∃ l xs m, v = .ref l ∧ Z l = some (LO xs m) ∧ EAtAll P kd Z ts xs.toList
theorem RAt.mono {P : Params} {kd : Str → Addr} {Z Z' : Zm} (h : Z.le Z') : ∀ {r : Repl} {v : Value}, RAt P kd Z r v → RAt P kd Z' r v
  | .one _, _, H => EAt.mono h H
  | .many _, _, ⟨l, xs, m, e, z, k⟩ => ⟨l, xs, m, e, h _ _ z, k.mono h⟩
noncomputable def repOf : T → List Nat → Repl → Option Repl
  | _, [], r => some r
  | .leaf _, _ :: _, _ => none
  | .node s ps, k :: rr, r => match ps[k]? with
    | none => none
    | some q => match repOf q rr r with
      | none => none
      | some r' => some (.one (opened s (ps.take k ++ r'.rows ++ ps.drop (k + 1))))
theorem put_rep : ∀ (pl : List Nat) (t : T) (r : Repl), put t pl r.rows = (repOf t pl r).map Repl.rows
  | [], t, r => by simp [put, repOf]
  | k :: rr, .leaf s, r => by simp [put, repOf]
  | k :: rr, .node s ps, r => by
    simp only [put, repOf]
    cases ps[k]? with
    | none => rfl
    | some q =>
      dsimp only
      rw [put_rep rr q r]
      cases repOf q rr r <;> rfl
section
variable {p : JP} {A : Around} {c : JC} {E : JC → Prop} {env : Env}
theorem j_addTupZ {l r : Addr} {items items2 : Array Value} {n n2 : Nat} {Q : Value → JC → Prop} (hl : c.Z l = some (TO items n)) (hr : c.Z r = some (TO items2 n2)) (hsz : items.size + items2.size ≤ sizeLine)
    (h : ∀ Z' a n, c.Z.le Z' → Z' a = some (TO (items ++ items2) n) → Q (.ref a) { c with Z := Z' }) : jwp p A (binaryOp .Add (.ref l) (.ref r)) Q E c := .of fun s H => by
  obtain ⟨Z, nss, own, g⟩ := c
  dsimp only at hl hr h
  have Hl : (JC.mk Z nss own g).Has l (TO items n) := .inl hl
  have Hr : (JC.mk Z nss own g).Has r (TO items2 n2) := .inl hr
  by_cases h1 : items.isEmpty = true
  · have e : items = #[] := by simpa using h1
    exact concat_meets ⟨_, Hl.get H, rfl⟩ ⟨_, Hr.get H, rfl⟩ noFill_tuple_add seq_tuple_add F.slot_tuple_add F.entry_tuple_add (F.args_tuple_add_2 _ _) (AutoSeq1.tuple___add___tuple_tuple_0 l items n r items2 n2 h1) ⟨Hl.get H, Hr.get H, ⟨_, H.toks _, h Z r n2 (Zm.le.refl _) (by rw [e]; simpa using hr)⟩⟩
  · by_cases h2 : items2.isEmpty = true
    · have e : items2 = #[] := by simpa using h2
      exact concat_meets ⟨_, Hl.get H, rfl⟩ ⟨_, Hr.get H, rfl⟩ noFill_tuple_add seq_tuple_add F.slot_tuple_add F.entry_tuple_add (F.args_tuple_add_2 _ _) (AutoSeq1.tuple___add___tuple_tuple_1 l items n r items2 n2 h1 h2) ⟨Hl.get H, Hr.get H, ⟨_, H.toks _, h Z l n (Zm.le.refl _) (by rw [e]; simpa using hl)⟩⟩
    · refine PySem.P.add_tuple (has_tup Hl H) (has_tup Hr H) h1 h2 ?_ hsz
      have H1 := H.push (TO (items ++ items2) 0) rfl s.toks
      have H2 := H1.freeze (pre := []) rfl
      exact ⟨_, H2, h _ _ 0 (H1.add_le (by simp [JC.addrs])) (by simp [Zm.add])⟩
theorem j_AssignSub {o i : Expr} {pos' pos : Pos} {value : Expr} {Q : Flow → JC → Prop}
    (h : jwp p A (eval value env) (fun v c₁ => jwp p A (eval o env) (fun ov c₂ => jwp p A (eval i env) (fun iv c₃ => jwp p A (setItem ov iv v) (fun V => Q .next) E c₃) E c₂) E c₁) E c)
    (hs : autoParam (swapsWith value (some (.Subscript o i pos')) pos.line env = pure false) rt) : jwp p A (exec (.Assign [.Subscript o i pos'] value pos) env) Q E c := by
  rw [exec_Assign_Subscript o i pos' value pos hs]
  refine j_standThen (jwp_bind (h.mono (fun v c₁ q => jwp_bind ?_) fun V V x => x))
  rw [assign_Subscript]
  exact jwp_bind (jwp_holding (q.mono (fun ov c₂ q => jwp_bind (jwp_holding (q.mono (fun iv c₃ q => j_standThen (jwp_bind (jwp_holding (q.mono (fun V V q => j_release (jwp_pure q)) fun V V x => x)))) fun V V x => x))) fun V V x => x))
theorem j_rIsSeq {kd : Str → Addr} {r : Repl} {v : Value} {tp : Addr} {n : Nat} {Q : Value → JC → Prop} (h : RAt p.w.params kd c.Z r v) (htp : c.Has tp (TO #[.type "list", .type "tuple"] n)) (q : Q (.bool r.isMany) c) :
    jwp p A (call (.builtin "isinstance") [v, .ref tp]) Q E c := by
  cases r with
  | many ts =>
    obtain ⟨l, xs, m, rfl, hz, _⟩ := h
    exact j_kitTup (its := [.type "list", .type "tuple"]) kitx_list (fun s H => ⟨_, H.z _ _ hz, rfl⟩) htp (ki_list_lt _) (fun e => by cases e) q
  | one t =>
    cases t with
    | leaf s =>
      obtain ⟨x, dx, t, u, ts, n, rfl, hx, hd⟩ := eat_leaf (show EAt p.w.params kd c.Z (.leaf s) v from h)
      have I : Inst c x 637 dx _ _ := ⟨.inl hx, .inl hd⟩
      exact j_kitTup (its := [.type "list", .type "tuple"]) (kitx_own (ox := instObj 637 dx) (od := dictOf _ n) (cp637 _) (ck637 _).1 (ck637 _).2.1 (ckd _).1 (ckd _).2 (ck637 _).2.2) (fun s H => I.at H) htp (ki637_lt _) (fun e => by cases e) q
    | node s ps =>
      obtain ⟨x, dx, d, l, xs, m, n, rfl, hx, hd, _⟩ := eat_node (show EAt p.w.params kd c.Z (.node s ps) v from h)
      have I : Inst c x 561 dx _ _ := ⟨.inl hx, .inl hd⟩
      exact j_kitTup (its := [.type "list", .type "tuple"]) (kitx_own (ox := instObj 561 dx) (od := dictOf _ n) (cp561 _) (ck561 _).1 (ck561 _).2.1 (ckd _).1 (ckd _).2 (ck561 _).2.2) (fun s H => I.at H) htp (ki561_lt _) (fun e => by cases e) q
end
end Jf.Internal
namespace Jf.Internal
open PySem PySem.W PySem.Calls PyProof.Rows
theorem repOf_size : ∀ (pl : List Nat) (t : T) (r out : Repl), repOf t pl r = some out → sizes out.rows ≤ t.size + sizes r.rows := by
  intro pl t r out h
  have := put_rep pl t r
  rw [h] at this
  exact put_size pl t r.rows out.rows this
theorem EAtAll.set {P : Params} {kd : Str → Addr} {Z : Zm} {ps : List T} {xs : Array Value} {k : Nat} {t : T} {v : Value} (h : EAtAll P kd Z ps xs.toList) (hk : k < ps.length) (ht : EAt P kd Z t v) :
    EAtAll P kd Z (ps.take k ++ [t] ++ ps.drop (k + 1)) (xs.setIfInBounds k v).toList := by
  have hl := h.length
  rw [Array.length_toList] at hl
  have e : (xs.setIfInBounds k v).toList = xs.toList.take k ++ [v] ++ xs.toList.drop (k + 1) := by
    rw [Array.toList_setIfInBounds]
    rw [List.set_eq_take_append_cons_drop]
    rw [if_pos (by rw [Array.length_toList]; omega)]
    simp
  rw [e]
  exact ((h.take k).append (.one ht)).append (h.drop (k + 1))
theorem j_listFromI {p : JP} {A : Around} {c : JC} {E : JC → Prop} {Q : Value → JC → Prop} {l sl : Addr} {items : Array Value} {n k : Nat} {u : Tok} {i : Int} (hi : i = (k : Int)) (ho : c.Has l (LO items n)) (hs : c.Has sl (SO (.int i u) .none)) (hk : k ≤ items.size) (hsz : items.size ≤ sizeLine) (h : ∀ a, Q (.ref a) (c.psh a (LO (items.toList.drop k).toArray 0))) :
    jwp p A (getItem (.ref l) (.ref sl)) Q E c := by subst hi; exact j_listFrom ho hs hk hsz h
section
set_option maxHeartbeats 4000000 in
theorem law_replace {p : JP} {kd : Str → Addr} : ∀ (pl : List Nat) {A : Around} {c : JC} {E : JC → Prop} {Q : Value → JC → Prop} {t : T} {r : Repl} {v vp vr : Value},
    A.depth + pl.length + 16 < recursionLimit → A.handled = none → FramesIn A (c.nss.map (·.1)) → KindsAt p.w.params kd c.Z → EAt p.w.params kd c.Z t v → PlaceAt c.Z pl vp → RAt p.w.params kd c.Z r vr → t.Ok → t.size + sizes r.rows ≤ 50000 → (∀ n ∈ pl, n ≤ 100000) → pl.length ≤ 1000 →
    (∀ Z' r' u, c.Z.le Z' → repOf t pl r = some r' → RAt p.w.params kd Z' r' u → Q u { c with Z := Z' }) → (∀ Z', c.Z.le Z' → repOf t pl r = none → E { c with Z := Z' }) →
    jwp p A (call (.ref 779) [v, vp, vr]) Q E c := by
  intro pl
  induction pl with
  | nil =>
    intro A c E Q t r v vp vr hroom hh FI hkd ht hp hr tok hsz hk hpl h he
    obtain ⟨Z, nss, own, g⟩ := c
    dsimp only at ht hp hr h he
    obtain ⟨pa, xp, mp, rfl, hZp, hns⟩ := hp
    have hxl : xp.size = 0 := by have := hns.1; simpa using this
    refine j_call (jcode_fn (F779 p.w.params) (by omega) (binds := [(Str.ofString "expression", v), (Str.ofString "position", .ref pa), (Str.ofString "replacement", vr)]) rfl fun L => ?_)
    refine j_cons (j_Doc (j_cons (j_If (j_isTrueCompare1 ?_))))
    refine j_B1 (m_len _) (b_len _) ?_
    refine (j_local (l := _) List.mem_cons_self rfl ?_)
    refine j_lenTup (has_z hZp) (by omega) fun t1 => j_cInt fun t2 => j_eqInt (j_truthyBool ?_)
    refine ifB (show ((xp.size : Int) == 0) = true by rw [hxl]; rfl) ?_
    exact j_cons (j_Return (j_local (l := _) List.mem_cons_self rfl (bodyQ_ret rfl (h Z r vr (Zm.le.refl _) (by cases t <;> rfl) hr))))
  | cons k rr ih =>
    intro A c E Q t r v vp vr hroom hh FI hkd ht hp hr tok hsz hk hpl h he
    obtain ⟨Z, nss, own, g⟩ := c
    dsimp only at ht hp hr h he FI hkd
    obtain ⟨pa, xp, mp, rfl, hZp, hns⟩ := hp
    have hxl : xp.size = rr.length + 1 := by have := hns.1; simpa using this
    obtain ⟨tk, hk0⟩ := hns.2 0 k rfl
    rw [Array.getElem?_toList] at hk0
    have hkk := hk k List.mem_cons_self
    simp only [List.length_cons] at hroom hpl
    refine jwp_turn (jwp_turnE (j_call (jcode_fnE (F779 p.w.params) (by omega) FI (binds := [(Str.ofString "expression", v), (Str.ofString "position", .ref pa), (Str.ofString "replacement", vr)]) rfl fun L FI' hT => ?_)))
    refine jwp_opaque2 fun Q' E' hQ hE => ?_
    refine j_cons (j_Doc (j_cons (j_If (j_isTrueCompare1 ?_))))
    refine j_B1 (m_len _) (b_len _) ?_
    refine (j_local (l := _) List.mem_cons_self rfl ?_)
    refine j_lenTup (has_z hZp) (by omega) fun t1 => j_cInt fun t2 => j_eqInt (j_truthyBool ?_)
    refine ifN (show ((xp.size : Int) == 0) = false by rw [hxl, beq_eq_false_iff_ne]; omega) ?_
    refine j_nil (j_cons (j_If (j_isTrueNot (j_isTrueCall (j_IsOp (j_local (l := _) List.mem_cons_self rfl ⟨t, ht, j_truthyBool ?_⟩))))))
    cases t with
    | leaf s =>
      rw [show (T.leaf s).isNode = false from rfl]
      refine ifT ?_
      exact j_cons (j_raiseIE hh (j_builtin (m_IndexError _) (b_IndexError _) ⟨rfl, rfl⟩) (hE _ ⟨_, rfl, TurnE.done (he Z (Zm.le.refl _) rfl)⟩))
    | node s ps =>
      rw [show (T.node s ps).isNode = true from rfl]
      refine ifF ?_
      obtain ⟨x, dx, d, l, ys, mq, nq, rfl, hx, hd, hZl, hps⟩ := eat_node ht
      have hyl := hps.length
      rw [Array.length_toList] at hyl
      have hps1 := length_le_sizes ps
      have tok' := tok
      simp only [T_Ok_e1, T_Ok_e2] at tok'
      have hsz' := hsz
      simp only [T_size_e1, T_size_e2] at hsz'
      refine j_nil (j_cons (j_If (j_isTrueCompare1 ?_)))
      refine j_atT (v := .int k tk) (i := 0) List.mem_cons_self rfl (has_z hZp) ?_ hk0 ?_
      · rw [hxl]; unfold seqIndex?; simp
      refine j_F1 (fd := f772) (g_op_len _) rfl rfl ?_
      refine (j_local (l := _) List.mem_cons_self rfl ?_)
      refine j_call (op_len (by show A.depth + 1 + 1 < _; omega) hx hd hZl (by omega) fun t4 => ?_)
      refine j_ge (j_truthyBool ?_)
      by_cases hge : (ys.size : Int) ≤ (k : Int)
      · rw [decide_eq_true hge]
        refine ifT ?_
        have hn : repOf (.node s ps) (k :: rr) r = none := by
          have : ps[k]? = none := List.getElem?_eq_none (by omega)
          simp [repOf, this]
        exact j_cons (j_raiseIE hh (j_builtin (m_IndexError _) (b_IndexError _) ⟨rfl, rfl⟩) (hE _ ⟨_, rfl, TurnE.done (he Z (Zm.le.refl _) hn)⟩))
      rw [decide_eq_false hge]
      refine ifF ?_
      have hlt : k < ps.length := by omega
      have hq : ps[k]? = some ps[k] := List.getElem?_eq_getElem hlt
      obtain ⟨vk, hvk, htk⟩ := hps.getT hq
      rw [Array.getElem?_toList] at hvk
      have hqs := size_le_of_get hq
      refine j_nil (j_cons (j_Assign ?_))
      refine j_atT (v := .int k tk) (i := 0) List.mem_cons_self rfl (has_z hZp) ?_ hk0 ?_
      · rw [hxl]; unfold seqIndex?; simp
      refine j_store0 ?_
      refine j_cons (j_Assign ?_)
      refine j_B1 (m_list _) (b_list _) ?_
      refine j_F1 (fd := f765) (g_op_iter _) rfl rfl ?_
      refine (j_local (l := _) List.mem_cons_self rfl ?_)
      refine j_call (op_iter (by show A.depth + 1 < _; omega) hx hd ?_)
      refine j_listOfList (has_z hZl) (by rw [sizeLine_eq]; omega) fun lo ko => ?_
      refine j_store0 ?_
      refine j_cons (j_Assign ?_)
      refine j_F3 (fd := f779) (g_replace _) rfl rfl ?_
      refine j_Subscript (j_local (l := _) List.mem_cons_self rfl (j_local (l := _) List.mem_cons_self rfl ?_))
      refine j_getitemInPythonList (has_own (o := LO ys ko) List.mem_cons_self) (j_subPlain (j_listItem (v := vk) (has_own List.mem_cons_self) (by omega) (by omega) hvk ?_))
      refine j_Subscript (j_local (l := _) List.mem_cons_self rfl (j_sliceFrom (j_cInt fun t6 => fun sa => j_getitemInPythonTup (has_z hZp) (j_subPlain (j_tupFrom (k := 1) (has_z hZp) (has_own List.mem_cons_self) (by decide) (by omega) (by rw [sizeLine_eq]; omega) fun pa2 => ?_)))))
      refine j_local (l := _) List.mem_cons_self rfl ?_
      refine jwp_turn0 (Turn.freeze0 fun Z₁ le₁ h₁ => Turn.drop0 (Turn.done ?_))
      have hrep : repOf (.node s ps) (k :: rr) r = match repOf ps[k] rr r with | none => none | some r' => some (.one (opened s (ps.take k ++ r'.rows ++ ps.drop (k + 1)))) := by
        simp only [repOf, hq]
        all_goals (cases repOf ps[k] rr r <;> rfl)
      refine ih (t := ps[k]) (r := r) (by show A.depth + 1 + rr.length + 16 < _; omega) hh FI' (hkd.mono le₁) (htk.mono le₁) ⟨pa2, _, 0, rfl, h₁, hns.drop1⟩ (hr.mono le₁) (tok'.2.mem (List.mem_of_getElem? hq)) (by omega) (fun n hn => hk n (List.mem_cons_of_mem _ hn)) (by omega) ?_ ?_
      rotate_left
      · intro Z' le hn
        refine hE _ ⟨_, rfl, TurnE.drop0 (TurnE.done (he Z' (le₁.trans le) ?_))⟩
        rw [hrep, hn]
      intro Z₂ r' u le₂ hr' hu
      have le := le₁.trans le₂
      have hrep' : repOf (.node s ps) (k :: rr) r = some (.one (opened s (ps.take k ++ r'.rows ++ ps.drop (k + 1)))) := by rw [hrep, hr']
      have hrs := repOf_size rr ps[k] r r' hr'
      have hsplit := sizes_split hq
      have hlen1 : (ps.take k ++ r'.rows ++ ps.drop (k + 1)).length ≤ 50000 := by
        refine Nat.le_trans (length_le_sizes _) ?_
        rw [sizes_append, sizes_append]; omega
      have hlen2 : (openedParts s (ps.take k ++ r'.rows ++ ps.drop (k + 1))).length ≤ 50000 := by
        refine Nat.le_trans (length_le_sizes _) (Nat.le_trans (sizes_openedParts _ _) ?_)
        rw [sizes_append, sizes_append]; omega
      refine j_store0 ?_
      refine j_cons (j_If (j_isTrueCall ?_))
      refine j_B2 (m_isinstance _) (b_isinstance _) ?_
      refine (j_local (l := _) List.mem_cons_self rfl ?_)
      refine j_Tuple2 (j_builtin (m_list _) (b_list _) (j_builtin (m_tuple _) (b_tuple _) fun tt => ?_))
      refine j_rIsSeq hu (has_own List.mem_cons_self) (j_truthyBool ?_)
      cases r' with
      | one tr =>
        refine ifN (show (Repl.one tr).isMany = false from rfl) ?_
        refine j_nil (j_cons (j_AssignSub (j_local (l := _) List.mem_cons_self rfl (j_local (l := _) List.mem_cons_self rfl (j_local (l := _) List.mem_cons_self rfl ?_)))))
        refine j_setListItem (k := k) (pre := [_]) rfl (by omega) (by omega) ?_
        refine j_cons (j_Return ?_)
        refine j_F2 (fd := f758) (g_create_operation_expression _) rfl rfl ?_
        refine (j_local (l := _) List.mem_cons_self rfl (j_local (l := _) List.mem_cons_self rfl ?_))
        refine j_call (op_create (ts := ps.take k ++ [tr] ++ ps.drop (k + 1)) (items := ys.setIfInBounds k u) (s := s) (ps := ps) (by show A.depth + 1 + 12 < _; omega) hh tok'.1 (hkd.mono le) (ht.mono le) ⟨ko, .inl (has_own (List.mem_cons_of_mem _ List.mem_cons_self))⟩
          ((hps.mono le).set hlt hu) (Nat.le_trans hlen1 (by omega)) (Nat.le_trans hlen2 (by omega)) fun Z₃ v3 le₃ hv3 => hQ _ _ (bodyQ_ret rfl ?_))
        exact Turn.drop0 (Turn.drop0 (Turn.done (h Z₃ _ v3 (le.trans le₃) hrep' hv3)))
      | many trs =>
        refine ifB (show (Repl.many trs).isMany = true from rfl) ?_
        obtain ⟨lu, xu, mu, rfl, hZu, htu⟩ := hu
        have htul := htu.length
        rw [Array.length_toList] at htul
        simp only [Repl.rows, List.length_append, List.length_take, List.length_drop] at hlen1
        refine j_cons (j_Assign (j_BinOp (j_BinOp ?_)))
        refine j_B1 (m_tuple _) (b_tuple _) ?_
        refine j_Subscript (j_local (l := _) List.mem_cons_self rfl (j_sliceTo (j_local (l := _) List.mem_cons_self rfl fun sb => ?_)))
        refine j_getitemInPythonList (items := ys) (n := ko) (has_own (by trivial)) (j_subPlain (j_listTo (k := k) (items := ys) (n := ko) (has_own (by trivial)) (has_own List.mem_cons_self) (by omega) (by rw [sizeLine_eq]; omega) fun la => ?_))
        refine j_tupOfList (has_own List.mem_cons_self) (by rw [sizeLine_eq]; simp; omega) fun ta => ?_
        refine jwp_turn0 (Turn.freeze0 fun Z₃ le₃ h₃ => Turn.drop0 (Turn.drop0 (Turn.drop0 (Turn.done ?_))))
        refine j_B1 (m_tuple _) (b_tuple _) ?_
        refine (j_local (l := _) List.mem_cons_self rfl ?_)
        refine j_tupOfList (has_z (le₃ _ _ hZu)) (by rw [sizeLine_eq]; omega) fun tb => ?_
        refine jwp_turn0 (Turn.freeze0 fun Z₄ le₄ h₄ => Turn.done ?_)
        refine j_addTupZ (le₄ _ _ h₃) h₄ (by rw [sizeLine_eq]; simp; omega) fun Z₅ tc nc le₅ h₅ => ?_
        refine j_B1 (m_tuple _) (b_tuple _) ?_
        refine j_Subscript (j_local (l := _) List.mem_cons_self rfl (j_sliceFrom (j_BinOp (j_local (l := _) List.mem_cons_self rfl (j_cInt fun t7 => j_add fun t8 => fun sc => ?_)))))
        refine j_getitemInPythonList (items := ys) (n := ko) (has_own (by trivial)) (j_subPlain (j_listFromI (i := (k : Int) + 1) (k := k + 1) (by omega) (items := ys) (n := ko) (has_own (by trivial)) (has_own List.mem_cons_self) (by omega) (by rw [sizeLine_eq]; omega) fun lc => ?_))
        refine j_tupOfList (has_own List.mem_cons_self) (by rw [sizeLine_eq]; simp; omega) fun td => ?_
        refine jwp_turn0 (Turn.freeze0 fun Z₆ le₆ h₆ => Turn.drop0 (Turn.drop0 (Turn.done ?_)))
        refine j_addTupZ (le₆ _ _ h₅) h₆ (by rw [sizeLine_eq]; simp; omega) fun Z₇ te ne le₇ h₇ => ?_
        refine j_store0 ?_
        refine j_cons (j_Return ?_)
        refine j_F2 (fd := f758) (g_create_operation_expression _) rfl rfl ?_
        refine (j_local (l := _) List.mem_cons_self rfl (j_local (l := _) List.mem_cons_self rfl ?_))
        have leA := (((((le.trans le₃).trans le₄).trans le₅).trans le₆).trans le₇)
        have leB := ((((le₃.trans le₄).trans le₅).trans le₆).trans le₇)
        refine j_call (op_create (ts := ps.take k ++ trs ++ ps.drop (k + 1)) (l := te) (items := (ys.toList.take k).toArray ++ xu ++ (ys.toList.drop (k + 1)).toArray) (s := s) (ps := ps) (by show A.depth + 1 + 12 < _; omega) hh tok'.1 (hkd.mono leA) (ht.mono leA) ⟨ne, .inr (has_z h₇)⟩
          ?_ ?_ (Nat.le_trans hlen2 (by omega)) fun Z₈ v3 le₈ hv3 => hQ _ _ (bodyQ_ret rfl ?_))
        · simp only [Array.toList_append]
          have e1 := ((hps.take k).mono leA)
          have e2 := (htu.mono leB)
          have e3 := ((hps.drop (k + 1)).mono leA)
          simpa using (e1.append e2).append e3
        · simp only [List.length_append, List.length_take, List.length_drop]; omega
        · exact Turn.drop0 (Turn.done (h Z₈ _ v3 (leA.trans le₈) hrep' hv3))
end
noncomputable def CodeK (P : Params) (c T : Addr) : Prop := ∀ h : Heap, (∀ o, (KK P).lookup c = some o → h.get? c = some o) → CodeHd h c T
theorem CodeK.hd {p : JP} {c : JC} {s : Shared} {a T : Addr} (x : CodeK p.w.params a T) (H : c.At p s) : CodeHd s.heap a T := x _ fun V e => H.z _ _ (H.k _ _ e)
theorem codeK840 (P : Params) : CodeK P 840 836 := fun V q => ⟨k840 P, _, _, _, _, _, _, _, _, q _ rfl, rfl, rfl, rfl, rfl, rfl, rfl, rfl, rfl, by decide⟩
theorem codeK783 (P : Params) : CodeK P 783 781 := fun V q => ⟨k783 P, _, _, _, _, _, _, _, _, q _ rfl, rfl, rfl, rfl, rfl, rfl, rfl, rfl, rfl, by decide⟩
noncomputable def esOf (o : Obj) : Array DictEntry := match o.data with
  | .dict es _ => es
  | _ => #[]
noncomputable def strK (es : List DictEntry) : Bool := es.all fun e => match e.key with
  | .str _ _ => true
  | _ => false
theorem strK_keys {es : Array DictEntry} (h : strK es.toList = true) : StrKeys es := fun e he => by
  have := List.all_eq_true.mp h e (Array.mem_def.mp he)
  revert this
  cases e.key <;> intro h <;> first | exact ⟨_, _, rfl⟩ | cases h
theorem k3_str (P : Params) : strK (esOf (k3 P)).toList = true := by kernel_rfl
theorem k3_b (P : Params) : (nsFind (esOf (k3 P)) "__builtins__" == some (.ref 4)) = true := by kernel_rfl
theorem ns3 {p : JP} {c : JC} {s : Shared} (H : c.At p s) : s.heap.Ns 3 (nsFind (esOf (k3 p.w.params))) :=
  ⟨k3 p.w.params, _, _, H.z _ _ (H.k 3 (k3 p.w.params) rfl), rfl, strK_keys (k3_str _), fun V => rfl⟩
theorem bmain {p : JP} {c : JC} {s : Shared} (H : c.At p s) {P : Addr} (hP : 4 ≠ P) : s.heap.BuiltinsAt (nsFind (esOf (k3 p.w.params))) P :=
  ⟨4, k4 p.w.params, by simpa using k3_b p.w.params, by decide, by decide, hP, H.z _ _ (H.k 4 (k4 p.w.params) rfl), rfl, rfl, rfl⟩
theorem JC.At.grow {p : JP} {c : JC} {s : Shared} (H : c.At p s) {h : Heap} {P c' : Addr} {o o' oc : Obj} {pre post : List (Addr × Obj)} (ho : c.own = pre ++ (P, o) :: post) (hx : Heap.ExtBut P s.heap h) (hg : h.get? P = some o')
    (hge : s.heap.objs.size ≤ c') (hoc : h.get? c' = some oc) (t : Nat) :
    ({ c with Z := c.Z.add c' oc, own := pre ++ (P, o') :: post } : JC).At p { s with heap := h, toks := t } := by
  have ea : ({ c with Z := c.Z.add c' oc, own := pre ++ (P, o') :: post } : JC).addrs = c.addrs := by simp only [JC.addrs, ho, List.map_append, List.map_cons]
  have hin : P ∈ c.addrs := by simp only [JC.addrs, ho, List.map_append, List.map_cons]; simp
  have hsep := H.sep
  simp only [JC.addrs, ho, List.map_append, List.map_cons] at hsep
  have hne : ∀ q ∈ pre ++ post, q.1 ≠ P := by
    intro q hq e
    have h2 := (List.nodup_append.mp hsep).2.1
    rw [nodup_middle, List.nodup_cons] at h2
    refine h2.1 ?_
    rw [← List.map_append]
    exact e ▸ List.mem_map_of_mem hq
  refine ⟨H.d, H.os, H.gens, fun b o' e => ?_, fun b o' e => ?_, fun q hq => ?_, fun q hq => ?_, ea ▸ H.sep, fun a ha => ?_⟩
  · have h1 := H.k b o' e
    simp only [Zm.add]
    split
    · rename_i q; subst q; rw [H.z_fresh hge] at h1; cases h1
    · exact h1
  · simp only [Zm.add] at e
    split at e
    · rename_i q; subst q; cases e; exact hoc
    · refine hx b o' ?_ (H.z b o' e)
      rintro rfl
      rw [H.off _ hin] at e; cases e
  · obtain ⟨m, n, hm⟩ := H.ns q hq
    refine ⟨m, n.extBut hx ?_, hm⟩
    intro e
    have h3 := (List.nodup_append.mp hsep).2.2 q.1 (List.mem_map_of_mem hq) P (by simp)
    exact h3 e
  · rcases List.mem_append.mp hq with hq | hq
    · exact hx _ _ (hne q (List.mem_append_left _ hq)) (H.own q (by rw [ho]; exact List.mem_append_left _ hq))
    · rcases List.mem_cons.mp hq with rfl | hq
      · exact hg
      · exact hx _ _ (hne q (List.mem_append_right _ hq)) (H.own q (by rw [ho]; exact List.mem_append_right _ (List.mem_cons_of_mem _ hq)))
  · rw [ea] at ha
    have hlt := H.addr_lt ha
    have hac : a ≠ c' := fun e => absurd (e ▸ hlt) (Nat.not_lt.mpr hge)
    simp only [Zm.add, hac, if_false]
    exact H.off a ha
noncomputable def LamTab (Z : Zm) (pos : Pos) (qual : Str) (ps : Array Value) : Prop :=
  TriplesOk ps.toList ∧ (codeAmong pos ps.toList = none ∨ ∃ c' oc vs t, codeAmong pos ps.toList = some (.ref c') ∧ Z c' = some oc ∧ oc.data = .fields vs ∧ vs[1]? = some (.str qual t))
theorem LamTab.mono {Z Z' : Zm} {pos : Pos} {qual : Str} {ps : Array Value} (h : Z.le Z') (x : LamTab Z pos qual ps) : LamTab Z' pos qual ps :=
  ⟨x.1, x.2.imp id fun ⟨c', oc, vs, t, h1, e⟩ => ⟨c', oc, vs, t, h1, h _ _ e.1, e.2⟩⟩
theorem LamTab.nil {Z : Zm} {pos : Pos} {qual : Str} : LamTab Z pos qual #[] := ⟨trivial, .inl rfl⟩
structure Lam (Z : Zm) (o : Obj) (name qual : Str) (params : Arguments) (body : Expr) (scope : Scope) : Prop where
  go : ∃ pm cdv ct c' oc vs t, o = { cls := .type "function", data := .func (kla_fn name qual params body scope [] pm cdv ct) } ∧ cdv = .ref c' ∧ Z c' = some oc ∧ oc.data = .fields vs ∧ vs[1]? = some (.str qual t)
section
variable {p : JP} {A : Around} {c : JC} {E : JC → Prop} {env : Env}
theorem j_Lambda {params : Arguments} {body : Expr} {scope : Scope} {pos : Pos} {cd T : Addr} {ps : Array Value} {pre post : List (Addr × Obj)} {Q : Value → JC → Prop} (K : CodeK p.w.params cd T) (hT3 : 3 ≠ T) (hT4 : 4 ≠ T)
    (ho : c.own = pre ++ (T, tabObj ps) :: post) (L : LamTab c.Z pos (env.qual ++ "<lambda>") ps)
    (h : ∀ Z' ps' lf o, c.Z.le Z' → LamTab Z' pos (env.qual ++ "<lambda>") ps' → Lam Z' o "<lambda>" (env.qual ++ "<lambda>") params body scope → Q (.ref lf) { c with Z := Z', own := (lf, o) :: pre ++ (T, tabObj ps') :: post })
    (hcd : autoParam (env.code = .ref cd) rt) (hg : autoParam (env.globals = mainGlobals) rt) (hcl : autoParam (closureFor scope env = pure []) rt) (hdef : autoParam (defaultsOf params env = ([], [])) rt) :
    jwp p A (eval (.Lambda params body scope pos) env) Q E c := .of fun s H => by
  refine kla_eval hdef ?_
  obtain ⟨Z, nss, own, g⟩ := c
  dsimp only at ho L h
  subst ho
  have hP : s.heap.get? T = some (tabObj ps) := H.own (T, tabObj ps) (by simp)
  rcases L with ⟨ht, hn | ⟨c', oc, vs, t, h1, h2, h3, h4⟩⟩
  · refine kla_makeFunction hcl hg (ns3 H) hcd (K.hd H) hP ht hn hT3 (bmain H hT4) fun c' ctv h' tk hx hge hlt hrec htb => ?_
    obtain ⟨c'', oc, vs, t, e1, e2, e3, e4⟩ := hrec
    cases e1
    have H' := H.grow rfl hx htb hge e2 tk
    have hz : Z.le (Z.add c' oc) := fun b o' e => by
      simp only [Zm.add]
      split
      · rename_i q; subst q; rw [show Z _ = none from H.z_fresh hge] at e; cases e
      · exact e
    have hzc : (Z.add c' oc) c' = some oc := by simp [Zm.add]
    refine ⟨_, H'.push (kla_obj _ _ _ _ _ [] _ _ _) rfl tk, ?_⟩
    refine h _ _ _ _ hz ⟨?_, .inr ⟨c', oc, vs, t, ?_, hzc, e3, e4⟩⟩ ⟨_, _, _, c', oc, vs, t, rfl, rfl, hzc, e3, e4⟩
    · rw [Array.toList_append]; exact TriplesOk_snoc _ _ _ _ ht
    · rw [Array.toList_append]; exact codeAmong_snoc _ ht hn
  · refine kla_makeFunctionHit hcl hg (ns3 H) hcd (K.hd H) hP ht h1 (bmain H hT4) fun ctv h' tk hk hsz => ?_
    have H' := H.keeps hk tk
    exact ⟨_, H'.push _ rfl tk, h Z ps h'.objs.size _ (fun V V e => e) ⟨ht, .inr ⟨c', oc, vs, t, h1, h2, h3, h4⟩⟩ ⟨_, _, _, c', oc, vs, t, rfl, rfl, h2, h3, h4⟩⟩
theorem jcode_lam {a : Addr} {o : Obj} {name qual : Str} {params : Arguments} {body : Expr} {scope : Scope} {args : Args} {binds : List (Str × Value)} {Q : Value → JC → Prop} (F : Lam c.Z o name qual params body scope) (ho : c.Has a o)
    (hroom : A.depth < recursionLimit) (hbind : ∀ pm cdv ct, bindArgs (kla_fn name qual params body scope [] pm cdv ct) args = pure binds)
    (h : ∀ L pm cdv ct, jwp p (A.deeper (callEnv (kla_fn name qual params body scope [] pm cdv ct) L a)) (eval body (callEnv (kla_fn name qual params body scope [] pm cdv ct) L a)) (fun v c' => ∃ l, c'.nss = (L, l) :: c.nss ∧ Q v { c' with nss := c.nss }) (fun V => False) { c with nss := (L, binds.reverse) :: c.nss })
    (hcell' : autoParam ((scope.names.all fun x => match x.2 with | .cell => false | _ => true) = true) rt) (hloc' : autoParam (((binds.map (·.1)).all fun x => match scope.names.lookup x with | some .local => true | _ => false) = true) rt)
    (hco : autoParam (scope.isCoroutine = false) rt) (hgen : autoParam (scope.isGenerator = false) rt) (hk : autoParam (scope.kind = .function) rt) : jcode p A (.call (.ref a) args) (RetQ Q) E c := .of fun s H => by
  obtain ⟨pm, cdv, ct, c', oc, vs, t, rfl, rfl, h3, h4, h5⟩ := F.go
  have hcell : ∀ x ∈ scope.names, x.2 ≠ .cell := fun x hx e => by
    have := List.all_eq_true.mp hcell' x hx
    rw [e] at this; cases this
  have hloc : ∀ x ∈ binds, scope.names.lookup x.1 = some .local := fun x hx => by
    have := List.all_eq_true.mp hloc' x.1 (List.mem_map_of_mem hx)
    revert this
    cases scope.names.lookup x.1 with
    | none => intro h; cases h
    | some k => cases k <;> intro h <;> first | rfl | cases h
  refine kla_callFunE hroom (ho.get H) rfl hco hgen rfl ⟨c', oc, vs, t, rfl, H.z _ _ h3, h4, h5⟩ ?_
  rw [hbind]
  refine wpAny_pure (wpAny_newFunctionEnv hcell hloc (fun h₀ hn hsb => ⟨H.noLimit.fresh _ hsb, kla_codeExpr ?_⟩) hk)
  have hk₀ : ∀ b o, s.heap.get? b = some o → h₀.get? b = some o := fun b o e => hsb.extBut b o (Nat.ne_of_lt (Heap.lt_size e)) (Heap.get?_push_of_some _ e)
  refine wpAny_mono ((h s.heap.objs.size pm (.ref c') ct).run _ (H.frame (l := binds.reverse) hn hk₀ (fun V V e => e) _)) (fun v s' z2 => z2.elim fun c₁ y20 => y20.elim fun H' y21 => y21.elim fun l y22 => y22.elim fun e q => ?_) fun e s' z2 => z2.elim fun c' y20 => y20.elim fun f y21 => y21.elim fun hf y22 => y22.elim fun he y23 => y23.elim fun H' q => q.elim
  refine ⟨_, H'.drop (nss := c.nss) (own := c₁.own) (by rw [e]; exact List.sublist_cons_self _ _) (List.Sublist.refl _), ?_⟩
  exact q
end
noncomputable def runK {α : Type} (n : Nat) (lt : Nat → Nat → Bool) : KasT α → Option α
  | .ret a => some a
  | .ask i j k => if i < n ∧ j < n then runK n lt (k (lt i j)) else none
theorem runK_e1 : ∀ {α : Type} (n : Nat) (lt : Nat → Nat → Bool) (a : α), runK n lt (KasT.ret a) = some a := by intros; rfl
theorem runK_e2 : ∀ {α : Type} (n : Nat) (lt : Nat → Nat → Bool) (i j : Nat) (k : Bool → KasT α), runK n lt (KasT.ask i j k) = if i < n ∧ j < n then runK n lt (k (lt i j)) else none := by intros; rfl
theorem runK_congr {α : Type} {n : Nat} {lt lt' : Nat → Nat → Bool} (h : ∀ i j, i < n → j < n → lt i j = lt' i j) : ∀ t : KasT α, runK n lt t = runK n lt' t
  | .ret a => rfl
  | .ask i j k => by
    simp only [runK_e1, runK_e2]
    split
    · rename_i q; rw [h i j q.1 q.2]; exact runK_congr h _
    · rfl
theorem runK_wp {α : Type} {n : Nat} {lt : Nat → Nat → Bool} {cmp : Nat → Nat → (Bool → Shared → Prop) → Shared → Prop} {I : Shared → Prop} {Q : α → Shared → Prop}
    (hc : ∀ i j (C : Bool → Shared → Prop) s, i < n → j < n → I s → (∀ s', I s' → C (lt i j) s') → cmp i j C s) : ∀ (t : KasT α) {a : α} (s : Shared), runK n lt t = some a → I s → (∀ s', I s' → Q a s') → t.kasWp cmp Q s
  | .ret a, _, s, e, hs, q => by simp only [runK_e1, runK_e2] at e; cases e; exact q s hs
  | .ask i j k, a, s, e, hs, q => by
    simp only [runK_e1, runK_e2] at e
    split at e
    · rename_i hij
      exact hc i j _ s hij.1 hij.2 hs fun s' hs' => runK_wp hc (k (lt i j)) s' e hs' q
    · cases e
noncomputable def tab4 (b01 b02 b03 b12 b13 b23 : Bool) : Nat → Nat → Bool
  | 0, 1 => b01
  | 0, 2 => b02
  | 0, 3 => b03
  | 1, 2 => b12
  | 1, 3 => b13
  | 2, 3 => b23
  | 1, 0 => !b01
  | 2, 0 => !b02
  | 3, 0 => !b03
  | 2, 1 => !b12
  | 3, 1 => !b13
  | 3, 2 => !b23
  | _, _ => false
noncomputable def transB (n : Nat) (lt : Nat → Nat → Bool) : Bool := (List.range n).all fun i => (List.range n).all fun j => (List.range n).all fun k => !(lt i j && lt j k) || lt i k
noncomputable def pairB (lt : Nat → Nat → Bool) : List Nat → Bool
  | [] => true
  | x :: xs => xs.all (lt x) && pairB lt xs
theorem pairB_e1 : ∀ (lt : Nat → Nat → Bool), pairB lt [] = true := by intros; rfl
theorem pairB_e2 : ∀ (lt : Nat → Nat → Bool) (x_1 : Nat) (xs : List Nat), pairB lt (x_1 :: xs) = (List.all xs (lt x_1) && pairB lt xs) := by intros; rfl
noncomputable def goodB (n : Nat) (lt : Nat → Nat → Bool) : Bool := match runK n lt (kas_sort n) with
  | some p => p.toList.isPerm (List.range n) && pairB lt p.toList
  | none => false
theorem good2 : ∀ b : Bool, goodB 2 (tab4 b false false false false false) = true := by decide +kernel
theorem good3 : ∀ a b d : Bool, transB 3 (tab4 a b false d false false) = true → goodB 3 (tab4 a b false d false false) = true := by decide +kernel
theorem good4 : ∀ a b c d e f : Bool, transB 4 (tab4 a b c d e f) = true → goodB 4 (tab4 a b c d e f) = true := by decide +kernel
theorem pairB_pair {lt : Nat → Nat → Bool} : ∀ {l : List Nat}, pairB lt l = true → l.Pairwise fun i j => lt i j = true
  | [], _ => .nil
  | x :: xs, h => by
    simp only [pairB_e1, pairB_e2, Bool.and_eq_true] at h
    exact .cons (fun y hy => List.all_eq_true.mp h.1 y hy) (pairB_pair h.2)
set_option tactic.hygienic true in
theorem goodB_sort {n : Nat} {lt : Nat → Nat → Bool} (h : goodB n lt = true) : ∃ p, runK n lt (kas_sort n) = some p ∧ p.toList.Perm (List.range n) ∧ p.toList.Pairwise fun i j => lt i j = true := by
  unfold goodB at h
  split at h
  · rename_i p e
    rw [Bool.and_eq_true] at h
    exact ⟨p, e, List.isPerm_iff.mp h.1, pairB_pair h.2⟩
  · cases h
theorem sort_told {n : Nat} {lt : Nat → Nat → Bool} (h2 : 2 ≤ n) (h4 : n ≤ 4) (hi : ∀ i, i < n → lt i i = false) (hs : ∀ i j, i < n → j < n → i ≠ j → lt j i = !lt i j)
    (ht : ∀ i j k, i < n → j < n → k < n → lt i j = true → lt j k = true → lt i k = true) : ∃ p, runK n lt (kas_sort n) = some p ∧ p.toList.Perm (List.range n) ∧ p.toList.Pairwise fun i j => lt i j = true := by
  have main : ∀ tb : Nat → Nat → Bool, (∀ i j, i < n → j < n → lt i j = tb i j) → goodB n tb = true → ∃ p, runK n lt (kas_sort n) = some p ∧ p.toList.Perm (List.range n) ∧ p.toList.Pairwise fun i j => lt i j = true := by
    intro tb he hg
    obtain ⟨p, e, hp, hw⟩ := goodB_sort hg
    refine ⟨p, (runK_congr he _).trans e, hp, hw.imp_of_mem fun {i j} mi mj h => ?_⟩
    rw [he i j (List.mem_range.mp (hp.mem_iff.mp mi)) (List.mem_range.mp (hp.mem_iff.mp mj))]
    exact h
  have tr : ∀ tb : Nat → Nat → Bool, (∀ i j, i < n → j < n → lt i j = tb i j) → transB n tb = true := by
    intro tb he
    unfold transB
    simp only [List.all_eq_true, List.mem_range]
    intro i h1 j h2 k h3
    rw [← he i j h1 h2, ← he j k h2 h3, ← he i k h1 h3]
    cases q1 : lt i j <;> cases q2 : lt j k <;> simp
    exact ht i j k h1 h2 h3 q1 q2
  have he : ∀ i j, i < n → j < n → lt i j = tab4 (if 1 < n then lt 0 1 else false) (if 2 < n then lt 0 2 else false) (if 3 < n then lt 0 3 else false) (if 2 < n then lt 1 2 else false) (if 3 < n then lt 1 3 else false) (if 3 < n then lt 2 3 else false) i j := by
    intro i j h1 h2
    have q : ∀ k, k < n → k = 0 ∨ k = 1 ∨ k = 2 ∨ k = 3 := fun k h => by omega
    rcases q i h1 with rfl | rfl | rfl | rfl <;> rcases q j h2 with rfl | rfl | rfl | rfl <;> first
      | exact hi _ h1
      | exact (if_pos h2).symm
      | exact (hs _ _ h2 h1 (by decide)).trans (congrArg not (if_pos h1).symm)
  have hc : n = 2 ∨ n = 3 ∨ n = 4 := by omega
  rcases hc with rfl | rfl | rfl
  · exact main _ he (good2 _)
  · exact main _ he (good3 _ _ _ (tr _ he))
  · exact main _ he (good4 _ _ _ _ _ _ (tr _ he))
noncomputable def ltL : List Nat → List Nat → Bool
  | _, [] => false
  | [], _ :: _ => true
  | a :: as, b :: bs => if a = b then ltL as bs else decide (a < b)
theorem ltL_e1 : ∀ (x : List Nat), ltL x [] = false := by intro x; cases x <;> rfl
theorem ltL_e2 : ∀ (head : Nat) (tail : List Nat), ltL [] (head :: tail) = true := by intros; rfl
theorem ltL_e3 : ∀ (a : Nat) (as : List Nat) (b : Nat) (bs : List Nat), ltL (a :: as) (b :: bs) = if a = b then ltL as bs else decide (a < b) := by intros; rfl
theorem ltL_irr : ∀ x, ltL x x = false
  | [] => rfl
  | a :: as => by simp [ltL_e1, ltL_e2, ltL_e3, ltL_irr as]
theorem ltL_swap : ∀ x y, x ≠ y → ltL y x = !ltL x y
  | [], [], h => absurd rfl h
  | [], _ :: _, _ => rfl
  | _ :: _, [], _ => rfl
  | a :: as, b :: bs, h => by
    simp only [ltL_e1, ltL_e2, ltL_e3]
    by_cases q : a = b
    · subst q
      simp only [if_true]
      exact ltL_swap as bs fun e => h (by rw [e])
    · rw [if_neg q, if_neg (Ne.symm q)]
      by_cases q2 : a < b
      · have : ¬ b < a := by omega
        simp [q2, this]
      · have : b < a := by omega
        simp [q2, this]
theorem ltL_trans : ∀ x y z, ltL x y = true → ltL y z = true → ltL x z = true
  | _, [], _, h, _ => by simp [ltL_e1, ltL_e2, ltL_e3] at h
  | _, _ :: _, [], _, h => by simp [ltL_e1, ltL_e2, ltL_e3] at h
  | [], _ :: _, _ :: _, _, _ => rfl
  | a :: as, b :: bs, c :: cs, h1, h2 => by
    simp only [ltL_e1, ltL_e2, ltL_e3] at h1 h2 ⊢
    by_cases q : a = b
    · subst q
      rw [if_pos rfl] at h1
      by_cases q2 : a = c
      · subst q2
        rw [if_pos rfl] at h2
        rw [if_pos rfl]
        exact ltL_trans as bs cs h1 h2
      · rw [if_neg q2] at h2 ⊢
        exact h2
    · rw [if_neg q] at h1
      have h1' : a < b := by simpa using h1
      by_cases q2 : b = c
      · subst q2
        rw [if_neg q]
        exact h1
      · rw [if_neg q2] at h2
        have h2' : b < c := by simpa using h2
        rw [if_neg (by omega)]
        simp; omega
theorem sort_places {pls : List (List Nat)} (h2 : 2 ≤ pls.length) (h4 : pls.length ≤ 4) (hn : pls.Nodup) : ∃ p, runK pls.length (fun i j => ltL (pls.getD i []) (pls.getD j [])) (kas_sort pls.length) = some p ∧ p.toList.Perm (List.range pls.length) ∧
    p.toList.Pairwise fun i j => ltL (pls.getD i []) (pls.getD j []) = true := by
  refine sort_told h2 h4 (fun i V => ltL_irr _) (fun i j hi hj hij => ltL_swap _ _ fun e => hij ?_) fun i j k V V V => ltL_trans _ _ _
  rw [List.getD_eq_getElem?_getD, List.getD_eq_getElem?_getD, List.getElem?_eq_getElem hi, List.getElem?_eq_getElem hj] at e
  exact (List.getElem_inj hn).mp (by simpa using e)
noncomputable def lexF (fin : Bool) : List Nat → List Nat → Bool
  | a :: as, b :: bs => if a = b then lexF fin as bs else decide (a < b)
  | _, _ => fin
theorem lexF_ltL : ∀ x y : List Nat, lexF (decide (x.length < y.length)) x y = ltL x y
  | [], [] => by simp [lexF, ltL_e1, ltL_e2, ltL_e3]
  | [], _ :: _ => by simp [lexF, ltL_e1, ltL_e2, ltL_e3]
  | _ :: _, [] => by simp [lexF, ltL_e1, ltL_e2, ltL_e3]
  | a :: as, b :: bs => by
    simp only [lexF, ltL_e1, ltL_e2, ltL_e3, List.length_cons, Nat.add_lt_add_iff_right]
    rw [lexF_ltL as bs]
theorem NatsAt.uncons {v : Value} {vs : List Value} {ns : List Nat} (h : NatsAt (v :: vs) ns) : ∃ n t ns', ns = n :: ns' ∧ v = .int (n : Int) t ∧ NatsAt vs ns' := by
  obtain ⟨h1, h2⟩ := h
  cases ns with
  | nil => simp at h1
  | cons n ns =>
    obtain ⟨t, e⟩ := h2 0 n rfl
    refine ⟨n, t, ns, rfl, by simpa using e, by simpa using h1, fun i m hi => ?_⟩
    have := h2 (i + 1) m (by simpa using hi)
    simpa using this
theorem NatsAt.nil_inv {ns : List Nat} (h : NatsAt [] ns) : ns = [] := List.length_eq_zero_iff.mp (by simpa using h.1.symm)
section
variable {prog : Program} {w : World} {A : Around} {E : Value → Shared → Prop} {s : Shared} {a b : Addr} {oa ob : Obj} {xs ys : Array Value} {na nb : Nat} {px py : List Nat}
theorem body_tuple_lt {P : PySem.Fin → Shared → Prop} (hoa : s.heap.get? a = some oa) (hda : oa.data = .seq xs na) (hob : s.heap.get? b = some ob) (hcb : ob.cls = .type "tuple") (hdb : ob.data = .seq ys nb)
    (hx : NatsAt xs.toList px) (hy : NatsAt ys.toList py) (h : P (.done (.ret (.bool (ltL px py)))) s) : wpAny (model prog w) A (Builtin.«tuple.__lt__» ⟨[.ref a, .ref b], []⟩) P E s := by
  show wpAny _ _ (isInstance (.ref b) (.type "tuple") >>= _) _ _ s
  refine wpAny_bind (wpAny_isInstance ⟨_, hob, hcb⟩ isSubtype_tuple_tuple ?_)
  simp only [Bool.not_true, Bool.false_eq_true, if_false]
  refine wpAny_bind (wpAny_tupleItemsOf hoa hda ?_)
  refine wpAny_bind (wpAny_tupleItemsOf hob hdb ?_)
  refine wpAny_bind ?_
  have hlx := hx.1
  have hly := hy.1
  rw [Array.length_toList] at hlx hly
  have hfin : lexF (decide (xs.size < ys.size)) px py = ltL px py := by rw [hlx, hly]; exact lexF_ltL px py
  refine wpAny_forIn_list _
    (fun rest r s' => r.1 = none ∧ s' = s ∧ ∃ px' py' xs' ys', rest = List.zip xs' ys' ∧ NatsAt xs' px' ∧ NatsAt ys' py' ∧ lexF (decide (xs.size < ys.size)) px' py' = ltL px py)
    _ ?_ ?_ _ _ ⟨rfl, rfl, px, py, xs.toList, ys.toList, rfl, hx, hy, hfin⟩
  · intro hX0 rest r s' hX4
    obtain ⟨u, v⟩ := hX0
    obtain ⟨hr, rfl, px', py', xs', ys', hz, hx', hy', hl⟩ := hX4
    cases xs' with
    | nil => simp at hz
    | cons x1 xr =>
      cases ys' with
      | nil => simp at hz
      | cons y1 yr =>
        obtain ⟨n, t, pr, rfl, rfl, hx2⟩ := hx'.uncons
        obtain ⟨n', t', pr', rfl, rfl, hy2⟩ := hy'.uncons
        simp only [List.zip_cons_cons, List.cons.injEq, Prod.mk.injEq] at hz
        obtain ⟨⟨rfl, rfl⟩, rfl⟩ := hz
        refine wpAny_bind (wpAny_eqBool_int ?_)
        simp only [lexF] at hl
        by_cases hk : n = n'
        · subst hk
          rw [beq_self_eq_true]
          simp only [Bool.not_true, Bool.false_eq_true, if_false]
          rw [if_pos rfl] at hl
          exact wpAny_pure ⟨rfl, rfl, pr, pr', xr, yr, rfl, hx2, hy2, hl⟩
        · rw [if_neg hk] at hl
          have hne : ((n : Int) == (n' : Int)) = false := by simp; omega
          rw [hne]
          simp only [Bool.not_false, if_true]
          refine wpAny_bind (wpAny_rule (wpAny_bind (PyProof.Rows.lt_int (Q := fun v s'' => v = .bool (ltL px py) ∧ s'' = s') ⟨?_, rfl⟩ |> fun q => wpAny_mono q (fun v s'' z2 => z2.elim fun e1 e2 => ?_) fun V V x => x)))
          · rw [← hl]
            congr 1
            simp
          · subst e1 e2
            exact wpAny_bind (wpAny_pure (wpAny_pure (wpAny_pure h)))
  · intro hX0 s' hX2
    obtain ⟨r1, r2⟩ := hX0
    obtain ⟨hr, rfl, px', py', xs', ys', hz, hx', hy', hl⟩ := hX2
    simp only at hr
    subst hr
    refine wpAny_pure ?_
    have hf2 : decide (xs.size < ys.size) = ltL px py := by
      rw [← hl]
      cases xs' with
      | nil => rcases hx'.nil_inv with rfl; simp [lexF]
      | cons _ _ =>
        cases ys' with
        | nil => rcases hy'.nil_inv with rfl; cases px' <;> simp [lexF]
        | cons _ _ => simp at hz
    show P (.done (.ret (.bool (decide (xs.size < ys.size))))) s'
    rw [hf2]; exact h
end
inductive KeyTup (h : Heap) (pl : List Nat) (v : Value) : Prop
  | mk : ∀ a o xs n, v = .ref a → h.get? a = some o → o.cls = .type "tuple" → o.data = .seq xs n → NatsAt xs.toList pl → KeyTup h pl v
noncomputable def IsKind (κ : SortKind) : Prop := κ = general' ∨ κ = oneType' ∨ κ = tuples' true
noncomputable def HeadOk (f : Option Value) : Prop := f = none ∨ ∃ (n : Int) (t : Tok), f = some (.int n t)
theorem All2.get2 {α : Type} {R : α → Value → Prop} : ∀ {xs : List α} {vs : List Value} {i : Nat} {v : Value}, All2 R xs vs → vs[i]? = some v → ∃ x, xs[i]? = some x ∧ R x v := fun {xs vs i x} a e => by
  induction a generalizing i with
  | nil => cases e
  | cons h t ih => cases i with
    | zero => cases e; exact ⟨_, rfl, h⟩
    | succ i => exact ih e
theorem keyLt_general (x y : Value) : keyLt' general' x y = oneLt' false x y := rfl
section
variable {prog : Program} {w : World} {A : Around} {E : Value → Shared → Prop} {s : Shared}
theorem call_tuple_lt {x y : Value} {px py : List Nat} {Q : Value → Shared → Prop} (hx : KeyTup s.heap px x) (hy : KeyTup s.heap py y) (h : Q (.bool (ltL px py)) s) : wpAny (model prog w) A (call (.builtin "tuple.__lt__") [x, y]) Q E s := by
  obtain ⟨a, oa, xs, n, rfl, h1, h2, h3, h4⟩ := hx
  obtain ⟨b, ob, ys, m, rfl, g1, g2, g3, g4⟩ := hy
  exact wpAny_call_entry F.slot_tuple_lt ⟨_, h1, h2⟩ F.entry_tuple_lt (body_tuple_lt h1 h3 g1 g2 g3 h4 g4 ⟨_, rfl, h⟩) (F.args_tuple_lt_2 _ _)
theorem oneLt_tup {b : Bool} {x y : Value} {px py : List Nat} {Q : Bool → Shared → Prop} (hu : A.units < cLine) (hx : KeyTup s.heap px x) (hy : KeyTup s.heap py y) (h : Q (ltL px py) s) : wpAny (model prog w) A (oneLt' b x y) Q E s := by
  rcases id hx with ⟨a, oa, xs, n, rfl, h1, h2, h3, h4⟩
  rcases id hy with ⟨a', ob, ys, m, rfl, g1, g2, g3, g4⟩
  rw [oneLt'_eq]
  cases b with
  | true =>
    simp only [if_true]
    refine wpAny_bind (wpAny_cRoomFor hu ?_)
    refine wpAny_bind (wpAny_callSpecialIfBound?_slot (T := "tuple") ⟨_, h1, h2⟩ F.slot_tuple_lt (call_tuple_lt hx hy ?_))
    exact wpAny_truthy_bool h
  | false =>
    simp only [Bool.false_eq_true, if_false]
    refine wpAny_bind (wpAny_richCompare_same_room (T := "tuple") (op := .Lt) ⟨_, h1, h2⟩ ⟨_, g1, g2⟩ F.slot_tuple_lt (call_tuple_lt hx hy ⟨by simp, ?_⟩) hu)
    exact wpAny_truthy_bool h
theorem oneLt_nat {b : Bool} {x y : Nat} {t u : Tok} {Q : Bool → Shared → Prop} (h : Q (decide (x < y)) s) : wpAny (model prog w) A (oneLt' b (.int (x : Int) t) (.int (y : Int) u)) Q E s := by
  have h' : Q (decide ((x : Int) < (y : Int))) s := by simpa using h
  cases b with
  | true => exact oneLt_int h'
  | false => exact kat_one _ _ (PyProof.Rows.lt_int h')
theorem katLex_nats {fin : Bool} {Q : Bool → Shared → Prop} : ∀ {xs ys : List Value} {px py : List Nat} (i : Nat), NatsAt xs px → NatsAt ys py → Q (lexF fin px py) s → KatLex prog w A true fin Q (xs.zip ys) i s
  | [], _, px, py, i, hx, hy, h => by
    obtain rfl := hx.nil_inv
    simp only [lexF] at h
    exact kat_nil h
  | _ :: _, [], px, py, i, hx, hy, h => by
    obtain rfl := hy.nil_inv
    have : lexF fin px [] = fin := by cases px <;> rfl
    rw [this] at h
    exact kat_nil h
  | x :: xs, y :: ys, px, py, i, hx, hy, h => by
    obtain ⟨n, t, pr, rfl, rfl, hx2⟩ := hx.uncons
    obtain ⟨n', t', pr', rfl, rfl, hy2⟩ := hy.uncons
    simp only [lexF] at h
    refine kat_cons (wpAny_eqBool_int ?_)
    by_cases hk : n = n'
    · subst hk
      rw [beq_self_eq_true]
      rw [if_pos rfl] at h
      exact kat_yes (katLex_nats (i + 1) hx2 hy2 h)
    · rw [if_neg hk] at h
      rw [show ((n : Int) == (n' : Int)) = false by simp; omega]
      exact kat_no (oneLt_nat h)
theorem keyLt_tup {κ : SortKind} {x y : Value} {px py : List Nat} {Q : Bool → Shared → Prop} (hκ : IsKind κ) (hu : A.units < cLine) (hx : KeyTup s.heap px x) (hy : KeyTup s.heap py y) (h : Q (ltL px py) s) : wpAny (model prog w) A (keyLt' κ x y) Q E s := by
  rcases hκ with rfl | rfl | rfl
  · rw [keyLt_general]; exact oneLt_tup hu hx hy h
  · rw [keyLt'_oneType]; exact oneLt_tup hu hx hy h
  · obtain ⟨a, oa, xs, n, rfl, h1, h2, h3, h4⟩ := id hx
    obtain ⟨a', ob, ys, m, rfl, g1, g2, g3, g4⟩ := id hy
    refine kat_lt h1 h3 g1 g3 (katLex_nats 0 h4 g4 ?_)
    have hlx := h4.1
    have hly := g4.1
    rw [Array.length_toList] at hlx hly
    rw [hlx, hly, lexF_ltL]
    exact h
theorem firsts_tup : ∀ {ks : List Value} {pls : List (List Nat)} {Q : List (Option Value) → Shared → Prop}, All2 (KeyTup s.heap) pls ks → (∀ fs, fs.length = ks.length → (∀ f ∈ fs, HeadOk f) → Q fs s) → wpAny (model prog w) A (ks.mapM firstOfTuple') Q E s := fun {ks pls Q} x h => by
  induction x generalizing Q with
  | nil => rw [List.mapM_nil]; exact wpAny_pure (h [] rfl (by simp))
  | @cons pl k pls ks x xs ih =>
    rcases x with ⟨a, o, ys, n, rfl, h1, h2, h3, h4⟩
    rw [List.mapM_cons]
    refine wpAny_bind ?_
    rw [kas_first_eq]
    refine wpAny_bind (Looks.here (show Looks _ s.heap (typeOf (.ref a)) o.cls from (Looks.ld h1).andThen .now) ?_)
    rw [h2, if_neg (by first | decide | simp)]
    refine wpAny_bind (listItems_at h1 h3 (wpAny_pure ?_))
    refine wpAny_bind (ih fun fs hl hf => wpAny_pure (h _ (by simp [hl]) fun f hm => ?_))
    rcases List.mem_cons.mp hm with rfl | hm
    · cases q : ys[0]? with
      | none => exact .inl rfl
      | some v =>
        right
        have h5 : ys.toList[0]? = some v := by simpa using q
        have hl := h4.1
        cases pl with
        | nil => simp at hl; rw [hl] at h5; simp at h5
        | cons m r =>
          obtain ⟨t, e⟩ := h4.2 0 m rfl
          rw [h5] at e
          cases e
          exact ⟨_, _, rfl⟩
    · exact hf f hm
theorem kind_tup {ks : List Value} {pls : List (List Nat)} {Q : SortKind → Shared → Prop} (hk : All2 (KeyTup s.heap) pls ks) (hne : 0 < ks.length) (h : ∀ κ, IsKind κ → Q κ s) : wpAny (model prog w) A (keyKind' ks.toArray) Q E s := by
  rw [kat_kind_eq, List.mapM_toArray, map_eq_pure_bind]
  refine wpAny_bind (wpAny_bind (firsts_tup hk fun fs hl hf => wpAny_pure ?_))
  by_cases hall : (fs.toArray.all fun x => x.isSome) = true
  · rw [if_pos hall]
    refine wpAny_bind (wpAny_rule ?_)
    have hfm : (fs.toArray.filterMap id) = (fs.filterMap id).toArray := by simp
    rw [hfm, oneTypeOnly'_eq, List.mapM_toArray, map_eq_pure_bind]
    have hint : ∀ v ∈ fs.filterMap id, ∃ (n : Int) (t : Tok), v = .int n t := by
      intro v hv
      obtain ⟨f, hm, e⟩ := List.mem_filterMap.mp hv
      rcases hf f hm with rfl | ⟨n, t, rfl⟩
      · cases e
      · cases e; exact ⟨n, t, rfl⟩
    refine wpAny_bind (wpAny_bind (wpAny_bind (kas_mapM (r := Value.type "int") _ (fun v hv Q' hq => ?_) (wpAny_pure ?_))))
    · obtain ⟨n, t, rfl⟩ := hint v hv
      exact wpAny_pure hq
    · have hn : 0 < (fs.filterMap id).length := by
        cases fs with
        | nil => simp at hl; omega
        | cons f r =>
          have h1 := List.all_eq_true.mp (by simpa using hall) f List.mem_cons_self
          cases f with
          | none => cases h1
          | some v => simp
      have h0 : (List.map (fun V => Value.type "int") (fs.filterMap id)).toArray[0]? = some (Value.type "int") := by
        cases q : fs.filterMap id with
        | nil => rw [q] at hn; simp at hn
        | cons v r => simp
      have hall2 : ((List.map (fun V => Value.type "int") (fs.filterMap id)).toArray.all fun x => x == Value.type "int") = true := by
        simp only [List.all_toArray, List.all_map, List.all_eq_true]
        intro _ _
        rfl
      rw [h0]
      simp only [hall2, if_true]
      exact wpAny_pure (wpAny_pure (h _ (.inr (.inr rfl))))
  · rw [if_neg hall]
    split
    · exact wpAny_pure (h _ (.inl rfl))
    · rw [oneTypeOnly'_eq, List.mapM_toArray, map_eq_pure_bind]
      refine wpAny_bind (wpAny_bind (wpAny_bind (kas_mapM (r := Value.type "tuple") _ (fun v hv Q' hq => ?_) (wpAny_pure ?_))))
      · obtain ⟨pl, hp⟩ : ∃ pl, KeyTup s.heap pl v := by
          obtain ⟨i, hi, e⟩ := List.getElem_of_mem hv
          obtain ⟨pl, hp, hq⟩ := hk.get2 (i := i) (v := v) (by rw [List.getElem?_eq_getElem hi, e])
          exact ⟨pl, hq⟩
        obtain ⟨a, o, xs, n, rfl, h1, h2, h3, h4⟩ := hp
        refine Looks.here (show Looks _ s.heap (typeOf (.ref a)) o.cls from (Looks.ld h1).andThen .now) ?_
        rw [h2]; exact hq
      · have h0 : (List.map (fun V => Value.type "tuple") ks).toArray[0]? = some (Value.type "tuple") := by
          cases ks with
          | nil => simp at hne
          | cons v r => simp
        have hall2 : ((List.map (fun V => Value.type "tuple") ks).toArray.all fun x => x == Value.type "tuple") = true := by
          simp only [List.all_toArray, List.all_map, List.all_eq_true]
          intro _ _
          rfl
        rw [h0]
        simp only [hall2, if_true]
        exact wpAny_pure (wpAny_pure (h _ (.inr (.inl rfl))))
end
inductive KeyedAt (Z : Zm) (pl : List Nat) (v : Value) : Prop
  | mk : ∀ a vp vr n, v = .ref a → Z a = some (TO #[vp, vr] n) → PlaceAt Z pl vp → KeyedAt Z pl v
theorem KeyedAt.mono {Z Z' : Zm} (h : Z.le Z') {pl : List Nat} {v : Value} (x : KeyedAt Z pl v) : KeyedAt Z' pl v :=
  let ⟨a, vp, vr, n, e, z, hp⟩ := x; ⟨a, vp, vr, n, e, h _ _ z, hp.mono h⟩
noncomputable abbrev oneArgs (p0 : Pos) : Arguments := { posonlyargs := [], args := [{ arg := "one", annotation := none, pos := p0 }], vararg := none, kwonlyargs := [], kw_defaults := [], kwarg := none, defaults := [] }
noncomputable abbrev oneBody (p1 p2 p3 : Pos) : Expr := .Subscript (.Name "one" p1) (.Constant (.int 0) 0 p2) p3
noncomputable abbrev oneScope : Scope := { kind := .function, names := [(Str.ofString "one", .local)], isGenerator := false, isCoroutine := false, more := [] }
noncomputable abbrev LamOne (Z : Zm) (o : Obj) (qual : Str) (p0 p1 p2 p3 : Pos) : Prop := Lam Z o "<lambda>" qual (oneArgs p0) (oneBody p1 p2 p3) oneScope
section
variable {p : JP} {A : Around} {c : JC} {E : JC → Prop}
theorem lam_one {f : Addr} {o : Obj} {qual : Str} {p0 p1 p2 p3 : Pos} {v : Value} {pl : List Nat} {Q : Value → JC → Prop} (F : LamOne c.Z o qual p0 p1 p2 p3) (ho : c.Has f o) (hroom : A.depth < recursionLimit) (K : KeyedAt c.Z pl v)
    (h : ∀ k, PlaceAt c.Z pl k → Q k c) : jwp p A (call (.ref f) [v]) Q E c := by
  obtain ⟨a, vp, vr, n, rfl, hz, hp⟩ := K
  refine j_call (jcode_lam F ho hroom (binds := [(Str.ofString "one", .ref a)]) (fun V V V => rfl) fun L pm cdv ct => ?_)
  refine j_Subscript (j_local (l := _) List.mem_cons_self rfl (j_cInt fun t => ?_))
  refine j_getitemInPythonTup (has_z hz) (j_subPlain (j_tupItem (v := vp) (i := 0) (has_z hz) (by decide) (by decide) rfl rfl ?_))
  exact ⟨_, rfl, h _ hp⟩
theorem j_attempt {α : Type} {m : Sem α} {Q : Except Value α → JC → Prop} (h : jwp p A m (fun a => Q (.ok a)) (fun V => False) c) : jwp p A m.attempt Q E c := .of fun s H =>
  wpAny_attempt (wpAny_mono (h.run s H) (fun V V z => z.elim fun c e => ⟨c, e.1, e.2⟩) fun e s' z2 => z2.elim fun V y20 => y20.elim fun V y21 => y21.elim fun V y22 => y22.elim fun V y23 => y23.elim fun V q => q.elim)
theorem j_fold {body : Value → PUnit → Sem (ForInStep PUnit)} {Q : PUnit → JC → Prop} (I : Nat → JC → Prop) : ∀ (vs : List Value) (i : Nat) (c : JC), I i c →
    (∀ j x c', vs[j]? = some x → I (i + j) c' → jwp p A (body x ⟨⟩) (fun r c'' => r = .yield ⟨⟩ ∧ I (i + j + 1) c'') E c') →
    (∀ c', I (i + vs.length) c' → Q ⟨⟩ c') → jwp p A (forIn vs PUnit.unit body) Q E c
  | [], i, c, hI, _, done => by
    rw [List.forIn_nil]
    exact jwp_pure (done c (by simpa using hI))
  | x :: vs, i, c, hI, step, done => by
    rw [List.forIn_cons]
    refine jwp_bind ((step 0 x c (by trivial) hI).mono (fun r c' h' => ?_) fun V V e => e)
    obtain ⟨rfl, hI'⟩ := h'
    show jwp p A (forIn vs PUnit.unit body) Q E c'
    refine j_fold I vs (i + 1) c' hI' (fun j y c'' hy hJ => ?_) fun c'' hd => done c'' ?_
    · have e : i + (j + 1) = i + 1 + j := by omega
      have h1 := step (j + 1) y c'' (by simpa using hy) (by rw [e]; exact hJ)
      rw [e] at h1
      exact h1
    · have e : i + (x :: vs).length = i + 1 + vs.length := by rw [List.length_cons]; omega
      rw [e]
      exact hd
end
noncomputable def Sorted (pls : List (List Nat)) (q : List Nat) : Prop := q.Perm (List.range pls.length) ∧ q.Pairwise fun i j => ltL (pls.getD i []) (pls.getD j []) = true
section
variable {p : JP} {A : Around} {Z : Zm} {nss : List (Addr × Vars)} {own : List (Addr × Obj)} {g : Array GenState} {E : JC → Prop} {D kS T : Addr} {xs keys : Array Value} {e1 k : Nat} {pls : List (List Nat)}
theorem j_tail {st : SortSt} {out : Array Value} {P : PySem.Fin → JC → Prop} (hout : (arrOf st).map (·.2) = out) (ho : out.size ≤ 64) (hk : keys.size ≤ 64) (hf : failedOf st = none)
    (h : ∀ k', P (.done (.ret .none)) (JC.mk Z nss ((D, LO out k') :: own) g)) : jwp p A (ksk_tail D false e1 (.ref kS) st) P E (JC.mk Z nss ((kS, LO keys k) :: (T, TO xs 0) :: (D, LO #[] e1) :: own) g) := by
  unfold ksk_tail
  try dsimp only
  rw [hout, hf]
  refine jwp_bind (j_listUpdate (pre := []) rfl (by unfold sizeLine; omega) (Nat.zero_le _) ?_)
  refine jwp_bind <| .of fun s H => wpAny_letGo ⟨_, H, ?_⟩
  refine jwp_bind (j_seqEpoch (n := e1) (items := #[]) (has_own (List.mem_cons_of_mem _ (List.mem_cons_of_mem _ List.mem_cons_self))) ?_)
  refine jwp_bind (j_listUpdate (pre := [(kS, _), (T, _)]) (post := own) (a := D) (items := #[]) (n := e1) rfl (Nat.zero_le _) (by simp only [Bool.false_eq_true, if_false]; unfold sizeLine; omega) ?_)
  simp only [bne_self_eq_false, Bool.false_eq_true, if_false]
  refine jwp_conv (c' := JC.mk Z nss ((D, LO out (if out.size == (#[] : Array Value).size then e1 else e1 + 1)) :: own) g) (Conv.ow (List.Perm.refl _) ((List.sublist_cons_self _ _).trans (List.sublist_cons_self _ _))) ?_
  exact jwp_pure (h _)
theorem key_tups {c : JC} {s : Shared} (H : c.At p s) : ∀ {pls : List (List Nat)} {ks : List Value}, All2 (PlaceAt c.Z) pls ks → All2 (KeyTup s.heap) pls ks := fun x => x.mono fun V V ⟨a, xs, m, e, z, hn⟩ => ⟨a, _, xs, m, e, H.z _ _ z, rfl, rfl, hn⟩
theorem j_end {P : PySem.Fin → JC → Prop} (hu : A.units < cLine) (hks : All2 (PlaceAt Z) pls keys.toList) (hlen : xs.size = pls.length) (h1 : 1 ≤ pls.length) (h4 : pls.length ≤ 4) (hnd : pls.Nodup)
    (h : ∀ q k', Sorted pls q → P (.done (.ret .none)) (JC.mk Z nss ((D, LO (q.map fun i => xs.toList.getD i .none).toArray k') :: own) g)) :
    jwp p A (ksk_end D false xs e1 (.ref kS) keys) P E (JC.mk Z nss ((kS, LO keys k) :: (T, TO xs 0) :: (D, LO #[] e1) :: own) g) := by
  have hkl : keys.toList.length = pls.length := hks.length
  have hkl' : keys.size = pls.length := by rw [← hkl, Array.length_toList]
  have hxl : xs.toList.length = pls.length := (Array.length_toList (xs := xs)).trans hlen
  unfold ksk_end
  try dsimp only
  rw [if_neg (by decide)]
  by_cases hn : xs.size < 2
  · rw [if_pos hn, if_pos hn]
    refine jwp_bind (jwp_pure ?_)
    rw [if_neg (by decide)]
    refine jwp_bind (jwp_pure ?_)
    have h11 : pls.length = 1 := by omega
    obtain ⟨x, ex⟩ : ∃ x, xs.toList = [x] := List.length_eq_one_iff.mp (by rw [Array.length_toList]; omega)
    obtain ⟨y, ey⟩ : ∃ y, keys.toList = [y] := List.length_eq_one_iff.mp (by omega)
    have ex' : xs = #[x] := by rw [← Array.toArray_toList (xs := xs), ex]
    have ey' : keys = #[y] := by rw [← Array.toArray_toList (xs := keys), ey]
    refine j_tail (out := ([0].map fun i => xs.toList.getD i .none).toArray) ?_ (by simp) (by omega) rfl fun k' => h [0] k' ⟨by rw [h11]; exact List.Perm.refl _, List.pairwise_singleton _ _⟩
    subst ex' ey'
    show Array.map (fun x : Value × Value => x.2) (#[y].zip #[x]) = #[x]
    simp
  · rw [if_neg hn, if_neg hn]
    obtain ⟨q, hq, hperm, hpair⟩ := sort_places (by omega) h4 hnd
    refine jwp_bind <| .of fun s H => ?_
    have hkt := key_tups H hks
    have kind := kind_tup (prog := PySem.Challenge.pw_jf0031_01) (w := p.w) (A := A) (E := postE p E) (Q := fun κ s' => IsKind κ ∧ s' = s) hkt (by omega) fun κ hκ => ⟨hκ, rfl⟩
    rw [Array.toArray_toList] at kind
    refine wpAny_mono kind (fun κ s' z2 => z2.elim fun hκ e => ?_) fun V V x => x
    subst e
    refine ⟨_, H, ?_⟩
    rw [if_neg (by decide)]
    refine jwp_bind <| .of fun s2 H2 => ?_
    have hkt2 := key_tups H2 hks
    have run := kat_run (prog := PySem.Challenge.pw_jf0031_01) (w := p.w) (A := A) (E := postE p E) (s := s2) (κ := κ) (ks := keys.toList) (vs := xs.toList) (Q := fun st' s' => (arrOf st').map (·.2) = (q.toList.map fun i => xs.toList.getD i .none).toArray ∧ failedOf st' = none ∧ s' = s2) (G := fun q' s' => q' = q ∧ s' = s2)
      (by rw [hkl, hxl]) (by omega) (by omega) (fun p' st' s' h1 h2 h3 z6 => z6.elim fun h4 h5 => ⟨by rw [← h4]; exact kat_snds (by rw [hkl, hxl]) h2, h3, h5⟩) (by
        rw [hxl]
        refine runK_wp (I := fun s' => s' = s2) (fun i j C s' hi hj hs hc => ?_) _ s2 hq rfl fun s' hs' => ⟨rfl, hs'⟩
        subst hs
        rcases hkt2.get (List.getElem?_eq_getElem hi) with ⟨vi, evi, hvi⟩
        rcases hkt2.get (List.getElem?_eq_getElem hj) with ⟨vj, evj, hvj⟩
        unfold kas_ask
        rw [List.getD_eq_getElem?_getD, List.getD_eq_getElem?_getD, evi, evj]
        refine keyLt_tup hκ hu hvi hvj ?_
        have := hc _ rfl
        rw [List.getD_eq_getElem?_getD, List.getD_eq_getElem?_getD, List.getElem?_eq_getElem hi, List.getElem?_eq_getElem hj] at this
        exact this)
    rw [Array.toArray_toList, Array.toArray_toList] at run
    refine wpAny_mono run (fun r s' z2 => z2.elim fun r1 y20 => y20.elim fun r2 r3 => ?_) fun V V x => x
    obtain ⟨⟨⟩, st⟩ := r
    subst r3
    refine ⟨_, H2, ?_⟩
    refine j_tail r1 ?_ (by omega) r2 fun k' => h q.toList k' ⟨hperm, hpair⟩
    rw [List.size_toArray, List.length_map, hperm.length_eq, List.length_range]; omega
end
theorem All2.one {α : Type} {R : α → Value → Prop} {x : α} {v : Value} (h : R x v) : All2 R [x] [v] := .cons h .nil
section
variable {p : JP} {A : Around} {Z : Zm} {nss : List (Addr × Vars)} {own : List (Addr × Obj)} {g : Array GenState} {E : JC → Prop} {D kS T f : Addr} {xs keys : Array Value} {e1 k : Nat} {pls : List (List Nat)} {o : Obj} {qual : Str} {p0 p1 p2 p3 : Pos}
theorem j_entryKw {c : JC} {id : String} {b : Builtin} {args : List Value} {kw : List (Str × Value)} {Q : Value → JC → Prop} (hk : builtinKind id = none) (hp : plainId id = true) (hb : entryFor table id = some b) (ha : argsOk id ⟨args, kw⟩)
    (hc : jwp p A.in1 (b ⟨args, kw⟩) (fun fin c' => ∃ v, fin = PySem.Fin.done (.ret v) ∧ Q v c') E c) : jwp p A (call (.builtin id) args kw) Q E c := .of fun s H =>
  call_function_entry_kw hk hp hb ha (wpAny_mono (hc.run s H) (fun fin s' z2 => z2.elim fun c' y20 => y20.elim fun H' y21 => y21.elim fun v y22 => y22.elim fun e q => ⟨v, e, c', H', q⟩) fun V V x => x)
theorem j_slotKw {c : JC} {name : Str} {id : String} {b : Builtin} {self : Addr} {items : Array Value} {n : Nat} {rest : List Value} {kw : List (Str × Value)} {Q : Value → JC → Prop} (hs : Slot "list" name id) (ho : c.Has self (LO items n)) (hb : entryFor table id = some b) (ha : argsOk id ⟨.ref self :: rest, kw⟩)
    (hc : jwp p A.in1 (b ⟨.ref self :: rest, kw⟩) (fun fin c' => ∃ v, fin = PySem.Fin.done (.ret v) ∧ Q v c') E c) : jwp p A (call (.builtin id) (.ref self :: rest) kw) Q E c := .of fun s H =>
  wpAny_call_entry_kw hs ⟨_, ho.get H, rfl⟩ hb (wpAny_mono (hc.run s H) (fun fin s' z2 => z2.elim fun c' y20 => y20.elim fun H' y21 => y21.elim fun v y22 => y22.elim fun e q => ⟨v, e, c', H', q⟩) fun V V x => x) ha
theorem j_rest {P : PySem.Fin → JC → Prop} (hu : A.units < cLine) (hroom : A.depth < recursionLimit) (F : LamOne Z o qual p0 p1 p2 p3) (hf : (f, o) ∈ own) (hxs : All2 (KeyedAt Z) pls xs.toList) (h1 : 1 ≤ pls.length) (h4 : pls.length ≤ 4) (hnd : pls.Nodup)
    (h : ∀ q k', Sorted pls q → P (.done (.ret .none)) (JC.mk Z nss ((D, LO (q.map fun i => xs.toList.getD i .none).toArray k') :: own) g)) :
    jwp p A (ksk_rest D (.ref f) false xs e1 (.ref kS)) P E (JC.mk Z nss ((kS, LO #[] 0) :: (T, TO xs 0) :: (D, LO #[] e1) :: own) g) := by
  have hxl := hxs.length
  unfold ksk_rest
  refine jwp_bind (j_rule ?_)
  rw [← Array.forIn_toList]
  refine jwp_bind (j_fold (fun i c' => ∃ keys k, c' = JC.mk Z nss ((kS, LO keys k) :: (T, TO xs 0) :: (D, LO #[] e1) :: own) g ∧ All2 (PlaceAt Z) (pls.take i) keys.toList) xs.toList 0 _ ⟨#[], 0, rfl, by simpa using All2.nil⟩ (fun j x c' hx hI => ?_) fun c' hI => ?_)
  · obtain ⟨keys, k, rfl, hk⟩ := hI
    rw [Nat.zero_add] at hk
    obtain ⟨pl, hpl, K⟩ := hxs.get2 hx
    have hj : j < pls.length := (List.getElem?_eq_some_iff.mp hpl).1
    have hkl := hk.length
    rw [Array.length_toList, List.length_take] at hkl
    refine jwp_bind (j_attempt (lam_one F (has_own (List.mem_cons_of_mem _ (List.mem_cons_of_mem _ (List.mem_cons_of_mem _ hf)))) hroom K fun kv hkv => ?_))
    dsimp only
    refine jwp_bind (j_listUpdate (pre := []) rfl (by unfold sizeLine; omega) (by rw [Array.size_push]; unfold sizeLine; omega) ?_)
    refine jwp_pure ⟨rfl, keys.push kv, _, rfl, ?_⟩
    have e : pls.take (0 + j + 1) = pls.take j ++ [pl] := by
      rw [Nat.zero_add, List.take_add_one, hpl]; rfl
    rw [e, Array.toList_push]
    exact hk.append (All2.one hkv)
  · obtain ⟨keys, k, rfl, hk⟩ := hI
    rw [Nat.zero_add, hxl, List.take_length] at hk
    refine jwp_bind (j_listItems (has_own List.mem_cons_self) ?_)
    exact j_end hu hk ((Array.length_toList (xs := xs)).symm.trans hxl) h1 h4 hnd h
theorem j_ksk {n : Nat} {P : PySem.Fin → JC → Prop} (hu : A.units < cLine) (hroom : A.depth < recursionLimit) (F : LamOne Z o qual p0 p1 p2 p3) (hf : (f, o) ∈ own) (hxs : All2 (KeyedAt Z) pls xs.toList) (h1 : 1 ≤ pls.length) (h4 : pls.length ≤ 4) (hnd : pls.Nodup)
    (h : ∀ q k', Sorted pls q → P (.done (.ret .none)) (JC.mk Z nss ((D, LO (q.map fun i => xs.toList.getD i .none).toArray k') :: own) g)) :
    jwp p A (ksk_tree D (.ref f) false) P E (JC.mk Z nss ((D, LO xs n) :: own) g) := by
  have hxl := hxs.length
  rw [Array.length_toList] at hxl
  unfold ksk_tree
  refine jwp_bind (j_listItems (has_own List.mem_cons_self) ?_)
  refine jwp_bind (j_listUpdate (pre := []) rfl (by unfold sizeLine; omega) (Nat.zero_le _) ?_)
  refine jwp_bind (j_seqEpoch (has_own List.mem_cons_self) ?_)
  refine jwp_bind (j_newTuple (fun T => ?_) (by rw [Array.length_toList]; unfold sizeLine; omega))
  refine jwp_bind (j_newList (fun kS => ?_) (Nat.zero_le _))
  refine jwp_holding ?_
  rw [Array.toArray_toList]
  exact j_rest hu hroom F hf hxs h1 h4 hnd h
theorem j_sorted {l : Addr} {n : Nat} {Q : Value → JC → Prop} (hu : A.units + 2 < cLine) (hroom : A.depth < recursionLimit) (F : LamOne Z o qual p0 p1 p2 p3) (hf : (f, o) ∈ own) (hl : (JC.mk Z nss own g).Has l (LO xs n)) (hxs : All2 (KeyedAt Z) pls xs.toList) (h1 : 1 ≤ pls.length) (h4 : pls.length ≤ 4) (hnd : pls.Nodup)
    (h : ∀ D q k', Sorted pls q → Q (.ref D) (JC.mk Z nss ((D, LO (q.map fun i => xs.toList.getD i .none).toArray k') :: own) g)) :
    jwp p A (call (.builtin "sorted") [.ref l] [(Str.ofString "key", .ref f)]) Q E (JC.mk Z nss own g) := by
  have hxl := hxs.length
  rw [Array.length_toList] at hxl
  refine j_entryKw kind_sorted plain_sorted entry_sorted (ksk_s1 _ _) ?_
  unfold Builtin.«sorted»
  refine jwp_bind (m := checkCount "sorted" 1 1 _) (jwp_pure ?_)
  refine jwp_bind (j_collect (items := xs) (n := n) hl (by unfold sizeLine; omega) ?_)
  refine jwp_bind (j_newList (fun D => ?_) (by rw [Array.length_toList]; unfold sizeLine; omega))
  rw [show ({ cls := .type "list", data := .seq xs.toList.toArray } : Obj) = LO xs 0 by rw [Array.toArray_toList]]
  refine jwp_bind (jwp_holding (j_slotKw (self := D) (items := xs) (n := 0) slot_list_sort (has_own List.mem_cons_self) entry_list_sort (ksk_l1 _ _) ?_))
  show jwp p A.in1.in1 (Builtin.«list.sort» ⟨[.ref D], [(Str.ofString "key", .ref f)]⟩) _ _ _
  rw [ksk_t1]
  refine j_ksk (by show A.units + 1 + 1 < cLine; omega) hroom F hf hxs h1 h4 hnd fun q k' hq => ⟨_, rfl, ?_⟩
  exact jwp_pure ⟨_, rfl, h D q k' hq⟩
end
section
variable {p : JP} {A : Around} {c : JC} {E : JC → Prop} {env : Env}
theorem j_args1kw1 {pos : Pos} {f : Value} {e : Expr} {kw : Str} {e'' : Expr} {kws : List Keyword} {Q : Args → JC → Prop}
    (h : jwp p A (eval e env) (fun v c₁ => jwp p A (eval e'' env) (fun k => Q ⟨[v], [(kw, k)]⟩) E c₁) E c)
    (hs : autoParam (starEach [e] env = [(false, eval e env)]) rt) (hk : autoParam (keywordEach kws env = [(some kw, eval e'' env)]) rt) :
    jwp p A (evalArgs f true (backTo pos (starEach [e] env)) (backToKw pos (keywordEach kws env))) Q E c := by
  rw [hs, hk]
  unfold evalArgs
  show jwp p A (spliced (backTo pos [(false, eval e env)]) >>= _) Q E c
  refine jwp_bind (j_splicedCons (h.mono (fun v c₁ q => j_splicedNil ?_) fun V V x => x))
  refine jwp_bind (jwp_pure (jwp_holding ?_))
  show jwp p A ((evalAll [do let v ← eval e'' env; standAt pos; pure v]) >>= _) Q E c₁
  refine jwp_bind (j_evalAll1 (jwp_bind (q.mono (fun k c₃ q' => j_standThen (jwp_pure ?_)) fun V V x => x)))
  exact jwp_bind (jwp_pure (jwp_pure q'))
theorem has_tab {Z Z' : Zm} {nss : List (Addr × Vars)} {pre post : List (Addr × Obj)} {g : Array GenState} {T l : Addr} {ps ps' : Array Value} {x : Addr × Obj} {xs : Array Value} {n : Nat} (hz : Z.le Z')
    (h : (JC.mk Z nss (pre ++ (T, tabObj ps) :: post) g).Has l (LO xs n)) : (JC.mk Z' nss (x :: pre ++ (T, tabObj ps') :: post) g).Has l (LO xs n) := by
  rcases h with h | h
  · exact .inl (hz _ _ h)
  · right
    dsimp only at h ⊢
    rcases List.mem_append.mp h with h | h
    · exact List.mem_append_left _ (List.mem_cons_of_mem _ h)
    · rcases List.mem_cons.mp h with h | h
      · cases h
      · exact List.mem_append_right _ (List.mem_cons_of_mem _ h)
theorem j_SortedKey {np pos p0 p1 p2 p3 lp kp : Pos} {e : Expr} {l cd T : Addr} {xs ps : Array Value} {n : Nat} {pls : List (List Nat)} {Z : Zm} {nss : List (Addr × Vars)} {pre post : List (Addr × Obj)} {g : Array GenState} {Q : Value → JC → Prop}
    (hu : A.units + 2 < cLine) (hroom : A.depth < recursionLimit) (K : CodeK p.w.params cd T) (hT3 : 3 ≠ T) (hT4 : 4 ≠ T) (L : LamTab Z lp (env.qual ++ "<lambda>") ps)
    (he : ∀ {Q' : Value → JC → Prop}, Q' (.ref l) (JC.mk Z nss (pre ++ (T, tabObj ps) :: post) g) → jwp p A (eval e env) Q' E (JC.mk Z nss (pre ++ (T, tabObj ps) :: post) g))
    (hl : (JC.mk Z nss (pre ++ (T, tabObj ps) :: post) g).Has l (LO xs n)) (hxs : All2 (KeyedAt Z) pls xs.toList) (h1 : 1 ≤ pls.length) (h4 : pls.length ≤ 4) (hnd : pls.Nodup)
    (h : ∀ Z' ps' D q k', Z.le Z' → LamTab Z' lp (env.qual ++ "<lambda>") ps' → Sorted pls q → Q (.ref D) (JC.mk Z' nss ((D, LO (q.map fun i => xs.toList.getD i .none).toArray k') :: pre ++ (T, tabObj ps') :: post) g))
    (hcd : autoParam (env.code = .ref cd) rt) (hg : autoParam (env.globals = 3) rt) (hb : autoParam (inB env (Str.ofString "sorted") = true) rt)
    (hs : autoParam (starEach [e] env = [(false, eval e env)]) rt) :
    jwp p A (eval (.Call (.Name "sorted" np) [e] [⟨some "key", .Lambda (oneArgs p0) (oneBody p1 p2 p3) oneScope lp, kp⟩] pos) env) Q E (JC.mk Z nss (pre ++ (T, tabObj ps) :: post) g) := by
  refine jwp_up (j_CallName (j_builtin (m_sorted _) (b_sorted _) ?_ hb))
  refine j_callWith (k := .machine) (j_args1kw1 (kw := "key") (e'' := .Lambda (oneArgs p0) (oneBody p1 p2 p3) oneScope lp) (he ?_) hs rfl)
  refine j_Lambda K hT3 hT4 rfl L (fun Z' ps' lf o hz hL F => jwp_pure ?_) hcd hg
  have hxs' : All2 (KeyedAt Z') pls xs.toList := hxs.mono fun V V x => x.mono hz
  refine j_sorted hu hroom F List.mem_cons_self (has_tab hz hl) hxs' h1 h4 hnd fun D q k' hq => ?_
  exact ⟨_, Conv.ow (List.Perm.refl _) ((List.sublist_cons_self _ _).cons_cons _), h Z' ps' D q k' hz hL hq⟩
end
noncomputable def putAll : List Deed → T → Option T
  | [], t => some t
  | (pl, rs) :: r, t => match put t pl rs with
    | some (x :: _) => putAll r x
    | _ => none
noncomputable def byPlace {α : Type} (ds : List (List Nat × α)) (q : List Nat) (d : α) : List (List Nat × α) := q.map fun i => ds.getD i ([], d)
noncomputable def dsizes : List Deed → Nat
  | [] => 0
  | d :: ds => sizes d.2 + dsizes ds
theorem dsizes_e1 : dsizes [] = 0 := rfl
theorem dsizes_e2 : ∀ (d : Deed) (ds : List Deed), dsizes (d :: ds) = sizes (Prod.snd d) + dsizes ds := by intros; rfl
theorem dsizes_perm {a b : List Deed} (h : a.Perm b) : dsizes a = dsizes b := by
  induction h with
  | nil => rfl
  | cons x _ ih => simp only [dsizes_e1, dsizes_e2, ih]
  | swap x y l => simp only [dsizes_e1, dsizes_e2]; omega
  | trans _ _ i1 i2 => exact i1.trans i2
theorem map_getD_range {α : Type} (ds : List α) (d : α) : (List.range ds.length).map (fun i => ds.getD i d) = ds := by
  refine List.ext_getElem (by simp) fun i h1 h2 => ?_
  simp [h2]
theorem byPlace_perm {α : Type} {ds : List (List Nat × α)} {q : List Nat} {d : α} (h : q.Perm (List.range ds.length)) : (byPlace ds q d).Perm ds := by
  have := h.map (fun i => ds.getD i ([], d))
  rw [map_getD_range] at this
  exact this
theorem All2.sel {α : Type} {R : α → Value → Prop} {xs : List α} {vs : List Value} (h : All2 R xs vs) (d : α) : ∀ {q : List Nat}, (∀ i ∈ q, i < xs.length) → All2 R (q.map fun i => xs.getD i d) (q.map fun i => vs.getD i .none)
  | [], _ => .nil
  | i :: q, hq => by
    have hi := hq i List.mem_cons_self
    obtain ⟨v, e, hv⟩ := h.get (List.getElem?_eq_getElem hi)
    refine .cons ?_ (h.sel d fun j hj => hq j (List.mem_cons_of_mem _ hj))
    show R (xs.getD i d) (vs.getD i .none)
    rw [List.getD_eq_getElem?_getD, List.getD_eq_getElem?_getD, e, List.getElem?_eq_getElem hi]
    exact hv
theorem All2.reverse {α : Type} {R : α → Value → Prop} : ∀ {xs : List α} {vs : List Value}, All2 R xs vs → All2 R xs.reverse vs.reverse
  | _, _, .nil => .nil
  | _, _, .cons h t => by rw [List.reverse_cons, List.reverse_cons]; exact t.reverse.append (All2.one h)
theorem All2.mapL {α β : Type} {R : α → Value → Prop} {R' : β → Value → Prop} (f : α → β) (h : ∀ x v, R x v → R' (f x) v) : ∀ {xs : List α} {vs : List Value}, All2 R xs vs → All2 R' (xs.map f) vs
  | _, _, .nil => .nil
  | _, _, .cons x t => .cons (h _ _ x) (t.mapL f h)
theorem DeedAt.keyed {Z : Zm} {d : Deed} {v : Value} (h : DeedAt Z d v) : KeyedAt Z d.1 v := let ⟨a, vp, vr, n, e, z, hp, _⟩ := h; ⟨a, vp, vr, n, e, z, hp⟩
theorem put_ne {t : T} {pl : List Nat} {rs : List T} (h : pl = [] → rs ≠ []) : put t pl rs ≠ some [] := by
  cases pl with
  | nil => simp only [put]; intro e; cases e; exact h rfl rfl
  | cons k r =>
    cases t with
    | leaf s => simp [put]
    | node s ps =>
      simp only [put]
      split
      · simp
      · split <;> simp
noncomputable abbrev lamP841 : Pos := ⟨792, 32, 792, 50⟩
noncomputable abbrev lamQ841 : Str := (callEnv f841 0 841).qual ++ "<lambda>"
set_option maxHeartbeats 4000000 in
theorem law_replaced {p : JP} {A : Around} {Z : Zm} {nss : List (Addr × Vars)} {pre post : List (Addr × Obj)} {g : Array GenState} {E : JC → Prop} {Q : Value → JC → Prop} {t : T} {vt : Value} {l : Addr} {xs ps : Array Value} {m : Nat} {ds : List Deed}
    (hroom : A.depth + 50 < recursionLimit) (hu : A.units + 200 < cLine) (hh : A.handled = none) (ht : Told Z t vt) (hl : (JC.mk Z nss (pre ++ (836, tabObj ps) :: post) g).Has l (LO xs m)) (hds : All2 (DeedAt Z) ds xs.toList)
    (LT : LamTab Z lamP841 lamQ841 ps) (h1 : 1 ≤ ds.length) (h4 : ds.length ≤ 4) (hnd : (ds.map (·.1)).Nodup) (tok : t.Ok) (rok : ∀ d ∈ ds, Oks d.2) (hsz : t.size + dsizes ds ≤ 50000)
    (hne : ∀ d ∈ ds, d.1 = [] → d.2 ≠ []) (hpl : ∀ d ∈ ds, d.1.length ≤ 20 ∧ ∀ n ∈ d.1, n ≤ 100000)
    (h : ∀ Z' ps' q v, Z.le Z' → LamTab Z' lamP841 lamQ841 ps' → Sorted (ds.map (·.1)) q → OptTold Z' (putAll (byPlace ds q []).reverse t) v → Q v (JC.mk Z' nss (pre ++ (836, tabObj ps') :: post) g)) :
    jwp p A (call (.ref 841) [vt, .ref l]) Q E (JC.mk Z nss (pre ++ (836, tabObj ps) :: post) g) := by
  have hxl := hds.length
  rw [Array.length_toList] at hxl
  refine jwp_turn (j_call (jcode_fn (F841 p.w.params) (by omega) (binds := [(Str.ofString "node", vt), (Str.ofString "deeds", .ref l)]) rfl fun L => ?_))
  refine j_cons (j_Assign (j_List1 (j_local (l := _) List.mem_cons_self rfl fun r0 => j_store0 ?_)))
  refine jwp_turn0 (Turn.freeze0 fun Z₁ le₁ h₁ => Turn.done ?_)
  have hds₁ : All2 (DeedAt Z₁) ds xs.toList := hds.mono fun V V x => x.mono le₁
  refine j_cons (j_Assign (j_SortedKey (pls := ds.map (·.1)) (l := l) (xs := xs) (n := m) (by show A.units + 3 + 2 < _; omega) (by show A.depth + 1 < _; omega) (codeK840 _) (by decide) (by decide) (LT.mono le₁) (fun q => j_local (l := _) List.mem_cons_self rfl q) ?_ (hds₁.mapL (·.1) fun V V x => x.keyed) (by simpa using h1) (by simpa using h4) hnd fun Z₂ ps₂ D q k' le₂ LT₂ hq => ?_))
  · exact hl.imp (fun x => le₁ _ _ x) fun x => x
  have hqn : ∀ i ∈ q, i < ds.length := fun i hi => by
    have := hq.1.mem_iff.mp hi
    simpa using this
  have hql : q.length = ds.length := by
    have := hq.1.length_eq
    simpa using this
  obtain ⟨out, eout⟩ : ∃ out, out = (q.map fun i => xs.toList.getD i .none).toArray := ⟨_, rfl⟩
  obtain ⟨sd, esd⟩ : ∃ sd, sd = byPlace ds q [] := ⟨_, rfl⟩
  have hsd : All2 (DeedAt Z₂) sd out.toList := by
    rw [esd, eout]
    exact (hds₁.mono fun V V x => x.mono le₂).sel _ hqn
  have hperm : sd.Perm ds := by
    rw [esd]
    exact byPlace_perm (by simpa using hq.1)
  have hsl : sd.length = ds.length := hperm.length_eq
  have hol : out.size = ds.length := by rw [← hsl, ← hsd.length, Array.length_toList]
  rw [← eout]
  replace h := fun Z' ps' v a b => h Z' ps' q v a b hq
  rw [← esd] at h
  refine j_store0 ?_
  have hrd : dsizes sd.reverse = dsizes ds := dsizes_perm ((List.reverse_perm _).trans hperm)
  refine j_cons (j_For (E' := fun V => False) (iter_range out.size) (fun k c₁ => ∀ X : Prop, (∀ Z₃ vr t₁ rest, c₁ = ⟨Z₃, (L, [(Str.ofString "ordered", .ref D), (Str.ofString "rows", vr), (Str.ofString "deeds", .ref l), (Str.ofString "node", vt)]) :: nss, (D, LO out k') :: pre ++ (836, tabObj ps₂) :: post, g⟩ → Z₂.le Z₃ → RowsAt Z₃ (t₁ :: rest) vr → t₁.Ok → t₁.size + dsizes (sd.reverse.drop k) ≤ 50000 → putAll (sd.reverse.drop k) t₁ = putAll sd.reverse t → X) → X) hh NotRaised.never go_name ?_ (by intros; trivial) ?_ ?_)
  · refine j_B1 (m_range _) (b_range _) (j_B1 (m_len _) (b_len _) ?_)
    refine j_local (l := _) List.mem_cons_self rfl (j_lenList (has_own List.mem_cons_self) (by omega) fun t4 => j_range fun r a b d => j_iterRange (by omega) (has_own List.mem_cons_self) fun it o ho => ?_)
    refine ⟨it, o, ⟨Z₂, (L, [(Str.ofString "ordered", .ref D), (Str.ofString "rows", .ref r0), (Str.ofString "deeds", .ref l), (Str.ofString "node", vt)]) :: nss, (D, LO out k') :: pre ++ (836, tabObj ps₂) :: post, g⟩, rfl, ho, Conv.both ⟨rfl, rfl, rfl, rfl, trivial⟩ (List.Perm.refl _) ((List.sublist_cons_self _ _).cons_cons _), fun V kK => kK Z₂ (.ref r0) t ([]) rfl (fun V V e => e) ?_ tok ?_ ?_⟩
    · exact ⟨r0, _, _, rfl, le₂ _ _ h₁, ToldAll.one (ht.mono (le₁.trans le₂))⟩
    · rw [List.drop_zero, hrd]; exact hsz
    · rw [List.drop_zero]
  · intro i v c₁ it o hi hX6 ho hX8
    obtain ⟨tv, rfl⟩ := hX6
    refine hX8 _ fun Z₃ vr t₁ rest eS le₃ hR tok₁ hs₁ hp₁ => ?_
    clear hX8
    subst eS
    have hi' : i < sd.reverse.length := by rw [List.length_reverse]; omega
    obtain ⟨d, hd⟩ : ∃ d, sd.reverse[i]? = some d := ⟨_, List.getElem?_eq_getElem hi'⟩
    have hdrop : sd.reverse.drop i = d :: sd.reverse.drop (i + 1) := by
      rw [List.drop_eq_getElem_cons hi', (List.getElem?_eq_some_iff.mp hd).2]
    have hdm : d ∈ ds := hperm.mem_iff.mp (List.mem_reverse.mp (List.mem_of_getElem? hd))
    obtain ⟨vd, hvd, ad, vp, vr₂, nd, rfl, hzd, hpd, hrd₂⟩ := hsd.reverse.get hd
    have hvd' : out[out.size - 1 - i]? = some (.ref ad) := by
      rw [List.getElem?_reverse (by rw [Array.length_toList]; omega), Array.length_toList, Array.getElem?_toList] at hvd
      exact hvd
    obtain ⟨ar, xr, mr, rfl, hzr, htr⟩ := hR
    refine j_assignName (j_store0 (j_cons (j_AssignTup (j_Subscript (j_local (l := _) (List.mem_cons_self) rfl ?_)))))
    refine j_BinOp (j_BinOp (j_B1 (m_len _) (b_len _) ?_))
    refine j_local (l := _) List.mem_cons_self rfl (j_lenList (has_own (List.mem_cons_of_mem _ List.mem_cons_self)) (by omega) fun t5 => j_cInt fun t6 => j_sub fun t7 => j_local (l := _) List.mem_cons_self rfl (j_sub fun t8 => ?_))
    refine j_getitemInPythonList (has_own (List.mem_cons_of_mem _ List.mem_cons_self)) (j_subPlain (j_listItem (v := .ref ad) (has_own (List.mem_cons_of_mem _ List.mem_cons_self)) (by omega) (by omega) ?_ ?_))
    · rw [show ((out.size : Int) - 1 - (i : Int)).toNat = out.size - 1 - i by omega]; exact hvd'
    have hzd₃ := le₃ _ _ hzd
    refine j_assignTup2 hh (has_z hzd₃) (j_store0 (j_store0 ?_))
    refine j_cons (j_Assign (j_F3 (fd := f834) (g_law_put _) rfl rfl ?_))
    obtain ⟨w, hw, htw⟩ := htr.getT (i := 0) (t := t₁) rfl
    rw [Array.getElem?_toList] at hw
    refine j_atL (v := w) List.mem_cons_self rfl (has_z hzr) hw ?_
    refine j_local (l := _) List.mem_cons_self rfl (j_local (l := _) List.mem_cons_self rfl ?_)
    rw [hdrop] at hs₁ hp₁
    simp only [dsizes_e1, dsizes_e2] at hs₁
    have hdl := hpl d hdm
    refine law_put d.1 (t := t₁) (rows := d.2) (by show A.depth + 1 + _ + 3 < _; omega) (by show A.units + 3 + 3 * _ + 80 < _; omega) hh htw (hpd.mono le₃) (hrd₂.mono le₃) tok₁ (rok d hdm) (by omega) hdl.2 (by omega) fun Z₄ v₄ le₄ hv₄ => ?_
    refine j_store0 (j_cons (j_If (j_isTrueCompare1 (j_local (l := _) List.mem_cons_self rfl (j_cNone ?_)))))
    have hput : putAll sd.reverse t = match put t₁ d.1 d.2 with | some (x :: _) => putAll (sd.reverse.drop (i + 1)) x | _ => none := by
      rw [← hp₁]; obtain ⟨pl, rs⟩ := d; rfl
    have hdm2 := hdm
    cases hpi : put t₁ d.1 d.2 with
    | none =>
      rw [hpi] at hv₄ hput
      obtain rfl : v₄ = .none := hv₄
      refine j_is rfl (j_truthyBool ?_)
      refine ifB (show (Value.none == Value.none) = true from rfl) ?_
      refine j_cons (j_Return (j_cNone ⟨_, Conv.ow (List.Perm.refl _) ((List.sublist_cons_self _ _).trans (List.sublist_cons_self _ _)), bodyQ_ret rfl (Turn.done (h Z₄ ps₂ .none ?_ (LT₂.mono (le₃.trans le₄)) ?_))⟩))
      · exact ((le₁.trans le₂).trans le₃).trans le₄
      · rw [hput]; rfl
    | some rows =>
      rw [hpi] at hv₄ hput
      obtain ⟨a₄, x₄, m₄, rfl, hz₄, ht₄⟩ := hv₄
      refine j_is rfl (j_truthyBool ?_)
      rw [show ((Value.ref a₄ == Value.none) = false) from rfl]
      refine ifF ?_
      have hrow : ∃ t₂ r₂, rows = t₂ :: r₂ := by
        cases rows with
        | nil => exact absurd hpi (put_ne (hne d hdm))
        | cons x y => exact ⟨x, y, rfl⟩
      obtain ⟨t₂, r₂, rfl⟩ := hrow
      refine j_nil (j_nil ⟨⟨Z₄, (L, [(Str.ofString "ordered", .ref D), (Str.ofString "rows", .ref a₄), (Str.ofString "deeds", .ref l), (Str.ofString "node", vt)]) :: nss, (D, LO out k') :: pre ++ (836, tabObj ps₂) :: post, g⟩, Conv.know ⟨rfl, rfl, rfl, rfl, trivial⟩, fun V kK => kK Z₄ (.ref a₄) t₂ r₂ rfl (le₃.trans le₄) ⟨a₄, x₄, m₄, rfl, hz₄, ht₄⟩ ?_ ?_ ?_⟩)
      · exact (put_ok d.1 t₁ d.2 _ tok₁ (rok d hdm) hpi).1
      · have := put_size d.1 t₁ d.2 _ hpi
        simp only [sizes_e1, sizes_e2] at this
        omega
      · rw [hput]
  · intro c₁ hX
    refine hX _ fun Z₃ vr t₁ rest eS le₃ hR tok₁ hs₁ hp₁ => ?_
    clear hX
    subst eS
    obtain ⟨ar, xr, mr, rfl, hzr, htr⟩ := hR
    obtain ⟨w, hw, htw⟩ := htr.getT (i := 0) (t := t₁) rfl
    rw [Array.getElem?_toList] at hw
    refine j_nil (j_cons (j_Return (j_atL (v := w) List.mem_cons_self rfl (has_z hzr) hw ?_)))
    refine bodyQ_ret rfl (Turn.drop0 (Turn.done (h Z₃ ps₂ w ((le₁.trans le₂).trans le₃) (LT₂.mono le₃) ?_)))
    rw [List.drop_of_length_le (by rw [List.length_reverse]; omega)] at hp₁
    rw [← hp₁]
    exact htw
section
variable {p : JP} {A : Around} {c : JC} {E : JC → Prop} {env : Env}
theorem jcode_fnCE {a cq : Addr} {fd : FuncData} {body : List Stmt} {vals : List Value} {binds : List (Str × Value)} {Q : Value → JC → Prop} (l : Vars) (F : FnAt p.w.params a cq fd body) (hroom : A.depth < recursionLimit) (FI : FramesIn A (c.nss.map (·.1)))
    (hbind : bindArgs fd ⟨vals, []⟩ = pure binds)
    (hl : ∀ L, ∀ x v, l.lookup x = some v → bindL (callEnvC fd L a).kindOf binds (fun V => none) x = some v)
    (h : ∀ L cells, FramesIn (A.deeper (callEnvC fd L a)) (L :: c.nss.map (·.1)) → TopIs (A.deeper (callEnvC fd L a)) (callEnvC fd L a) L → CellsOwn (bindC (callEnvC fd L a).kindOf binds fun V => none) (callEnvC fd L a).cells cells →
      jwp p (A.deeper (callEnvC fd L a)) (execs body (callEnvC fd L a)) (fun fl c' => BodyQ L c.nss Q fl c') (BodyE L c.nss E) { c with nss := (L, l) :: c.nss, own := cells ++ c.own })
    (hkind' : ∀ n, ((binds.map (·.1)).all fun x => match fd.scope.names.lookup x with | some .local => true | some .cell => ((cellsFrom n fd.scope.names []).lookup x).isSome | _ => false) = true)
    (hnd : ((cellsFrom 0 fd.scope.names []).map (·.1)).Nodup := by decide) (hclo : autoParam (fd.closure = []) rt)
    (hco : autoParam (fd.scope.isCoroutine = false) rt) (hgen : autoParam (fd.scope.isGenerator = false) rt) (hk : autoParam (fd.scope.kind = .function) rt) : jcode p A (.call (.ref a) ⟨vals, []⟩) (RetQ Q) E c := .of fun s H => by
  obtain ⟨o, ho, hd⟩ := F.o
  obtain ⟨ca, co, vs, t, e1, e2, e3, e4⟩ := F.code
  have HK := H.inK
  have hkind : ∀ x ∈ binds, fd.scope.names.lookup x.1 = some .local ∨ (fd.scope.names.lookup x.1 = some .cell ∧ ((cellsFrom (s.heap.objs.size + 1) fd.scope.names []).lookup x.1).isSome = true) := fun x hx => by
    have := List.all_eq_true.mp (hkind' (s.heap.objs.size + 1)) x.1 (List.mem_map_of_mem hx)
    revert this
    cases fd.scope.names.lookup x.1 with
    | none => intro h; cases h
    | some k => cases k <;> intro h <;> first | exact .inl rfl | exact .inr ⟨rfl, h⟩ | cases h
  refine codeAny_call_cells hroom (HK _ _ ho) hd H.noLimit ⟨ca, co, vs, t, e1, HK _ _ e2, e3, e4⟩ F.body hbind hclo hkind (fun s₁ x => ?_) hco hgen hk
  obtain ⟨h₁, tk, rfl, hkeep⟩ := x.done
  obtain ⟨cells, k1, k2, k3, k4⟩ := cellsOwn_of (lo := s.heap.objs.size) (fun q hq => ⟨x.cell q.1 q.2 (lookup_of_mem_nodup (cellsFrom_names fd.scope.names 0 (s.heap.objs.size + 1) [] [] rfl ▸ hnd) hq), x.above q.1 q.2 hq⟩) x.apart
  have H' := H.frameC (l := l) x.toInCall.ns hkeep (hl _) k3 k4 tk
  have FI' := FI.deeper (env := callEnvC fd s.heap.objs.size a) (L := s.heap.objs.size) rfl hk
  have hT0 : TopIs (A.deeper (callEnvC fd s.heap.objs.size a)) (callEnvC fd s.heap.objs.size a) s.heap.objs.size := let ⟨o, h1, _⟩ := FI; ⟨rfl, _, o, Around.frames_deeper h1, rfl⟩
  refine wpAny_mono ((h s.heap.objs.size cells FI' hT0 k1).run _ H') (fun fl s' z2 => z2.elim fun c' y20 => y20.elim fun H' q => ?_) fun e s' z2 => z2.elim fun c' y20 => y20.elim fun f y21 => y21.elim fun hf y22 => y22.elim fun he y23 => y23.elim fun H' q => ?_
  · have := q.go H'
    rcases this with ⟨c, h1, h2⟩
    cases fl <;> exact ⟨c, h1, h2⟩
  · subst he
    obtain ⟨l', e1, q⟩ := q
    have FI2 : FramesIn (A.deeper (callEnvC fd s.heap.objs.size a)) (c'.nss.map (·.1)) := by rw [e1]; exact FI'
    refine wpAny_mono ((flies_leaving FI2 hT0 hf).run s' H') (fun _ s'' ⟨c₂, H₂, f', hf', hx, _, hc⟩ => ?_) fun e s'' z2 => z2.elim fun V y20 => y20.elim fun V y21 => y21.elim fun V y22 => y22.elim fun V y23 => y23.elim fun V q => q.elim
    have hs : List.Sublist c.nss c'.nss := e1 ▸ List.sublist_cons_self _ _
    exact ⟨{ c' with nss := c.nss }, f', hf', by rw [hx], (hc s'' H₂).drop hs (List.Sublist.refl _), q⟩
end
noncomputable def sliceOf {α : Type} (xs : List α) (a b : Nat) : List α := (xs.drop a).take (b - a)
section
variable {p : JP} {A : Around} {c : JC} {E : JC → Prop} {env : Env} {l sl : Addr} {items : Array Value} {n : Nat} {u : Tok}
theorem NotRaised.body {L : Addr} {nss : List (Addr × Vars)} (F : FramesIn A (L :: nss.map (·.1))) (hT : TopIs A env L) : NotRaised p A env (BodyE L nss E) (BodyE L nss E) :=
  ⟨L, fun c z1 => z1.elim fun l y10 => y10.elim fun e q => ⟨⟨l, e, q⟩, by rw [e]; exact F, hT⟩⟩
theorem go_tupList {elts : List Expr} {k : Nat} {pos : Pos} (hr : ∀ (i : Nat) v, items[i]? = some v → ∃ a, v = .ref a) : GoOK p A (.Tuple elts k pos) (fun i v => items[i]? = some v) (isListIt l) E :=
  fun i v c₁ it o Q hv ho hm h => .of fun s H => by
    obtain ⟨a, rfl⟩ := hr i v hv
    exact wpAny_letOwnedTupleGo_listiter (l := l) (i := i + 1) ⟨o, H.own _ hm, ho⟩ ⟨c₁, H, h⟩
theorem slicePick_clip (items : Array Value) (a b : Nat) (ha : a ≤ items.size) (hab : a ≤ b) : slicePick items (some a) (some b) none = (sliceOf items.toList a b).toArray := by
  rw [slicePick_plain]
  simp only [Option.elim, clipAt_nat, sliceOf]
  congr 1
  rcases Nat.le_total b items.size with h | h
  · rw [Nat.min_eq_left h, Nat.min_eq_left ha]
  · rw [Nat.min_eq_right h, Nat.min_eq_left ha, List.take_of_length_le (by simp), List.take_of_length_le (by simp; omega)]
theorem j_listSlice {a b : Nat} {u' : Tok} {Q : Value → JC → Prop} (ho : c.Has l (LO items n)) (hs : c.Has sl (SO (.int a u) (.int b u'))) (ha : a ≤ items.size) (hab : a ≤ b) (hsz : items.size ≤ sizeLine) (h : ∀ r, Q (.ref r) (c.psh r (LO (sliceOf items.toList a b).toArray 0))) :
    jwp p A (getItem (.ref l) (.ref sl)) Q E c := .of fun s H =>
  wpAny_getItem_list_slice (has_list ho H).isList ⟨_, hs.get H, rfl, rfl⟩ (.int _ _) (.int _ _) .none (by intro e; cases e) (by rw [slicePick_clip items a b ha hab]; exact ⟨_, H.push _ rfl s.toks, h _⟩) hsz
theorem j_truthyList {Q : Bool → JC → Prop} (ho : c.Has l (LO items n)) (hsz : items.size ≤ 1000000) (h : Q (!items.isEmpty) c) : jwp p A (truthy (.ref l)) Q E c := .of fun s H =>
  wpAny_truthy_list (has_list ho H).isList (by omega) ⟨c, H.toks _, h⟩
theorem j_listLast {v : Value} {t : Tok} {Q : Value → JC → Prop} (ho : c.Has l (LO items n)) (h0 : 0 < items.size) (hx : items[items.size - 1]? = some v) (h : Q v c) : jwp p A (getItem (.ref l) (.int (-1) t)) Q E c := .of fun s H =>
  wpAny_getItem_list_neg (has_list ho H).isList (by decide) (by omega) (by decide) (by rw [show (-1 + (items.size : Int)).toNat = items.size - 1 by omega]; exact hx) ⟨c, H, h⟩
theorem j_USub {x : Expr} {pos : Pos} {i : Int} {Q : Value → JC → Prop} (h : jwp p A (eval x env) (fun v c₁ => ∃ t, v = .int i t ∧ ∀ t', Q (.int (-i) t') c₁) E c) : jwp p A (eval (.UnaryOp .USub x pos) env) Q E c := .of fun s H => by
  refine wpAny_UnaryOp (wpAny_mono (h.run s H) (fun v s₁ z2 => z2.elim fun c₁ y20 => y20.elim fun H₁ y21 => y21.elim fun t y22 => y22.elim fun e q => ?_) fun V V x => x)
  subst e
  exact PyProof.Rows.neg_int ⟨c₁, H₁.toks _, q _⟩
theorem j_rIsSeq3 {kd : Str → Addr} {r : Repl} {v : Value} {tp : Addr} {n : Nat} {Q : Value → JC → Prop} (h : RAt p.w.params kd c.Z r v) (htp : c.Has tp (TO #[.type "list", .type "tuple", .ref 135] n)) (q : Q (.bool r.isMany) c) :
    jwp p A (call (.builtin "isinstance") [v, .ref tp]) Q E c := by
  cases r with
  | many ts =>
    obtain ⟨l, xs, m, rfl, hz, _⟩ := h
    exact j_kitTup (its := [.type "list", .type "tuple", .ref 135]) kitx_list (fun s H => ⟨_, H.z _ _ hz, rfl⟩) htp (ki_list_ltm _) (fun e => by cases e) q
  | one t =>
    cases t with
    | leaf s =>
      obtain ⟨x, dx, t, u, ts, n, rfl, hx, hd⟩ := eat_leaf (show EAt p.w.params kd c.Z (.leaf s) v from h)
      have I : Inst c x 637 dx _ _ := ⟨.inl hx, .inl hd⟩
      exact j_kitTup (its := [.type "list", .type "tuple", .ref 135]) (kitx_own (ox := instObj 637 dx) (od := dictOf _ n) (cp637 _) (ck637 _).1 (ck637 _).2.1 (ckd _).1 (ckd _).2 (ck637 _).2.2) (fun s H => I.at H) htp (ki637_ltm _) (fun e => by cases e) q
    | node s ps =>
      obtain ⟨x, dx, d, l, xs, m, n, rfl, hx, hd, _⟩ := eat_node (show EAt p.w.params kd c.Z (.node s ps) v from h)
      have I : Inst c x 561 dx _ _ := ⟨.inl hx, .inl hd⟩
      exact j_kitTup (its := [.type "list", .type "tuple", .ref 135]) (kitx_own (ox := instObj 561 dx) (od := dictOf _ n) (cp561 _) (ck561 _).1 (ck561 _).2.1 (ckd _).1 (ckd _).2 (ck561 _).2.2) (fun s H => I.at H) htp (ki561_ltm _) (fun e => by cases e) q
theorem j_Tuple3 {e e' e'' : Expr} {k : Nat} {pos : Pos} {Q : Value → JC → Prop}
    (h : jwp p A (eval e env) (fun v c₁ => jwp p A (eval e' env) (fun v' c₂ => jwp p A (eval e'' env) (fun v'' c₃ => ∀ a, Q (.ref a) (c₃.psh a (TO #[v, v', v''] 0))) E c₂) E c₁) E c)
    (hs : autoParam (starEach [e, e', e''] env = [(false, eval e env), (false, eval e' env), (false, eval e'' env)]) rt) : jwp p A (eval (.Tuple [e, e', e''] k pos) env) Q E c := by
  refine j_Tuple ?_
  rw [hs]
  exact j_splicedCons (h.mono (fun v V q => j_splicedCons (q.mono (fun v' V q => j_splicedCons (q.mono (fun v'' V q => j_splicedNil ⟨by show 3 ≤ sizeLine; unfold sizeLine; omega, q⟩) fun V V x => x)) fun V V x => x)) fun V V x => x)
end
noncomputable abbrev RDeed := List Nat × Repl
inductive RDeedAt (P : Params) (kd : Str → Addr) (Z : Zm) (d : RDeed) (v : Value) : Prop
  | mk : ∀ a vp vr n, v = .ref a → Z a = some (TO #[vp, vr] n) → PlaceAt Z d.1 vp → RAt P kd Z d.2 vr → RDeedAt P kd Z d v
theorem RDeedAt.mono {P : Params} {kd : Str → Addr} {Z Z' : Zm} (h : Z.le Z') {d : RDeed} {v : Value} (x : RDeedAt P kd Z d v) : RDeedAt P kd Z' d v :=
  let ⟨a, vp, vr, n, e, z, hp, hr⟩ := x; ⟨a, vp, vr, n, e, h _ _ z, hp.mono h, hr.mono h⟩
theorem RDeedAt.keyed {P : Params} {kd : Str → Addr} {Z : Zm} {d : RDeed} {v : Value} (h : RDeedAt P kd Z d v) : KeyedAt Z d.1 v := let ⟨a, vp, vr, n, e, z, hp, _⟩ := h; ⟨a, vp, vr, n, e, z, hp⟩
noncomputable def rsizes : List RDeed → Nat
  | [] => 0
  | d :: ds => sizes d.2.rows + rsizes ds
theorem rsizes_e1 : rsizes [] = 0 := rfl
theorem rsizes_e2 : ∀ (d : RDeed) (ds : List RDeed), rsizes (d :: ds) = sizes (Repl.rows (Prod.snd d)) + rsizes ds := by intros; rfl
theorem rsizes_perm {a b : List RDeed} (h : a.Perm b) : rsizes a = rsizes b := by
  induction h with
  | nil => rfl
  | cons x _ ih => simp only [rsizes_e1, rsizes_e2, ih]
  | swap x y l => simp only [rsizes_e1, rsizes_e2]; omega
  | trans _ _ i1 i2 => exact i1.trans i2
noncomputable def addHead (acc : List Nat) (d : RDeed) : List Nat := match d.1 with
  | [] => acc
  | k :: _ => if acc.getLast? = some k then acc else acc ++ [k]
noncomputable def headsOf (sds : List RDeed) : List Nat := sds.foldl addHead []
noncomputable def groupOne (k : Nat) (d : RDeed) : Option RDeed := match d.1 with
  | k' :: r => if k' = k then some (r, d.2) else none
  | [] => none
noncomputable def groupOf (sds : List RDeed) (k : Nat) : List RDeed := sds.filterMap (groupOne k)
noncomputable def goOf (rec : T → List RDeed → Option Repl) (ps : List T) (sds : List RDeed) : Nat → List T → List Nat → Option (List T)
  | last, acc, [] => some (acc ++ ps.drop last)
  | last, acc, k :: ks => match ps[k]? with
    | none => none
    | some q => match rec q (groupOf sds k) with
      | none => none
      | some r => goOf rec ps sds (k + 1) (acc ++ sliceOf ps last k ++ r.rows) ks
noncomputable def manyOf : Nat → T → List RDeed → Option Repl
  | _, t, [] => some (.one t)
  | _, t, [d] => repOf t d.1 d.2
  | 0, _, _ :: _ :: _ => none
  | n + 1, t, d :: e :: r => match d.1, t with
    | [], _ => none
    | _ :: _, .leaf _ => none
    | _ :: _, .node s ps => (goOf (manyOf n) ps (d :: e :: r) 0 [] (headsOf (d :: e :: r))).map fun ts => .one (opened s ts)
theorem ltL_asymm {x y : List Nat} (h : ltL x y = true) (h' : ltL y x = true) : False := by
  have := ltL_trans x y x h h'
  rw [ltL_irr] at this
  cases this
noncomputable abbrev SortedD {α : Type} (ds : List (List Nat × α)) : Prop := ds.Pairwise fun d e => ltL d.1 e.1 = true
theorem sorted_uniq {α : Type} : ∀ {a b : List (List Nat × α)}, a.Perm b → SortedD a → SortedD b → a = b
  | [], b, hp, _, _ => (List.Perm.nil_eq hp)
  | x :: a, [], hp, _, _ => absurd hp.length_eq (by simp)
  | x :: a, y :: b, hp, ha, hb => by
    rcases List.pairwise_cons.mp ha with ⟨ha1, ha2⟩
    rcases List.pairwise_cons.mp hb with ⟨hb1, hb2⟩
    have hx : x ∈ y :: b := hp.mem_iff.mp List.mem_cons_self
    have hy : y ∈ x :: a := hp.mem_iff.mpr List.mem_cons_self
    have e : x = y := by
      rcases List.mem_cons.mp hx with e | hx
      · exact e
      · rcases List.mem_cons.mp hy with e | hy
        · exact e.symm
        · exact (ltL_asymm (ha1 y hy) (hb1 x hx)).elim
    subst e
    rw [sorted_uniq (List.Perm.cons_inv hp) ha2 hb2]
theorem byPlace_sorted {α : Type} {ds : List (List Nat × α)} {q : List Nat} {d : α} (h : Sorted (ds.map (·.1)) q) : SortedD (byPlace ds q d) := by
  unfold SortedD byPlace
  rw [List.pairwise_map]
  refine h.2.imp fun {i j} x => ?_
  have e : ∀ i, (ds.map (·.1)).getD i [] = (ds.getD i ([], d)).1 := fun i => by
    rw [List.getD_eq_getElem?_getD, List.getD_eq_getElem?_getD, List.getElem?_map]
    cases ds[i]? <;> rfl
  rw [e, e] at x
  exact x
theorem ltL_ne {x y : List Nat} (h : ltL x y = true) : y ≠ [] := by rintro rfl; cases x <;> simp [ltL_e1, ltL_e2, ltL_e3] at h
theorem ltL_head {a b : Nat} {x y : List Nat} (h : ltL (a :: x) (b :: y) = true) : a ≤ b := by
  simp only [ltL_e1, ltL_e2, ltL_e3] at h
  split at h
  · omega
  · have := of_decide_eq_true h; omega
theorem ltL_tail {a : Nat} {x y : List Nat} (h : ltL (a :: x) (a :: y) = true) : ltL x y = true := by
  simpa [ltL_e1, ltL_e2, ltL_e3] using h
theorem group_mem {k : Nat} {sds : List RDeed} {e : RDeed} (h : e ∈ groupOf sds k) : ∃ d ∈ sds, d.1 = k :: e.1 ∧ d.2 = e.2 := by
  obtain ⟨d, hd, e1⟩ := List.mem_filterMap.mp h
  obtain ⟨pl, r⟩ := d
  cases pl with
  | nil => simp [groupOne] at e1
  | cons k' pl =>
    simp only [groupOne] at e1
    split at e1
    · rename_i q; cases e1; subst q; exact ⟨_, hd, rfl, rfl⟩
    · cases e1
theorem group_of {k : Nat} {sds : List RDeed} {d : RDeed} {r : List Nat} (h : d ∈ sds) (e : d.1 = k :: r) : (r, d.2) ∈ groupOf sds k := by
  refine List.mem_filterMap.mpr ⟨d, h, ?_⟩
  simp only [groupOne, e, if_true]
theorem group_sorted {sds : List RDeed} (k : Nat) (h : SortedD sds) : SortedD (groupOf sds k) := by
  unfold groupOf
  refine List.Pairwise.filterMap _ (fun d e x d' hd e' he => ?_) h
  obtain ⟨pd, rd⟩ := d
  obtain ⟨pe, re⟩ := e
  cases pd with
  | nil => simp [groupOne] at hd
  | cons a pd =>
    cases pe with
    | nil => simp [groupOne] at he
    | cons b pe =>
      simp only [groupOne] at hd he
      split at hd
      · split at he
        · rename_i q1 q2
          cases hd; cases he; subst q1 q2
          exact ltL_tail x
        · cases he
      · cases hd
theorem sorted_nodup {α : Type} {ds : List (List Nat × α)} (h : SortedD ds) : (ds.map (·.1)).Nodup := by
  unfold List.Nodup
  rw [List.pairwise_map]
  exact h.imp fun {d e} x q => by rw [q, ltL_irr] at x; cases x
theorem group_len (sds : List RDeed) (k : Nat) : (groupOf sds k).length ≤ sds.length := List.length_filterMap_le _ _
theorem group_append (a b : List RDeed) (k : Nat) : groupOf (a ++ b) k = groupOf a k ++ groupOf b k := List.filterMap_append
theorem heads_go : ∀ (sds : List RDeed) (acc : List Nat), SortedD sds → (∀ d ∈ sds, d.1 ≠ []) → acc.Pairwise (· < ·) → (∀ a ∈ acc, ∀ d ∈ sds, ∀ k r, d.1 = k :: r → a ≤ k) →
    (sds.foldl addHead acc).Pairwise (· < ·) ∧ ∀ k, k ∈ sds.foldl addHead acc ↔ k ∈ acc ∨ ∃ d ∈ sds, ∃ r, d.1 = k :: r
  | [], acc, _, _, hp, _ => ⟨hp, fun k => by simp⟩
  | d :: sds, acc, hs, hne, hp, hle => by
    rcases List.pairwise_cons.mp hs with ⟨h1, h2⟩
    rcases d with ⟨pl, r⟩
    cases pl with
    | nil => exact absurd rfl (hne _ List.mem_cons_self)
    | cons k pl =>
      rw [List.foldl_cons]
      have hstep : addHead acc (k :: pl, r) = if acc.getLast? = some k then acc else acc ++ [k] := rfl
      have hle' : ∀ a ∈ acc, a ≤ k := fun a ha => hle a ha _ List.mem_cons_self k pl rfl
      have next : ∀ d ∈ sds, ∀ k' r', d.1 = k' :: r' → k ≤ k' := fun d hd k' r' e => by
        have := h1 d hd
        rw [e] at this
        exact ltL_head this
      rw [hstep]
      split
      · rename_i hl
        have hk : k ∈ acc := List.mem_of_getLast? hl
        obtain ⟨g1, g2⟩ := heads_go sds acc h2 (fun d hd => hne d (List.mem_cons_of_mem _ hd)) hp fun a ha d hd => hle a ha d (List.mem_cons_of_mem _ hd)
        refine ⟨g1, fun k' => ?_⟩
        rw [g2 k']
        constructor
        · rintro (h | ⟨d, hd, r', e⟩)
          · exact .inl h
          · exact .inr ⟨d, List.mem_cons_of_mem _ hd, r', e⟩
        · rintro (h | ⟨d, hd, r', e⟩)
          · exact .inl h
          · rcases List.mem_cons.mp hd with rfl | hd
            · cases e; exact .inl hk
            · exact .inr ⟨d, hd, r', e⟩
      · rename_i hl
        have hlt : ∀ a ∈ acc, a < k := fun a ha => by
          refine Nat.lt_of_le_of_ne (hle' a ha) ?_
          rintro rfl
          obtain ⟨b, hb⟩ : ∃ b, acc.getLast? = some b := by
            cases q : acc.getLast? with
            | none => rw [List.getLast?_eq_none_iff] at q; subst q; cases ha
            | some b => exact ⟨b, rfl⟩
          have hbm := List.mem_of_getLast? hb
          have hba : b ≤ a := hle' b hbm
          have hab : a ≤ b := by
            obtain ⟨l, e⟩ := List.getLast?_eq_some_iff.mp hb
            rw [e] at ha hp
            rcases List.mem_append.mp ha with ha | ha
            · exact Nat.le_of_lt ((List.pairwise_append.mp hp).2.2 a ha b (by trivial))
            · simp at ha; omega
          exact hl (by rw [hb, Nat.le_antisymm hba hab])
        obtain ⟨g1, g2⟩ := heads_go sds (acc ++ [k]) h2 (fun d hd => hne d (List.mem_cons_of_mem _ hd)) (by
          rw [List.pairwise_append]
          exact ⟨hp, List.pairwise_singleton _ _, fun a ha b hb => by simp at hb; subst hb; exact hlt a ha⟩) (fun a ha d hd k' r' e => by
          rcases List.mem_append.mp ha with ha | ha
          · exact hle a ha d (List.mem_cons_of_mem _ hd) k' r' e
          · simp at ha; subst ha; exact next d hd k' r' e)
        refine ⟨g1, fun k' => ?_⟩
        rw [g2 k']
        constructor
        · rintro (h | ⟨d, hd, r', e⟩)
          · rcases List.mem_append.mp h with h | h
            · exact .inl h
            · simp at h; subst h; exact .inr ⟨_, List.mem_cons_self, pl, rfl⟩
          · exact .inr ⟨d, List.mem_cons_of_mem _ hd, r', e⟩
        · rintro (h | ⟨d, hd, r', e⟩)
          · exact .inl (List.mem_append_left _ h)
          · rcases List.mem_cons.mp hd with rfl | hd
            · cases e; exact .inl (List.mem_append_right _ (by trivial))
            · exact .inr ⟨d, hd, r', e⟩
theorem heads_ok {sds : List RDeed} (h : SortedD sds) (hne : ∀ d ∈ sds, d.1 ≠ []) : (headsOf sds).Pairwise (· < ·) ∧ ∀ k, k ∈ headsOf sds ↔ ∃ d ∈ sds, ∃ r, d.1 = k :: r := by
  obtain ⟨g1, g2⟩ := heads_go sds [] h hne .nil (by simp)
  exact ⟨g1, fun k => by rw [show headsOf sds = sds.foldl addHead [] from rfl, g2 k]; simp⟩
theorem heads_len_go : ∀ (sds : List RDeed) (acc : List Nat), (sds.foldl addHead acc).length ≤ acc.length + sds.length
  | [], acc => by simp
  | d :: sds, acc => by
    rw [List.foldl_cons]
    refine Nat.le_trans (heads_len_go sds _) ?_
    have : (addHead acc d).length ≤ acc.length + 1 := by
      unfold addHead
      split
      · omega
      · split
        · omega
        · simp
    simp only [List.length_cons]; omega
theorem heads_len (sds : List RDeed) : (headsOf sds).length ≤ sds.length := by
  have := heads_len_go sds []
  simpa [headsOf] using this
theorem sorted_ne {α : Type} {d : List Nat × α} {sds : List (List Nat × α)} (h : SortedD (d :: sds)) (hd : d.1 ≠ []) : ∀ e ∈ d :: sds, e.1 ≠ [] := fun e he => by
  rcases List.mem_cons.mp he with rfl | he
  · exact hd
  · exact ltL_ne ((List.pairwise_cons.mp h).1 e he)
noncomputable def gsum (sds : List RDeed) : List Nat → Nat
  | [] => 0
  | k :: ks => rsizes (groupOf sds k) + gsum sds ks
theorem gsum_e1 : ∀ (sds : List RDeed), gsum sds [] = 0 := by intros; rfl
theorem gsum_e2 : ∀ (sds : List RDeed) (x_1 : Nat) (xs : List Nat), gsum sds (x_1 :: xs) = rsizes (groupOf sds x_1) + gsum sds xs := by intros; rfl
theorem gsum_nil : ∀ ks : List Nat, gsum [] ks = 0
  | [] => rfl
  | k :: ks => by simp [gsum_e1, gsum_e2, groupOf, rsizes_e1, rsizes_e2, gsum_nil ks]
theorem gsum_le : ∀ (sds : List RDeed) (ks : List Nat), ks.Nodup → gsum sds ks ≤ rsizes sds
  | [], ks, _ => by rw [gsum_nil]; exact Nat.zero_le _
  | d :: sds, ks, hk => by
    have main : ∀ ks : List Nat, ks.Nodup → gsum (d :: sds) ks ≤ gsum sds ks + (if ∃ k ∈ ks, (groupOne k d).isSome then sizes d.2.rows else 0) := by
      intro ks
      induction ks with
      | nil => intro _; simp [gsum_e1, gsum_e2]
      | cons k ks ih =>
        intro hn
        rcases List.nodup_cons.mp hn with ⟨n1, n2⟩
        have h := ih n2
        simp only [gsum_e1, gsum_e2]
        cases q : groupOne k d with
        | none =>
          have e : groupOf (d :: sds) k = groupOf sds k := by simp [groupOf, List.filterMap_cons, q]
          have e2 : (∃ k' ∈ k :: ks, (groupOne k' d).isSome) ↔ ∃ k' ∈ ks, (groupOne k' d).isSome := by
            constructor
            · intro hX
              rcases hX with ⟨k', hk', h'⟩
              rcases List.mem_cons.mp hk' with rfl | hk'
              · rw [q] at h'; cases h'
              · exact ⟨k', hk', h'⟩
            · rintro ⟨k', hk', h'⟩; exact ⟨k', List.mem_cons_of_mem _ hk', h'⟩
          rw [e]
          simp only [e2]
          omega
        | some x =>
          rcases d with ⟨pl, r⟩
          cases pl with
          | nil => simp [groupOne] at q
          | cons k' pl =>
            simp only [groupOne] at q
            split at q
            · rename_i hkk
              subst hkk
              cases q
              have e : groupOf ((k' :: pl, r) :: sds) k' = (pl, r) :: groupOf sds k' := by simp [groupOf, List.filterMap_cons, groupOne]
              have e2 : ¬ ∃ k ∈ ks, (groupOne k (k' :: pl, r)).isSome := by
                intro hX
                rcases hX with ⟨k, hk, h'⟩
                simp only [groupOne] at h'
                split at h'
                · rename_i q; exact n1 (q ▸ hk)
                · cases h'
              rw [if_neg e2] at h
              rw [e, if_pos ⟨k', List.mem_cons_self, by simp [groupOne]⟩]
              simp only [rsizes_e1, rsizes_e2]
              omega
            · cases q
    have h := main ks hk
    have h2 := gsum_le sds ks hk
    simp only [rsizes_e1, rsizes_e2]
    split at h <;> omega
theorem sizes_sliceOf {ps : List T} {a b : Nat} (h : a ≤ b) : sizes (sliceOf ps a b) + sizes (ps.drop b) = sizes (ps.drop a) := by
  have e : ps.drop a = sliceOf ps a b ++ ps.drop b := by
    unfold sliceOf
    conv => lhs; rw [← List.take_append_drop (b - a) (ps.drop a)]
    rw [List.drop_drop, show a + (b - a) = b by omega]
  rw [e, sizes_append]
theorem sizes_drop_cons {ps : List T} {k : Nat} {q : T} (h : ps[k]? = some q) : sizes (ps.drop k) = q.size + sizes (ps.drop (k + 1)) := by
  have hk : k < ps.length := (List.getElem?_eq_some_iff.mp h).1
  rw [List.drop_eq_getElem_cons hk, (List.getElem?_eq_some_iff.mp h).2]
  rfl
theorem go_size {rec : T → List RDeed → Option Repl} {ps : List T} {sds : List RDeed} (hrec : ∀ q k r, q ∈ ps → k ∈ headsOf sds → rec q (groupOf sds k) = some r → sizes r.rows ≤ q.size + rsizes (groupOf sds k)) :
    ∀ (ks : List Nat) (last : Nat) (acc out : List T), (∀ k ∈ ks, k ∈ headsOf sds) → ks.Pairwise (· < ·) → (∀ k ∈ ks, last ≤ k) → goOf rec ps sds last acc ks = some out → sizes out ≤ sizes acc + sizes (ps.drop last) + gsum sds ks
  | [], last, acc, out, _, _, _, h => by
    simp only [goOf, Option.some.injEq] at h
    subst h
    rw [sizes_append]; omega
  | k :: ks, last, acc, out, hm, hp, hl, h => by
    rcases List.pairwise_cons.mp hp with ⟨p1, p2⟩
    simp only [goOf] at h
    cases hq : ps[k]? with
    | none => rw [hq] at h; cases h
    | some q =>
      rw [hq] at h
      dsimp only at h
      cases hr : rec q (groupOf sds k) with
      | none => rw [hr] at h; cases h
      | some r =>
        rw [hr] at h
        have h1 := go_size hrec ks (k + 1) _ out (fun k' hk' => hm k' (List.mem_cons_of_mem _ hk')) p2 (fun k' hk' => p1 k' hk') h
        have h2 := hrec q k r (List.mem_of_getElem? hq) (hm k List.mem_cons_self) hr
        have h3 := sizes_sliceOf (ps := ps) (hl k List.mem_cons_self)
        have h4 := sizes_drop_cons hq
        rw [sizes_append, sizes_append] at h1
        simp only [gsum_e1, gsum_e2]
        omega
set_option tactic.hygienic true in
theorem many_size : ∀ (n : Nat) (t : T) (sds : List RDeed) (r : Repl), SortedD sds → manyOf n t sds = some r → sizes r.rows ≤ t.size + rsizes sds
  | _, t, [], r, _, h => by
    unfold manyOf at h
    cases h
    simp [Repl.rows, sizes_e1, sizes_e2]
  | _, t, [d], r, _, h => by
    unfold manyOf at h
    have := repOf_size d.1 t d.2 r h
    simp only [rsizes_e1, rsizes_e2]; omega
  | 0, t, _ :: _ :: _, r, _, h => by unfold manyOf at h; cases h
  | n + 1, t, d :: e :: rest, r, hs, h => by
    unfold manyOf at h
    split at h
    · cases h
    · cases h
    · rename_i s ps hd
      rw [Option.map_eq_some_iff] at h
      rcases h with ⟨ts, hts, rfl⟩
      have hd1 : d.1 ≠ [] := by rw [hd]; simp
      rcases heads_ok hs (sorted_ne hs hd1) with ⟨h1, h2⟩
      have h3 := go_size (fun q k r hq hk hr => many_size n q _ r (group_sorted k hs) hr) _ 0 [] ts (fun k hk => hk) h1 (fun V V => Nat.zero_le _) hts
      have h4 := gsum_le (d :: e :: rest) _ (h1.imp fun {a b} x => Nat.ne_of_lt x)
      have h5 := sizes_openedParts s ts
      simp only [Repl.rows, sizes_e1, sizes_e2, T_size_e1, T_size_e2, opened, List.drop_zero] at h3 ⊢
      omega
noncomputable abbrev rB (i : Nat) : Stmt := nth (fB (nth mB 20)) i
noncomputable abbrev rE (L : Addr) : Env := callEnvC f784 L 784
theorem lookup_skip {x : Str} {u : Value} {l : Vars} (h : l.lookup x = none) {y : Str} {w : Value} (e : l.lookup y = some w) : ((x, u) :: l).lookup y = some w := by
  rw [List.lookup_cons]
  cases q : y == x with
  | false => exact e
  | true => rw [eq_of_beq q] at e; rw [h] at e; cases e
theorem Conv.skip {p : JP} {Z : Zm} {L : Addr} {x y : Str} {u v : Value} {l : Vars} {nss : List (Addr × Vars)} {own : List (Addr × Obj)} {g : Array GenState} (hy : l.lookup y = none) (hx : ((y, v) :: l).lookup x = none) :
    Conv p ⟨Z, (L, (x, u) :: (y, v) :: l) :: nss, own, g⟩ ⟨Z, (L, l) :: nss, own, g⟩ := fun s H => H.know rfl fun V V e => lookup_skip hx (lookup_skip hy e)
theorem heads_step {sds : List RDeed} {i : Nat} {d : RDeed} {kh : Nat} {rh : List Nat} {pv : Array Value} (hdi : sds[i]? = some d) (ed : d.1 = kh :: rh) (hpv : NatsAt pv.toList (headsOf (sds.take i))) :
    ((headsOf (sds.take i)).getLast? = some kh → NatsAt pv.toList (headsOf (sds.take (i + 1)))) ∧
    ((headsOf (sds.take i)).getLast? ≠ some kh → ∀ tk, NatsAt (pv.push (.int kh tk)).toList (headsOf (sds.take (i + 1)))) := by
  have hstep : headsOf (sds.take (i + 1)) = addHead (headsOf (sds.take i)) d := by
    rw [list_take_succ hdi, headsOf, List.foldl_append]; rfl
  have hpvl := hpv.1
  rw [Array.length_toList] at hpvl
  rw [hstep]
  unfold addHead
  rw [ed]
  refine ⟨fun q => ?_, fun q tk => ?_⟩
  · show NatsAt _ (if _ then _ else _)
    rw [if_pos q]; exact hpv
  · show NatsAt _ (if _ then _ else _)
    rw [if_neg q, Array.toList_push]
    refine ⟨by rw [List.length_append, List.length_append, Array.length_toList, hpvl]; rfl, fun j m hj => ?_⟩
    rw [List.getElem?_append] at hj ⊢
    rw [Array.length_toList, hpvl]
    split at hj
    · rw [if_pos ‹_›]; exact hpv.2 j m hj
    · rw [if_neg ‹_›]
      cases q2 : j - (headsOf (sds.take i)).length with
      | zero => rw [q2] at hj; cases hj; exact ⟨tk, rfl⟩
      | succ j' => rw [q2] at hj; cases hj
section
variable {p : JP} {kd : Str → Addr} {A : Around} {Z : Zm} {L : Addr} {nss : List (Addr × Vars)} {g : Array GenState} {E : JC → Prop} {Q : Flow → JC → Prop} {vs : Vars} {T : List (Addr × Obj)}
set_option maxHeartbeats 1000000 in
theorem mb_push {it ap PL : Addr} {o : Obj} {pv xp : Array Value} {kk mp kh tk : Nat} {vr : Value} (hzp : Z ap = some (TO xp mp)) (h0 : seqIndex? 0 xp.size = some 0) (hk0 : xp[0]? = some (.int kh tk)) (hl : pv.size < 100)
    (h : ∀ k, Q .next ⟨Z, (L, (Str.ofString "_", vr) :: (Str.ofString "pos", .ref ap) :: (Str.ofString "places", .ref PL) :: vs) :: nss, (it, o) :: (PL, LO (pv.push (.int kh tk)) k) :: T, g⟩) :
    jwp p A (execs [.Expr (.Call (.Attribute (.Name "places" ⟨726, 12, 726, 18⟩) "append" ⟨726, 12, 726, 25⟩) [.Subscript (.Name "pos" ⟨726, 26, 726, 29⟩) (.Constant (.int 0) 0 ⟨726, 30, 726, 31⟩) ⟨726, 26, 726, 32⟩] [] ⟨726, 12, 726, 33⟩) ⟨726, 12, 726, 33⟩] (rE L)) Q E
      ⟨Z, (L, (Str.ofString "_", vr) :: (Str.ofString "pos", .ref ap) :: (Str.ofString "places", .ref PL) :: vs) :: nss, (it, o) :: (PL, LO pv kk) :: T, g⟩ := by
  refine j_cons (j_ExprNone (j_appendM (j_local (l := _) List.mem_cons_self rfl ⟨PL, pv, kk, rfl, has_own (by trivial), ?_⟩)))
  exact j_atT (v := .int kh tk) (i := 0) List.mem_cons_self rfl (has_z hzp) h0 hk0 (j_append (pre := [(it, o)]) rfl (by unfold sizeLine; omega) fun k2 => ⟨rfl, j_nil (h k2)⟩)
set_option maxHeartbeats 1000000 in
theorem mb_places {PL D : Addr} {out : Array Value} {k' : Nat} {sds : List RDeed} (hh : A.handled = none) (hv : vs.lookup (Str.ofString "replacements") = some (.ref D)) (hD : (D, LO out k') ∈ T)
    (hsd : All2 (RDeedAt p.w.params kd Z) sds out.toList) (hne : ∀ d ∈ sds, d.1 ≠ []) (h4 : out.size ≤ 4) (hv1 : vs.lookup (Str.ofString "pos") = none) (hv2 : vs.lookup (Str.ofString "_") = none)
    (h : ∀ pv kk, NatsAt pv.toList (headsOf sds) → Q .next ⟨Z, (L, (Str.ofString "places", .ref PL) :: vs) :: nss, (PL, LO pv kk) :: T, g⟩) :
    jwp p A (exec (rB 10) (rE L)) Q E ⟨Z, (L, (Str.ofString "places", .ref PL) :: vs) :: nss, (PL, LO #[] 0) :: T, g⟩ := by
  have hol : out.size = sds.length := by rw [← hsd.length, Array.length_toList]
  refine j_For (E' := fun V => False) (iter_list D out k') (fun i c₁ => ∀ X : JC → Prop, (∀ pv kk, NatsAt pv.toList (headsOf (sds.take i)) → X ⟨Z, (L, (Str.ofString "places", .ref PL) :: vs) :: nss, (PL, LO pv kk) :: T, g⟩) → X c₁)
    hh NotRaised.never (go_tupList ?_) ?_ ?_ ?_ ?_
  · intro i v hv
    obtain ⟨d, hdi, a, _, _, _, rfl, _⟩ := hsd.get2 (i := i) (v := v) (by rw [Array.getElem?_toList]; exact hv)
    exact ⟨a, rfl⟩
  · refine j_local (l := _) List.mem_cons_self hv (j_iterList (has_own (o := LO out k') (List.mem_cons_of_mem _ hD)) fun it o ho => ⟨it, o, _, rfl, ho, Conv.refl _, fun V k => k #[] 0 ?_⟩)
    exact ⟨rfl, fun i n hi => by cases hi⟩
  · exact fun i c₁ it o hX => hX (fun c => JC.Has (c.psh it o) D (LO out k')) fun pv kk V => has_own (List.mem_cons_of_mem _ (List.mem_cons_of_mem _ hD))
  · intro i v c₁ it o hi hv ho hX
    refine hX (fun c₁ => jwp p A _ _ _ (c₁.psh it o)) fun pv kk hpv => ?_
    refine jwp_opaque fun Q' hQ => ?_
    obtain ⟨d, hdi, ad, vp, vr, nd, rfl, hzd, ⟨ap, xp, mp, rfl, hzp, hnp⟩, hrd⟩ := hsd.get2 (i := i) (v := v) (by rw [Array.getElem?_toList]; exact hv)
    obtain ⟨kh, rh, ed⟩ : ∃ kh rh, d.1 = kh :: rh := by
      cases q : d.1 with
      | nil => exact absurd q (hne d (List.mem_of_getElem? hdi))
      | cons kh rh => exact ⟨kh, rh, rfl⟩
    have hs := heads_step hdi ed hpv
    rw [ed] at hnp
    have hxl2 : seqIndex? 0 xp.size = some 0 := by rw [← Array.length_toList, hnp.1, List.length_cons]; unfold seqIndex?; simp
    obtain ⟨tk, hk0⟩ := hnp.2 0 kh rfl
    rw [Array.getElem?_toList] at hk0
    have hpvl := hpv.1
    rw [Array.length_toList] at hpvl
    have hhl := heads_len (sds.take i)
    rw [List.length_take] at hhl
    refine j_assignTup2 hh (has_z hzd) (j_store0 (j_store0 ?_))
    refine hQ _ _ (jwp_opaque fun Q₂ hQ₂ => ?_)
    have cont : ∀ pv' kk', NatsAt pv'.toList (headsOf (sds.take (i + 1))) → Q₂ .next ⟨Z, (L, (Str.ofString "_", vr) :: (Str.ofString "pos", .ref ap) :: (Str.ofString "places", .ref PL) :: vs) :: nss, (it, o) :: (PL, LO pv' kk') :: T, g⟩ :=
      fun pv' kk' hn => hQ₂ _ _ ⟨_, Conv.skip (y := Str.ofString "pos") (by exact hv1) (by exact hv2), fun V k => k pv' kk' hn⟩
    refine j_cons (j_If (j_isTrueBoolOp (j_allTrueOr (j_isTrueNot (j_isTrueName (j_local (l := _) List.mem_cons_self rfl (j_truthyList (items := pv) (n := kk) (has_own (by trivial)) (by omega) ?_)))))))
    cases hl : (headsOf (sds.take i)).getLast? with
    | none =>
      rw [show pv.isEmpty = true by rw [List.getLast?_eq_none_iff] at hl; rw [hl] at hpvl; simpa [Array.isEmpty] using hpvl]
      exact ifT (mb_push hzp hxl2 hk0 (by omega) fun k => j_nil (cont _ k (hs.2 (by rw [hl]; exact fun e => by cases e) tk)))
    | some b =>
      have hl2 := hl
      rw [List.getLast?_eq_getElem?] at hl2
      rcases hpv.2 _ b hl2 with ⟨tb, hpb⟩
      rw [← hpvl, Array.getElem?_toList] at hpb
      have hne0 : 0 < pv.size := by
        rw [hpvl]; exact List.length_pos_iff.mpr fun e => by rw [e] at hl; cases hl
      rw [show pv.isEmpty = false by simpa [Array.isEmpty] using Nat.ne_of_gt hne0]
      show jwp _ _ (allTrue .Or _ _) _ _ _
      refine j_allTrueOr (j_isTrueCompare1 (j_Subscript (j_local (l := _) List.mem_cons_self rfl (j_USub (j_cInt fun t9 => ⟨t9, rfl, fun t10 => ?_⟩)))))
      refine j_getitemInPythonList (items := pv) (n := kk) (has_own (by trivial)) (j_subPlain (j_listLast (v := .int b tb) (items := pv) (n := kk) (has_own (by trivial)) (by omega) hpb ?_))
      refine j_atT (v := .int kh tk) (i := 0) List.mem_cons_self rfl (has_z hzp) hxl2 hk0 (j_neInt (j_truthyBool ?_))
      by_cases hbk : b = kh
      · subst hbk
        rw [show ((b : Int) != (b : Int)) = false by simp]
        exact j_allTrueNilOr (ifF (j_nil (j_nil (cont _ _ (hs.1 hl)))))
      · rw [show ((b : Int) != (kh : Int)) = true by simp; omega]
        exact ifT (mb_push hzp hxl2 hk0 (by omega) fun k => j_nil (cont _ k (hs.2 (by rw [hl]; exact fun e => by cases e; exact hbk rfl) tk)))
  · exact fun c₁ hX => hX _ fun pv kk hpv => j_nil (h pv kk (by rw [hol, List.take_length] at hpv; exact hpv))
end
noncomputable abbrev lamP783 : Pos := ⟨711, 44, 711, 62⟩
noncomputable abbrev lamQ783 : Str := (callEnvC f784 0 784).qual ++ "<lambda>"
noncomputable abbrev LT783 (Z : Zm) (ps : Array Value) : Prop := LamTab Z lamP783 lamQ783 ps
structure ManyLaw (p : JP) (kd : Str → Addr) (n : Nat) : Prop where
  go : ∀ {A : Around} {Z : Zm} {nss : List (Addr × Vars)} {pre post : List (Addr × Obj)} {g : Array GenState} {E : JC → Prop} {Q : Value → JC → Prop} {t : T} {ve : Value} {l : Addr} {xs tb : Array Value} {m : Nat} {rds sds : List RDeed},
  (∀ d ∈ rds, d.1.length ≤ n) → A.depth + n + 40 < recursionLimit → A.units + 3 * n + 40 < cLine → A.handled = none → FramesIn A (nss.map (·.1)) → KindsAt p.w.params kd Z → EAt p.w.params kd Z t ve →
  (JC.mk Z nss (pre ++ (781, tabObj tb) :: post) g).Has l (LO xs m) → All2 (RDeedAt p.w.params kd Z) rds xs.toList → LT783 Z tb → 1 ≤ rds.length → rds.length ≤ 4 → t.Ok → t.size + rsizes rds ≤ 10000 →
  (∀ d ∈ rds, d.1.length ≤ 1000 ∧ ∀ n ∈ d.1, n ≤ 100000) → sds.Perm rds → SortedD sds →
  (∀ Z' tb' r v, Z.le Z' → LT783 Z' tb' → manyOf n t sds = some r → RAt p.w.params kd Z' r v → Q v (JC.mk Z' nss (pre ++ (781, tabObj tb') :: post) g)) →
  (∀ Z' tb', Z.le Z' → LT783 Z' tb' → manyOf n t sds = none → E (JC.mk Z' nss (pre ++ (781, tabObj tb') :: post) g)) →
  jwp p A (call (.ref 784) [ve, .ref l]) Q E (JC.mk Z nss (pre ++ (781, tabObj tb) :: post) g)
theorem nodup_perm_sorted {α : Type} {rds sds : List (List Nat × α)} (hp : sds.Perm rds) (hs : SortedD sds) : (rds.map (·.1)).Nodup := ((hp.map (·.1)).nodup_iff).mp (sorted_nodup hs)
set_option maxHeartbeats 8000000 in
theorem many_body {p : JP} {kd : Str → Addr} (n : Nat) (ih : ∀ n', n = n' + 1 → ManyLaw p kd n') : ManyLaw p kd n := by
  refine ⟨?_⟩
  intro A Z nss pre post g E Q t ve l xs tb m rds sds hlen hroom hu hh FI hkd ht hl hds LT h1 h4 tok hsz hpl hperm hsort h he
  have hxl := hds.length
  rw [Array.length_toList] at hxl
  have hnd := nodup_perm_sorted hperm hsort
  refine jwp_turn (jwp_turnE (j_call (jcode_fnCE (l := [(Str.ofString "replacements", .ref l), (Str.ofString "expression", ve)]) (F784 p.w.params) (by omega) FI (binds := [(Str.ofString "expression", ve), (Str.ofString "replacements", .ref l)]) rfl (fun L x v e => ?_) (fun L cells FI' hT hc => ?_) (fun n => rfl))))
  · rcases lookup_cons_cases e with ⟨rfl, rfl⟩ | ⟨_, e⟩
    · rfl
    · rcases lookup_cons_cases e with ⟨rfl, rfl⟩ | ⟨_, e⟩
      · rfl
      · cases e
  change CellsOwn _ [(_, _)] _ at hc
  rcases hc with ⟨o1, r1, rfl, d1, rfl⟩
  have d1' : o1.data = .cell none := d1
  dsimp only
  refine j_cons (j_Doc (j_cons (j_If (j_isTrueCompare1 ?_))))
  refine j_B1 (m_len _) (b_len _) ?_
  refine (j_local (l := _) List.mem_cons_self rfl ?_)
  refine j_lenList (has_weak hl fun q hq => List.mem_cons_of_mem _ hq) (by omega) fun t1 => j_cInt fun t2 => j_eqInt (j_truthyBool ?_)
  refine ifN (show ((xs.size : Int) == 0) = false by rw [beq_eq_false_iff_ne]; omega) ?_
  refine j_nil (j_cons (j_Assign (j_SortedKey (pre := (_, o1) :: pre) (pls := rds.map (·.1)) (l := l) (xs := xs) (n := m) (by show A.units + 3 + 2 < _; omega) (by show A.depth + 1 < _; omega) (codeK783 _) (by decide) (by decide) LT (fun q => j_local (l := _) List.mem_cons_self rfl q) ?_ (hds.mapL (·.1) fun V V x => x.keyed) (by simpa using h1) (by simpa using h4) hnd fun Z₁ tb₁ D q k' le₁ LT₁ hq => ?_)))
  · exact has_weak hl fun q hq => List.mem_cons_of_mem _ hq
  have hqn : ∀ i ∈ q, i < rds.length := fun i hi => by
    have := hq.1.mem_iff.mp hi
    simpa using this
  have esd : byPlace rds q (.many []) = sds := sorted_uniq ((byPlace_perm (by simpa using hq.1)).trans hperm.symm) (byPlace_sorted hq) hsort
  obtain ⟨out, eout⟩ : ∃ out, out = (q.map fun i => xs.toList.getD i .none).toArray := ⟨_, rfl⟩
  have hsd : All2 (RDeedAt p.w.params kd Z₁) sds out.toList := by
    rw [← esd, eout]
    exact (hds.mono fun V V x => x.mono le₁).sel _ hqn
  rw [← eout]
  have hsl : sds.length = rds.length := hperm.length_eq
  have hol : out.size = sds.length := by rw [← hsd.length, Array.length_toList]
  have hrs := rsizes_perm hperm
  have hdm : ∀ d ∈ sds, d ∈ rds := fun d hd => hperm.mem_iff.mp hd
  clear hq hqn esd eout q
  obtain ⟨d0, rest, rfl⟩ : ∃ d0 rest, sds = d0 :: rest := by
    cases sds with
    | nil => simp at hsl; omega
    | cons d0 rest => exact ⟨d0, rest, rfl⟩
  refine j_store0 ?_
  refine jwp_conv (c' := ⟨Z₁, (L, [(Str.ofString "replacements", .ref D), (Str.ofString "expression", ve)]) :: nss, (D, LO out k') :: (L + 1, o1) :: pre ++ (781, tabObj tb₁) :: post, g⟩) (Conv.know ⟨rfl, rfl, trivial⟩) ?_
  obtain ⟨v0, hv0, a0, vp0, vr0, n0, rfl, hz0, ⟨ap0, xp0, mp0, rfl, hzp0, hns0⟩, hr0⟩ := hsd.get (i := 0) (x := d0) rfl
  rw [Array.getElem?_toList] at hv0
  have hxp0 := hns0.1
  rw [Array.length_toList] at hxp0
  have hd0 := hpl d0 (hdm d0 List.mem_cons_self)
  have hlen0 := hlen d0 (hdm d0 List.mem_cons_self)
  have ht₁ : EAt p.w.params kd Z₁ t ve := ht.mono le₁
  have hkd₁ := hkd.mono le₁
  refine j_cons (j_If (j_isTrueCompare1 ?_))
  refine j_B1 (m_len _) (b_len _) ?_
  refine (j_Subscript (j_Subscript (j_local (l := _) List.mem_cons_self rfl (j_cInt fun t3 => ?_))))
  refine j_getitemInPythonList (has_own (o := LO out k') List.mem_cons_self) (j_subPlain (j_listItem (v := .ref a0) (has_own List.mem_cons_self) (by decide) (by decide) hv0 ?_))
  refine j_cInt fun t4 => j_getitemInPythonTup (has_z hz0) (j_subPlain (j_tupItem (v := .ref ap0) (i := 0) (has_z hz0) (by decide) (by decide) rfl rfl ?_))
  refine j_lenTup (has_z hzp0) (by omega) fun t5 => j_cInt fun t6 => j_eqInt (j_truthyBool ?_)
  by_cases hd0e : d0.1 = []
  · refine ifB (show ((xp0.size : Int) == 0) = true by rw [hxp0, hd0e]; rfl) ?_
    refine j_cons (j_If (j_isTrueCompare1 ?_))
    refine j_B1 (m_len _) (b_len _) ?_
    refine (j_local (l := _) List.mem_cons_self rfl ?_)
    refine j_lenList (has_own List.mem_cons_self) (by omega) fun t7 => j_cInt fun t8 => j_gt (j_truthyBool ?_)
    by_cases h2 : 1 < out.size
    · refine ifB (show decide ((1 : Int) < (out.size : Int)) = true by rw [decide_eq_true_iff]; omega) ?_
      have hn : manyOf n t (d0 :: rest) = none := by
        cases rest with
        | nil => simp at hol; omega
        | cons e r =>
          cases n with
          | zero => unfold manyOf; rfl
          | succ n => unfold manyOf; rw [hd0e]
      refine j_cons (j_raiseIE hh (j_builtin (m_IndexError _) (b_IndexError _) ⟨rfl, rfl⟩) ⟨_, rfl, TurnE.drop0 (TurnE.drop0 (TurnE.done (he Z₁ tb₁ le₁ LT₁ hn)))⟩)
    · refine ifN (show decide ((1 : Int) < (out.size : Int)) = false by rw [decide_eq_false_iff_not]; omega) ?_
      obtain rfl : rest = [] := by
        cases rest with
        | nil => rfl
        | cons e r => simp at hol; omega
      have hn : manyOf n t [d0] = some d0.2 := by
        unfold manyOf
        rw [hd0e]
        cases t <;> rfl
      refine j_nil (j_cons (j_Return (j_Subscript (j_Subscript (j_local (l := _) List.mem_cons_self rfl (j_cInt fun t9 => ?_))))))
      refine j_getitemInPythonList (has_own (o := LO out k') List.mem_cons_self) (j_subPlain (j_listItem (v := .ref a0) (has_own List.mem_cons_self) (by decide) (by decide) hv0 ?_))
      refine j_cInt fun t10 => j_getitemInPythonTup (has_z hz0) (j_subPlain (j_tupItem (v := vr0) (i := 1) (has_z hz0) (by decide) (by decide) rfl rfl ?_))
      exact bodyQ_ret rfl (Turn.drop0 (Turn.drop0 (Turn.done (h Z₁ tb₁ d0.2 vr0 le₁ LT₁ hn hr0))))
  have hx0 : xp0.size ≠ 0 := by
    rw [hxp0]; exact fun e => hd0e (List.length_eq_zero_iff.mp e)
  refine ifN (show ((xp0.size : Int) == 0) = false by rw [beq_eq_false_iff_ne]; omega) ?_
  refine j_nil (j_cons (j_If (j_isTrueCompare1 ?_)))
  refine j_B1 (m_len _) (b_len _) ?_
  refine (j_local (l := _) List.mem_cons_self rfl ?_)
  refine j_lenList (has_own List.mem_cons_self) (by omega) fun t7 => j_cInt fun t8 => j_eqInt (j_truthyBool ?_)
  by_cases h1o : out.size = 1
  · refine ifB (show ((out.size : Int) == 1) = true by rw [h1o]; rfl) ?_
    obtain rfl : rest = [] := by
      cases rest with
      | nil => rfl
      | cons e r => simp at hol; omega
    have hn : manyOf n t [d0] = repOf t d0.1 d0.2 := by unfold manyOf; rfl
    simp only [rsizes_e1, rsizes_e2] at hrs
    refine j_cons (j_Return (j_F3 (fd := f779) (g_replace _) rfl rfl ?_))
    refine j_local (l := _) List.mem_cons_self rfl (j_Subscript (j_Subscript (j_local (l := _) List.mem_cons_self rfl (j_cInt fun t9 => ?_))))
    refine j_getitemInPythonList (has_own (o := LO out k') List.mem_cons_self) (j_subPlain (j_listItem (v := .ref a0) (has_own List.mem_cons_self) (by decide) (by decide) hv0 ?_))
    refine j_cInt fun t10 => j_getitemInPythonTup (has_z hz0) (j_subPlain (j_tupItem (v := .ref ap0) (i := 0) (has_z hz0) (by decide) (by decide) rfl rfl ?_))
    refine j_Subscript (j_Subscript (j_local (l := _) List.mem_cons_self rfl (j_cInt fun t11 => ?_)))
    refine j_getitemInPythonList (has_own (o := LO out k') List.mem_cons_self) (j_subPlain (j_listItem (v := .ref a0) (has_own List.mem_cons_self) (by decide) (by decide) hv0 ?_))
    refine j_cInt fun t12 => j_getitemInPythonTup (has_z hz0) (j_subPlain (j_tupItem (v := vr0) (i := 1) (has_z hz0) (by decide) (by decide) rfl rfl ?_))
    refine law_replace d0.1 (t := t) (r := d0.2) (by show A.depth + 1 + _ + 16 < _; omega) hh FI' hkd₁ ht₁ ⟨ap0, xp0, mp0, rfl, hzp0, hns0⟩ hr0 tok (by omega) hd0.2 hd0.1 ?_ ?_
    · intro Z' r' u le hr hu
      exact bodyQ_ret rfl (Turn.drop0 (Turn.drop0 (Turn.done (h Z' tb₁ r' u (le₁.trans le) (LT₁.mono le) (hn.trans hr) hu))))
    · intro Z' le hr
      exact ⟨_, rfl, TurnE.drop0 (TurnE.drop0 (TurnE.done (he Z' tb₁ (le₁.trans le) (LT₁.mono le) (hn.trans hr))))⟩
  refine ifN (show ((out.size : Int) == 1) = false by rw [beq_eq_false_iff_ne]; omega) ?_
  obtain ⟨d1, rest, rfl⟩ : ∃ d1 r, rest = d1 :: r := by
    cases rest with
    | nil => simp at hol; omega
    | cons e r => exact ⟨e, r, rfl⟩
  obtain ⟨n, rfl⟩ : ∃ n', n = n' + 1 := ⟨n - 1, by
    have : d0.1.length ≠ 0 := fun e => hd0e (List.length_eq_zero_iff.mp e)
    omega⟩
  have ih' : ManyLaw p kd n := ih n rfl
  refine j_nil (j_cons (j_If (j_isTrueNot (j_isTrueCall (j_IsOp (j_local (l := _) List.mem_cons_self rfl ⟨t, ht₁, j_truthyBool ?_⟩))))))
  have hne : ∀ d ∈ d0 :: d1 :: rest, d.1 ≠ [] := sorted_ne hsort hd0e
  cases t with
  | leaf s =>
    rw [show (T.leaf s).isNode = false from rfl]
    refine ifT ?_
    have hn : manyOf (n + 1) (.leaf s) (d0 :: d1 :: rest) = none := by
      unfold manyOf
      split
      · rfl
      · rfl
      · rename_i q; cases q
    exact j_cons (j_raiseIE hh (j_builtin (m_IndexError _) (b_IndexError _) ⟨rfl, rfl⟩) ⟨_, rfl, TurnE.drop0 (TurnE.drop0 (TurnE.done (he Z₁ tb₁ le₁ LT₁ hn)))⟩)
  | node s ps =>
  rw [show (T.node s ps).isNode = true from rfl]
  refine ifF ?_
  obtain ⟨sds, esds⟩ : ∃ sds, sds = d0 :: d1 :: rest := ⟨_, rfl⟩
  have hmany : manyOf (n + 1) (.node s ps) sds = (goOf (manyOf n) ps sds 0 [] (headsOf sds)).map fun ts => .one (opened s ts) := by
    rw [esds]
    conv => lhs; unfold manyOf
    split
    · rename_i q; exact absurd q hd0e
    · rename_i q; cases q
    · rename_i q1 q2; cases q2; rfl
  rw [← esds] at hsort hperm h he hsd hsl hol hrs hdm hne
  obtain ⟨x, dx, od, lo, ys, mq, nq, rfl, hx, hd, hZl, hps⟩ := eat_node ht₁
  have hyl := hps.length
  rw [Array.length_toList] at hyl
  have hps1 := length_le_sizes ps
  have tok' := tok
  simp only [T_Ok_e1, T_Ok_e2] at tok'
  have hsz' := hsz
  simp only [T_size_e1, T_size_e2] at hsz'
  refine j_nil (j_cons (j_Assign ?_))
  refine j_B1 (m_list _) (b_list _) ?_
  refine j_F1 (fd := f765) (g_op_iter _) rfl rfl ?_
  refine (j_local (l := _) List.mem_cons_self rfl ?_)
  refine j_call (op_iter (by show A.depth + 1 < _; omega) hx hd ?_)
  refine j_listOfList (has_z hZl) (by rw [sizeLine_eq]; omega) fun OP ko => ?_
  refine j_store0 ?_
  refine j_cons (j_Assign (j_List (j_splicedNil ⟨Nat.zero_le _, fun NO => j_store0 ?_⟩)))
  refine j_cons (j_Assign (j_cInt fun tl => j_store0 ?_))
  refine j_cons (j_Assign (j_List (j_splicedNil ⟨Nat.zero_le _, fun PL => j_store0 ?_⟩)))
  obtain ⟨hheads1, hheads2⟩ := heads_ok hsort hne
  refine j_cons (mb_places (D := D) (out := out) (k' := k') hh rfl (by trivial) hsd hne (by omega) rfl rfl fun pv kk hpv => ?_)
  obtain ⟨heads, eheads⟩ : ∃ heads, heads = headsOf sds := ⟨_, rfl⟩
  have hhl := heads_len sds
  rw [← eheads] at hpv hheads1 hheads2 hmany hhl
  have hpvl := hpv.1
  rw [Array.length_toList] at hpvl
  have hgs := gsum_le sds heads (hheads1.imp fun {a b} x => Nat.ne_of_lt x)
  refine j_cons (j_For (E' := BodyE L nss fun c₁ => TurnE p c₁ E) (iter_list PL pv kk) (fun i c₁ => ∀ X : JC → Prop, (∀ Z₂ tb₂ o2 v₂ nv kn acc last lt, Z₁.le Z₂ → LT783 Z₂ tb₂ → o2.data = .cell v₂ → EAtAll p.w.params kd Z₂ acc nv.toList → last ≤ ps.length → (∀ k ∈ heads.drop i, last ≤ k) → sizes acc + sizes (ps.drop last) + gsum sds (heads.drop i) ≤ 10000 → goOf (manyOf n) ps sds last acc (heads.drop i) = goOf (manyOf n) ps sds 0 [] heads → X ⟨Z₂, (L, [(Str.ofString "places", .ref PL), (Str.ofString "last_index", .int ((last : Nat) : Int) lt), (Str.ofString "new_operands", .ref NO), (Str.ofString "operands", .ref OP), (Str.ofString "replacements", .ref D), (Str.ofString "expression", .ref x)]) :: nss,
      (PL, LO pv kk) :: (NO, LO nv kn) :: (OP, LO ys ko) :: (D, LO out k') :: (L + 1, o2) :: pre ++ (781, tabObj tb₂) :: post, g⟩) → X c₁) hh (NotRaised.body FI' hT) go_name ?_ ?_ ?_ ?_)
  · refine j_local (l := _) List.mem_cons_self rfl (j_iterList (has_own (o := LO pv kk) (by trivial)) fun it o ho => ⟨it, o, _, rfl, ho, Conv.refl _, fun V K => K Z₁ tb₁ o1 none #[] 0 [] 0 tl (Zm.le.refl _) LT₁ d1' ?_ (Nat.zero_le _) (fun V V => Nat.zero_le _) ?_ ?_⟩)
    · exact .nil
    · rw [List.drop_zero, List.drop_zero]; simp only [sizes_e1, sizes_e2]; omega
    · rw [List.drop_zero]
  · exact fun i c₁ it o hX => hX (fun c => JC.Has (c.psh it o) PL (LO pv kk)) fun V V V V V V V V V V V V V V V V V => has_own (by trivial)
  · intro i v c₁ it o hi hv ho hX
    refine hX (fun c₁ => jwp p _ _ _ _ (c₁.psh it o)) fun Z₂ tb₂ o2 v₂ nv kn acc last lt le₂ LT₂ d2 hacc hlast hlk hsum hgo => ?_
    have hi' : i < heads.length := by omega
    obtain ⟨k, hki⟩ : ∃ k, heads[i]? = some k := ⟨_, List.getElem?_eq_getElem hi'⟩
    obtain ⟨tk, hvk⟩ := hpv.2 i k hki
    rw [Array.getElem?_toList, hv] at hvk
    cases hvk
    have hdropi : heads.drop i = k :: heads.drop (i + 1) := by
      rw [List.drop_eq_getElem_cons hi', (List.getElem?_eq_some_iff.mp hki).2]
    have hkmem : k ∈ heads := List.mem_of_getElem? hki
    obtain ⟨dk, hdk, rk, edk⟩ := (hheads2 k).mp hkmem
    have hk5 : k ≤ 100000 := (hpl dk (hdm dk hdk)).2 k (by rw [edk]; exact List.mem_cons_self)
    rw [hdropi] at hlk hsum hgo
    have hlastk : last ≤ k := hlk k List.mem_cons_self
    have hnl := hacc.length
    rw [Array.length_toList] at hnl
    have hacl := length_le_sizes acc
    have hnext : ∀ k' ∈ heads.drop (i + 1), k + 1 ≤ k' := by
      have hp := hheads1.sublist (List.drop_sublist i heads)
      rw [hdropi] at hp
      exact fun k' hk' => (List.pairwise_cons.mp hp).1 k' hk'
    have hrefs : ∀ (i : Nat) v, out[i]? = some v → ∃ a, v = .ref a := by
      intro i v hv
      obtain ⟨d, hdi, a, _, _, _, rfl, _⟩ := hsd.get2 (i := i) (v := v) (by rw [Array.getElem?_toList]; exact hv)
      exact ⟨a, rfl⟩
    refine j_assignName (j_storeCell (a := L + 1) (pre := [(it, o), (PL, _), (NO, _), (OP, _), (D, _)]) rfl rfl d2 fun o3 d3 => ?_)
    refine j_cons (j_ExprNone (j_extendM (j_local (l := _) List.mem_cons_self rfl ⟨NO, nv, kn, rfl, has_own (o := LO nv kn) (by trivial), ?_⟩)))
    refine j_Subscript (j_local (l := _) List.mem_cons_self rfl (j_sliceRun (j_local (l := _) List.mem_cons_self rfl (j_cell rfl (has_own (o := o3) (by trivial)) d3 fun sl => ?_))))
    refine j_getitemInPythonList (items := ys) (n := ko) (has_own (by trivial)) (j_subPlain (j_listSlice (items := ys) (n := ko) (a := last) (b := k) (has_own (by trivial)) (has_own List.mem_cons_self) (by omega) hlastk (by rw [sizeLine_eq]; omega) fun rl => ?_))
    have hslen : (sliceOf ys.toList last k).length ≤ ys.size := by unfold sliceOf; rw [List.length_take, List.length_drop, Array.length_toList]; omega
    refine j_extend (pre := [(rl, _), (sl, _), (it, o), (PL, _)]) (items := nv) (n := kn) rfl (has_own (o := LO (sliceOf ys.toList last k).toArray 0) List.mem_cons_self) (by show nv.size + (sliceOf ys.toList last k).length ≤ _; omega) fun k22 => ⟨rfl, ?_⟩
    obtain ⟨nv1, env1⟩ : ∃ nv1, nv1 = nv ++ (sliceOf ys.toList last k).toArray := ⟨_, rfl⟩
    have hacc1 : EAtAll p.w.params kd Z₂ (acc ++ sliceOf ps last k) nv1.toList := by
      rw [env1, Array.toList_append]
      exact hacc.append (((hps.mono le₂).drop last).take (k - last))
    refine jwp_conv (c' := ⟨Z₂, (L, [(Str.ofString "places", .ref PL), (Str.ofString "last_index", .int ((last : Nat) : Int) lt), (Str.ofString "new_operands", .ref NO), (Str.ofString "operands", .ref OP), (Str.ofString "replacements", .ref D), (Str.ofString "expression", .ref x)]) :: nss,
      (it, o) :: (PL, LO pv kk) :: (NO, LO nv1 k22) :: (OP, LO ys ko) :: (D, LO out k') :: (L + 1, o3) :: pre ++ (781, tabObj tb₂) :: post, g⟩) (by rw [env1]; exact Conv.ow (List.Perm.refl _) ((List.sublist_cons_self _ _).trans (List.sublist_cons_self _ _))) ?_
    refine j_cons (j_AssignComp (y := Str.ofString "group") (iter_list D out k') (fun j zs c₁ => ∀ X : Prop, (∀ Z₃, c₁ = ⟨Z₃, (L, [(Str.ofString "places", .ref PL), (Str.ofString "last_index", .int ((last : Nat) : Int) lt), (Str.ofString "new_operands", .ref NO), (Str.ofString "operands", .ref OP), (Str.ofString "replacements", .ref D), (Str.ofString "expression", .ref x)]) :: nss,
      (it, o) :: (PL, LO pv kk) :: (NO, LO nv1 k22) :: (OP, LO ys ko) :: (D, LO out k') :: (L + 1, o3) :: pre ++ (781, tabObj tb₂) :: post, g⟩ → Z₂.le Z₃ → All2 (RDeedAt p.w.params kd Z₃) (groupOf (sds.take j) k) zs.toList → X) → X) hh (fun V => go_tupList hrefs) rfl rfl rfl ?_ ?_ ?_ ?_ ?_)
    · exact j_local (l := _) List.mem_cons_self rfl (j_iterList (has_own (o := LO out k') (by trivial)) fun itc oc hoc => ⟨itc, oc, _, rfl, hoc, Conv.refl _, fun V K => K Z₂ rfl (Zm.le.refl _) (by simpa [groupOf] using All2.nil)⟩)
    · exact fun j zs c₁ C l' accz kz itc oc hX => hX _ fun Z₃ e V V => e ▸ has_own (by trivial)
    · intro j zs c₁ hX3 hj
      refine hX3 _ fun Z₃ V le₃ hz => ?_
      have h1 := hz.length
      have h2 := group_len (sds.take j) k
      rw [Array.length_toList] at h1
      rw [List.length_take] at h2
      rw [sizeLine_eq]; omega
    · intro j v c₁ C accz zs kz itc oc hj hvj hoc hX
      refine hX _ fun Z₃ e le₃ hz => ?_
      clear hX
      subst e
      obtain ⟨d, hdi, ad, vp, vr, nd, rfl, hzd, ⟨ap, xp, mp, rfl, hzp, hnp⟩, hrd⟩ := hsd.get2 (i := j) (v := v) (by rw [Array.getElem?_toList]; exact hvj)
      have hdmem := List.mem_of_getElem? hdi
      have hdl := hpl d (hdm d hdmem)
      obtain ⟨kh, rh, ed⟩ : ∃ kh rh, d.1 = kh :: rh := by
        cases q : d.1 with
        | nil => exact absurd q (hne d hdmem)
        | cons kh rh => exact ⟨kh, rh, rfl⟩
      rw [ed] at hnp
      have hxl2 : xp.size = rh.length + 1 := by have := hnp.1; simpa using this
      have hrhl : rh.length ≤ 1000 := by have := hdl.1; rw [ed] at this; simp at this; omega
      obtain ⟨th, hk0⟩ := hnp.2 0 kh rfl
      rw [Array.getElem?_toList] at hk0
      have le₁₃ := le₂.trans le₃
      have hgstep : groupOf (sds.take (j + 1)) k = groupOf (sds.take j) k ++ (if kh = k then [(rh, d.2)] else []) := by
        rw [list_take_succ hdi, group_append]
        congr 1
        simp only [groupOf, List.filterMap_cons, List.filterMap_nil, groupOne, ed]
        by_cases hkk : kh = k <;> simp [hkk]
      refine j_assignTup2 hh (has_z (le₁₃ _ _ hzd)) (j_store0 (j_store0 ?_))
      refine j_testsOne (j_isTrueCompare1 (j_atT (v := .int kh th) (i := 0) List.mem_cons_self rfl (has_z (le₁₃ _ _ hzp)) ?_ hk0 ?_))
      · rw [hxl2]; unfold seqIndex?; simp
      refine j_cell rfl (has_own (o := o3) (by trivial)) d3 (j_eqInt (j_truthyBool ?_))
      by_cases hkk : kh = k
      · subst hkk
        refine ifB (show ((kh : Int) == (kh : Int)) = true by simp) ?_
        rw [if_pos rfl] at hgstep
        refine jwp_turn (j_Tuple2 (j_Subscript (j_local (l := _) List.mem_cons_self rfl (j_sliceFrom (j_cInt fun t31 => fun sa => j_getitemInPythonTup (has_z (le₁₃ _ _ hzp)) (j_subPlain (j_tupFrom (k := 1) (has_z (le₁₃ _ _ hzp)) (has_own List.mem_cons_self) (by decide) (by omega) (by rw [sizeLine_eq]; omega) fun pa => ?_)))))))
        refine j_local (l := _) List.mem_cons_self rfl fun tp => ?_
        refine Turn.swap (Turn.freeze0 fun Z₄ le₄ h₄ => Turn.freeze0 fun Z₅ le₅ h₅ => Turn.drop0 (Turn.done ⟨⟨Z₅, _, _, _⟩, Conv.know (l' := []) trivial, fun V K => K Z₅ rfl ((le₃.trans le₄).trans le₅) ?_⟩))
        rw [hgstep, Array.toList_push]
        refine (hz.mono fun V V x => x.mono (le₄.trans le₅)).append (All2.one ?_)
        exact ⟨tp, .ref pa, vr, 0, rfl, h₅, ⟨pa, _, 0, rfl, le₅ _ _ h₄, hnp.drop1⟩, hrd.mono ((le₁₃.trans le₄).trans le₅)⟩
      · refine ifN (show ((kh : Int) == (k : Int)) = false by simp; omega) ?_
        rw [if_neg hkk, List.append_nil] at hgstep
        refine ⟨⟨Z₃, _, _, _⟩, Conv.know (l' := []) trivial, fun V K => K Z₃ rfl le₃ ?_⟩
        rw [hgstep]; exact hz
    intro zs c₁ GL kz hX
    refine hX _ fun Z₃ e le₃ hz => ?_
    clear hX
    subst e
    rw [hol, List.take_length] at hz
    refine ⟨_, _, rfl, ?_⟩
    have hzl := hz.length
    rw [Array.length_toList] at hzl
    have hgl := group_len sds k
    have hg1 : 1 ≤ (groupOf sds k).length := List.length_pos_iff.mpr (List.ne_nil_of_mem (group_of hdk edk))
    have hgsz : rsizes (groupOf sds k) ≤ rsizes sds := by
      have := gsum_le sds [k] (by simp)
      simpa [gsum_e1, gsum_e2] using this
    have hgpl : ∀ e ∈ groupOf sds k, e.1.length ≤ n ∧ e.1.length ≤ 1000 ∧ ∀ m ∈ e.1, m ≤ 100000 := fun e he => by
      obtain ⟨d, hd, ed, _⟩ := group_mem he
      have h1 := hpl d (hdm d hd)
      have h2 := hlen d (hdm d hd)
      rw [ed] at h1 h2
      simp only [List.length_cons] at h1 h2
      exact ⟨by omega, by omega, fun m hm => h1.2 m (List.mem_cons_of_mem _ hm)⟩
    have le₁₃ := le₂.trans le₃
    have bad : ∀ {Z' tb'}, ¬ k < ys.size → Z₁.le Z' → LT783 Z' tb' → E (JC.mk Z' nss (pre ++ (781, tabObj tb') :: post) g) := fun {Z' tb'} hk le LT' => by
      refine he Z' tb' (le₁.trans le) LT' ?_
      have hkn : ps[k]? = none := List.getElem?_eq_none (by omega)
      rw [hmany, ← hgo]
      simp [goOf, hkn]
    refine j_cons (jwp.mono (Q := fun f c' => ∀ X : Flow → JC → Prop, (∀ Z₄ tb₄ r u q, Z₃.le Z₄ → LT783 Z₄ tb₄ → ps[k]? = some q → manyOf n q (groupOf sds k) = some r → RAt p.w.params kd Z₄ r u → X .next ⟨Z₄, (L, [(Str.ofString "replacement", u), (Str.ofString "group", .ref GL), (Str.ofString "places", .ref PL), (Str.ofString "last_index", .int ((last : Nat) : Int) lt), (Str.ofString "new_operands", .ref NO), (Str.ofString "operands", .ref OP), (Str.ofString "replacements", .ref D), (Str.ofString "expression", .ref x)]) :: nss,
      (GL, LO zs kz) :: (it, o) :: (PL, LO pv kk) :: (NO, LO nv1 k22) :: (OP, LO ys ko) :: (D, LO out k') :: (L + 1, o3) :: pre ++ (781, tabObj tb₄) :: post, g⟩) → X f c') ?_ ?_ fun V V x => x)
    · refine j_If (j_isTrueCompare1 ?_)
      refine j_B1 (m_len _) (b_len _) ?_
      refine (j_local (l := _) List.mem_cons_self rfl ?_)
      refine j_lenList (items := zs) (n := kz) (has_own (by trivial)) (by omega) fun t40 => j_cInt fun t41 => j_eqInt (j_truthyBool ?_)
      by_cases h1g : zs.size = 1
      · refine ifB (show ((zs.size : Int) == 1) = true by rw [h1g]; rfl) ?_
        obtain ⟨e, ege⟩ : ∃ e, groupOf sds k = [e] := List.length_eq_one_iff.mp (by omega)
        obtain ⟨w0, hw0, ae, vpe, vre, ne, rfl, hze, hpe, hre⟩ := hz.get (i := 0) (x := e) (by rw [ege]; rfl)
        rw [Array.getElem?_toList] at hw0
        refine j_cons (j_Assign (j_F3 (fd := f779) (g_replace _) rfl rfl ?_))
        refine j_Subscript (j_local (l := _) List.mem_cons_self rfl (j_cell rfl (has_own (o := o3) (by trivial)) d3 ?_))
        by_cases hk : k < ys.size
        · have hkl : k < ps.length := by omega
          have hq : ps[k]? = some ps[k] := List.getElem?_eq_getElem hkl
          obtain ⟨vk, hvk, htk⟩ := hps.getT hq
          rw [Array.getElem?_toList] at hvk
          have hqs := size_le_of_get hq
          have hmo : manyOf n ps[k] (groupOf sds k) = repOf ps[k] e.1 e.2 := by rw [ege]; unfold manyOf; rfl
          obtain ⟨hge1, hge2, hge3⟩ := hgpl e (by rw [ege]; exact List.mem_cons_self)
          rw [ege] at hgsz
          simp only [rsizes_e1, rsizes_e2] at hgsz
          refine j_getitemInPythonList (items := ys) (n := ko) (has_own (by trivial)) (j_subPlain (j_listItem (items := ys) (n := ko) (v := vk) (has_own (by trivial)) (by omega) (by omega) hvk ?_))
          refine j_Subscript (j_Subscript (j_local (l := _) List.mem_cons_self rfl (j_cInt fun t42 => ?_)))
          refine j_getitemInPythonList (items := zs) (n := kz) (has_own (by trivial)) (j_subPlain (j_listItem (v := .ref ae) (items := zs) (n := kz) (has_own (by trivial)) (by decide) (by decide) hw0 ?_))
          refine j_cInt fun t43 => j_getitemInPythonTup (has_z hze) (j_subPlain (j_tupItem (v := vpe) (i := 0) (has_z hze) (by decide) (by decide) rfl rfl ?_))
          refine j_Subscript (j_Subscript (j_local (l := _) List.mem_cons_self rfl (j_cInt fun t44 => ?_)))
          refine j_getitemInPythonList (items := zs) (n := kz) (has_own (by trivial)) (j_subPlain (j_listItem (v := .ref ae) (items := zs) (n := kz) (has_own (by trivial)) (by decide) (by decide) hw0 ?_))
          refine j_cInt fun t45 => j_getitemInPythonTup (has_z hze) (j_subPlain (j_tupItem (v := vre) (i := 1) (has_z hze) (by decide) (by decide) rfl rfl ?_))
          refine law_replace e.1 (t := ps[k]) (r := e.2) (by show A.depth + 1 + _ + 16 < _; omega) hh FI' (hkd₁.mono le₁₃) (htk.mono le₁₃) hpe hre (tok'.2.mem (List.mem_of_getElem? hq)) (by omega) hge3 hge2 ?_ ?_
          · intro Z₄ r' u le₄ hr hu
            exact j_store0 (j_nil fun V K => K Z₄ tb₂ r' u ps[k] le₄ (LT₂.mono (le₃.trans le₄)) hq (hmo.trans hr) hu)
          · intro Z₄ le₄ hr
            refine ⟨_, rfl, TurnE.drop0 (TurnE.drop0 (TurnE.drop0 (TurnE.drop0 (TurnE.drop0 (TurnE.drop0 (TurnE.drop0 (TurnE.done (?_))))))))⟩
            refine he Z₄ tb₂ (le₁.trans (le₁₃.trans le₄)) (LT₂.mono (le₃.trans le₄)) ?_
            rw [hmany, ← hgo]
            simp [goOf, hq, hmo, hr]
        · refine j_getitemInPythonList (items := ys) (n := ko) (has_own (by trivial)) (j_subPlain (j_listOut (items := ys) (n := ko) hh (has_own (by trivial)) (by omega) (by omega) ?_))
          exact ⟨_, rfl, TurnE.drop0 (TurnE.drop0 (TurnE.drop0 (TurnE.drop0 (TurnE.drop0 (TurnE.drop0 (TurnE.drop0 (TurnE.done (bad hk le₁₃ (LT₂.mono le₃)))))))))⟩
      · refine ifN (show ((zs.size : Int) == 1) = false by rw [beq_eq_false_iff_ne]; omega) ?_
        refine j_cons (j_Assign (j_F2 (fd := f784) (g_replace_many _) rfl rfl ?_))
        refine j_Subscript (j_local (l := _) List.mem_cons_self rfl (j_cell rfl (has_own (o := o3) (by trivial)) d3 ?_))
        by_cases hk : k < ys.size
        · have hkl : k < ps.length := by omega
          have hq : ps[k]? = some ps[k] := List.getElem?_eq_getElem hkl
          obtain ⟨vk, hvk, htk⟩ := hps.getT hq
          rw [Array.getElem?_toList] at hvk
          have hqs := size_le_of_get hq
          refine j_getitemInPythonList (items := ys) (n := ko) (has_own (by trivial)) (j_subPlain (j_listItem (items := ys) (n := ko) (v := vk) (has_own (by trivial)) (by omega) (by omega) hvk ?_))
          refine j_local (l := _) List.mem_cons_self rfl ?_
          refine ih'.go (pre := (GL, LO zs kz) :: (it, o) :: (PL, LO pv kk) :: (NO, LO nv1 k22) :: (OP, LO ys ko) :: (D, LO out k') :: (L + 1, o3) :: pre) (t := ps[k]) (xs := zs) (m := kz) (rds := groupOf sds k) (sds := groupOf sds k) (fun e he => (hgpl e he).1) (by show A.depth + 1 + n + 40 < _; omega) (by show A.units + 3 + 3 * n + 40 < _; omega) hh FI' (hkd₁.mono le₁₃) (htk.mono le₁₃)
            (has_own (by trivial)) hz (LT₂.mono le₃) hg1 (by omega) (tok'.2.mem (List.mem_of_getElem? hq)) (by omega) (fun e he => (hgpl e he).2) (List.Perm.refl _) (group_sorted k hsort) ?_ ?_
          · intro Z₄ tb₄ r' u le₄ LT₄ hr hu
            exact j_store0 (j_nil fun V K => K Z₄ tb₄ r' u ps[k] le₄ LT₄ hq hr hu)
          · intro Z₄ tb₄ le₄ LT₄ hr
            refine ⟨_, rfl, TurnE.drop0 (TurnE.drop0 (TurnE.drop0 (TurnE.drop0 (TurnE.drop0 (TurnE.drop0 (TurnE.drop0 (TurnE.done (?_))))))))⟩
            refine he Z₄ tb₄ (le₁.trans (le₁₃.trans le₄)) LT₄ ?_
            rw [hmany, ← hgo]
            simp [goOf, hq, hr]
        · refine j_getitemInPythonList (items := ys) (n := ko) (has_own (by trivial)) (j_subPlain (j_listOut (items := ys) (n := ko) hh (has_own (by trivial)) (by omega) (by omega) ?_))
          exact ⟨_, rfl, TurnE.drop0 (TurnE.drop0 (TurnE.drop0 (TurnE.drop0 (TurnE.drop0 (TurnE.drop0 (TurnE.drop0 (TurnE.done (bad hk le₁₃ (LT₂.mono le₃)))))))))⟩
    intro f c' hX
    refine hX _ fun Z₄ tb₄ r u q le₄ LT₄ hq hr hu => ?_
    have le₁₄ := le₁₃.trans le₄
    have hrsz := many_size n q (groupOf sds k) r (group_sorted k hsort) hr
    have hrl := length_le_sizes r.rows
    have hqs := size_le_of_get hq
    have hs3 := sizes_sliceOf (ps := ps) hlastk
    have hs4 := sizes_drop_cons hq
    simp only [gsum_e1, gsum_e2] at hsum
    have hgo2 : goOf (manyOf n) ps sds (k + 1) (acc ++ sliceOf ps last k ++ r.rows) (heads.drop (i + 1)) = goOf (manyOf n) ps sds 0 [] heads := by
      rw [← hgo]
      simp only [goOf, hq, hr]
    have hkl : k < ps.length := (List.getElem?_eq_some_iff.mp hq).1
    have hn1l := hacc1.length
    have hac1 := length_le_sizes (acc ++ sliceOf ps last k)
    rw [Array.length_toList] at hn1l
    rw [sizes_append] at hac1
    refine j_cons (jwp.mono (Q := fun f c' => ∀ X : Flow → JC → Prop, (∀ nv2 k23 tt, EAtAll p.w.params kd Z₄ (acc ++ sliceOf ps last k ++ r.rows) nv2.toList → X .next ⟨Z₄, (L, [(Str.ofString "replacement", u), (Str.ofString "group", .ref GL), (Str.ofString "places", .ref PL), (Str.ofString "last_index", .int ((last : Nat) : Int) lt), (Str.ofString "new_operands", .ref NO), (Str.ofString "operands", .ref OP), (Str.ofString "replacements", .ref D), (Str.ofString "expression", .ref x)]) :: nss,
      (tt, TO #[.type "list", .type "tuple", .ref 135] 0) :: (GL, LO zs kz) :: (it, o) :: (PL, LO pv kk) :: (NO, LO nv2 k23) :: (OP, LO ys ko) :: (D, LO out k') :: (L + 1, o3) :: pre ++ (781, tabObj tb₄) :: post, g⟩) → X f c') (E := fun V => False) ?_ ?_ fun V V x => x.elim)
    · refine j_If (j_isTrueCall ?_)
      refine j_B2 (m_isinstance _) (b_isinstance _) ?_
      refine (j_local (l := _) List.mem_cons_self rfl ?_)
      refine j_Tuple3 (j_builtin (m_list _) (b_list _) (j_builtin (m_tuple _) (b_tuple _) (j_global (g_Multiset _) fun tt => ?_)))
      refine j_rIsSeq3 hu (has_own List.mem_cons_self) (j_truthyBool ?_)
      cases r with
      | one tr =>
        refine ifN (show (Repl.one tr).isMany = false from rfl) ?_
        refine j_cons (j_ExprNone (j_appendM (j_local (l := _) List.mem_cons_self rfl ⟨NO, nv1, k22, rfl, has_own (o := LO nv1 k22) (by trivial), ?_⟩)))
        refine j_local (l := _) List.mem_cons_self rfl (j_append (pre := [(tt, _), (GL, _), (it, o), (PL, _)]) rfl (by unfold sizeLine; omega) fun k23 => ⟨rfl, j_nil fun V K => K (nv1.push u) k23 tt ?_⟩)
        exact (hacc1.mono (le₃.trans le₄)).push hu
      | many trs =>
        refine ifB (show (Repl.many trs).isMany = true from rfl) ?_
        obtain ⟨lu, xu, mu, rfl, hZu, htu⟩ := hu
        have htul := htu.length
        rw [Array.length_toList] at htul
        simp only [Repl.rows] at hrl hrsz
        refine j_cons (j_ExprNone (j_extendM (j_local (l := _) List.mem_cons_self rfl ⟨NO, nv1, k22, rfl, has_own (o := LO nv1 k22) (by trivial), ?_⟩)))
        refine j_local (l := _) List.mem_cons_self rfl (j_extend (pre := [(tt, _), (GL, _), (it, o), (PL, _)]) (items := nv1) (n := k22) rfl (has_z hZu) (by omega) fun k23 => ⟨rfl, j_nil fun V K => K (nv1 ++ xu) k23 tt ?_⟩)
        rw [Array.toList_append]
        exact (hacc1.mono (le₃.trans le₄)).append htu
    intro f c' hX
    refine hX _ fun nv2 k23 tt hacc2 => ?_
    refine j_cons (j_Assign (j_BinOp (j_cell rfl (has_own (o := o3) (by trivial)) d3 (j_cInt fun t50 => j_add fun t51 => j_store0 (j_nil ?_)))))
    refine ⟨⟨Z₄, (L, [(Str.ofString "places", .ref PL), (Str.ofString "last_index", .int (((k + 1 : Nat)) : Int) t51), (Str.ofString "new_operands", .ref NO), (Str.ofString "operands", .ref OP), (Str.ofString "replacements", .ref D), (Str.ofString "expression", .ref x)]) :: nss,
      (PL, LO pv kk) :: (NO, LO nv2 k23) :: (OP, LO ys ko) :: (D, LO out k') :: (L + 1, o3) :: pre ++ (781, tabObj tb₄) :: post, g⟩, Conv.both ⟨rfl, rfl, rfl, rfl, rfl, rfl, trivial⟩ (List.Perm.refl _) ((List.sublist_cons_self _ _).trans (List.sublist_cons_self _ _)), fun V K => K Z₄ tb₄ o3 _ nv2 k23 (acc ++ sliceOf ps last k ++ r.rows) (k + 1) t51 le₁₄ LT₄ d3 hacc2 (by omega) hnext ?_ hgo2⟩
    rw [sizes_append, sizes_append]
    omega
  · intro c₁ hX
    refine hX _ fun Z₂ tb₂ o2 v₂ nv kn acc last lt le₂ LT₂ d2 hacc hlast hlk hsum hgo => ?_
    rw [hpvl] at hsum hgo
    rw [List.drop_length] at hsum hgo
    simp only [gsum_e1, gsum_e2] at hsum
    have hnl := hacc.length
    rw [Array.length_toList] at hnl
    have hacl := length_le_sizes acc
    have hdl := length_le_sizes (ps.drop last)
    refine j_nil (j_cons (j_ExprNone (j_extendM (j_local (l := _) List.mem_cons_self rfl ⟨NO, nv, kn, rfl, has_own (o := LO nv kn) (by trivial), ?_⟩))))
    refine j_Subscript (j_local (l := _) List.mem_cons_self rfl (j_sliceRun (j_local (l := _) List.mem_cons_self rfl ?_)))
    refine j_B1 (m_len _) (b_len _) ?_
    refine (j_local (l := _) List.mem_cons_self rfl ?_)
    refine j_lenList (items := ys) (n := ko) (has_own (by trivial)) (by omega) fun t20 sl => ?_
    refine j_getitemInPythonList (items := ys) (n := ko) (has_own (by trivial)) (j_subPlain (j_listSlice (items := ys) (n := ko) (a := last) (b := ys.size) (has_own (by trivial)) (has_own List.mem_cons_self) (by omega) (by omega) (by rw [sizeLine_eq]; omega) fun rl => ?_))
    have hsl2 : sliceOf ys.toList last ys.size = ys.toList.drop last := by
      unfold sliceOf
      exact List.take_of_length_le (by simp)
    rw [hsl2]
    refine j_extend (pre := [(rl, _), (sl, _), (PL, _)]) (items := nv) (n := kn) rfl (has_own (o := LO (ys.toList.drop last).toArray 0) List.mem_cons_self) (by simp only [List.size_toArray, List.length_drop, Array.length_toList]; omega) fun k21 => ⟨rfl, ?_⟩
    have hgo' : goOf (manyOf n) ps sds 0 [] heads = some (acc ++ ps.drop last) := by rw [← hgo]; rfl
    have hres : manyOf (n + 1) (.node s ps) sds = some (.one (opened s (acc ++ ps.drop last))) := by rw [hmany, hgo']; rfl
    refine j_cons (j_Return (j_F2 (fd := f758) (g_create_operation_expression _) rfl rfl (j_local (l := _) List.mem_cons_self rfl (j_local (l := _) List.mem_cons_self rfl ?_))))
    refine j_call (op_create (ts := acc ++ ps.drop last) (l := NO) (items := nv ++ (ys.toList.drop last).toArray) (s := s) (ps := ps) (by show A.depth + 1 + 12 < _; omega) hh tok'.1 (hkd₁.mono le₂) (ht₁.mono le₂) ⟨k21, .inl (has_own (by trivial))⟩ ?_ ?_ ?_ fun Z₃ v3 le₃ hv3 => bodyQ_ret rfl ?_)
    · rw [Array.toList_append]
      exact hacc.append ((hps.mono le₂).drop last)
    · rw [List.length_append]; omega
    · refine Nat.le_trans (length_le_sizes _) (Nat.le_trans (sizes_openedParts _ _) ?_)
      rw [sizes_append]; omega
    · exact Turn.drop0 (Turn.drop0 (Turn.drop0 (Turn.drop0 (Turn.drop0 (Turn.drop0 (Turn.drop0 (Turn.done (h Z₃ tb₂ _ v3 ((le₁.trans le₂).trans le₃) (LT₂.mono le₃) hres hv3))))))))
theorem law_many {p : JP} {kd : Str → Addr} : ∀ n, ManyLaw p kd n
  | 0 => many_body 0 fun n' e => by cases e
  | n + 1 => many_body (n + 1) fun n' e => by cases e; exact law_many n
section
variable {p : JP} {A : Around} {c : JC} {E E₁ : JC → Prop} {env : Env}
theorem Fly.gone {c : JC} {f : Fly} : Conv p (c.fly f) c := fun s H => H.drop (nss := c.nss) (own := c.own) (List.Sublist.refl _) ((List.sublist_append_right f.more c.own).trans (List.sublist_cons_self _ _))
theorem ie_exc : isSubtype (.type "IndexError") (.type "BaseException") = pure true := by rw [isSubtype_type]; kernel_rfl
theorem ie_meta : isSubtype (.type ((Manifest.find? "IndexError").elim "type" fun x => x.metatype)) (.type "tuple") = pure false := by rw [isSubtype_type]; kernel_rfl
theorem ie_self : isSubtype (.type "IndexError") (.type "IndexError") = pure true := by rw [isSubtype_type]; kernel_rfl
theorem j_TryIE {body suite : List Stmt} {b₀ : Stmt} {np hpos pos : Pos} {L : Addr} {Q : Flow → JC → Prop}
    (h : jwp p A (execs body env) (fun f c₁ => match f with | .next => jwp p A (execs [] env) Q E c₁ | f => Q f c₁) E₁ c)
    (hF : ∀ c₁, E₁ c₁ → FramesIn A (c₁.nss.map (·.1)) ∧ TopIs A env L)
    (hs : ∀ c₁ e, E₁ c₁ → jwp p (A.mark (some (.ref e))) (execs (b₀ :: suite) env) Q (fun V => False) c₁)
    (hg : autoParam (inB env (Str.ofString "IndexError") = true) rt) :
    jwp p A (exec (.Try body [.ExceptHandler (some (.Name "IndexError" np)) none (b₀ :: suite) hpos] [] [] pos) env) Q E c := .of fun s H => by
  refine wpAny_Try_except (wpAny_mono (h.run s H) (fun f s₁ z2 => z2.elim fun c₁ y20 => y20.elim fun H₁ q => ?_) fun e s₁ z2 => z2.elim fun c₁ y20 => y20.elim fun f y21 => y21.elim fun hf y22 => y22.elim fun he y23 => y23.elim fun H₁ q => ?_)
  · cases f with
    | next => exact q.run s₁ H₁
    | _ => exact ⟨c₁, H₁, q⟩
  · subst he
    obtain ⟨F, hT⟩ := hF c₁ q
    refine wpAny_mono ((flies_noteFrame F hT hf).run s₁ H₁) (fun _ s₂ ⟨c₂, H₂, f', hf', hx', ⟨T, oT, hm⟩, hc⟩ => ?_) fun e s'' z2 => z2.elim fun V y20 => y20.elim fun V y21 => y21.elim fun V y22 => y22.elim fun V y23 => y23.elim fun V q => q.elim
    rw [← hx']
    refine wpAny_mono ((flies_setFlight (fr := none) hm hf').run s₂ (hc s₂ H₂)) (fun _ s₃ ⟨c₃, H₃, f₃, hf₃, hx₃, ⟨T₃, oT₃, hm₃⟩, hc₃⟩ => ?_) fun e s'' z2 => z2.elim fun V y20 => y20.elim fun V y21 => y21.elim fun V y22 => y22.elim fun V y23 => y23.elim fun V q => q.elim
    rw [← hx₃]
    have H₃' := hc₃ s₃ H₃
    refine wpAny_handleBy_builtin (X := "IndexError") (T := "IndexError") (b := true) ie_exc ie_meta ie_self ?_
    have ev := (j_builtin (p := p) (A := A.mark (some (.ref f₃.x))) (c := c₁.fly f₃) (E := fun V => False) (env := env) (pos := np) (Q := fun v c' => v = .type "IndexError" ∧ c' = c₁.fly f₃) (m_IndexError p.w.params) (b_IndexError p.w.params) ⟨rfl, rfl⟩ hg).run s₃ H₃'
    refine wpAny_mono ev (fun v s₄ z2 => z2.elim fun c₄ y20 => y20.elim fun H₄ y21 => y21.elim fun e1 e2 => ?_) fun e s'' z2 => z2.elim fun V y20 => y20.elim fun V y21 => y21.elim fun V y22 => y22.elim fun V y23 => y23.elim fun V q => q.elim
    subst e1 e2
    refine ⟨rfl, ⟨f₃.oe, H₄.own (f₃.x, f₃.oe) List.mem_cons_self, hf₃.1⟩, ?_⟩
    rw [if_pos rfl]
    refine wpAny_mono ((flies_setFlight (fr := none) hm₃ hf₃).run s₄ H₄) (fun _ s₅ ⟨c₅, H₅, f₅, hf₅, hx₅, _, hc₅⟩ => ?_) fun e s'' z2 => z2.elim fun V y20 => y20.elim fun V y21 => y21.elim fun V y22 => y22.elim fun V y23 => y23.elim fun V q => q.elim
    have H₆ := Fly.gone s₅ (hc₅ s₅ H₅)
    exact wpAny_mono ((hs c₁ f₃.x q).run s₅ H₆) (fun V V q => q) fun e s'' z2 => z2.elim fun V y20 => y20.elim fun V y21 => y21.elim fun V y22 => y22.elim fun V y23 => y23.elim fun V q => q.elim
end
theorem piece_deep : ∀ (pl : List Nat) (t q : T), piece t pl = some q → q.deep ≤ t.deep
  | [], t, q, h => by simp only [piece, Option.some.injEq] at h; subst h; exact Nat.le_refl _
  | k :: r, .leaf s, q, h => by simp [piece] at h
  | k :: r, .node s ps, q, h => by
    simp only [piece] at h
    cases hq : ps[k]? with
    | none => rw [hq] at h; cases h
    | some p =>
      rw [hq] at h
      have h1 := piece_deep r p q h
      have h2 := deep_mem (List.mem_of_getElem? hq)
      simp only [T_deep_e1, T_deep_e2]
      omega
theorem piece_size : ∀ (pl : List Nat) (t q : T), piece t pl = some q → q.size ≤ t.size
  | [], t, q, h => by simp only [piece, Option.some.injEq] at h; subst h; exact Nat.le_refl _
  | k :: r, .leaf s, q, h => by simp [piece] at h
  | k :: r, .node s ps, q, h => by
    simp only [piece] at h
    cases hq : ps[k]? with
    | none => rw [hq] at h; cases h
    | some p =>
      rw [hq] at h
      have h1 := piece_size r p q h
      have h2 := size_le_of_get hq
      simp only [T_size_e1, T_size_e2]
      omega
mutual
theorem deep_size : ∀ t : T, t.deep ≤ 2 * t.size
  | .leaf s => by simp [T_deep_e1, T_deep_e2, T_size_e1, T_size_e2]
  | .node s ps => by
    have := deeps_sizes ps
    simp only [T_deep_e1, T_deep_e2, T_size_e1, T_size_e2]
    omega
theorem deeps_sizes : ∀ ts : List T, deeps ts ≤ 2 * sizes ts
  | [] => by simp [deeps_e1, deeps_e2, sizes_e1, sizes_e2]
  | t :: ts => by
    have h1 := deep_size t
    have h2 := deeps_sizes ts
    simp only [deeps_e1, deeps_e2, sizes_e1, sizes_e2]
    omega
end
section
variable {p : JP} {A : Around} {c : JC} {E : JC → Prop} {env : Env} {kd : Str → Addr}
theorem j_SubE {value : Expr} {y : Str} {py pos : Pos} {t : T} {v vp : Value} {pl : List Nat} {Q : Value → JC → Prop} (hroom : A.depth + pl.length + 3 < recursionLimit) (hh : A.handled = none) (FI : FramesIn A (c.nss.map (·.1)))
    (ht : EAt p.w.params kd c.Z t v) (hp : PlaceAt c.Z pl vp) (hsz : t.size ≤ 50000) (hk : ∀ n ∈ pl, n ≤ 100000) (hpl : pl.length ≤ 1000)
    (hv : ∀ {Q' : Value → JC → Prop}, Q' v c → jwp p A (eval value env) Q' E c) (hi : ∀ {Q' : Value → JC → Prop}, Q' vp c → jwp p A (eval (.Name y py) env) Q' E c)
    (h : ∀ Z' t' u, c.Z.le Z' → piece t pl = some t' → EAt p.w.params kd Z' t' u → Q u { c with Z := Z' }) (he : ∀ Z', c.Z.le Z' → piece t pl = none → E { c with Z := Z' }) :
    jwp p A (eval (.Subscript value (.Name y py) pos) env) Q E c := by
  refine j_Subscript (hv (hi ?_))
  have hrec := law_item pl (A := A.in1) hroom hh FI ht hp hsz hk hpl h he
  cases t with
  | leaf s2 =>
    obtain ⟨x2, dx2, t5, u5, ts5, n5, rfl, hx2, hd2⟩ := eat_leaf ht
    refine j_getitemInPythonObj (C := 637) (dx := dx2) ⟨.inl hx2, .inl hd2⟩ (cg637_getitem _) rfl rfl ?_
    exact j_subObj (C := 637) (dx := dx2) ⟨.inl hx2, .inl hd2⟩ (cg637_getitem _) (cn298 _) hrec
  | node s2 qs2 =>
    obtain ⟨x2, dx2, d2, l2, ys2, m2, n2, rfl, hx2, hd2, _⟩ := eat_node ht
    refine j_getitemInPythonObj (C := 561) (dx := dx2) ⟨.inl hx2, .inl hd2⟩ (cg561_getitem _) rfl rfl ?_
    exact j_subObj (C := 561) (dx := dx2) ⟨.inl hx2, .inl hd2⟩ (cg561_getitem _) (cn500 _) hrec
noncomputable def repTold : Option Repl → Option T
  | some (.one t) => some t
  | _ => none
theorem law_at {t : T} {v vp : Value} {pl : List Nat} {Q : Value → JC → Prop} (hroom : A.depth + 2 * t.size + pl.length + 10 < recursionLimit) (hh : A.handled = none) (FI : FramesIn A (c.nss.map (·.1)))
    (ht : EAt p.w.params kd c.Z t v) (hp : PlaceAt c.Z pl vp) (hsz : t.size ≤ 50000) (hk : ∀ n ∈ pl, n ≤ 100000) (hpl : pl.length ≤ 1000)
    (h : ∀ Z' u, c.Z.le Z' → OptTold Z' (piece t pl) u → Q u { c with Z := Z' }) : jwp p A (call (.ref 848) [v, vp]) Q E c := by
  obtain ⟨Z, nss, own, g⟩ := c
  dsimp only at ht hp h FI
  refine jwp_turn (jwp_turnE (j_call (jcode_fnE (F848 p.w.params) (by omega) FI (binds := [(Str.ofString "subject", v), (Str.ofString "place", vp)]) rfl fun L FI' hT => ?_)))
  refine j_cons (j_TryIE (L := L) (E₁ := fun c₁ => ∃ Z', c₁ = ⟨Z', (L, [(Str.ofString "place", vp), (Str.ofString "subject", v)]) :: nss, own, g⟩ ∧ Z.le Z' ∧ piece t pl = none) ?_ ?_ ?_)
  · refine j_cons (j_Return (j_F1 (fd := f794) (g_law_told _) rfl rfl ?_))
    refine j_SubE (t := t) (v := v) (vp := vp) (pl := pl) (by show A.depth + 1 + _ + 3 < _; omega) hh FI' ht hp hsz hk hpl (fun q => j_local (l := _) List.mem_cons_self rfl q) (fun q => j_local (l := _) List.mem_cons_self rfl q) ?_ (fun Z' le hn => ⟨Z', rfl, le, hn⟩)
    intro Z₁ t' u le hpc hu
    have hd := piece_deep pl t t' hpc
    have hs := piece_size pl t t' hpc
    have hds := deep_size t
    refine law_told t'.deep t' (Nat.le_refl _) (by show A.depth + 1 + _ + 4 < _; omega) hh hu (by omega) fun Z₂ w le₂ hw => bodyQ_ret rfl (Turn.done (h Z₂ w (le.trans le₂) ?_))
    rw [hpc]; exact hw
  · intro c₁ hX
    obtain ⟨Z', rfl, _⟩ := hX
    exact ⟨FI', hT⟩
  · intro c₁ e hX
    obtain ⟨Z', rfl, le, hn⟩ := hX
    refine j_cons (j_Return (j_cNone (bodyQ_ret rfl (Turn.done (h Z' .none le ?_)))))
    rw [hn]; rfl
theorem law_asked {t : T} {r : Repl} {v vp vr : Value} {pl : List Nat} {Q : Value → JC → Prop} (hroom : A.depth + 2 * t.size + 2 * sizes r.rows + pl.length + 40 < recursionLimit) (hh : A.handled = none) (FI : FramesIn A (c.nss.map (·.1)))
    (hkd : KindsAt p.w.params kd c.Z) (ht : EAt p.w.params kd c.Z t v) (hp : PlaceAt c.Z pl vp) (hr : RAt p.w.params kd c.Z r vr) (tok : t.Ok) (hsz : t.size + sizes r.rows ≤ 50000) (hk : ∀ n ∈ pl, n ≤ 100000) (hpl : pl.length ≤ 1000)
    (hone : ∀ r', repOf t pl r = some r' → ∃ q, r' = .one q)
    (h : ∀ Z' u, c.Z.le Z' → OptTold Z' (repTold (repOf t pl r)) u → Q u { c with Z := Z' }) : jwp p A (call (.ref 855) [v, vp, vr]) Q E c := by
  obtain ⟨Z, nss, own, g⟩ := c
  dsimp only at ht hp h FI hkd hr
  refine jwp_turn (jwp_turnE (j_call (jcode_fnE (F855 p.w.params) (by omega) FI (binds := [(Str.ofString "subject", v), (Str.ofString "place", vp), (Str.ofString "given", vr)]) rfl fun L FI' hT => ?_)))
  refine j_cons (j_TryIE (L := L) (E₁ := fun c₁ => ∃ Z', c₁ = ⟨Z', (L, [(Str.ofString "given", vr), (Str.ofString "place", vp), (Str.ofString "subject", v)]) :: nss, own, g⟩ ∧ Z.le Z' ∧ repOf t pl r = none) ?_ ?_ ?_)
  · refine j_cons (j_Return (j_F1 (fd := f794) (g_law_told _) rfl rfl ?_))
    refine j_F3 (fd := f779) (g_replace _) rfl rfl ?_
    refine j_local (l := _) List.mem_cons_self rfl (j_local (l := _) List.mem_cons_self rfl (j_local (l := _) List.mem_cons_self rfl ?_))
    refine law_replace pl (t := t) (r := r) (by show A.depth + 1 + _ + 16 < _; omega) hh FI' hkd ht hp hr tok hsz hk hpl ?_ fun Z' le hn => ⟨Z', rfl, le, hn⟩
    intro Z₁ r' u le hre hu
    obtain ⟨q, rfl⟩ := hone r' hre
    have hs := repOf_size pl t r _ hre
    have e1 : sizes (Repl.one q).rows = q.size := by simp [Repl.rows, sizes_e1, sizes_e2]
    rw [e1] at hs
    have hd := deep_size q
    refine law_told q.deep q (Nat.le_refl _) (by show A.depth + 1 + _ + 4 < _; omega) hh hu (by omega) fun Z₂ w le₂ hw => bodyQ_ret rfl (Turn.done (h Z₂ w (le.trans le₂) ?_))
    rw [hre]; exact hw
  · intro c₁ hX
    obtain ⟨Z', rfl, _⟩ := hX
    exact ⟨FI', hT⟩
  · intro c₁ e hX
    obtain ⟨Z', rfl, le, hn⟩ := hX
    refine j_cons (j_Return (j_cNone (bodyQ_ret rfl (Turn.done (h Z' .none le ?_)))))
    rw [hn]; rfl
theorem law_manyT {t : T} {v : Value} {l : Addr} {xs tb : Array Value} {m n : Nat} {rds sds : List RDeed} {Z : Zm} {nss : List (Addr × Vars)} {pre post : List (Addr × Obj)} {g : Array GenState} {Q : Value → JC → Prop}
    (hlen : ∀ d ∈ rds, d.1.length ≤ n) (hroom : A.depth + 2 * t.size + 2 * rsizes rds + n + 50 < recursionLimit) (hu : A.units + 3 * n + 50 < cLine) (hh : A.handled = none) (FI : FramesIn A (nss.map (·.1))) (hkd : KindsAt p.w.params kd Z) (ht : EAt p.w.params kd Z t v)
    (hl : (JC.mk Z nss (pre ++ (781, tabObj tb) :: post) g).Has l (LO xs m)) (hds : All2 (RDeedAt p.w.params kd Z) rds xs.toList) (LT : LT783 Z tb) (h1 : 1 ≤ rds.length) (h4 : rds.length ≤ 4) (tok : t.Ok) (hsz : t.size + rsizes rds ≤ 10000)
    (hpl : ∀ d ∈ rds, d.1.length ≤ 1000 ∧ ∀ n ∈ d.1, n ≤ 100000) (hperm : sds.Perm rds) (hsort : SortedD sds) (hone : ∀ r', manyOf n t sds = some r' → ∃ q, r' = .one q)
    (h : ∀ Z' tb' u, Z.le Z' → LT783 Z' tb' → OptTold Z' (repTold (manyOf n t sds)) u → Q u (JC.mk Z' nss (pre ++ (781, tabObj tb') :: post) g)) :
    jwp p A (call (.ref 862) [v, .ref l]) Q E (JC.mk Z nss (pre ++ (781, tabObj tb) :: post) g) := by
  refine jwp_turn (jwp_turnE (j_call (jcode_fnE (F862 p.w.params) (by omega) FI (binds := [(Str.ofString "subject", v), (Str.ofString "deeds", .ref l)]) rfl fun L FI' hT => ?_)))
  refine j_cons (j_TryIE (L := L) (E₁ := fun c₁ => ∃ Z' tb', c₁ = ⟨Z', (L, [(Str.ofString "deeds", .ref l), (Str.ofString "subject", v)]) :: nss, pre ++ (781, tabObj tb') :: post, g⟩ ∧ Z.le Z' ∧ LT783 Z' tb' ∧ manyOf n t sds = none) ?_ ?_ ?_)
  · refine j_cons (j_Return (j_F1 (fd := f794) (g_law_told _) rfl rfl ?_))
    refine j_F2 (fd := f784) (g_replace_many _) rfl rfl ?_
    refine j_local (l := _) List.mem_cons_self rfl (j_local (l := _) List.mem_cons_self rfl ?_)
    refine (law_many n).go (t := t) (rds := rds) (sds := sds) (m := m) hlen (by show A.depth + 1 + n + 40 < _; omega) (by show A.units + 3 + 3 * n + 40 < _; omega) hh FI' hkd ht (has_weak hl fun q hq => hq) hds LT h1 h4 tok hsz hpl hperm hsort ?_ fun Z' tb' le LT' hn => ⟨Z', tb', rfl, le, LT', hn⟩
    intro Z₁ tb₁ r' u le LT₁ hre hu
    obtain ⟨q, rfl⟩ := hone r' hre
    have hs := many_size n t sds _ hsort hre
    have e1 : sizes (Repl.one q).rows = q.size := by simp [Repl.rows, sizes_e1, sizes_e2]
    rw [e1, rsizes_perm hperm] at hs
    have hd := deep_size q
    refine law_told q.deep q (Nat.le_refl _) (by show A.depth + 1 + _ + 4 < _; omega) hh hu (by omega) fun Z₂ w le₂ hw => bodyQ_ret rfl (Turn.done (h Z₂ tb₁ w (le.trans le₂) (LT₁.mono le₂) ?_))
    rw [hre]; exact hw
  · intro c₁ hX
    obtain ⟨Z', tb', rfl, _⟩ := hX
    exact ⟨FI', hT⟩
  · intro c₁ e hX
    obtain ⟨Z', tb', rfl, le, LT', hn⟩ := hX
    refine j_cons (j_Return (j_cNone (bodyQ_ret rfl (Turn.done (h Z' tb' .none le LT' ?_)))))
    rw [hn]; rfl
end
theorem rd380 (P : Params) : readsIn (KK P) 380 (.type "type") = true := by kernel_rfl
theorem fc380 (P : Params) : findCls (KK P) (.ref 380) (.type "type") (Str.ofString "__new__") = some (.get (.builtin "staticmethod.__get__") (.ref 381) .none (.ref 380)) := by kernel_rfl
theorem rc381 (P : Params) : recIn (KK P) 381 "staticmethod" = some [.ref 330] := by kernel_rfl
theorem rd561 (P : Params) : readsIn (KK P) 561 (.type "type") = true := by kernel_rfl
theorem fc561 (P : Params) : findCls (KK P) (.ref 561) (.type "type") (Str.ofString "new") = some (.get (.builtin "staticmethod.__get__") (.ref 457) .none (.ref 561)) := by kernel_rfl
theorem rc457 (P : Params) : recIn (KK P) 457 "staticmethod" = some [.ref 455, .bool false] := by kernel_rfl
theorem sp561 (P : Params) : specialIn (KK P) (.ref 561) "__getattribute__" = some (some (.builtin "type.__getattribute__")) := by kernel_rfl
theorem call380 (P : Params) : specialIn (KK P) (.ref 380) "__call__" = some (some (.builtin "type.__call__")) := by kernel_rfl
theorem inst380 (P : Params) : instIn (KK P) (.ref 380) (.type "type") = some true := by kernel_rfl
section
variable {p : JP} {A : Around} {c : JC} {E : JC → Prop} {env : Env}
theorem j_clsStatic {C a : Addr} {name : Str} {f : Value} {rest : List Value} {expr : Bool} {Q : Value → JC → Prop} (hr : readsIn (KK p.w.params) C (.type "type") = true)
    (e : findCls (KK p.w.params) (.ref C) (.type "type") name = some (.get (.builtin "staticmethod.__get__") (.ref a) .none (.ref C))) (hp : recIn (KK p.w.params) a "staticmethod" = some (f :: rest)) (hv : handedIn f = true) (h : Q f c) :
    jwp p A (getAttr (.ref C) name expr) Q E c := .of fun s H =>
  cls_bind H.inK hr e (wpAny_call (sm_get (s := { s with toks := s.toks + 1 }) (H.toks (s.toks + 1)).inK hp (handed_on hv ⟨c, H.toks _, h⟩)))
theorem j_methodClsStatic {C a : Addr} {name : Str} {f : Value} {rest : List Value} {pl : Sem Bool} {Q : Value × List Value → JC → Prop} (hg : specialIn (KK p.w.params) (.ref C) "__getattribute__" = some (some (.builtin "type.__getattribute__"))) (hr : readsIn (KK p.w.params) C (.type "type") = true)
    (e : findCls (KK p.w.params) (.ref C) (.type "type") name = some (.get (.builtin "staticmethod.__get__") (.ref a) .none (.ref C))) (hp : recIn (KK p.w.params) a "staticmethod" = some (f :: rest)) (hv : handedIn f = true) (h : Q (f, []) c) :
    jwp p A (getMethod (.ref C) name pl) Q E c := .of fun s H =>
  method_cls H.inK hg (postQ.turn (f := fun v => (v, [])) ((j_clsStatic (Q := fun v => Q (v, [])) hr e hp hv h).run s H))
theorem j_peek {α : Type} {t : Sem α} {r : α} {Q : α → JC → Prop} (e : peek (KK p.w.params) ⟨PySem.Challenge.pw_jf0031_01, p.w.params⟩ t = some r) (h : Q r c) : jwp p A t Q E c := .of fun s H =>
  (Looks.of_peek (M := p.M) H.inK e).here ⟨c, H, h⟩
end
theorem pk_madeBy (P : Params) (G : Program) : peek (KK P) ⟨G, P⟩ (Bind.madeBy (.ref 380)) = some none := by kernel_rfl
theorem pk_madeHere (P : Params) (G : Program) : peek (KK P) ⟨G, P⟩ (Bind.madeHere "tuple.__new__" (.ref 380)) = some () := by kernel_rfl
theorem pk_checkNew (P : Params) (G : Program) (a : Value) : peek (KK P) ⟨G, P⟩ (checkBuiltinCall "tuple.__new__" ⟨[.ref 380, a], []⟩) = some () := by kernel_rfl
theorem pk_init (P : Params) (G : Program) : peek (KK P) ⟨G, P⟩ (typeLookup (.ref 380) "__init__") = some (some (.builtin "object.__init__")) := by kernel_rfl
theorem pk_isType (P : Params) (G : Program) : peek (KK P) ⟨G, P⟩ (isType (.ref 380)) = some true := by kernel_rfl
theorem pk_subT (P : Params) (G : Program) : peek (KK P) ⟨G, P⟩ (isSubtype (.ref 380) (.type "tuple")) = some true := by kernel_rfl
theorem pk_sub (P : Params) (G : Program) : peek (KK P) ⟨G, P⟩ (isSubtype (.ref 380) (.ref 380)) = some true := by kernel_rfl
theorem pk_hasDel (P : Params) (G : Program) : peek (KK P) ⟨G, P⟩ (classHasDel 380) = some false := by kernel_rfl
theorem pk_mro (P : Params) (G : Program) : peek (KK P) ⟨G, P⟩ (mroOf (.ref 380)) = some [.ref 380, .type "tuple", .type "object"] := by kernel_rfl
theorem fc_tupNew (P : Params) : findCls (KK P) (.type "tuple") (.type "type") (Str.ofString "__new__") = some (.val (.builtin "tuple.__new__")) := by kernel_rfl
section
variable {p : JP} {A : Around} {c : JC} {E : JC → Prop} {env : Env}
theorem j_collectTup {a : Addr} {items : Array Value} {n : Nat} {Q : List Value → JC → Prop} (ho : c.Has a (TO items n)) (hsz : items.size ≤ sizeLine) (h : Q items.toList c) : jwp p A (collect (.ref a)) Q E c := j_collectSeq ⟨n, .inr ho⟩ hsz h
theorem body_tupNew {tp : Addr} {n : Nat} {t : Tok} {Q : Value → JC → Prop} (ho : c.Has tp (TO #[.int 0 t, .bool false] n)) (h : ∀ x dx, Q (.ref x) ((c.psh dx (dictOf [] 0)).psh x (arO t dx))) :
    jwp p A (Builtin.«tuple.__new__» ⟨[.ref 380, .ref tp], []⟩) (fun fin c' => ∃ v, fin = PySem.Fin.done (.ret v) ∧ Q v c') E c := by
  unfold Builtin.«tuple.__new__»
  dsimp only
  refine jwp_bind (j_peek (pk_isType _ _) ?_)
  simp only [Bool.not_true, Bool.false_eq_true, if_false]
  refine jwp_bind (j_peek (pk_subT _ _) ?_)
  simp only [Bool.not_true, Bool.false_eq_true, if_false]
  refine jwp_bind (j_peek (pk_madeHere _ _) ?_)
  refine jwp_bind (j_peek (pk_init _ _) ?_)
  rw [if_pos (by decide)]
  refine jwp_bind (m := noKeywords "tuple" _) (jwp_pure ?_)
  refine jwp_bind (m := checkCount "tuple" 0 1 _) (jwp_pure ?_)
  rw [if_neg (by decide)]
  refine jwp_bind (j_collectTup ho (by show 2 ≤ sizeLine; unfold sizeLine; omega) ?_)
  refine jwp_bind (jwp_pure ?_)
  refine jwp_bind <| .of fun s H => wpAny_alloc ⟨_, H.push _ rfl s.toks, ?_⟩
  unfold newObj
  dsimp only
  rw [if_neg (by show ¬ (2 > sizeLine); unfold sizeLine; omega)]
  unfold newObjAsIs
  refine jwp_bind ?_
  refine jwp_bind <| .of fun s2 H2 => wpAny_alloc ⟨_, H2.push _ rfl s2.toks, ?_⟩
  dsimp only
  refine jwp_bind (j_peek (pk_hasDel _ _) ?_)
  rw [if_neg (by decide)]
  exact jwp_pure (jwp_pure ⟨_, rfl, h _ _⟩)
theorem plain_tupNew : plainId "tuple.__new__" = true := by decide +kernel
theorem j_tupNew {tp : Addr} {n : Nat} {t : Tok} {Q : Value → JC → Prop} (ho : c.Has tp (TO #[.int 0 t, .bool false] n)) (h : ∀ x dx, Q (.ref x) ((c.psh dx (dictOf [] 0)).psh x (arO t dx))) :
    jwp p A (call (.builtin "tuple.__new__") [.ref 380, .ref tp]) Q E c := .of fun s H =>
  wpAny_call (codeAny_call_builtin plain_tupNew F.entry_tuple_new ((Looks.of_peek (M := p.M) H.inK (pk_checkNew _ _ _)).here (wpAny_mono ((body_tupNew ho h).run s H) (fun fin s' z2 => z2.elim fun c' y20 => y20.elim fun H' y21 => y21.elim fun v y22 => y22.elim fun e q => by subst e; exact ⟨c', H', q⟩) fun V V x => x)))
theorem arity_new {t : Tok} {Q : Value → JC → Prop} (hroom : A.depth + 2 < recursionLimit) (h : ∀ x dx, Q (.ref x) ((c.psh dx (dictOf [] 0)).psh x (arO t dx))) :
    jcode p A (.call (.ref 330) ⟨[.ref 380, .int 0 t, .bool false], []⟩) (RetQ Q) E c := by
  obtain ⟨Z, nss, own, g⟩ := c
  refine jcode_turn (jcode_fn (F330 p.w.params) (by omega) (binds := [(Str.ofString "_cls", .ref 380), (Str.ofString "min_count", .int 0 t), (Str.ofString "fixed_size", .bool false)]) rfl fun L => ?_)
  refine j_cons (j_Doc (j_cons (j_Return ?_)))
  refine j_MethodCall ?_
  refine j_builtin (m_tuple _) (b_tuple _) ?_
  refine j_methodT rfl rfl (fc_tupNew _) rfl ?_
  refine j_callB (fun V e => by cases e) (j_args2 (j_local (l := _) List.mem_cons_self rfl (j_Tuple2 (j_local (l := _) List.mem_cons_self rfl (j_local (l := _) List.mem_cons_self rfl fun tp => ?_)))))
  refine j_tupNew (has_own List.mem_cons_self) fun x dx => bodyQ_ret rfl ?_
  exact Turn.conv (Conv.ow (List.Perm.refl _) (((List.sublist_cons_self _ _).cons_cons _).cons_cons _)) (Turn.done (h x dx))
theorem oi_plain : plainId "object.__init__" = true := by decide +kernel
theorem oi_entry : entryFor table "object.__init__" = some Builtin.«object.__init__» := entryFor_of_tree (by kernel_rfl)
theorem oi_kind : builtinKind "object.__init__" = some .slot := by decide +kernel
theorem oi_split : splitId "object.__init__" = some ("object", "__init__") := by decide +kernel
theorem oi_args (a b d : Value) : argsOk "object.__init__" ⟨[a, b, d], []⟩ := by unfold argsOk; kernel_rfl
theorem mro380o (P : Params) : mroIn (KK P) 380 (.type "object") = some true := by kernel_rfl
theorem j_arType {x dx : Addr} {t : Tok} {Q : Value → JC → Prop} (ho : c.Has x (arO t dx)) (h : Q (.ref 380) c) : jwp p A (typeOf (.ref x)) Q E c := .of fun s H => (arType (M := p.M) (ho.get H)).here ⟨c, H, h⟩
theorem arity_objInit {x dx : Addr} {t : Tok} {a b : Value} {Q : Value → JC → Prop} (ho : c.Has x (arO t dx)) (h : Q .none c) : jwp p A (call (.builtin "object.__init__") [.ref x, a, b]) Q E c := .of fun s H => by
  have LI : Looks p.M s.heap (isInstance (.ref x) (.type "object")) true := (arType (ho.get H)).andThen (looks_mroIn H.inK (mro380o _))
  have args := oi_args (.ref x) a b
  have chk : ∀ (Q' : Unit → Shared → Prop), Q' () s → wpAny p.M A.in1 (checkBuiltinCall "object.__init__" ⟨[.ref x, a, b], []⟩) Q' (postE p E) s := fun Q' q => by
    simp only [checkBuiltinCall, oi_kind, oi_split]
    refine wpAny_bind (LI.here ?_)
    simp only [Bool.not_true, Bool.false_eq_true, if_false]
    have ha := oi_args (.ref x) a b
    cases hsig : Manifest.signature? "object.__init__" with
    | none => exact wpAny_pure q
    | some sig =>
      simp only [argsOk, hsig] at ha
      show wpAny p.M A.in1 (Bind.checkArgs "object.__init__" sig ⟨[.ref x, a, b], []⟩) Q' (postE p E) s
      rw [ha]; exact wpAny_pure q
  refine wpAny_call (codeAny_call_builtin (prog := PySem.Challenge.pw_jf0031_01) (w := p.w) (id := "object.__init__") (args := ⟨[.ref x, a, b], []⟩) (b := Builtin.«object.__init__») oi_plain oi_entry ?_)
  refine chk _ ?_
  have body : jwp p A.in1 (Builtin.«object.__init__» ⟨[.ref x, a, b], []⟩) (fun fin c' => ∃ v, fin = PySem.Fin.done (.ret v) ∧ Q v c') E c := by
    unfold Builtin.«object.__init__»
    dsimp only
    rw [if_pos (show (![a, b].isEmpty || !([] : List (Str × Value)).isEmpty) = true from rfl)]
    refine jwp_bind (j_arType ho (jwp_bind (j_peek (pk_init _ _) ?_)))
    refine jwp_bind (j_peek (pk_madeBy _ _) ?_)
    rw [if_neg (by decide), if_neg (by decide)]
    exact jwp_pure ⟨_, rfl, h⟩
  exact wpAny_mono (body.run s H) (fun fin s' z2 => z2.elim fun c' y20 => y20.elim fun H' y21 => y21.elim fun v y22 => y22.elim fun e q => by subst e; exact ⟨c', H', q⟩) fun V V x => x
theorem arity_call {t : Tok} {Q : Value → JC → Prop} (hroom : A.depth + 4 < recursionLimit) (h : ∀ x dx, Q (.ref x) ((c.psh dx (dictOf [] 0)).psh x (arO t dx))) :
    jcode p A (.call (.ref 380) ⟨[.int 0 t, .bool false], []⟩) (RetQ Q) E c := .of fun s H => by
  have X := H.inK
  have hC : s.heap.get? 380 = some (k380 p.w.params) := X _ _ rfl
  have call := looks_specialIn (M := p.M) X (call380 p.w.params)
  have typ := looks_instIn (M := p.M) X (inst380 p.w.params)
  refine codeAny_of_tree ?_
  show wpAny _ _ (callAny (.ref 380) _) _ _ _
  refine nd_load hC ?_
  show wpAny _ _ (callAny.viaDunder (.ref 380) _) _ _ _
  unfold callAny.viaDunder
  refine wpAny_bind (call.here ?_)
  dsimp only
  rw [tc_bind]
  refine wpAny_bind (wpAny_pure (wpAny_bind (wpAny_pure ?_)))
  refine wpAny_pure (a := Fin.again (.call (.builtin "type.__call__") ⟨[.ref 380, .int 0 t, .bool false], []⟩)) (And.intro rfl ?_)
  refine codeAny_call_builtin_at (Code.quiet_builtin _ (by decide +kernel)) entry_typeCall (check_slot tc_kind tc_split typ (tc_args _ _ _) ?_)
  have body : jwp p (A.under (.builtin "type.__call__" ⟨[.ref 380, .int 0 t, .bool false], []⟩)) (Builtin.«type.__call__» ⟨[.ref 380, .int 0 t, .bool false], []⟩) (fun fin c' => ∃ v, fin = PySem.Fin.done (.ret v) ∧ Q v c') E c := by
    unfold Builtin.«type.__call__»
    dsimp only
    rw [if_neg (by decide)]
    refine jwp_bind (j_peek (pk_mro _ _) ?_)
    rw [if_neg (by decide)]
    refine jwp_bind (j_peek (pk_madeBy _ _) ?_)
    dsimp only
    refine jwp_bind (j_clsStatic (rd380 _) (fc380 _) (rc381 _) rfl ?_)
    refine jwp_bind (jwp_holding (j_call (arity_new (by show A.depth + 1 + 2 < _; omega) fun x dx => ?_)))
    have ho : (JC.mk c.Z c.nss ((x, arO t dx) :: (dx, dictOf [] 0) :: c.own) c.gens).Has x (arO t dx) := has_own List.mem_cons_self
    unfold isInstance callSpecial? specialOf
    refine jwp_bind (jwp_bind (j_arType ho (j_peek (pk_sub _ _) ?_)))
    rw [if_neg (by decide)]
    refine jwp_bind (jwp_holding (jwp_bind (jwp_bind (j_arType ho (j_peek (pk_init _ _) ?_)))))
    dsimp only
    rw [oi_bind]
    refine jwp_holding (jwp_bind (jwp_pure (jwp_bind (arity_objInit ho (jwp_pure ?_)))))
    dsimp only
    rw [if_neg (by decide)]
    exact jwp_pure ⟨_, rfl, h x dx⟩
  refine wpAny_mono (body.run s H) (fun fin s' z2 => z2.elim fun c' y20 => y20.elim fun H' y21 => y21.elim fun v y22 => y22.elim fun e q => by subst e; exact ⟨c', H', q⟩) fun V V x => x
end
theorem pk_seq (P : Params) (G : Program) : peek (KK P) ⟨G, P⟩ (seqItemTypes.anyM fun n => isSubtype (.ref 380) (.type n)) = some false := by kernel_rfl
theorem pk_getitem (P : Params) (G : Program) : peek (KK P) ⟨G, P⟩ (typeLookup (.ref 380) "__getitem__") = some (some (.builtin "tuple.__getitem__")) := by kernel_rfl
theorem tgi_bind (v : Value) : bindSpecial (.builtin "tuple.__getitem__") v = pure (.builtin "tuple.__getitem__", [v]) := F.slot_tuple_getitem.bind v
section
variable {p : JP} {A : Around} {c : JC} {E : JC → Prop} {env : Env} {ar ad : Addr} {t : Tok}
theorem j_getitemInPythonAr {Q : Bool → JC → Prop} (ho : c.Has ar (arO t ad)) (h : Q false c) : jwp p A (getitemInPython (.ref ar)) Q E c := by
  unfold getitemInPython specialOf
  refine jwp_bind (jwp_bind (j_arType ho (j_peek (pk_getitem _ _) ?_)))
  exact jwp_pure h
theorem j_arGetItem {u : Tok} {i : Nat} {v : Value} {Q : Value → JC → Prop} (ho : c.Has ar (arO t ad)) (hi : (#[.int 0 t, .bool false] : Array Value)[i]? = some v) (h : Q v c) : jwp p A (getItem (.ref ar) (.int (i : Int) u)) Q E c := by
  unfold getItem
  refine jwp_holding (jwp_bind ?_)
  unfold sequenceKey
  refine jwp_bind (j_arType ho (jwp_bind ?_))
  dsimp only
  refine j_peek (pk_seq _ _) ?_
  rw [if_pos (by rfl)]
  refine jwp_pure (jwp_bind ?_)
  unfold callSpecial? specialOf
  refine jwp_bind (jwp_bind (j_arType ho (j_peek (pk_getitem _ _) ?_)))
  dsimp only
  refine jwp_holding ?_
  rw [tgi_bind]
  refine jwp_bind (jwp_pure (jwp_bind (j_arItem ho hi (jwp_pure (jwp_pure h)))))
theorem j_isTrueSub {v i : Expr} {pos : Pos} {whole : Sem Value} {Q : Bool → JC → Prop} (h : jwp p A whole (fun v c₁ => jwp p A (truthy v) Q E c₁) E c) : jwp p A (isTrue (.Subscript v i pos) env whole) Q E c := by
  show jwp p A (whole >>= fun v => standAt _ >>= fun V => holding [v] (truthy v)) Q E c
  exact jwp_bind (h.mono (fun v V q => j_standThen (jwp_holding q)) fun V V x => x)
theorem meta_init {x dx : Addr} {s : Str} {ts : Tok} {b : Bool} {cn : Value} {own : List (Addr × Obj)} {Q : Value → JC → Prop} (hroom : A.depth + 2 < recursionLimit) (hown : c.own = (x, instObj 415 dx) :: (dx, dictOf [] 0) :: own) (ho : c.Has ar (arO t ad))
    (h : ∀ q : KiD, q.ar = ar → q.ad = ad → q.ta = t → q.cn = cn → ∀ n, Q .none (c.sto ((x, instObj 415 dx) :: (dx, dictOf (kindE p.w.params q s b) n) :: own))) :
    jcode p A (.call (.ref 397) ⟨[.ref x, .str s ts, .ref ar, cn, .bool b, .bool false, .bool false], []⟩) (RetQ Q) E c := by
  obtain ⟨Z, nss, own', g⟩ := c
  dsimp only at hown h
  subst hown
  have ho' : (ar, arO t ad) ∈ own ∨ Z ar = some (arO t ad) := by
    rcases ho with ho | ho
    · exact .inr ho
    · dsimp only at ho
      rcases List.mem_cons.mp ho with e | ho
      · cases e
      · rcases List.mem_cons.mp ho with e | ho
        · cases e
        · exact .inl ho
  have hoA : ∀ {nss' : List (Addr × Vars)} {o1 o2 : Addr × Obj}, (JC.mk Z nss' (o1 :: o2 :: own) g).Has ar (arO t ad) := fun {_ _ _} => by
    rcases ho' with ho | ho
    · exact .inr (List.mem_cons_of_mem _ (List.mem_cons_of_mem _ ho))
    · exact .inl ho
  refine jcode_fn (F397 p.w.params) (by omega) (binds := [(Str.ofString "cls", .ref x), (Str.ofString "name", .str s ts), (Str.ofString "arity", .ref ar), (Str.ofString "class_name", cn), (Str.ofString "associative", .bool b), (Str.ofString "commutative", .bool false), (Str.ofString "one_identity", .bool false)]) rfl fun L => ?_
  refine j_cons (j_AssignAttr (j_local (l := _) List.mem_cons_self rfl (j_local (l := _) List.mem_cons_self rfl ?_)))
  refine j_setOwn (C := 415) (dx := dx) (pre := [_]) (.inr (by trivial)) rfl (cs415_name _) rfl (by decide) fun t1 => ?_
  refine j_cons (j_AssignAttr (j_local (l := _) List.mem_cons_self rfl (j_local (l := _) List.mem_cons_self rfl ?_)))
  refine j_setOwn (C := 415) (dx := dx) (pre := [_]) (.inr (by trivial)) rfl (cs415_arity _) rfl (by show 1 ≤ 900; decide) fun t2 => ?_
  refine j_cons (j_AssignAttr (j_local (l := _) List.mem_cons_self rfl (j_local (l := _) List.mem_cons_self rfl ?_)))
  refine j_setOwn (C := 415) (dx := dx) (pre := [_]) (.inr (by trivial)) rfl (cs415_class_name _) rfl (by show 2 ≤ 900; decide) fun t3 => ?_
  refine j_cons (j_AssignAttr (j_local (l := _) List.mem_cons_self rfl (j_local (l := _) List.mem_cons_self rfl ?_)))
  refine j_setOwn (C := 415) (dx := dx) (pre := [_]) (.inr (by trivial)) rfl (cs415_associative _) rfl (by show 3 ≤ 900; decide) fun t4 => ?_
  refine j_cons (j_AssignAttr (j_local (l := _) List.mem_cons_self rfl (j_local (l := _) List.mem_cons_self rfl ?_)))
  refine j_setOwn (C := 415) (dx := dx) (pre := [_]) (.inr (by trivial)) rfl (cs415_commutative _) rfl (by show 4 ≤ 900; decide) fun t5 => ?_
  refine j_cons (j_AssignAttr (j_local (l := _) List.mem_cons_self rfl (j_local (l := _) List.mem_cons_self rfl ?_)))
  refine j_setOwn (C := 415) (dx := dx) (pre := [_]) (.inr (by trivial)) rfl (cs415_one_identity _) rfl (by show 5 ≤ 900; decide) fun t6 => ?_
  dsimp only
  refine j_cons (j_If (j_isTrueBoolOp (j_allTrueAnd (j_isTrueSub (j_Subscript (j_Attribute (j_local (l := _) List.mem_cons_self rfl ?_)))))))
  refine j_getOwn (C := 415) (x := x) (dx := dx) ⟨.inr (by trivial), .inr (List.mem_cons_of_mem _ List.mem_cons_self)⟩ (ca415_arity _) rfl rfl ?_
  refine j_cInt fun t7 => j_getitemInPythonAr hoA (j_subPlain (j_arGetItem (i := 1) hoA rfl (j_truthyBool ?_)))
  refine ifF ?_
  refine j_nil (j_nil (bodyQ_next rfl ?_))
  exact h ⟨t1, t2, t3, t4, t5, t6, ts, t, ar, ad, cn⟩ rfl rfl rfl rfl _
end
theorem pk_bind455 (P : Params) (G : Program) (a b v : Value) : peek (KK P) ⟨G, P⟩ (bindArgs f455 ⟨[a, b], [(Str.ofString "associative", v)]⟩) = some [(Str.ofString "name", a), (Str.ofString "arity", b), (Str.ofString "class_name", .none), (Str.ofString "associative", v), (Str.ofString "commutative", .bool false), (Str.ofString "one_identity", .bool false)] := by kernel_rfl
section
variable {p : JP} {A : Around} {c : JC} {E : JC → Prop} {env : Env} {ar ad : Addr} {t : Tok}
theorem j_Or2 {a b : Expr} {pos : Pos} {Q : Value → JC → Prop} (h : jwp p A (eval a env) (fun v c₁ => jwp p A (truthy v) (fun t c₂ => if t = true then Q v c₂ else jwp p A (eval b env) Q E c₂) E c₁) E c) : jwp p A (eval (.BoolOp .Or [a, b] pos) env) Q E c := by
  rw [arm_eval_BoolOp]
  show jwp p A (eval a env >>= fun v => standAt pos >>= fun V => holding [v] (truthy v) >>= _) Q E c
  refine jwp_bind (h.mono (fun v c₁ q => j_standThen (jwp_bind (jwp_holding (q.mono (fun t c₂ q => ?_) fun V V x => x)))) fun V V x => x)
  cases t with
  | true => exact jwp_pure q
  | false => exact q
theorem j_truthyNone {Q : Bool → JC → Prop} (h : Q false c) : jwp p A (truthy .none) Q E c := jwp_pure h
theorem j_args6 {pos : Pos} {f : Value} {e1 e2 e3 e4 e5 e6 : Expr} {Q : Args → JC → Prop}
    (h : jwp p A (eval e1 env) (fun v1 c₁ => jwp p A (eval e2 env) (fun v2 c₂ => jwp p A (eval e3 env) (fun v3 c₃ => jwp p A (eval e4 env) (fun v4 c₄ => jwp p A (eval e5 env) (fun v5 c₅ => jwp p A (eval e6 env) (fun v6 => Q ⟨[v1, v2, v3, v4, v5, v6], []⟩) E c₅) E c₄) E c₃) E c₂) E c₁) E c)
    (hs : autoParam (starEach [e1, e2, e3, e4, e5, e6] env = [(false, eval e1 env), (false, eval e2 env), (false, eval e3 env), (false, eval e4 env), (false, eval e5 env), (false, eval e6 env)]) rt) : jwp p A (evalArgs f true (backTo pos (starEach [e1, e2, e3, e4, e5, e6] env)) []) Q E c := by
  rw [hs]
  exact j_args (j_splicedCons (h.mono (fun V V q => j_splicedCons (q.mono (fun V V q => j_splicedCons (q.mono (fun V V q => j_splicedCons (q.mono (fun V V q => j_splicedCons (q.mono (fun V V q => j_splicedCons (q.mono (fun V V q => j_splicedNil q) fun V V x => x)) fun V V x => x)) fun V V x => x)) fun V V x => x)) fun V V x => x)) fun V V x => x))
theorem op_new {s : Str} {ts : Tok} {b : Bool} {Q : Value → JC → Prop} (hroom : A.depth + 5 < recursionLimit) (ho : c.Has ar (arO t ad))
    (h : ∀ x dx q n, q.ar = ar → q.ad = ad → q.ta = t → Q (.ref x) ((c.psh dx (dictOf (kindE p.w.params q s b) n)).psh x (instObj 415 dx))) :
    jcode p A (.call (.ref 455) ⟨[.str s ts, .ref ar], [(Str.ofString "associative", .bool b)]⟩) (RetQ Q) E c := by
  obtain ⟨Z, nss, own, g⟩ := c
  refine jcode_turn (jcode_fnB (F455 p.w.params) (by omega) (j_peek (pk_bind455 _ _ _ _ _) ⟨rfl, fun L => ?_⟩))
  refine j_cons (j_Doc (j_cons (j_Assign ?_)))
  refine j_Or2 (j_local (l := _) List.mem_cons_self rfl (j_truthyNone ?_))
  rw [if_neg (by decide)]
  refine j_local (l := _) List.mem_cons_self rfl (j_store0 ?_)
  refine j_cons (j_Return ?_)
  refine j_CallName (j_global (g_OperationMeta _) ?_)
  refine j_callCls (cm415 _) (j_args6 ?_)
  refine j_local (l := _) List.mem_cons_self rfl (j_local (l := _) List.mem_cons_self rfl (j_local (l := _) List.mem_cons_self rfl (j_local (l := _) List.mem_cons_self rfl (j_local (l := _) List.mem_cons_self rfl (j_local (l := _) List.mem_cons_self rfl ?_)))))
  refine j_newObj (cm415 _) (ci415 _) (cf397 _) fun x dx => ?_
  refine meta_init (own := own) (by show A.depth + 1 + 1 + 2 < _; omega) rfl (ho.imp id fun m => List.mem_cons_of_mem _ (List.mem_cons_of_mem _ m)) fun q h1 h2 h3 h4 n => ⟨rfl, ?_⟩
  exact bodyQ_ret rfl (Turn.done (h x dx q n h1 h2 h3))
end
end Jf.Internal
namespace Jf.Internal
open PySem PySem.W PySem.Calls PyProof.Rows PySem.W.X
structure jseg (p : JP) (A : Around) (cd : Code) (t : Sem Fin) (fs : List Frame) (P : End → JC → Prop) (c : JC) : Prop where of ::
  run : ∀ s, c.At p s → SegX p.M A cd t fs s (fun e s' => ∃ c', c'.At p s' ∧ P e c')
section
variable {p : JP} {A : Around} {cd : Code} {fs : List Frame} {P : End → JC → Prop} {c : JC}
theorem jseg_wrap {α : Type} {m : Sem α} {K : α → Sem Fin} {H : Value → Sem Fin} {gd : Bool → Bool} {lv : List Value → List Value}
    (h : jwp p (A.over cd fs) m (fun a c' => jseg p A cd (K a) fs P c') (fun V => False) c) : jseg p A cd (m.wrap K H gd lv) fs P c := .of fun s Hs => by
  rintro Γ q rfl hΓ
  obtain ⟨e, s', hr, hq⟩ := runs_wrap_of_wp (Φ := fun e s' => e.quiet = true ∧ ∃ c', c'.At p s' ∧ P e c') K H gd lv m (h.run s Hs (Γ.over fs) q (hΓ.over fs)) (fun a p' s' z3 => z3.elim fun c' y30 => y30.elim fun H' h' => h'.run s' H' Γ p' rfl hΓ) (fun x p' s' z3 => z3.elim fun V y30 => y30.elim fun V y31 => y31.elim fun V y32 => y32.elim fun V y33 => y33.elim fun V f => f.elim)
  exact ⟨e, s', hr, hq⟩
theorem jseg_bindw {α β : Type} {m : Sem α} {f : α → Sem β} {K : β → Sem Fin} {H : Value → Sem Fin} {gd : Bool → Bool} {lv : List Value → List Value}
    (h : jwp p (A.over cd fs) m (fun a c' => jseg p A cd ((f a).wrap K H gd lv) fs P c') (fun V => False) c) : jseg p A cd ((m >>= f).wrap K H gd lv) fs P c := by
  rw [Sem.bind_eq_wrap', Sem.wrap_wrap]; exact jseg_wrap h
theorem jseg_conv {t : Sem Fin} {c' : JC} (hc : Conv p c c') (h : jseg p A cd t fs P c') : jseg p A cd t fs P c := .of fun s H => h.run s (hc s H)
theorem jseg_call {c' : Code} {hd : Option Value} {g : Bool} {l : List Value} {k : Result → Sem Fin} (h : ∀ q, jseg p A c' (denote table c') (.ret k hd g l cd q [] :: fs) P c) : jseg p A cd (.call c' hd g l k) fs P c := .of fun s H =>
  s_call PySem.Challenge.pw_jf0031_01 p.w A cd fs _ s c' hd g l k fun q => (h q).run s H
theorem jseg_again {c' : Code} (hq : c'.quiet = true) (h : jseg p A c' (denote table c') fs P c) : jseg p A cd (.pure (.again c')) fs P c := .of fun s H =>
  s_again PySem.Challenge.pw_jf0031_01 p.w A cd fs _ s c' hq (h.run s H)
theorem jseg_pop {f : Flow} {k : Result → Sem Fin} {hd : Option Value} {g : Bool} {l : List Value} {c₁ : Code} {p₁ : Pos} {kp : List Value} (h : jseg p A c₁ (k (.ok f)) fs P c) : jseg p A cd (.pure (.done f)) (.ret k hd g l c₁ p₁ kp :: fs) P c := .of fun s H =>
  s_pop PySem.Challenge.pw_jf0031_01 p.w A cd fs _ s (.ok f) _ rfl k hd g l c₁ p₁ kp (h.run s H)
theorem jseg_end {f : Flow} (h : P (.ret (.ok f)) c) : jseg p A cd (.pure (.done f)) [] P c := .of fun s H =>
  s_end PySem.Challenge.pw_jf0031_01 p.w A cd _ s (.ok f) _ rfl ⟨c, H, h⟩
theorem jseg_yield {v : Value} {g : Bool} {l : List Value} {k : Resume → Sem Fin} (hfs : splitAtGen fs = none) (hg : g = false) (hfg : fs.any Frame.guarded = false) (h : ∀ q, P (.susp v false l k cd q fs) c) : jseg p A cd (.yield v g l k) fs P c := .of fun s H => by
  subst hg
  exact s_yield PySem.Challenge.pw_jf0031_01 p.w A cd fs _ s v l k hfs hfg fun q => ⟨c, H, h q⟩
theorem jseg.mono {t : Sem Fin} {P' : End → JC → Prop} (h : jseg p A cd t fs P c) (hP : ∀ e c, P e c → P' e c) : jseg p A cd t fs P' c := .of fun s H => (h.run s H).mono fun e s' z2 => z2.elim fun c' y20 => y20.elim fun H' q => ⟨c', H', hP e c' q⟩
variable {env : Env} {K : Flow → Sem Fin} {H : Value → Sem Fin} {gd : Bool → Bool} {lv : List Value → List Value}
theorem jseg_cons {st : Stmt} {rest : List Stmt} (h : jseg p A cd ((exec st env).wrap (fun f => match f with | .next => (execs rest env).wrap K H gd lv | f => K f) H gd lv) fs P c) : jseg p A cd ((execs (st :: rest) env).wrap K H gd lv) fs P c := by
  rw [execs_cons_wrap]; exact h
theorem jseg_nil (h : jseg p A cd (K .next) fs P c) : jseg p A cd ((execs [] env).wrap K H gd lv) fs P c := h
theorem jseg_stmt {st : Stmt} (h : jwp p (A.over cd fs) (exec st env) (fun f c' => jseg p A cd (K f) fs P c') (fun V => False) c) : jseg p A cd ((exec st env).wrap K H gd lv) fs P c := jseg_wrap h
noncomputable def funK : Flow → Sem Fin := fun f => .pure (.done (.ret (match f with | .ret v => v | _ => .none)))
theorem jseg_func {body : List Stmt} (h : jseg p A (.func body env) ((execs body env).wrap funK (fun e => (leaving env e).wrap (fun V => .raise e) .raise id id) id id) fs P c) : jseg p A (.func body env) (denote table (.func body env)) fs P c := by
  show jseg p A _ (.point [] fun V => ((execs body env).onRaise (leaving env)) >>= _) fs P c
  have e : (((execs body env).onRaise (leaving env)) >>= fun f => match f with | .ret v => ret v | _ => ret .none : Sem Fin) = (execs body env).wrap funK (fun e => (leaving env e).wrap (fun V => .raise e) .raise id id) id id := by
    rw [Sem.onRaise_eq_wrap, Sem.bind_eq_wrap', Sem.wrap_wrap]
    exact Sem.wrap_congr (execs body env) _ _ (fun f => by cases f <;> rfl) (fun e => by rw [Sem.bind_eq_wrap, Sem.wrap_wrap]; rfl)
  have hp := jseg_wrap (p := p) (A := A) (cd := .func body env) (fs := fs) (P := P) (c := c) (m := point) (K := fun V => (execs body env).wrap funK (fun e => (leaving env e).wrap (fun V => .raise e) .raise id id) id id) (H := .raise) (gd := id) (lv := fun V => []) (j_point h)
  rw [← e] at hp
  exact hp
end
noncomputable def forK (K : Flow → Sem Fin) (H : Value → Sem Fin) (gd : Bool → Bool) (lv : List Value → List Value) (env : Env) : Result → Sem Fin := fun r =>
  ((match r with | .ok f => (.pure f : Sem Flow) | .error e => .raise e).onRaise fun (x : Value) => do
    if (← field x 1) == Value.none then unsupported "frame.own-activation:exception-without-traceback"
    setFlight x env.frame).wrap K H gd lv
noncomputable def turnK (fl : Code) : Flow → Sem Fin
  | .next | .cont => .pure (.again fl)
  | .brk => .pure (.done .next)
  | .ret v => .pure (.done (.ret v))
noncomputable def turnH (env : Env) : Value → Sem Fin := fun e => (do noteFrame e env; theTreesLotGoes e : Sem Unit).wrap (fun V => .raise e) .raise id id
section
variable {p : JP} {A : Around} {cd : Code} {fs : List Frame} {P : End → JC → Prop} {c : JC} {env : Env} {K : Flow → Sem Fin} {H : Value → Sem Fin} {gd : Bool → Bool} {lv : List Value → List Value}
theorem jseg_For {target iter : Expr} {body orelse : List Stmt} {pos : Pos}
    (h : jwp p (A.over cd fs) (eval iter env) (fun x c₁ => jwp p (A.over cd fs) (pyIter x) (fun it c₂ => ∀ q, jseg p A (.forLoop target it body orelse env) (denote table (.forLoop target it body orelse env)) (.ret (forK K H gd lv env) none (gd false) (lv []) cd q [] :: fs) P c₂) (fun V => False) c₁) (fun V => False) c)
    (hs : autoParam (∀ x, foldedSetIterable iter env x = pure x) rt) : jseg p A cd ((exec (.For target iter body orelse pos) env).wrap K H gd lv) fs P c := by
  rw [exec_For]
  refine jseg_bindw (j_standAt (jseg_bindw (h.mono (fun x c₁ q => ?_) fun V V x => x)))
  rw [hs]
  refine jseg_bindw (jwp_pure (jseg_bindw (j_standAt (jseg_bindw (jwp_holding (q.mono (fun it c₂ q => ?_) fun V V x => x))))))
  exact jseg_call q
theorem forTurn_eq {target : Expr} {it : Value} {body orelse : List Stmt} : denote table (.forLoop target it body orelse env) =
    (standAt target.pos >>= fun V => (pyNext it).onRaise (fun V => standAt { target.pos with line := 0 }) >>= fun r => match r with
      | none => (pure (.again (.block orelse env)) : Sem Fin)
      | some v => letOwnedTupleGo target it v >>= fun V => assign target env v >>= fun V => execs body env >>= fun f => match f with
        | .next | .cont => pure (.again (.forLoop target it body orelse env))
        | .brk => pure (.done .next)
        | .ret v => pure (.done (.ret v))).wrap .pure (turnH env) id id := by
  show (forTurn target it body orelse env).onRaise (fun x => do noteFrame x env; theTreesLotGoes x) = _
  unfold forTurn
  rw [Sem.onRaise_eq_wrap]
  refine Sem.wrap_congr _ _ _ (fun V => rfl) (fun e => ?_)
  unfold turnH
  first | exact Sem.bind_eq_wrap _ _ | (show (do noteFrame e env; theTreesLotGoes e : Sem Unit).bind (fun V => .raise e) = _; rw [Sem.bind_eq_wrap])
theorem j_onRaiseF {α : Type} {A' : Around} {m : Sem α} {k : Value → Sem Unit} {Q : α → JC → Prop} (h : jwp p A' m Q (fun V => False) c) : jwp p A' (m.onRaise k) Q (fun V => False) c := .of fun s Hs =>
  wpAny_onRaise (wpAny_mono (h.run s Hs) (fun V V q => q) fun e s' z2 => z2.elim fun V y20 => y20.elim fun V y21 => y21.elim fun V y22 => y22.elim fun V y23 => y23.elim fun V f => f.elim)
theorem jseg_forTurn {target : Expr} {it : Value} {body orelse : List Stmt}
    (h : jwp p (A.over (.forLoop target it body orelse env) fs) (pyNext it) (fun r c₁ => match r with
      | none => jseg p A (.block orelse env) (denote table (.block orelse env)) fs P c₁
      | some v => jwp p (A.over (.forLoop target it body orelse env) fs) (letOwnedTupleGo target it v) (fun V c₂ => jwp p (A.over (.forLoop target it body orelse env) fs) (assign target env v) (fun V c₃ =>
          jseg p A (.forLoop target it body orelse env) ((execs body env).wrap (turnK (.forLoop target it body orelse env)) (turnH env) id id) fs P c₃) (fun V => False) c₂) (fun V => False) c₁) (fun V => False) c) :
    jseg p A (.forLoop target it body orelse env) (denote table (.forLoop target it body orelse env)) fs P c := by
  rw [forTurn_eq]
  refine jseg_bindw (j_standAt (jseg_bindw (j_onRaiseF (h.mono (fun r c₁ q => ?_) fun V V x => x))))
  cases r with
  | none => exact jseg_again rfl q
  | some v =>
    refine jseg_bindw (q.mono (fun V c₂ q => jseg_bindw (q.mono (fun V c₃ q => ?_) fun V V x => x)) fun V V x => x)
    rw [Sem.bind_eq_wrap', Sem.wrap_wrap]
    have e : (execs body env).wrap (turnK (.forLoop target it body orelse env)) (turnH env) id id = (execs body env).wrap (fun f => Sem.wrap Sem.pure (turnH env) id id (match f with
        | .next | .cont => pure (.again (.forLoop target it body orelse env))
        | .brk => pure (.done .next)
        | .ret v => pure (.done (.ret v)))) (fun e => Sem.wrap Sem.pure (turnH env) id id (.raise e)) id id :=
      Sem.wrap_congr _ _ _ (fun f => by cases f <;> rfl) fun V => rfl
    rw [e] at q
    exact q
theorem jseg_blockNil {k : Result → Sem Fin} {hd : Option Value} {g : Bool} {l : List Value} {c₁ : Code} {p₁ : Pos} {kp : List Value} (h : jseg p A c₁ (k (.ok .next)) fs P c) : jseg p A (.block [] env) (denote table (.block [] env)) (.ret k hd g l c₁ p₁ kp :: fs) P c := by
  show jseg p A _ (.pure (.done .next)) _ P c
  exact jseg_pop h
theorem jseg_yieldS {e : Expr} {ypos pos : Pos} (hfs : splitAtGen fs = none) (hgd : gd false = false) (hfg : fs.any Frame.guarded = false)
    (h : jwp p (A.over cd fs) (eval e env) (fun v c₁ => ∀ q l k, (∀ A' P' c', jseg p A' cd (K .next) fs P' c' → jseg p A' cd (k (.send .none)) fs P' c') → P (.susp v false l k cd q fs) c₁) (fun V => False) c)
    (hco : autoParam (env.scope.isCoroutine = false) rt) (hi : autoParam (interactive env = false) rt) : jseg p A cd ((exec (.Expr (.Yield (some e) ypos) pos) env).wrap K H gd lv) fs P c := by
  rw [exec_Expr env _ pos hi rfl]
  show jseg p A cd (((standAt pos >>= fun V => (eval e env >>= fun v => (standAt ypos >>= fun V => yieldOut env v)) >>= fun x => dropValue (.Yield (some e) ypos) pos x) : Sem Flow).wrap K H gd lv) fs P c
  have hy : ∀ v, yieldOut env v = yieldValue v := fun v => by simp only [yieldOut, hco, Bool.false_eq_true, if_false]
  simp only [hy]
  refine jseg_bindw (j_standAt ?_)
  rw [Sem.bind_eq_wrap', Sem.bind_eq_wrap', Sem.wrap_wrap, Sem.wrap_wrap]
  refine jseg_wrap (h.mono (fun v c₁ q => ?_) fun V V x => x)
  refine jseg_wrap (m := standAt ypos) (H := .raise) (gd := id) (lv := id) (j_standAt ?_)
  exact jseg_yield hfs hgd hfg fun q' => q q' (lv []) _ fun A' P' c' hk => hk
end
namespace JC
variable {p : JP} {c : JC} {s : Shared}
theorem At.add (H : c.At p s) {a : Addr} {o : Obj} (hg : s.heap.get? a = some o) (hn : a ∉ c.addrs) (hz : c.Z a = none) : ({ c with own := (a, o) :: c.own } : JC).At p s := by
  refine ⟨H.d, H.os, H.gens, H.k, H.z, H.ns, fun q hq => ?_, ?_, fun b hb => ?_⟩
  · rcases List.mem_cons.mp hq with rfl | hq
    · exact hg
    · exact H.own q hq
  · have := H.sep
    simp only [JC.addrs, List.map_cons] at hn this ⊢
    rw [nodup_middle, List.nodup_cons]
    exact ⟨hn, this⟩
  · simp only [JC.addrs, List.map_cons] at hb
    rcases List.mem_append.mp hb with hb | hb
    · exact H.off b (List.mem_append_left _ hb)
    · rcases List.mem_cons.mp hb with rfl | hb
      · exact hz
      · exact H.off b (List.mem_append_right _ hb)
theorem At.mv (H : c.At p s) {h' : Heap} {bad : List Addr} (hb : ∀ b ∈ bad, b ∉ c.addrs ∧ c.Z b = none) (hk : ∀ b o, b ∉ bad → s.heap.get? b = some o → h'.get? b = some o) (t : Nat) : c.At p { s with heap := h', toks := t } := by
  have inZ : ∀ a o, c.Z a = some o → a ∉ bad := fun a o e m => by rw [(hb a m).2] at e; cases e
  have inA : ∀ a ∈ c.addrs, a ∉ bad := fun a ha m => (hb a m).1 ha
  refine ⟨H.d, H.os, H.gens, H.k, fun a o e => hk a o (inZ a o e) (H.z a o e), fun q hq => ?_, fun q hq => ?_, H.sep, H.off⟩
  · obtain ⟨m, ⟨o, es, ep, ho, r⟩, hm⟩ := H.ns q hq
    exact ⟨m, ⟨o, es, ep, hk _ _ (inA _ (List.mem_append_left _ (List.mem_map_of_mem hq))) ho, r⟩, hm⟩
  · exact hk _ _ (inA _ (List.mem_append_right _ (List.mem_map_of_mem hq))) (H.own q hq)
theorem At.head (H : c.At p s) {a : Addr} {o : Obj} {rest : List (Addr × Obj)} (ho : c.own = (a, o) :: rest) : a ∉ ({ c with own := rest } : JC).addrs ∧ c.Z a = none := by
  refine ⟨fun hm => ?_, H.off a (by simp [JC.addrs, ho])⟩
  have hs := H.sep
  simp only [JC.addrs, ho, List.map_cons] at hs hm
  rw [nodup_middle, List.nodup_cons] at hs
  exact hs.1 hm
end JC
noncomputable abbrev enO (it : Addr) (i : Int) (old : Value) : Obj := { cls := .type "enumerate", dict := none, data := .fields #[.none, .bool false, .ref it, rawInt i, .none, old], slots := #[] }
noncomputable abbrev enOut (it : Addr) (i : Int) (x : Value) (tp : Addr) : Obj := { cls := .type "enumerate", dict := none, data := .fields #[rawInt tp, .bool false, .ref it, rawInt i, .none, x], slots := #[] }
section
variable {p : JP} {A : Around} {c : JC} {E : JC → Prop} {l : Addr} {items : Array Value} {n : Nat} {Z : Zm} {nss : List (Addr × Vars)} {own : List (Addr × Obj)} {g : Array GenState} {e it : Addr} {oi : Obj} {i : Nat} {old : Value}
theorem j_enumNew {Q : Value → JC → Prop} (ho : c.Has l (LO items n)) (h : ∀ e it o, isListIt l o 0 → Q (.ref e) ((c.psh it o).psh e (enO it 0 .none))) : jwp p A (call (.type "enumerate") [.ref l]) Q E c := .of fun s H => by
  refine call_enumerate_list (has_list ho H).isList fun h' he hit hsz hk => ?_
  obtain ⟨o, ho', hc, hd⟩ := hit
  have H1 := H.mv (h' := h') (bad := []) (fun b hb => nomatch hb) (fun b o V e => hk b o e) s.toks
  have H2 := H1.add ho' (H.fresh (Nat.le_refl _)) (H.z_fresh (Nat.le_refl _))
  have H3 := H2.add he (fun hm => by
    simp only [JC.addrs, List.map_cons] at hm
    rcases List.mem_append.mp hm with hm | hm
    · exact H.fresh (Nat.le_succ _) (List.mem_append_left _ hm)
    · rcases List.mem_cons.mp hm with hm | hm
      · exact absurd hm (Nat.succ_ne_self _)
      · exact H.fresh (Nat.le_succ _) (List.mem_append_right _ hm)) (H.z_fresh (Nat.le_succ _))
  exact ⟨_, H3, h _ _ o ⟨hc, hd⟩⟩
theorem j_enumItem {x : Value} {Q : Option Value → JC → Prop} (hi : isListIt l oi i) (hl : (JC.mk Z nss own g).Has l (LO items n)) (hx : items[i]? = some x)
    (h : ∀ tp t oi', isListIt l oi' (i + 1) → Q (some (.ref tp)) (JC.mk Z nss ((tp, TO #[.int (i : Int) t, x] 0) :: (e, enOut it ((i : Int) + 1) x tp) :: (it, oi') :: own) g)) :
    jwp p A (pyNext (.ref e)) Q E (JC.mk Z nss ((e, enO it (i : Int) old) :: (it, oi) :: own) g) := .of fun s H => by
  obtain ⟨ne, ze⟩ := H.head rfl
  have H1 : (JC.mk Z nss ((it, oi) :: own) g).At p s := H.drop (List.Sublist.refl _) (List.sublist_cons_self _ _)
  obtain ⟨ni, zi⟩ := H1.head rfl
  have H2 : (JC.mk Z nss own g).At p s := H1.drop (List.Sublist.refl _) (List.sublist_cons_self _ _)
  have hne : e ≠ it := fun q => ne (by subst q; simp [JC.addrs])
  have hge := H.own (e, _) List.mem_cons_self
  have hgi := H.own (it, oi) (List.mem_cons_of_mem _ List.mem_cons_self)
  refine wpAny_pyNext_enum_item hge ⟨oi, hgi, hi⟩ (has_list hl H2).isList hx hne fun h' he' hit' ht hsz hk => ?_
  obtain ⟨oi', hoi', hi'⟩ := hit'
  have ne2 : e ∉ (JC.mk Z nss own g).addrs := fun m => ne (by simp only [JC.addrs, List.map_cons] at m ⊢; rcases List.mem_append.mp m with m | m; exact List.mem_append_left _ m; exact List.mem_append_right _ (List.mem_cons_of_mem _ m))
  have H3 := H2.mv (h' := h') (bad := [e, it]) (fun b hb => by
    rcases List.mem_cons.mp hb with rfl | hb
    · exact ⟨ne2, ze⟩
    · rcases List.mem_cons.mp hb with rfl | hb
      · exact ⟨ni, zi⟩
      · cases hb) (fun b o hb e' => hk b o (fun q => hb (by simp [q])) (fun q => hb (by simp [q])) e') (s.toks + 1)
  have H4 := H3.add (a := it) hoi' ni zi
  have H5 := H4.add (a := e) he' ne ze
  have hf : s.heap.objs.size ∉ (JC.mk Z nss ((e, enOut it ((i : Int) + 1) x s.heap.objs.size) :: (it, oi') :: own) g).addrs := H.fresh (Nat.le_refl _)
  have H6 := H5.add ht hf (H.z_fresh (Nat.le_refl _))
  exact ⟨_, H6, h _ _ oi' hi'⟩
theorem j_enumEnd {Q : Option Value → JC → Prop} (hh : A.handled = none) (hi : isListIt l oi i) (hl : (JC.mk Z nss own g).Has l (LO items n)) (hx : items[i]? = none) (h : Q none (JC.mk Z nss own g)) :
    jwp p A (pyNext (.ref e)) Q E (JC.mk Z nss ((e, enO it (i : Int) old) :: (it, oi) :: own) g) := .of fun s H => by
  have H1 : (JC.mk Z nss ((it, oi) :: own) g).At p s := H.drop (List.Sublist.refl _) (List.sublist_cons_self _ _)
  obtain ⟨ni, zi⟩ := H1.head rfl
  have H2 : (JC.mk Z nss own g).At p s := H1.drop (List.Sublist.refl _) (List.sublist_cons_self _ _)
  have hge := H.own (e, _) List.mem_cons_self
  have hgi := H.own (it, oi) (List.mem_cons_of_mem _ List.mem_cons_self)
  refine wpAny_pyNext_enum_end hh hge ⟨oi, hgi, hi⟩ (has_list hl H2).isList hx fun h' hx' => ?_
  exact ⟨_, H2.mv (h' := h') (bad := [it]) (fun b hb => by simp at hb; subst hb; exact ⟨ni, zi⟩) (fun b o hb e' => hx' b o (fun q => hb (by simp [q])) e') s.toks, h⟩
theorem j_iterEnum {j : Int} {Q : Value → JC → Prop} (ho : (e, enO it j old) ∈ c.own) (h : Q (.ref e) c) : jwp p A (pyIter (.ref e)) Q E c := .of fun s H => wpAny_pyIter_enum (H.own _ ho) ⟨c, H, h⟩
theorem j_enumGo {elts : List Expr} {k : Nat} {pos : Pos} {j : Int} {x : Value} {tp : Addr} {pre post : List (Addr × Obj)} {Q : Unit → JC → Prop} (ho : c.own = pre ++ (e, enOut it j x tp) :: post) (h : Q () (c.sto (pre ++ (e, enO it j x) :: post))) :
    jwp p A (letOwnedTupleGo (.Tuple elts k pos) (.ref e) (.ref tp)) Q E c := .of fun s H =>
  wpAny_letOwnedTupleGo_enum (H.own (e, _) (by rw [ho]; simp)) fun h' he' hs' => ⟨_, H.put ho hs' he' s.toks, h⟩
end
noncomputable def IsGenO (o : Obj) (g : Nat) : Prop := ∃ nm qn, o.cls = .type "generator" ∧ o.data = .fields #[.int (g : Int) 0, nm, qn] ∧ o.slots = #[]
theorem JC.At.setG {p : JP} {c : JC} {s : Shared} (H : c.At p s) (G : Array GenState) (t : Nat) : ({ c with gens := G } : JC).At p { s with gens := G, toks := t } := ⟨H.d, H.os, rfl, H.k, H.z, H.ns, H.own, H.sep, H.off⟩
theorem gens_get (Gp Gi : List GenState) (gs : GenState) : (Gp ++ gs :: Gi).toArray[Gp.length]? = some gs := by simp
theorem gens_set (Gp Gi : List GenState) (gs gs' : GenState) : (Gp ++ gs :: Gi).toArray.setIfInBounds Gp.length gs' = (Gp ++ gs' :: Gi).toArray := by simp
section
variable {p : JP} {A : Around} {c : JC} {E : JC → Prop}
theorem jcode_gen {a cq : Addr} {fd : FuncData} {body : List Stmt} {args : Args} {binds : List (Str × Value)} {Q : Value → JC → Prop} (F : FnAt p.w.params a cq fd body) (hroom : A.depth < recursionLimit) (hbind : bindArgs fd args = pure binds)
    (h : ∀ L x o, IsGenO o c.gens.size → Q (.ref x) { c with nss := (L, binds.reverse) :: c.nss, own := (x, o) :: c.own, gens := c.gens.push (.fresh (.func body (callEnv fd L a))) })
    (hcell' : autoParam ((fd.scope.names.all fun x => match x.2 with | .cell => false | _ => true) = true) rt) (hloc' : autoParam (((binds.map (·.1)).all fun x => match fd.scope.names.lookup x with | some .local => true | _ => false) = true) rt)
    (hco : autoParam (fd.scope.isCoroutine = false) rt) (hgen : autoParam (fd.scope.isGenerator = true) rt) (hk : autoParam (fd.scope.kind = .function) rt) : jcode p A (.call (.ref a) args) (RetQ Q) E c := .of fun s H => by
  obtain ⟨o, ho, hd⟩ := F.o
  obtain ⟨ca, co, vs, t, e1, e2, e3, e4⟩ := F.code
  have HK := H.inK
  have hcell : ∀ x ∈ fd.scope.names, x.2 ≠ .cell := fun x hx e => by
    have := List.all_eq_true.mp hcell' x hx
    rw [e] at this; cases this
  have hloc : ∀ x ∈ binds, fd.scope.names.lookup x.1 = some .local := fun x hx => by
    have := List.all_eq_true.mp hloc' x.1 (List.mem_map_of_mem hx)
    revert this
    cases fd.scope.names.lookup x.1 with
    | none => intro h; cases h
    | some k => cases k <;> intro h <;> first | rfl | cases h
  refine codeAny_call_generator hroom (HK _ _ ho) hd hco hgen F.body ⟨ca, co, vs, t, e1, HK _ _ e2, e3, e4⟩ ?_
  rw [hbind]
  refine wpAny_pure (wpAny_newFunctionEnv hcell hloc (fun h₀ hn hsb => ⟨H.noLimit.fresh _ hsb, ?_⟩) hk)
  have hk₀ : ∀ b o, s.heap.get? b = some o → h₀.get? b = some o := fun b o e => hsb.extBut b o (Nat.ne_of_lt (Heap.lt_size e)) (Heap.get?_push_of_some _ e)
  have H1 := H.frame (l := binds.reverse) hn hk₀ (fun V V e => e) (s.toks + binds.length)
  have H2 := H1.push { cls := .type "generator", data := .fields #[.int s.gens.size 0, .str fd.name (s.toks + binds.length), .str fd.qualname (s.toks + binds.length + 1)] } rfl (s.toks + binds.length)
  have H3 := H2.setG (s.gens.push (.fresh (.func body (callEnv fd s.heap.objs.size a)))) (s.toks + binds.length + 1 + 1)
  have hg : s.gens = c.gens := H.gens
  refine ⟨_, H3, ?_⟩
  have := h s.heap.objs.size h₀.objs.size { cls := .type "generator", data := .fields #[.int s.gens.size 0, .str fd.name (s.toks + binds.length), .str fd.qualname (s.toks + binds.length + 1)] } ⟨_, _, rfl, by rw [← hg], rfl⟩
  rw [← hg] at this
  exact this
noncomputable def Wk (gs : GenState) (X : Code → Sem Fin → List Frame → Prop) : Prop := (∃ c, gs = .fresh c ∧ X c (denote table c) []) ∨ ∃ k l c q fs cl, gs = .suspended k l c q fs cl ∧ X c (k (.send .none)) fs
structure OkA (d u : Nat) (A : Around) : Prop where
  handled : A.handled = none
  depth : A.depth + d < recursionLimit
  units : A.units + u < cLine
noncomputable abbrev El := T × List Nat
inductive ElAt (P : Params) (kd : Str → Addr) (Z : Zm) (x : El) (v : Value) : Prop
  | mk : ∀ a ve vp n, v = .ref a → Z a = some (TO #[ve, vp] n) → EAt P kd Z x.1 ve → PlaceAt Z x.2 vp → ElAt P kd Z x v
noncomputable abbrev BareL (G : List GenState) : Prop := ∀ y ∈ G, y.bare = true
theorem BareL.nil : BareL [] := fun V h => by cases h
theorem BareL.put {a b : List GenState} {x : GenState} (ha : BareL a) (hb : BareL b) (hx : x.bare = true) : BareL (a ++ x :: b) := fun y hy => by
  rcases List.mem_append.mp hy with h | h
  · exact ha y h
  · rcases List.mem_cons.mp h with rfl | h
    · exact hx
    · exact hb y h
noncomputable def PG (p : JP) (kd : Str → Addr) (d u : Nat) (Gp : List GenState) : List El → List (Addr × Vars) → List (Addr × Obj) → Zm → End → JC → Prop
  | [], nss, own, Z, e, c => e = .ret (.ok (.ret .none)) ∧ ∃ Z' Gi, Z.le Z' ∧ BareL Gi ∧ c = ⟨Z', nss, own, (Gp ++ GenState.running :: Gi).toArray⟩
  | x :: es, nss, own, Z, e, c => ∃ v Z' nG oG Gi gs, Z.le Z' ∧ (BareL Gi ∧ gs.bare = true) ∧ e.result = .yielded v ∧ e.genState = gs ∧ ElAt p.w.params kd Z' x v ∧ c = ⟨Z', nG ++ nss, oG ++ own, (Gp ++ GenState.running :: Gi).toArray⟩ ∧
      ∀ A nss own Z'', OkA d u A → Z'.le Z'' → Wk gs fun cd t fs => jseg p A cd t fs (PG p kd d u Gp es nss own Z'') ⟨Z'', nG ++ nss, oG ++ own, (Gp ++ GenState.running :: Gi).toArray⟩
noncomputable def Sus (p : JP) (kd : Str → Addr) (d u : Nat) (Gp : List GenState) (es : List El) (gs : GenState) (Gi : List GenState) (nG : List (Addr × Vars)) (oG : List (Addr × Obj)) (Z : Zm) : Prop :=
  ∀ A nss own Z', OkA d u A → Z.le Z' → Wk gs fun cd t fs => jseg p A cd t fs (PG p kd d u Gp es nss own Z') ⟨Z', nG ++ nss, oG ++ own, (Gp ++ GenState.running :: Gi).toArray⟩
theorem Wk.mono {gs : GenState} {X Y : Code → Sem Fin → List Frame → Prop} (h : Wk gs X) (hX : ∀ c t fs, X c t fs → Y c t fs) : Wk gs Y := by
  rcases h with ⟨c, e, x⟩ | ⟨k, l, c, q, fs, cl, e, x⟩
  · exact .inl ⟨c, e, hX _ _ _ x⟩
  · exact .inr ⟨k, l, c, q, fs, cl, e, hX _ _ _ x⟩
theorem set_gen {p : JP} {Z : Zm} {nss : List (Addr × Vars)} {own : List (Addr × Obj)} {Gp Gi : List GenState} {gs gs' : GenState} {s : Shared} (H : (JC.mk Z nss own (Gp ++ gs :: Gi).toArray).At p s) : (JC.mk Z nss own (Gp ++ gs' :: Gi).toArray).At p (s.setGen Gp.length gs') := by
  have H1 := H.setG (s.gens.setIfInBounds Gp.length gs') s.toks
  have e : s.gens.setIfInBounds Gp.length gs' = (Gp ++ gs' :: Gi).toArray := by rw [H.gens]; exact gens_set _ _ _ _
  rw [e] at H1
  show JC.At p _ { s with gens := s.gens.setIfInBounds Gp.length gs' }
  rw [e]
  exact H1
theorem wpAny_resumeX {α : Type} {M : Model} {prog : Program} {w : World} (hM : M = model prog w) {A : Around} {E : Value → Shared → Prop} {s : Shared} {g : Nat} {gs : GenState} {l : List Value} {k : GenResult → Sem α} {Q : α → Shared → Prop} (hg : s.gens[g]? = some gs)
    (h : Wk gs fun cd t fs => SegX M A cd t fs (s.setGen g .running) fun e s₁ => wpAny M A (k e.result) Q E (s₁.setGen g e.genState)) : wpAny M A (.resume g (.send .none) l k) Q E s := fun Γ q hΓ => by
  subst hM
  rcases h with ⟨cd, rfl, x⟩ | ⟨k₀, l₀, cd, q₀, fs, cl, rfl, x⟩
  · exact wake_any α prog w hg (.inl ⟨rfl, rfl, rfl, rfl⟩) (fun Γ => Γ.In A) (fun V h => h) (x.mono fun e s₁ h Γ q hC => h Γ q hC) Γ q hΓ
  · exact wake_any α prog w hg (.inr ⟨k₀, l₀, q₀, cl, rfl, rfl⟩) (fun Γ => Γ.In A) (fun V h => h) (x.mono fun e s₁ h Γ q hC => h Γ q hC) Γ q hΓ
theorem wpAny_stopIter {M : Model} {A : Around} {E : Value → Shared → Prop} {s : Shared} {Q : Value → Shared → Prop} (h : ∀ h' e, (∀ b o, s.heap.get? b = some o → h'.get? b = some o) → ({ s with heap := h' } : Shared).TypeIs (.ref e) "StopIteration" → Q (.ref e) { s with heap := h' }) :
    wpAny M A (newExc (.type "StopIteration") []) Q E s := by
  simp only [newExc, newTuple]
  refine wpAny_bind (wpAny_newObj_type ?_ (by size_fits))
  refine wpAny_bind (m := firstArgMember _ _) (wpAny_of_eq (a := Value.none) (by first | rfl | (simp only [firstArgMember]; rfl)) ?_)
  refine wpAny_newObj_type (h _ _ (fun b o hb => Heap.get?_push_of_some _ (Heap.get?_push_of_some _ hb)) ⟨_, Heap.get?_push_size _ rfl, rfl⟩) (by size_fits)
theorem j_nextGen {kd : Str → Addr} {d u : Nat} {Gp Gi : List GenState} {gs : GenState} {es : List El} {nG nF : List (Addr × Vars)} {oG oF : List (Addr × Obj)} {Z : Zm} {a : Addr} {oa : Obj} {Q : Option Value → JC → Prop}
    (hS : Sus p kd d u Gp es gs Gi nG oG Z) (ha : (a, oa) ∈ oF) (ho : IsGenO oa Gp.length) (hA : OkA d u A.in1)
    (h : match es with
      | [] => ∀ Z' Gi', Z.le Z' → BareL Gi' → Q none ⟨Z', nF, oF, (Gp ++ GenState.finished :: Gi').toArray⟩
      | x :: es' => ∀ v Z' nG' oG' gs' Gi', Z.le Z' → BareL Gi' → gs'.bare = true → ElAt p.w.params kd Z' x v → Sus p kd d u Gp es' gs' Gi' nG' oG' Z' → Q (some v) ⟨Z', nG' ++ nF, oG' ++ oF, (Gp ++ gs' :: Gi').toArray⟩) :
    jwp p A (pyNext (.ref a)) Q E ⟨Z, nG ++ nF, oG ++ oF, (Gp ++ gs :: Gi).toArray⟩ := .of fun s H => by
  rcases ho with ⟨nm, qn, hc, hd, hsl⟩
  have hg : s.heap.get? a = some oa := H.own (a, oa) (List.mem_append_right _ ha)
  have hI : s.heap.IsGen a Gp.length := ⟨oa, nm, qn, hg, hc, hd, hsl⟩
  have hgs : s.gens[Gp.length]? = some gs := by rw [H.gens]; exact gens_get _ _ _
  have hst : gs.status = .fresh ∨ gs.status = .suspended := by
    rcases hS A.in1 nF oF Z hA (fun V V e => e) with ⟨c, rfl, _⟩ | ⟨k, l, c, q, fs, cl, rfl, _⟩
    · exact .inl rfl
    · exact .inr rfl
  unfold pyNext
  refine wpAny_bind (wpAny_attempt (wpAny_callSpecial?_slot (name := Str.ofString "__next__") hI.typeIs slot_gen_next (wpAny_call_entry slot_gen_next hI.typeIs entry_gen_next ?_ (args_gen_next _))))
  show wpAny _ _ (Builtin.Generator.genWake (.ref a) (.send .none)) _ _ s
  unfold Builtin.Generator.genWake
  refine wpAny_bind (wpAny_holding (wpAny_genNumber hI (wpAny_bind (wpAny_genState hgs ?_))))
  have hdep : A.in1.depth < recursionLimit := Nat.lt_of_le_of_lt (Nat.le_add_right _ _) hA.depth
  have HR := set_gen (gs' := .running) H
  have go := hS A.in1 nF oF Z hA (fun V V e => e)
  rcases hst with est | est
  all_goals
    rw [est]
    dsimp only
    refine wpAny_bind (wpAny_roomToWake H.noLimit hdep ?_)
    refine wpAny_resumeX rfl hgs (go.mono fun cd t fs x => (x.run _ HR).mono fun e s₁ z2 => z2.elim fun c' y20 => y20.elim fun H' q => ?_)
    cases es with
    | nil =>
      obtain ⟨rfl, Z', Gi', le, hb, rfl⟩ := q
      have H2 := set_gen (gs' := .finished) H'
      show wpAny _ _ (newExc (.type "StopIteration") [] >>= _) _ _ _
      refine wpAny_bind (wpAny_stopIter fun h' e hk he => ?_)
      refine wpAny_bind (wpAny_raiseNew_none hA.handled ?_)
      refine wpAny_bind (wpAny_isInstance (T := "StopIteration") (b := true) he isSubtype_stop ?_)
      rw [if_pos rfl]
      exact wpAny_pure ⟨_, H2.keeps hk _, h Z' Gi' le hb⟩
    | cons x es' =>
      rcases q with ⟨v, Z', nG', oG', Gi', gs', le, ⟨hb1, hb2⟩, e1, e2, hx, rfl, hnext⟩
      rw [e1, e2]
      have H2 := set_gen (gs' := gs') H'
      exact wpAny_pure ⟨v, rfl, wpAny_pure ⟨_, H2, h v Z' nG' oG' gs' Gi' le hb1 hb2 hx hnext⟩⟩
end
mutual
noncomputable def nodesOf : T → List El
  | .leaf s => [(.leaf s, [])]
  | .node s ps => (.node s ps, []) :: nodesFrom 0 ps
noncomputable def nodesFrom : Nat → List T → List El
  | _, [] => []
  | i, t :: ts => (nodesOf t).map (fun x => (x.1, i :: x.2)) ++ nodesFrom (i + 1) ts
end
theorem nodesOf_e1 : ∀ (s : Str), nodesOf (T.leaf s) = [(T.leaf s, [])] := by intros; rfl
theorem nodesOf_e2 : ∀ (s : Str) (ps : List T), nodesOf (T.node s ps) = (T.node s ps, []) :: nodesFrom 0 ps := by intros; rfl
theorem nodesFrom_e1 : ∀ (x : Nat), nodesFrom x [] = [] := by intros; rfl
theorem nodesFrom_e2 : ∀ (x : Nat) (t : T) (ts : List T), nodesFrom x (t :: ts) = List.map (fun (x_1 : El) => (Prod.fst x_1, x :: Prod.snd x_1)) (nodesOf t) ++ nodesFrom (x + 1) ts := by intros; rfl
noncomputable abbrev e750 (L : Addr) : Env := callEnv f750 L 750
noncomputable abbrev y750 : Stmt := .Expr (.Yield (some (.Tuple [.Name "child" ⟨616, 23, 616, 28⟩, .BinOp (.Tuple [.Name "i" ⟨616, 31, 616, 32⟩] 0 ⟨616, 30, 616, 34⟩) .Add (.Name "pos" ⟨616, 37, 616, 40⟩) ⟨616, 30, 616, 40⟩] 0 ⟨616, 22, 616, 41⟩)) ⟨616, 16, 616, 41⟩) ⟨616, 16, 616, 41⟩
noncomputable abbrev t2750 : Expr := .Tuple [.Name "child" ⟨615, 16, 615, 21⟩, .Name "pos" ⟨615, 23, 615, 26⟩] 0 ⟨615, 16, 615, 26⟩
noncomputable abbrev f2750 : Stmt := .For t2750 (.Call (.Name "preorder_iter_with_position" ⟨615, 30, 615, 57⟩) [.Name "operand" ⟨615, 58, 615, 65⟩] [] ⟨615, 30, 615, 66⟩) [y750] [] ⟨615, 12, 616, 41⟩
noncomputable abbrev t1750 : Expr := .Tuple [.Name "i" ⟨614, 12, 614, 13⟩, .Name "operand" ⟨614, 15, 614, 22⟩] 0 ⟨614, 12, 614, 22⟩
noncomputable abbrev fl1 (L e : Addr) : Code := .forLoop t1750 (.ref e) [f2750] [] (e750 L)
noncomputable abbrev fl2 (L ga : Addr) : Code := .forLoop t2750 (.ref ga) [y750] [] (e750 L)
section
variable {p : JP} {A : Around} {c : JC} {E : JC → Prop} {kd : Str → Addr}
theorem PG.mono {d u : Nat} {Gp : List GenState} {es : List El} {nss : List (Addr × Vars)} {own : List (Addr × Obj)} {Z Z' : Zm} {e : End} (hz : Z.le Z') (h : PG p kd d u Gp es nss own Z' e c) : PG p kd d u Gp es nss own Z e c := by
  cases es with
  | nil => obtain ⟨h1, Z2, Gi, le, h2⟩ := h; exact ⟨h1, Z2, Gi, hz.trans le, h2⟩
  | cons x es => obtain ⟨v, Z2, nG, oG, Gi, gs, le, h⟩ := h; exact ⟨v, Z2, nG, oG, Gi, gs, hz.trans le, h⟩
theorem j_goGen {elts : List Expr} {k : Nat} {pos : Pos} {a tp : Addr} {oa : Obj} {g : Nat} {Q : Unit → JC → Prop} (ha : (a, oa) ∈ c.own) (ho : IsGenO oa g) (h : Q () c) : jwp p A (letOwnedTupleGo (.Tuple elts k pos) (.ref a) (.ref tp)) Q E c := .of fun s H => by
  rcases ho with ⟨nm, qn, hc, hd, hsl⟩
  unfold letOwnedTupleGo
  refine wpAny_bind (wpAny_load (H.own _ ha) ?_)
  rw [hc, hd]
  show wpAny _ A (if (["enumerate", "zip", "dict_itemiterator", "dict_reverseitemiterator", "odict_iterator", "itertools.zip_longest", "itertools.pairwise"].contains "generator" && _) = true then _ else _) _ _ s
  rw [if_neg (by simp)]
  exact wpAny_pure ⟨c, H, h⟩
theorem j_iterGen {a : Addr} {oa : Obj} {g : Nat} {Q : Value → JC → Prop} (ha : (a, oa) ∈ c.own) (ho : IsGenO oa g) (h : Q (.ref a) c) : jwp p A (pyIter (.ref a)) Q E c := .of fun s H => by
  obtain ⟨nm, qn, hc, hd, hsl⟩ := ho
  exact wpAny_pyIter_gen ⟨oa, nm, qn, H.own _ ha, hc, hd, hsl⟩ ⟨c, H, h⟩
theorem Conv.knowM {Z : Zm} {pre post : List (Addr × Vars)} {L : Addr} {l l' : Vars} {own : List (Addr × Obj)} {g : Array GenState} (hk : ∀ x v, l'.lookup x = some v → l.lookup x = some v) : Conv p ⟨Z, pre ++ (L, l) :: post, own, g⟩ ⟨Z, pre ++ (L, l') :: post, own, g⟩ := fun s H => by
  refine ⟨H.d, H.os, H.gens, H.k, H.z, fun q hq => ?_, H.own, ?_, ?_⟩
  · rcases List.mem_append.mp hq with hq | hq
    · exact H.ns q (List.mem_append_left _ hq)
    · rcases List.mem_cons.mp hq with rfl | hq
      · obtain ⟨m, n, hm⟩ := H.ns (L, l) (by simp)
        exact ⟨m, n, fun x v e => hm x v (hk x v e)⟩
      · exact H.ns q (List.mem_append_right _ (List.mem_cons_of_mem _ hq))
  · have := H.sep
    simpa [JC.addrs] using this
  · have := H.off
    simpa [JC.addrs] using this
theorem jseg_If {cd : Code} {fs : List Frame} {P : End → JC → Prop} {env : Env} {K : Flow → Sem Fin} {H : Value → Sem Fin} {gd : Bool → Bool} {lv : List Value → List Value} {test : Expr} {body orelse : List Stmt} {pos : Pos}
    (h : jwp p (A.over cd fs) (isTrue test env (eval test env)) (fun b c₁ => if b = true then jseg p A cd ((execs body env).wrap K H gd lv) fs P c₁ else jseg p A cd ((execs orelse env).wrap K H gd lv) fs P c₁) (fun V => False) c) :
    jseg p A cd ((exec (.If test body orelse pos) env).wrap K H gd lv) fs P c := by
  rw [exec_If]
  refine jseg_bindw (j_standAt (jseg_bindw (h.mono (fun b c₁ q => ?_) fun V V x => x)))
  cases b with
  | true => exact q
  | false => exact q
noncomputable def shift (i : Nat) (x : El) : El := (x.1, i :: x.2)
theorem sp_cons {k : Result → Sem Fin} {hd : Option Value} {g : Bool} {l : List Value} {c₁ : Code} {p₁ : Pos} {kp : List Value} {fs : List Frame} (h : splitAtGen fs = none) : splitAtGen (.ret k hd g l c₁ p₁ kp :: fs) = none := by
  simp [splitAtGen, h]
theorem gd_cons {k : Result → Sem Fin} {hd : Option Value} {l : List Value} {c₁ : Code} {p₁ : Pos} {kp : List Value} {fs : List Frame} (h : fs.any Frame.guarded = false) : (Frame.ret k hd false l c₁ p₁ kp :: fs).any Frame.guarded = false := by
  exact h
set_option maxHeartbeats 4000000 in
theorem gen_inner {d u D U : Nat} {Gp : List GenState} {L ga : Addr} {oga : Obj} {i : Nat} {ti : Tok} {cd1 : Code} {fs1 : List Frame} {k2 : Result → Sem Fin} {l2 : List Value} {q2 : Pos} {vo ve0 : Value} {oX : List (Addr × Obj)} {Gi0 : List GenState} {rest : List El} {Z0 : Zm}
    (hfs : splitAtGen fs1 = none) (hfg : fs1.any Frame.guarded = false) (hov : ∀ A, OkA D U A → OkA d u (A.over (fl2 L ga) (.ret k2 none false l2 cd1 q2 [] :: fs1)).in1)
    (hgo : IsGenO oga (Gp ++ GenState.running :: Gi0).length) (hb0 : BareL Gi0)
    (hrest : ∀ A nss own Z Gi', OkA D U A → Z0.le Z → BareL Gi' → jseg p A cd1 (k2 (.ok .next)) fs1 (PG p kd D U Gp rest nss own Z) ⟨Z, (L, [(Str.ofString "operand", vo), (Str.ofString "i", .int (i : Int) ti), (Str.ofString "expression", ve0)]) :: nss, oX ++ own, (Gp ++ GenState.running :: Gi0 ++ GenState.finished :: Gi').toArray⟩) :
    ∀ (es : List El) (gs : GenState) (Gi : List GenState) (nI : List (Addr × Vars)) (oI : List (Addr × Obj)) (Z : Zm) (A : Around) (nss : List (Addr × Vars)) (own : List (Addr × Obj)), OkA D U A → Z0.le Z → (∀ x ∈ es, x.2.length ≤ 100000) → BareL Gi → Sus p kd d u (Gp ++ GenState.running :: Gi0) es gs Gi nI oI Z →
      jseg p A (fl2 L ga) (denote table (fl2 L ga)) (.ret k2 none false l2 cd1 q2 [] :: fs1) (PG p kd D U Gp (es.map (shift i) ++ rest) nss own Z) ⟨Z, nI ++ (L, [(Str.ofString "operand", vo), (Str.ofString "i", .int (i : Int) ti), (Str.ofString "expression", ve0)]) :: nss, oI ++ (ga, oga) :: oX ++ own, (Gp ++ GenState.running :: Gi0 ++ gs :: Gi).toArray⟩ := by
  intro es
  induction es with
  | nil =>
    intro gs Gi nI oI Z A nss own hA le hpl hbi hS
    refine jseg_forTurn ?_
    rw [List.append_assoc]
    refine j_nextGen (nF := (L, [(Str.ofString "operand", vo), (Str.ofString "i", .int (i : Int) ti), (Str.ofString "expression", ve0)]) :: nss) (oF := (ga, oga) :: oX ++ own) hS (by trivial) hgo (hov A hA) ?_
    intro Z' Gi' le' hbi'
    dsimp only
    refine jseg_blockNil (jseg_conv (c' := ⟨Z', (L, [(Str.ofString "operand", vo), (Str.ofString "i", .int (i : Int) ti), (Str.ofString "expression", ve0)]) :: nss, oX ++ own, _⟩) (Conv.ow (List.Perm.refl _) (List.sublist_cons_self _ _)) ((hrest A nss own Z' Gi' hA (le.trans le') hbi').mono fun e c h => PG.mono le' h))
  | cons x es ih =>
    intro gs Gi nI oI Z A nss own hA le hpl hbi hS
    have hAo := hov A hA
    refine jseg_forTurn ?_
    rw [List.append_assoc]
    refine j_nextGen (nF := (L, [(Str.ofString "operand", vo), (Str.ofString "i", .int (i : Int) ti), (Str.ofString "expression", ve0)]) :: nss) (oF := (ga, oga) :: oX ++ own) hS (by trivial) hgo hAo ?_
    intro v Z1 nI' oI' gs' Gi' le1 hbi' hbg hx hS'
    rcases id hx with ⟨tp, ve, vp, n, rfl, hz, hve, ⟨ap, xp, mp, rfl, hzp, hnp⟩⟩
    dsimp only
    refine j_goGen (a := ga) (oa := oga) (by simp) hgo ?_
    refine j_assignTup2 hAo.handled (has_z hz) (j_store (pre := nI') rfl (j_store (pre := nI') rfl ?_))
    refine jseg_cons (jseg_yieldS (sp_cons hfs) rfl (gd_cons hfg) ?_)
    have hmem : ∀ {l : Vars}, (L, l) ∈ nI' ++ (L, l) :: nss := fun {l} => by simp
    refine jwp_turn (j_Tuple2 ?_)
    refine j_local (l := (Str.ofString "pos", .ref ap) :: (Str.ofString "child", ve) :: [(Str.ofString "operand", vo), (Str.ofString "i", .int (i : Int) ti), (Str.ofString "expression", ve0)]) (by simp) rfl ?_
    refine j_BinOp (j_Tuple1 ?_)
    refine j_local (v := .int (i : Int) ti) (l := (Str.ofString "pos", .ref ap) :: (Str.ofString "child", ve) :: [(Str.ofString "operand", vo), (Str.ofString "i", .int (i : Int) ti), (Str.ofString "expression", ve0)]) (by simp) rfl fun a1 => ?_
    refine j_local (v := .ref ap) (l := (Str.ofString "pos", .ref ap) :: (Str.ofString "child", ve) :: [(Str.ofString "operand", vo), (Str.ofString "i", .int (i : Int) ti), (Str.ofString "expression", ve0)]) (by simp) rfl ?_
    refine jwp_turn0 (Turn.freeze0 fun Z2 le2 h2 => Turn.done ?_)
    have hxl := hnp.1
    rw [Array.length_toList] at hxl
    have hx5 := hpl x List.mem_cons_self
    refine j_addTupZ h2 (le2 _ _ hzp) (by show 1 + xp.size ≤ _; rw [sizeLine_eq]; omega) fun Z3 a3 n3 le3 h3 => fun a4 => ?_
    refine Turn.freeze0 fun Z4 le4 h4 => Turn.done ?_
    intro q l k hk
    show PG p kd D U Gp (shift i x :: (es.map (shift i) ++ rest)) nss own Z _ _
    have le14 := (le2.trans le3).trans le4
    refine ⟨.ref a4, Z4, nI' ++ [(L, (Str.ofString "pos", .ref ap) :: (Str.ofString "child", ve) :: [(Str.ofString "operand", vo), (Str.ofString "i", .int (i : Int) ti), (Str.ofString "expression", ve0)])], oI' ++ (ga, oga) :: oX, Gi0 ++ gs' :: Gi', _, le1.trans le14, ⟨hb0.put hbi' hbg, End.bare_of_quiet (by simp only [End.quiet]; rw [gd_cons hfg]; rfl)⟩, rfl, rfl, ?_, ?_, ?_⟩
    · refine ⟨a4, ve, .ref a3, 0, rfl, h4, hve.mono le14, ⟨a3, _, n3, rfl, le4 _ _ h3, ?_⟩⟩
      rw [Array.toList_append]
      refine ⟨by simp [shift, hxl], fun j m hj => ?_⟩
      cases j with
      | zero => simp [shift] at hj; subst hj; exact ⟨ti, rfl⟩
      | succ j =>
        obtain ⟨t', e'⟩ := hnp.2 j m (by simpa [shift] using hj)
        refine ⟨t', ?_⟩
        simpa using e'
    · simp only [List.append_assoc, List.cons_append, List.nil_append]
      rfl
    · intro A2 nss2 own2 Z5 hA2 le5
      refine .inr ⟨k, l, _, q, _, _, rfl, hk A2 _ _ ?_⟩
      refine jseg_again rfl ?_
      have hS5 : Sus p kd d u (Gp ++ GenState.running :: Gi0) es gs' Gi' nI' oI' Z5 := fun A3 n3 o3 Z6 hA3 le6 => hS' A3 n3 o3 Z6 hA3 ((le14.trans le5).trans le6)
      have := ih gs' Gi' nI' oI' Z5 A2 nss2 own2 hA2 (((le.trans le1).trans le14).trans le5) (fun x hx => hpl x (List.mem_cons_of_mem _ hx)) hbi' hS5
      refine jseg_conv (c' := ⟨Z5, nI' ++ (L, [(Str.ofString "operand", vo), (Str.ofString "i", .int (i : Int) ti), (Str.ofString "expression", ve0)]) :: nss2, oI' ++ (ga, oga) :: oX ++ own2, (Gp ++ GenState.running :: Gi0 ++ gs' :: Gi').toArray⟩) ?_ this
      have e1 : (nI' ++ [(L, (Str.ofString "pos", Value.ref ap) :: (Str.ofString "child", ve) :: [(Str.ofString "operand", vo), (Str.ofString "i", .int (i : Int) ti), (Str.ofString "expression", ve0)])]) ++ nss2 = nI' ++ (L, (Str.ofString "pos", Value.ref ap) :: (Str.ofString "child", ve) :: [(Str.ofString "operand", vo), (Str.ofString "i", .int (i : Int) ti), (Str.ofString "expression", ve0)]) :: nss2 := by simp
      have e2 : (oI' ++ (ga, oga) :: oX) ++ own2 = oI' ++ (ga, oga) :: oX ++ own2 := rfl
      have e3 : (Gp ++ GenState.running :: (Gi0 ++ gs' :: Gi')).toArray = (Gp ++ GenState.running :: Gi0 ++ gs' :: Gi').toArray := by simp
      rw [e1, e3]
      exact Conv.knowM (KnowL.le ⟨rfl, rfl, rfl, trivial⟩)
end
noncomputable abbrev gD (n : Nat) : Nat := 10 + 5 * n
noncomputable abbrev gU (n : Nat) : Nat := 100 + 40 * n
noncomputable abbrev b750 : List Stmt := fB (nth (PySem.Challenge.pw_jf0031_01.main.body) 14)
noncomputable def GenLaw (p : JP) (kd : Str → Addr) (n : Nat) : Prop := ∀ (t : T), t.deep ≤ n → t.size ≤ 40000 → ∀ (L : Addr) (ve : Value) (A : Around) (nss : List (Addr × Vars)) (own : List (Addr × Obj)) (Z : Zm) (Gp : List GenState), OkA (gD n) (gU n) A → EAt p.w.params kd Z t ve →
  jseg p A (.func b750 (e750 L)) (denote table (.func b750 (e750 L))) [] (PG p kd (gD n) (gU n) Gp (nodesOf t) nss own Z) ⟨Z, (L, [(Str.ofString "expression", ve)]) :: nss, own, (Gp ++ [GenState.running]).toArray⟩
mutual
theorem nodes_len : ∀ (t : T) (x : El), x ∈ nodesOf t → x.2.length ≤ t.size
  | .leaf s, x, h => by simp only [nodesOf_e1, nodesOf_e2, List.mem_singleton] at h; subst h; simp
  | .node s ps, x, h => by
    simp only [nodesOf_e1, nodesOf_e2, List.mem_cons] at h
    rcases h with rfl | h
    · simp
    · have := nodesFrom_len ps 0 x h
      simp only [T_size_e1, T_size_e2]; omega
theorem nodesFrom_len : ∀ (ts : List T) (i : Nat) (x : El), x ∈ nodesFrom i ts → x.2.length ≤ sizes ts + 1
  | [], i, x, h => by simp [nodesFrom_e1, nodesFrom_e2] at h
  | t :: ts, i, x, h => by
    simp only [nodesFrom_e1, nodesFrom_e2, List.mem_append, List.mem_map] at h
    rcases h with ⟨y, hy, rfl⟩ | h
    · have := nodes_len t y hy
      simp only [sizes_e1, sizes_e2, List.length_cons]; omega
    · have := nodesFrom_len ts (i + 1) x h
      simp only [sizes_e1, sizes_e2]; omega
end
section
variable {p : JP} {kd : Str → Addr}
set_option maxHeartbeats 4000000 in
theorem gen_outer {n : Nat} (ih : GenLaw p kd n) {Gp : List GenState} {L e it lo : Addr} {ve : Value} {xs : Array Value} {m : Nat} {ps : List T} {k1 : Result → Sem Fin} {l1 : List Value} {q1 : Pos} {Z0 : Zm} (hZl : Z0 lo = some (LO xs m)) (hps : EAtAll p.w.params kd Z0 ps xs.toList) (hdeep : ∀ t ∈ ps, t.deep ≤ n) (hsz : sizes ps ≤ 40000)
    (hk1 : ∀ A P c, jseg p A (.func b750 (e750 L)) (.pure (.done (.ret .none))) [] P c → jseg p A (.func b750 (e750 L)) (k1 (.ok .next)) [] P c) :
    ∀ (ts : List T) (i : Nat) (old : Value) (oi : Obj) (Gi : List GenState) (Z : Zm) (A : Around) (nss : List (Addr × Vars)) (own : List (Addr × Obj)), ps.drop i = ts → i ≤ ps.length → OkA (gD (n + 1)) (gU (n + 1)) A → Z0.le Z → BareL Gi → isListIt lo oi i →
      jseg p A (fl1 L e) (denote table (fl1 L e)) [.ret k1 none false l1 (.func b750 (e750 L)) q1 []] (PG p kd (gD (n + 1)) (gU (n + 1)) Gp (nodesFrom i ts) nss own Z)
        ⟨Z, (L, [(Str.ofString "expression", ve)]) :: nss, (e, enO it (i : Int) old) :: (it, oi) :: own, (Gp ++ GenState.running :: Gi).toArray⟩ := by
  have hxl := hps.length
  rw [Array.length_toList] at hxl
  intro ts
  induction ts with
  | nil =>
    intro i old oi Gi Z A nss own hts hip hA le hbi hoi
    have hi : ps.length ≤ i := List.drop_eq_nil_iff.mp hts
    refine jseg_forTurn ?_
    refine j_enumEnd hA.handled hoi (has_z (le _ _ hZl)) (by rw [Array.getElem?_eq_none]; omega) ?_
    dsimp only
    refine jseg_blockNil (hk1 _ _ _ ?_)
    refine jseg_conv (c' := ⟨Z, nss, own, (Gp ++ GenState.running :: Gi).toArray⟩) (fun s H => H.drop (List.sublist_cons_self _ _) (List.Sublist.refl _)) (jseg_end ?_)
    rw [show nodesFrom i [] = [] by simp only [nodesFrom_e1, nodesFrom_e2]]
    exact ⟨rfl, Z, Gi, Zm.le.refl _, hbi, rfl⟩
  | cons t ts ihts =>
    intro i old oi Gi Z A nss own hts hip hA le hbi hoi
    have hi : i < ps.length := by
      have := congrArg List.length hts
      simp only [List.length_drop, List.length_cons] at this
      omega
    have hti : ps[i]? = some t := by
      have := congrArg (·[0]?) hts
      simpa [List.getElem?_drop] using this
    have hts' : ps.drop (i + 1) = ts := by
      rw [List.drop_eq_getElem_cons hi] at hts
      exact (List.cons.inj hts).2
    obtain ⟨v, hv, htv⟩ := hps.getT hti
    rw [Array.getElem?_toList] at hv
    have hd1 := hA.depth
    have hu1 := hA.units
    simp only [gD] at hd1
    simp only [gU] at hu1
    refine jseg_forTurn ?_
    refine j_enumItem hoi (has_z (le _ _ hZl)) hv fun tp ti oi' hoi' => ?_
    dsimp only
    refine j_enumGo (pre := [(tp, _)]) rfl ?_
    refine j_assignTup2 hA.handled (has_own List.mem_cons_self) (j_store0 (j_store0 ?_))
    refine jseg_conv (c' := ⟨Z, (L, [(Str.ofString "operand", v), (Str.ofString "i", .int (i : Int) ti), (Str.ofString "expression", ve)]) :: nss, (e, enO it ((i : Int) + 1) v) :: (it, oi') :: own, (Gp ++ GenState.running :: Gi).toArray⟩) (Conv.ow (List.Perm.refl _) (List.sublist_cons_self _ _)) ?_
    refine jseg_cons (jseg_For ?_)
    refine j_F1 (fd := f750) (g_preorder_iter_with_position _) rfl rfl (j_local (l := _) List.mem_cons_self rfl ?_)
    refine j_call (jcode_gen (F750 p.w.params) (by show A.depth + 1 < _; omega) (binds := [(Str.ofString "expression", v)]) rfl fun L2 ga oga hga => ?_)
    refine j_iterGen List.mem_cons_self hga ?_
    intro q2
    have eg : ((Gp ++ GenState.running :: Gi).toArray.push (.fresh (.func b750 (e750 L2)))) = (Gp ++ GenState.running :: Gi ++ GenState.fresh (.func b750 (e750 L2)) :: []).toArray := by simp
    have hga' : IsGenO oga (Gp ++ GenState.running :: Gi).length := by simpa using hga
    rw [show nodesFrom i (t :: ts) = (nodesOf t).map (shift i) ++ nodesFrom (i + 1) ts by simp only [nodesFrom_e1, nodesFrom_e2]; rfl]
    refine jseg_conv (c' := ⟨Z, [(L2, [(Str.ofString "expression", v)])] ++ (L, [(Str.ofString "operand", v), (Str.ofString "i", .int (i : Int) ti), (Str.ofString "expression", ve)]) :: nss, [] ++ (ga, oga) :: [(e, enO it ((i : Int) + 1) v), (it, oi')] ++ own, (Gp ++ GenState.running :: Gi ++ GenState.fresh (.func b750 (e750 L2)) :: []).toArray⟩) (by rw [← eg]; exact Conv.refl _) ?_
    refine gen_inner (d := gD n) (u := gU n) rfl rfl (fun A hA => ?hov) hga' hbi ?hrest (nodesOf t) _ [] [(L2, [(Str.ofString "expression", v)])] [] Z A nss own hA (Zm.le.refl Z) (fun x hx => ?hlen) BareL.nil ?hsus
    case hov =>
      have h1 := hA.depth
      have h2 := hA.units
      simp only [gD] at h1
      simp only [gU] at h2
      exact ⟨hA.handled, by show A.depth + 1 + gD n < _; simp only [gD]; omega, by show A.units + 3 + 1 + gU n < _; simp only [gU]; omega⟩
    case hlen =>
      have := nodes_len t x hx
      have := size_le_of_get hti
      omega
    case hsus =>
      intro A3 n3 o3 Z3 hA3 le3
      exact .inl ⟨_, rfl, ih t (hdeep t (List.mem_of_getElem? hti)) (by have := size_le_of_get hti; omega) L2 v A3 n3 o3 Z3 _ hA3 (htv.mono (le.trans le3))⟩
    case hrest =>
      intro A3 n3 o3 Z3 Gi3 hA3 le3 hb3
      refine jseg_again rfl ?_
      have := ihts (i + 1) v oi' (Gi ++ GenState.finished :: Gi3) Z3 A3 n3 o3 hts' hi hA3 (le.trans le3) (hbi.put hb3 rfl) hoi'
      have e3 : (Gp ++ GenState.running :: Gi ++ GenState.finished :: Gi3).toArray = (Gp ++ GenState.running :: (Gi ++ GenState.finished :: Gi3)).toArray := by simp
      rw [e3]
      refine jseg_conv (c' := ⟨Z3, (L, [(Str.ofString "expression", ve)]) :: n3, (e, enO it ((i + 1 : Nat) : Int) v) :: (it, oi') :: o3, (Gp ++ GenState.running :: (Gi ++ GenState.finished :: Gi3)).toArray⟩) (Conv.know ⟨rfl, trivial⟩) this
set_option maxHeartbeats 4000000 in
theorem gen_tree : ∀ n, GenLaw p kd n
  | 0 => fun t ht => by cases t <;> simp [T_deep_e1, T_deep_e2] at ht
  | n + 1 => fun t ht hsz L ve A nss own Z Gp hA hve => by
    have hA0 := hA
    refine jseg_func ?_
    refine jseg_cons (jseg_stmt (j_Doc ?_))
    refine jseg_cons (jseg_yieldS rfl rfl rfl ?_)
    refine jwp_turn (j_Tuple2 (j_local (l := _) List.mem_cons_self rfl (j_Tuple (j_splicedNil ⟨Nat.zero_le _, fun a0 => fun a1 => ?_⟩))))
    refine Turn.swap (Turn.freeze0 fun Z1 le1 h1 => Turn.freeze0 fun Z2 le2 h2 => Turn.done ?_)
    intro q l k hk
    obtain ⟨rest, erest⟩ : ∃ rest, nodesOf t = (t, []) :: rest := by cases t <;> exact ⟨_, rfl⟩
    rw [erest]
    refine ⟨.ref a1, Z2, [(L, [(Str.ofString "expression", ve)])], [], [], _, le1.trans le2, ⟨BareL.nil, End.bare_of_quiet rfl⟩, rfl, rfl, ?_, rfl, ?_⟩
    · exact ⟨a1, ve, .ref a0, 0, rfl, h2, hve.mono (le1.trans le2), a0, _, 0, rfl, le2 _ _ h1, ⟨rfl, fun i m hi => by simp at hi⟩⟩
    · intro A2 nss2 own2 Z3 hA2 le3
      refine .inr ⟨k, l, _, q, _, _, rfl, hk A2 _ _ ?_⟩
      have hve3 := hve.mono ((le1.trans le2).trans le3)
      have hd1 := hA2.depth
      have hu1 := hA2.units
      simp only [gD] at hd1
      simp only [gU] at hu1
      refine jseg_cons (jseg_If (j_isTrueCall (j_IsOp (j_local (l := _) List.mem_cons_self rfl ⟨t, hve3, j_truthyBool ?_⟩))))
      cases t with
      | leaf s =>
        obtain rfl : rest = [] := by simp only [nodesOf_e1, nodesOf_e2] at erest; exact (List.cons.inj erest).2.symm
        refine ifN (show (T.leaf s).isNode = false from rfl) ?_
        refine jseg_nil (jseg_nil ?_)
        refine jseg_conv (c' := ⟨Z3, nss2, own2, (Gp ++ GenState.running :: []).toArray⟩) (fun s H => H.drop (List.sublist_cons_self _ _) (List.Sublist.refl _)) (jseg_end ⟨rfl, Z3, [], Zm.le.refl _, BareL.nil, rfl⟩)
      | node s ps =>
        obtain rfl : rest = nodesFrom 0 ps := by simp only [nodesOf_e1, nodesOf_e2] at erest; exact (List.cons.inj erest).2.symm
        refine ifB (show (T.node s ps).isNode = true from rfl) ?_
        obtain ⟨x, dx, od, lo, ys, mq, nq, rfl, hx, hd, hZl, hps⟩ := eat_node hve3
        simp only [T_size_e1, T_size_e2] at hsz
        simp only [T_deep_e1, T_deep_e2] at ht
        refine jseg_cons (jseg_For ?_)
        refine j_B1 (m_enumerate _) (b_enumerate _) ?_
        refine j_F1 (fd := f765) (g_op_iter _) rfl rfl ?_
        refine (j_local (l := _) List.mem_cons_self rfl ?_)
        refine j_call (op_iter (by show A2.depth + 1 < _; omega) hx hd ?_)
        refine j_enumNew (has_z hZl) fun e it oi hoi => ?_
        refine j_iterEnum List.mem_cons_self ?_
        intro q2
        exact gen_outer (gen_tree n) hZl hps (fun t' ht' => by have := deep_mem ht'; omega) (by omega) (fun A P c h => h) ps 0 _ oi [] Z3 A2 nss2 own2 rfl (Nat.zero_le _) hA2 (Zm.le.refl _) BareL.nil hoi
end
section
variable {p : JP} {A : Around} {c : JC} {E : JC → Prop} {env : Env}
theorem j_ListCompG {n : Nat} (St : Addr → Addr → Addr → Nat → Array Value → Nat → JC → Prop) {elt target iter : Expr} {scope : Scope} {pos : Pos} {Q : Value → JC → Prop} {cl : List (Str × Addr)}
    (hclos : closureFor scope env = pure cl) (hkind : scope.kind = .function) (hnames : (scope.names.all fun x => match x.2 with | .local => (match scope.names.lookup x.1 with | some .local => true | _ => false) | .cell => false | _ => true) = true)
    (hit : jwp p A (eval iter env) (fun x c₁ => jwp p A (pyIter x) (fun v c₂ => ∃ it, v = .ref it ∧ ∀ C acc, St it C acc 0 #[] 0 { c₂ with nss := (C, []) :: c₂.nss, own := (acc, LO #[] 0) :: c₂.own }) E c₁) E c)
    (self : ∀ it C acc i ys k c', St it C acc i ys k c' → jwp p A (pyIter (.ref it)) (fun v c₂ => v = .ref it ∧ c₂ = c') (fun V => False) c')
    (next : ∀ it C acc i ys k c', i < n → St it C acc i ys k c' → jwp p A (pyNext (.ref it)) (fun r c₁ => ∃ v, r = some v ∧ jwp p A (letOwnedTupleGo target (.ref it) v) (fun V c₂ => jwp p A (assign target (compEnvC scope cl C env) v) (fun V c₃ =>
      jwp p A (eval elt (compEnvC scope cl C env)) (fun y c₅ => jwp p A (call (.builtin "list.append") [.ref acc, y]) (fun V c₆ => ∃ k', St it C acc (i + 1) (ys.push y) k' c₆) (fun V => False) c₅) (fun V => False) c₃) (fun V => False) c₂) (fun V => False) c₁) (fun V => False) c')
    (stop : ∀ it C acc ys k c', St it C acc n ys k c' → jwp p A (pyNext (.ref it)) (fun r c₁ => r = none ∧ ∃ c₂ : JC, Conv p c₁ { c₂ with nss := (C, []) :: c₂.nss } ∧ Q (.ref acc) c₂) (fun V => False) c')
    (hs : autoParam (∀ x, foldedSetIterable iter env x = pure x) rt) : jwp p A (eval (.ListComp elt [⟨target, iter, [], 0⟩] scope pos) env) Q E c := .of fun s H => by
  rw [eval_ListComp]
  have hcell : ∀ x ∈ scope.names, x.2 ≠ .cell := fun x hx e => by
    have := List.all_eq_true.mp hnames x hx
    rw [e] at this; cases this
  have hloc : ∀ x ∈ scope.names, x.2 = .local → scope.names.lookup x.1 = some .local := fun x hx e => by
    have := List.all_eq_true.mp hnames x hx
    rw [e] at this
    revert this
    cases scope.names.lookup x.1 with
    | none => intro h; cases h
    | some k => cases k <;> intro h <;> first | rfl | cases h
  refine wpAny_comprehension_free rfl hs hclos hkind hloc ?_
  refine wpAny_mono (hit.run s H) (fun x s₁ z2 => z2.elim fun c₁ y20 => y20.elim fun H₁ q => wpAny_mono (q.run s₁ H₁) (fun v s₂ z2 => z2.elim fun c₂ y20 => y20.elim fun H₂ y21 => y21.elim fun it y22 => y22.elim fun e hst => ?_) fun V V x => x) fun V V x => x
  subst e
  refine wpAny_newList (items := []) ?_ (Nat.zero_le _)
  have H₄ := H₂.push { cls := .type "list", data := .seq #[] } rfl s₂.toks
  refine wpAny_newFunctionEnv hcell (fun x hx => nomatch hx) (fun h' hn hsb => ?_) hkind
  have H₅ := H₄.frame (l := []) hn (fun b o e => hsb.extBut b o (Nat.ne_of_lt (Heap.lt_size e)) (Heap.get?_push_of_some _ e)) (fun V V e => nomatch e) (s₂.toks + 0)
  have loop : ∀ (C : Addr) (acc : Addr) c' s', St it C acc 0 #[] 0 c' → c'.At p s' → codeAny p.M A (.compLoop (.ListComp elt [⟨target, iter, [], 0⟩] scope pos) 0 (.ref it) (.ref acc) (compEnvC scope cl C env))
      (compPost p.M A (postE p E) none (postQ p Q) (.ref acc) C) s' := by
    intro C acc c' s' hst' H'
    have noted : ∀ {R : Result → Shared → Prop} {s : Shared} {e : Value}, postE p (fun V => False) e s → notedBy p.M A (compEnvC scope cl C env) (fun e s' => R (.error e) s') e s := fun z0 => z0.elim fun V y0 => y0.elim fun V y1 => y1.elim fun V y2 => y2.elim fun V y3 => y3.elim fun V f => f.elim
    refine codeAny_loop rfl (fun m s => ∃ i c₁ ys k, m = n - i ∧ i ≤ n ∧ St it C acc i ys k c₁ ∧ c₁.At p s) (fun m s hm => ?_) n ⟨0, c', #[], 0, rfl, Nat.zero_le _, hst', H'⟩
    obtain ⟨i, c₁, ys, k, rfl, hi, hIi, H⟩ := hm
    show wpAny _ A ((compTurn (.ListComp elt [⟨target, iter, [], 0⟩] scope pos) 0 (.ref it) (.ref acc) (compEnvC scope cl C env)).onRaise (fun x => do noteFrame x (compEnvC scope cl C env); theTreesLotGoes x)) _ _ s
    refine wpAny_noted ?_
    rw [compTurn_list]
    refine wpAny_bind (wpAny_standAt (wpAny_bind ?_))
    rcases Nat.lt_or_eq_of_le hi with hlt | rfl
    · refine wpAny_mono ((next it C acc i ys k c₁ hlt hIi).run s H) (fun r s₁ q => ?_) fun e s₁ q => noted q
      rcases q with ⟨c₂, H₂, v, rfl, q⟩
      dsimp only
      refine wpAny_bind (wpAny_mono (q.run s₁ H₂) (fun V s₂ q => ?_) fun e s₁ q => noted q)
      obtain ⟨c₃, H₃, q⟩ := q
      refine wpAny_bind (wpAny_mono (q.run s₂ H₃) (fun V s₃ q => ?_) fun e s₁ q => noted q)
      obtain ⟨c₄, H₄, q⟩ := q
      refine wpAny_bind (wpAny_pure ?_)
      refine wpAny_bind (wpAny_bind (wpAny_mono (q.run s₃ H₄) (fun y s₅ q => ?_) fun e s₁ q => noted q))
      obtain ⟨c₅, H₅, q⟩ := q
      refine wpAny_bind (wpAny_mono (q.run s₅ H₅) (fun V s₆ q' => ?_) fun e s₁ q => noted q)
      obtain ⟨c₆, H₆, k', q⟩ := q'
      exact wpAny_pure (wpAny_pure ⟨rfl, n - (i + 1), by omega, i + 1, c₆, ys.push y, k', rfl, hlt, q, H₆⟩)
    · refine wpAny_mono ((stop it C acc ys k c₁ hIi).run s H) (fun r s₁ q => ?_) fun e s₁ q => noted q
      obtain ⟨c₂, H₂, rfl, c₃, hc, hq⟩ := q
      have H₃ := hc _ H₂
      obtain ⟨m', hn', _⟩ := H₃.ns (C, []) List.mem_cons_self
      exact wpAny_pure ⟨m', hn', fun h' hs' => ⟨_, H₃.extNs (pre := []) rfl hs'.extBut s₁.toks, hq⟩⟩
  have noted0 : ∀ {R : Result → Shared → Prop} {env' : Env} {s : Shared} {e : Value}, postE p (fun V => False) e s → notedBy p.M A env' (fun e s' => R (.error e) s') e s := fun z0 => z0.elim fun V y0 => y0.elim fun V y1 => y1.elim fun V y2 => y2.elim fun V y3 => y3.elim fun V f => f.elim
  have hst0 := hst (C := s₂.heap.push { cls := .type "list", data := .seq #[] } |>.objs.size) (acc := s₂.heap.objs.size)
  refine codeAny_compStart_list (loop _ _ _ _ hst0 H₅) ?_
  refine wpAny_mono ((self it _ _ 0 #[] 0 _ hst0).run _ H₅) (fun v s₅ q => ?_) fun e s₁ q => noted0 q
  obtain ⟨c₄, H₆, rfl, rfl⟩ := q
  exact loop _ _ _ _ hst0 H₆
end
end Jf.Internal
namespace Jf.Internal
open PySem PySem.W PySem.Calls PyProof.Rows
noncomputable def T.Fine (t : T) : Prop := t.Ok ∧ t.Flat
noncomputable abbrev Fines (ts : List T) : Prop := ∀ t ∈ ts, t.Fine
theorem Oks_of : ∀ {ts : List T}, (∀ t ∈ ts, t.Ok) → Oks ts
  | [], _ => trivial
  | t :: ts, h => by simp only [Oks_e1, Oks_e2]; exact ⟨h _ List.mem_cons_self, Oks_of fun q hq => h q (List.mem_cons_of_mem _ hq)⟩
theorem Flats_of : ∀ {ts : List T}, (∀ t ∈ ts, t.Flat) → Flats ts
  | [], _ => trivial
  | t :: ts, h => by simp only [Flats_e1, Flats_e2]; exact ⟨h _ List.mem_cons_self, Flats_of fun q hq => h q (List.mem_cons_of_mem _ hq)⟩
theorem fine_node {s : Str} {ps : List T} : (T.node s ps).Fine ↔ isKind s ∧ (s ≠ Str.ofString "f" → ∀ q ∈ ps, q.name ≠ s) ∧ Fines ps := by
  simp only [T.Fine, T_Ok_e1, T_Ok_e2, T_Flat_e1, T_Flat_e2]
  constructor
  · intro hX
    obtain ⟨⟨h1, h2⟩, h3, h4⟩ := hX
    exact ⟨h1, h3, fun t ht => ⟨h2.mem ht, h4.mem ht⟩⟩
  · intro hX
    obtain ⟨h1, h2, h3⟩ := hX
    exact ⟨⟨h1, Oks_of fun t ht => (h3 t ht).1⟩, h2, Flats_of fun t ht => (h3 t ht).2⟩
theorem openedParts_mem {s : Str} {ps : List T} (hs : isKind s) (h : Fines ps) {x : T} (hx : x ∈ openedParts s ps) : x.Fine ∧ (s ≠ Str.ofString "f" → x.name ≠ s) := by
  obtain ⟨t, ht, hy⟩ := List.mem_flatMap.mp hx
  have hf := h t ht
  unfold openedOne at hy
  split at hy
  · rename_i q
    cases t with
    | leaf u =>
      have := hf.1
      simp only [T_Ok_e1, T_Ok_e2] at this
      exact absurd q.2 (this.ne hs)
    | node u qs =>
      have e : u = s := q.2
      subst e
      obtain ⟨_, h2, h3⟩ := fine_node.mp hf
      exact ⟨h3 x hy, fun hn => h2 hn x hy⟩
  · rename_i q
    simp only [List.mem_singleton] at hy
    subst hy
    exact ⟨hf, fun hn e => q ⟨hn, e⟩⟩
theorem opened_fine {s : Str} {ps : List T} (hs : isKind s) (h : Fines ps) : (opened s ps).Fine :=
  fine_node.mpr ⟨hs, fun hn q hq => (openedParts_mem hs h hq).2 hn, fun q hq => (openedParts_mem hs h hq).1⟩
theorem openedParts_append (s : Str) (a b : List T) : openedParts s (a ++ b) = openedParts s a ++ openedParts s b := List.flatMap_append
theorem openedParts_idem {s : Str} {ps : List T} (hs : isKind s) (h : Fines ps) : openedParts s (openedParts s ps) = openedParts s ps :=
  openedParts_flat fun hn q hq => (openedParts_mem hs h hq).2 hn
theorem Fines.take {ps : List T} (h : Fines ps) (k : Nat) : Fines (ps.take k) := fun t ht => h t (List.mem_of_mem_take ht)
theorem Fines.drop {ps : List T} (h : Fines ps) (k : Nat) : Fines (ps.drop k) := fun t ht => h t (List.mem_of_mem_drop ht)
theorem Fines.append {a b : List T} (h : Fines a) (h' : Fines b) : Fines (a ++ b) := fun t ht => (List.mem_append.mp ht).elim (h t) (h' t)
set_option tactic.hygienic true in
theorem put_fine : ∀ (pl : List Nat) {t : T} {rs out : List T}, t.Fine → Fines rs → put t pl rs = some out → Fines out
  | [], t, rs, out, _, hr, h => by simp only [put, Option.some.injEq] at h; subst h; exact hr
  | k :: r, .leaf s, rs, out, _, _, h => by simp [put] at h
  | k :: r, .node s ps, rs, out, ht, hr, h => by
    obtain ⟨h1, h2, h3⟩ := fine_node.mp ht
    simp only [put] at h
    split at h
    · cases h
    · rename_i q hq
      split at h
      · cases h
      · rename_i inner hi
        cases h
        have h4 := put_fine r (h3 q (List.mem_of_getElem? hq)) hr hi
        intro t ht
        simp only [List.mem_singleton] at ht
        subst ht
        exact opened_fine h1 ((Fines.append (h3.take k) h4).append (h3.drop _))
theorem rep_fine {t : T} {pl : List Nat} {r out : Repl} (ht : t.Fine) (hr : Fines r.rows) (h : repOf t pl r = some out) : Fines out.rows :=
  put_fine pl ht hr (by rw [put_rep, h]; rfl)
noncomputable abbrev dd (d : RDeed) : Deed := (d.1, d.2.rows)
noncomputable def putRows : List Deed → T → Option (List T)
  | [], t => some [t]
  | [d], t => put t d.1 d.2
  | d :: e :: r, t => match put t d.1 d.2 with
    | some (x :: _) => putRows (e :: r) x
    | _ => none
theorem putAll_rows : ∀ (D : List Deed) (t : T), putAll D t = (putRows D t).bind List.head?
  | [], t => rfl
  | [d], t => by
    rcases d with ⟨pl, rs⟩
    simp only [putAll, putRows]
    cases put t pl rs with
    | none => rfl
    | some l => cases l <;> rfl
  | d :: e :: r, t => by
    rcases d with ⟨pl, rs⟩
    simp only [putAll, putRows]
    cases put t pl rs with
    | none => rfl
    | some l =>
      cases l with
      | nil => rfl
      | cons x l => exact putAll_rows (e :: r) x
theorem putAll_append : ∀ (a b : List Deed) (t : T), putAll (a ++ b) t = (putAll a t).bind (putAll b)
  | [], b, t => rfl
  | (pl, rs) :: a, b, t => by
    simp only [List.cons_append, putAll]
    cases put t pl rs with
    | none => rfl
    | some l =>
      cases l with
      | nil => rfl
      | cons x l => exact putAll_append a b x
set_option tactic.hygienic true in
theorem put_cons {t : T} {k : Nat} {r : List Nat} {rs out : List T} (h : put t (k :: r) rs = some out) : ∃ s ps q inner, t = .node s ps ∧ ps[k]? = some q ∧ put q r rs = some inner ∧ out = [opened s (ps.take k ++ inner ++ ps.drop (k + 1))] := by
  cases t with
  | leaf s => simp [put] at h
  | node s ps =>
    simp only [put] at h
    split at h
    · cases h
    · rename_i q hq
      split at h
      · cases h
      · rename_i inner hi
        cases h
        exact ⟨s, ps, q, inner, rfl, hq, hi, rfl⟩
theorem put_one {t : T} {pl : List Nat} {rs out : List T} (hp : pl ≠ []) (h : put t pl rs = some out) : ∃ x, out = [x] ∧ x.name = t.name := by
  cases pl with
  | nil => exact absurd rfl hp
  | cons k r =>
    obtain ⟨s, ps, q, inner, rfl, _, _, rfl⟩ := put_cons h
    exact ⟨_, rfl, rfl⟩
theorem putRows_single : ∀ (D : List Deed) (t : T), (∀ d ∈ D, d.1 ≠ []) → putRows D t = (putAll D t).map fun x => [x]
  | [], t, _ => rfl
  | [d], t, h => by
    rcases d with ⟨pl, rs⟩
    simp only [putAll, putRows]
    cases q : put t pl rs with
    | none => rfl
    | some l =>
      obtain ⟨x, rfl, _⟩ := put_one (h _ List.mem_cons_self) q
      rfl
  | d :: e :: r, t, h => by
    rcases d with ⟨pl, rs⟩
    simp only [putAll, putRows]
    cases q : put t pl rs with
    | none => rfl
    | some l =>
      obtain ⟨x, rfl, _⟩ := put_one (h _ List.mem_cons_self) q
      exact putRows_single (e :: r) x fun d hd => h d (List.mem_cons_of_mem _ hd)
theorem names_opened {s : Str} {ps : List T} (h : s ≠ Str.ofString "f" → ∀ q ∈ ps, q.name ≠ s) : opened s ps = .node s ps := by
  unfold opened
  rw [openedParts_flat h]
theorem group_put {s : Str} {k : Nat} : ∀ (G : List Deed) {ps : List T} {q : T}, G ≠ [] → (∀ d ∈ G.dropLast, d.1 ≠ []) → (s ≠ Str.ofString "f" → ∀ x ∈ ps, x.name ≠ s) → ps[k]? = some q →
    putAll (G.map fun d => (k :: d.1, d.2)) (.node s ps) = (putRows G q).map fun inner => opened s (ps.take k ++ inner ++ ps.drop (k + 1))
  | [], _, _, h, _, _, _ => absurd rfl h
  | [d], ps, q, _, _, _, hq => by
    simp only [List.map_cons, List.map_nil, putAll, put, hq, putRows]
    cases put q d.1 d.2 <;> rfl
  | d :: e :: r, ps, q, _, hd, hps, hq => by
    have hk : k < ps.length := (List.getElem?_eq_some_iff.mp hq).1
    rw [List.map_cons]
    simp only [putAll, put, hq, putRows]
    cases hi : put q d.1 d.2 with
    | none => rfl
    | some inner =>
      rcases put_one (hd d (by trivial)) hi with ⟨x, rfl, hx⟩
      dsimp only
      have hps' : s ≠ Str.ofString "f" → ∀ y ∈ ps.take k ++ [x] ++ ps.drop (k + 1), y.name ≠ s := fun hn y hy => by
        rcases List.mem_append.mp hy with hy | hy
        · rcases List.mem_append.mp hy with hy | hy
          · exact hps hn y (List.mem_of_mem_take hy)
          · simp only [List.mem_singleton] at hy
            subst hy
            rw [hx]; exact hps hn q (List.mem_of_getElem? hq)
        · exact hps hn y (List.mem_of_mem_drop hy)
      have hl : (ps.take k).length = k := by rw [List.length_take]; omega
      have e1 : (ps.take k ++ [x] ++ ps.drop (k + 1))[k]? = some x := by
        rw [List.append_assoc, List.getElem?_append_right (by omega), hl, Nat.sub_self]; rfl
      have e2 : (ps.take k ++ [x] ++ ps.drop (k + 1)).take k = ps.take k := by
        rw [List.append_assoc, List.take_append_of_le_length (by omega), List.take_of_length_le (by omega)]
      have e3 : (ps.take k ++ [x] ++ ps.drop (k + 1)).drop (k + 1) = ps.drop (k + 1) := by
        rw [List.drop_append_of_le_length (by simp; omega), List.drop_of_length_le (by simp; omega), List.nil_append]
      rw [names_opened hps']
      have := group_put (e :: r) (ps := ps.take k ++ [x] ++ ps.drop (k + 1)) (q := x) (by simp) (fun d' hd' => hd d' (by simp only [List.dropLast_cons_cons, List.mem_cons]; exact .inr hd')) hps' e1
      rw [e2, e3] at this
      exact this
theorem group_none {s : Str} {k : Nat} {G : List Deed} {ps : List T} (hG : G ≠ []) (hq : ps[k]? = none) : putAll (G.map fun d => (k :: d.1, d.2)) (.node s ps) = none := by
  cases G with
  | nil => exact absurd rfl hG
  | cons d r => simp only [List.map_cons, putAll, put, hq]
noncomputable def seg (rec : T → List RDeed → Option Repl) (ps : List T) (sds : List RDeed) : Nat → List Nat → Option (List T)
  | last, [] => some (ps.drop last)
  | last, k :: ks => match ps[k]? with
    | none => none
    | some q => match rec q (groupOf sds k) with
      | none => none
      | some r => (seg rec ps sds (k + 1) ks).map fun B => sliceOf ps last k ++ r.rows ++ B
theorem go_seg {rec : T → List RDeed → Option Repl} {ps : List T} {sds : List RDeed} : ∀ (ks : List Nat) (last : Nat) (acc : List T), goOf rec ps sds last acc ks = (seg rec ps sds last ks).map (acc ++ ·)
  | [], last, acc => rfl
  | k :: ks, last, acc => by
    simp only [goOf, seg]
    cases ps[k]? with
    | none => rfl
    | some q =>
      dsimp only
      cases rec q (groupOf sds k) with
      | none => rfl
      | some r =>
        dsimp only
        rw [go_seg ks]
        cases seg rec ps sds (k + 1) ks with
        | none => rfl
        | some B => simp
set_option tactic.hygienic true in
theorem seg_fine {rec : T → List RDeed → Option Repl} {ps : List T} {sds : List RDeed} (hps : Fines ps) : ∀ (ks : List Nat) (last : Nat) {B : List T}, (∀ k ∈ ks, ∀ q r, q ∈ ps → rec q (groupOf sds k) = some r → Fines r.rows) → seg rec ps sds last ks = some B → Fines B
  | [], last, B, _, h => by simp only [seg, Option.some.injEq] at h; subst h; exact hps.drop _
  | k :: ks, last, B, hr, h => by
    simp only [seg] at h
    split at h
    · cases h
    · rename_i q hq
      split at h
      · cases h
      · rename_i r hrr
        obtain ⟨B', hB, rfl⟩ := Option.map_eq_some_iff.mp h
        have h1 := seg_fine hps ks (k + 1) (fun k' hk' => hr k' (List.mem_cons_of_mem _ hk')) hB
        have h2 := hr k List.mem_cons_self q r (List.mem_of_getElem? hq) hrr
        exact ((Fines.append ((hps.drop _).take _) h2).append h1)
set_option tactic.hygienic true in
theorem many_fine : ∀ (n : Nat) (t : T) (sds : List RDeed) (r : Repl), t.Fine → (∀ d ∈ sds, Fines d.2.rows) → manyOf n t sds = some r → Fines r.rows
  | _, t, [], r, ht, _, h => by
    unfold manyOf at h
    cases h
    intro x hx
    simp only [Repl.rows, List.mem_singleton] at hx
    subst hx; exact ht
  | _, t, [d], r, ht, hd, h => by
    unfold manyOf at h
    exact rep_fine ht (hd d List.mem_cons_self) h
  | 0, t, _ :: _ :: _, r, _, _, h => by unfold manyOf at h; cases h
  | n + 1, t, d :: e :: rest, r, ht, hd, h => by
    unfold manyOf at h
    split at h
    · cases h
    · cases h
    · rename_i s ps hd1
      rw [Option.map_eq_some_iff] at h
      obtain ⟨ts, hts, rfl⟩ := h
      obtain ⟨h1, h2, h3⟩ := fine_node.mp ht
      rw [go_seg] at hts
      obtain ⟨B, hB, rfl⟩ := Option.map_eq_some_iff.mp hts
      have := seg_fine h3 _ 0 (fun k hk q r hq hr => many_fine n q _ r (h3 q hq) (fun d' hd' => by
        rcases group_mem hd' with ⟨d'', m, _, e2⟩
        rw [← e2]; exact hd d'' m) hr) hB
      intro x hx
      simp only [Repl.rows, List.nil_append, List.mem_singleton] at hx
      subst hx
      exact opened_fine h1 this
noncomputable def gath (sds : List RDeed) (ks : List Nat) : List RDeed := ks.flatMap fun k => (groupOf sds k).map fun d => (k :: d.1, d.2)
theorem gath_eq {sds : List RDeed} (h : SortedD sds) (hne : ∀ d ∈ sds, d.1 ≠ []) : gath sds (headsOf sds) = sds := by
  obtain ⟨g1, g2⟩ := heads_ok h hne
  have hs : SortedD (gath sds (headsOf sds)) := by
    unfold SortedD gath
    rw [List.pairwise_flatMap]
    refine ⟨fun k V => ?_, g1.imp fun {a b} hab x hx y hy => ?_⟩
    · rw [List.pairwise_map]
      refine (group_sorted k h).imp fun {d e} x => ?_
      simpa [ltL_e1, ltL_e2, ltL_e3] using x
    · rcases List.mem_map.mp hx with ⟨x', _, rfl⟩
      rcases List.mem_map.mp hy with ⟨y', _, rfl⟩
      simp only [ltL_e1, ltL_e2, ltL_e3]
      rw [if_neg (Nat.ne_of_lt hab)]
      exact decide_eq_true hab
  refine sorted_uniq ?_ hs h
  have nd : ∀ {l : List RDeed}, SortedD l → l.Nodup := fun {l} hl => by
    unfold List.Nodup
    exact hl.imp fun {d e} x q => by rw [q, ltL_irr] at x; cases x
  refine (List.perm_ext_iff_of_nodup (nd hs) (nd h)).mpr fun d => ?_
  constructor
  · intro hd
    rcases List.mem_flatMap.mp hd with ⟨k, _, hd⟩
    rcases List.mem_map.mp hd with ⟨e, he, rfl⟩
    rcases group_mem he with ⟨d', hd', e1, e2⟩
    rw [← e1, ← e2]; exact hd'
  · intro hd
    obtain ⟨pl, r⟩ := d
    cases pl with
    | nil => exact absurd rfl (hne _ hd)
    | cons k pl =>
      exact List.mem_flatMap.mpr ⟨k, (g2 k).mpr ⟨_, hd, pl, rfl⟩, List.mem_map.mpr ⟨(pl, r), group_of hd rfl, rfl⟩⟩
theorem seg_put {rec : T → List RDeed → Option Repl} {s : Str} {ps : List T} {sds : List RDeed} (hs : isKind s) (hn : s ≠ Str.ofString "f" → ∀ x ∈ ps, x.name ≠ s) (hps : Fines ps) (hsort : SortedD sds)
    (hrec : ∀ q k, q ∈ ps → (rec q (groupOf sds k)).map Repl.rows = putRows ((groupOf sds k).map dd).reverse q) (hf : ∀ q k r, q ∈ ps → rec q (groupOf sds k) = some r → Fines r.rows) :
    ∀ (ks : List Nat) (lo : Nat), ks.Pairwise (· < ·) → (∀ k ∈ ks, lo ≤ k ∧ groupOf sds k ≠ []) → putAll ((gath sds ks).map dd).reverse (.node s ps) = (seg rec ps sds lo ks).map fun B => .node s (ps.take lo ++ openedParts s B)
  | [], lo, _, _ => by
    have e : openedParts s (ps.drop lo) = ps.drop lo := openedParts_flat fun h q hq => hn h q (List.mem_of_mem_drop hq)
    simp only [gath, List.flatMap_nil, List.map_nil, List.reverse_nil, putAll, seg, Option.map_some, e, List.take_append_drop]
  | k :: ks, lo, hp, hk => by
    rcases List.pairwise_cons.mp hp with ⟨hp1, hp2⟩
    rcases hk k List.mem_cons_self with ⟨hlo, hg⟩
    have ih := seg_put hs hn hps hsort hrec hf ks (k + 1) hp2 fun k' hk' => ⟨hp1 k' hk', (hk k' (List.mem_cons_of_mem _ hk')).2⟩
    have e0 : ((gath sds (k :: ks)).map dd).reverse = ((gath sds ks).map dd).reverse ++ (((groupOf sds k).map dd).reverse.map fun d => (k :: d.1, d.2)) := by
      unfold gath
      simp only [List.flatMap_cons, List.map_append, List.reverse_append, List.map_reverse, List.map_map]
      rfl
    have hG : ((groupOf sds k).map dd).reverse ≠ [] := by simpa using hg
    have hGd : ∀ d ∈ (((groupOf sds k).map dd).reverse).dropLast, d.1 ≠ [] := by
      have hgs := group_sorted k hsort
      cases q : groupOf sds k with
      | nil => simp
      | cons g gs =>
        rw [q] at hgs
        simp only [List.map_cons, List.reverse_cons, List.dropLast_concat]
        intro d hd
        rcases List.mem_map.mp (List.mem_reverse.mp hd) with ⟨e, he, rfl⟩
        exact ltL_ne ((List.pairwise_cons.mp hgs).1 e he)
    rw [e0, putAll_append, ih]
    simp only [seg]
    cases hB : seg rec ps sds (k + 1) ks with
    | none =>
      cases ps[k]? with
      | none => rfl
      | some q => dsimp only; cases rec q (groupOf sds k) <;> rfl
    | some B =>
      simp only [Option.map_some, Option.bind_some]
      have hBf := seg_fine hps ks (k + 1) (fun k' V q r hq hr => hf q k' r hq hr) hB
      cases hq : ps[k]? with
      | none =>
        have hkl : ps.length ≤ k := List.getElem?_eq_none_iff.mp hq
        have hB0 : B = [] := by
          cases ks with
          | nil => simp only [seg, Option.some.injEq] at hB; rw [← hB]; exact List.drop_of_length_le (by omega)
          | cons k2 ks =>
            have := hp1 k2 List.mem_cons_self
            simp only [seg] at hB
            rw [List.getElem?_eq_none (show ps.length ≤ k2 by omega)] at hB
            cases hB
        subst hB0
        have e1 : ps.take (k + 1) ++ openedParts s [] = ps := by simp [openedParts, List.take_of_length_le (show ps.length ≤ k + 1 by omega)]
        rw [e1, group_none hG hq]; rfl
      | some q =>
        have hkl : k < ps.length := (List.getElem?_eq_some_iff.mp hq).1
        have hl : (ps.take (k + 1)).length = k + 1 := by rw [List.length_take]; omega
        have hqm := List.mem_of_getElem? hq
        have hn1 : s ≠ Str.ofString "f" → ∀ x ∈ ps.take (k + 1) ++ openedParts s B, x.name ≠ s := fun h x hx => by
          rcases List.mem_append.mp hx with hx | hx
          · exact hn h x (List.mem_of_mem_take hx)
          · exact (openedParts_mem hs hBf hx).2 h
        have e1 : (ps.take (k + 1) ++ openedParts s B)[k]? = some q := by
          rw [List.getElem?_append_left (by omega), List.getElem?_take_of_lt (by omega), hq]
        have e2 : (ps.take (k + 1) ++ openedParts s B).take k = ps.take k := by
          rw [List.take_append_of_le_length (by omega), List.take_take, Nat.min_eq_left (by omega)]
        have e3 : (ps.take (k + 1) ++ openedParts s B).drop (k + 1) = openedParts s B := by
          rw [List.drop_append_of_le_length (by omega), List.drop_of_length_le (by omega), List.nil_append]
        rw [group_put _ hG hGd hn1 e1, e2, e3, ← hrec q k hqm]
        dsimp only
        cases hr : rec q (groupOf sds k) with
        | none => rfl
        | some r =>
          simp only [Option.map_some, Option.some.injEq]
          have e4 : openedParts s (ps.take k) = ps.take k := openedParts_flat fun h q hq => hn h q (List.mem_of_mem_take hq)
          have e5 : openedParts s (sliceOf ps lo k) = sliceOf ps lo k := openedParts_flat fun h q hq => hn h q (List.mem_of_mem_drop (List.mem_of_mem_take hq))
          have e6 : ps.take lo ++ sliceOf ps lo k = ps.take k := by
            unfold sliceOf
            conv => rhs; rw [show k = lo + (k - lo) by omega, List.take_add]
          simp only [opened, openedParts_append, openedParts_idem hs hBf, e4, e5]
          rw [← List.append_assoc (ps.take lo), ← List.append_assoc (ps.take lo), e6]
noncomputable def ClashP (sds : List RDeed) : Prop := ∃ d ∈ sds, ∃ e ∈ sds, d.1 ≠ e.1 ∧ e.1.take d.1.length = d.1
theorem group_clash {sds : List RDeed} {k : Nat} (h : ClashP (groupOf sds k)) : ClashP sds := by
  obtain ⟨d, hd, e, he, hne, ht⟩ := h
  obtain ⟨d', hd', e1, _⟩ := group_mem hd
  obtain ⟨e', he', e2, _⟩ := group_mem he
  refine ⟨d', hd', e', he', ?_, ?_⟩
  · rw [e1, e2]; intro h; exact hne (List.cons.inj h).2
  · rw [e1, e2]; simp [ht]
theorem many_put : ∀ (n : Nat) (t : T) (sds : List RDeed), t.Fine → (∀ d ∈ sds, Fines d.2.rows) → SortedD sds → (∀ d ∈ sds, d.1.length ≤ n) → ¬ ClashP sds → (manyOf n t sds).map Repl.rows = putRows (sds.map dd).reverse t
  | n, t, [], _, _, _, _, _ => by unfold manyOf; rfl
  | n, t, [d], _, _, _, _, _ => by
    unfold manyOf
    simp only [List.map_cons, List.map_nil, List.reverse_cons, List.reverse_nil, List.nil_append, putRows]
    exact (put_rep d.1 t d.2).symm
  | n, t, d :: e :: rest, ht, hr, hs, hn, hc => by
    have hd1 : d.1 ≠ [] := fun h0 => by
      have := (List.pairwise_cons.mp hs).1 e List.mem_cons_self
      exact hc ⟨d, List.mem_cons_self, e, List.mem_cons_of_mem _ List.mem_cons_self, (fun h => by rw [h, ltL_irr] at this; cases this), by rw [h0]; rfl⟩
    have hne := sorted_ne hs hd1
    have hne' : ∀ x ∈ ((d :: e :: rest).map dd).reverse, x.1 ≠ [] := fun x hx => by
      rcases List.mem_map.mp (List.mem_reverse.mp hx) with ⟨y, hy, rfl⟩
      exact hne y hy
    rw [putRows_single _ _ hne']
    cases n with
    | zero =>
      have := hn d List.mem_cons_self
      exact absurd (List.length_eq_zero_iff.mp (by omega)) hd1
    | succ n =>
      cases t with
      | leaf s =>
        have e1 : manyOf (n + 1) (.leaf s) (d :: e :: rest) = none := by
          unfold manyOf
          cases q : d.1 with
          | nil => rfl
          | cons k r => rfl
        have e2 : ∀ (D : List Deed), D ≠ [] → (∀ x ∈ D, x.1 ≠ []) → putAll D (.leaf s) = none := fun D h0 h1 => by
          cases D with
          | nil => exact absurd rfl h0
          | cons x D =>
            rcases x with ⟨pl, rs⟩
            cases pl with
            | nil => exact absurd rfl (h1 _ List.mem_cons_self)
            | cons k r => simp [putAll, put]
        rw [e1, e2 _ (by simp) hne']
        rfl
      | node s ps =>
        rcases fine_node.mp ht with ⟨h1, h2, h3⟩
        rcases heads_ok hs hne with ⟨g1, g2⟩
        have e1 : manyOf (n + 1) (.node s ps) (d :: e :: rest) = (goOf (manyOf n) ps (d :: e :: rest) 0 [] (headsOf (d :: e :: rest))).map fun ts => .one (opened s ts) := by
          conv => lhs; unfold manyOf
          cases q : d.1 with
          | nil => exact absurd q hd1
          | cons k r => rfl
        have gr : ∀ k, ∀ d' ∈ groupOf (d :: e :: rest) k, Fines d'.2.rows := fun k d' hd' => by
          rcases group_mem hd' with ⟨d'', m, _, e2⟩
          rw [← e2]; exact hr d'' m
        have key := seg_put (rec := manyOf n) (sds := d :: e :: rest) h1 h2 h3 hs
          (fun q k hq => many_put n q _ (h3 q hq) (gr k) (group_sorted k hs) (fun d' hd' => by
            rcases group_mem hd' with ⟨d'', m, e3, _⟩
            have := hn d'' m
            rw [e3] at this
            simpa using this) fun hcl => hc (group_clash hcl))
          (fun q k r hq hr' => many_fine n q _ r (h3 q hq) (gr k) hr')
          (headsOf (d :: e :: rest)) 0 g1 (fun k hk => ⟨Nat.zero_le _, fun h0 => by
            rcases (g2 k).mp hk with ⟨d', hd', r, e3⟩
            have := group_of hd' e3
            rw [h0] at this; cases this⟩)
        rw [gath_eq hs hne] at key
        rw [key, e1, go_seg]
        cases seg (manyOf n) ps (d :: e :: rest) 0 (headsOf (d :: e :: rest)) <;> rfl
theorem seg_none {rec : T → List RDeed → Option Repl} {ps : List T} {sds : List RDeed} : ∀ (ks : List Nat) (lo k : Nat), k ∈ ks → (∀ q, rec q (groupOf sds k) = none) → seg rec ps sds lo ks = none
  | [], _, _, h, _ => by cases h
  | k' :: ks, lo, k, h, hr => by
    simp only [seg]
    cases ps[k']? with
    | none => rfl
    | some q =>
      dsimp only
      cases q1 : rec q (groupOf sds k') with
      | none => rfl
      | some r =>
        rcases List.mem_cons.mp h with rfl | h
        · rw [hr q] at q1; cases q1
        · dsimp only
          rw [seg_none ks (k' + 1) k h hr]; rfl
set_option tactic.hygienic true in
theorem many_clash : ∀ (n : Nat) (t : T) (sds : List RDeed), SortedD sds → ClashP sds → manyOf n t sds = none
  | n, t, [], _, hc => by obtain ⟨d, hd, _⟩ := hc; cases hd
  | n, t, [d], _, hc => by
    obtain ⟨a, ha, b, hb, hne, _⟩ := hc
    simp only [List.mem_singleton] at ha hb
    subst ha hb
    exact absurd rfl hne
  | 0, t, _ :: _ :: _, _, _ => by unfold manyOf; rfl
  | n + 1, t, d :: e :: rest, hs, hc => by
    unfold manyOf
    split
    · rfl
    · rfl
    · rename_i s ps hd
      have hd1 : d.1 ≠ [] := by rw [hd]; simp
      have hne := sorted_ne hs hd1
      rcases heads_ok hs hne with ⟨g1, g2⟩
      rcases hc with ⟨a, ha, b, hb, hab, ht⟩
      rcases a with ⟨pa, ra⟩
      rcases b with ⟨pb, rb⟩
      cases pa with
      | nil => exact absurd rfl (hne _ ha)
      | cons k pa =>
        cases pb with
        | nil => exact absurd rfl (hne _ hb)
        | cons k' pb =>
          simp only [List.length_cons, List.take_succ_cons, List.cons.injEq] at ht
          rcases ht with ⟨rfl, ht⟩
          have hcl : ClashP (groupOf (d :: e :: rest) k') := ⟨_, group_of ha rfl, _, group_of hb rfl, fun h => hab (by rw [show pa = pb from h]), ht⟩
          have := seg_none (rec := manyOf n) (ps := ps) (headsOf (d :: e :: rest)) 0 k' ((g2 k').mpr ⟨_, ha, pa, rfl⟩) fun q => many_clash n q _ (group_sorted k' hs) hcl
          rw [go_seg, this]; rfl
theorem many_one {n : Nat} {t : T} {sds : List RDeed} {r : Repl} (h1 : ∀ d ∈ sds, d.1 = [] → ∃ q, d.2 = .one q) (h : manyOf n t sds = some r) : ∃ q, r = .one q := by
  have rep : ∀ {pl : List Nat} {t : T} {a b : Repl}, (pl = [] → ∃ q, a = .one q) → repOf t pl a = some b → ∃ q, b = .one q := by
    intro pl t a b hp hb
    cases pl with
    | nil => simp only [repOf, Option.some.injEq] at hb; subst hb; exact hp rfl
    | cons k r =>
      cases t with
      | leaf s => simp [repOf] at hb
      | node s ps =>
        simp only [repOf] at hb
        split at hb
        · cases hb
        · split at hb
          · cases hb
          · cases hb; exact ⟨_, rfl⟩
  unfold manyOf at h
  split at h
  · cases h; exact ⟨_, rfl⟩
  · exact rep (h1 _ List.mem_cons_self) h
  · cases h
  · split at h
    · cases h
    · cases h
    · obtain ⟨ts, _, rfl⟩ := Option.map_eq_some_iff.mp h
      exact ⟨_, rfl⟩
theorem rep_one {t : T} {pl : List Nat} {r r' : Repl} (h1 : pl = [] → ∃ q, r = .one q) (h : repOf t pl r = some r') : ∃ q, r' = .one q := by
  refine many_one (n := 0) (t := t) (sds := [(pl, r)]) (fun d hd => ?_) (by unfold manyOf; exact h)
  simp only [List.mem_singleton] at hd
  subst hd; exact h1
theorem rep_told {t : T} {pl : List Nat} {r : Repl} (h1 : pl = [] → ∃ q, r = .one q) : repTold (repOf t pl r) = (put t pl r.rows).bind List.head? := by
  rw [put_rep]
  cases h : repOf t pl r with
  | none => rfl
  | some r' =>
    obtain ⟨q, rfl⟩ := rep_one h1 h
    rfl
theorem many_law {n : Nat} {t : T} {sds : List RDeed} (ht : t.Fine) (hr : ∀ d ∈ sds, Fines d.2.rows) (hs : SortedD sds) (hn : ∀ d ∈ sds, d.1.length ≤ n) (h1 : ∀ d ∈ sds, d.1 = [] → ∃ q, d.2 = .one q) :
    (ClashP sds → repTold (manyOf n t sds) = none) ∧ (¬ ClashP sds → repTold (manyOf n t sds) = putAll (sds.map dd).reverse t) := by
  refine ⟨fun hc => by rw [many_clash n t sds hs hc]; rfl, fun hc => ?_⟩
  have h := many_put n t sds ht hr hs hn hc
  rw [putAll_rows, ← h]
  cases q : manyOf n t sds with
  | none => rfl
  | some r =>
    obtain ⟨x, rfl⟩ := many_one h1 q
    rfl
theorem growMany_all {f : Nat → T × Nat} {R : T → Prop} (hf : ∀ n, R (f n).1) : ∀ k n, ∀ t ∈ (growMany f k n).1, R t
  | 0, n, t, h => by simp [growMany_e1, growMany_e2] at h
  | k + 1, n, t, h => by
    simp only [growMany_e1, growMany_e2, List.mem_append, List.mem_singleton] at h
    rcases h with h | rfl
    · exact growMany_all hf k n t h
    · exact hf _
theorem grown_fine (is : List Int) : ∀ d n, (grown is d n).1.Fine
  | 0, n => ⟨abd_isLeaf _, trivial⟩
  | d + 1, n => by
    simp only [grown_e1, grown_e2]
    split
    · exact ⟨abd_isLeaf _, trivial⟩
    · exact opened_fine (isKind_fgsf _) (growMany_all (grown_fine is d) _ _)
theorem deeps_append : ∀ (a b : List T), deeps (a ++ b) = max (deeps a) (deeps b)
  | [], b => by simp [deeps_e1, deeps_e2]
  | t :: a, b => by simp only [List.cons_append, deeps_e1, deeps_e2, deeps_append a b]; omega
theorem deeps_openedOne (name : Str) (t : T) : deeps (openedOne name t) ≤ t.deep := by
  unfold openedOne
  split
  · cases t with
    | leaf s => simp [deeps_e1, deeps_e2, T_deep_e1, T_deep_e2]
    | node s ps => simp only [T_deep_e1, T_deep_e2]; omega
  · simp [deeps_e1, deeps_e2]
theorem deeps_openedParts (name : Str) : ∀ (ps : List T), deeps (openedParts name ps) ≤ deeps ps
  | [] => Nat.le_refl _
  | t :: ps => by
    have h1 := deeps_openedOne name t
    have h2 := deeps_openedParts name ps
    have e : openedParts name (t :: ps) = openedOne name t ++ openedParts name ps := by simp [openedParts]
    rw [e, deeps_append]
    simp only [deeps_e1, deeps_e2]; omega
theorem opened_deep (name : Str) (ps : List T) : (opened name ps).deep ≤ 2 + deeps ps := by
  have := deeps_openedParts name ps
  simp only [opened, T_deep_e1, T_deep_e2]; omega
theorem deeps_le {ps : List T} {B : Nat} (h : ∀ t ∈ ps, t.deep ≤ B) : deeps ps ≤ B := by
  induction ps with
  | nil => simp [deeps_e1, deeps_e2]
  | cons t ps ih =>
    have h1 := h t List.mem_cons_self
    have h2 := ih fun q hq => h q (List.mem_cons_of_mem _ hq)
    simp only [deeps_e1, deeps_e2]; omega
theorem grown_deep (is : List Int) : ∀ d n, (grown is d n).1.deep ≤ 2 * d + 1
  | 0, n => by simp [grown_e1, grown_e2, T_deep_e1, T_deep_e2]
  | d + 1, n => by
    simp only [grown_e1, grown_e2]
    split
    · simp only [T_deep_e1, T_deep_e2]; omega
    · have h1 := opened_deep (fgsf (drawAt is n 7)) (growMany (grown is d) (drawAt is (n + 1) 4).toNat (n + 2)).1
      have h2 := deeps_le (growMany_all (R := fun t => t.deep ≤ 2 * d + 1) (grown_deep is d) (drawAt is (n + 1) 4).toNat (n + 2))
      dsimp only
      omega
noncomputable def grownB : Nat → Nat
  | 0 => 1
  | d + 1 => 2 + 3 * grownB d
theorem grownB_e1 : grownB 0 = 1 := rfl
theorem grownB_e2 : ∀ (d : Nat), grownB ((d + 1)) = 2 + 3 * grownB d := by intros; rfl
theorem growMany_hi {f : Nat → T × Nat} {B : Nat} (hf : ∀ n, (f n).2 ≤ n + B) : ∀ k n, (growMany f k n).2 ≤ n + k * B
  | 0, n => by simp [growMany_e1, growMany_e2]
  | k + 1, n => by
    have h1 := growMany_hi hf k n
    have h2 := hf (growMany f k n).2
    simp only [growMany_e1, growMany_e2, Nat.succ_mul]; omega
theorem grown_hi (is : List Int) : ∀ d n, (grown is d n).2 ≤ n + grownB d
  | 0, n => by simp [grown_e1, grown_e2, grownB_e1, grownB_e2]
  | d + 1, n => by
    simp only [grown_e1, grown_e2]
    split
    · simp only [grownB_e1, grownB_e2]; omega
    · have h1 := growMany_hi (grown_hi is d) (drawAt is (n + 1) 4).toNat (n + 2)
      have h2 := drawAt_range (is := is) (n := n + 1) (k := 4) (by decide)
      have h3 : (drawAt is (n + 1) 4).toNat * grownB d ≤ 3 * grownB d := Nat.mul_le_mul_right _ (by omega)
      simp only [grownB_e1, grownB_e2]; omega
theorem deeps_take (ps : List T) (k : Nat) : deeps (ps.take k) ≤ deeps ps := deeps_le fun t ht => deep_mem (List.mem_of_mem_take ht)
theorem deeps_drop (ps : List T) (k : Nat) : deeps (ps.drop k) ≤ deeps ps := deeps_le fun t ht => deep_mem (List.mem_of_mem_drop ht)
set_option tactic.hygienic true in
theorem put_deep : ∀ (pl : List Nat) (t : T) (rows out : List T), put t pl rows = some out → deeps out ≤ t.deep + deeps rows
  | [], t, rows, out, h => by simp only [put, Option.some.injEq] at h; subst h; omega
  | k :: r, .leaf s, rows, out, h => by simp [put] at h
  | k :: r, .node s ps, rows, out, h => by
    simp only [put] at h
    split at h
    · cases h
    · rename_i q hq
      split at h
      · cases h
      · rename_i inner hi
        cases h
        have h1 := put_deep r q rows inner hi
        have h2 := opened_deep s (ps.take k ++ inner ++ ps.drop (k + 1))
        have h3 := deep_le_of_get hq
        have h4 := deeps_take ps k
        have h5 := deeps_drop ps (k + 1)
        rw [deeps_append, deeps_append] at h2
        simp only [deeps_e1, deeps_e2, T_deep_e1, T_deep_e2]; omega
noncomputable def ddeeps : List Deed → Nat
  | [] => 0
  | d :: ds => deeps d.2 + ddeeps ds
theorem ddeeps_e1 : ddeeps [] = 0 := rfl
theorem ddeeps_e2 : ∀ (d : Deed) (ds : List Deed), ddeeps (d :: ds) = deeps (Prod.snd d) + ddeeps ds := by intros; rfl
theorem ddeeps_perm {a b : List Deed} (h : a.Perm b) : ddeeps a = ddeeps b := by
  induction h with
  | nil => rfl
  | cons x _ ih => simp only [ddeeps_e1, ddeeps_e2, ih]
  | swap x y l => simp only [ddeeps_e1, ddeeps_e2]; omega
  | trans _ _ h1 h2 => exact h1.trans h2
theorem ddeeps_le {ds : List Deed} {B : Nat} (h : ∀ d ∈ ds, deeps d.2 ≤ B) : ddeeps ds ≤ ds.length * B := by
  induction ds with
  | nil => simp [ddeeps_e1, ddeeps_e2]
  | cons d ds ih =>
    have h1 := h d List.mem_cons_self
    have h2 := ih fun q hq => h q (List.mem_cons_of_mem _ hq)
    simp only [ddeeps_e1, ddeeps_e2, List.length_cons, Nat.succ_mul]; omega
theorem dsizes_le {ds : List Deed} {B : Nat} (h : ∀ d ∈ ds, sizes d.2 ≤ B) : dsizes ds ≤ ds.length * B := by
  induction ds with
  | nil => simp [dsizes_e1, dsizes_e2]
  | cons d ds ih =>
    have h1 := h d List.mem_cons_self
    have h2 := ih fun q hq => h q (List.mem_cons_of_mem _ hq)
    simp only [dsizes_e1, dsizes_e2, List.length_cons, Nat.succ_mul]; omega
theorem rsizes_dd : ∀ rds : List RDeed, rsizes rds = dsizes (rds.map dd)
  | [] => rfl
  | d :: rds => by simp only [List.map_cons, rsizes_e1, rsizes_e2, dsizes_e1, dsizes_e2, rsizes_dd rds]
set_option tactic.hygienic true in
theorem putAll_deep : ∀ (D : List Deed) (t x : T), putAll D t = some x → x.deep ≤ t.deep + ddeeps D
  | [], t, x, h => by simp only [putAll, Option.some.injEq] at h; subst h; omega
  | (pl, rs) :: r, t, x, h => by
    simp only [putAll] at h
    split at h
    · rename_i y ys hy
      have h1 := put_deep pl t rs _ hy
      have h2 := putAll_deep r y x h
      simp only [deeps_e1, deeps_e2] at h1
      simp only [ddeeps_e1, ddeeps_e2]; omega
    · cases h
set_option tactic.hygienic true in
theorem putAll_ok : ∀ (D : List Deed) (t x : T), t.Ok → (∀ d ∈ D, Oks d.2) → putAll D t = some x → x.Ok
  | [], t, x, ht, _, h => by simp only [putAll, Option.some.injEq] at h; subst h; exact ht
  | (pl, rs) :: r, t, x, ht, hd, h => by
    simp only [putAll] at h
    split at h
    · rename_i y ys hy
      have h1 := put_ok pl t rs _ ht (hd _ List.mem_cons_self) hy
      exact putAll_ok r y x h1.1 (fun d hm => hd d (List.mem_cons_of_mem _ hm)) h
    · cases h
mutual
theorem places_shift : ∀ (t : T) (pl : List Nat), places t pl = (nodesOf t).map fun x => (pl ++ x.2, x.1)
  | .leaf s, pl => by simp [places_e1, places_e2, nodesOf_e1, nodesOf_e2]
  | .node s ps, pl => by
    simp only [places_e1, places_e2, nodesOf_e1, nodesOf_e2, List.map_cons, List.append_nil]
    rw [placesL_shift ps pl 0]
theorem placesL_shift : ∀ (ts : List T) (pl : List Nat) (k : Nat), placesL ts pl k = (nodesFrom k ts).map fun x => (pl ++ x.2, x.1)
  | [], pl, k => by simp [placesL_e1, placesL_e2, nodesFrom_e1, nodesFrom_e2]
  | t :: ts, pl, k => by
    simp only [placesL_e1, placesL_e2, nodesFrom_e1, nodesFrom_e2, List.map_append, List.map_map]
    rw [places_shift t (pl ++ [k]), placesL_shift ts pl (k + 1)]
    congr 1
    refine List.map_congr_left fun x V => ?_
    simp
end
theorem places_nodes (t : T) : places t [] = (nodesOf t).map fun x => (x.2, x.1) := by
  rw [places_shift]; simp
mutual
theorem nodes_piece : ∀ (t : T) (x : El), x ∈ nodesOf t → piece t x.2 = some x.1 ∧ x.2.length ≤ t.deep ∧ ∀ n ∈ x.2, n ≤ t.size
  | .leaf s, x, h => by simp only [nodesOf_e1, nodesOf_e2, List.mem_singleton] at h; subst h; exact ⟨by simp [piece], by simp, fun n hn => by simp at hn⟩
  | .node s ps, x, h => by
    simp only [nodesOf_e1, nodesOf_e2, List.mem_cons] at h
    rcases h with rfl | h
    · exact ⟨by simp [piece], by simp, fun n hn => by simp at hn⟩
    · rcases nodesFrom_piece ps 0 x h with ⟨i, q, r, e, hq, h1, h2, h3⟩
      have h4 := deep_le_of_get hq
      have h5 := size_le_of_get hq
      have h6 : i < ps.length := (List.getElem?_eq_some_iff.mp hq).1
      have h7 := length_le_sizes ps
      rw [e]
      simp only [Nat.zero_add] at e ⊢
      refine ⟨by simp only [piece, hq, h1], by simp only [List.length_cons, T_deep_e1, T_deep_e2]; omega, fun n hn => ?_⟩
      simp only [T_size_e1, T_size_e2]
      rcases List.mem_cons.mp hn with rfl | hn
      · omega
      · have := h3 n hn; omega
theorem nodesFrom_piece : ∀ (ts : List T) (k : Nat) (x : El), x ∈ nodesFrom k ts → ∃ i q r, x.2 = (k + i) :: r ∧ ts[i]? = some q ∧ piece q r = some x.1 ∧ r.length ≤ q.deep ∧ ∀ n ∈ r, n ≤ q.size
  | [], k, x, h => by simp [nodesFrom_e1, nodesFrom_e2] at h
  | t :: ts, k, x, h => by
    simp only [nodesFrom_e1, nodesFrom_e2, List.mem_append, List.mem_map] at h
    rcases h with ⟨y, hy, rfl⟩ | h
    · obtain ⟨h1, h2, h3⟩ := nodes_piece t y hy
      exact ⟨0, t, y.2, rfl, rfl, h1, h2, h3⟩
    · obtain ⟨i, q, r, e, hq, h⟩ := nodesFrom_piece ts (k + 1) x h
      exact ⟨i + 1, q, r, by rw [e]; congr 1; omega, by simpa using hq, h⟩
end
theorem places_ok {t : T} {x : List Nat × T} (h : x ∈ places t []) : piece t x.1 = some x.2 ∧ x.1.length ≤ t.deep ∧ ∀ n ∈ x.1, n ≤ t.size := by
  rw [places_nodes] at h
  obtain ⟨y, hy, rfl⟩ := List.mem_map.mp h
  exact nodes_piece t y hy
theorem places_pos (t : T) (pl : List Nat) : 0 < (places t pl).length := by cases t <;> simp [places_e1, places_e2]
theorem nodesOf_len (t : T) : (nodesOf t).length ≤ t.size := by
  have h := places_length t []
  rw [places_nodes, List.length_map] at h
  exact h
theorem ins_sorted {α : Type} (d : List Nat × α) : ∀ (l : List (List Nat × α)), SortedD l → (∀ e ∈ l, e.1 ≠ d.1) → ∃ r, r.Perm (d :: l) ∧ SortedD r
  | [], _, _ => ⟨[d], List.Perm.refl _, List.pairwise_singleton _ _⟩
  | e :: l, hs, hn => by
    obtain ⟨h1, h2⟩ := List.pairwise_cons.mp hs
    by_cases hd : ltL d.1 e.1 = true
    · exact ⟨d :: e :: l, List.Perm.refl _, List.pairwise_cons.mpr ⟨fun x hx => by
        rcases List.mem_cons.mp hx with rfl | hx
        · exact hd
        · exact ltL_trans _ _ _ hd (h1 x hx), hs⟩⟩
    · have hne := hn e List.mem_cons_self
      have hed : ltL e.1 d.1 = true := by
        have := ltL_swap d.1 e.1 hne.symm
        cases h : ltL d.1 e.1 with
        | true => exact absurd h hd
        | false => rw [h] at this; simpa using this
      obtain ⟨r, hr, hrs⟩ := ins_sorted d l h2 fun x hx => hn x (List.mem_cons_of_mem _ hx)
      refine ⟨e :: r, (hr.cons e).trans (List.Perm.swap _ _ _), List.pairwise_cons.mpr ⟨fun x hx => ?_, hrs⟩⟩
      rcases List.mem_cons.mp (hr.mem_iff.mp hx) with rfl | hx
      · exact hed
      · exact h1 x hx
theorem sorted_ex {α : Type} : ∀ (l : List (List Nat × α)), (l.map (·.1)).Nodup → ∃ r, r.Perm l ∧ SortedD r
  | [], _ => ⟨[], List.Perm.refl _, List.Pairwise.nil⟩
  | d :: l, h => by
    rw [List.map_cons, List.nodup_cons] at h
    obtain ⟨r, h1, h2⟩ := sorted_ex l h.2
    obtain ⟨r', h3, h4⟩ := ins_sorted d r h2 fun e he x => h.1 (x ▸ List.mem_map_of_mem (h1.mem_iff.mp he))
    exact ⟨r', h3.trans (h1.cons d), h4⟩
theorem clash_iff {rds sds : List RDeed} (hp : sds.Perm rds) (hn : (rds.map (·.1)).Nodup) : Clash (rds.map dd) ↔ ClashP sds := by
  constructor
  · intro hX
    obtain ⟨k, j, hkj, dk, dj, h1, h2, h3⟩ := hX
    rw [List.getElem?_map, Option.map_eq_some_iff] at h1 h2
    obtain ⟨x, hx, rfl⟩ := h1
    obtain ⟨y, hy, rfl⟩ := h2
    refine ⟨x, hp.mem_iff.mpr (List.mem_of_getElem? hx), y, hp.mem_iff.mpr (List.mem_of_getElem? hy), fun e => hkj ?_, h3⟩
    have hk : k < (rds.map (·.1)).length := by rw [List.length_map]; exact (List.getElem?_eq_some_iff.mp hx).1
    have e1 : (rds.map (·.1))[k]? = (rds.map (·.1))[j]? := by rw [List.getElem?_map, List.getElem?_map, hx, hy]; simp [e]
    exact (List.getElem?_inj hk hn).mp e1
  · intro hX
    obtain ⟨x, hx, y, hy, hne, h⟩ := hX
    obtain ⟨k, hk⟩ := List.mem_iff_getElem?.mp (hp.mem_iff.mp hx)
    obtain ⟨j, hj⟩ := List.mem_iff_getElem?.mp (hp.mem_iff.mp hy)
    refine ⟨k, j, fun e => ?_, dd x, dd y, by rw [List.getElem?_map, hk]; rfl, by rw [List.getElem?_map, hj]; rfl, h⟩
    subst e
    rw [hk] at hj
    cases hj
    exact hne rfl
theorem sds_byPlace {rds sds : List RDeed} (hp : sds.Perm rds) (hs : SortedD sds) {q : List Nat} (hq : Sorted ((rds.map dd).map (·.1)) q) : byPlace (rds.map dd) q [] = sds.map dd := by
  refine sorted_uniq ((byPlace_perm (by simpa using hq.1)).trans (hp.map dd).symm) (byPlace_sorted hq) ?_
  unfold SortedD
  rw [List.pairwise_map]
  exact hs
set_option tactic.hygienic true in
theorem piece_ok : ∀ (pl : List Nat) (t q : T), t.Ok → piece t pl = some q → q.Ok
  | [], t, q, ht, h => by simp only [piece, Option.some.injEq] at h; subst h; exact ht
  | k :: r, .leaf s, q, ht, h => by simp [piece] at h
  | k :: r, .node s ps, q, ht, h => by
    simp only [piece] at h
    split at h
    · rename_i p hp
      simp only [T_Ok_e1, T_Ok_e2] at ht
      exact piece_ok r p q (ht.2.mem (List.mem_of_getElem? hp)) h
    · cases h
noncomputable def pairD (x : List Nat × T) : PyData := .tuple [placeD x.1, dataT x.2]
theorem pair_reads {p : JP} {c : JC} {s : Shared} (H : c.At p s) {x : List Nat × T} {v : Value} (h : PairAt c.Z x v) : ∃ as, Reads s.heap v (pairD x) as := by
  obtain ⟨a, vp, vt, n, rfl, hz, hp, ht⟩ := h
  obtain ⟨as, ra⟩ := place_reads H hp.has
  obtain ⟨bs, rb⟩ := told_reads H ht
  exact ⟨_, .tuple (H.z _ _ hz) rfl rfl (.cons ra (.cons rb .nil))⟩
theorem pairs_reads {p : JP} {c : JC} {s : Shared} (H : c.At p s) : ∀ {l : List (List Nat × T)} {vs : List Value}, All2 (PairAt c.Z) l vs → ∃ as, ReadsAll s.heap vs (l.map pairD) as := fun x => by
  induction x with
  | nil => exact ⟨_, .nil⟩
  | cons h t ih => exact (pair_reads H h).elim fun as ra => ih.elim fun bs rb => ⟨_, .cons ra rb⟩
theorem eqv_pairs : ∀ l : List (List Nat × T), PyData.eqvAll (l.map pairD) (l.map pairD) = true
  | [] => by simp [PyData.eqvAll]
  | x :: l => by
    have h1 := (eqv_place x.1 x.1).mpr rfl
    have h2 := (eqv_dataT x.2 x.2).mpr rfl
    simp only [List.map_cons, PyData.eqvAll, pairD, PyData.eqv, h1, h2, eqv_pairs l, Bool.and_self]
theorem canLay_place (a : List Nat) : (placeD a).canLay0 = true := by
  have := shaped_place a
  unfold PySem.SeqAt.shaped at this
  rw [Bool.and_eq_true] at this
  exact this.1
theorem canLay_pairs : ∀ {l : List (List Nat × T)}, (∀ x ∈ l, x.2.Ok) → PyData.canLayAll0 (l.map pairD) = true
  | [], _ => rfl
  | x :: l, h => by
    have h1 := canLay_dataT x.2 (h x List.mem_cons_self)
    have h2 := canLay_pairs fun y hy => h y (List.mem_cons_of_mem _ hy)
    simp only [List.map_cons, PyData.canLayAll0, pairD, PyData.canLay0, canLay_place, h1, h2, Bool.and_self]
theorem depth_pairs {B : Nat} : ∀ {l : List (List Nat × T)}, (∀ x ∈ l, x.2.deep ≤ B) → PyData.depthAll (l.map pairD) ≤ 2 + B
  | [], _ => by simp [PyData.depthAll]
  | x :: l, h => by
    have h1 := depth_dataT x.2
    have h2 := depth_pairs fun y hy => h y (List.mem_cons_of_mem _ hy)
    have h3 := h x List.mem_cons_self
    simp only [List.map_cons, PyData.depthAll, pairD, PyData.depth, placeD, depth_ints]
    omega
theorem shaped_pairs {l : List (List Nat × T)} (h : ∀ x ∈ l, x.2.Ok) (hd : ∀ x ∈ l, x.2.deep ≤ 50) : PySem.SeqAt.shaped (.list (l.map pairD)) = true := by
  unfold PySem.SeqAt.shaped
  have h1 := depth_pairs hd
  simp only [PyData.canLay0, canLay_pairs h, PyData.depth, Bool.true_and]
  exact decide_eq_true (by omega)
section
variable {p : JP} {A : Around} {c : JC} {E : JC → Prop} {Q : Value → JC → Prop}
theorem j_nePairs {a b : Addr} {xs ys : Array Value} {n m : Nat} {l : List (List Nat × T)} (ha : c.Has a (LO xs n)) (hb : c.Has b (LO ys m)) (hx : All2 (PairAt c.Z) l xs.toList) (hy : All2 (PairAt c.Z) l ys.toList)
    (h : ∀ x ∈ l, x.2.Ok) (hd : ∀ x ∈ l, x.2.deep ≤ 50) (hu : A.units + 64 < cLine) (q : Q (.bool false) c) : jwp p A (compareOp .NotEq (.ref a) (.ref b)) Q E c := .of fun s H => by
  obtain ⟨as, ra⟩ := pairs_reads H hx
  obtain ⟨bs, rb⟩ := pairs_reads H hy
  have e : PyData.eqv (.list (l.map pairD)) (.list (l.map pairD)) = true := by simp only [PyData.eqv]; exact eqv_pairs l
  refine ne_dataH (.list (ha.get H) rfl rfl ra) (.list (hb.get H) rfl rfl rb) (shaped_pairs h hd) (shaped_pairs h hd) hu ⟨c, H, ?_⟩
  rw [e]; exact q
theorem j_notInPlaces {vp : Value} {a : Addr} {xs : Array Value} {n : Nat} {pl : List Nat} {pls : List (List Nat)} (hp : PlaceAt c.Z pl vp) (ha : c.Has a (LO xs n)) (hx : All2 (PlaceAt c.Z) pls xs.toList) (hu : A.units + 64 < cLine)
    (q : ∀ b, (b = true ↔ pl ∉ pls) → Q (.bool b) c) : jwp p A (compareOp .NotIn vp (.ref a)) Q E c := .of fun s H => by
  obtain ⟨bs, rb⟩ := place_reads H hp.has
  have hall : ∀ {pls : List (List Nat)} {vs : List Value}, All2 (PlaceAt c.Z) pls vs → ∃ as, ReadsAll s.heap vs (pls.map placeD) as := by
    intro pls vs h
    induction h with
    | nil => exact ⟨_, .nil⟩
    | cons h _ ih => obtain ⟨as, ra⟩ := place_reads H h.has; obtain ⟨bs, rb⟩ := ih; exact ⟨_, .cons ra rb⟩
  obtain ⟨as, ra⟩ := hall hx
  have hc : ∀ pls : List (List Nat), PyData.canLayAll0 (pls.map placeD) = true := by
    intro pls
    induction pls with
    | nil => rfl
    | cons x l ih => simp only [List.map_cons, PyData.canLayAll0, canLay_place, ih, Bool.and_self]
  have hd : (placeD pl).depth ≤ 1 := by simp only [placeD, PyData.depth, depth_ints]; omega
  refine SeqAt.notIn_list_reads (.list (ha.get H) rfl rfl ra) rb (hc _) (canLay_place pl) ?_ ⟨c, H, q _ ?_⟩
  · have := Nat.min_le_right (PyData.depthAll (pls.map placeD)) (placeD pl).depth
    omega
  · rw [Bool.not_eq_true', List.any_eq_false]
    constructor
    · intro h m
      exact h _ (List.mem_map_of_mem m) ((eqv_place pl pl).mpr rfl)
    · intro h y hy e
      obtain ⟨x, hx, rfl⟩ := List.mem_map.mp hy
      exact h ((eqv_place x pl).mp e ▸ hx)
theorem j_neOpt {o : Option T} {va vb : Value} (ha : OptTold c.Z o va) (hb : OptTold c.Z o vb) (ok : ∀ t, o = some t → t.Ok ∧ t.deep ≤ 64) (hu : A.units + 64 < cLine) (q : Q (.bool false) c) : jwp p A (compareOp .NotEq va vb) Q E c := by
  cases o with
  | none =>
    obtain rfl : va = .none := ha
    obtain rfl : vb = .none := hb
    exact .of fun s H => EqNone.ne_none_none ⟨c, H, q⟩
  | some t =>
    obtain ⟨h1, h2⟩ := ok t rfl
    refine j_neTold (a := t) (b := t) ha hb h1 h1 h2 h2 hu fun r hr => ?_
    cases r with
    | true => exact absurd rfl (hr.mp rfl)
    | false => exact q
theorem j_eqOpt {o : Option T} {va vb : Value} (ha : OptTold c.Z o va) (hb : OptTold c.Z o vb) (ok : ∀ t, o = some t → t.Ok ∧ t.deep ≤ 64) (hu : A.units + 64 < cLine) (q : Q (.bool true) c) : jwp p A (compareOp .Eq va vb) Q E c := by
  cases o with
  | none =>
    obtain rfl : va = .none := ha
    obtain rfl : vb = .none := hb
    exact .of fun s H => EqNone.eq_none_none ⟨c, H, q⟩
  | some t =>
    obtain ⟨h1, h2⟩ := ok t rfl
    refine j_eqTold (a := t) (b := t) ha hb h1 h1 h2 h2 hu fun r hr => ?_
    obtain rfl : r = true := hr.mpr rfl
    exact q
end
section
variable {p : JP} {A : Around} {c : JC} {E : JC → Prop} {env : Env} {l sl : Addr} {items : Array Value} {n : Nat} {u : Tok}
theorem slicePick_to (items : Array Value) (b : Nat) : slicePick items none (some (b : Int)) none = (items.toList.take b).toArray := by
  rw [slicePick_plain]
  simp only [Option.elim, clipAt_nat, List.drop_zero, Nat.sub_zero]
  congr 1
  rcases Nat.le_total b items.size with h | h
  · rw [Nat.min_eq_left h]
  · rw [Nat.min_eq_right h, List.take_of_length_le (by simp), List.take_of_length_le (by simp; omega)]
theorem j_And2 {a b : Expr} {pos : Pos} {Q : Value → JC → Prop} (h : jwp p A (eval a env) (fun v c₁ => jwp p A (truthy v) (fun t c₂ => if t = true then jwp p A (eval b env) Q E c₂ else Q v c₂) E c₁) E c) : jwp p A (eval (.BoolOp .And [a, b] pos) env) Q E c := by
  rw [arm_eval_BoolOp]
  show jwp p A (eval a env >>= fun v => standAt pos >>= fun V => holding [v] (truthy v) >>= _) Q E c
  refine jwp_bind (h.mono (fun v c₁ q => j_standThen (jwp_bind (jwp_holding (q.mono (fun t c₂ q => ?_) fun V V x => x)))) fun V V x => x)
  cases t with
  | true => exact q
  | false => exact jwp_pure q
structure NoStar (e : Expr) : Prop where
  go : ∀ es env, starEach (e :: es) env = (false, eval e env) :: starEach es env
structure Lit (p : JP) (e : Expr) (t : T) : Prop where
  go : ∀ {A : Around} {c : JC} {E : JC → Prop} {env : Env} {Q : Value → JC → Prop}, (∀ Z' v, c.Z.le Z' → Told Z' t v → Q v { c with Z := Z' }) → jwp p A (eval e env) Q E c
  star : NoStar e
inductive Lits (p : JP) : List Expr → List T → Prop where
  | nil : Lits p [] []
  | cons {e t es ts} : Lit p e t → Lits p es ts → Lits p (e :: es) (t :: ts)
theorem lits_go {es : List Expr} {ts : List T} (h : Lits p es ts) : ∀ {A : Around} {c : JC} {E : JC → Prop} {env : Env} {pos : Pos} {Q : List Value → JC → Prop}, (∀ Z' vs, c.Z.le Z' → ToldAll Z' ts vs → Q vs { c with Z := Z' }) → jwp p A (spliced (backTo pos (starEach es env))) Q E c := by
  induction h with
  | nil =>
    intro A c E env pos Q q
    exact j_splicedNil (q c.Z [] (Zm.le.refl _) .nil)
  | cons h _ ih =>
    intro A c E env pos Q q
    rw [h.star.go]
    refine j_splicedCons (h.go fun Z1 v le1 h1 => ih fun Z2 vs le2 h2 => q Z2 (v :: vs) (le1.trans le2) ?_)
    simp only [ToldAll_e1, ToldAll_e2]
    exact ⟨v, vs, rfl, h1.mono le2, h2⟩
theorem lits_list {es : List Expr} {ts : List T} {pos : Pos} {Q : Value → JC → Prop} (h : Lits p es ts) (hsz : ts.length ≤ 1000) (q : ∀ Z' v, c.Z.le Z' → RowsAt Z' ts v → Q v { c with Z := Z' }) : jwp p A (eval (.List es pos) env) Q E c := by
  obtain ⟨Z, nss, own, g⟩ := c
  refine jwp_turn (j_List (lits_go h fun Z1 vs le1 h1 => ⟨by rw [h1.length, sizeLine_eq]; omega, fun a => Turn.freeze0 fun Z2 le2 h2 => Turn.done (q Z2 _ (le1.trans le2) ⟨a, _, 0, rfl, h2, by simpa using h1.mono le2⟩)⟩))
theorem lit_leaf {s : Str} {k k2 k3 : Nat} {p1 p2 p3 : Pos} : Lit p (.Tuple [.Constant (.str s) k p1, .Constant .none k2 p2] k3 p3) (.leaf s) where
  go := fun {A c E env Q} q => by
    obtain ⟨Z, nss, own, g⟩ := c
    refine jwp_turn (j_Tuple2 (j_cStr fun t => j_cNone fun a => Turn.freeze0 fun Z' le h => Turn.done (q Z' _ le ?_)))
    simp only [Told_e1, Told_e2]
    exact ⟨a, t, 0, rfl, h⟩
  star := ⟨fun V V => rfl⟩
theorem lit_node {s : Str} {es : List Expr} {ts : List T} {k k3 : Nat} {p1 p2 p3 : Pos} (h : Lits p es ts) (hsz : ts.length ≤ 1000) : Lit p (.Tuple [.Constant (.str s) k p1, .List es p2] k3 p3) (.node s ts) where
  go := fun {A c E env Q} q => by
    obtain ⟨Z, nss, own, g⟩ := c
    refine jwp_turn (j_Tuple2 (j_cStr fun t => lits_list h hsz fun Z1 v le1 h1 => fun a => Turn.freeze0 fun Z2 le2 h2 => Turn.done (q Z2 _ (le1.trans le2) ?_)))
    rcases h1 with ⟨l, xs, m, rfl, hz, ht⟩
    simp only [Told_e1, Told_e2]
    exact ⟨a, t, 0, l, xs, m, rfl, h2, le2 _ _ hz, ht.mono le2⟩
  star := ⟨fun V V => rfl⟩
inductive LitRows (p : JP) : List Expr → List (List T) → Prop where
  | nil : LitRows p [] []
  | cons {es ts pos rs rows} : Lits p es ts → ts.length ≤ 1000 → LitRows p rs rows → LitRows p (.List es pos :: rs) (ts :: rows)
theorem litRows_go {rs : List Expr} {rows : List (List T)} (h : LitRows p rs rows) : ∀ {A : Around} {c : JC} {E : JC → Prop} {env : Env} {pos : Pos} {Q : List Value → JC → Prop}, (∀ Z' vs, c.Z.le Z' → All2 (RowsAt Z') rows vs → Q vs { c with Z := Z' }) → jwp p A (spliced (backTo pos (starEach rs env))) Q E c := by
  induction h with
  | nil =>
    intro A c E env pos Q q
    exact j_splicedNil (q c.Z [] (Zm.le.refl _) .nil)
  | @cons es ts pos' rs rows h hsz _ ih =>
    intro A c E env pos Q q
    rw [show starEach (.List es pos' :: rs) env = (false, eval (.List es pos') env) :: starEach rs env from rfl]
    exact j_splicedCons (lits_list h hsz fun Z1 v le1 h1 => ih fun Z2 vs le2 h2 => q Z2 (v :: vs) (le1.trans le2) (.cons (h1.mono le2) h2))
theorem litRows_list {rs : List Expr} {rows : List (List T)} {pos : Pos} {Q : Value → JC → Prop} (h : LitRows p rs rows) (hsz : rows.length ≤ 1000) (q : ∀ Z' a vs, c.Z.le Z' → All2 (RowsAt Z') rows vs → Q (.ref a) { c with Z := Z', own := (a, LO vs.toArray 0) :: c.own }) : jwp p A (eval (.List rs pos) env) Q E c :=
  j_List (litRows_go h fun Z1 vs le1 h1 => ⟨by rw [h1.length, sizeLine_eq]; omega, fun a => q Z1 a vs le1 h1⟩)
inductive LitInts : List Expr → List Int → Prop where
  | nil : LitInts [] []
  | cons {i k pos es is} : LitInts es is → LitInts (.Constant (.int i) k pos :: es) (i :: is)
noncomputable abbrev IntIs (i : Int) (v : Value) : Prop := ∃ t, v = .int i t
theorem litInts_go {es : List Expr} {is : List Int} (h : LitInts es is) : ∀ {A : Around} {c : JC} {E : JC → Prop} {env : Env} {pos : Pos} {Q : List Value → JC → Prop}, (∀ vs, All2 IntIs is vs → Q vs c) → jwp p A (spliced (backTo pos (starEach es env))) Q E c := by
  induction h with
  | nil =>
    intro A c E env pos Q q
    exact j_splicedNil (q [] .nil)
  | @cons i k pos' es is _ ih =>
    intro A c E env pos Q q
    rw [show starEach (.Constant (.int i) k pos' :: es) env = (false, eval (.Constant (.int i) k pos') env) :: starEach es env from rfl]
    exact j_splicedCons (j_cInt (k := k) (pos := pos') fun t => ih fun vs h => q _ (.cons ⟨t, rfl⟩ h))
theorem litInts_list {es : List Expr} {is : List Int} {pos : Pos} {Q : Value → JC → Prop} (h : LitInts es is) (hsz : is.length ≤ 1000) (q : ∀ a vs, All2 IntIs is vs → Q (.ref a) (c.psh a (LO vs.toArray 0))) : jwp p A (eval (.List es pos) env) Q E c :=
  j_List (litInts_go h fun vs h1 => ⟨by rw [h1.length, sizeLine_eq]; omega, fun a => q a vs h1⟩)
inductive LitStrs : List Expr → List Str → Prop where
  | nil : LitStrs [] []
  | cons {x k pos es is} : LitStrs es is → LitStrs (.Constant (.str x) k pos :: es) (x :: is)
noncomputable abbrev StrIs (x : Str) (v : Value) : Prop := ∃ t, v = .str x t
theorem litStrs_go {es : List Expr} {is : List Str} (h : LitStrs es is) : ∀ {A : Around} {c : JC} {E : JC → Prop} {env : Env} {pos : Pos} {Q : List Value → JC → Prop}, (∀ vs, All2 StrIs is vs → Q vs c) → jwp p A (spliced (backTo pos (starEach es env))) Q E c := by
  induction h with
  | nil =>
    intro A c E env pos Q q
    exact j_splicedNil (q [] .nil)
  | @cons i k pos' es is _ ih =>
    intro A c E env pos Q q
    rw [show starEach (.Constant (.str i) k pos' :: es) env = (false, eval (.Constant (.str i) k pos') env) :: starEach es env from rfl]
    exact j_splicedCons (j_cStr (k := k) (pos := pos') fun t => ih fun vs h => q _ (.cons ⟨t, rfl⟩ h))
theorem litStrs_list {es : List Expr} {is : List Str} {pos : Pos} {Q : Value → JC → Prop} (h : LitStrs es is) (hsz : is.length ≤ 1000) (q : ∀ a vs, All2 StrIs is vs → Q (.ref a) (c.psh a (LO vs.toArray 0))) : jwp p A (eval (.List es pos) env) Q E c :=
  j_List (litStrs_go h fun vs h1 => ⟨by rw [h1.length, sizeLine_eq]; omega, fun a => q a vs h1⟩)
theorem all2_ints {is : List Int} {vs : List Value} (h : All2 IntIs is vs) : IntsAre vs is := by
  induction h with
  | nil => exact .nil
  | cons h _ ih => obtain ⟨t, rfl⟩ := h; exact .cons _ _ ih
theorem j_notInInts {k : Int} {t : Tok} {a : Addr} {is : List Int} {vs : List Value} {n : Nat} {Q : Value → JC → Prop} (ha : c.Has a (LO vs.toArray n)) (h : All2 IntIs is vs) (q : Q (.bool (!(is.any (· == k)))) c) : jwp p A (compareOp .NotIn (.int k t) (.ref a)) Q E c := .of fun s H =>
  notin_list_ints (has_list ha H).isList (all2_ints h) ⟨c, H, q⟩
end
theorem Conv.perm {p : JP} {Z : Zm} {nss nss' : List (Addr × Vars)} {own : List (Addr × Obj)} {g : Array GenState} (hp : nss'.Perm nss) : Conv p ⟨Z, nss, own, g⟩ ⟨Z, nss', own, g⟩ := fun s H => by
  have e : ({ Z := Z, nss := nss', own := own, gens := g } : JC).addrs.Perm ({ Z := Z, nss := nss, own := own, gens := g } : JC).addrs := (hp.map _).append (List.Perm.refl _)
  exact ⟨H.d, H.os, H.gens, H.k, H.z, fun q hq => H.ns q (hp.mem_iff.mp hq), H.own, e.nodup_iff.mpr H.sep, fun a ha => H.off a (e.mem_iff.mp ha)⟩
end Jf.Internal
namespace Jf.Internal
open PySem PySem.W PySem.Calls PyProof.Rows PySem.W.X
noncomputable abbrev lawS : List Stmt := fB (nth (PySem.Challenge.pw_jf0031_01.main.body) 35)
noncomputable abbrev lawB (i : Nat) : Stmt := nth lawS i
noncomputable abbrev eL (L : Addr) : Env := callEnvC f874 L 874
noncomputable def sw (x : El) : List Nat × T := (x.2, x.1)
section
variable {p : JP} {kd : Str → Addr}
noncomputable def GSt (p : JP) (kd : Str → Addr) (d u : Nat) (t : T) (Z : Zm) (lx : Addr × Vars) (nss : List (Addr × Vars)) (own : List (Addr × Obj)) (Gp : List GenState) (x : Addr) (o : Obj) (it C acc : Addr) (i : Nat) (ys : Array Value) (k : Nat) (c' : JC) : Prop :=
  it = x ∧ (x, o) ∈ c'.own ∧ ∃ Z' nG oG gs Gi lc, Conv p c' ⟨Z', nG ++ (C, lc) :: lx :: nss, oG ++ (acc, LO ys k) :: (x, o) :: own, (Gp ++ gs :: Gi).toArray⟩ ∧ Z.le Z' ∧ BareL Gi ∧ gs.bare = true ∧ Sus p kd d u Gp ((nodesOf t).drop i) gs Gi nG oG Z' ∧ All2 (PairAt Z') (((nodesOf t).take i).map sw) ys.toList
set_option maxHeartbeats 4000000 in
theorem law_s7 {Q : Flow → JC → Prop} {A : Around} {L : Addr} {E : JC → Prop} {l : Vars} {Z : Zm} {nss : List (Addr × Vars)} {own : List (Addr × Obj)} {Gp : List GenState} {t : T} {vs vpl : Value} (hh : A.handled = none) (hd : A.depth + gD t.deep + t.deep + 20 < recursionLimit) (hu : A.units + gU t.deep + 200 < cLine)
    (hs : l.lookup (Str.ofString "subject") = some vs) (hp : l.lookup (Str.ofString "places") = some vpl) (ht : EAt p.w.params kd Z t vs) (hpl : PairsAt Z (places t []) vpl) (tok : t.Ok) (hsz : t.size ≤ 40000) (hdp : t.deep ≤ 50)
    (q : ∀ Z' G, Z.le Z' → BareL G → Q .next ⟨Z', (L, l) :: nss, own, (Gp ++ G).toArray⟩) :
    jwp p A (exec (lawB 7) (eL L)) Q E ⟨Z, (L, l) :: nss, own, Gp.toArray⟩ := by
  obtain ⟨ap, xp, mp, rfl, hzp, hxp⟩ := hpl
  have hd' := hd
  have hu' := hu
  simp only [gD] at hd'
  simp only [gU] at hu'
  have hA1 : OkA (gD t.deep) (gU t.deep) A.in1 := ⟨hh, by show A.depth + gD t.deep < _; omega, by show A.units + 1 + gU t.deep < _; omega⟩
  refine jwp_turn (j_If (j_isTrueCompare1 ?_))
  refine j_ListCompG (n := (nodesOf t).length) (fun it C acc i ys k c' => ∃ x o, IsGenO o Gp.length ∧ GSt p kd (gD t.deep) (gU t.deep) t Z (L, l) nss own Gp x o it C acc i ys k c') rfl rfl rfl ?hit ?self ?next ?stop
  case hit =>
    refine j_F1 (fd := f750) (g_preorder_iter_with_position _) rfl rfl (j_local (l := _) List.mem_cons_self hs ?_)
    refine j_call (jcode_gen (F750 p.w.params) (by omega) (binds := [(Str.ofString "expression", vs)]) rfl fun L2 x o ho => ?_)
    refine j_iterGen List.mem_cons_self ho ⟨x, rfl, fun C acc => ⟨x, o, by simpa using ho, rfl, by simp, Z, [(L2, [(Str.ofString "expression", vs)])], [], .fresh (.func b750 (e750 L2)), [], [], ?_, Zm.le.refl _, BareL.nil, rfl, ?_, ?_⟩⟩
    · have eg : (Gp.toArray.push (.fresh (.func b750 (e750 L2)))) = (Gp ++ GenState.fresh (.func b750 (e750 L2)) :: []).toArray := by simp
      dsimp only
      rw [eg]
      exact Conv.perm (List.Perm.swap _ _ _)
    · intro A3 n3 o3 Z3 hA3 le3
      exact .inl ⟨_, rfl, gen_tree t.deep t (Nat.le_refl _) hsz L2 vs A3 n3 o3 Z3 _ hA3 (ht.mono le3)⟩
    · exact .nil
  case self =>
    intro it C acc i ys k c' hX
    obtain ⟨x, o, ho, rfl, hm, _⟩ := hX
    exact j_iterGen hm ho ⟨rfl, rfl⟩
  case next =>
    intro it C acc i ys k c' hi hX
    obtain ⟨x, o, ho, rfl, hm, Z', nG, oG, gs, Gi, lc, hc, le, hb1, hb2, hS, hy⟩ := hX
    have hdrop : (nodesOf t).drop i = (nodesOf t)[i] :: (nodesOf t).drop (i + 1) := List.drop_eq_getElem_cons hi
    obtain ⟨e, ee⟩ : ∃ e, e = (nodesOf t)[i] := ⟨_, rfl⟩
    rw [← ee] at hdrop
    have hem : e ∈ nodesOf t := by rw [ee]; exact List.getElem_mem hi
    have hyl := hy.length
    rw [Array.length_toList, List.length_map, List.length_take] at hyl
    rw [hdrop] at hS
    refine jwp_conv hc ?_
    refine j_nextGen (nF := (C, lc) :: (L, l) :: nss) (oF := (acc, LO ys k) :: (it, o) :: own) hS (by trivial) ho hA1 ?_
    intro v Z1 nG' oG' gs' Gi' le1 hb1' hb2' hx hS'
    obtain ⟨tp, ve, vp, n, rfl, hz, hve, hvp⟩ := hx
    refine ⟨_, rfl, j_goGen (a := it) (oa := o) (by simp) ho ?_⟩
    refine j_assignTup2 hh (has_z hz) (j_store (pre := nG') rfl (j_store (pre := nG') rfl ?_))
    have hep := nodes_piece t e hem
    have hde := piece_deep _ _ _ hep.1
    have hse := piece_size _ _ _ hep.1
    refine jwp_up (jwp_turn (j_Tuple2 (j_local (l := (Str.ofString "place", vp) :: (Str.ofString "one", ve) :: lc) (by simp) rfl ?_)))
    refine j_F1 (fd := f794) (g_law_told _) rfl rfl (j_local (l := (Str.ofString "place", vp) :: (Str.ofString "one", ve) :: lc) (by simp) rfl ?_)
    refine law_told e.1.deep e.1 (Nat.le_refl _) (by omega) hh hve (by omega) fun Z2 w le2 hw => fun a => ?_
    refine Turn.freeze0 fun Z3 le3 h3 => Turn.done ⟨_, Conv.refl _, ?_⟩
    have le13 := le2.trans le3
    refine j_append (pre := oG') rfl (by rw [sizeLine_eq]; have := nodesOf_len t; omega) fun k' => ⟨k', it, o, ho, rfl, by simp, Z3, nG', oG', gs', Gi', _, Conv.refl _, (le.trans le1).trans le13, hb1', hb2', ?_, ?_⟩
    · intro A3 n3 o3 Z4 hA3 le4
      exact hS' A3 n3 o3 Z4 hA3 (le13.trans le4)
    · rw [Array.toList_push, List.take_add_one, List.getElem?_eq_getElem hi, ← ee]
      simp only [Option.toList_some, List.map_append, List.map_cons, List.map_nil]
      exact (hy.mono fun V V x => x.mono (le1.trans le13)).append (All2.one ⟨a, vp, w, 0, rfl, h3, hvp.mono le13, hw.mono le3⟩)
  case stop =>
    intro it C acc ys k c' hX
    obtain ⟨x, o, ho, rfl, hm, Z', nG, oG, gs, Gi, lc, hc, le, hb1, hb2, hS, hy⟩ := hX
    rw [List.drop_length] at hS
    rw [List.take_length] at hy
    refine jwp_conv hc ?_
    refine j_nextGen (nF := (C, lc) :: (L, l) :: nss) (oF := (acc, LO ys k) :: (it, o) :: own) hS (by trivial) ho hA1 ?_
    intro Z1 Gi' le1 hb1'
    refine ⟨rfl, ⟨Z1, (L, l) :: nss, (acc, LO ys k) :: (it, o) :: own, (Gp ++ GenState.finished :: Gi').toArray⟩, Conv.know trivial, ?_⟩
    refine j_local (l := _) List.mem_cons_self hp ?_
    have hall : ∀ x ∈ places t [], piece t x.1 = some x.2 := fun x hx => (places_ok hx).1
    have hy' : All2 (PairAt Z1) (places t []) ys.toList := by
      rw [places_nodes]
      exact hy.mono fun V V x => x.mono le1
    refine j_nePairs (has_own List.mem_cons_self) (has_z ((le.trans le1) _ _ hzp)) hy' (hxp.mono fun V V x => x.mono (le.trans le1)) (fun x hx => piece_ok _ _ _ tok (hall x hx)) (fun x hx => Nat.le_trans (piece_deep _ _ _ (hall x hx)) hdp) (by omega) (j_truthyBool ?_)
    refine ifF ?_
    refine j_nil (Turn.drop0 (Turn.drop0 (Turn.done (q Z1 (GenState.finished :: Gi') (le.trans le1) (fun y hy => ?_)))))
    rcases List.mem_cons.mp hy with rfl | hy
    · rfl
    · exact hb1' y hy
end
end Jf.Internal
namespace Jf.Internal
open PySem PySem.W PySem.Calls PyProof.Rows
noncomputable abbrev lK : List Stmt := forB (lawB 10)
noncomputable abbrev lB (i : Nat) : Stmt := nth lK i
structure LawZ (p : JP) (kd : Str → Addr) (Z : Zm) (L st sl : Addr) (m : Nat) (xs : Array Value) (D : Addr) (t : T) (vn vs vpl : Value) : Prop where
  cS : ∃ o, Z (L + 1) = some o ∧ o.data = .cell (some (.ref st))
  cK : ∃ o, Z (L + 2) = some o ∧ o.data = .cell (some (.ref D))
  sc : Z sl = some (LO xs m)
  dict : ∃ o kvs, Z D = some o ∧ DictP p o kvs ∧ KdIn kd kvs
  kinds : KindsAt p.w.params kd Z
  node : Told Z t vn
  subj : EAt p.w.params kd Z t vs
  places : PairsAt Z (places t []) vpl
theorem PairsAt.mono {Z Z' : Zm} (h : Z.le Z') {l : List (List Nat × T)} {v : Value} (x : PairsAt Z l v) : PairsAt Z' l v := let ⟨a, xs, m, e, z, y⟩ := x; ⟨a, xs, m, e, h _ _ z, y.mono fun V V q => q.mono h⟩
theorem LawZ.mono {p : JP} {kd : Str → Addr} {Z Z' : Zm} {L st sl : Addr} {m : Nat} {xs : Array Value} {D : Addr} {t : T} {vn vs vpl : Value} (le : Z.le Z') (h : LawZ p kd Z L st sl m xs D t vn vs vpl) : LawZ p kd Z' L st sl m xs D t vn vs vpl where
  cS := let ⟨o, a, b⟩ := h.cS; ⟨o, le _ _ a, b⟩
  cK := let ⟨o, a, b⟩ := h.cK; ⟨o, le _ _ a, b⟩
  sc := le _ _ h.sc
  dict := let ⟨o, k, a, b⟩ := h.dict; ⟨o, k, le _ _ a, b⟩
  kinds := h.kinds.mono le
  node := h.node.mono le
  subj := h.subj.mono le
  places := h.places.mono le
theorem LawZ.kdict {p : JP} {kd : Str → Addr} {Z : Zm} {L st sl : Addr} {m : Nat} {xs : Array Value} {D : Addr} {t : T} {vn vs vpl : Value} (h : LawZ p kd Z L st sl m xs D t vn vs vpl) {nss : List (Addr × Vars)} {own : List (Addr × Obj)} {g : Array GenState} : KDict p kd ⟨Z, nss, own, g⟩ D :=
  let ⟨o, k, a, b⟩ := h.dict; ⟨o, k, .inl a, b⟩
noncomputable abbrev loc (D1 D2 : Addr) (vn vs vpl : Value) : Vars := [(Str.ofString "asked", .ref D2), (Str.ofString "deeds", .ref D1), (Str.ofString "places", vpl), (Str.ofString "subject", vs), (Str.ofString "node", vn)]
structure LawA (A : Around) (t : T) (is : List Int) (L : Addr) (nss : List (Addr × Vars)) : Prop where
  hh : A.handled = none
  depth : A.depth + 500 < recursionLimit
  units : A.units + 1000 < cLine
  size : t.size ≤ 100
  deep : t.deep ≤ 10
  fine : t.Fine
  script : is.length ≤ 100
  FI : FramesIn A (L :: nss.map (·.1))
theorem LawA.ok {A : Around} {t : T} {is : List Int} {L : Addr} {nss : List (Addr × Vars)} (h : LawA A t is L nss) : t.Ok := h.fine.1
section
variable {p : JP} {kd : Str → Addr} {A : Around} {L st sl D D1 D2 : Addr} {E : JC → Prop} {Z : Zm} {nss : List (Addr × Vars)} {pre post : List (Addr × Obj)} {g : Array GenState} {m n : Nat} {xs : Array Value} {is : List Int} {t : T} {vn vs vpl : Value} {tk : Tok}
theorem j_state {Q : Value → JC → Prop} {l : Vars} {pos : Pos} (hZ : LawZ p kd Z L st sl m xs D t vn vs vpl) (q : Q (.ref st) ⟨Z, (L, l) :: nss, pre, g⟩) : jwp p A (eval (.Name (Str.ofString "state") pos) (eL L)) Q E ⟨Z, (L, l) :: nss, pre, g⟩ := by
  obtain ⟨o, h1, h2⟩ := hZ.cS
  exact j_cell (a := L + 1) rfl (has_z h1) h2 q
theorem j_next {Q : Value → JC → Prop} {l : Vars} {lim : Int} {np p1 p2 pos : Pos} {k : Nat} (hA : LawA A t is L nss) (hx : IntsAt xs is) (hn : n ≤ 1000) (hZ : LawZ p kd Z L st sl m xs D t vn vs vpl) (hlim : lim ≠ 0)
    (q : ∀ t' t'', Q (.int (drawAt is n lim) t') ⟨Z, (L, l) :: nss, pre ++ (st, stO sl (n + 1) t'') :: post, g⟩) :
    jwp p A (eval (.Call (.Name (Str.ofString "_law_next") np) [.Name (Str.ofString "state") p1, .Constant (.int lim) k p2] [] pos) (eL L)) Q E ⟨Z, (L, l) :: nss, pre ++ (st, stO sl n tk) :: post, g⟩ := by
  have h1 := hA.depth
  have h2 := hA.script
  refine j_F2 (fd := f808) (g_law_next _) rfl rfl (j_state hZ (j_cInt fun t1 => ?_))
  refine law_next (pre := pre) (post := post) (n := n) (by omega) rfl hZ.sc hx (by omega) (by omega) hlim fun t2 t3 => ?_
  exact q t2 t3
theorem st_b0 {Q : Flow → JC → Prop} (hA : LawA A t is L nss) (hx : IntsAt xs is) (hn : n ≤ 1000) (hZ : LawZ p kd Z L st sl m xs D t vn vs vpl)
    (kq : ∀ vp vt x t', x ∈ places t [] → PlaceAt Z x.1 vp → Told Z x.2 vt → Q .next ⟨Z, (L, (Str.ofString "piece", vt) :: (Str.ofString "place", vp) :: loc D1 D2 vn vs vpl) :: nss, pre ++ (st, stO sl (n + 1) t') :: post, g⟩) :
    jwp p A (exec (lB 0) (eL L)) Q E
      ⟨Z, (L, loc D1 D2 vn vs vpl) :: nss, pre ++ (st, stO sl n tk) :: post, g⟩ := by
  have h1 := hA.depth
  have h2 := hA.script
  have h3 := hA.size
  obtain ⟨ap, xp, mp, rfl, hzp, hxp⟩ := hZ.places
  have hxl := hxp.length
  rw [Array.length_toList] at hxl
  have hpos := places_pos t []
  have hple := places_length t []
  refine j_AssignTup (j_Subscript (j_local (l := _) List.mem_cons_self rfl ?_))
  refine j_F2 (fd := f808) (g_law_next _) rfl rfl (j_state hZ ?_)
  refine j_B1 (m_len _) (b_len _) (j_local (l := _) List.mem_cons_self rfl (j_lenList (has_z hzp) (by omega) fun t1 => ?_))
  refine law_next (pre := pre) (post := post) (n := n) (by omega) rfl hZ.sc hx (by omega) (by omega) (by omega) fun t2 t3 => ?_
  have hr := drawAt_range (is := is) (n := n) (k := (xp.size : Int)) (by omega)
  obtain ⟨j, hj⟩ : ∃ j : Nat, j = (drawAt is n (xp.size : Int)).toNat := ⟨_, rfl⟩
  have hjlt : j < (places t []).length := by omega
  obtain ⟨v, hv, hpv⟩ := hxp.get (List.getElem?_eq_getElem hjlt)
  rw [Array.getElem?_toList] at hv
  have hmem : (places t [])[j] ∈ places t [] := List.getElem_mem hjlt
  obtain ⟨x, ex⟩ : ∃ x, x = (places t [])[j] := ⟨_, rfl⟩
  rw [← ex] at hpv hmem
  obtain ⟨a, vp, vt, na, rfl, hza, hp, ht⟩ := hpv
  refine j_getitemInPythonList (has_z hzp) (j_subPlain (j_listItem (v := .ref a) (has_z hzp) hr.1 (by omega) (by rw [← hj]; exact hv) ?_))
  refine j_assignTup2 hA.hh (has_z hza) (j_store0 (j_store0 ?_))
  exact (kq vp vt x t3 hmem hp ht)
theorem st_b1 {Q : Flow → JC → Prop} {vp vt : Value} {x : List Nat × T} (hA : LawA A t is L nss) (hZ : LawZ p kd Z L st sl m xs D t vn vs vpl) (hx : x ∈ places t []) (hp : PlaceAt Z x.1 vp) (ht : Told Z x.2 vt)
    (kq : ∀ Z', Z.le Z' → Q .next ⟨Z', (L, (Str.ofString "piece", vt) :: (Str.ofString "place", vp) :: loc D1 D2 vn vs vpl) :: nss, pre, g⟩) :
    jwp p A (exec (lB 1) (eL L)) Q E
      ⟨Z, (L, (Str.ofString "piece", vt) :: (Str.ofString "place", vp) :: loc D1 D2 vn vs vpl) :: nss, pre, g⟩ := by
  have h1 := hA.depth
  have h2 := hA.units
  have h3 := hA.size
  have h4 := hA.deep
  obtain ⟨hpc, hpl, hpn⟩ := places_ok hx
  have hd := piece_deep _ _ _ hpc
  have hs := piece_size _ _ _ hpc
  have hok := piece_ok _ _ _ hA.ok hpc
  refine j_If (j_isTrueCompare1 (j_F1 (fd := f794) (g_law_told _) rfl rfl ?_))
  refine j_SubE (t := t) (v := vs) (vp := vp) (pl := x.1) (by omega) hA.hh hA.FI hZ.subj hp (by omega) (fun n hn => by have := hpn n hn; omega) (by omega) (fun q => j_local (l := _) List.mem_cons_self rfl q) (fun q => j_local (l := _) List.mem_cons_self rfl q) ?_ (fun Z' le hn => by rw [hpc] at hn; cases hn)
  intro Z1 t' u le1 hpc' hu
  rw [hpc] at hpc'
  cases hpc'
  refine law_told x.2.deep x.2 (Nat.le_refl _) (by omega) hA.hh hu (by omega) fun Z2 w le2 hw => ?_
  refine j_local (l := _) List.mem_cons_self rfl ?_
  refine j_neTold (a := x.2) (b := x.2) hw (ht.mono (le1.trans le2)) hok hok (by omega) (by omega) (by omega) fun r hr => j_truthyBool ?_
  obtain rfl : r = false := by cases r with | true => exact absurd rfl (hr.mp rfl) | false => rfl
  refine ifF ?_
  exact j_nil (kq Z2 (le1.trans le2))
end
structure PlOk (pl : List Nat) : Prop where
  len : pl.length ≤ 20
  nat : ∀ n ∈ pl, n ≤ 100000
noncomputable def lf (s : String) : T := .leaf (Str.ofString s)
noncomputable def givens : List (List T) := [[lf "e"], [.node (Str.ofString "g") [lf "e"]], [], [lf "e", lf "a"], [.node (Str.ofString "s") [lf "e", lf "b"]], [lf "b"]]
noncomputable def picks0 : List Int := [0, 1, 0, 1, 4, 4]
section
variable {p : JP} {kd : Str → Addr} {A : Around} {L st sl D D1 D2 : Addr} {E : JC → Prop} {Z : Zm} {nss : List (Addr × Vars)} {pre post : List (Addr × Obj)} {g : Array GenState} {m n : Nat} {xs : Array Value} {is : List Int} {t : T} {vn vs vpl : Value} {tk : Tok}
theorem st_b2 {Q : Flow → JC → Prop} {vp vt : Value} {pl : List Nat} (hA : LawA A t is L nss) (hx : IntsAt xs is) (hn : n ≤ 900) (hZ : LawZ p kd Z L st sl m xs D t vn vs vpl) (hp : PlaceAt Z pl vp) (hpl : pl.length ≤ 15) (hpn : ∀ n ∈ pl, n ≤ 100000)
    (kq : ∀ Z' vp' pl' n' t', Z.le Z' → PlaceAt Z' pl' vp' → PlOk pl' → n' ≤ n + 2 → Q .next ⟨Z', (L, (Str.ofString "place", vp') :: loc D1 D2 vn vs vpl) :: nss, pre ++ (st, stO sl n' t') :: post, g⟩) :
    jwp p A (exec (lB 2) (eL L)) Q E
      ⟨Z, (L, (Str.ofString "piece", vt) :: (Str.ofString "place", vp) :: loc D1 D2 vn vs vpl) :: nss, pre ++ (st, stO sl n tk) :: post, g⟩ := by
  have h1 := hA.depth
  have h2 := hA.units
  have h3 := hA.size
  have h4 := hA.deep
  refine jwp_up (j_If (j_isTrueCompare1 (j_next hA hx (by omega) hZ (by decide) fun t1 t2 => j_cInt fun t3 => j_eqInt (j_truthyBool ?_))))
  by_cases hb : drawAt is n 5 = 4
  · refine ifB (show (drawAt is n 5 == 4) = true by rw [hb]; rfl) ?_
    have hr := drawAt_range (is := is) (n := n + 1) (k := 5) (by decide)
    obtain ⟨k, hk⟩ : ∃ k : Nat, drawAt is (n + 1) 5 = (k : Int) := ⟨(drawAt is (n + 1) 5).toNat, by omega⟩
    obtain ⟨ap, xp, mp, rfl, hzp, hnp⟩ := hp
    have hxl := hnp.1
    rw [Array.length_toList] at hxl
    refine j_cons (j_Assign (j_BinOp (j_local (v := .ref ap) (l := _) List.mem_cons_self rfl (j_Tuple1 (j_next hA hx (by omega) hZ (by decide) fun t4 t5 => fun a => ?_)))))
    refine jwp_turn0 (Turn.freeze0 fun Z1 le1 h1' => Turn.done ?_)
    rw [hk] at h1'
    refine j_addTupZ (le1 _ _ hzp) h1' (by rw [sizeLine_eq]; show xp.size + 1 ≤ _; omega) fun Z2 a2 n2 le2 h2' => j_store0 ?_
    have hp2 : PlaceAt Z2 (pl ++ [k]) (.ref a2) := ⟨a2, _, n2, rfl, h2', by rw [Array.toList_append]; exact hnp.snoc⟩
    have hkk : ∀ n ∈ pl ++ [k], n ≤ 100000 := fun n hn => by
      rcases List.mem_append.mp hn with h | h
      · exact hpn n h
      · rw [List.mem_singleton] at h; omega
    have hlen : (pl ++ [k]).length ≤ 16 := by simp; omega
    have hZ2 := hZ.mono (le1.trans le2)
    refine j_cons (j_If (j_isTrueCompare1 (j_F2 (fd := f848) (g_law_at _) rfl rfl (j_local (l := _) List.mem_cons_self rfl (j_local (l := _) List.mem_cons_self rfl ?_)))))
    refine law_at (t := t) (pl := pl ++ [k]) (by omega) hA.hh hA.FI hZ2.subj hp2 (by omega) hkk (by omega) fun Z3 u le3 hu => ?_
    refine j_F2 (fd := f827) (g_law_piece _) rfl rfl (j_local (l := _) List.mem_cons_self rfl (j_local (l := _) List.mem_cons_self rfl ?_))
    refine law_piece (t := t) (pl := pl ++ [k]) (by omega) hA.hh (hZ2.mono le3).node (hp2.mono le3) (by omega) hkk fun v hv => ?_
    refine j_neOpt hu hv (fun q hq => ⟨piece_ok _ _ _ hA.ok hq, by have := piece_deep _ _ _ hq; omega⟩) (by omega) (j_truthyBool ?_)
    refine ifF ?_
    refine j_nil (j_nil ⟨⟨Z3, (L, (Str.ofString "place", .ref a2) :: loc D1 D2 vn vs vpl) :: nss, pre ++ (st, stO sl (n + 1 + 1) t5) :: post, g⟩, Conv.know ⟨rfl, rfl, rfl, rfl, rfl, rfl, trivial⟩, kq Z3 (.ref a2) (pl ++ [k]) (n + 1 + 1) t5 ((le1.trans le2).trans le3) (hp2.mono le3) ⟨by omega, hkk⟩ (by omega)⟩)
  · refine ifN (show (drawAt is n 5 == 4) = false by rw [beq_eq_false_iff_ne]; exact hb) ?_
    exact j_nil ⟨⟨Z, (L, (Str.ofString "place", vp) :: loc D1 D2 vn vs vpl) :: nss, pre ++ (st, stO sl (n + 1) t2) :: post, g⟩, Conv.know ⟨rfl, rfl, rfl, rfl, rfl, rfl, trivial⟩, kq Z vp pl (n + 1) t2 (Zm.le.refl _) hp ⟨by omega, hpn⟩ (by omega)⟩
theorem st_b3 {Q : Flow → JC → Prop} {vp : Value} (hA : LawA A t is L nss) (hx : IntsAt xs is) (hn : n ≤ 1000) (hZ : LawZ p kd Z L st sl m xs D t vn vs vpl)
    (kq : ∀ (k : Nat) (u t' : Tok), k < 6 → Q .next ⟨Z, (L, (Str.ofString "pick", .int (k : Int) u) :: (Str.ofString "place", vp) :: loc D1 D2 vn vs vpl) :: nss, pre ++ (st, stO sl (n + 1) t') :: post, g⟩) :
    jwp p A (exec (lB 3) (eL L)) Q E
      ⟨Z, (L, (Str.ofString "place", vp) :: loc D1 D2 vn vs vpl) :: nss, pre ++ (st, stO sl n tk) :: post, g⟩ := by
  have hr := drawAt_range (is := is) (n := n) (k := 6) (by decide)
  obtain ⟨k, hk⟩ : ∃ k : Nat, drawAt is n 6 = (k : Int) := ⟨(drawAt is n 6).toNat, by omega⟩
  refine j_Assign (j_next hA hx hn hZ (by decide) fun t1 t2 => ?_)
  rw [hk]
  exact j_store0 (kq k t1 t2 (by omega))
theorem picks0_ok {k : Nat} (h : k < 6) : ∃ j : Nat, picks0[k]? = some (j : Int) ∧ (j = 0 ∨ j = 1 ∨ j = 4) := by
  have : k = 0 ∨ k = 1 ∨ k = 2 ∨ k = 3 ∨ k = 4 ∨ k = 5 := by omega
  rcases this with rfl | rfl | rfl | rfl | rfl | rfl
  · exact ⟨0, rfl, .inl rfl⟩
  · exact ⟨1, rfl, .inr (.inl rfl)⟩
  · exact ⟨0, rfl, .inl rfl⟩
  · exact ⟨1, rfl, .inr (.inl rfl)⟩
  · exact ⟨4, rfl, .inr (.inr rfl)⟩
  · exact ⟨4, rfl, .inr (.inr rfl)⟩
theorem conv_drop {Z : Zm} {L : Addr} {l l' : Vars} {q : Addr × Obj} {own : List (Addr × Obj)} (hk : KnowL l l') : Conv p ⟨Z, (L, l) :: nss, q :: own, g⟩ ⟨Z, (L, l') :: nss, own, g⟩ := Conv.both hk (List.Perm.refl _) (List.sublist_cons_self _ _)
theorem conv_drop2 {Z : Zm} {L : Addr} {l l' : Vars} {q q2 : Addr × Obj} {own : List (Addr × Obj)} (hk : KnowL l l') : Conv p ⟨Z, (L, l) :: nss, q :: q2 :: own, g⟩ ⟨Z, (L, l') :: nss, own, g⟩ := Conv.both hk (List.Perm.refl _) ((List.sublist_cons_self _ _).trans (List.sublist_cons_self _ _))
theorem st_b4 {Q : Flow → JC → Prop} {vp : Value} {pl : List Nat} {k : Nat} {u : Tok} (hA : LawA A t is L nss) (hp : PlaceAt Z pl vp) (hk : k < 6)
    (kq : ∀ (k : Nat) (u : Tok), k < 6 → ((pl = [] → k = 0 ∨ k = 1 ∨ k = 4)) → Q .next ⟨Z, (L, (Str.ofString "pick", .int (k : Int) u) :: (Str.ofString "place", vp) :: loc D1 D2 vn vs vpl) :: nss, pre, g⟩) :
    jwp p A (exec (lB 4) (eL L)) Q E
      ⟨Z, (L, (Str.ofString "pick", .int (k : Int) u) :: (Str.ofString "place", vp) :: loc D1 D2 vn vs vpl) :: nss, pre, g⟩ := by
  have h2 := hA.units
  refine jwp_up (j_If (j_isTrueCompare1 (j_local (l := _) List.mem_cons_self rfl (j_Tuple (j_splicedNil ⟨Nat.zero_le _, fun e => ?_⟩)))))
  refine j_eqPlace (a := pl) (b := []) hp.has ⟨e, #[], 0, rfl, has_own List.mem_cons_self, rfl, fun V V h => by simp at h⟩ (by omega) fun r hr => j_truthyBool ?_
  cases r with
  | true =>
    refine ifT ?_
    obtain ⟨j, hj, hjo⟩ := picks0_ok hk
    refine j_cons (j_Assign (j_Subscript (litInts_list (is := picks0) (by repeat constructor) (by decide) fun a vs' hvs => ?_)))
    obtain ⟨v, hv, t1, rfl⟩ := hvs.get hj
    refine j_local (l := _) List.mem_cons_self rfl (j_getitemInPythonList (has_own (o := LO vs'.toArray 0) List.mem_cons_self) (j_subPlain (j_listItem (v := .int (j : Int) t1) (has_own (o := LO vs'.toArray 0) List.mem_cons_self) (by omega) (by omega) (by simpa using hv) ?_)))
    refine j_store0 (j_nil ⟨⟨Z, (L, (Str.ofString "pick", .int (j : Int) t1) :: (Str.ofString "place", vp) :: loc D1 D2 vn vs vpl) :: nss, pre, g⟩, conv_drop2 ⟨rfl, rfl, rfl, rfl, rfl, rfl, rfl, trivial⟩, kq j t1 (by omega) (fun V => hjo)⟩)
  | false =>
    refine ifF ?_
    exact j_nil ⟨⟨Z, (L, (Str.ofString "pick", .int (k : Int) u) :: (Str.ofString "place", vp) :: loc D1 D2 vn vs vpl) :: nss, pre, g⟩, conv_drop ⟨rfl, rfl, rfl, rfl, rfl, rfl, rfl, trivial⟩, kq k u hk (fun e => by have := hr.mpr e; cases this)⟩
theorem st_b5 {Q : Flow → JC → Prop} {vp : Value} {k : Nat} {u : Tok} (hk : k < 6)
    (kq : ∀ Z' vg rows, Z.le Z' → givens[k]? = some rows → RowsAt Z' rows vg → Q .next ⟨Z', (L, (Str.ofString "given", vg) :: (Str.ofString "pick", .int (k : Int) u) :: (Str.ofString "place", vp) :: loc D1 D2 vn vs vpl) :: nss, pre, g⟩) :
    jwp p A (exec (lB 5) (eL L)) Q E
      ⟨Z, (L, (Str.ofString "pick", .int (k : Int) u) :: (Str.ofString "place", vp) :: loc D1 D2 vn vs vpl) :: nss, pre, g⟩ := by
  refine jwp_up (j_Assign (j_Subscript ?_))
  refine litRows_list (rows := givens) (.cons (.cons lit_leaf .nil) (by decide) (.cons (.cons (lit_node (.cons lit_leaf .nil) (by decide)) .nil) (by decide) (.cons .nil (by decide) (.cons (.cons lit_leaf (.cons lit_leaf .nil)) (by decide)
    (.cons (.cons (lit_node (.cons lit_leaf (.cons lit_leaf .nil)) (by decide)) .nil) (by decide) (.cons (.cons lit_leaf .nil) (by decide) .nil)))))) (by decide) fun Z' a vs' le hvs => ?_
  obtain ⟨rows, hr⟩ : ∃ rows, givens[k]? = some rows := ⟨_, List.getElem?_eq_getElem (by show k < 6; exact hk)⟩
  obtain ⟨v, hv, hrv⟩ := hvs.get hr
  refine j_local (l := _) List.mem_cons_self rfl (j_getitemInPythonList (has_own (o := LO vs'.toArray 0) List.mem_cons_self) (j_subPlain (j_listItem (v := v) (has_own (o := LO vs'.toArray 0) List.mem_cons_self) (by omega) (by omega) (by simpa using hv) ?_)))
  exact j_store0 ⟨⟨Z', (L, (Str.ofString "given", v) :: (Str.ofString "pick", .int (k : Int) u) :: (Str.ofString "place", vp) :: loc D1 D2 vn vs vpl) :: nss, pre, g⟩, conv_drop ⟨rfl, rfl, rfl, rfl, rfl, rfl, rfl, rfl, trivial⟩, kq Z' v rows le hr hrv⟩
end
structure RowOk (rows : List T) : Prop where
  fine : Fines rows
  size : sizes rows ≤ 3
  deep : deeps rows ≤ 3
theorem lf_fine {s : String} (h : isLeaf (Str.ofString s)) : (lf s).Fine := ⟨h, trivial⟩
theorem fines_nil : Fines [] := fun t h => by cases h
theorem fines_cons {t : T} {ts : List T} (h : t.Fine) (h' : Fines ts) : Fines (t :: ts) := fun q hq => by
  rcases List.mem_cons.mp hq with rfl | hq
  · exact h
  · exact h' q hq
theorem lf_e : (lf "e").Fine := lf_fine (.inr (.inr (.inr rfl)))
theorem lf_a : (lf "a").Fine := lf_fine (.inl rfl)
theorem lf_b : (lf "b").Fine := lf_fine (.inr (.inl rfl))
theorem lf_ne {s : String} {k : Str} (h : isLeaf (Str.ofString s)) (hk : isKind k) : (lf s).name ≠ k := h.ne hk
theorem g_fine : (T.node (Str.ofString "g") [lf "e"]).Fine := fine_node.mpr ⟨.inr (.inl rfl), fun V q hq => by
  rw [List.mem_singleton] at hq; subst hq
  exact lf_ne (.inr (.inr (.inr rfl))) (.inr (.inl rfl)), fines_cons lf_e fines_nil⟩
theorem s_fine : (T.node (Str.ofString "s") [lf "e", lf "b"]).Fine := fine_node.mpr ⟨.inr (.inr rfl), fun V q hq => by
  rcases List.mem_cons.mp hq with rfl | hq
  · exact lf_ne (.inr (.inr (.inr rfl))) (.inr (.inr rfl))
  · rw [List.mem_singleton] at hq; subst hq
    exact lf_ne (.inr (.inl rfl)) (.inr (.inr rfl)), fines_cons lf_e (fines_cons lf_b fines_nil)⟩
theorem givens_ok {k : Nat} {rows : List T} (h : givens[k]? = some rows) : RowOk rows := by
  have hk : k < 6 := (List.getElem?_eq_some_iff.mp h).1
  have : k = 0 ∨ k = 1 ∨ k = 2 ∨ k = 3 ∨ k = 4 ∨ k = 5 := by omega
  rcases this with rfl | rfl | rfl | rfl | rfl | rfl <;> cases h
  · exact ⟨fines_cons lf_e fines_nil, by decide, by decide⟩
  · exact ⟨fines_cons g_fine fines_nil, by decide, by decide⟩
  · exact ⟨fines_nil, by decide, by decide⟩
  · exact ⟨fines_cons lf_e (fines_cons lf_a fines_nil), by decide, by decide⟩
  · exact ⟨fines_cons s_fine fines_nil, by decide, by decide⟩
  · exact ⟨fines_cons lf_b fines_nil, by decide, by decide⟩
theorem givens_one {k : Nat} {rows : List T} (h : givens[k]? = some rows) (hk : k ≠ 2 ∧ k ≠ 3 ∧ k ≠ 5) : ∃ q, rows = [q] := by
  have hk6 : k < 6 := (List.getElem?_eq_some_iff.mp h).1
  have : k = 0 ∨ k = 1 ∨ k = 4 := by omega
  rcases this with rfl | rfl | rfl <;> cases h <;> exact ⟨_, rfl⟩
section
variable {p : JP} {kd : Str → Addr} {A : Around} {L st sl D D1 D2 : Addr} {E : JC → Prop} {Z : Zm} {nss : List (Addr × Vars)} {pre post : List (Addr × Obj)} {g : Array GenState} {m n : Nat} {xs : Array Value} {is : List Int} {t : T} {vn vs vpl : Value} {tk : Tok}
theorem st_b6 {Q : Flow → JC → Prop} {vp vg vk : Value} {rows : List T} (hA : LawA A t is L nss) (hZ : LawZ p kd Z L st sl m xs D t vn vs vpl) (hr : RowsAt Z rows vg) (hok : RowOk rows)
    (kq : ∀ Z' vm, Z.le Z' → RAt p.w.params kd Z' (.many rows) vm → Q .next ⟨Z', (L, (Str.ofString "made", vm) :: (Str.ofString "given", vg) :: (Str.ofString "pick", vk) :: (Str.ofString "place", vp) :: loc D1 D2 vn vs vpl) :: nss, pre, g⟩) :
    jwp p A (exec (lB 6) (eL L)) Q E
      ⟨Z, (L, (Str.ofString "given", vg) :: (Str.ofString "pick", vk) :: (Str.ofString "place", vp) :: loc D1 D2 vn vs vpl) :: nss, pre, g⟩ := by
  have h1 := hA.depth
  obtain ⟨a, ys, ma, rfl, hza, hys⟩ := hr
  have hyl := hys.length
  rw [Array.length_toList] at hyl
  have hl3 := length_le_sizes rows
  have hs3 := hok.size
  obtain ⟨oK, hK1, hK2⟩ := hZ.cK
  refine jwp_turn (j_AssignComp (y := Str.ofString "made") (iter_list a ys ma) (fun i zs c₁ => ∀ X : Prop, (∀ Z', c₁ = ⟨Z', (L, (Str.ofString "given", .ref a) :: (Str.ofString "pick", vk) :: (Str.ofString "place", vp) :: loc D1 D2 vn vs vpl) :: nss, pre, g⟩ → Z.le Z' → EAtAll p.w.params kd Z' (rows.take i) zs.toList → X) → X)
    hA.hh (fun V => go_name) rfl rfl rfl ?_ ?_ ?_ ?_ ?_)
  · refine j_local (l := _) List.mem_cons_self rfl (j_iterList (has_z hza) fun it o ho => ⟨it, o, _, rfl, ho, Conv.refl _, fun V kK => kK Z rfl (Zm.le.refl _) ?_⟩)
    simp only [List.take_zero]; exact .nil
  · intro i zs c₁ C l' acc k it o hX
    refine hX _ fun Z' eS le' V => ?_
    clear hX
    subst eS
    exact has_z (le' _ _ hza)
  · intro i zs c₁ hX3 hi
    refine hX3 _ fun Z' eS le' hz => ?_
    clear hX3
    subst eS
    have := hz.length
    rw [Array.length_toList, List.length_take] at this
    rw [sizeLine_eq]; omega
  · intro i v c₁ C acc zs k it o hi hv ho hX
    refine hX _ fun Z' eS le' hz => ?_
    clear hX
    subst eS
    have hv' : ys.toList[i]? = some v := by rw [Array.getElem?_toList]; exact hv
    obtain ⟨tr, hti, htv⟩ := hys.get hv'
    have hmem := List.mem_of_getElem? hti
    refine j_assignName (j_store0 (j_testsNil ?_))
    refine ifT ?_
    refine j_F2 (fd := f789) (g_law_make _) rfl rfl ?_
    refine j_cell (a := L + 2) rfl (has_z (le' _ _ hK1)) hK2 ?_
    refine j_local (l := _) List.mem_cons_self rfl ?_
    have hd := deep_mem hmem
    have hs2 := size_mem hmem
    have hd3 := hok.deep
    refine law_make tr.deep tr (Nat.le_refl _) (by omega) hA.hh (htv.mono le') (hok.fine tr hmem).1 (hok.fine tr hmem).2 (by omega) (hZ.mono le').kinds (hZ.mono le').kdict fun Z2 v2 le2 hv2 => ?_
    refine ⟨⟨Z2, (L, (Str.ofString "given", .ref a) :: (Str.ofString "pick", vk) :: (Str.ofString "place", vp) :: loc D1 D2 vn vs vpl) :: nss, pre, g⟩, Conv.know (l' := []) trivial, fun V kK => kK Z2 rfl (le'.trans le2) ?_⟩
    rw [list_take_succ hti]
    exact (hz.mono le2).push hv2
  · intro zs c₁ acc k hX
    refine hX _ fun Z' eS le' hz => ?_
    clear hX
    subst eS
    refine ⟨_, _, rfl, Turn.freeze0 fun Z2 le2 h2 => Turn.done (kq Z2 (.ref acc) (le'.trans le2) ⟨acc, zs, k, rfl, h2, ?_⟩)⟩
    rw [hyl, List.take_length] at hz
    exact hz.mono le2
theorem st_b7 {Q : Flow → JC → Prop} {vp vg vm : Value} {rows : List T} {pl : List Nat} {k : Nat} {u : Tok} (hk : k < 6) (hg : givens[k]? = some rows) (hp0 : pl = [] → k = 0 ∨ k = 1 ∨ k = 4) (hm : RAt p.w.params kd Z (.many rows) vm)
    (kq : ∀ vm r, r.rows = rows → ((pl = [] → ∃ q, r = .one q)) → RAt p.w.params kd Z r vm → Q .next ⟨Z, (L, (Str.ofString "made", vm) :: (Str.ofString "given", vg) :: (Str.ofString "place", vp) :: loc D1 D2 vn vs vpl) :: nss, pre, g⟩) :
    jwp p A (exec (lB 7) (eL L)) Q E
      ⟨Z, (L, (Str.ofString "made", vm) :: (Str.ofString "given", vg) :: (Str.ofString "pick", .int (k : Int) u) :: (Str.ofString "place", vp) :: loc D1 D2 vn vs vpl) :: nss, pre, g⟩ := by
  refine jwp_up (j_If (j_isTrueCompare1 (j_local (l := _) List.mem_cons_self rfl (litInts_list (is := [2, 3, 5]) (by repeat constructor) (by decide) fun a vs' hvs => j_notInInts (has_own List.mem_cons_self) hvs (j_truthyBool ?_)))))
  by_cases hb : k = 2 ∨ k = 3 ∨ k = 5
  · refine ifN (show (!(([2, 3, 5] : List Int).any (· == (k : Int)))) = false by rcases hb with rfl | rfl | rfl <;> rfl) ?_
    refine j_nil ⟨⟨Z, (L, (Str.ofString "made", vm) :: (Str.ofString "given", vg) :: (Str.ofString "place", vp) :: loc D1 D2 vn vs vpl) :: nss, pre, g⟩, conv_drop ⟨rfl, rfl, rfl, rfl, rfl, rfl, rfl, rfl, trivial⟩, kq vm (.many rows) rfl (fun e => ?_) hm⟩
    have := hp0 e
    omega
  · have hk3 : k = 0 ∨ k = 1 ∨ k = 4 := by omega
    refine ifB (show (!(([2, 3, 5] : List Int).any (· == (k : Int)))) = true by rcases hk3 with rfl | rfl | rfl <;> rfl) ?_
    obtain ⟨q, rfl⟩ := givens_one hg (by omega)
    obtain ⟨l, ws, mw, rfl, hz, he⟩ := hm
    obtain ⟨w, hw, hew⟩ := he.getT (i := 0) (t := q) rfl
    rw [Array.getElem?_toList] at hw
    refine j_cons (j_Assign (j_atL (v := w) List.mem_cons_self rfl (has_z hz) hw ?_))
    refine j_store0 (j_nil ⟨⟨Z, (L, (Str.ofString "made", w) :: (Str.ofString "given", vg) :: (Str.ofString "place", vp) :: loc D1 D2 vn vs vpl) :: nss, pre, g⟩, conv_drop ⟨rfl, rfl, rfl, rfl, rfl, rfl, rfl, rfl, trivial⟩, kq w (.one q) rfl (fun V => ⟨q, rfl⟩) hew⟩)
end
structure RdOk (d : RDeed) : Prop where
  pl : PlOk d.1
  row : RowOk d.2.rows
  one : d.1 = [] → ∃ q, d.2 = .one q
structure RdsOk (rds : List RDeed) : Prop where
  all : ∀ d ∈ rds, RdOk d
  nodup : (rds.map (·.1)).Nodup
theorem RowOk.oks {rows : List T} (h : RowOk rows) : Oks rows := Oks_of fun t ht => (h.fine t ht).1
theorem RdOk.ne {d : RDeed} (h : RdOk d) (e : d.1 = []) : d.2.rows ≠ [] := by
  rcases h.one e with ⟨q, hq⟩
  rw [hq]; simp [Repl.rows]
section
variable {p : JP} {kd : Str → Addr} {A : Around} {L st sl D D1 D2 : Addr} {E : JC → Prop} {Z : Zm} {nss : List (Addr × Vars)} {pre post : List (Addr × Obj)} {g : Array GenState} {m n : Nat} {xs : Array Value} {is : List Int} {t : T} {vn vs vpl : Value} {tk : Tok}
theorem st_b8 {Q : Flow → JC → Prop} {vp vg vm : Value} {d : RDeed} (hA : LawA A t is L nss) (hZ : LawZ p kd Z L st sl m xs D t vn vs vpl) (hd : RdOk d) (hp : PlaceAt Z d.1 vp) (hg : RowsAt Z d.2.rows vg)
    (kq : ∀ Z' vd, Z.le Z' → OptRows Z' (put t d.1 d.2.rows) vd → Q .next ⟨Z', (L, (Str.ofString "due", vd) :: (Str.ofString "made", vm) :: (Str.ofString "given", vg) :: (Str.ofString "place", vp) :: loc D1 D2 vn vs vpl) :: nss, pre, g⟩) :
    jwp p A (exec (lB 8) (eL L)) Q E
      ⟨Z, (L, (Str.ofString "made", vm) :: (Str.ofString "given", vg) :: (Str.ofString "place", vp) :: loc D1 D2 vn vs vpl) :: nss, pre, g⟩ := by
  have h1 := hA.depth
  have h2 := hA.units
  have h3 := hA.size
  have h5 := hd.pl.len
  have h6 := hd.row.size
  refine j_Assign (j_F3 (fd := f834) (g_law_put _) rfl rfl (j_local (l := _) List.mem_cons_self rfl (j_local (l := _) List.mem_cons_self rfl (j_local (l := _) List.mem_cons_self rfl ?_))))
  refine law_put d.1 (t := t) (rows := d.2.rows) (by omega) (by omega) hA.hh hZ.node hp hg hA.ok hd.row.oks (by omega) hd.pl.nat (by omega) fun Z1 v le1 hv => ?_
  exact j_store0 (kq Z1 v le1 hv)
theorem st_b9 {vp vg vm vd : Value} {d : RDeed} (hA : LawA A t is L nss) (hZ : LawZ p kd Z L st sl m xs D t vn vs vpl) (hd : RdOk d) (hp : PlaceAt Z d.1 vp) (hm : RAt p.w.params kd Z d.2 vm) (hv : OptRows Z (put t d.1 d.2.rows) vd) :
    jwp p A (exec (lB 9) (eL L)) (fun f c₁ => f = .next ∧ ∃ Z', c₁ = ⟨Z', (L, (Str.ofString "made", vm) :: (Str.ofString "given", vg) :: (Str.ofString "place", vp) :: loc D1 D2 vn vs vpl) :: nss, pre, g⟩ ∧ Z.le Z') E
      ⟨Z, (L, (Str.ofString "due", vd) :: (Str.ofString "made", vm) :: (Str.ofString "given", vg) :: (Str.ofString "place", vp) :: loc D1 D2 vn vs vpl) :: nss, pre, g⟩ := by
  have h1 := hA.depth
  have h2 := hA.units
  have h3 := hA.size
  have h4 := hA.deep
  have h5 := hd.pl.len
  have h6 := hd.row.size
  have h7 := hd.row.deep
  refine jwp_up (j_If (j_isTrueBoolOp (j_allTrueOr (j_isTrueCompare1 ?_))))
  refine j_F3 (fd := f855) (g_law_asked _) rfl rfl (j_local (l := _) List.mem_cons_self rfl (j_local (l := _) List.mem_cons_self rfl (j_local (l := _) List.mem_cons_self rfl ?_)))
  refine law_asked (t := t) (r := d.2) (pl := d.1) (by omega) hA.hh hA.FI hZ.kinds hZ.subj hp hm hA.ok (by omega) hd.pl.nat (by omega) (fun r' => rep_one hd.one) fun Z1 u le1 hu => ?_
  rw [rep_told hd.one] at hu
  have okP : ∀ q, (put t d.1 d.2.rows).bind List.head? = some q → q.Ok ∧ q.deep ≤ 64 := fun q hq => by
    obtain ⟨out, ho, hh⟩ := Option.bind_eq_some_iff.mp hq
    have a1 := put_ok d.1 t _ _ hA.ok hd.row.oks ho
    have a2 := put_deep d.1 t _ _ ho
    have hm : q ∈ out := List.mem_of_mem_head? hh
    have a3 := deep_mem hm
    exact ⟨a1.mem hm, by omega⟩
  have rest : ∀ {w : Value}, OptTold Z1 ((put t d.1 d.2.rows).bind List.head?) w → jwp p A (compareOp .NotEq u w) (fun v c₃ => jwp p A (truthy v) (fun b c₁ => match b with
      | true => (fun b c₁ => if b = true then jwp p A (execs [Stmt.Return (some (.Constant (.bool false) 0 ⟨850, 19, 850, 24⟩)) ⟨850, 12, 850, 24⟩] (eL L)) (fun f c₁ => ∃ c₂, Conv p c₁ c₂ ∧ f = .next ∧ ∃ Z', c₂ = ⟨Z', (L, (Str.ofString "made", vm) :: (Str.ofString "given", vg) :: (Str.ofString "place", vp) :: loc D1 D2 vn vs vpl) :: nss, pre, g⟩ ∧ Z.le Z') E c₁ else jwp p A (execs [] (eL L)) (fun f c₁ => ∃ c₂, Conv p c₁ c₂ ∧ f = .next ∧ ∃ Z', c₂ = ⟨Z', (L, (Str.ofString "made", vm) :: (Str.ofString "given", vg) :: (Str.ofString "place", vp) :: loc D1 D2 vn vs vpl) :: nss, pre, g⟩ ∧ Z.le Z') E c₁) true c₁
      | false => jwp p A (allTrue .Or [.Compare (.Call (.Name (Str.ofString "_law_told") ⟨849, 84, 849, 93⟩) [.Name (Str.ofString "subject") ⟨849, 94, 849, 101⟩] [] ⟨849, 84, 849, 102⟩) [.NotEq] [.Name (Str.ofString "node") ⟨849, 106, 849, 110⟩] ⟨849, 84, 849, 110⟩] (eL L)) (fun b c₁ => if b = true then jwp p A (execs [Stmt.Return (some (.Constant (.bool false) 0 ⟨850, 19, 850, 24⟩)) ⟨850, 12, 850, 24⟩] (eL L)) (fun f c₁ => ∃ c₂, Conv p c₁ c₂ ∧ f = .next ∧ ∃ Z', c₂ = ⟨Z', (L, (Str.ofString "made", vm) :: (Str.ofString "given", vg) :: (Str.ofString "place", vp) :: loc D1 D2 vn vs vpl) :: nss, pre, g⟩ ∧ Z.le Z') E c₁ else jwp p A (execs [] (eL L)) (fun f c₁ => ∃ c₂, Conv p c₁ c₂ ∧ f = .next ∧ ∃ Z', c₂ = ⟨Z', (L, (Str.ofString "made", vm) :: (Str.ofString "given", vg) :: (Str.ofString "place", vp) :: loc D1 D2 vn vs vpl) :: nss, pre, g⟩ ∧ Z.le Z') E c₁) E c₁) E c₃) E ⟨Z1, (L, (Str.ofString "due", vd) :: (Str.ofString "made", vm) :: (Str.ofString "given", vg) :: (Str.ofString "place", vp) :: loc D1 D2 vn vs vpl) :: nss, pre, g⟩ := by
    intro w hw
    refine j_neOpt hu hw okP (by omega) (j_truthyBool ?_)
    have hZ1 := hZ.mono le1
    refine j_allTrueOr (j_isTrueCompare1 (j_F1 (fd := f794) (g_law_told _) rfl rfl (j_local (l := _) List.mem_cons_self rfl ?_)))
    refine law_told t.deep t (Nat.le_refl _) (by omega) hA.hh hZ1.subj (by omega) fun Z2 w2 le2 hw2 => ?_
    refine j_local (l := _) List.mem_cons_self rfl ?_
    refine j_neOpt (o := some t) hw2 (hZ1.mono le2).node (fun q hq => by cases hq; exact ⟨hA.ok, by omega⟩) (by omega) (j_truthyBool (j_allTrueNilOr ?_))
    refine ifF ?_
    exact j_nil ⟨⟨Z2, (L, (Str.ofString "made", vm) :: (Str.ofString "given", vg) :: (Str.ofString "place", vp) :: loc D1 D2 vn vs vpl) :: nss, pre, g⟩, Conv.know ⟨rfl, rfl, rfl, rfl, rfl, rfl, rfl, rfl, trivial⟩, rfl, Z2, rfl, le1.trans le2⟩
  refine j_IfExp (j_isTrueCompare1 (j_local (l := _) List.mem_cons_self rfl (j_cNone ?_)))
  cases hpi : put t d.1 d.2.rows with
  | none =>
    rw [hpi] at hv rest
    obtain rfl : vd = .none := hv
    refine j_is rfl (j_truthyBool ?_)
    refine ifB (show (Value.none == Value.none) = true from rfl) ?_
    exact j_cNone (rest rfl)
  | some rows =>
    rw [hpi] at hv rest
    obtain ⟨a4, x4, m4, rfl, hz4, ht4⟩ := hv
    refine j_is rfl (j_truthyBool ?_)
    rw [show ((Value.ref a4 == Value.none) = false) from rfl]
    refine ifF ?_
    have hrow : ∃ t2 r2, rows = t2 :: r2 := by
      cases rows with
      | nil => exact absurd hpi (put_ne hd.ne)
      | cons x y => exact ⟨x, y, rfl⟩
    obtain ⟨t2, r2, rfl⟩ := hrow
    obtain ⟨w, hw, htw⟩ := ht4.getT (i := 0) (t := t2) rfl
    rw [Array.getElem?_toList] at hw
    refine j_atL (v := w) List.mem_cons_self rfl (has_z (le1 _ _ hz4)) hw ?_
    exact rest (htw.mono le1)
end
section
variable {p : JP} {kd : Str → Addr} {A : Around} {L st sl D D1 D2 : Addr} {E : JC → Prop} {Z : Zm} {nss : List (Addr × Vars)} {pre post : List (Addr × Obj)} {g : Array GenState} {m n : Nat} {xs : Array Value} {is : List Int} {t : T} {vn vs vpl : Value} {tk : Tok}
theorem st_b10 {Q : Flow → JC → Prop} {vp vg vm : Value} {d : RDeed} {rds : List RDeed} {ys zs : Array Value} {k1 k2 : Nat} (hA : LawA A t is L nss) (hd : RdOk d) (hp : PlaceAt Z d.1 vp) (hg : RowsAt Z d.2.rows vg) (hm : RAt p.w.params kd Z d.2 vm)
    (hy : All2 (DeedAt Z) (rds.map dd) ys.toList) (hz : All2 (RDeedAt p.w.params kd Z) rds zs.toList) (hr : RdsOk rds) (hl : rds.length ≤ 100)
    (kq : ∀ Z' rds' ys' zs' k1' k2', Z.le Z' → All2 (DeedAt Z') (rds'.map dd) ys'.toList → All2 (RDeedAt p.w.params kd Z') rds' zs'.toList → RdsOk rds' → rds'.length ≤ rds.length + 1 → 1 ≤ rds'.length → Q .next ⟨Z', (L, loc D1 D2 vn vs vpl) :: nss, (D1, LO ys' k1') :: (D2, LO zs' k2') :: post, g⟩) :
    jwp p A (exec (lB 10) (eL L)) Q E
      ⟨Z, (L, (Str.ofString "made", vm) :: (Str.ofString "given", vg) :: (Str.ofString "place", vp) :: loc D1 D2 vn vs vpl) :: nss, (D1, LO ys k1) :: (D2, LO zs k2) :: post, g⟩ := by
  have h2 := hA.units
  have hyl := hy.length
  rw [Array.length_toList, List.length_map] at hyl
  have hzl := hz.length
  rw [Array.length_toList] at hzl
  refine jwp_up (j_If (j_isTrueCompare1 (j_local (l := _) List.mem_cons_self rfl ?_)))
  refine j_ListComp (iter_list D1 ys k1) (fun i ws c₁ => c₁ = ⟨Z, (L, (Str.ofString "made", vm) :: (Str.ofString "given", vg) :: (Str.ofString "place", vp) :: loc D1 D2 vn vs vpl) :: nss, (D1, LO ys k1) :: (D2, LO zs k2) :: post, g⟩ ∧ All2 (PlaceAt Z) ((rds.map (·.1)).take i) ws.toList)
    hA.hh (fun V => go_name) rfl rfl rfl ?_ ?_ ?_ ?_ ?_
  · refine j_local (l := _) List.mem_cons_self rfl (j_iterList (has_own List.mem_cons_self) fun it o ho => ⟨it, o, _, rfl, ho, Conv.refl _, rfl, ?_⟩)
    simp only [List.take_zero]; exact .nil
  · intro i zs c₁ C l' acc k it o hX
    obtain ⟨rfl, _⟩ := hX
    exact has_own (by trivial)
  · intro i ws c₁ hX3 hi
    rcases hX3 with ⟨rfl, hw⟩
    have := hw.length
    rw [Array.length_toList, List.length_take] at this
    rw [sizeLine_eq]; omega
  · intro i v c₁ C acc ws k it o hi hv ho hX
    obtain ⟨rfl, hw⟩ := hX
    have hv' : ys.toList[i]? = some v := by rw [Array.getElem?_toList]; exact hv
    have hi' : i < rds.length := by omega
    obtain ⟨w, hw', hdw⟩ := hy.get (i := i) (x := dd rds[i]) (by rw [List.getElem?_map, List.getElem?_eq_getElem hi']; rfl)
    rw [hv'] at hw'
    cases hw'
    obtain ⟨a, vpp, vrr, na, rfl, hza, hpp, _⟩ := hdw
    refine j_assignName (j_store0 (j_testsNil ?_))
    refine ifT ?_
    refine j_atT (v := vpp) (i := 0) List.mem_cons_self rfl (has_z hza) rfl rfl ?_
    refine ⟨⟨Z, (L, (Str.ofString "made", vm) :: (Str.ofString "given", vg) :: (Str.ofString "place", vp) :: loc D1 D2 vn vs vpl) :: nss, (D1, LO ys k1) :: (D2, LO zs k2) :: post, g⟩, Conv.know (l' := []) trivial, rfl, ?_⟩
    rw [Array.toList_push, List.take_add_one, List.getElem?_map, List.getElem?_eq_getElem hi']
    exact hw.append (All2.one hpp)
  · intro ws c₁ acc k hX
    obtain ⟨rfl, hw⟩ := hX
    rw [hyl, show (rds.map (·.1)).take rds.length = rds.map (·.1) from List.take_of_length_le (by simp)] at hw
    refine j_notInPlaces hp (has_own List.mem_cons_self) hw (by omega) fun b hb => j_truthyBool ?_
    cases b with
    | true =>
      have hni := hb.mp rfl
      refine ifT ?_
      refine j_cons (j_ExprNone (j_appendM (j_local (l := _) List.mem_cons_self rfl ⟨D1, ys, k1, rfl, has_own (by trivial), j_Tuple2 (j_local (l := _) List.mem_cons_self rfl (j_local (l := _) List.mem_cons_self rfl fun a => ?_))⟩)))
      refine jwp_turn0 (Turn.freeze0 fun Z1 le1 h1 => Turn.done ?_)
      refine j_append (pre := [(acc, LO ws k)]) rfl (by rw [sizeLine_eq]; omega) fun k1' => ⟨rfl, ?_⟩
      refine j_cons (j_ExprNone (j_appendM (j_local (l := _) List.mem_cons_self rfl ⟨D2, zs, k2, rfl, has_own (by trivial), j_Tuple2 (j_local (l := _) List.mem_cons_self rfl (j_local (l := _) List.mem_cons_self rfl fun a2 => ?_))⟩)))
      refine jwp_turn0 (Turn.freeze0 fun Z2 le2 h2' => Turn.done ?_)
      refine j_append (pre := [(acc, LO ws k), (D1, LO (ys.push (.ref a)) k1')]) rfl (by rw [sizeLine_eq]; omega) fun k2' => ⟨rfl, j_nil ?_⟩
      have le12 := le1.trans le2
      refine ⟨⟨Z2, (L, loc D1 D2 vn vs vpl) :: nss, (D1, LO (ys.push (.ref a)) k1') :: (D2, LO (zs.push (.ref a2)) k2') :: post, g⟩, conv_drop ⟨rfl, rfl, rfl, rfl, rfl, trivial⟩, kq Z2 (rds ++ [d]) _ _ k1' k2' le12 ?_ ?_ ⟨fun e he => ?_, ?_⟩ (by simp) (by simp)⟩
      · rw [Array.toList_push, List.map_append]
        exact (hy.mono fun V V x => x.mono le12).append (All2.one ⟨a, vp, vg, 0, rfl, le2 _ _ h1, hp.mono le12, hg.mono le12⟩)
      · rw [Array.toList_push]
        exact (hz.mono fun V V x => x.mono le12).append (All2.one ⟨a2, vp, vm, 0, rfl, h2', hp.mono le12, hm.mono le12⟩)
      · rcases List.mem_append.mp he with h | h
        · exact hr.all e h
        · rw [List.mem_singleton] at h; subst h; exact hd
      · rw [List.map_append, List.nodup_append]
        refine ⟨hr.nodup, by simp, fun x hx y hy e => ?_⟩
        simp only [List.map_cons, List.map_nil, List.mem_singleton] at hy
        subst hy; subst e
        exact hni hx
    | false =>
      have hin : d.1 ∈ rds.map (·.1) := Classical.byContradiction fun h => by have := hb.mpr h; cases this
      have hpos : 1 ≤ rds.length := by
        have := List.length_pos_of_mem hin
        rw [List.length_map] at this
        exact this
      refine ifF ?_
      exact j_nil ⟨⟨Z, (L, loc D1 D2 vn vs vpl) :: nss, (D1, LO ys k1) :: (D2, LO zs k2) :: post, g⟩, conv_drop ⟨rfl, rfl, rfl, rfl, rfl, trivial⟩, kq Z rds ys zs k1 k2 (Zm.le.refl _) hy hz hr (by omega) hpos⟩
theorem st_turn {Q : Flow → JC → Prop} {rds : List RDeed} {ys zs : Array Value} {k1 k2 : Nat} (hA : LawA A t is L nss) (hx : IntsAt xs is) (hn : n ≤ 800) (hZ : LawZ p kd Z L st sl m xs D t vn vs vpl)
    (hy : All2 (DeedAt Z) (rds.map dd) ys.toList) (hz : All2 (RDeedAt p.w.params kd Z) rds zs.toList) (hr : RdsOk rds) (hl : rds.length ≤ 100)
    (kq : ∀ Z' rds' ys' zs' k1' k2' n' t', Z.le Z' → All2 (DeedAt Z') (rds'.map dd) ys'.toList → All2 (RDeedAt p.w.params kd Z') rds' zs'.toList → RdsOk rds' → rds'.length ≤ rds.length + 1 → 1 ≤ rds'.length → n' ≤ n + 10 → Q .next ⟨Z', (L, loc D1 D2 vn vs vpl) :: nss, (D1, LO ys' k1') :: (D2, LO zs' k2') :: (st, stO sl n' t') :: post, g⟩) :
    jwp p A (execs lK (eL L)) Q E
      ⟨Z, (L, loc D1 D2 vn vs vpl) :: nss, (D1, LO ys k1) :: (D2, LO zs k2) :: (st, stO sl n tk) :: post, g⟩ := by
  have h3 := hA.size
  have h4 := hA.deep
  show jwp p A (execs [lB 0, lB 1, lB 2, lB 3, lB 4, lB 5, lB 6, lB 7, lB 8, lB 9, lB 10] (eL L)) _ E _
  refine j_cons (st_b0 (pre := [(D1, LO ys k1), (D2, LO zs k2)]) hA hx (by omega) hZ fun vp vt x t1 hxm hp ht => ?_)
  obtain ⟨hpc, hpl, hpn⟩ := places_ok hxm
  refine j_cons (st_b1 hA hZ hxm hp ht fun Z1 le1 => ?_)
  refine j_cons (st_b2 (pre := [(D1, LO ys k1), (D2, LO zs k2)]) hA hx (by omega) (hZ.mono le1) (hp.mono le1) (by omega) (fun n hn => by have := hpn n hn; omega) fun Z2 vp2 pl n2 t2 le2 hp2 hpo hn2 => ?_)
  have hZ2 := hZ.mono (le1.trans le2)
  refine j_cons (st_b3 (pre := [(D1, LO ys k1), (D2, LO zs k2)]) hA hx (by omega) hZ2 fun k3 u3 t3 hk3 => ?_)
  refine j_cons (st_b4 hA hp2 hk3 fun k4 u4 hk4 hk40 => ?_)
  refine j_cons (st_b5 hk4 fun Z5 vg rows le5 hgr hg => ?_)
  have hok := givens_ok hgr
  have hZ5 := hZ2.mono le5
  refine j_cons (st_b6 hA hZ5 hg hok fun Z6 vm le6 hm => ?_)
  refine j_cons (st_b7 hk4 hgr hk40 hm fun vm2 r hrr hone hm2 => ?_)
  subst hrr
  have hd : RdOk (pl, r) := ⟨hpo, hok, hone⟩
  have hZ6 := hZ5.mono le6
  refine j_cons (st_b8 (d := (pl, r)) hA hZ6 hd ((hp2.mono le5).mono le6) (hg.mono le6) fun Z8 vd le8 hv => ?_)
  have hZ8 := hZ6.mono le8
  refine j_cons ((st_b9 (d := (pl, r)) hA hZ8 hd (((hp2.mono le5).mono le6).mono le8) (hm2.mono le8) hv).mono (fun f c₁ h => ?_) fun V V e => e)
  obtain ⟨rfl, Z9, rfl, le9⟩ := h
  have leA : Z.le Z9 := ((((le1.trans le2).trans le5).trans le6).trans le8).trans le9
  refine j_cons (st_b10 (d := (pl, r)) (rds := rds) hA hd ((((hp2.mono le5).mono le6).mono le8).mono le9) (((hg.mono le6).mono le8).mono le9) ((hm2.mono le8).mono le9) (hy.mono fun V V x => x.mono leA) (hz.mono fun V V x => x.mono leA) hr hl fun Z10 rds' ys' zs' k1' k2' le10 hy' hz' hr' hl' hp' => ?_)
  exact j_nil (kq Z10 rds' ys' zs' k1' k2' (n2 + 1) t3 (leA.trans le10) hy' hz' hr' hl' hp' (by omega))
end
noncomputable def fs2 (r : Int) : Str := if r = 0 then Str.ofString "f" else Str.ofString "s"
theorem isKind_fs2 (r : Int) : isKind (fs2 r) := by
  unfold fs2
  split
  · exact .inl rfl
  · exact .inr (.inr rfl)
theorem fs2_item {pick : Int} (h : 0 ≤ pick ∧ pick < 2) : ∃ ch, (decide (pick < -(2 ^ 63 : Int)) || decide (pick ≥ 2 ^ 63)) = false ∧ (seqIndex? pick (Str.ofString "fs").length).bind ((Str.ofString "fs").cps[·]?) = some ch ∧ (⟨#[ch]⟩ : Str) = fs2 pick := by
  have : pick = 0 ∨ pick = 1 := by omega
  rcases this with rfl | rfl
  · exact ⟨102, by decide, by decide, by decide⟩
  · exact ⟨115, by decide, by decide, by decide⟩
noncomputable def lawCount (is : List Int) : Nat := (1 + drawAt is 0 4).toNat
noncomputable def lawRows (is : List Int) : List T × Nat := growMany (grown is 2) (lawCount is) 1
noncomputable def lawT (is : List Int) : T := opened (fs2 (drawAt is (lawRows is).2 2)) (lawRows is).1
theorem lawCount_le (is : List Int) : 1 ≤ lawCount is ∧ lawCount is ≤ 4 := by
  have := drawAt_range (is := is) (n := 0) (k := 4) (by decide)
  unfold lawCount; omega
theorem lawRows_fine (is : List Int) : Fines (lawRows is).1 := growMany_all (grown_fine is 2) _ _
theorem lawT_fine (is : List Int) : (lawT is).Fine := opened_fine (isKind_fs2 _) (lawRows_fine is)
theorem lawRows_sizes (is : List Int) : sizes (lawRows is).1 ≤ 64 := by
  have h1 := (growMany_ok (grown_ok is 2) (lawCount is) 1).2
  have h2 := lawCount_le is
  have h3 : lawCount is * 4 ^ 2 ≤ 4 * 4 ^ 2 := Nat.mul_le_mul_right _ h2.2
  exact Nat.le_trans h1 h3
theorem lawT_size (is : List Int) : (lawT is).size ≤ 100 := by
  have h1 := opened_size (fs2 (drawAt is (lawRows is).2 2)) (lawRows is).1
  have h2 := lawRows_sizes is
  unfold lawT; omega
theorem lawT_deep (is : List Int) : (lawT is).deep ≤ 10 := by
  have h1 := opened_deep (fs2 (drawAt is (lawRows is).2 2)) (lawRows is).1
  have h2 := deeps_le (growMany_all (R := fun t => t.deep ≤ 2 * 2 + 1) (grown_deep is 2) (lawCount is) 1)
  have h3 : deeps (lawRows is).1 ≤ 5 := h2
  unfold lawT; omega
theorem lawRows_hi (is : List Int) : (lawRows is).2 ≤ 100 := by
  have h1 := growMany_hi (grown_hi is 2) (lawCount is) 1
  have h2 := lawCount_le is
  have h3 : lawCount is * grownB 2 ≤ 4 * grownB 2 := Nat.mul_le_mul_right _ h2.2
  have h4 : grownB 2 = 17 := rfl
  unfold lawRows
  omega
section
variable {p : JP} {A : Around} {c : JC} {E : JC → Prop} {env : Env}
theorem j_List2 {e e' : Expr} {pos : Pos} {Q : Value → JC → Prop}
    (h : jwp p A (eval e env) (fun v c₁ => jwp p A (eval e' env) (fun v' c₂ => ∀ a, Q (.ref a) (c₂.psh a (LO #[v, v'] 0))) E c₁) E c)
    (hs : autoParam (starEach [e, e'] env = [(false, eval e env), (false, eval e' env)]) rt) : jwp p A (eval (.List [e, e'] pos) env) Q E c := by
  refine j_List ?_
  rw [hs]
  exact j_splicedCons (h.mono (fun v V q => j_splicedCons (q.mono (fun v' V q => j_splicedNil ⟨by show 2 ≤ sizeLine; rw [sizeLine_eq]; omega, q⟩) fun V V x => x)) fun V V x => x)
theorem j_getitemInPythonListG {l : Addr} {o : Obj} {items : Array Value} {n : Nat} {Q : Bool → JC → Prop} (ho : c.Has l o) (hc : o.cls = .type "list") (hd : o.data = .seq items n) (h : Q false c) : jwp p A (getitemInPython (.ref l)) Q E c := .of fun s H => by
  rw [getitemInPython_of_ne (by intro e; cases e)]
  exact wpAny_bind (wpAny_specialOf (v := .ref l) (T := "list") ⟨o, ho.get H, hc⟩ F.slot_list_getitem.lookup (wpAny_pure ⟨c, H, h⟩))
theorem j_listToG {l sl : Addr} {o : Obj} {items : Array Value} {n k : Nat} {u : Tok} {Q : Value → JC → Prop} (ho : c.Has l o) (hc : o.cls = .type "list") (hd : o.data = .seq items n) (hs : c.Has sl (SO .none (.int k u))) (hsz : items.size ≤ sizeLine)
    (h : ∀ a, Q (.ref a) (c.psh a (LO (items.toList.take k).toArray 0))) : jwp p A (getItem (.ref l) (.ref sl)) Q E c := .of fun s H =>
  wpAny_getItem_list_slice ⟨o, ho.get H, hc, n, hd⟩ ⟨_, hs.get H, rfl, rfl⟩ .none (.int _ _) .none (by intro e; cases e) (by rw [slicePick_to items k]; exact ⟨_, H.push _ rfl s.toks, h _⟩) hsz
end
section
variable {p : JP} {A : Around} {L st sl : Addr} {E : JC → Prop} {Z : Zm} {nss : List (Addr × Vars)} {pre post : List (Addr × Obj)} {g : Array GenState} {m n : Nat} {xs : Array Value} {is : List Int} {tk : Tok} {l : Vars}
structure StZ (Z : Zm) (L st sl : Addr) (m : Nat) (xs : Array Value) : Prop where
  cS : ∃ o, Z (L + 1) = some o ∧ o.data = .cell (some (.ref st))
  sc : Z sl = some (LO xs m)
theorem StZ.mono {Z Z' : Zm} {L st sl : Addr} {m : Nat} {xs : Array Value} (le : Z.le Z') (h : StZ Z L st sl m xs) : StZ Z' L st sl m xs := ⟨let ⟨o, a, b⟩ := h.cS; ⟨o, le _ _ a, b⟩, le _ _ h.sc⟩
theorem j_nextM {Q : Value → JC → Prop} {lim : Int} {np p1 p2 pos : Pos} {k : Nat} (hd : A.depth < recursionLimit) (hl : is.length ≤ 1000) (hx : IntsAt xs is) (hn : n ≤ 1000) (hZ : StZ Z L st sl m xs) (hlim : lim ≠ 0)
    (q : ∀ t' t'', Q (.int (drawAt is n lim) t') ⟨Z, (L, l) :: nss, pre ++ (st, stO sl (n + 1) t'') :: post, g⟩) :
    jwp p A (eval (.Call (.Name (Str.ofString "_law_next") np) [.Name (Str.ofString "state") p1, .Constant (.int lim) k p2] [] pos) (eL L)) Q E ⟨Z, (L, l) :: nss, pre ++ (st, stO sl n tk) :: post, g⟩ := by
  obtain ⟨o, h1, h2⟩ := hZ.cS
  refine j_F2 (fd := f808) (g_law_next _) rfl rfl (j_cell (a := L + 1) rfl (has_z h1) h2 (j_cInt fun t1 => ?_))
  refine law_next (pre := pre) (post := post) (n := n) (by omega) rfl hZ.sc hx (by omega) (by omega) hlim fun t2 t3 => ?_
  exact q t2 t3
theorem st_s0 {Q : Flow → JC → Prop} {sc : Addr} {osc o1 o2 : Obj} {m0 : Nat} {xs0 : Array Value} (hsc : Z sc = some osc) (hc : osc.cls = .type "list") (hdt : osc.data = .seq xs0 m0) (hsz : xs0.size ≤ 1000) {v₀ : Option Value} (h2 : o2.data = .cell v₀)
    (q : ∀ Z' st sl t, Z.le Z' → StZ Z' L st sl 0 (xs0.toList.take 40).toArray → Q .next ⟨Z', (L, [(Str.ofString "script", .ref sc)]) :: nss, (st, stO sl 0 t) :: (L + 1 + 1, o1) :: post, g⟩) :
    jwp p A (exec (lawB 0) (eL L)) Q E
      ⟨Z, (L, [(Str.ofString "script", .ref sc)]) :: nss, (L + 1 + 1, o1) :: (L + 1, o2) :: post, g⟩ := by
  refine jwp_turn (j_Assign (j_List2 (j_Subscript (j_local (v := .ref sc) (l := _) List.mem_cons_self rfl (j_sliceTo (j_cInt fun t1 => fun slc => ?_))))))
  refine j_getitemInPythonListG (has_z hsc) hc hdt (j_subPlain (j_listToG (k := 40) (o := osc) (items := xs0) (n := m0) (has_z hsc) hc hdt (has_own List.mem_cons_self) (by rw [sizeLine_eq]; omega) fun sl => ?_))
  refine j_cInt fun t2 => fun st => ?_
  refine j_storeCell (a := L + 1) (o := o2) (pre := [(st, LO #[.ref sl, .int 0 t2] 0), (sl, _), (slc, _), (L + 1 + 1, o1)]) rfl rfl h2 fun o2' h2' => ?_
  refine Turn.freeze (a := L + 1) (o := o2') (pre := [(st, LO #[.ref sl, .int 0 t2] 0), (sl, _), (slc, _), (L + 1 + 1, o1)]) rfl fun Z1 le1 hz1 => ?_
  refine Turn.freeze (a := sl) (pre := [(st, LO #[.ref sl, .int 0 t2] 0)]) rfl fun Z2 le2 hz2 => ?_
  refine Turn.conv (c' := ⟨Z2, (L, [(Str.ofString "script", .ref sc)]) :: nss, (st, stO sl 0 t2) :: (L + 1 + 1, o1) :: post, g⟩) (Conv.ow (List.Perm.refl _) ?_) (Turn.done (q Z2 st sl t2 (le1.trans le2) ⟨⟨o2', le2 _ _ hz1, h2'⟩, hz2⟩))
  exact (List.sublist_cons_self _ _).cons_cons _
theorem st_s1 {Q : Flow → JC → Prop} {sc : Addr} (hh : A.handled = none) (hd : A.depth + 20 < recursionLimit) (hx : IntsAt xs is) (hl : is.length ≤ 100) (hZ : StZ Z L st sl m xs)
    (q : ∀ Z' R ys k t', Z.le Z' → ToldAll Z' (lawRows is).1 ys.toList → Q .next ⟨Z', (L, [(Str.ofString "rows", .ref R), (Str.ofString "script", .ref sc)]) :: nss, (R, LO ys k) :: (st, stO sl (lawRows is).2 t') :: post, g⟩) :
    jwp p A (exec (lawB 1) (eL L)) Q E
      ⟨Z, (L, [(Str.ofString "script", .ref sc)]) :: nss, (st, stO sl 0 tk) :: post, g⟩ := by
  obtain ⟨oS, hS1, hS2⟩ := hZ.cS
  have hlc := lawCount_le is
  have hdr := drawAt_range (is := is) (n := 0) (k := 4) (by decide)
  obtain ⟨N, hN⟩ : ∃ N, N = lawCount is := ⟨_, rfl⟩
  have hNi : 1 + drawAt is 0 4 = (N : Int) := by rw [hN]; unfold lawCount; omega
  have hle : ∀ i, i ≤ N → (growMany (grown is 2) i 1).2 ≤ 100 := fun i hi => by
    have h1 := growMany_mono (n := 1) (grown_le is 2) hi
    have h2 := lawRows_hi is
    unfold lawRows at h2
    rw [← hN] at h2
    omega
  refine j_AssignComp (y := Str.ofString "rows") (iter_range N) (fun i ys c₁ => ∀ X : Prop, (∀ Z' t', c₁ = ⟨Z', (L, [(Str.ofString "script", .ref sc)]) :: nss, (st, stO sl (growMany (grown is 2) i 1).2 t') :: post, g⟩ → Z.le Z' → ToldAll Z' (growMany (grown is 2) i 1).1 ys.toList → X) → X)
    hh (fun V => go_name) rfl rfl rfl ?_ (by intros; trivial) ?_ ?_ ?_
  · refine j_B1 (m_range _) (b_range _) (j_BinOp (j_cInt fun t1 => j_nextM (pre := []) (n := 0) (by omega) (by omega) hx (by omega) hZ (by decide) fun t2 t3 => j_add fun t4 => ?_))
    rw [hNi]
    refine j_range fun r a b c => j_iterRange (by omega) (has_own List.mem_cons_self) fun it o ho => ⟨it, o, ⟨Z, (L, [(Str.ofString "script", .ref sc)]) :: nss, (st, stO sl 1 t3) :: post, g⟩, rfl, ho, ?_, fun V kK => kK Z t3 rfl (Zm.le.refl _) .nil⟩
    exact Conv.ow (List.Perm.refl _) ((List.sublist_cons_self _ _).cons_cons _)
  · intro i ys c₁ hX3 hi
    refine hX3 _ fun Z' t' eS le hy => ?_
    clear hX3
    subst eS
    have := hy.length
    rw [Array.length_toList, growMany_length] at this
    rw [sizeLine_eq]; omega
  · intro i v c₁ C acc ys k it o hi hv ho hX
    refine hX _ fun Z' t' eS le hy => ?_
    clear hX
    subst eS
    refine j_assignName (j_store0 (j_testsNil ?_))
    refine ifT ?_
    refine j_F2 (fd := f813) (g_law_grown _) rfl rfl ?_
    refine (j_cell (a := L + 1) rfl (has_z (le _ _ hS1)) hS2 (j_cInt fun t6 => ?_))
    refine law_grown hx (by omega) 2 (pre := [(acc, _), (it, o)]) (post := post) (by omega) (by omega) hh rfl (le _ _ hZ.sc) (by have := hle (i + 1) hi; simp only [growMany_e1, growMany_e2] at this; omega) fun Z₂ v t'' le₂ hv₂ => ?_
    exact ⟨⟨Z₂, (L, [(Str.ofString "script", .ref sc)]) :: nss, (st, stO sl (growMany (grown is 2) (i + 1) 1).2 t'') :: post, g⟩, Conv.know (l' := []) trivial, fun V kK => kK Z₂ t'' rfl (le.trans le₂) ((hy.mono le₂).push hv₂)⟩
  · intro ys c₁ acc k hX
    refine hX _ fun Z' t' eS le hy => ?_
    clear hX
    subst eS
    subst hN
    exact ⟨_, _, rfl, q Z' acc ys k t' le hy⟩
theorem st_s2 {Q : Flow → JC → Prop} {sc R : Addr} {ys : Array Value} {k : Nat} (hh : A.handled = none) (hd : A.depth + 20 < recursionLimit) (hx : IntsAt xs is) (hl : is.length ≤ 100) (hZ : StZ Z L st sl m xs) (hy : ToldAll Z (lawRows is).1 ys.toList)
    (q : ∀ Z' vn t', Z.le Z' → Told Z' (lawT is) vn → Q .next ⟨Z', (L, [(Str.ofString "node", vn)]) :: nss, (st, stO sl ((lawRows is).2 + 1) t') :: post, g⟩) :
    jwp p A (exec (lawB 2) (eL L)) Q E
      ⟨Z, (L, [(Str.ofString "rows", .ref R), (Str.ofString "script", .ref sc)]) :: nss, (R, LO ys k) :: (st, stO sl (lawRows is).2 tk) :: post, g⟩ := by
  have hhi := lawRows_hi is
  have hdr := drawAt_range (is := is) (n := (lawRows is).2) (k := 2) (by decide)
  refine jwp_up (j_Assign (j_F2 (fd := f801) (g_law_opened _) rfl rfl (j_Subscript (j_cStr fun t1 => j_nextM (pre := [(R, LO ys k)]) (by omega) (by omega) hx (by omega) hZ (by decide) fun t2 t3 => ?_))))
  obtain ⟨ch, c1, c2, c3⟩ := fs2_item hdr
  refine j_getitemInPythonStr (j_subPlain (j_strItem c1 c2 fun t9 => ?_))
  rw [c3]
  refine j_local (l := _) List.mem_cons_self rfl ?_
  have hf := lawRows_fine is
  refine law_opened (by omega) hh (has_own List.mem_cons_self) hy ((Oks_of fun t ht => (hf t ht).1).leaf_ne (isKind_fs2 _)) ?_ fun Z₂ v le₂ hv₂ => ?_
  · have h1 := sizes_openedParts (fs2 (drawAt is (lawRows is).2 2)) (lawRows is).1
    have h2 := length_le_sizes (openedParts (fs2 (drawAt is (lawRows is).2 2)) (lawRows is).1)
    have h3 := lawRows_sizes is
    omega
  · exact j_store0 ⟨⟨Z₂, (L, [(Str.ofString "node", v)]) :: nss, (st, stO sl ((lawRows is).2 + 1) t3) :: post, g⟩, conv_drop ⟨rfl, trivial⟩, q Z₂ v t3 le₂ hv₂⟩
end
noncomputable def kNames : List Str := [Str.ofString "f", Str.ofString "g", Str.ofString "s"]
noncomputable def kPairs (ks : List Addr) : List (Str × Value) := (kNames.zip ks).map fun x => (x.1, .ref x.2)
theorem len_two {α : Type} {l : List α} (h : l.length = 2) : ∃ a b, l = [a, b] := by
  match l, h with
  | [a, b], _ => exact ⟨a, b, rfl⟩
theorem kPairs_absent {ks : List Addr} {i : Nat} {s : Str} (hl : ks.length = i) (hs : kNames[i]? = some s) : valueAt (kPairs ks) s = none := by
  have hi : i < 3 := (List.getElem?_eq_some_iff.mp hs).1
  have : i = 0 ∨ i = 1 ∨ i = 2 := by omega
  rcases this with rfl | rfl | rfl
  · obtain rfl := List.length_eq_zero_iff.mp hl
    rfl
  · obtain ⟨a, rfl⟩ := List.length_eq_one_iff.mp hl
    cases hs; rfl
  · obtain ⟨a, b, rfl⟩ := len_two hl
    cases hs; rfl
theorem kPairs_snoc {ks : List Addr} {i : Nat} {s : Str} {k : Addr} (hl : ks.length = i) (hs : kNames[i]? = some s) : kPairs ks ++ [(s, .ref k)] = kPairs (ks ++ [k]) := by
  have hi : i < 3 := (List.getElem?_eq_some_iff.mp hs).1
  have : i = 0 ∨ i = 1 ∨ i = 2 := by omega
  rcases this with rfl | rfl | rfl
  · obtain rfl := List.length_eq_zero_iff.mp hl
    cases hs; rfl
  · obtain ⟨a, rfl⟩ := List.length_eq_one_iff.mp hl
    cases hs; rfl
  · obtain ⟨a, b, rfl⟩ := len_two hl
    cases hs; rfl
theorem kPairs_len {ks : List Addr} : (kPairs ks).length ≤ 3 := by
  unfold kPairs
  rw [List.length_map, List.length_zip]
  exact Nat.min_le_left _ _
noncomputable def kdOf (ks : List Addr) (s : Str) : Addr := if s = Str.ofString "f" then ks.getD 0 0 else if s = Str.ofString "g" then ks.getD 1 0 else ks.getD 2 0
section
variable {p : JP} {A : Around} {L st sl : Addr} {E : JC → Prop} {Z : Zm} {nss : List (Addr × Vars)} {pre post : List (Addr × Obj)} {g : Array GenState} {m n : Nat} {xs : Array Value} {is : List Int} {tk : Tok} {l : Vars}
theorem j_callFnK {c : JC} {pos : Pos} {f : Addr} {first : List Value} {args : List (Bool × Sem Value)} {kws : List (Option Str × Sem Value)} {o : Obj} {fd : FuncData} {Q : Value → JC → Prop} (ho : (KK p.w.params).lookup f = some o) (hd : o.data = .func fd)
    (h : jwp p A (evalArgs (.ref f) true args kws) (fun a c₁ => jwp p A (call (.ref f) (first ++ a.pos) a.kw) Q E c₁) E c) : jwp p A (callWith pos (.ref f) first args kws) Q E c :=
  j_callWith (k := .frame) (h.mono (fun a c₁ q => .of fun s H => by
    unfold keeperOf
    refine wpAny_bind (wpAny_load (H.inK _ _ ho) ?_)
    rw [hd]
    exact wpAny_pure ⟨c₁, H, q⟩) fun V V x => x)
theorem j_callAr {c : JC} {pos : Pos} {args : List (Bool × Sem Value)} {kws : List (Option Str × Sem Value)} {Q : Value → JC → Prop}
    (h : jwp p A (evalArgs (.ref 380) true args kws) (fun a c₁ => jcode p A (.call (.ref 380) a) (RetQ Q) E c₁) E c) : jwp p A (callWith pos (.ref 380) [] args kws) Q E c :=
  j_callWith (k := .machine) (h.mono (fun a c₁ q => .of fun s H => by
    have hC : s.heap.get? 380 = some (k380 p.w.params) := H.inK _ _ rfl
    have call := looks_specialIn (M := p.M) H.inK (call380 p.w.params)
    unfold keeperOf
    refine wpAny_bind (wpAny_load hC ?_)
    show wpAny _ _ (specialOf (.ref 380) "__call__" >>= _) _ _ _
    refine wpAny_bind (call.here ?_)
    exact wpAny_pure ⟨c₁, H, j_call q⟩) fun V V x => x)
theorem st_s3 {Q : Flow → JC → Prop} {o1 : Obj} {v₀ : Option Value} {x : Addr × Obj} (h1 : o1.data = .cell v₀)
    (q : ∀ Z' D oD, Z.le Z' → DictP p oD [] → (∃ o, Z' (L + 2) = some o ∧ o.data = .cell (some (.ref D))) → Q .next ⟨Z', (L, l) :: nss, (D, oD) :: x :: post, g⟩) :
    jwp p A (exec (lawB 3) (eL L)) Q E
      ⟨Z, (L, l) :: nss, x :: (L + 1 + 1, o1) :: post, g⟩ := by
  refine jwp_turn (j_Assign (j_Dict0 fun D oD hD => j_storeCell (a := L + 2) (o := o1) (pre := [(D, oD), x]) rfl rfl h1 fun o' h' => ?_))
  exact Turn.freeze (a := L + 2) (pre := [(D, oD), x]) rfl fun Z1 le1 h1 => Turn.done (q Z1 D oD le1 hD ⟨o', h1, h'⟩)
theorem j_ForD {c : JC} {env : Env} {target iter : Expr} {body orelse : List Stmt} {pos : Pos} {Q : Flow → JC → Prop}
    (hit : jwp p A (eval iter env) (fun x c₁ => jwp p A (pyIter x) (fun v c₂ => ∃ (it : Addr) (o : Obj) (c₃ : JC), v = .ref it ∧ Conv p c₂ (c₃.psh it o) ∧
      ∀ s, ({ c₃ with own := (it, o) :: c₃.own } : JC).At p s → codeAny p.M A (.forLoop target (.ref it) body orelse env) (fun r s' => match r with | .ok f => postQ p Q f s' | .error e => cameBackBy p.M A env (postE p E) e s') s) E c₁) E c)
    (hs : autoParam (∀ x, foldedSetIterable iter env x = pure x) rt) : jwp p A (exec (.For target iter body orelse pos) env) Q E c := .of fun s H => by
  refine wpAny_For (wpAny_mono (hit.run s H) (fun x s₁ z2 => z2.elim fun c₁ y20 => y20.elim fun H₁ q => wpAny_mono (q.run s₁ H₁) (fun v s₂ z => ?_) fun V V x => x) fun V V x => x) hs
  rcases z with ⟨c₂, H₂, it, o, c₃, rfl, hc, hI⟩
  exact hI s₂ (hc _ H₂)
theorem kd_ok {ks : List Addr} (hl : ks.length = 3) {s : Str} (h : isKind s) : ∃ i : Nat, kNames[i]? = some s ∧ ks[i]? = some (kdOf ks s) ∧ valueAt (kPairs ks) s = some (.ref (kdOf ks s)) := by
  rcases (⟨_, _, _, List.eq_getElem_of_length_eq_three ks hl⟩ : ∃ a b d, ks = [a, b, d]) with ⟨a, b, d, rfl⟩
  rcases h with rfl | rfl | rfl
  · exact ⟨0, rfl, rfl, rfl⟩
  · exact ⟨1, rfl, rfl, rfl⟩
  · exact ⟨2, rfl, rfl, rfl⟩
set_option maxHeartbeats 1000000 in
theorem st_s4 {Q : Flow → JC → Prop} {D : Addr} {oD : Obj} {vn : Value} (hh : A.handled = none) (hd : A.depth + 20 < recursionLimit) (hD : DictP p oD []) (hc : ∃ o, Z (L + 2) = some o ∧ o.data = .cell (some (.ref D)))
    (q : ∀ Z' kd, Z.le Z' → KindsAt p.w.params kd Z' → (∃ o kvs, Z' D = some o ∧ DictP p o kvs ∧ KdIn kd kvs) → Q .next ⟨Z', (L, [(Str.ofString "node", vn)]) :: nss, post, g⟩) :
    jwp p A (exec (lawB 4) (eL L)) Q E
      ⟨Z, (L, [(Str.ofString "node", vn)]) :: nss, (D, oD) :: post, g⟩ := by
  obtain ⟨oK, hK1, hK2⟩ := hc
  refine jwp_turn (j_ForD (litStrs_list (is := kNames) (by repeat constructor) (by decide) fun b vs hvs => ?_))
  have hvl := hvs.length
  refine j_iterList (has_own List.mem_cons_self) fun it o ho => ⟨it, o, ⟨Z, (L, [(Str.ofString "node", vn)]) :: nss, (b, LO vs.toArray 0) :: (D, oD) :: post, g⟩, rfl, Conv.refl _, ?_⟩
  refine j_forLoop (E' := fun V => False) (iter_list b vs.toArray 0) (fun i c₁ => ∀ X : Prop, (∀ Z' oD' ks, c₁ = ⟨Z', (L, [(Str.ofString "node", vn)]) :: nss, (b, LO vs.toArray 0) :: (D, oD') :: post, g⟩ → Z.le Z' → ks.length = i → DictP p oD' (kPairs ks) → (∀ (j : Nat) (k : Addr) (s : Str), ks[j]? = some k → kNames[j]? = some s → KindAt p.w.params Z' k s) → X) → X)
    hh NotRaised.never ?_ go_name ?_ ?_ ho fun V kK => kK Z oD [] rfl (Zm.le.refl _) rfl hD fun j k s h => by simp at h
  · intro i c₁ o hX
    refine hX _ fun Z' oD' ks eS V V V V => ?_
    clear hX
    subst eS
    exact has_own (by trivial)
  · intro i v c₁ o' hi hv ho' hX
    refine hX _ fun Z' oD' ks eS le hl hP hK => ?_
    clear hX
    subst eS
    have hi' : i < kNames.length := by rw [← hvl]; simpa using hi
    obtain ⟨s, hs⟩ : ∃ s, kNames[i]? = some s := ⟨_, List.getElem?_eq_getElem hi'⟩
    obtain ⟨v', hv', ts, rfl⟩ := hvs.get hs
    have e : v = .str s ts := by
      have hv2 : vs[i]? = some v := by simpa using hv
      rw [hv2] at hv'; exact Option.some.inj hv'
    subst e
    refine j_assignName (j_store0 (j_cons (j_AssignSub ?_)))
    refine j_MethodCall (j_global (g_Operation _) (j_methodClsStatic (sp561 _) (rd561 _) (fc561 _) (rc457 _) rfl ?_))
    refine j_callFnK (fd := f455) rfl rfl (j_args2kw1 (j_local (v := .str s ts) (l := _) List.mem_cons_self rfl ?_))
    refine j_CallName (j_global (g_Arity _) (j_callAr (j_args2 (j_cInt fun t1 => j_cBool ?_))))
    refine arity_call (by omega) fun ar ad => ?_
    refine j_Compare1 (j_local (v := .str s ts) (l := _) List.mem_cons_self rfl (j_cStr fun t2 => j_neStr ?_))
    refine j_call (op_new (ar := ar) (ad := ad) (t := t1) (by omega) (has_own List.mem_cons_self) fun x dx q nq hq1 hq2 hq3 => ?_)
    refine jwp_turn0 (Turn.freeze0 fun Z1 le1 h1 => Turn.freeze0 fun Z2 le2 h2 => Turn.freeze0 fun Z3 le3 h3 => Turn.freeze0 fun Z4 le4 h4 => Turn.done ?_)
    have le14 := ((le1.trans le2).trans le3).trans le4
    have hkind : KindAt p.w.params Z4 x s := ⟨dx, q, nq, (le2.trans (le3.trans le4)) _ _ h1, (le3.trans le4) _ _ h2, by rw [hq1, hq2, hq3]; exact le4 _ _ h3, by rw [hq2]; exact h4⟩
    refine j_cell (a := L + 2) rfl (has_z (le14 _ _ (le _ _ hK1))) hK2 (j_local (v := .str s ts) (l := _) List.mem_cons_self rfl ?_)
    refine j_dictSet (pre := [(it, o'), (b, LO vs.toArray 0)]) rfl hP (by have := kPairs_len (ks := ks); omega) fun o2 ho2 => j_nil ?_
    rw [stored_absent (kPairs_absent hl hs), kPairs_snoc hl hs] at ho2
    refine ⟨⟨Z4, (L, [(Str.ofString "node", vn)]) :: nss, (b, LO vs.toArray 0) :: (D, o2) :: post, g⟩, Conv.know ⟨rfl, trivial⟩, fun V kK => kK Z4 o2 (ks ++ [x]) rfl (le.trans le14) (by simp [hl]) ho2 (fun j k s' hk hs' => ?_)⟩
    rcases Nat.lt_or_ge j ks.length with hj | hj
    · rw [List.getElem?_append_left hj] at hk
      exact (hK j k s' hk hs').mono le14
    · rw [List.getElem?_append_right hj] at hk
      have hj0 : j - ks.length = 0 := by
        have := (List.getElem?_eq_some_iff.mp hk).1
        simpa using this
      rw [hj0] at hk
      cases hk
      have : j = i := by omega
      subst this
      rw [hs] at hs'
      cases hs'
      exact hkind
  · intro c₁ hX
    refine hX _ fun Z' oD' ks eS le hl hP hK => ?_
    clear hX
    subst eS
    have hl3 : ks.length = 3 := by rw [hl, List.size_toArray, hvl]; rfl
    refine j_nil ?_
    refine Turn.drop0 (Turn.freeze0 fun Z1 le1 h1 => Turn.done (q Z1 (kdOf ks) (le.trans le1) (fun s hs => ?_) ⟨oD', kPairs ks, h1, hP, fun s hs => ?_⟩))
    · obtain ⟨j, h2, h3, _⟩ := kd_ok hl3 hs
      exact (hK j _ s h3 h2).mono le1
    · obtain ⟨j, _, _, h4⟩ := kd_ok hl3 hs
      exact h4
end
section
variable {p : JP} {kd : Str → Addr} {A : Around} {L st sl D D1 D2 : Addr} {E : JC → Prop} {Z : Zm} {nss : List (Addr × Vars)} {pre post : List (Addr × Obj)} {g : Array GenState} {m n : Nat} {xs : Array Value} {is : List Int} {t : T} {vn vs vpl : Value} {tk : Tok}
theorem st_s5 {Q : Flow → JC → Prop} (hA : LawA A t is L nss) (hK : ∃ o, Z (L + 2) = some o ∧ o.data = .cell (some (.ref D))) (hD : ∃ o kvs, Z D = some o ∧ DictP p o kvs ∧ KdIn kd kvs) (hk : KindsAt p.w.params kd Z) (hn : Told Z t vn)
    (q : ∀ Z' vs, Z.le Z' → EAt p.w.params kd Z' t vs → Q .next ⟨Z', (L, [(Str.ofString "subject", vs), (Str.ofString "node", vn)]) :: nss, post, g⟩) :
    jwp p A (exec (lawB 5) (eL L)) Q E
      ⟨Z, (L, [(Str.ofString "node", vn)]) :: nss, post, g⟩ := by
  have h1 := hA.depth
  have h3 := hA.size
  have h4 := hA.deep
  obtain ⟨oK, hK1, hK2⟩ := hK
  obtain ⟨oD, kvs, hD1, hD2, hD3⟩ := hD
  refine j_Assign (j_F2 (fd := f789) (g_law_make _) rfl rfl (j_cell (a := L + 2) rfl (has_z hK1) hK2 (j_local (l := _) List.mem_cons_self rfl ?_)))
  refine law_make t.deep t (Nat.le_refl _) (by omega) hA.hh hn hA.fine.1 hA.fine.2 (by omega) hk ⟨oD, kvs, .inl hD1, hD2, hD3⟩ fun Z2 v2 le2 hv2 => ?_
  exact j_store0 (q Z2 v2 le2 hv2)
theorem st_s6 {Q : Flow → JC → Prop} (hA : LawA A t is L nss) (hn : Told Z t vn)
    (q : ∀ Z' vpl, Z.le Z' → PairsAt Z' (places t []) vpl → Q .next ⟨Z', (L, [(Str.ofString "places", vpl), (Str.ofString "subject", vs), (Str.ofString "node", vn)]) :: nss, post, g⟩) :
    jwp p A (exec (lawB 6) (eL L)) Q E
      ⟨Z, (L, [(Str.ofString "subject", vs), (Str.ofString "node", vn)]) :: nss, post, g⟩ := by
  have h1 := hA.depth
  have h3 := hA.size
  have h4 := hA.deep
  refine j_Assign (j_F2 (fd := f820) (g_law_places _) rfl rfl (j_local (l := _) List.mem_cons_self rfl (j_Tuple (j_splicedNil ⟨Nat.zero_le _, fun e => ?_⟩))))
  refine jwp_turn0 (Turn.freeze0 fun Z1 le1 h1' => Turn.done ?_)
  refine law_places (pl := []) t.size t (Nat.le_refl _) (by omega) hA.hh (hn.mono le1) ⟨e, #[], 0, rfl, h1', rfl, fun V V h => by simp at h⟩ (by omega) (by simp; omega) fun Z2 v2 le2 hv2 => ?_
  exact j_store0 (q Z2 v2 (le1.trans le2) hv2)
theorem st_s89 {l : Vars} {rest : List Stmt} {Q : Flow → JC → Prop} (h : ∀ D1 D2, jwp p A (execs rest (eL L)) Q E ⟨Z, (L, (Str.ofString "asked", .ref D2) :: (Str.ofString "deeds", .ref D1) :: l) :: nss, (D1, LO #[] 0) :: (D2, LO #[] 0) :: post, g⟩) :
    jwp p A (execs (lawB 8 :: lawB 9 :: rest) (eL L)) Q E ⟨Z, (L, l) :: nss, post, g⟩ := by
  refine j_cons (j_Assign (j_List (j_splicedNil ⟨Nat.zero_le _, fun D1 => j_store0 ?_⟩)))
  refine j_cons (j_Assign (j_List (j_splicedNil ⟨Nat.zero_le _, fun D2 => j_store0 ?_⟩)))
  exact jwp_conv (c' := ⟨Z, (L, (Str.ofString "asked", .ref D2) :: (Str.ofString "deeds", .ref D1) :: l) :: nss, (D1, LO #[] 0) :: (D2, LO #[] 0) :: post, g⟩) (Conv.ow (List.Perm.swap _ _ _) (List.Sublist.refl _)) (h D1 D2)
theorem st_s10 {Q : Flow → JC → Prop} (hA : LawA A t is L nss) (hx : IntsAt xs is) (hn : n ≤ 500) (hZ : LawZ p kd Z L st sl m xs D t vn vs vpl)
    (q : ∀ Z' rds ys zs k1 k2 n' t', Z.le Z' → All2 (DeedAt Z') (rds.map dd) ys.toList → All2 (RDeedAt p.w.params kd Z') rds zs.toList → RdsOk rds → rds.length ≤ 4 → 1 ≤ rds.length → Q .next ⟨Z', (L, loc D1 D2 vn vs vpl) :: nss, (D1, LO ys k1) :: (D2, LO zs k2) :: (st, stO sl n' t') :: post, g⟩) :
    jwp p A (exec (lawB 10) (eL L)) Q E
      ⟨Z, (L, loc D1 D2 vn vs vpl) :: nss, (D1, LO #[] 0) :: (D2, LO #[] 0) :: (st, stO sl n tk) :: post, g⟩ := by
  have hdr := drawAt_range (is := is) (n := n) (k := 4) (by decide)
  obtain ⟨N, hN⟩ : ∃ N : Nat, 1 + drawAt is n 4 = (N : Int) := ⟨(1 + drawAt is n 4).toNat, by omega⟩
  refine j_For (E' := fun V => False) (iter_range N) (fun i c₁ => ∀ X : Prop, (∀ Z' rds ys zs k1 k2 n' t', c₁ = ⟨Z', (L, loc D1 D2 vn vs vpl) :: nss, (D1, LO ys k1) :: (D2, LO zs k2) :: (st, stO sl n' t') :: post, g⟩ → Z.le Z' → All2 (DeedAt Z') (rds.map dd) ys.toList → All2 (RDeedAt p.w.params kd Z') rds zs.toList → RdsOk rds → rds.length ≤ i → (1 ≤ i → 1 ≤ rds.length) → n' ≤ 501 + 10 * i → X) → X)
    hA.hh NotRaised.never go_name ?_ (by intros; trivial) ?_ ?_
  · refine j_B1 (m_range _) (b_range _) (j_BinOp (j_cInt fun t1 => j_next (pre := [(D1, LO #[] 0), (D2, LO #[] 0)]) hA hx (by omega) hZ (by decide) fun t2 t3 => j_add fun t4 => ?_))
    rw [hN]
    refine j_range fun r a b c => j_iterRange (by omega) (has_own List.mem_cons_self) fun it o ho => ⟨it, o, ⟨Z, (L, loc D1 D2 vn vs vpl) :: nss, (D1, LO #[] 0) :: (D2, LO #[] 0) :: (st, stO sl (n + 1) t3) :: post, g⟩, rfl, ho, ?_, fun V kK => kK Z ([]) #[] #[] 0 0 (n + 1) t3 rfl (Zm.le.refl _) .nil .nil ⟨fun d h => by simp at h, by simp⟩ (by simp) (fun h => by omega) (by omega)⟩
    exact Conv.ow (List.Perm.refl _) ((List.sublist_cons_self _ _).cons_cons _)
  · intro i v c₁ it o hi hv ho hX
    refine hX _ fun Z' rds ys zs k1 k2 n' t' eS le hy hz hr hl hp hn' => ?_
    clear hX
    subst eS
    refine j_assignName (j_store0 ?_)
    refine jwp_conv (c' := ⟨Z', (L, loc D1 D2 vn vs vpl) :: nss, (D1, LO ys k1) :: (D2, LO zs k2) :: (st, stO sl n' t') :: (it, o) :: post, g⟩) (Conv.both ⟨rfl, rfl, rfl, rfl, rfl, trivial⟩ ((List.perm_middle (l₁ := [(D1, LO ys k1), (D2, LO zs k2), (st, stO sl n' t')])) ) (List.Sublist.refl _)) ?_
    refine st_turn (rds := rds) hA hx (by omega) (hZ.mono le) hy hz hr (by omega) fun Z2 rds' ys' zs' k1' k2' n2 t2 le2 hy' hz' hr' hl' hp' hn2 => ?_
    refine ⟨⟨Z2, (L, loc D1 D2 vn vs vpl) :: nss, (D1, LO ys' k1') :: (D2, LO zs' k2') :: (st, stO sl n2 t2) :: post, g⟩, Conv.ow (List.perm_middle (l₁ := [(D1, LO ys' k1'), (D2, LO zs' k2'), (st, stO sl n2 t2)])).symm (List.Sublist.refl _), fun V kK => kK Z2 rds' ys' zs' k1' k2' n2 t2 rfl (le.trans le2) hy' hz' hr' (by omega) (fun V => hp') (by omega)⟩
  · intro c₁ hX
    refine hX _ fun Z' rds ys zs k1 k2 n' t' eS le hy hz hr hl hp hn' => ?_
    clear hX
    subst eS
    exact j_nil (q Z' rds ys zs k1 k2 n' t' le hy hz hr (by omega) (hp (by omega)))
end
noncomputable def dueOf (b : Bool) (sds : List RDeed) (t : T) : Option T := if b = true then none else putAll (sds.map dd).reverse t
noncomputable abbrev LT841 (Z : Zm) (ps : Array Value) : Prop := LamTab Z lamP841 lamQ841 ps
section
variable {p : JP} {kd : Str → Addr} {A : Around} {L st sl D D1 D2 : Addr} {E : JC → Prop} {Z : Zm} {nss : List (Addr × Vars)} {pre post : List (Addr × Obj)} {g : Array GenState} {m n : Nat} {xs : Array Value} {is : List Int} {t : T} {vn vs vpl : Value} {tk : Tok}
theorem rds_dsizes {rds : List RDeed} (hr : RdsOk rds) (hl : rds.length ≤ 4) : dsizes (rds.map dd) ≤ 12 := by
  have h := dsizes_le (ds := rds.map dd) (B := 3) fun d hd => by
    obtain ⟨r, hm, rfl⟩ := List.mem_map.mp hd
    exact (hr.all r hm).row.size
  rw [List.length_map] at h
  omega
theorem rds_ddeeps {rds : List RDeed} (hr : RdsOk rds) (hl : rds.length ≤ 4) : ddeeps (rds.map dd) ≤ 12 := by
  have h := ddeeps_le (ds := rds.map dd) (B := 3) fun d hd => by
    obtain ⟨r, hm, rfl⟩ := List.mem_map.mp hd
    exact (hr.all r hm).row.deep
  rw [List.length_map] at h
  omega
theorem st_s11 {Q : Flow → JC → Prop} {rds sds : List RDeed} {ys : Array Value} {k1 : Nat} {q781 : Addr × Obj} {q2 qs : Addr × Obj} {ps : Array Value} (hA : LawA A t is L nss) (hZ : LawZ p kd Z L st sl m xs D t vn vs vpl) (LT : LT841 Z ps)
    (hy : All2 (DeedAt Z) (rds.map dd) ys.toList) (hr : RdsOk rds) (hl : rds.length ≤ 4) (h1 : 1 ≤ rds.length) (hp : sds.Perm rds) (hs : SortedD sds)
    (kq : ∀ Z' vd b ps', Z.le Z' → LT841 Z' ps' → ((b = true ↔ ClashP sds)) → OptTold Z' (dueOf b sds t) vd → Q .next ⟨Z', (L, (Str.ofString "due", vd) :: loc D1 D2 vn vs vpl) :: nss, (D1, LO ys k1) :: q2 :: qs :: q781 :: (836, tabObj ps') :: post, g⟩) :
    jwp p A (exec (lawB 11) (eL L)) Q E
      ⟨Z, (L, loc D1 D2 vn vs vpl) :: nss, (D1, LO ys k1) :: q2 :: qs :: q781 :: (836, tabObj ps) :: post, g⟩ := by
  have d1 := hA.depth
  have d2 := hA.units
  have d3 := hA.size
  refine j_Assign (j_IfExp (j_isTrueCall (j_F1 (fd := f869) (g_law_clash _) rfl rfl (j_local (l := _) List.mem_cons_self rfl ?_))))
  refine law_clash (ds := rds.map dd) (by omega) (by omega) hA.hh (has_own List.mem_cons_self) hy (by rw [List.length_map]; omega) (fun d hd => ?_) fun b hb => j_truthyBool ?_
  · obtain ⟨r, hm, rfl⟩ := List.mem_map.mp hd
    have := (hr.all r hm).pl.len
    show r.1.length ≤ 1000
    omega
  have hb' : b = true ↔ ClashP sds := hb.trans (clash_iff hp hr.nodup)
  cases b with
  | true =>
    refine ifT ?_
    exact j_cNone (j_store0 (kq Z .none true ps (Zm.le.refl _) LT hb' rfl))
  | false =>
    refine ifF ?_
    refine j_F2 (fd := f841) (g_law_replaced _) rfl rfl (j_local (l := _) List.mem_cons_self rfl (j_local (l := _) List.mem_cons_self rfl ?_))
    refine law_replaced (pre := [(D1, LO ys k1), q2, qs, q781]) (t := t) (ds := rds.map dd) (by omega) (by omega) hA.hh hZ.node (has_own List.mem_cons_self) hy LT (by rw [List.length_map]; omega) (by rw [List.length_map]; omega) ?_ hA.ok ?_ ?_ ?_ ?_ ?_
    · rw [List.map_map]
      exact hr.nodup
    · intro d hd
      obtain ⟨r, hm, rfl⟩ := List.mem_map.mp hd
      exact (hr.all r hm).row.oks
    · have := rds_dsizes hr hl
      omega
    · intro d hd e
      obtain ⟨r, hm, rfl⟩ := List.mem_map.mp hd
      exact (hr.all r hm).ne e
    · intro d hd
      obtain ⟨r, hm, rfl⟩ := List.mem_map.mp hd
      exact ⟨(hr.all r hm).pl.len, (hr.all r hm).pl.nat⟩
    · intro Z' ps' q v le LT' hq hv
      rw [sds_byPlace hp hs hq] at hv
      exact j_store0 (kq Z' v false ps' le LT' hb' hv)
theorem st_s12 {Q : Flow → JC → Prop} {rds sds : List RDeed} {zs : Array Value} {k2 : Nat} {q1 qs q836 : Addr × Obj} {tb : Array Value} {vd : Value} {b : Bool} (hA : LawA A t is L nss) (hZ : LawZ p kd Z L st sl m xs D t vn vs vpl) (LT : LT783 Z tb)
    (hz : All2 (RDeedAt p.w.params kd Z) rds zs.toList) (hr : RdsOk rds) (hl : rds.length ≤ 4) (h1 : 1 ≤ rds.length) (hp : sds.Perm rds) (hs : SortedD sds) (hb : b = true ↔ ClashP sds) (hd : OptTold Z (dueOf b sds t) vd)
    (kq : ∀ Z' tb', Z.le Z' → Q (.ret (.bool true)) ⟨Z', (L, (Str.ofString "due", vd) :: loc D1 D2 vn vs vpl) :: nss, q1 :: (D2, LO zs k2) :: qs :: (781, tabObj tb') :: q836 :: post, g⟩) :
    jwp p A (exec (lawB 12) (eL L)) Q E
      ⟨Z, (L, (Str.ofString "due", vd) :: loc D1 D2 vn vs vpl) :: nss, q1 :: (D2, LO zs k2) :: qs :: (781, tabObj tb) :: q836 :: post, g⟩ := by
  have d1 := hA.depth
  have d2 := hA.units
  have d3 := hA.size
  have d4 := hA.deep
  have hrs : rsizes rds ≤ 12 := by rw [rsizes_dd]; exact rds_dsizes hr hl
  have hmem : ∀ d ∈ sds, d ∈ rds := fun d hd => hp.mem_iff.mp hd
  have hone : ∀ d ∈ sds, d.1 = [] → ∃ q, d.2 = .one q := fun d hd => (hr.all d (hmem d hd)).one
  have law := many_law (n := 20) (t := t) (sds := sds) hA.fine (fun d hd => (hr.all d (hmem d hd)).row.fine) hs (fun d hd => (hr.all d (hmem d hd)).pl.len) hone
  have due : repTold (manyOf 20 t sds) = dueOf b sds t := by
    unfold dueOf
    cases b with
    | true => rw [if_pos rfl]; exact law.1 (hb.mp rfl)
    | false => rw [if_neg (by decide)]; exact law.2 fun h => by have := hb.mpr h; cases this
  have okD : ∀ q, dueOf b sds t = some q → q.Ok ∧ q.deep ≤ 64 := fun q hq => by
    unfold dueOf at hq
    split at hq
    · cases hq
    · have hpr : (sds.map dd).reverse.Perm (rds.map dd) := (List.reverse_perm _).trans (hp.map dd)
      refine ⟨putAll_ok _ _ _ hA.ok (fun d hd => ?_) hq, ?_⟩
      · obtain ⟨r, hm, rfl⟩ := List.mem_map.mp (List.mem_reverse.mp hd)
        exact (hr.all r (hmem r hm)).row.oks
      · have a1 := putAll_deep _ _ _ hq
        rw [ddeeps_perm hpr] at a1
        have a2 := rds_ddeeps hr hl
        omega
  refine j_Return (j_And2 (j_Compare1 (j_F2 (fd := f862) (g_law_many _) rfl rfl (j_local (l := _) List.mem_cons_self rfl (j_local (l := _) List.mem_cons_self rfl ?_)))))
  refine law_manyT (m := k2) (n := 20) (t := t) (rds := rds) (sds := sds) (pre := [q1, (D2, LO zs k2), qs]) (fun d hd => (hr.all d hd).pl.len) (by omega) (by omega) hA.hh hA.FI hZ.kinds hZ.subj (has_own (by trivial)) hz LT h1 hl hA.ok (by omega) (fun d hd => ⟨by have := (hr.all d hd).pl.len; omega, (hr.all d hd).pl.nat⟩) hp hs (fun r' => many_one hone) fun Z1 tb' u le1 LT1 hu => ?_
  rw [due] at hu
  refine j_local (l := _) List.mem_cons_self rfl ?_
  refine j_eqOpt hu (hd.mono le1) okD (by omega) (j_truthyBool ?_)
  refine ifT ?_
  have hZ1 := hZ.mono le1
  refine j_Compare1 (j_F1 (fd := f794) (g_law_told _) rfl rfl (j_local (l := _) List.mem_cons_self rfl ?_))
  refine law_told t.deep t (Nat.le_refl _) (by omega) hA.hh hZ1.subj (by omega) fun Z2 w2 le2 hw2 => ?_
  refine j_local (l := _) List.mem_cons_self rfl ?_
  exact j_eqOpt (o := some t) hw2 (hZ1.mono le2).node (fun q hq => by cases hq; exact ⟨hA.ok, by omega⟩) (by omega) (kq Z2 tb' (le1.trans le2))
end
section
variable {p : JP} {A : Around} {E : JC → Prop} {Z : Zm} {nss : List (Addr × Vars)}
set_option maxHeartbeats 1000000 in
theorem law_walk {sc : Addr} {osc : Obj} {m0 : Nat} {xs0 : Array Value} {is0 : List Int} (hh : A.handled = none) (hd : A.depth + 600 < recursionLimit) (hu : A.units + 1100 < cLine) (FI : FramesIn A (nss.map (·.1)))
    (hsc : Z sc = some osc) (hc : osc.cls = .type "list") (hdt : osc.data = .seq xs0 m0) (hx : IntsAt xs0 is0) (hl : is0.length ≤ 1000) :
    jwp p A (call (.ref 874) [.ref sc]) (fun v c₁ => v = .bool true ∧ ∃ Z' G tb ps, c₁ = ⟨Z', nss, [(781, tabObj tb), (836, tabObj ps)], (G : List GenState).toArray⟩ ∧ Z.le Z' ∧ BareL G) E
      ⟨Z, nss, [(781, tabObj #[]), (836, tabObj #[])], #[]⟩ := by
  have hxl := hx.1
  refine jwp_turn (j_call (jcode_fnCE (l := [(Str.ofString "script", .ref sc)]) (F874 p.w.params) (by omega) FI (binds := [(Str.ofString "script", .ref sc)]) rfl (fun L x v e => ?_) (fun L cells FI' hT hcl => ?_) (fun n => rfl)))
  · rcases lookup_cons_cases e with ⟨rfl, rfl⟩ | ⟨_, e⟩
    · rfl
    · cases e
  change CellsOwn _ [(_, _), (_, _)] _ at hcl
  rcases hcl with ⟨o1, r1, rfl, c1, o2, r2, rfl, c2, rfl⟩
  have c1' : o1.data = .cell none := c1
  have c2' : o2.data = .cell none := c2
  clear c1 c2
  obtain ⟨is, eis⟩ : ∃ is, is = is0.take 40 := ⟨_, rfl⟩
  obtain ⟨xs, exs⟩ : ∃ xs, xs = (xs0.toList.take 40).toArray := ⟨_, rfl⟩
  have hx' : IntsAt xs is := by
    refine ⟨by rw [exs, eis]; simp [hxl], fun i x hi => ?_⟩
    rw [eis, List.getElem?_take] at hi
    rw [exs]
    split at hi
    · rename_i h40
      rcases hx.2 i x hi with ⟨t, ht⟩
      exact ⟨t, by simp [List.getElem?_take, h40, ht]⟩
    · cases hi
  have his : is.length ≤ 100 := by rw [eis, List.length_take]; omega
  have hdA : (A.deeper (eL L)).depth + 500 < recursionLimit := by show A.depth + 1 + 500 < _; omega
  have huA : (A.deeper (eL L)).units + 1000 < cLine := by show A.units + 3 + 1000 < _; omega
  have hhA : (A.deeper (eL L)).handled = none := hh
  obtain ⟨A', eA⟩ : ∃ A', A' = A.deeper (eL L) := ⟨_, rfl⟩
  rw [← eA] at hdA huA hhA FI' ⊢
  have hA : LawA A' (lawT is) is L nss := ⟨hhA, hdA, huA, lawT_size is, lawT_deep is, lawT_fine is, his, FI'⟩
  show jwp p A' (execs [lawB 0, lawB 1, lawB 2, lawB 3, lawB 4, lawB 5, lawB 6, lawB 7, lawB 8, lawB 9, lawB 10, lawB 11, lawB 12] (eL L)) _ _ ⟨Z, (L, [(Str.ofString "script", .ref sc)]) :: nss, (L + 1 + 1, o1) :: (L + 1, o2) :: [(781, tabObj #[]), (836, tabObj #[])], #[]⟩
  refine j_cons (st_s0 hsc hc hdt (by omega) c2' fun Z0 st sl t0 le0 hS0 => ?_)
  rw [← exs] at hS0
  refine j_cons (st_s1 hhA (by omega) hx' his hS0 fun Z1 R ys1 k1 t1 le1 hy1 => ?_)
  have hS1 := hS0.mono le1
  refine j_cons (st_s2 hhA (by omega) hx' his hS1 hy1 fun Z2 vn t2 le2 hn2 => ?_)
  have hS2 := hS1.mono le2
  refine j_cons (st_s3 c1' fun Z3 D oD le3 hD3 hK3 => ?_)
  refine j_cons (st_s4 hhA (by omega) hD3 hK3 fun Z4 kd le4 hkd hdict => ?_)
  have hK4 : ∃ o, Z4 (L + 2) = some o ∧ o.data = .cell (some (.ref D)) := let ⟨o, a, b⟩ := hK3; ⟨o, le4 _ _ a, b⟩
  have hn4 := (hn2.mono le3).mono le4
  refine j_cons (st_s5 hA hK4 hdict hkd hn4 fun Z5 vs le5 hs5 => ?_)
  refine j_cons (st_s6 hA (hn4.mono le5) fun Z6 vpl le6 hp6 => ?_)
  have le26 : Z2.le Z6 := ((le3.trans le4).trans le5).trans le6
  have hS6 := hS2.mono le26
  have le46 := le5.trans le6
  have hZ6 : LawZ p kd Z6 L st sl 0 xs D (lawT is) vn vs vpl := ⟨hS6.cS, let ⟨o, a, b⟩ := hK4; ⟨o, le46 _ _ a, b⟩, hS6.sc, let ⟨o, k, a, b⟩ := hdict; ⟨o, k, le46 _ _ a, b⟩, hkd.mono le46, hn4.mono le46, hs5.mono le6, hp6⟩
  have hsz := hA.size
  have hdp := hA.deep
  refine j_cons (law_s7 (p := p) (kd := kd) (Gp := []) (t := lawT is) (vs := vs) (vpl := vpl) hhA (by simp only [gD]; omega) (by simp only [gU]; omega) rfl rfl hZ6.subj hp6 hA.ok (by omega) (by omega) fun Z7 G le7 hG => ?_)
  have hZ7 := hZ6.mono le7
  refine st_s89 fun D1 D2 => ?_
  have hcnt : (lawRows is).2 + 1 ≤ 500 := by have := lawRows_hi is; omega
  refine j_cons (st_s10 hA hx' hcnt hZ7 fun Z8 rds ys zs k1 k2 n8 t8 le8 hy hz hr hl4 hl1 => ?_)
  have hZ8 := hZ7.mono le8
  obtain ⟨sds, hpm, hsd⟩ := sorted_ex rds hr.nodup
  refine j_cons (st_s11 (post := []) hA hZ8 LamTab.nil hy hr hl4 hl1 hpm hsd fun Z9 vd b ps' le9 LT9 hb hdue => ?_)
  refine j_cons (st_s12 hA (hZ8.mono le9) LamTab.nil (hz.mono fun V V x => x.mono le9) hr hl4 hl1 hpm hsd hb hdue fun Z10 tb' le10 => ?_)
  refine bodyQ_ret rfl ?_
  refine Turn.drop0 (Turn.drop0 (Turn.drop0 (Turn.done ⟨rfl, Z10, [] ++ G, tb', ps', rfl, ?_, hG⟩)))
  exact le0.trans (le1.trans (le2.trans (le26.trans (le7.trans (le8.trans (le9.trans le10))))))
end
theorem k3_law (P : Params) : (nsFind (esOf (k3 P)) (Str.ofString "law") == some (.ref 874)) = true := by kernel_rfl
theorem ns_uniq {h : Heap} {a : Addr} {m m' : Str → Option Value} (x : h.Ns a m) (y : h.Ns a m') (n : Str) : m n = m' n := by
  rcases x with ⟨o, es, ep, ho, hd, _, hm⟩
  rcases y with ⟨o', es', ep', ho', hd', _, hm'⟩
  rw [ho] at ho'; cases ho'
  rw [hd] at hd'; cases hd'
  rw [← hm, ← hm']
theorem ints_of {R : WRecords} {cl : Str → Option Addr} {h : Heap} : ∀ {vs : List Value} {ws : List WData} {as : List Addr}, ReadsAllW R cl h vs ws as → WShape.hasItems R ws .int = true →
    ∃ is : List Int, vs.length = is.length ∧ ws.length = is.length ∧ ∀ (i : Nat) (x : Int), is[i]? = some x → ∃ t, vs[i]? = some (.int x t) := fun {vs ws as} a hi => by
  induction ws generalizing vs as with
  | nil => cases a; exact ⟨[], rfl, rfl, fun V V h => by cases h⟩
  | cons w ws ih => cases a with
    | cons hd ht =>
      rcases ih ht (Bool.and_eq_true_iff.mp hi).2 with ⟨is, h1, h2, h3⟩
      rcases hasW_int (Bool.and_eq_true_iff.mp hi).1 with ⟨i0, rfl⟩
      cases hd with
      | int i t =>
        refine ⟨i0 :: is, congrArg (· + 1) h1, congrArg (· + 1) h2, fun j x hj => ?_⟩
        cases j with
        | zero => cases hj; exact ⟨t, rfl⟩
        | succ j => exact h3 j x hj
noncomputable def Zst (h : Heap) : Zm := fun a => if a = 781 ∨ a = 836 then none else h.get? a
theorem zst_some {h : Heap} {a : Addr} {o : Obj} (e : Zst h a = some o) : h.get? a = some o ∧ a ≠ 781 ∧ a ≠ 836 := by
  unfold Zst at e
  split at e
  · cases e
  · rename_i q
    exact ⟨e, fun x => q (.inl x), fun x => q (.inr x)⟩
theorem zst_of {h : Heap} {a : Addr} {o : Obj} (e : h.get? a = some o) (h1 : a ≠ 781) (h2 : a ≠ 836) : Zst h a = some o := by
  unfold Zst
  rw [if_neg (fun x => x.elim h1 h2)]
  exact e
theorem start_at {w : World} {s : Shared} (Y : saysK w s.heap) (hg : s.gens = #[]) : JC.At ⟨w, s.drawn, s.os⟩ ⟨Zst s.heap, [], [(781, tabObj #[]), (836, tabObj #[])], #[]⟩ s where
  d := rfl
  os := rfl
  gens := hg
  k := fun a o e => by
    refine zst_of (Y.1 a o e) ?_ ?_
    · rintro rfl
      have : (KK w.params).lookup 781 = none := rfl
      rw [this] at e; cases e
    · rintro rfl
      have : (KK w.params).lookup 836 = none := rfl
      rw [this] at e; cases e
  z := fun a o e => (zst_some e).1
  ns := fun q hq => by cases hq
  own := fun q hq => by
    rcases List.mem_cons.mp hq with rfl | hq
    · exact Y.2.1
    · rw [List.mem_singleton] at hq; subst hq
      exact Y.2.2
  sep := by show ([781, 836] : List Addr).Nodup; decide
  off := fun a ha => by
    have : a = 781 ∨ a = 836 := by simpa [JC.addrs] using ha
    show Zst s.heap a = none
    unfold Zst
    rw [if_pos this]
theorem tab_grow (o : Obj) (tb : Array Value) (h : o = tabObj #[]) : some (tabObj tb) = some { o with data := .fields (#[] ++ tb) } := by
  subst h
  rw [Array.empty_append]
theorem pre_len {R : WRecords} {ws : List WData} (h : WTm.holds R (.and (.not (.lt (.lit (.int 63)) (.len (.arg 0)))) (.lit (.bool true))) { args := [.list ws] } = true) : ws.length ≤ 63 := by
  have h : WTm.holds R (.and (.lit (.bool (!decide ((63 : Int) < (ws.length : Int))))) (.lit (.bool true))) { args := [] } = true := h
  by_cases q : (63 : Int) < (ws.length : Int)
  · rw [decide_eq_true q] at h
    exact Bool.noConfusion (h : false = true)
  · omega
theorem post_true {R : WRecords} {args ds : List WData} : (WShape.has R (.bool true) .bool && WTm.holds R (.eq .res (.lit (.bool true))) { args := args, res := some (.bool true), after := ds }) = true := by
  have e : PySem.W.same (WData.bool true) (WData.bool true) = true := by decide +kernel
  have e2 : WTm.holds R (.lit (.bool (PySem.W.same (WData.bool true) (WData.bool true)))) { args := [] } = true := by rw [e]; rfl
  exact e2
theorem table_at {w : World} {h : Heap} (Y : saysK w h) {c T : Addr} (K : CodeK w.params c T) : isCodeTable h T := by
  obtain ⟨o, vs, file, tf, flags, tg, inF, text, tt, h1, h2, h3, h4, _⟩ := K h fun o e => Y.1 _ _ e
  exact ⟨c, o, vs, h1, h2, h3, h4⟩
set_option maxHeartbeats 1000000 in
theorem law_end {q : Program} {loose : List Str} {XP : (Str → Option Value) → Heap → Prop} {d : DefRec} {kwd : List (Str × Expr)} (hname : d.name = Str.ofString "law") :
    WalkO q loose XP hook.says PySem.Challenge.rw_jf0031_01.row.toRowW d kwd fun f vs => PySem.call f vs := by
  intro w s₀ s₁ mg mb G Y fa o pm cd doc dV kV ho hd hcd hD hmg hg args vals as hpre hlay hrd hwl hlo
  have Y' := hook_in Y
  have hfa : fa = 874 := by
    have n3 : s₁.heap.Ns 3 (nsFind (esOf (k3 w.params))) := ⟨k3 w.params, _, _, Y'.1 3 (k3 w.params) rfl, rfl, strK_keys (k3_str _), fun V => rfl⟩
    have e := ns_uniq G.T.g n3 (Str.ofString "law")
    rw [hname] at hmg
    rw [hmg] at e
    have e2 : nsFind (esOf (k3 w.params)) (Str.ofString "law") = some (.ref 874) := by simpa using k3_law w.params
    rw [e2] at e
    cases e; rfl
  subst hfa
  obtain ⟨p1, p2⟩ := pre_splitW hpre
  obtain ⟨d1, r1, rfl, hd1, hr1⟩ := hasAllW_cons p1
  obtain rfl := hasAllW_nil hr1
  obtain ⟨ws, rfl, hws⟩ := hasW_list hd1
  cases hrd with
  | cons hv hvs =>
    cases hvs
    cases hv with
    | @list sc osc vs n _ as' hsc hcls hdt hvs =>
      obtain ⟨is, hl1, hl2, hl3⟩ := ints_of hvs hws
      have hx : IntsAt vs is := ⟨by rw [← Array.length_toList]; exact hl1, fun i x hi => by obtain ⟨t, e⟩ := hl3 i x hi; exact ⟨t, by rw [← Array.getElem?_toList]; exact e⟩⟩
      have hlen : is.length ≤ 63 := by rw [← hl2]; exact pre_len p2
      have H0 := start_at Y' hg
      have hne : sc ≠ 781 ∧ sc ≠ 836 := by
        constructor
        · rintro rfl
          rw [Y'.2.1] at hsc; cases hsc; cases hcls
        · rintro rfl
          rw [Y'.2.2] at hsc; cases hsc; cases hcls
      have run := (law_walk (p := ⟨w, s₁.drawn, s₁.os⟩) (A := callerA) (E := fun V => False) (nss := []) (Z := Zst s₁.heap) (sc := sc) (osc := osc) rfl (by decide) (by decide) ⟨[], rfl, fun env h => by cases h⟩ (zst_of hsc hne.1 hne.2) hcls hdt hx (by omega)).run s₁ H0
      refine wpAny_mono run (fun v s' h => ?_) fun e s' h => ?_
      · obtain ⟨c', H', rfl, Z', G', tb, ps, rfl, le, hb⟩ := h
        have hkeep : ∀ b o, s₁.heap.get? b = some o → b ≠ 781 → b ≠ 836 → s'.heap.get? b = some o := fun b o e h1 h2 => H'.z _ _ (le _ _ (zst_of e h1 h2))
        have h781 : s'.heap.get? 781 = some (tabObj tb) := H'.own (781, tabObj tb) (by trivial)
        have h836 : s'.heap.get? 836 = some (tabObj ps) := H'.own (836, tabObj ps) (by trivial)
        refine ⟨.inl ⟨.bool true, .bool true, [], rfl, fun cls => rfl, .bool true, ?_, fun V => ⟨List.nodup_nil, fun a ha => by cases ha⟩⟩, ⟨fun b o e => ?_, fun b o e => ?_⟩, H'.os, fun y hy => hb y ?_⟩
        · exact post_true
        · by_cases e1 : b = 781
          · subst e1
            rw [Y'.2.1] at e; cases e
            exact .inr (.inl ⟨table_at Y' (codeK783 _), rfl, #[], tb, rfl, by rw [h781]; exact tab_grow (k781 w.params) tb rfl⟩)
          · by_cases e2 : b = 836
            · subst e2
              rw [Y'.2.2] at e; cases e
              exact .inr (.inl ⟨table_at Y' (codeK840 _), rfl, #[], ps, rfl, by rw [h836]; exact tab_grow (k836 w.params) ps rfl⟩)
            · exact .inl (hkeep b o e e1 e2)
        · by_cases e1 : b = 781
          · subst e1; exact ⟨_, h781⟩
          · by_cases e2 : b = 836
            · subst e2; exact ⟨_, h836⟩
            · exact ⟨o, hkeep b o e e1 e2⟩
        · rw [H'.gens] at hy
          exact Array.mem_def.mp hy
      · obtain ⟨_, _, _, _, _, f⟩ := h
        exact f.elim
end Jf.Internal
namespace Jf.head
def tw9885069314055370784:=True
def tw18015420869322598528:=True
def tw1357763607778676896:=True
def tw9560807562288029856:=True
def tw13762471433450809504:=True
def tw8119851027715960032:=True
def tw14017535421957044448:=True
def tw17185345428665850112:=True
def tw401330594219993344:=True
def tw7426036545365031168:=True
def tw2753048072814318880:=True
def tw14508290807453750560:=True
def tw17540399415367356736:=True
def tw5973120481976649024:=True
def tw10277126613569616320:=True
def tw14600759849020107264:=True
def tw552257503146440192:=True
def tw12712992461143867968:=True
def tw885298025493471872:=True
def tw12412391779599659648:=True
def tw935153485584772768:=True
def tw7070924110564500128:=True
def tw3865288885760220896:=True
def tw12245140028839555840:=True
def tw12957449413641152288:=True
def tw12723553860069071648:=True
def tw5492917970256193376:=True
def tw9562055770463924064:=True
def tw5392343108866125696:=True
def tw12380106292343260032:=True
def tw10266887972996183968:=True
def tw14244647289029944288:=True
def tw12787623812515825665:=True
def tw808194325549044801:=True
def tw3530577777420080193:=True
def tw12869042571406951489:=True
def tw10962358588760096865:=True
def tw250738175501317217:=True
def tw11183645691817564289:=True
def tw14799367301842163841:=True
def tw5581283241265455233:=True
def tw1033034629081155745:=True
def tw309943913848002753:=True
def tw11343152883621290209:=True
def tw12309635801801341153:=True
def tw2042106208741339425:=True
def tw1587415676370755905:=True
def tw4160085114242394561:=True
def tw1839906182016868833:=True
def tw13339424888204419585:=True
def tw15931095041257202177:=True
def tw3480955664680129057:=True
def tw7115234413675068993:=True
def tw9929739895385524801:=True
def tw17005141123866088033:=True
def tw15274168340785844865:=True
def tw2157144760572938881:=True
def tw10389000978881119905:=True
def tw407934897703261857:=True
def tw17046273680678789793:=True
def tw5168768292183403169:=True
def tw6907904437400728225:=True
def tw9893712956711301825:=True
def tw8730352778121594593:=True
def tw17338838370662661857:=True
def tw7400753646517139201:=True
def tw15798007145973944065:=True
def tw2895669516262007553:=True
def tw10776587488655283009:=True
def tw3671091506337649473:=True
def tw15866637028568358721:=True
def tw18336013332927894433:=True
def tw184237436378082209:=True
def tw10674502428483646369:=True
def tw15346366557096346561:=True
def tw5798419991749717953:=True
def tw667726335624183745:=True
def tw1725963407213896673:=True
def tw5533604961129757730:=True
def tw4310522930153978946:=True
def tw1629268349528066114:=True
def tw13835641341265421474:=True
def tw11332898398240662690:=True
def tw11980061370867250338:=True
def tw620524086073127106:=True
def tw14955829283929597154:=True
def tw13162748699912128770:=True
def tw16669303886819849506:=True
def tw7076450363448751426:=True
def tw13268819026385552770:=True
def tw16457042454132015522:=True
def tw2592701879625189826:=True
def tw517863517242712546:=True
def tw1325363712844131842:=True
def tw15558262296669185570:=True
def tw13087399440449897026:=True
def tw15811086720805330562:=True
def tw2870872409392861858:=True
def tw16155085976523630242:=True
def tw1107443232014463650:=True
def tw12520552215311967938:=True
def tw13287160705000266498:=True
def tw2375170907476943650:=True
def tw15757186253415804706:=True
def tw14479576565582644034:=True
def tw5629376776577890:=True
def tw9555699764956819298:=True
def tw8096166049205317506:=True
def tw17756324993342095266:=True
def tw18176235855835214786:=True
def tw2446862718324021218:=True
def tw1509221973931497442:=True
def tw17043917457410072579:=True
def tw5626871217966417955:=True
def tw15965316009548580931:=True
def tw643314085620505731:=True
def tw1539316405765558403:=True
def tw11656690662897429667:=True
def tw14519210234027040931:=True
def tw3794014569758086371:=True
def tw13626018456115352835:=True
def tw8287365531889137923:=True
def tw14243868161549729059:=True
def tw1862088920434739491:=True
def tw14724109350427668803:=True
def tw16837357883354596707:=True
def tw15046981378130828643:=True
def tw9076599885776836995:=True
def tw2590680111457971587:=True
def tw16436987489971285411:=True
def tw11666102010968552867:=True
def tw13056093711954052515:=True
def tw4912346367568619971:=True
def tw3672345991738008035:=True
def tw10772480144104845827:=True
def tw2555399771961391619:=True
def tw13054221043491142179:=True
def tw15462629821514747459:=True
def tw13190922370355630659:=True
def tw11553550437733611075:=True
def tw14214461697149737571:=True
def tw4507952829541598819:=True
def tw8750470960931695203:=True
def tw17196817134360324707:=True
def tw16744713890349110915:=True
def tw8187256733472549571:=True
def tw857294126127022819:=True
def tw14955865393144767235:=True
def tw16415737349812247331:=True
def tw8627192599615420195:=True
def tw16836998212195914659:=True
def tw15417551544249436099:=True
def tw9973804232760498115:=True
def tw1083641237324923875:=True
def tw9087342952567163875:=True
def tw13676624760128953315:=True
def tw8170582955332961316:=True
def tw676382222252298308:=True
def tw13763823460487897156:=True
def tw1709453523174872132:=True
def tw15946743672412410020:=True
def tw8378113823061604516:=True
def tw10176881492791495844:=True
def tw3846212099163741380:=True
def tw711578252597726436:=True
def tw8939635356840565988:=True
def tw8500858478628636932:=True
def tw11237236610004829444:=True
def tw9124879001186238724:=True
def tw13833118437963010340:=True
def tw7650704781969430820:=True
def tw15035682641943547172:=True
def tw11421596466850982180:=True
def tw8191992956091364676:=True
def tw11030972545902804292:=True
def tw7596074820079596868:=True
def tw11183285864617994692:=True
def tw5403359931854900708:=True
def tw13383790808405151204:=True
def tw9900471615085103620:=True
def tw10631397637705190916:=True
def tw13077038685459538436:=True
def tw10932718107678694948:=True
def tw17921008386863924804:=True
def tw15150026524760637028:=True
def tw13651372481979893348:=True
def tw5093304015785919076:=True
def tw1901272809764896388:=True
def tw4884973353126330020:=True
def tw7296375912443940516:=True
def tw18133410512284870340:=True
def tw10927014999574587140:=True
def tw12085190038740349796:=True
def tw1005316187814302596:=True
def tw6610645011062016900:=True
def tw11749407452831691652:=True
def tw17874581888191999940:=True
def tw13086407607756338116:=True
def tw14170334803977808836:=True
def tw4759177389037789189:=True
def tw13620214247197619205:=True
def tw801959229336896517:=True
def tw6396823172414075909:=True
def tw10189940644434516005:=True
def tw9511012441170243781:=True
def tw9004760874994425061:=True
def tw5412646471314958565:=True
def tw13147270596841071877:=True
def tw9746629084333203749:=True
def tw5470267351995208005:=True
def tw15371807137661494629:=True
def tw6334918715769026917:=True
def tw11541327352947095909:=True
def tw15959657404041784709:=True
def tw18241062694103812485:=True
def tw9263833187356002725:=True
def tw10632693706746161605:=True
def tw9097481785386901957:=True
def tw8813073662954579397:=True
def tw13383318169691025893:=True
def tw10157472590279506437:=True
def tw636346714850118181:=True
def tw15611503013247118885:=True
def tw6254036775153672773:=True
def tw13030785443300013669:=True
def tw7853486061786979941:=True
def tw2036319860231466629:=True
def tw16082513402565511813:=True
def tw8472877390557212357:=True
def tw4952576198678585029:=True
def tw3801662664349618917:=True
def tw16348767193281741541:=True
def tw3133453112879081285:=True
def tw9330945992370804549:=True
def tw10656560584737771333:=True
def tw16238021279381529445:=True
def tw576285605560337285:=True
def tw13421393396976583621:=True
def tw10373490396498409445:=True
def tw17511312850880312358:=True
def tw9393022767351679014:=True
def tw13707888086961708070:=True
def tw1266788619605107750:=True
def tw15976775989756148806:=True
def tw7227894968387480646:=True
def tw2396040881950331014:=True
def tw11488867035831867526:=True
def tw14441508061634572422:=True
def tw11426086868066596998:=True
def tw15046142866798196902:=True
def tw5965866475080194214:=True
def tw11448838523336006822:=True
def tw2248749296353376454:=True
def tw10452559128381955302:=True
def tw11960842886197462246:=True
def tw7858362311618980166:=True
def tw5723575736582572390:=True
def tw10493740884756454758:=True
def tw13575834577079374214:=True
def tw13194027676224628198:=True
def tw11281661764513390086:=True
def tw3802838827630983718:=True
def tw15509188700411743814:=True
def tw16786838635534607974:=True
def tw3894667132796554854:=True
def tw6650438962345948774:=True
def tw12880020172018639494:=True
def tw17074629154830693030:=True
def tw3804510458999230150:=True
def tw17046650270701313734:=True
def tw10578671653166302950:=True
def tw12159991711477559014:=True
def tw6516137764700683014:=True
def tw10411025469975125766:=True
def tw1448863493505044262:=True
def tw13394150465740315430:=True
def tw16017329770561877798:=True
def tw2978302856940003174:=True
def tw11853875288981589926:=True
def tw15034790893320111046:=True
def tw17757442088455173062:=True
def tw14944927316706206694:=True
def tw10552628635244986375:=True
def tw14341412518509041767:=True
def tw13836261276033073287:=True
def tw12452293195960723623:=True
def tw16769464496580525223:=True
def tw1054168723603872967:=True
def tw6794592424262673607:=True
def tw898437505535730919:=True
def tw14798884579078073607:=True
def tw531057897987136839:=True
def tw13933155140681852263:=True
def tw2704865219429731687:=True
def tw9432112368519408007:=True
def tw2935975298173945223:=True
def tw10940073683753698695:=True
def tw6027152966942130599:=True
def tw9206289468357593543:=True
def tw17177103624166845927:=True
def tw13102976718108309991:=True
def tw13363240679396711943:=True
def tw1087883464846231079:=True
def tw15037962332683015751:=True
def tw9232088824057244295:=True
def tw8795862489636927175:=True
def tw10811175996070489863:=True
def tw5913459638547152679:=True
def tw11608489192805883719:=True
def tw11728076539442938695:=True
def tw16480331246459725703:=True
def tw12170274057539985319:=True
def tw17138039048824276903:=True
def tw15371077453346142119:=True
def tw5446317319628533703:=True
def tw16186384210247227367:=True
def tw7861632878842548232:=True
def tw18122702421104319528:=True
def tw13560939598464273448:=True
def tw17752545763109022760:=True
def tw13062678527020059752:=True
def tw3263719109268053128:=True
def tw2406614582710697192:=True
def tw7367036404684945704:=True
def tw11238320824543580456:=True
def tw10252805960175502664:=True
def tw9421227664914651464:=True
def tw1924440448422746472:=True
def tw15983808219925205352:=True
def tw10608713373766312296:=True
def tw15880652540473794952:=True
def tw2386425452516290952:=True
def tw14001047607038279080:=True
def tw7770483881122197960:=True
def tw13701666881011253736:=True
def tw6146360591453991400:=True
def tw10926736919544916456:=True
def tw10134471610261682696:=True
def tw16365318893704672808:=True
def tw2836321390701097512:=True
def tw3871129792259914312:=True
def tw17942265789539306152:=True
def tw2495930592757253800:=True
def tw16139998619217792712:=True
def tw16616673062899750600:=True
def tw2290582468354953928:=True
def tw1820563666626340552:=True
def tw10361383108375141096:=True
def tw10145414654218579688:=True
def tw8390558011502021384:=True
def tw14033032288578572072:=True
def tw3449549923645915976:=True
def tw11347446743770109768:=True
def tw1623001094218558280:=True
def tw2465095554262306664:=True
def tw3304211993238213480:=True
def tw8255444508915325800:=True
def tw13221301981880968040:=True
def tw1656751057404933000:=True
def tw4545071717797168008:=True
def tw5796342829022916520:=True
def tw7290792489393872840:=True
def tw13528857691606041576:=True
def tw10365910388559359976:=True
def tw16330754504815304680:=True
def tw17973057008580566121:=True
def tw15538693975608081545:=True
def tw15662476654535133353:=True
def tw7367830533438284969:=True
def tw2298123830494770345:=True
def tw17029121656622012617:=True
def tw2531304167388867785:=True
def tw1941124395421571305:=True
def tw15457127294582118633:=True
def tw4763497134710265129:=True
def tw2035973237622140201:=True
def tw13974050420265515305:=True
def tw17469649998215411017:=True
def tw18368659197704506729:=True
def tw8536364681135342953:=True
def tw2573097064031701353:=True
def tw15135158334695073129:=True
def tw12968609692177824105:=True
def tw13379281152257068425:=True
def tw6533077569726652809:=True
def tw6416387532263843241:=True
def tw1119012559543601609:=True
def tw8809610320919570889:=True
def tw2552682975376736745:=True
def tw4321152608888981993:=True
def tw16887733950149793257:=True
def tw3661550207433286121:=True
def tw9177986588068533737:=True
def tw3157582473923565065:=True
def tw4746892888899319305:=True
def tw16617302495302294025:=True
def tw7625486643663935017:=True
def tw17707411773912539689:=True
def tw1058225935525728809:=True
def tw1516153173586173513:=True
def tw11585893246177541705:=True
def tw17077869395669865033:=True
def tw12170034276963656297:=True
def tw7767555454118708841:=True
def tw16850505768228826761:=True
def tw8907474151186498217:=True
def tw9275621045393034921:=True
def tw14062590095447699113:=True
def tw13688214499455097513:=True
def tw6951428100789900009:=True
def tw12702034103557626633:=True
def tw1867300429687822121:=True
def tw1275496833240746793:=True
def tw9298920516951568169:=True
def tw4251626192213417833:=True
def tw7353128207686551433:=True
def tw5487673851346379689:=True
def tw3422273679264913321:=True
def tw12341294119850641321:=True
def tw14997262332899975178:=True
def tw9755496450931201034:=True
def tw14489184074872066154:=True
def tw10931010877382304874:=True
def tw15938857006169713770:=True
def tw11451905594199416970:=True
def tw17219458328209376394:=True
def tw7928238583332517034:=True
def tw1646416184225448138:=True
def tw15022790596932197578:=True
def tw12337875973824790730:=True
def tw12302979600667687146:=True
def tw15072067450951113962:=True
def tw835523425991058666:=True
def tw11484545669891574026:=True
def tw10211884752458421546:=True
def tw15807189456358599978:=True
def tw9462261827298319658:=True
def tw11139358736185757034:=True
def tw16195992456193377674:=True
def tw11574656259028912522:=True
def tw12987982039030041994:=True
def tw13224944587678257546:=True
def tw11640824143491910058:=True
def tw10290300969745774026:=True
def tw1849383541852421610:=True
def tw6830961205189027306:=True
def tw2168691921037041162:=True
def tw6617875980652955146:=True
def tw10296674094292079114:=True
def tw14437058513422153258:=True
def tw12056606312607553130:=True
def tw3926206645712792170:=True
def tw16821935823127004778:=True
def tw3876756292911658602:=True
def tw6114265826490069642:=True
def tw13446181464705382026:=True
def tw2417460500270988938:=True
def tw18026864329580219050:=True
def tw13743392603735981802:=True
def tw18235014960371117834:=True
def tw10299809101204374314:=True
def tw960374077467376458:=True
def tw18070193209862199307:=True
def tw1751260514191063083:=True
def tw10474757002308560971:=True
def tw13776811614959068235:=True
def tw2768537566816688203:=True
def tw5223276320656605387:=True
def tw5713654295615935723:=True
def tw5782305438742494475:=True
def tw16077261150859595083:=True
def tw7232802984450103627:=True
def tw2996583778650660235:=True
def tw5324042383916334571:=True
def tw10770755647233343979:=True
def tw3801415677382966795:=True
def tw14146185341332258315:=True
def tw3212551182585985547:=True
def tw3659553283146427947:=True
def tw5304883166686164555:=True
def tw3990881344799988331:=True
def tw16515235686818561643:=True
def tw15426621204390277739:=True
def tw12296758117580510859:=True
def tw2613855713267832459:=True
def tw17652793084138726027:=True
def tw11487328558617381547:=True
def tw12319429362247483115:=True
def tw3826782030136529675:=True
def tw54806048969830187:=True
def tw5233630652470844203:=True
def tw9061212028365729579:=True
def tw11825527424671809323:=True
def tw17534611235573399403:=True
def tw8532232181358909323:=True
def tw7705083518746516363:=True
def tw5025948749634762635:=True
def tw5544490565201487787:=True
def tw1963900413173114827:=True
def tw11533278150254716875:=True
def tw4267582284607327211:=True
def tw4604299524257095659:=True
def tw18322620141878956011:=True
def tw3847527544773737451:=True
def tw16096318050780109836:=True
def tw9713027635813195852:=True
def tw1217963284377121868:=True
def tw16825481218578729036:=True
def tw783436480585630892:=True
def tw1192290933831396524:=True
def tw10082869388235600076:=True
def tw8842335792599804172:=True
def tw324431765518564652:=True
def tw15631703656319903020:=True
def tw4987074774978316620:=True
def tw5359663766517434700:=True
def tw12224372935553536332:=True
def tw742309290492163404:=True
def tw14954559327160597836:=True
def tw14447035007773338988:=True
def tw877650893638534508:=True
def tw9241399987063711116:=True
def tw1795769552362263980:=True
def tw1146865608388887980:=True
def tw17927566307515378092:=True
def tw13145721535747112396:=True
def tw7694710947334497740:=True
def tw10871221571876454892:=True
def tw12561959882714779212:=True
def tw9967651115327281740:=True
def tw3047449445511155308:=True
def tw1732838912307349100:=True
def tw4993687927069542028:=True
def tw1678735519161360012:=True
def tw10244199123482650252:=True
def tw16831127390120173196:=True
def tw6110823209061665452:=True
def tw9185815921328508588:=True
def tw10311499331845247660:=True
def tw5421720701947211500:=True
def tw16363599302524376812:=True
def tw5770432885269172972:=True
def tw18133837587463882508:=True
def tw789610082702858028:=True
def tw758034881244002124:=True
def tw7657211195810904940:=True
def tw12080501056094476140:=True
def tw14618949719759958924:=True
def tw10414111323214512044:=True
def tw10938938215792300972:=True
def tw18051274659587669005:=True
def tw17161887510556957773:=True
def tw9769541230172438701:=True
def tw17059404024706176173:=True
def tw325524109478097101:=True
def tw10155004176104711405:=True
def tw16853321208280207629:=True
def tw6542747404451486029:=True
def tw14037124087865152845:=True
def tw16269693147132582253:=True
def tw13117055883722628461:=True
def tw12900356015580641709:=True
def tw8505526725935699373:=True
def tw17409474377998282189:=True
def tw12819367022902163917:=True
def tw6902984198062882253:=True
def tw2797989937614721517:=True
def tw16861936394007508493:=True
def tw9223801485378646573:=True
def tw11919673800081711661:=True
def tw10449683763503973965:=True
def tw9712821331427893837:=True
def tw8804062170283133581:=True
def tw9578273535043734189:=True
def tw14211059758762341069:=True
def tw2703327672476859117:=True
def tw5643835285041340141:=True
def tw11679152134752671501:=True
def tw3134682878098307853:=True
def tw9760352140316049165:=True
def tw4360195468989338413:=True
def tw18304322899406359341:=True
def tw16264820050598910893:=True
def tw7723637887654091693:=True
def tw3316062586863061997:=True
def tw15995671726245082126:=True
def tw1437566065285812302:=True
def tw11289377875921502318:=True
def tw9940920186546678958:=True
def tw2893570021760912590:=True
def tw4659887281014367438:=True
def tw1947508719355681006:=True
def tw8439893740722749678:=True
def tw11852519939245454606:=True
def tw9411111308052022574:=True
def tw8737717862207424846:=True
def tw7398127510036510062:=True
def tw3202721519487570350:=True
def tw15702563616513834446:=True
def tw11821606805470654926:=True
def tw14232879403109892558:=True
def tw8345955591518789166:=True
def tw1754747614013206062:=True
def tw6571666263217650222:=True
def tw14039683996243701326:=True
def tw7181454332695297646:=True
def tw108080571063238254:=True
def tw14380545180736803502:=True
def tw17286649352534858446:=True
def tw2886806268134713038:=True
def tw4689460874110038734:=True
def tw6064991839095940846:=True
def tw2337392475929487118:=True
def tw15587940213559422734:=True
def tw7516740614257606414:=True
def tw17391452682004938542:=True
def tw1044001952743000910:=True
def tw16122806327175976782:=True
def tw10565690233964015438:=True
def tw18385655737607108430:=True
def tw4849904931209303918:=True
def tw1096618285473109870:=True
def tw14231130590078145422:=True
def tw2275470031058178958:=True
def tw16921698685679359918:=True
def tw17650694554234874830:=True
def tw15762693561748931534:=True
def tw2693813869277407214:=True
def tw5143958401041306639:=True
def tw18296186421190068271:=True
def tw8342556433967157295:=True
def tw5821524797245212719:=True
def tw99515271424732207:=True
def tw5732720315595577455:=True
def tw15461193378786555055:=True
def tw15894126441788885167:=True
def tw15177649104603156687:=True
def tw17058102410259822799:=True
def tw14008565079527037135:=True
def tw14540534264213249263:=True
def tw11838183977216628015:=True
def tw5930146521036280207:=True
def tw10362309334037219791:=True
def tw7581855530765296111:=True
def tw17586191285953168911:=True
def tw11560639167439222319:=True
def tw15758491045055138415:=True
def tw9546397459211282031:=True
def tw15291543362549317263:=True
def tw1413148979338515119:=True
def tw8106130836534829743:=True
def tw909819764153415343:=True
def tw2008963057857154767:=True
def tw848548829171147503:=True
def tw3105438280244125455:=True
def tw2553603993202998031:=True
def tw10647753823524154159:=True
def tw11310418965121372015:=True
def tw12170825462033509231:=True
def tw16224115387990705007:=True
def tw17050570022792818575:=True
def tw13893730145598211983:=True
def tw10998644426357655471:=True
def tw4817981668237492143:=True
def tw17658837346118674448:=True
def tw11939424080695311408:=True
def tw479390417762471024:=True
def tw5877029610835343536:=True
def tw521149728193767632:=True
def tw3290421319789430992:=True
def tw15955093312009162992:=True
def tw13929741472734706928:=True
def tw16661479306065393936:=True
def tw9935527047100449040:=True
def tw15191792183077069136:=True
def tw5911014801037767024:=True
def tw10747967751348384112:=True
def tw16107826308867881328:=True
def tw16164178161900252560:=True
def tw17200981016191828432:=True
def tw17496800463759671760:=True
def tw3946211449040963024:=True
def tw17842362248273563088:=True
def tw1215202440230990320:=True
def tw10252581647527547408:=True
def tw5577223187250238992:=True
def tw9051593491388458512:=True
def tw8761734958040600144:=True
def tw12019373867261140560:=True
def tw8371407542617648816:=True
def tw14049651439157928624:=True
def tw8745256165609928368:=True
def tw10112314051228879568:=True
def tw13843161861137412848:=True
def tw3960305238425154352:=True
def tw15513564230359963440:=True
def tw5148603123999798128:=True
def tw14613997939179563984:=True
def tw14006624771753466864:=True
def tw3979450153745139696:=True
def tw18087777971303878640:=True
def tw2199194469593378833:=True
def tw16991422420204666929:=True
def tw7345168162123289649:=True
def tw3513911778159383601:=True
def tw4293505664133466225:=True
def tw153141671349223537:=True
def tw12342427228879035505:=True
def tw4953869655457134737:=True
def tw3646199224013659313:=True
def tw2808123513798450385:=True
def tw4211594357076359377:=True
def tw1620771592426759441:=True
def tw2229358258260102481:=True
def tw12362598044303122801:=True
def tw6117053670665389489:=True
def tw17254071754777822705:=True
def tw2759705272432592401:=True
def tw11309204299430320657:=True
def tw11319408231262761521:=True
def tw1217695589229030961:=True
def tw11181469235623355985:=True
def tw8529546567808205393:=True
def tw3063856108163876465:=True
def tw3850469037203693169:=True
def tw6283240695939986065:=True
def tw4800472634573230769:=True
def tw18050420311509636785:=True
def tw11576171128446369457:=True
def tw1574771277842444977:=True
def tw4288135906323462833:=True
def tw16694390159807143633:=True
def tw1913448552545883889:=True
def tw15075896459105397489:=True
def tw6797254117536534289:=True
def tw18358093346431807249:=True
def tw7774222281764109137:=True
def tw2447492797706145617:=True
def tw11454141739516904305:=True
def tw10152260393198247793:=True
def tw2742407642187364209:=True
def tw2587335281272315793:=True
def tw4265963842756799377:=True
def tw11676899713880531921:=True
def tw14390006581549740050:=True
def tw6957553505201892434:=True
def tw15086661186027599954:=True
def tw16346978487799517362:=True
def tw13122873793751141554:=True
def tw2039141394146502866:=True
def tw1235129161180014802:=True
def tw10982559346582579410:=True
def tw7997761024235616498:=True
def tw7296420384900192562:=True
def tw16195571334515193170:=True
def tw3595241488030711186:=True
def tw16845724203021529522:=True
def tw10012327647259164082:=True
def tw9725391078867967538:=True
def tw12195054495268140626:=True
def tw581800513998124626:=True
def tw8538956216793036402:=True
def tw527575040643995250:=True
def tw12307127627091878514:=True
def tw14871119998255432338:=True
def tw13418601527792052914:=True
def tw16505909424524405522:=True
def tw12643883492641925938:=True
def tw8307414409957410642:=True
def tw2259088820190186322:=True
def tw13018663467217046354:=True
def tw16215418330841203570:=True
def tw10655210541373834098:=True
def tw6449006195523995506:=True
def tw9625440921124467570:=True
def tw17763949016780346258:=True
def tw12441318563001075666:=True
def tw6632436596875812818:=True
def tw176640276515013618:=True
def tw9717546216686127090:=True
def tw6359883947906021395:=True
def tw5594943455602269235:=True
def tw15958777677882546259:=True
def tw3932278421359963219:=True
def tw9854659658225984627:=True
def tw12968002668966159475:=True
def tw11755532418114760883:=True
def tw7371581707605268691:=True
def tw6218311822616364275:=True
def tw8539847086149753075:=True
def tw17863734488274563347:=True
def tw14666020625286825235:=True
def tw14784286976986573075:=True
def tw2778249944957564211:=True
def tw17367679053878923571:=True
def tw16732901365351162195:=True
def tw4202441579687955827:=True
def tw5633678708766378355:=True
def tw9915432555357263251:=True
def tw746290802644578707:=True
def tw11997902387798590899:=True
def tw1704116660614114739:=True
def tw7887821375051595219:=True
def tw13378454659948800467:=True
def tw6290815718367422963:=True
def tw1066946486237792819:=True
def tw413999948502032979:=True
def tw16549073056868554323:=True
def tw14308121000152527475:=True
def tw7069447610440859251:=True
def tw15595264132009040563:=True
def tw2955442972379815603:=True
def tw7012191197242659539:=True
def tw7475050997625675475:=True
def tw5515028675116455667:=True
def tw11384858797806301971:=True
def tw17078692828733237011:=True
def tw16391837096522624819:=True
def tw13777963871381896019:=True
def tw18383334173399599987:=True
def tw8490869204672065395:=True
def tw10774385028923344755:=True
def tw10302009465623213971:=True
def tw16151464911573006259:=True
def tw2260327364724721587:=True
def tw8273744914246068179:=True
def tw6766775014874920915:=True
def tw7520730894510588915:=True
def tw11362824093752295411:=True
def tw4752443209001095155:=True
def tw12359175861758982196:=True
def tw7589928199159087188:=True
def tw2232857021095019604:=True
def tw11887583002634268788:=True
def tw15951332426928258164:=True
def tw4537350248830482580:=True
def tw1329595922498278612:=True
def tw9106236304301296852:=True
def tw17486387236932163796:=True
def tw12636185627750400244:=True
def tw5791143291111133428:=True
def tw4367078427177432372:=True
def tw8314933546711320948:=True
def tw5392451864121351540:=True
def tw8611288412761807220:=True
def tw706777382014204308:=True
def tw6532761106192930196:=True
def tw5806991821605524916:=True
def tw7497051787503618516:=True
def tw8751894591277094356:=True
def tw2221456654982938068:=True
def tw5705530456262029812:=True
def tw12886415235492713972:=True
def tw7942351315059704340:=True
def tw12600303984211930708:=True
def tw17319339856534134484:=True
def tw5689101758641517268:=True
def tw7357858791861311220:=True
def tw606545029744332564:=True
def tw4915461427944040212:=True
def tw9374383247306637076:=True
def tw15996110046308976404:=True
def tw7129834248315652884:=True
def tw185169739938513716:=True
def tw9624079651175818068:=True
def tw6646151084170143636:=True
def tw14376983566938885012:=True
def tw4647585362682485684:=True
def tw8403625936417662900:=True
def tw9405533176288927765:=True
def tw4726111081741292597:=True
def tw1831979633215345717:=True
def tw278597677133028469:=True
def tw2030444880815531157:=True
def tw11377680253550204053:=True
def tw2399108740639453333:=True
def tw5471571288672837813:=True
def tw15931340662502553781:=True
def tw6765625364910558389:=True
def tw4030570126875141333:=True
def tw4513820152260560149:=True
def tw6722258675410964757:=True
def tw2322116147002179893:=True
def tw7486402855342482805:=True
def tw2676062558949384597:=True
def tw8013386971443013013:=True
def tw18378997360092698101:=True
def tw5473993041440425493:=True
def tw10499721870011949621:=True
def tw13464986937584400949:=True
def tw1811497063146089045:=True
def tw17557656470012235381:=True
def tw16060463585359831669:=True
def tw1721068122239489653:=True
def tw5499925308176161397:=True
def tw14551744583386281621:=True
def tw7886895891091590869:=True
def tw9325869304459204309:=True
def tw18265406727072362197:=True
def tw15840368897002146549:=True
def tw3237736587968630549:=True
def tw14536163481683202869:=True
def tw14177133336146571125:=True
def tw15469914033724183445:=True
def tw17077774140445768597:=True
def tw5540906790708750229:=True
def tw18118646335543131061:=True
def tw17214659742820515765:=True
def tw12196755300187843509:=True
def tw14342217948527389653:=True
def tw13631960494359181269:=True
def tw14134335869782427702:=True
def tw9304928726572315702:=True
def tw5425561685597495382:=True
def tw8939271582131618934:=True
def tw10171024105907990678:=True
def tw3103471178158268566:=True
def tw2983662609863574678:=True
def tw2513093708769374390:=True
def tw10964683033742117046:=True
def tw11107262092525813974:=True
def tw5103844670267861238:=True
def tw16131988280312513782:=True
def tw914080648033910038:=True
def tw3145977487198804278:=True
def tw14439977119084388662:=True
def tw11747306553598800214:=True
def tw17339020793190011254:=True
def tw5775060210858566006:=True
def tw2720163853326478742:=True
def tw10029974496623749558:=True
def tw1603863110174165494:=True
def tw9075357425847518710:=True
def tw13609998105637111350:=True
def tw1537161244052695638:=True
def tw5254986019772440214:=True
def tw7147728843744861846:=True
def tw12538322522708654774:=True
def tw4964300868385283766:=True
def tw10922393835920660182:=True
def tw14204866178182299382:=True
def tw16329258720246914838:=True
def tw14095963230536977174:=True
def tw9077503841298008886:=True
def tw8961046284578487094:=True
def tw3873907913535090486:=True
def tw4985911589694947158:=True
def tw1025698044623370134:=True
def tw15147582997695370134:=True
def tw14566512959801767830:=True
def tw13825967695227162550:=True
def tw13834031003717011414:=True
def tw3429039458332208118:=True
def tw15801865418185218038:=True
def tw6025399848513722358:=True
def tw16569838680295576599:=True
def tw279531833167013911:=True
def tw15205541202758102039:=True
def tw8042686990126818359:=True
def tw9322633463741836343:=True
def tw1248697407648163031:=True
def tw3457887869592101079:=True
def tw8980156804034461911:=True
def tw16234232899882324215:=True
def tw9727238831840497911:=True
def tw17749272020170539255:=True
def tw16758387128165940503:=True
def tw10993763619922223383:=True
def tw7509558452899898711:=True
def tw8442404754358108567:=True
def tw6010044098640626103:=True
def tw2611840515367163351:=True
def tw17161682793183864311:=True
def tw15495853398172108311:=True
def tw13231949956142041623:=True
def tw12457132686544688663:=True
def tw7349104795832249943:=True
def tw10026036429359998551:=True
def tw3202670007486202487:=True
def tw17531150693855849079:=True
def tw4869541350353340087:=True
def tw5618746200858885847:=True
def tw16231611311435152087:=True
def tw8414906977527387895:=True
def tw1660217529181706999:=True
def tw8097061527236968183:=True
def tw378383349356462871:=True
def tw8308152387230320407:=True
def tw13050278885256561463:=True
def tw16895554221400040247:=True
def tw3652057303115507511:=True
def tw3944356585147739959:=True
def tw5696993246659432279:=True
def tw1171502245048029047:=True
def tw660579105891227511:=True
def tw17473580782936041367:=True
def tw5955395540569246615:=True
def tw8390756019955802071:=True
def tw15680873022078847991:=True
def tw7482615033599430647:=True
def tw8349697097141950455:=True
def tw3391344162274472951:=True
def tw16209688930869108760:=True
def tw2415526954016944152:=True
def tw3415377531189593176:=True
def tw7618565444010548312:=True
def tw15177548307389010040:=True
def tw11958438200211326072:=True
def tw9876803936548121752:=True
def tw5093588326890878168:=True
def tw7718776019018780984:=True
def tw5896322900298439992:=True
def tw15259021919986627928:=True
def tw10995009700691430744:=True
def tw8287025594546999640:=True
def tw10042008679055060344:=True
def tw5090712754497737080:=True
def tw15572942967496110488:=True
def tw12223747397444086168:=True
def tw16848888589719992728:=True
def tw3718481099761556920:=True
def tw8701755152622529976:=True
def tw11564401242145339896:=True
def tw5819455599657675288:=True
def tw18156457155118246424:=True
def tw11725213823749295672:=True
def tw10512447341153820248:=True
def tw16775056369855981176:=True
def tw17680766214535773848:=True
def tw17825753502868909752:=True
def tw7589485719001897656:=True
def tw14414281335380046552:=True
def tw12277984313165107928:=True
def tw7490521322828000024:=True
def tw18118847286344554264:=True
def tw5417759798329173784:=True
def tw415955935441311544:=True
def tw10367171018560553784:=True
def tw883743981870622520:=True
def tw17115557467606557528:=True
def tw7116671462856867768:=True
def tw2392868728016387000:=True
def tw8450538742693469144:=True
def tw6001994068142392345:=True
def tw8684834331928629305:=True
def tw15957500030436638809:=True
def tw6350306379255138393:=True
def tw14032778384659084441:=True
def tw13287265715311626393:=True
def tw3687463330346517721:=True
def tw4896959725938602233:=True
def tw5843438549179500793:=True
def tw9509195695740432665:=True
def tw783908889251051801:=True
def tw9460717418854667577:=True
def tw18140803710732974425:=True
def tw6828376825650789721:=True
def tw12375298959860416857:=True
def tw6613741578553823609:=True
def tw4142060071640736153:=True
def tw3201493601226791321:=True
def tw1000297950142420441:=True
def tw5764392405750713817:=True
def tw13200050530543061497:=True
def tw7455067699409837561:=True
def tw5548443370316209721:=True
def tw302284896537152153:=True
def tw8313892713112984281:=True
def tw9399728910704581337:=True
def tw16129994590668271417:=True
def tw589302116979907417:=True
def tw8414824062935604089:=True
def tw1531540555149553561:=True
def tw4250475748299482041:=True
def tw13585218285569293241:=True
def tw1987136082392628185:=True
def tw1029349479280971802:=True
def tw5811902667239693338:=True
def tw16493708295814131738:=True
def tw379160479712885818:=True
def tw16267125195059248218:=True
def tw1358908494923182170:=True
def tw8426407170081477722:=True
def tw5776014589114222778:=True
def tw9797618678046668986:=True
def tw4741905654477640890:=True
def tw258223169586722010:=True
def tw6111856266007493882:=True
def tw3972874340800194810:=True
def tw1044416666356278522:=True
def tw1997387242187136314:=True
def tw9314235171364766106:=True
def tw8806735593672214938:=True
def tw16394234918926341530:=True
def tw13181169405519442362:=True
def tw16299412320017191386:=True
def tw2744769760055246362:=True
def tw7980369247157406266:=True
def tw13265130486396474:=True
def tw8009343978907044442:=True
def tw14992951548086176346:=True
def tw7447605646250437210:=True
def tw2383449041293113946:=True
def tw6461812489075252858:=True
def tw18292088042120923770:=True
def tw15976323022098725530:=True
def tw3182731047913959066:=True
def tw4911925362051166874:=True
def tw6846784020774465210:=True
def tw10635974435632547514:=True
def tw6541750640934547162:=True
def tw9484593883360304858:=True
def tw14565996215770139354:=True
def tw6443408422482572090:=True
def tw8072119082614642522:=True
def tw1694058867483749210:=True
def tw9092102682501011322:=True
def tw15520585977728982938:=True
def tw11411786624521019386:=True
def tw1607724885583713274:=True
def tw2467805704162735098:=True
def tw8457520306642736155:=True
def tw5111554073341250619:=True
def tw598498491016532027:=True
def tw5673303851585766555:=True
def tw5284120873750595771:=True
def tw13013319119817450683:=True
def tw15047662890749996219:=True
def tw16211537463604966651:=True
def tw7752417496937136379:=True
def tw2689774375398263067:=True
def tw6622616807555066171:=True
def tw13355365273796458811:=True
def tw11256337034126468411:=True
def tw5630433938281645403:=True
def tw14696405239724312955:=True
def tw7651485648921839003:=True
def tw1472331223882468763:=True
def tw12027309806937254331:=True
def tw17202597883737003451:=True
def tw598913631624229339:=True
def tw10116900893867980283:=True
def tw15433734105614355963:=True
def tw2791872803749077499:=True
def tw4976045099035481659:=True
def tw11932770058403692091:=True
def tw12518404691901810267:=True
def tw4020894760433445467:=True
def tw12556977064211517051:=True
def tw14298080525866558075:=True
def tw7717381483558408859:=True
def tw12926936902177648283:=True
def tw14751882547609908923:=True
def tw4460698132859733723:=True
def tw3508508062706643675:=True
def tw2931342856089362139:=True
def tw10379088308142637819:=True
def tw17169320967046635259:=True
def tw10206807569669014267:=True
def tw12545561393208285979:=True
def tw8027657582498411291:=True
def tw7283164248302690107:=True
def tw5684806082200959835:=True
def tw3099974611142069179:=True
def tw11321401607503798203:=True
def tw16977909891616837595:=True
def tw2722764161468798939:=True
def tw15174221324652348444:=True
def tw14054244650597106748:=True
def tw9938280030105725020:=True
def tw4758312218450300028:=True
def tw9655339108068080764:=True
def tw18152925572979489948:=True
def tw18366669476038563996:=True
def tw16770268882348297404:=True
def tw13744473046926286012:=True
def tw536550919664611580:=True
def tw12415545272627009820:=True
def tw3736437405039937820:=True
def tw15758632044713548188:=True
def tw8568216096874491324:=True
def tw5914373925847775708:=True
def tw12215906122976150044:=True
def tw1488417212693002812:=True
def tw10965448473479303740:=True
def tw9631880219784114748:=True
def tw10163066181333401212:=True
def tw5071871913460225660:=True
def tw1202845871488309916:=True
def tw995395635511665308:=True
def tw11020695234835198620:=True
def tw2319165459541741212:=True
def tw1299725777616623260:=True
def tw5225554865145797276:=True
def tw10411980086139305660:=True
def tw7385582915793004252:=True
def tw7079886306268180188:=True
def tw6868660073473325820:=True
def tw9630559764822437628:=True
def tw9151545862262288124:=True
def tw14843550078224337692:=True
def tw4210920589369416476:=True
def tw14119082890378078012:=True
def tw7959183752307666748:=True
def tw5856913582083874652:=True
def tw12697512852821175196:=True
def tw7774995422373650364:=True
def tw4368059472485741500:=True
def tw4843090959169489884:=True
def tw8336976881263807452:=True
def tw10325582439431759901:=True
def tw15935270808095155261:=True
def tw1010747042190747741:=True
def tw7356098263783885949:=True
def tw6938884236026802301:=True
def tw9043603651341817053:=True
def tw15437768563778603229:=True
def tw9942207869260790045:=True
def tw11684160110881732925:=True
def tw1297061136698833245:=True
def tw11812492944229163389:=True
def tw1927090157362666877:=True
def tw12518150646465892765:=True
def tw14857169883107891613:=True
def tw1434237540216252829:=True
def tw16872787341099679133:=True
def tw6024666292996519357:=True
def tw5105431409435226589:=True
def tw11080176292317658621:=True
def tw8804400869860802077:=True
def tw16899899754519775773:=True
def tw561249759354187325:=True
def tw7522862512694861405:=True
def tw1846977720702153309:=True
def tw3762397418565893757:=True
def tw5027425637852765821:=True
def tw13881789845174436477:=True
def tw14749650332341573277:=True
def tw11734607071206786749:=True
def tw18233264366078740157:=True
def tw15543085191356671677:=True
def tw17684637217669187293:=True
def tw15261132014563339005:=True
def tw5957665348778803997:=True
def tw6114893564760008509:=True
def tw10543068114265377629:=True
def tw7938702965707528093:=True
def tw13292653453451095997:=True
def tw15296031137553184733:=True
def tw10240317052737306621:=True
def tw7071413115581124670:=True
def tw11023184710840564798:=True
def tw15826220282845553758:=True
def tw17979607705366853726:=True
def tw4322385415371455614:=True
def tw424461295882861694:=True
def tw1160184928258560158:=True
def tw12012521917375807678:=True
def tw17882017147403641022:=True
def tw4098983362444443902:=True
def tw7305850462866365694:=True
def tw5400671811546171678:=True
def tw14318938554769789246:=True
def tw10593578479336618302:=True
def tw8253323893055274302:=True
def tw17429878351377044830:=True
def tw10440392857536856446:=True
def tw8962181440051623294:=True
def tw295315852669877630:=True
def tw12373416899438951838:=True
def tw17542613972960154014:=True
def tw8341078648367285694:=True
def tw7330308092976445886:=True
def tw12970685030413843902:=True
def tw5834446598764315070:=True
def tw10247384871718189502:=True
def tw1280950756944188894:=True
def tw9591939911433419230:=True
def tw11615320688589068798:=True
def tw1516127682015831614:=True
def tw13273474128788801086:=True
def tw17321904151398108734:=True
def tw6248776176304550462:=True
def tw2015595881213499998:=True
def tw5153692728156743262:=True
def tw3342712398734566014:=True
def tw16115510803099382430:=True
def tw3416127920243990174:=True
def tw11290254852100773566:=True
def tw15763810421623972542:=True
def tw13226233867480459966:=True
def tw8982272900029281982:=True
def tw7030255237533759230:=True
def tw2787197033996966686:=True
def tw5427775074531417918:=True
def tw11976629296188600158:=True
def tw13862156510917035870:=True
def tw731113526895595422:=True
def tw9390597028823952318:=True
def tw9852114226564452350:=True
def tw13461176468131786750:=True
def tw1284573993210382367:=True
def tw11871960373214003359:=True
def tw432842902372780223:=True
def tw4367455420299317439:=True
def tw4557224977290078399:=True
def tw734633320868292895:=True
def tw3247998201348971839:=True
def tw16756488321456837951:=True
def tw18128379667118965055:=True
def tw6038854863898234207:=True
def tw16612355506454433119:=True
def tw16297860390092829087:=True
def tw13420884466249891263:=True
def tw10776520766721976799:=True
def tw5556225711555500511:=True
def tw5887100154986435135:=True
def tw13507097893307415103:=True
def tw15135491534439179871:=True
def tw8387929225487953503:=True
def tw5312042644324698719:=True
def tw10768308164574233247:=True
def tw10073752854155410111:=True
def tw3927207607817087711:=True
def tw7457138425518542559:=True
def tw15668718646198758111:=True
def tw5637847896202655551:=True
def tw13021481332026386271:=True
def tw17735240772031071071:=True
def tw10554836167569012639:=True
def tw8704222353839078335:=True
def tw17230710603964101567:=True
def tw14792879385836668895:=True
def tw17232713497036402687:=True
def tw904321815638531071:=True
def tw4402290639138774308:=True
def tw3035288466386271376:=True
def tw4478288399550382768:=True
def tw14820222216415405016:=True
def tw4908094887740160925:=True
def tw11562242698012541274:=True
def tw2620013338819449276:=True
def tw4756560651625749899:=True
def tw2053629373518852652:=True
def tw17043673972979410936:=True
def tw8782535104624128665:=True
def tw7845717999921171820:=True
def tw3209248687234066147:=True
def tw17857650979361832241:=True
def tw18326406700089830814:=True
def tw16420074503392397408:=True
def tw779832510720047296:=True
def tw14615638203593089216:=True
def tw12255165672842839328:=True
def tw2910230402532383104:=True
def tw8558016761108717024:=True
def tw13450200361613914688:=True
def tw4493637896385365632:=True
def tw3018727122978106625:=True
def tw1047232921196207425:=True
def tw16262872231179530977:=True
def tw16249882713976937506:=True
def tw9203242446058900674:=True
def tw15495387147153988066:=True
def tw3864016471395625474:=True
def tw16300737573584546498:=True
def tw18285388770256061507:=True
def tw2611613007787185283:=True
def tw8530285943200857251:=True
def tw4505342525936820451:=True
def tw11017460691092630755:=True
def tw9544712546861241635:=True
def tw3841831209314155907:=True
def tw1957707082356489027:=True
def tw17438939551710513220:=True
def tw9199225483793902884:=True
def tw17926321339663035589:=True
def tw16648217602158732357:=True
def tw11229793157286909029:=True
def tw15488931889695121478:=True
def tw2376611285313724550:=True
def tw4483741203276693830:=True
def tw12306778680614748838:=True
def tw303254851087133350:=True
def tw3951787351090346854:=True
def tw810986459657119719:=True
def tw2096037501308385959:=True
def tw18436126271713866856:=True
def tw8464018501248086312:=True
def tw11392038125957218600:=True
def tw5795801056448578152:=True
def tw15578816542908307240:=True
def tw17534137135222293545:=True
def tw10645745155756915081:=True
def tw1049587971029472937:=True
def tw16877515002682599081:=True
def tw15640588265240339722:=True
def tw5635670207709339242:=True
def tw14173223776791712490:=True
def tw15634526659864143754:=True
def tw10916455295443479595:=True
def tw1093880831382551659:=True
def tw14905569436746501547:=True
def tw10532667712974282251:=True
def tw10434089571374317676:=True
def tw3527531651795732012:=True
def tw14024549926664295052:=True
def tw1963811148571760300:=True
def tw5458924194803355372:=True
def tw11952791938210681612:=True
def tw16424915340649029005:=True
def tw16730647994667707885:=True
def tw15169263852315266573:=True
def tw10805644876999451277:=True
def tw5380556255213058957:=True
def tw3758671981853870029:=True
def tw2102144663621738542:=True
def tw15201458207801094190:=True
def tw5313436274682974446:=True
def tw17608973615132437742:=True
def tw8257915325675709774:=True
def tw56752500518733582:=True
def tw9670943783512690031:=True
def tw4827012301998135759:=True
def tw8690424440029500143:=True
def tw4036278260115234639:=True
def tw15999505379663151023:=True
def tw1338114983797172143:=True
def tw4686240320170875920:=True
def tw16129373519341890640:=True
def tw17577613230683313328:=True
def tw16112892864499272976:=True
def tw10152139621335798224:=True
def tw14061577622145085104:=True
def tw17519665818883897008:=True
def tw838541884605997105:=True
def tw15723092913359474737:=True
def tw13464588482659334193:=True
def tw4414395619516049265:=True
def tw16181087711340534802:=True
def tw2627048952496732338:=True
def tw5110387683007795858:=True
def tw14916612504228040562:=True
def tw17670468604405800691:=True
def tw8870775806613801875:=True
def tw13605965743885156500:=True
def tw13609752950604938516:=True
def tw2449323178011753780:=True
def tw15078534066486127924:=True
def tw5035205545051807316:=True
def tw7549671047891779220:=True
def tw7076890459208983637:=True
def tw14633232599821480149:=True
def tw8505617935274129621:=True
def tw8712287621272985845:=True
def tw7081405766192524693:=True
def tw11237070029665264469:=True
def tw11364809804467507061:=True
def tw4037526171811481525:=True
def tw10817775561856883637:=True
def tw11329882075289258038:=True
def tw12114831494818724118:=True
def tw6214940081835465014:=True
def tw16980283447184673142:=True
def tw17204716290351270422:=True
def tw2271641816727687862:=True
def tw3862360281937669143:=True
def tw1442598663606743511:=True
def tw8547040280319858327:=True
def tw13561744740883486423:=True
def tw4830949214656495864:=True
def tw15006516392258180408:=True
def tw9037488418202675960:=True
def tw12831084077587665848:=True
def tw2393292746498021593:=True
def tw17531349805739146489:=True
def tw14284524205759981849:=True
def tw12407043116131090873:=True
def tw15450803814248710713:=True
def tw11620448697631036249:=True
def tw8872739578782018682:=True
def tw15548049400387233050:=True
def tw5024204772137535002:=True
def tw13688813657833999962:=True
def tw11025950279700594426:=True
def tw13080726269939172282:=True
def tw9120589345760635963:=True
def tw15250843381774832731:=True
def tw10292332807382047931:=True
def tw2061513578453116315:=True
def tw15276654807835475355:=True
def tw14179704326989977756:=True
def tw58609912980002012:=True
def tw7519000347058348668:=True
def tw11960608436857899644:=True
def tw4874471921241633468:=True
def tw4701969170827207709:=True
def tw15073626952782697597:=True
def tw10203108028908810365:=True
def tw1211211488433222269:=True
def tw8710550044818569917:=True
def tw371331067773779677:=True
def tw323886589523682879:=True
def tw2197277114779360831:=True
def tw12576129636941463167:=True
def tw7627624622031229663:=True
def tw5324182871995921247:=True
end Jf.head
set_option Elab.async true
set_option maxHeartbeats 0 in
theorem Jf.head : PySem.Challenge.rw_jf0031_01.Holds := by
  w_on; o_law; o_head Jf.hook; (case hw => w_witness2)
  exact Jf.Internal.law_end rfl
set_option Elab.async false
theorem PySem.Challenge.cw_jf0031_01_holds : PySem.Challenge.rw_jf0031_01.Holds :=
  Jf.head
