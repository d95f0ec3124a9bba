import PyProof.Rows.All
import Wide.All
import OpenK.AllK
import Wide.FinOn
import KE.KSuperObj
import PyProof.ListNew
import PyProof.CollectWalk
import PyProof.SetKind
import PyProof.SetNew
import PyProof.DictStraight
import PyProof.Rows.SetFrom
import PyProof.Rows.SortShell
import PyProof.DictIter
import PyProof.DictRoads
import PyProof.AutoIntOps
import PyProof.Rows.EqBoolInt
import PyProof.SumWalkG
import PyProof.Walks
import PyProof.Rows.RuleN_abs
import PyProof.DictCompW
import PyProof.CompUse
import PyProof.NeKinds
import KE.KItemsList
import PyProof.IsRules
import PyProof.DictValues
import PyProof.DictWalks
import KE.KSortAsk
import Lean
import PySem.Challenge.RW_io0007_01
set_option autoImplicit false
set_option maxRecDepth 100000
set_option Elab.async false
set_option linter.all false
set_option tactic.hygienic false
set_option maxHeartbeats 0
namespace Mine
open PySem PySem.W PySem.W.X PyProof.Rows PySem.Calls Builtin
noncomputable abbrev P0 := PySem.Challenge.rw_io0007_01.prog
noncomputable def isCls (n : Str) : Stmt → Bool
 | .ClassDef m _ _ _ _ _ _ _ _ _ _ => m == n
 | _ => false
noncomputable def clsS (n : Str) : Stmt := (P0.main.body.find? (isCls n)).getD (.Pass default)
noncomputable def clsBody : Stmt → List Stmt
 | .ClassDef _ _ _ b _ _ _ _ _ _ _ => b
 | _ => []
noncomputable def ja2 : Stmt → List Stmt
 | .FunctionDef _ _ b _ _ _ _ _ _ _ => b
 | _ => []
noncomputable def jas : Stmt → Scope
 | .FunctionDef _ _ _ _ _ _ s _ _ _ => s
 | _ => default
noncomputable def jck : Stmt → Arguments
 | .FunctionDef _ a _ _ _ _ _ _ _ _ => a
 | _ => ⟨[], [], none, [], [], none, []⟩
noncomputable def isFn (n : Str) : Stmt → Bool
 | .FunctionDef m _ _ _ _ _ _ _ _ _ => m == n
 | _ => false
noncomputable def metS (c n : Str) : Stmt := ((clsBody (clsS c)).find? (isFn n)).getD (.Pass default)
noncomputable abbrev ctrS (n : Str) : Stmt := metS "Counter" n
noncomputable def lawS (n : Str) : Stmt := (P0.main.body.find? (isFn n)).getD (.Pass default)
noncomputable abbrev kR (a : Addr) : Value := .ref a
noncomputable abbrev kT (s : Str) (k : Nat) : Value := .str s k
noncomputable abbrev kI (z : Int) (k : Nat) : Value := .int z k
noncomputable abbrev kB (x : String) : Value := .builtin x
noncomputable abbrev kE (s : Str) (k : Nat) (v : Value) : Str × Nat × Value := (s, k, v)
noncomputable def dE (P : Params) (l : List (Str × Nat × Value)) : Array DictEntry := (l.map fun x => (⟨PyData.keyHash P x.1, .str x.1 x.2.1, x.2.2⟩ : DictEntry)).toArray
noncomputable def fD (s : Stmt) (n q : Str) (g : Addr) (cl : List (Str × Addr)) (d kd m c ct : Value) : FuncData :=
 { name := n, qualname := q, params := jck s, body := .stmts (ja2 s), scope := jas s, globals := g, closure := cl, defaults := d, kwdefaults := kd, pyModule := m, code := c, closureTuple := ct }
noncomputable def es0 (P : Params) : Array DictEntry := dE P [kE "__name__" 1 (kT "builtins" 160), kE "__doc__" 2 (kB "builtins.__doc__:str#opaque"), kE "__package__" 3 (kB "builtins.__package__:str#opaque"), kE "__loader__" 4 (kB "builtins.__loader__:shared#opaque"), kE "__spec__" 5 (kB "builtins.__spec__#opaque"), kE "__build_class__" 6 (kB "__build_class__"), kE "__import__" 7 (kB "__import__"), kE "abs" 8 (kB "abs"), kE "all" 9 (kB "all"), kE "any" 10 (kB "any"), kE "ascii" 11 (kB "ascii"), kE "bin" 12 (kB "bin"), kE "breakpoint" 13 (kB "breakpoint"), kE "callable" 14 (kB "callable"), kE "chr" 15 (kB "chr"), kE "compile" 16 (kB "compile"), kE "delattr" 17 (kB "delattr"), kE "dir" 18 (kB "dir"), kE "divmod" 19 (kB "divmod"), kE "eval" 20 (kB "eval"), kE "exec" 21 (kB "exec"), kE "format" 22 (kB "format"), kE "getattr" 23 (kB "getattr"), kE "globals" 24 (kB "globals"), kE "hasattr" 25 (kB "hasattr"), kE "hash" 26 (kB "hash"), kE "hex" 27 (kB "hex"), kE "id" 28 (kB "id"), kE "input" 29 (kB "input"), kE "isinstance" 30 (kB "isinstance"), kE "issubclass" 31 (kB "issubclass"), kE "iter" 32 (kB "iter"), kE "aiter" 33 (kB "aiter"), kE "len" 34 (kB "len"), kE "locals" 35 (kB "locals"), kE "max" 36 (kB "max"), kE "min" 37 (kB "min"), kE "next" 38 (kB "next"), kE "anext" 39 (kB "anext"), kE "oct" 40 (kB "oct"), kE "ord" 41 (kB "ord"), kE "pow" 42 (kB "pow"), kE "print" 43 (kB "print"), kE "repr" 44 (kB "repr"), kE "round" 45 (kB "round"), kE "setattr" 46 (kB "setattr"), kE "sorted" 47 (kB "sorted"), kE "sum" 48 (kB "sum"), kE "vars" 49 (kB "vars"), kE "None" 50 (.none), kE "Ellipsis" 51 (.ellipsis), kE "NotImplemented" 52 (.notImplemented), kE "False" 53 (.bool false), kE "True" 54 (.bool true), kE "bool" 55 (.type "bool"), kE "memoryview" 56 (.type "memoryview"), kE "bytearray" 57 (.type "bytearray"), kE "bytes" 58 (.type "bytes"), kE "classmethod" 59 (.type "classmethod"), kE "complex" 60 (.type "complex"), kE "dict" 61 (.type "dict"), kE "enumerate" 62 (.type "enumerate"), kE "filter" 63 (.type "filter"), kE "float" 64 (.type "float"), kE "frozenset" 65 (.type "frozenset"), kE "property" 66 (.type "property"), kE "int" 67 (.type "int"), kE "list" 68 (.type "list"), kE "map" 69 (.type "map"), kE "object" 70 (.type "object"), kE "range" 71 (.type "range"), kE "reversed" 72 (.type "reversed"), kE "set" 73 (.type "set"), kE "slice" 74 (.type "slice"), kE "staticmethod" 75 (.type "staticmethod"), kE "str" 76 (.type "str"), kE "super" 77 (.type "super"), kE "tuple" 78 (.type "tuple"), kE "type" 79 (.type "type"), kE "zip" 80 (.type "zip"), kE "__debug__" 81 (.bool true), kE "BaseException" 82 (.type "BaseException"), kE "BaseExceptionGroup" 83 (.type "BaseExceptionGroup"), kE "Exception" 84 (.type "Exception"), kE "GeneratorExit" 85 (.type "GeneratorExit"), kE "KeyboardInterrupt" 86 (.type "KeyboardInterrupt"), kE "SystemExit" 87 (.type "SystemExit"), kE "ArithmeticError" 88 (.type "ArithmeticError"), kE "AssertionError" 89 (.type "AssertionError"), kE "AttributeError" 90 (.type "AttributeError"), kE "BufferError" 91 (.type "BufferError"), kE "EOFError" 92 (.type "EOFError"), kE "ImportError" 93 (.type "ImportError"), kE "LookupError" 94 (.type "LookupError"), kE "MemoryError" 95 (.type "MemoryError"), kE "NameError" 96 (.type "NameError"), kE "OSError" 97 (.type "OSError"), kE "ReferenceError" 98 (.type "ReferenceError"), kE "RuntimeError" 99 (.type "RuntimeError"), kE "StopAsyncIteration" 100 (.type "StopAsyncIteration"), kE "StopIteration" 101 (.type "StopIteration"), kE "SyntaxError" 102 (.type "SyntaxError"), kE "SystemError" 103 (.type "SystemError"), kE "TypeError" 104 (.type "TypeError"), kE "ValueError" 105 (.type "ValueError"), kE "Warning" 106 (.type "Warning"), kE "FloatingPointError" 107 (.type "FloatingPointError"), kE "OverflowError" 108 (.type "OverflowError"), kE "ZeroDivisionError" 109 (.type "ZeroDivisionError"), kE "BytesWarning" 110 (.type "BytesWarning"), kE "DeprecationWarning" 111 (.type "DeprecationWarning"), kE "EncodingWarning" 112 (.type "EncodingWarning"), kE "FutureWarning" 113 (.type "FutureWarning"), kE "ImportWarning" 114 (.type "ImportWarning"), kE "PendingDeprecationWarning" 115 (.type "PendingDeprecationWarning"), kE "ResourceWarning" 116 (.type "ResourceWarning"), kE "RuntimeWarning" 117 (.type "RuntimeWarning"), kE "SyntaxWarning" 118 (.type "SyntaxWarning"), kE "UnicodeWarning" 119 (.type "UnicodeWarning"), kE "UserWarning" 120 (.type "UserWarning"), kE "BlockingIOError" 121 (.type "BlockingIOError"), kE "ChildProcessError" 122 (.type "ChildProcessError"), kE "ConnectionError" 123 (.type "ConnectionError"), kE "FileExistsError" 124 (.type "FileExistsError"), kE "FileNotFoundError" 125 (.type "FileNotFoundError"), kE "InterruptedError" 126 (.type "InterruptedError"), kE "IsADirectoryError" 127 (.type "IsADirectoryError"), kE "NotADirectoryError" 128 (.type "NotADirectoryError"), kE "PermissionError" 129 (.type "PermissionError"), kE "ProcessLookupError" 130 (.type "ProcessLookupError"), kE "TimeoutError" 131 (.type "TimeoutError"), kE "IndentationError" 132 (.type "IndentationError"), kE "_IncompleteInputError" 133 (.type "_IncompleteInputError"), kE "IndexError" 134 (.type "IndexError"), kE "KeyError" 135 (.type "KeyError"), kE "ModuleNotFoundError" 136 (.type "ModuleNotFoundError"), kE "NotImplementedError" 137 (.type "NotImplementedError"), kE "PythonFinalizationError" 138 (.type "PythonFinalizationError"), kE "RecursionError" 139 (.type "RecursionError"), kE "UnboundLocalError" 140 (.type "UnboundLocalError"), kE "UnicodeError" 141 (.type "UnicodeError"), kE "BrokenPipeError" 142 (.type "BrokenPipeError"), kE "ConnectionAbortedError" 143 (.type "ConnectionAbortedError"), kE "ConnectionRefusedError" 144 (.type "ConnectionRefusedError"), kE "ConnectionResetError" 145 (.type "ConnectionResetError"), kE "TabError" 146 (.type "TabError"), kE "UnicodeDecodeError" 147 (.type "UnicodeDecodeError"), kE "UnicodeEncodeError" 148 (.type "UnicodeEncodeError"), kE "UnicodeTranslateError" 149 (.type "UnicodeTranslateError"), kE "ExceptionGroup" 150 (.type "ExceptionGroup"), kE "EnvironmentError" 151 (.type "OSError"), kE "IOError" 152 (.type "OSError"), kE "open" 153 (kB "open"), kE "quit" 154 (kB "builtins.quit#opaque"), kE "exit" 155 (kB "builtins.exit#opaque"), kE "copyright" 156 (kB "builtins.copyright#opaque"), kE "credits" 157 (kB "builtins.credits#opaque"), kE "license" 158 (kB "builtins.license#opaque"), kE "help" 159 (kB "builtins.help#opaque")]
noncomputable def es1 (P : Params) : Array DictEntry := dE P [kE "builtins" 162 (kR 4), kE "__main__" 163 (kR 5), kE "_collections" 246 (kR 13), kE "_heapq" 349 (kR 31)]
noncomputable def es2 (P : Params) : Array DictEntry := dE P [kE "\x69mport.loaded._collections" 185 (.bool true), kE "class._frozen_importlib.BuiltinImporter" 187 (kR 15), kE "watched.\x69mport" 208 (kR 19), kE "class._frozen_importlib.ModuleSpec" 218 (kR 23), kE "sys.modules.booked-epoch" 247 (kI 4 0), kE "sys.modules.landed._collections" 248 (.bool true), kE "\x69mport.later-laid._collections" 263 (.bool true), kE "watched.library" 265 (kR 28), kE "watched.library-objects" 0 (kT "\x0d\x1f" 0), kE "watched.library-deep._collections" 266 (kT "\x04\x00\x00\x0c\x04\x00\x00\x0c\x04\x00\x00\x03\x04\x00\x00\x0c\x08\x04dict\x02" 0), kE "\x69mport.loaded._heapq" 278 (.bool true), kE "class._frozen_importlib_external._LoaderBasics" 283 (kR 34), kE "class._frozen_importlib_external.FileLoader" 299 (kR 39), kE "class._frozen_importlib_external.ExtensionFileLoader" 320 (kR 44), kE "\x69mport.later-laid._heapq" 368 (.bool true)]
noncomputable def es3 (P : Params) : Array DictEntry := dE P [kE "__name__" 165 (kT "law_io0007_01" 1763), kE "__doc__" 166 (.none), kE "__package__" 167 (.none), kE "__loader__" 168 (kB "__main__.__loader__#opaque"), kE "__spec__" 169 (.none), kE "__annotations__" 170 (kR 6), kE "__builtins__" 171 (kR 4), kE "__file__" 173 (kT "/claim/cut.py" 172), kE "__cached__" 174 (.none), kE "deque" 272 (.type "collections.deque"), kE "heapify" 375 (kB "_heapq.heapify"), kE "heapreplace" 378 (kB "_heapq.heapreplace"), kE "_wall" 391 (kR 60), kE "_count_elements" 403 (kR 67), kE "ABCMeta" 429 (kR 84), kE "_ABCLike" 472 (kR 117), kE "_abc_plain_meta" 479 (kR 126), kE "_abc_has_iter" 486 (kR 133), kE "_abc_has_len" 493 (kR 140), kE "_abc_has_contains" 500 (kR 147), kE "_abc_is_mappingproxy" 507 (kR 154), kE "_abc_is_builtin_collection" 514 (kR 161), kE "Iterable" 555 (kR 194), kE "Sized" 592 (kR 224), kE "Container" 639 (kR 260), kE "Collection" 669 (kR 283), kE "Set" 826 (kR 399), kE "Mapping" 914 (kR 471), kE "MappingView" 982 (kR 521), kE "KeysView" 1042 (kR 568), kE "ItemsView" 1106 (kR 613), kE "ValuesView" 1149 (kR 648), kE "nlargest" 1157 (kR 656), kE "_is_int" 1167 (kR 663), kE "_whole" 1176 (kR 670), kE "_pull" 1183 (kR 677), kE "_NotGiven" 1203 (kR 687), kE "chain" 1278 (kR 734), kE "repeat" 1342 (kR 786), kE "starmap" 1391 (kR 823), kE "itemgetter" 1449 (kR 867), kE "Counter" 1762 (kR 1093), kE "_law_pairs" 1779 (kR 1104), kE "_law_due" 1785 (kR 1109), kE "law" 1791 (kR 1114)]
noncomputable def es83 (P : Params) : Array DictEntry := dE P [kE "__module__" 413 (kT "abc" 404), kE "__firstlineno__" 417 (kI 12 416), kE "register" 425 (kR 81), kE "__static_attributes__" 426 (kR 82), kE "__doc__" 427 (.none)]
noncomputable def fd100 : FuncData := fD (metS "_ABCLike" "__instancecheck__") "__instancecheck__" "_ABCLike.__instancecheck__" 3 [] (.none) (.none) (kT "collections.abc" 430) (kR 99) (.none)
noncomputable def es116 (P : Params) : Array DictEntry := dE P [kE "__module__" 439 (kT "collections.abc" 430), kE "__firstlineno__" 443 (kI 17 442), kE "__instancecheck__" 452 (kR 100), kE "__subclasscheck__" 460 (kR 107), kE "register" 468 (kR 114), kE "__static_attributes__" 469 (kR 115), kE "__doc__" 470 (.none)]
noncomputable def fd467 : FuncData := fD (metS "Mapping" "_abc_kind") "_abc_kind" "Mapping._abc_kind" 3 [] (.none) (.none) (kT "collections.abc" 430) (kR 466) (.none)
noncomputable def es470 (P : Params) : Array DictEntry := dE P [kE "__module__" 841 (kT "collections.abc" 430), kE "__firstlineno__" 845 (kI 191 844), kE "__slots__" 846 (kR 410), kE "__getitem__" 854 (kR 417), kE "get" 863 (kR 425), kE "__contains__" 871 (kR 432), kE "keys" 878 (kR 439), kE "items" 885 (kR 446), kE "values" 892 (kR 453), kE "__eq__" 900 (kR 460), kE "__reversed__" 901 (.none), kE "_abc_kind" 909 (kR 467), kE "__static_attributes__" 910 (kR 468), kE "__doc__" 911 (.none), kE "__hash__" 912 (.none), kE "__abstractmethods__" 921 (kR 474)]
noncomputable def fd887 : FuncData := fD (metS "Counter" "__init__") "__init__" "Counter.__init__" 3 [("__class__", 874)] (kR 879) (.none) (kT "cpy313.collections" 1450) (kR 886) (kR 880)
noncomputable def fd894 : FuncData := fD (metS "Counter" "__missing__") "__missing__" "Counter.__missing__" 3 [] (.none) (.none) (kT "cpy313.collections" 1450) (kR 893) (.none)
noncomputable def fd936 : FuncData := fD (metS "Counter" "update") "update" "Counter.update" 3 [("__class__", 874)] (kR 928) (.none) (kT "cpy313.collections" 1450) (kR 935) (kR 929)
noncomputable def fd980 : FuncData := fD (metS "Counter" "__eq__") "__eq__" "Counter.__eq__" 3 [] (.none) (.none) (kT "cpy313.collections" 1450) (kR 979) (.none)
noncomputable def fd994 : FuncData := fD (metS "Counter" "__le__") "__le__" "Counter.__le__" 3 [] (.none) (.none) (kT "cpy313.collections" 1450) (kR 993) (.none)
noncomputable def fd1036 : FuncData := fD (metS "Counter" "__or__") "__or__" "Counter.__or__" 3 [] (.none) (.none) (kT "cpy313.collections" 1450) (kR 1035) (.none)
noncomputable def fd1043 : FuncData := fD (metS "Counter" "__and__") "__and__" "Counter.__and__" 3 [] (.none) (.none) (kT "cpy313.collections" 1450) (kR 1042) (.none)
noncomputable def es1092 (P : Params) : Array DictEntry := dE P [kE "__module__" 1459 (kT "cpy313.collections" 1450), kE "__firstlineno__" 1463 (kI 505 1462), kE "__init__" 1473 (kR 887), kE "__missing__" 1481 (kR 894), kE "total" 1488 (kR 901), kE "most_common" 1496 (kR 909), kE "elements" 1503 (kR 916), kE "fromkeys" 1524 (kR 926), kE "update" 1537 (kR 936), kE "subtract" 1549 (kR 944), kE "copy" 1556 (kR 951), kE "__reduce__" 1563 (kR 958), kE "__delitem__" 1572 (kR 966), kE "__repr__" 1580 (kR 973), kE "__eq__" 1590 (kR 980), kE "__ne__" 1598 (kR 987), kE "__le__" 1608 (kR 994), kE "__lt__" 1616 (kR 1001), kE "__ge__" 1626 (kR 1008), kE "__gt__" 1634 (kR 1015), kE "__add__" 1646 (kR 1022), kE "__sub__" 1658 (kR 1029), kE "__or__" 1671 (kR 1036), kE "__and__" 1684 (kR 1043), kE "__pos__" 1694 (kR 1050), kE "__neg__" 1704 (kR 1057), kE "_keep_positive" 1710 (kR 1062), kE "__iadd__" 1720 (kR 1069), kE "__isub__" 1730 (kR 1076), kE "__ior__" 1741 (kR 1083), kE "__iand__" 1752 (kR 1090), kE "__static_attributes__" 1753 (kR 1091), kE "__dict__" 1756 (kR 1094), kE "__weakref__" 1758 (kR 1095), kE "__doc__" 1759 (.none), kE "__hash__" 1760 (.none)]
noncomputable def fd1104 : FuncData := fD (lawS "_law_pairs") "_law_pairs" "_law_pairs" 3 [] (.none) (.none) (kT "law_io0007_01" 1763) (kR 1103) (.none)
noncomputable def fd1109 : FuncData := fD (lawS "_law_due") "_law_due" "_law_due" 3 [] (.none) (.none) (kT "law_io0007_01" 1763) (kR 1108) (.none)
noncomputable def fd1114 : FuncData := fD (lawS "law") "law" "law" 3 [] (.none) (.none) (kT "law_io0007_01" 1763) (kR 1113) (.none)
noncomputable def KH (P : Params) : Frag := [
 (0, ⟨.type "dict", none, .dict (es0 P) 159, #[]⟩),
 (1, ⟨.type "dict", none, .dict (es1 P) 4, #[]⟩),
 (2, ⟨.none, none, .dict (es2 P) 15, #[]⟩),
 (3, ⟨.type "dict", none, .dict (es3 P) 45, #[]⟩),
 (4, { cls := .type "module", dict := some 0 }),
 (83, ⟨.type "dict", none, .dict (es83 P) 2, #[]⟩),
 (84, ⟨.type "type", none, .cls { name := "ABCMeta", bases := [.type "type"], mro := [kR 84, .type "type", .type "object"], ns := 83, qualname := "ABCMeta", subclasses := [kR 117] }, #[some (kR 68), none, some (kT "ABCMeta" 406), some (kT "ABCMeta" 414), some (kB "type.__new__"), some (.bool true)]⟩),
 (99, ⟨.type "code", none, .fields #[kT "__instancecheck__" 444, kT "_ABCLike.__instancecheck__" 445, kT "/claim/cut.py" 446, kI 19 0, kI 2 0, kI 0 0, kI 0 0, kI 3 0, kR 94, .bool true, kI 379 0, kR 95, .none, kR 96, kR 97, kR 98, kI 450 0, kI 19 0, kT "/claim/cut.py" 451], #[]⟩),
 (100, ⟨.type "function", none, .func fd100, #[]⟩),
 (116, ⟨.type "dict", none, .dict (es116 P) 2, #[]⟩),
 (117, ⟨.type "type", none, .cls { name := "_ABCLike", bases := [kR 84], mro := [kR 117, kR 84, .type "type", .type "object"], ns := 116, qualname := "_ABCLike" }, #[some (kR 87), none, some (kT "_ABCLike" 432), some (kT "_ABCLike" 440), some (kB "type.__new__"), some (.bool true)]⟩),
 (466, ⟨.type "code", none, .fields #[kT "_abc_kind" 902, kT "Mapping._abc_kind" 903, kT "/claim/cut.py" 904, kI 226 0, kI 2 0, kI 0 0, kI 0 0, kI 3 0, kR 461, .bool true, kI 379 0, kR 462, .none, kR 463, kR 464, kR 465, kI 907 0, kI 226 0, kT "/claim/cut.py" 908], #[]⟩),
 (467, ⟨.type "function", none, .func fd467, #[]⟩),
 (470, ⟨.type "dict", none, .dict (es470 P) 4, #[]⟩),
 (471, ⟨kR 117, none, .cls { name := "Mapping", bases := [kR 283], mro := [kR 471, kR 283, kR 224, kR 194, kR 260, .type "object"], ns := 470, qualname := "Mapping", hasDict := false, abstract := true }, #[some (kR 403), none, some (kT "Mapping" 834), some (kT "Mapping" 842), some (kB "object.__new__"), some (.bool false)]⟩),
 (874, ⟨.type "cell", none, .cell (some (kR 1093)), #[]⟩),
 (879, ⟨.type "tuple", none, .seq #[.none] 0, #[]⟩),
 (886, ⟨.type "code", none, .fields #[kT "__init__" 1464, kT "Counter.__init__" 1465, kT "/claim/cut.py" 1466, kI 507 0, kI 2 0, kI 2 0, kI 0 0, kI 11 0, kR 881, .bool true, kI 379 0, kR 882, .none, kR 883, kR 884, kR 885, kI 1471 0, kI 507 0, kT "/claim/cut.py" 1472], #[]⟩),
 (887, ⟨.type "function", none, .func fd887, #[]⟩),
 (893, ⟨.type "code", none, .fields #[kT "__missing__" 1474, kT "Counter.__missing__" 1475, kT "/claim/cut.py" 1476, kI 511 0, kI 2 0, kI 0 0, kI 0 0, kI 3 0, kR 888, .bool true, kI 379 0, kR 889, .none, kR 890, kR 891, kR 892, kI 1479 0, kI 511 0, kT "/claim/cut.py" 1480], #[]⟩),
 (894, ⟨.type "function", none, .func fd894, #[]⟩),
 (928, ⟨.type "tuple", none, .seq #[.none] 0, #[]⟩),
 (935, ⟨.type "code", none, .fields #[kT "update" 1525, kT "Counter.update" 1526, kT "/claim/cut.py" 1527, kI 530 0, kI 2 0, kI 2 0, kI 0 0, kI 11 0, kR 930, .bool true, kI 379 0, kR 931, .none, kR 932, kR 933, kR 934, kI 1535 0, kI 530 0, kT "/claim/cut.py" 1536], #[]⟩),
 (936, ⟨.type "function", none, .func fd936, #[]⟩),
 (979, ⟨.type "code", none, .fields #[kT "__eq__" 1581, kT "Counter.__eq__" 1582, kT "/claim/cut.py" 1583, kI 575 0, kI 2 0, kI 0 0, kI 0 0, kI 3 0, kR 974, .bool true, kI 379 0, kR 975, .none, kR 976, kR 977, kR 978, kI 1588 0, kI 575 0, kT "/claim/cut.py" 1589], #[]⟩),
 (980, ⟨.type "function", none, .func fd980, #[]⟩),
 (993, ⟨.type "code", none, .fields #[kT "__le__" 1599, kT "Counter.__le__" 1600, kT "/claim/cut.py" 1601, kI 585 0, kI 2 0, kI 0 0, kI 0 0, kI 3 0, kR 988, .bool true, kI 379 0, kR 989, .none, kR 990, kR 991, kR 992, kI 1606 0, kI 585 0, kT "/claim/cut.py" 1607], #[]⟩),
 (994, ⟨.type "function", none, .func fd994, #[]⟩),
 (1035, ⟨.type "code", none, .fields #[kT "__or__" 1659, kT "Counter.__or__" 1660, kT "/claim/cut.py" 1661, kI 631 0, kI 2 0, kI 0 0, kI 0 0, kI 3 0, kR 1030, .bool true, kI 379 0, kR 1031, .none, kR 1032, kR 1033, kR 1034, kI 1669 0, kI 631 0, kT "/claim/cut.py" 1670], #[]⟩),
 (1036, ⟨.type "function", none, .func fd1036, #[]⟩),
 (1042, ⟨.type "code", none, .fields #[kT "__and__" 1672, kT "Counter.__and__" 1673, kT "/claim/cut.py" 1674, kI 645 0, kI 2 0, kI 0 0, kI 0 0, kI 3 0, kR 1037, .bool true, kI 379 0, kR 1038, .none, kR 1039, kR 1040, kR 1041, kI 1682 0, kI 645 0, kT "/claim/cut.py" 1683], #[]⟩),
 (1043, ⟨.type "function", none, .func fd1043, #[]⟩),
 (1092, ⟨.type "dict", none, .dict (es1092 P) 6, #[]⟩),
 (1093, ⟨.type "type", none, .cls { name := "Counter", bases := [.type "dict"], mro := [kR 1093, .type "dict", .type "object"], ns := 1092, qualname := "Counter" }, #[some (kR 871), none, some (kT "Counter" 1452), some (kT "Counter" 1460), some (kB "dict.__new__"), some (.bool true)]⟩),
 (1103, ⟨.type "code", none, .fields #[kT "_law_pairs" 1765, kT "_law_pairs" 1766, kT "/claim/cut.py" 1767, kI 700 0, kI 3 0, kI 0 0, kI 0 0, kI 3 0, kR 1098, .bool true, kI 379 0, kR 1099, .none, kR 1100, kR 1101, kR 1102, kI 1777 0, kI 700 0, kT "/claim/cut.py" 1778], #[]⟩),
 (1104, ⟨.type "function", none, .func fd1104, #[]⟩),
 (1108, ⟨.type "code", none, .fields #[kT "_law_due" 1780, kT "_law_due" 1781, kT "/claim/cut.py" 1782, kI 713 0, kI 1 0, kI 0 0, kI 0 0, kI 3 0, kR 1105, .bool true, kI 379 0, kR 1106, .none, .none, .none, kR 1107, kI 1783 0, kI 713 0, kT "/claim/cut.py" 1784], #[]⟩),
 (1109, ⟨.type "function", none, .func fd1109, #[]⟩),
 (1113, ⟨.type "code", none, .fields #[kT "law" 1786, kT "law" 1787, kT "/claim/cut.py" 1788, kI 724 0, kI 1 0, kI 0 0, kI 0 0, kI 3 0, kR 1110, .bool true, kI 379 0, kR 1111, .none, .none, .none, kR 1112, kI 1789 0, kI 724 0, kT "/claim/cut.py" 1790], #[]⟩),
 (1114, ⟨.type "function", none, .func fd1114, #[]⟩)]
theorem kf0 {P : Params} {h : Heap} (X : (KH P).In h) : h.get? (nat_lit 0) = some ⟨.type "dict", none, .dict (es0 P) 159, #[]⟩ := X 0 _ rfl
theorem kf2 {P : Params} {h : Heap} (X : (KH P).In h) : h.get? (nat_lit 2) = some ⟨.none, none, .dict (es2 P) 15, #[]⟩ := X 2 _ rfl
theorem kf3 {P : Params} {h : Heap} (X : (KH P).In h) : h.get? (nat_lit 3) = some ⟨.type "dict", none, .dict (es3 P) 45, #[]⟩ := X 3 _ rfl
theorem kf83 {P : Params} {h : Heap} (X : (KH P).In h) : h.get? (nat_lit 83) = some ⟨.type "dict", none, .dict (es83 P) 2, #[]⟩ := X 83 _ rfl
theorem kf84 {P : Params} {h : Heap} (X : (KH P).In h) : h.get? (nat_lit 84) = some ⟨.type "type", none, .cls { name := "ABCMeta", bases := [.type "type"], mro := [kR 84, .type "type", .type "object"], ns := 83, qualname := "ABCMeta", subclasses := [kR 117] }, #[some (kR 68), none, some (kT "ABCMeta" 406), some (kT "ABCMeta" 414), some (kB "type.__new__"), some (.bool true)]⟩ := X 84 _ rfl
theorem kf99 {P : Params} {h : Heap} (X : (KH P).In h) : h.get? (nat_lit 99) = some ⟨.type "code", none, .fields #[kT "__instancecheck__" 444, kT "_ABCLike.__instancecheck__" 445, kT "/claim/cut.py" 446, kI 19 0, kI 2 0, kI 0 0, kI 0 0, kI 3 0, kR 94, .bool true, kI 379 0, kR 95, .none, kR 96, kR 97, kR 98, kI 450 0, kI 19 0, kT "/claim/cut.py" 451], #[]⟩ := X 99 _ rfl
theorem jbJ {P : Params} {h : Heap} (X : (KH P).In h) : h.get? (nat_lit 100) = some ⟨.type "function", none, .func fd100, #[]⟩ := X 100 _ rfl
theorem jbI {P : Params} {h : Heap} (X : (KH P).In h) : h.get? (nat_lit 116) = some ⟨.type "dict", none, .dict (es116 P) 2, #[]⟩ := X 116 _ rfl
theorem jbH {P : Params} {h : Heap} (X : (KH P).In h) : h.get? (nat_lit 117) = some ⟨.type "type", none, .cls { name := "_ABCLike", bases := [kR 84], mro := [kR 117, kR 84, .type "type", .type "object"], ns := 116, qualname := "_ABCLike" }, #[some (kR 87), none, some (kT "_ABCLike" 432), some (kT "_ABCLike" 440), some (kB "type.__new__"), some (.bool true)]⟩ := X 117 _ rfl
theorem jbG {P : Params} {h : Heap} (X : (KH P).In h) : h.get? (nat_lit 466) = some ⟨.type "code", none, .fields #[kT "_abc_kind" 902, kT "Mapping._abc_kind" 903, kT "/claim/cut.py" 904, kI 226 0, kI 2 0, kI 0 0, kI 0 0, kI 3 0, kR 461, .bool true, kI 379 0, kR 462, .none, kR 463, kR 464, kR 465, kI 907 0, kI 226 0, kT "/claim/cut.py" 908], #[]⟩ := X 466 _ rfl
theorem jb0 {P : Params} {h : Heap} (X : (KH P).In h) : h.get? (nat_lit 467) = some ⟨.type "function", none, .func fd467, #[]⟩ := X 467 _ rfl
theorem jbF {P : Params} {h : Heap} (X : (KH P).In h) : h.get? (nat_lit 470) = some ⟨.type "dict", none, .dict (es470 P) 4, #[]⟩ := X 470 _ rfl
theorem jbE {P : Params} {h : Heap} (X : (KH P).In h) : h.get? (nat_lit 471) = some ⟨kR 117, none, .cls { name := "Mapping", bases := [kR 283], mro := [kR 471, kR 283, kR 224, kR 194, kR 260, .type "object"], ns := 470, qualname := "Mapping", hasDict := false, abstract := true }, #[some (kR 403), none, some (kT "Mapping" 834), some (kT "Mapping" 842), some (kB "object.__new__"), some (.bool false)]⟩ := X 471 _ rfl
theorem jbO {P : Params} {h : Heap} (X : (KH P).In h) : h.get? (nat_lit 893) = some ⟨.type "code", none, .fields #[kT "__missing__" 1474, kT "Counter.__missing__" 1475, kT "/claim/cut.py" 1476, kI 511 0, kI 2 0, kI 0 0, kI 0 0, kI 3 0, kR 888, .bool true, kI 379 0, kR 889, .none, kR 890, kR 891, kR 892, kI 1479 0, kI 511 0, kT "/claim/cut.py" 1480], #[]⟩ := X 893 _ rfl
theorem jbN {P : Params} {h : Heap} (X : (KH P).In h) : h.get? (nat_lit 894) = some ⟨.type "function", none, .func fd894, #[]⟩ := X 894 _ rfl
theorem jbf {P : Params} {h : Heap} (X : (KH P).In h) : h.get? (nat_lit 1092) = some ⟨.type "dict", none, .dict (es1092 P) 6, #[]⟩ := X 1092 _ rfl
theorem jbe {P : Params} {h : Heap} (X : (KH P).In h) : h.get? (nat_lit 1093) = some ⟨.type "type", none, .cls { name := "Counter", bases := [.type "dict"], mro := [kR 1093, .type "dict", .type "object"], ns := 1092, qualname := "Counter" }, #[some (kR 871), none, some (kT "Counter" 1452), some (kT "Counter" 1460), some (kB "dict.__new__"), some (.bool true)]⟩ := X 1093 _ rfl
noncomputable def hRun (tb : String → Option Builtin) (p : Program) (w : World) (n₀ : Nat) (ann : Option Value) : Nat → SharedT → Thread → Option SharedT
 | 0, _, _ => none
 | n + 1, s, t => cond (through t) (some s) (cond (PySem.W.Fast.tw6613529449190102663 n₀ ann t) ((PySem.W.Fast.tw10156331382660048174 (PySem.W.Fast.tw11892475500146522536 tb) p w s t).bind fun r => hRun tb p w n₀ ann n r.1 r.2) none)
theorem cnd {α : Type} {b : Bool} {x : Option α} {y : α} (h : cond b x none = some y) : b = true ∧ x = some y := by
 cases b
 ·exact absurd h.symm (Option.some_ne_none y)
 ·exact ⟨rfl, h⟩
theorem hRun_of {tb : String → Option Builtin} {p : Program} {w : World} {n₀ : Nat} {ann : Option Value} : ∀ {n : Nat} {s s' : SharedT} {t : Thread}, hRun tb p w n₀ ann n s t = some s' → topRun tb p w n₀ ann n s.abs t = some s'.abs := by
 intro n
 induction n with
 | zero => exact fun h => absurd h.symm (Option.some_ne_none _)
 | succ n ih =>
  intro s s' t h
  unfold hRun at h
  unfold topRun
  cases he : through t with
  | true => rw [he] at h; exact congrArg _ (congrArg _ (Option.some.inj h))
  | false =>
   rw [he] at h
   obtain ⟨hk, h⟩ := cnd h
   obtain ⟨r, hs, h⟩ := Option.bind_eq_some_iff.mp h
   rw [← PySem.W.Fast.te6613529449190102663] at hk
   rw [← PySem.W.Fast.te10156331382660048174, ← PySem.W.Fast.te11892475500146522536] at hs
   dsimp only
   rw [hk, stepT_spec hs]; exact ih h
noncomputable def toT : List Obj → BT → Nat → Option BT
 | [], t, _ => some t
 | o :: os, t, n => match ((t.ins n o).get n).isSome with
  | true => toT os (t.ins n o) (n + 1)
  | false => none
theorem toT_abs {life : Life} : ∀ {os : List Obj} {t t' : BT} {n : Nat}, toT os t n = some t' → (absHeap t' (n + os.length) life).objs = (absHeap t n life).objs ++ os.toArray := by
 intro os
 induction os with
 | nil =>
  rintro t t' n h
  cases h; simp
 | cons o os ih =>
  rintro t t' n h
  unfold toT at h
  cases hs : ((t.ins n o).get n).isSome with
  | false => rw [hs] at h; cases h
  | true =>
   rw [hs] at h
   have ih := ih h
   rw [absHeap_ins hs] at ih
   rw [show n + (o :: os).length = n + 1 + os.length by simp; exact (Nat.succ_add _ _).symm, ih]
   apply Array.ext'
   show ((absHeap t n life).objs.push o ++ os.toArray).toList = _
   simp
noncomputable def toS (s : Shared) : Option SharedT := match toT s.heap.objs.toList .nil 0 with
 | some T => some ⟨T, s.heap.objs.size, s.heap.life, s.gens, s.drawn, s.toks, s.os⟩
 | none => none
theorem toS_abs {s : Shared} {st : SharedT} (h : toS s = some st) : st.abs = s := by
 unfold toS at h
 cases ht : toT s.heap.objs.toList .nil 0 with
 | none => rw [ht] at h; cases h
 | some T =>
  rw [ht] at h
  cases h
  have := toT_abs (life := s.heap.life) ht
  obtain ⟨⟨objs, life⟩, gens, drawn, toks, os⟩ := s
  show (⟨absHeap T objs.size life, gens, drawn, toks, os⟩ : Shared) = _
  have e : absHeap T objs.size life = ⟨objs, life⟩ := by
   have e2 : (absHeap T objs.size life).objs = objs := by
    have h3 : 0 + objs.toList.length = objs.size := by simp
    rw [h3] at this
    rw [this]
    apply Array.ext'
    simp [absHeap, BT.list]
   show Heap.mk _ _ = _
   exact congrArg (Heap.mk · life) e2
  rw [e]
noncomputable def hAll (p : Program) (w : World) (N : Nat) : Option SharedT :=
 (PySem.W.Fast.tw10274390034422433532 PySem.W.Fast.tw14364793385576792824 (opening p) w N (PySem.W.Fast.tw1435165496053646825 (opening p)).1 (PySem.W.Fast.tw1435165496053646825 (opening p)).2).bind fun s =>
 (PySem.W.Fast.tw14289696077712309145 p s).bind fun s₀ => cond (s₀.heap.isNs mainGlobals && s₀.gens.size == 0) ((toS s₀).bind fun s1 =>
 (hRun PySem.W.Fast.tw14364793385576792824 p w s₀.heap.objs.size (s₀.heap.nsMap mainGlobals "__annotations__") N s1 (topStub p)).bind fun st =>
 cond (staticsOk (importedModules p.main.body) s₀.heap st.abs.heap && namesBound p st.abs.heap && gensDone st.abs && laidKept s₀.heap st.abs.heap) (some st) none) none
theorem hAll_of {p : Program} {w : World} {N : Nat} {st : SharedT} (h : hAll p w N = some st) : openEnds treeTable p w N = some st.abs := by
 obtain ⟨s, h1, h⟩ := Option.bind_eq_some_iff.mp h
 obtain ⟨s₀, h2, h⟩ := Option.bind_eq_some_iff.mp h
 obtain ⟨h3, h⟩ := cnd h
 obtain ⟨s1, h4, h⟩ := Option.bind_eq_some_iff.mp h
 obtain ⟨st', h5, h⟩ := Option.bind_eq_some_iff.mp h
 obtain ⟨h7, h⟩ := cnd h
 rw [← PySem.W.Fast.te10274390034422433532, ← PySem.W.Fast.te14364793385576792824, ← PySem.W.Fast.te1435165496053646825] at h1
 rw [← PySem.W.Fast.te14289696077712309145] at h2
 rw [← PySem.W.Fast.te14364793385576792824] at h5
 have h6 := hRun_of h5
 rw [toS_abs h4] at h6
 cases h
 refine Option.bind_eq_some_iff.mpr ⟨s₀, Option.bind_eq_some_iff.mpr ⟨s, h1, h2⟩, ?_⟩
 unfold topFrom
 rw [h3]
 refine Option.bind_eq_some_iff.mpr ⟨_, h6, ?_⟩
 rw [h7]
theorem left_of {p q : Program} {loose : List Str} {Xt : Shared → Bool} {α : Type} {Yf : Shared → α} {Ya : World → α} {N : Nat} {g0 : Bool}
  (h : ∀ w, (hAll p w N).map (fun st => (openSeen q loose (importedModules p.main.body) Xt g0 st.abs, Yf st.abs)) = some (openGood q loose, Ya w)) : LeftO p q loose Xt Yf Ya N g0 := fun w => by
 obtain ⟨st, h1, h2⟩ := Option.map_eq_some_iff.mp (h w)
 rw [hAll_of h1]
 exact congrArg some h2
noncomputable def KB (P : Params) : Frag := KH P ++ [(975, ⟨.none, none, .fields #[], #[]⟩), (989, ⟨.none, none, .fields #[], #[]⟩)]
noncomputable def kas : List Addr := [0, 1, 2, 3, 4, 83, 84, 99, 100, 116, 117, 466, 467, 470, 471, 874, 879, 886, 887, 893, 894, 928, 935, 936, 979, 980, 993, 994, 1035, 1036, 1042, 1043, 1092, 1093, 1103, 1104, 1108, 1109, 1113, 1114, 975, 989]
theorem kas_eq (P : Params) : kas = (KB P).map (·.1) := by kernel_rfl
noncomputable def loo : List Str := ["_wall", "_count_elements", "ABCMeta", "_ABCLike", "_abc_plain_meta", "_abc_has_iter", "_abc_has_len", "_abc_has_contains", "_abc_is_mappingproxy", "_abc_is_builtin_collection", "Iterable", "Sized", "Container", "Collection", "Set", "Mapping", "MappingView", "KeysView", "ItemsView", "ValuesView", "nlargest", "_is_int", "_whole", "_pull", "_NotGiven", "chain", "repeat", "starmap", "itemgetter", "Counter", "_law_pairs", "_law_due"]
noncomputable abbrev lrow : RowW := OpenRow.toRowW (OpenLaw.row PySem.Challenge.rw_io0007_01)
noncomputable abbrev lview : Program := view PySem.Challenge.pw_io0007_01 [0, 1, 48]
theorem head_all (w : World) : (hAll PySem.Challenge.pw_io0007_01 w 10000).map (fun st => (PySem.W.Fast.tw4187177175401517315 lview loo (PySem.W.Fast.tw5923862056798008813 PySem.Challenge.pw_io0007_01.main.body) (fun s => recOk (RowW.records lrow) s) true st.abs, obsZ kas st.abs)) = some (openGood lview loo, valZ KB 1115 1792 w) := by kernel_rfl
theorem lA {α : Type} {w : World} {A : Around} {t : Sem α} {Q : α → Shared → Prop} {E : Value → Shared → Prop} {s : Shared} (h : let R := Q; wpAny (model P0 w) A t R E s) : wpAny (model P0 w) A t Q E s := h
theorem lC {w : World} {A : Around} {c : Code} {Q : Result → Shared → Prop} {s : Shared} (h : let R := Q; codeAny (model P0 w) A c R s) : codeAny (model P0 w) A c Q s := h
theorem aG {p : Prop} (h : let G := p; G) : p := h
theorem lq0 {n a b : Nat} (h : n < a) (k : Nat.ble a b = true) : n < b := Nat.lt_of_lt_of_le h (Nat.le_of_ble_eq_true k)
theorem lq2 {n a k b : Nat} (h : n < a) (e : Nat.ble (a + k) b = true) : n + k < b := Nat.lt_of_lt_of_le (Nat.add_lt_add_right h k) (Nat.le_of_ble_eq_true e)
theorem lq4 {n a k b : Nat} (h : n ≤ a) (e : Nat.ble (a + k) b = true) : n + k ≤ b := Nat.le_trans (Nat.add_le_add_right h k) (Nat.le_of_ble_eq_true e)
theorem lq5 {n a b : Nat} (h : n ≤ a) (e : Nat.ble (a + 1) b = true) : n < b := Nat.lt_of_le_of_lt h (Nat.le_of_ble_eq_true e)
theorem lq6 {n a b : Nat} (h : n < a) (e : Nat.ble a (b + 1) = true) : n ≤ b := Nat.le_of_lt_succ (Nat.lt_of_lt_of_le h (Nat.le_of_ble_eq_true e))
theorem lq8 {n a b : Nat} (h : n ≤ a) (e : Nat.ble a b = true) : n ≤ b := Nat.le_trans h (Nat.le_of_ble_eq_true e)
theorem lq9 {n a b : Nat} (h : n = a) (e : Nat.ble a b = true) : n ≤ b := Nat.le_trans (Nat.le_of_eq h) (Nat.le_of_ble_eq_true e)
theorem lqb {n a b : Nat} (h : n = a) (e : Nat.ble (b + 1) a = true) : b < n := h ▸ Nat.le_of_ble_eq_true e
theorem lqc {n a b : Nat} (h : a ≤ n) (e : Nat.ble b a = true) : b ≤ n := Nat.le_trans (Nat.le_of_ble_eq_true e) h
theorem lqe {a b : Nat} (e : Nat.ble a b = true) : a ≤ b := Nat.le_of_ble_eq_true e
theorem lqf {a b : Nat} (e : Nat.ble (a + 1) b = true) : a < b := Nat.le_of_ble_eq_true e
theorem lqi {i : Nat} : ¬ ((i : Int) < 0) := Int.not_lt.mpr (Int.natCast_nonneg i)
theorem lqj {n i k : Nat} (h : n - i = k + 1) : n - (i + 1) = k := by rw [Nat.sub_add_eq, h]; rfl
theorem lqk {n i : Nat} (h : i < n) : n - (i + 1) < n - i := Nat.sub_lt_sub_left h (Nat.lt_succ_self i)
theorem lql {a b i : Nat} (h : a = b) (k : i < a) : i < b := h ▸ k
theorem lqm {a b i : Nat} (h : a = b) (k : i < b) : i < a := h ▸ k
theorem lqn {u n a k b : Nat} (h : u ≤ 10 * n) (h2 : n < a) (e : Nat.ble (10 * a + k) (b + 9) = true) : u + k < b := by have := Nat.le_of_ble_eq_true e; omega
theorem lqo {u n k : Nat} (h : u ≤ 10 * n) (e : Nat.ble k 10 = true) : u + k ≤ 10 * (n + 1) := by have := Nat.le_of_ble_eq_true e; omega
theorem lqp {i : Nat} (h : i < 2) : i = 0 ∨ i = 1 := by omega
theorem lra {i n : Nat} (h : i < n) : n - i = n - (i + 1) + 1 := (Nat.sub_add_cancel (Nat.sub_pos_of_lt h)).symm
theorem lrb {i n : Nat} (h : i < n) : n - (i + 1) + 1 = n - i := Nat.sub_add_cancel (Nat.sub_pos_of_lt h)
theorem lrc {i n : Nat} (h : i < n) : n - (i + 1) < n := Nat.sub_lt (Nat.zero_lt_of_lt h) (Nat.succ_pos _)
theorem lrd {i n : Nat} (h : i < n) : n + 1 - (i + 1) < n + 1 - i := Nat.sub_lt_sub_left (Nat.lt_succ_of_lt h) (Nat.lt_succ_self i)
theorem lre {i j : Nat} (h : i < j) (k : ¬ i = j - 1) : i < j - 1 := Nat.lt_of_le_of_ne (Nat.le_sub_one_of_lt h) k
theorem lrg {i j m : Nat} (h : i < j) (k : j < m) : m - 1 - j < m - 1 - i := Nat.sub_lt_sub_left (Nat.lt_of_lt_of_le h (Nat.le_sub_one_of_lt k)) h
theorem lrh {i j m : Nat} (_ : i < j) (k : j < m) : m - 1 - i < m := Nat.lt_of_le_of_lt (Nat.sub_le _ _) (Nat.sub_lt (Nat.zero_lt_of_lt k) Nat.one_pos)
theorem lrk {u n a b : Nat} (h : u ≤ 10 * (n + 1)) (h2 : n < a) (e : Nat.ble (10 * a + 1) b = true) : u < b := Nat.lt_of_le_of_lt (Nat.le_trans h (Nat.mul_le_mul_left 10 h2)) (Nat.le_of_ble_eq_true e)
theorem lrl {i a : Nat} (h : ¬ i < a) (k : i - a = 0) : i = a := Nat.le_antisymm (Nat.sub_eq_zero_iff_le.mp k) (Nat.not_lt.mp h)
theorem lrv {x n a b : Nat} (h : n ≤ a) (e : Nat.ble a b = true) : min x n ≤ b := Nat.le_trans (Nat.min_le_right _ _) (Nat.le_trans h (Nat.le_of_ble_eq_true e))
theorem lsa {a b c d : Nat} (h : a = b) (k : b < c) (e : Nat.ble c (d + 1) = true) : a ≤ d := h ▸ Nat.le_of_lt_succ (Nat.lt_of_lt_of_le k (Nat.le_of_ble_eq_true e))
theorem lsb {a b c d : Nat} (h : a = b) (k : b ≤ c) (e : Nat.ble c d = true) : a ≤ d := h ▸ Nat.le_trans k (Nat.le_of_ble_eq_true e)
theorem lsc {a b c d : Nat} (h : a = b) (k : b ≤ c) (e : Nat.ble (c + 1) d = true) : a < d := h ▸ Nat.lt_of_le_of_lt k (Nat.le_of_ble_eq_true e)
theorem lse {a b c n : Nat} (h : a = b) (k : b < n) (l : n ≤ c) : a ≤ c := h ▸ Nat.le_of_lt (Nat.lt_of_lt_of_le k l)
theorem lsg {x y a b : Nat} (h : x + y ≤ a) (e : Nat.ble a b = true) : x ≤ b := Nat.le_trans (Nat.le_add_right _ _) (Nat.le_trans h (Nat.le_of_ble_eq_true e))
theorem lsj {x y f a b c : Nat} (h : x ≤ f + a) (k : y ≤ x + b) (e : Nat.ble (a + b) c = true) : y ≤ f + c := Nat.le_trans k (Nat.le_trans (Nat.add_le_add_right h b) (Nat.add_assoc f a b ▸ Nat.add_le_add_left (Nat.le_of_ble_eq_true e) f))
theorem lsk {z y f k a : Nat} (h : z ≤ y + a) (e : y ≤ f + k) : z ≤ f + (a + k * 1) := by rw [Nat.mul_one, Nat.add_comm a k, ← Nat.add_assoc]; exact Nat.le_trans h (Nat.add_le_add_right e a)
theorem lsl {a b m q : Nat} (h : a ≤ m) (k : b ≤ q) : a + b ≤ q + 1 * m := by rw [Nat.one_mul, Nat.add_comm]; exact Nat.add_le_add k h
theorem lsm {x n m : Nat} (h : x ≤ 0 + 1 * min n m) : x ≤ n := by rw [Nat.zero_add, Nat.one_mul] at h; exact Nat.le_trans h (Nat.min_le_left _ _)
theorem lsn {z f y p c : Nat} (h : z ≤ f + c * y) (k : y ≤ p) : z ≤ f + c * p := Nat.le_trans h (Nat.add_le_add_left (Nat.mul_le_mul_left c k) f)
theorem lso {f y p c : Nat} (k : y ≤ p) : f + c * y ≤ f + c * p := Nat.add_le_add_left (Nat.mul_le_mul_left c k) f
theorem lsp {M L i N a b c : Nat} (h : M ≤ L + i) (k : i < N) (l : L ≤ a) (q : N ≤ b) (e : Nat.ble (a + b) c = true) : M ≤ c := Nat.le_trans h (Nat.le_trans (Nat.add_le_add l (Nat.le_of_lt (Nat.lt_of_lt_of_le k q))) (Nat.le_of_ble_eq_true e))
theorem lsq {M i L a c : Nat} (h : M ≤ i) (k : i < L) (l : L ≤ a) (e : Nat.ble a c = true) : M ≤ c := Nat.le_trans h (Nat.le_trans (Nat.le_of_lt (Nat.lt_of_lt_of_le k l)) (Nat.le_of_ble_eq_true e))
theorem lsr {z L t a b c : Nat} (h : z ≤ L + 1 * t) (k : L ≤ a) (l : t ≤ b) (e : Nat.ble (a + b) c = true) : z ≤ c := Nat.le_trans h (Nat.le_trans (Nat.add_le_add k ((Nat.one_mul t).symm ▸ l)) (Nat.le_of_ble_eq_true e))
theorem lss {z L t b c : Nat} (h : z ≤ L + 1 * t) (k : L + b ≤ c) (l : t ≤ b) : z ≤ c := Nat.le_trans h (Nat.le_trans (Nat.add_le_add_left ((Nat.one_mul t).symm ▸ l) L) k)
theorem lsv {u n c : Nat} (h : u + (n + 1) < c) : u + 1 + n < c := Nat.succ_add u n ▸ h
theorem lsx {d n a w : Nat} (h : d ≤ n + a) (k : w ≤ 1) : d + w ≤ n + 1 + a := Nat.add_right_comm n 1 a ▸ Nat.add_le_add h k
theorem lsy {u n c : Nat} (h : u ≤ 10 * n) (k : c ≤ 10) : u + c ≤ 10 * (n + 1) := Nat.add_le_add h k
theorem lsz {m a n : Nat} (h : m ≤ a + (n - a)) (k : a ≤ n) : m ≤ n := Nat.le_trans h (Nat.le_of_eq (Nat.add_sub_of_le k))
theorem lta {a b : Int} (_ : 0 ≤ a) (k : ¬ 0 < max b a) (l : 0 ≤ b) : 0 = max b a := Int.le_antisymm (Int.le_trans l (Int.le_max_left ..)) (Int.not_lt.mp k)
theorem ltb {a b : Int} (h : 0 ≤ a) (k : ¬ 0 < min b a) (l : 0 ≤ b) : 0 = min b a := Int.le_antisymm (Int.le_min.mpr ⟨l, h⟩) (Int.not_lt.mp k)
theorem ltc {p : Int} (h : 0 ≤ p) : p = max 0 p := (Int.max_eq_right h).symm
theorem ltd {p : Int} (k : ¬ 0 < p) (h : 0 ≤ p) : 0 = max 0 p := (Int.le_antisymm h (Int.not_lt.mp k)).trans (Int.max_eq_right h).symm
theorem lte {p : Int} (h : 0 ≤ p) : 0 = min 0 p := (Int.min_eq_left h).symm
theorem ltf {i m : Nat} (h : ¬ i < m) (k : i ≤ m) : i = m := Nat.le_antisymm k (Nat.not_lt.mp h)
theorem lti {a n : Nat} (h : 1 ≤ a) (k : a < n) : a - 1 < n := Nat.lt_of_le_of_lt (Nat.sub_le _ _) k
theorem ltj {a n f : Nat} (k : a + (f + 1) ≤ n) : a < n := Nat.lt_of_lt_of_le (Nat.lt_add_of_pos_right (Nat.succ_pos f)) k
theorem ltk {a n f : Nat} (k : a + (f + 1) ≤ n) : a + 1 + f ≤ n := Nat.succ_add a f ▸ k
theorem ltl {a n f : Nat} (k : a + (f + 1) ≤ n) : a - 1 < n := Nat.lt_of_le_of_lt (Nat.sub_le _ _) (ltj k)
theorem ltm {m a f : Nat} (k : m ≤ a + 1 + f) : m ≤ a + (f + 1) := Nat.le_trans k (Nat.le_of_eq (Nat.succ_add a f))
theorem ltn {a : Nat} (h : 1 ≤ a) : a ≠ a - 1 := fun e => Nat.lt_irrefl a (Nat.lt_of_le_of_lt (Nat.le_of_eq e) (Nat.sub_lt h Nat.one_pos))
theorem lto {i a : Nat} (h : ¬ i < a) (k : i < a + 1) : i = a := Nat.le_antisymm (Nat.le_of_lt_succ k) (Nat.not_lt.mp h)
theorem lts {r l i : Nat} (h : r - l ≤ 0) (k : l ≤ i) : r ≤ i := Nat.le_trans (Nat.sub_eq_zero_iff_le.mp (Nat.le_zero.mp h)) k
theorem lqq {n i : Nat} (h : n - i = 0) (k : i ≤ n) : i = n := Nat.le_antisymm k (Nat.sub_eq_zero_iff_le.mp h)
theorem lqr {n i k : Nat} (h : n - i = k + 1) : i < n := Nat.lt_of_sub_eq_succ h
theorem lqt {n k : Nat} : n - 1 - k = n - (k + 1) := by rw [Nat.sub_sub, Nat.add_comm]
theorem al0 {P : Addr → Prop} : ∀ a ∈ ([] : List Addr), P a := fun Y h => nomatch h
theorem ni0 {a : Addr} : a ∉ ([] : List Addr) := fun h => nomatch h
theorem sm0 {S : List Addr} : ∀ a ∈ S, a ∈ S := fun Y h => h
theorem al1 {P : Addr → Prop} {x : Addr} (h : P x) : ∀ a ∈ [x], P a := fun a m => by cases List.mem_singleton.mp m; exact h
theorem ni1 {a x : Addr} (h : a ≠ x) : a ∉ [x] := fun m => h (List.mem_singleton.mp m)
theorem nn0 {S : List Addr} : ∀ a ∈ S, a ∉ ([] : List Addr) := fun Y Y h => nomatch h
theorem na0 {α : Type} {P : α → Prop} : ∀ a ∈ ([] : List α), P a := fun Y h => nomatch h
theorem nb0 {P : Addr → Obj → Prop} : ∀ (b : Addr) (o : Obj), b ∈ ([] : List Addr) → P b o := fun Y Y h => nomatch h
theorem ap2 {W : List Addr} : ∀ a ∈ W ++ W, a ∈ W := fun Y h => (List.mem_append.mp h).elim id id
theorem si2 {x y : Addr} : ∀ a ∈ [x], a ∈ [x, y] := fun Y h => List.mem_singleton.mp h ▸ List.mem_cons_self ..
theorem bn0 {n : Int} : ¬ (n != n) = true := by simp
theorem bn1 {n : Nat} : ¬ (n != n) = true := by simp
theorem sz0 {α β : Type} {f : α → β} {L : List α} : ¬ (((List.map f L).toArray.size : Int) != (L.length : Int)) = true := by simp
theorem toA {α : Type} {l : List α} {i : Nat} {v : α} (h : l.toArray[i]? = some v) : l[i]? = some v := List.getElem?_toArray ▸ h
theorem als {α : Type} {P : α → Prop} {x : α} (h : P x) : ∀ a ∈ [x], P a := fun Y m => List.mem_singleton.mp m ▸ h
theorem pw2 {a b : Str} {c d : Addr} (h : c ≠ d) : List.Pairwise (fun x y : Str × Addr => x.2 ≠ y.2) [(a, c), (b, d)] := .cons (fun Y m => List.mem_singleton.mp m ▸ h) (List.pairwise_singleton ..)
theorem ln2 {α : Type} {l : List α} (h : l.length = 2) : ∃ a b, l = [a, b] := by
 obtain ⟨a, l, rfl⟩ := List.exists_cons_of_length_eq_add_one h
 obtain ⟨b, rfl⟩ := List.length_eq_one_iff.mp (Nat.succ.inj h)
 exact ⟨a, b, rfl⟩
theorem ln3 {α : Type} {l : List α} (h : l.length = 3) : ∃ a b c, l = [a, b, c] := by
 obtain ⟨a, l, rfl⟩ := List.exists_cons_of_length_eq_add_one h
 obtain ⟨b, c, rfl⟩ := ln2 (Nat.succ.inj h)
 exact ⟨a, b, c, rfl⟩
theorem ln4 {α : Type} {l : List α} (h : l.length = 4) : ∃ a b c d, l = [a, b, c, d] := by
 obtain ⟨a, l, rfl⟩ := List.exists_cons_of_length_eq_add_one h
 obtain ⟨b, c, d, rfl⟩ := ln3 (Nat.succ.inj h)
 exact ⟨a, b, c, d, rfl⟩
noncomputable def tabby (o : Obj) : Bool := match o.cls, o.data with | .none, .fields _ => true | _, _ => false
noncomputable def gcodes : List Addr := [979, 993]
noncomputable def Tb (h : Heap) : Prop := ∀ c ∈ gcodes, ∃ P ps, P ≠ cStatics ∧ h.IsCode c P ps ∧ h.TableAt c P ps
structure OldT (B h : Heap) : Prop where
 tb : Tb B
 ok : OldK B h
 th : Tb h
theorem OldT.there {B h : Heap} (x : OldT B h) : ∀ b o, B.get? b = some o → ∃ o', h.get? b = some o' := x.ok.there
theorem Tb.keeps {h h' : Heap} (x : Tb h) (k : ∀ b o, h.get? b = some o → h'.get? b = some o) : Tb h' := fun c hc => let ⟨P, ps, n, a, b⟩ := x c hc; ⟨P, ps, n, a.keeps k, b.keeps k⟩
theorem OldT.step_keeps {B h h' : Heap} (x : OldT B h) (k : ∀ b o, h.get? b = some o → h'.get? b = some o) : OldT B h' := ⟨x.tb, x.ok.step_keeps k, x.th.keeps k⟩
theorem OldT.step_but {B h h' : Heap} {S : List Addr} (x : OldT B h) (hB : ∀ a ∈ S, B.get? a = none) (k : ∀ b o, h.get? b = some o → b ∉ S → h'.get? b = some o) (h1 : OldK B h') : OldT B h' := by
 refine ⟨x.tb, h1, fun c hc => ?_⟩
 refine aG ?_; intro gO; obtain ⟨P, ps, n, a, b⟩ := x.th c hc; unfold gO; clear gO
 refine aG ?_; intro gO; obtain ⟨P0, ps0, n0, a0, b0⟩ := x.tb c hc; unfold gO; clear gO
 refine aG ?_; intro gO; obtain ⟨⟨o, vs, e1, e2, e3, e4⟩, e5⟩ := b; unfold gO; clear gO
 refine aG ?_; intro gO; obtain ⟨⟨o', vs', d1, d2, d3, d4⟩, d5⟩ := b0; unfold gO; clear gO
 have : h.get? c = some o' := x.ok.get_of_cls d1 (by rw [d2]; simp)
 rw [e1] at this
 cases this
 rw [e3] at d3
 cases d3
 rw [e4] at d4
 cases d4
 have nc : c ∉ S := fun m => by rw [hB _ m] at d1; cases d1
 have nP : P ∉ S := fun m => by rw [hB _ m] at d5; cases d5
 refine aG ?_; intro gO; obtain ⟨o2, vs2, file, tf, flags, tg, inF, text, tt, op, y1, r1, r2, r3, r4, r5, r6, y2, r⟩ := a; unfold gO; clear gO
 exact ⟨P, ps, n, ⟨o2, vs2, file, tf, flags, tg, inF, text, tt, op, k _ _ y1 nc, r1, r2, r3, r4, r5, r6, k _ _ y2 nP, r⟩, ⟨⟨o, vs, k _ _ e1 nc, e2, e3, e4⟩, k _ _ e5 nP⟩⟩
structure Kp (S : List Addr) (s s' : Shared) : Prop where
 keep : ∀ b o, s.heap.get? b = some o → tabby o = false → b ∉ S → s'.heap.get? b = some o
 there : ∀ b o, s.heap.get? b = some o → ∃ o', s'.heap.get? b = some o'
 old : ∀ B : Heap, (∀ a ∈ S, B.get? a = none) → OldT B s.heap → OldT B s'.heap
 stat : 2 ∉ S → s'.heap.get? 2 = s.heap.get? 2
 os : s'.os = s.os
 tk : s.toks ≤ s'.toks
 gb : AllBare s.gens → AllBare s'.gens
theorem Kp.refl (s : Shared) : Kp [] s s := ⟨fun Y Y h Y Y => h, fun Y o h => ⟨o, h⟩, fun Y Y h => h, fun Y => rfl, rfl, Nat.le_refl _, id⟩
theorem Kp.trans {S S' : List Addr} {s s' s'' : Shared} (x : Kp S s s') (y : Kp S' s' s'') : Kp (S ++ S') s s'' where
 keep b o h hc hb := y.keep b o (x.keep b o h hc fun m => hb (List.mem_append_left _ m)) hc fun m => hb (List.mem_append_right _ m)
 there b o h := by obtain ⟨o', h'⟩ := x.there b o h; exact y.there b o' h'
 old B hB h := y.old B (fun a m => hB a (List.mem_append_right _ m)) (x.old B (fun a m => hB a (List.mem_append_left _ m)) h)
 stat h := (y.stat fun m => h (List.mem_append_right _ m)).trans (x.stat fun m => h (List.mem_append_left _ m))
 os := y.os.trans x.os
 tk := Nat.le_trans x.tk y.tk
 gb h := y.gb (x.gb h)
theorem Kp.mono {S S' : List Addr} {s s' : Shared} (x : Kp S s s') (h : ∀ a ∈ S, a ∈ S') : Kp S' s s' :=
 ⟨fun b o e c n => x.keep b o e c fun m => n (h _ m), x.there, fun B q k => x.old B (fun a m => q a (h a m)) k, fun n => x.stat fun m => n (h _ m), x.os, x.tk, x.gb⟩
theorem KH_cls (P : Params) : (KH P).all (fun p => p.1 == 2 || match p.2.cls with | .none => false | _ => true) = true := by kernel_rfl
structure Good (w : World) (B : Heap) (s : Shared) : Prop where
 kb : (KH w.params).In B
 old : OldT B s.heap
 st : s.heap.get? 2 = B.get? 2
 tk : 0 < s.toks
 gb : AllBare s.gens
theorem Good.k {w : World} {B : Heap} {s : Shared} (G : Good w B s) : (KH w.params).In s.heap := fun a o e => by
 have hb := G.kb a o e
 have hm : (a, o) ∈ KH w.params := by
  have := e
  clear hb e
  revert this
  generalize KH w.params = l
  intro e
  induction l with
  | nil => cases e
  | cons p l ih =>
   obtain ⟨x, y⟩ := p
   rw [List.lookup_cons] at e
   cases hq : a == x with
   | true => rw [hq] at e; cases e; rw [eq_of_beq hq]; exact List.mem_cons_self ..
   | false => rw [hq] at e; exact List.mem_cons_of_mem _ (ih e)
 have z := List.all_eq_true.mp (KH_cls w.params) _ hm
 by_cases h2 : a = 2
 ·subst h2; rw [G.st]; exact hb
 ·first | (refine lA ?_; intro Ro) | (refine lC ?_; intro Ro) | skip
  refine G.old.ok.get_of_cls hb fun hc => ?_
  simp only [beq_iff_eq, h2, Bool.or_eq_true, false_or, hc] at z
  first | exact absurd z Bool.noConfusion | cases z | simp at z
theorem Good.kp {w : World} {B : Heap} {S : List Addr} {s s' : Shared} (G : Good w B s) (x : Kp S s s') (h : ∀ a ∈ S, B.get? a = none) : Good w B s' :=
 ⟨G.kb, x.old B h G.old, (x.stat fun m => by
  have : ((KH w.params).lookup 2).isSome = true := by kernel_rfl
  obtain ⟨o, e⟩ := Option.isSome_iff_exists.mp this
  have := h _ m
  rw [G.kb _ _ e] at this
  cases this).trans G.st, Nat.lt_of_lt_of_le G.tk x.tk, x.gb G.gb⟩
theorem Good.new {w : World} {B : Heap} {s : Shared} (G : Good w B s) {a : Addr} (h : s.heap.get? a = none) : B.get? a = none := by
 cases e : B.get? a with
 | none => rfl
 | some o => obtain ⟨o', e'⟩ := G.old.there _ _ e; rw [h] at e'; cases e'
noncomputable abbrev En := Int × Nat × Int × Nat
noncomputable def ent (x : En) : DictEntry := ⟨hashInt x.1, .int x.1 x.2.1, .int x.2.2.1 x.2.2.2⟩
noncomputable def ctrO (d : Addr) (L : List En) (ep : Nat) : Obj := ⟨.ref 1093, some d, .dict (L.map ent).toArray ep, #[]⟩
noncomputable def dctO : Obj := ⟨.type "dict", none, .dict #[] 0, #[]⟩
structure IsC (h : Heap) (a d : Addr) (L : List En) (ep : Nat) : Prop where
 at_ : h.get? a = some (ctrO d L ep)
 ow : h.get? d = some dctO
 tp : ∀ e ∈ L, 0 ≤ e.2.1 ∧ 0 ≤ e.2.2.2
section
variable {w : World} {B : Heap} {A : Around} {s : Shared} {a d : Addr} {L : List En} {ep : Nat}
theorem IsC.type (C : IsC s.heap a d L ep) : Looks (model P0 w) s.heap (typeOf (.ref a)) (.ref 1093) := (Looks.ld (part := some headPart) C.at_).andThen .now
theorem IsC.spec (G : Good w B s) (C : IsC s.heap a d L ep) {name : Str} {r : Option Value} (e : findIn (KH w.params) (.ref 1093) name = some r) : Looks (model P0 w) s.heap (specialOf (.ref a) name) r :=
 C.type.andThen (looks_findIn G.k e)
theorem f1 (P : Params) : findIn (KH P) (.ref 1093) (PySem.Str.ofString "__getitem__") = some (some (.builtin "dict.__getitem__")) := by kernel_rfl
theorem f2 (P : Params) : findIn (KH P) (.ref 1093) (PySem.Str.ofString "__missing__") = some (some (.ref 894)) := by kernel_rfl
theorem looks_anyM_false {α : Type} {M : Model} {h : Heap} {f : α → Sem Bool} : ∀ {l : List α}, (∀ x ∈ l, Looks M h (f x) false) → Looks M h (l.anyM f) false := by
 intro l
 induction l with
 | nil =>
  rintro _
  exact Looks.now
 | cons x l ih =>
  rintro q
  unfold List.anyM
  exact (q x (List.mem_cons_self ..)).andThen (ih fun y hy => q y (List.mem_cons_of_mem _ hy))
theorem mro_ctr (P : Params) (b : Value) : mroIn (KH P) 1093 b = some ([Value.ref 1093, .type "dict", .type "object"].contains b) := by kernel_rfl
theorem sub_ctr (G : Good w B s) (b : Value) : Looks (model P0 w) s.heap (isSubtype (.ref 1093) b) ([Value.ref 1093, .type "dict", .type "object"].contains b) := looks_mroIn G.k (mro_ctr _ b)
theorem seq_no : ∀ n ∈ seqItemTypes, [Value.ref 1093, .type "dict", .type "object"].contains (.type n) = false := by decide +kernel
theorem seqKey_ctr {v : Value} {name : Str} (G : Good w B s) (C : IsC s.heap a d L ep) : Looks (model P0 w) s.heap (sequenceKey (.ref a) v name) v := by
 unfold sequenceKey
 refine C.type.andThen ?_
 try dsimp only
 refine (looks_anyM_false fun n hn => ?_).andThen ?_
 ·first | (refine lA ?_; intro Ro) | (refine lC ?_; intro Ro) | skip
  have := sub_ctr (w := w) G (.type n)
  rwa [seq_no n hn] at this
 ·exact Looks.now
theorem callSp_built {self : Value} {name : Str} {id : String} {args : List Value} {Q : Option Value → Shared → Prop} {E : Value → Shared → Prop}
  (h1 : Looks (model P0 w) s.heap (specialOf self name) (some (.builtin id))) (h2 : Looks (model P0 w) s.heap (typeOf (.builtin id)) (.type "wrapper_descriptor") ∨ Looks (model P0 w) s.heap (typeOf (.builtin id)) (.type "method_descriptor"))
  (hc : wpAny (model P0 w) A (call (.builtin id) (self :: args)) (fun v => Q (some v)) E s) : wpAny (model P0 w) A (callSpecial? self name args) Q E s := by
 refine aG ?_; intro gO; obtain ⟨h, g, d', tk, os⟩ := s; unfold gO; clear gO
 unfold callSpecial?
 refine wpAny_bind (h1.at ?_)
 refine wpAny_holding (wpAny_bind ?_)
 unfold bindSpecial
 have fin : wpAny (model P0 w) A (call (.builtin id) ([self] ++ args) [] >>= fun v => pure (some v)) Q E ⟨h, g, d', tk, os⟩ :=
  wpAny_bind (wpAny_mono hc (fun v s' h' => wpAny_pure h') fun Y Y h' => h')
 rcases h2 with h2 | h2
 ·first | (refine lA ?_; intro Ro) | (refine lC ?_; intro Ro) | skip
  refine wpAny_bind (h2.at ?_)
  rw [if_pos (by decide)]
  exact wpAny_pure fin
 ·first | (refine lA ?_; intro Ro) | (refine lC ?_; intro Ro) | skip
  refine wpAny_bind (h2.at ?_)
  rw [if_pos (by decide)]
  exact wpAny_pure fin
theorem jbD {self : Value} {name : Str} {f : Addr} {fo : Obj} {args : List Value} {Q : Option Value → Shared → Prop} {E : Value → Shared → Prop}
  (h1 : Looks (model P0 w) s.heap (specialOf self name) (some (.ref f))) (h2 : s.heap.get? f = some fo) (h3 : fo.cls = .type "function")
  (hc : wpAny (model P0 w) A (call (.ref f) (self :: args)) (fun v => Q (some v)) E s) : wpAny (model P0 w) A (callSpecial? self name args) Q E s := by
 refine aG ?_; intro gO; obtain ⟨h, g, d', tk, os⟩ := s; unfold gO; clear gO
 unfold callSpecial?
 refine wpAny_bind (h1.at ?_)
 refine wpAny_holding (wpAny_bind (wpAny_bindSpecial_def h2 h3 ?_))
 exact wpAny_bind (wpAny_mono hc (fun v s' h' => wpAny_pure h') fun Y Y h' => h')
theorem ty_getitem (h : Heap) : Looks (model P0 w) h (typeOf (.builtin "dict.__getitem__")) (.type "method_descriptor") := Looks.of_pure F.type_dict_getitem
theorem getItem_ctr {k : Int} {t : Nat} {Q : Value → Shared → Prop} {E : Value → Shared → Prop} (G : Good w B s) (C : IsC s.heap a d L ep)
  (hc : wpAny (model P0 w) A (call (.builtin "dict.__getitem__") [.ref a, .int k t]) Q E s) : wpAny (model P0 w) A (getItem (.ref a) (.int k t)) Q E s := by
 have L1 := C.spec (w := w) G (f1 w.params)
 have L3 := seqKey_ctr (w := w) (v := .int k t) (name := "__getitem__") G C
 refine aG ?_; intro gO; obtain ⟨h, g, d', tk, os⟩ := s; unfold gO; clear gO
 unfold getItem
 refine wpAny_holding (wpAny_bind (L3.at (wpAny_bind ?_)))
 exact callSp_built L1 (.inr (ty_getitem _)) (wpAny_mono hc (fun v s' h => wpAny_pure h) fun Y Y h => h)
noncomputable def getE (L : List En) (k : Int) : Option En := L.find? fun e => e.1 == k
theorem ints_ent (L : List En) : IntKeys (L.map ent).toArray := by
 intro e he
 rw [List.mem_toArray] at he
 obtain ⟨x, _, rfl⟩ := List.mem_map.mp he
 exact ⟨_, _, rfl, rfl⟩
theorem jbZ (L : List En) (k : Int) : findBy Value.isInt (L.map ent).toArray k = (getE L k).map fun e => (ent e).val := by
 unfold findBy getE
 rw [List.find?_toArray]
 induction L with
 | nil => rfl
 | cons x L ih =>
  rw [List.map_cons, List.find?_cons, List.find?_cons]
  have : Value.isInt k (ent x).key = (x.1 == k) := by
   simp only [ent, Value.isInt]
  rw [this]
  cases x.1 == k with
  | true => rfl
  | false => exact ih
theorem jca {k : Int} {t : Nat} {Q : Option Value → Shared → Prop} {E : Value → Shared → Prop} (C : IsC s.heap a d L ep)
  (h : Q ((getE L k).map fun e => (ent e).val) { s with toks := s.toks + 1 }) : wpAny (model P0 w) A (dictGet a (.int k t)) Q E s := by
 unfold dictGet
 refine wpAny_holding ?_
 refine wpAny_bind (wpAny_pyHash_int (wpAny_bind (wpAny_dictFind_int (s := { s with toks := s.toks + 1 }) C.at_ rfl (ints_ent L) ?_)))
 rw [← jbZ, findBy_of_findIdx?] at h
 cases hi : (L.map ent).toArray.findIdx? fun e => Value.isInt k e.key with
 | none => rw [hi] at h; exact wpAny_pure h
 | some i => rw [hi] at h; exact wpAny_bind (wpAny_dictEntries (s := { s with toks := s.toks + 1 }) C.at_ rfl (wpAny_pure h))
theorem jbp (G : Good w B s) (C : IsC s.heap a d L ep) (b : Value) : Looks (model P0 w) s.heap (isInstance (.ref a) b) ([Value.ref 1093, .type "dict", .type "object"].contains b) := by
 unfold isInstance
 exact C.type.andThen (sub_ctr G b)
theorem jbC {id n : String} {b : Builtin} {self : Value} {args : List Value} {Q : Value → Shared → Prop} {E : Value → Shared → Prop} (hk : builtinKind id = some .method ∨ builtinKind id = some .slot) (hs : splitId id = some ("dict", n))
  (hp : plainId id = true) (hb : entryFor table id = some b) (ha : argsOk id ⟨self :: args, []⟩) (hI : Looks (model P0 w) s.heap (isInstance self (.type "dict")) true)
  (hc : wpAny (model P0 w) A.in1 (b ⟨self :: args, []⟩) (fun fin s' => ∃ v, fin = .done (.ret v) ∧ Q v s') E s) : wpAny (model P0 w) A (call (.builtin id) (self :: args)) Q E s := by
 refine wpAny_call (codeAny_call_builtin hp hb ?_)
 have hfin := wpAny_mono hc (Q' := fun fin s' => match fin with
   | .done f => (match (Except.ok f : Result) with | .ok (.ret v) => Q v s' | .ok _ => False | .error e => E e s')
   | .again c' => c'.quiet = true ∧ codeAny (model P0 w) A c' (fun r s' => match r with | .ok (.ret v) => Q v s' | .ok _ => False | .error e => E e s') s')
  (fun fin s' h' => by obtain ⟨v, rfl, hv⟩ := h'; exact hv) fun Y Y h' => h'
 refine aG ?_; intro gO; obtain ⟨h, g, d', tk, os⟩ := s; unfold gO; clear gO
 unfold checkBuiltinCall
 rcases hk with hk | hk <;>
 ·first | (refine lA ?_; intro Ro) | (refine lC ?_; intro Ro) | skip
  rw [hk, hs]
  try dsimp only
  refine wpAny_bind (hI.at ?_)
  rw [if_neg (by decide)]
  cases hsig : Manifest.signature? id with
  | none => exact wpAny_pure hfin
  | some sig =>
   simp only [argsOk, hsig] at ha
   have h2 : Bind.checkArgs id sig ⟨self :: args, []⟩ = pure () := ha
   try dsimp only
   rw [h2]; exact wpAny_pure hfin
theorem getitem_found {k : Int} {t : Nat} {e : En} {Q : Value → Shared → Prop} {E : Value → Shared → Prop} (G : Good w B s) (C : IsC s.heap a d L ep) (he : getE L k = some e)
  (hq : Q (.int e.2.2.1 e.2.2.2) { s with toks := s.toks + 1 }) : wpAny (model P0 w) A (getItem (.ref a) (.int k t)) Q E s := by
 refine getItem_ctr G C ?_
 refine jbC (n := "__getitem__") (.inl (by decide +kernel)) (by decide +kernel) (by decide +kernel) F.entry_dict_getitem (F.args_dict_getitem_2 _ _) (jbp G C _) ?_
 show wpAny _ _ (dictGet a (.int k t) >>= _) _ _ s
 refine wpAny_bind (jca C ?_)
 rw [he]
 exact wpAny_pure ⟨_, rfl, hq⟩
end
noncomputable def lv0 : Around := ⟨none, 610, none, none, 3000⟩
noncomputable def Rm (n : Nat) (A : Around) : Prop := A.handled = none ∧ A.depth ≤ n + 310 ∧ A.units ≤ 10 * n
theorem Rm.lv {α : Type} {M : Model} {A : Around} {t : Sem α} {Q : α → Shared → Prop} {E : Value → Shared → Prop} {s : Shared} (r : Rm 300 A) (h : wpAny M lv0 t Q E s) : wpAny M A t Q E s :=
 fun Γ p hΓ => h Γ p ⟨hΓ.1.trans r.1, Nat.le_trans hΓ.2.1 r.2.1, fun Y e => (nomatch e), fun Y e => (nomatch e), Nat.le_trans hΓ.2.2.2.2 r.2.2⟩
theorem jat {s s' : Shared} (k : ∀ b o, s.heap.get? b = some o → s'.heap.get? b = some o) (h2 : ∃ o, s.heap.get? 2 = some o) (os : s'.os = s.os) (tk : s.toks ≤ s'.toks) (g : s'.gens = s.gens) : Kp [] s s' :=
 ⟨fun b o e Y Y => k b o e, fun b o e => ⟨o, k b o e⟩, fun Y Y o => o.step_keeps k, fun Y => by obtain ⟨o, e⟩ := h2; rw [e]; exact k _ _ e, os, tk, fun h => by rw [g]; exact h⟩
theorem Good.two {w : World} {B : Heap} {s : Shared} (G : Good w B s) : ∃ o, s.heap.get? 2 = some o := by
 have : ((KH w.params).lookup 2).isSome = true := by kernel_rfl
 obtain ⟨o, e⟩ := Option.isSome_iff_exists.mp this
 exact ⟨o, G.k _ _ e⟩
theorem jax {w : World} {B : Heap} {s s' : Shared} {news : List (Addr × Obj)} (G : Good w B s) (D : Mem s.heap s'.heap [] news) (os : s'.os = s.os) (tk : s.toks ≤ s'.toks) (g : s'.gens = s.gens) : Kp [] s s' :=
 jat (fun b o e => D.keep b o e (by simp [away])) G.two os tk g
noncomputable def kitO (a : Addr) (i n ep : Nat) : Obj := ⟨.type "dict_keyiterator", none, .fields #[.ref a, .int i 0, .int n 0, .int ep 0], #[]⟩
section
variable {w : World} {B : Heap} {A : Around} {s : Shared} {a d it : Addr} {L : List En} {ep i : Nat}
theorem jaT {α β : Type} {P : α → Shared → Prop} {E : Value → Shared → Prop} {Q : Option β → Shared → Prop} (hh : A.handled = none)
  (hq : ∀ s', (∀ b o, s.heap.get? b = some o → s'.heap.get? b = some o) → s'.gens = s.gens → s'.os = s.os → s.toks ≤ s'.toks → Q none s') :
  wpAny (model P0 w) A.in1 (do let e ← newExc (.type "StopIteration") []; (raiseNew e : Sem α)) P
   (fun e s' => wpAny (model P0 w) A (do let b ← isInstance e (.type "StopIteration"); if b = true then (pure none : Sem (Option β)) else throw e) Q E s') s := by
 obtain ⟨h, g, dr, tk, os⟩ := s
 unfold newExc
 refine wpAny_bind (wpAny_bind (wpAny_newObj_type ?_ (by size_fits)))
 refine wpAny_bind (m := firstArgMember _ _) (wpAny_of_eq (a := Value.none) (by first | rfl | (simp only [firstArgMember]; rfl)) ?_)
 refine wpAny_newObj_type ?_ (by size_fits)
 unfold raiseNew
 refine wpAny_bind (wpAny_handled ?_)
 rw [show A.in1.handled = none from hh]
 refine wpAny_bind (wpAny_pure (wpAny_throw ?_))
 refine wpAny_bind (wpAny_isInstance (T := "StopIteration") (b := true) ⟨_, Heap.get?_push_size _ rfl, rfl⟩ isSubtype_stop ?_)
 exact wpAny_pure (hq _ (fun b o e => Heap.get?_push_of_some _ (Heap.get?_push_of_some _ e)) rfl rfl (Nat.le_refl _))
theorem kp_same {s : Shared} {h' : Heap} {S : List Addr} (h2 : 2 ∉ S → h'.get? 2 = s.heap.get? 2) (k : ∀ b o, s.heap.get? b = some o → b ∉ S → h'.get? b = some o) (t : ∀ b o, s.heap.get? b = some o → ∃ o', h'.get? b = some o') {tk : Nat} (ht : s.toks ≤ tk) :
  Kp S s { s with heap := h', toks := tk } := by
 refine ⟨fun b o e Y n => k b o e n, t, fun B hB OT => OT.step_but hB (h' := h') k ⟨fun b o e => ?_, fun b o e => ?_⟩, h2, rfl, ht, id⟩
 ·have nb : b ∉ S := fun m => by rw [hB b m] at e; cases e
  rcases OT.ok.old b o e with x | ⟨t, hc, vs, more, hv, x⟩ | ⟨rfl, hc, ⟨o', es, n, ho', r⟩, z⟩
  ·exact .inl (k b o x nb)
  ·exact .inr (.inl ⟨t, hc, vs, more, hv, k b _ x nb⟩)
  ·exact .inr (.inr ⟨rfl, hc, ⟨o', es, n, k _ _ ho' nb, r⟩, fun key => by rw [OldK.staticOf_congr (h2 nb) key]; exact z key⟩)
 ·obtain ⟨o', e'⟩ := OT.ok.there b o e
  exact t b o' e'
theorem jaz {s : Shared} {h' : Heap} (hs : Heap.SameBut it s.heap h') (hi : it ≠ 2) (ht : ∃ o, h'.get? it = some o) {tk : Nat} (hk : s.toks ≤ tk) : Kp [it] s { s with heap := h', toks := tk } :=
 kp_same (fun Y => hs.2 2 (Ne.symm hi)) (fun b o e n => (hs.2 b (fun q => n (by rw [q]; exact List.mem_singleton_self _))).trans e) (fun b o e => by
  by_cases q : b = it
  ·rw [q]; exact ht
  ·exact ⟨o, (hs.2 b q).trans e⟩) hk
theorem next_key {x : En} {Q : Option Value → Shared → Prop} {E : Value → Shared → Prop} (hit : s.heap.get? it = some (kitO a i L.length ep)) (C : IsC s.heap a d L ep) (hx : L[i]? = some x)
  (hq : ∀ h', h'.get? it = some (kitO a (i + 1) L.length ep) → Heap.SameBut it s.heap h' → Q (some (.int x.1 x.2.1)) { s with heap := h' }) :
  wpAny (model P0 w) A (pyNext (.ref it)) Q E s := by
 obtain ⟨h, g, dr, tk, os⟩ := s
 have hT : Shared.TypeIs ⟨h, g, dr, tk, os⟩ (.ref it) "dict_keyiterator" := ⟨_, hit, rfl⟩
 have LT : Looks (model P0 w) h (typeOf (.ref it)) (.type "dict_keyiterator") := (Looks.ld (part := some headPart) hit).andThen .now
 unfold pyNext
 refine wpAny_bind (wpAny_attempt (wpAny_callSpecial?_slot (name := "__next__") hT F.slot_dict_keyiterator_next
  (wpAny_call_entry F.slot_dict_keyiterator_next hT F.entry_dict_keyiterator_next ?_ (F.args_dict_keyiterator_next_1 _))))
 refine wpAny_bind (wpAny_pure ?_)
 refine wpAny_bind (wpAny_bind (wpAny_bind (wpAny_typeNameOfWhole_keyiter hT (wpAny_pure ?_))))
 refine wpAny_bind (wpAny_fieldsOf hit rfl ?_)
 have hown : Builtin.Dict_items.ownsTuple "dict_keyiterator" = false := by decide
 simp only [hown, Bool.false_eq_true, if_false]
 have hn : (Value.ref a == Value.none) = false := rfl
 have hlt : i < L.length := (List.getElem?_eq_some_iff.mp hx).1
 show wpAny _ _ (if (Value.ref a == Value.none) = true then _ else _) _ _ _
 rw [hn, if_neg Bool.false_ne_true]
 refine wpAny_bind (wpAny_pure ?_)
 refine wpAny_bind (wpAny_dictEntries C.at_ rfl ?_)
 rw [if_neg sz0]
 refine wpAny_bind (wpAny_pure ?_)
 refine wpAny_bind (wpAny_dictEpoch C.at_ rfl ?_)
 rw [if_neg bn0]
 refine wpAny_pure ?_
 have hi : ¬ ((i : Int) < 0) := by exact lqi
 have he : (L.map ent).toArray[(i : Int).toNat]? = some (ent x) := by simp [hx]
 show wpAny _ _ (match (if (i : Int) < 0 then none else (L.map ent).toArray[(i : Int).toNat]?) with | some e => _ | none => _) _ _ _
 rw [if_neg hi, he]
 refine wpAny_bind (wpAny_bind (wpAny_typeNameOfWhole_keyiter hT (wpAny_pure ?_)))
 refine wpAny_bind (wpAny_isOneOf_keyiter hT ?_)
 simp only [hown, Bool.false_eq_true, if_false]
 show wpAny _ _ (setField (.ref it) 1 (rawInt ((i : Int) + 1)) >>= _) _ _ _
 refine wpAny_bind (wpAny_setField_rec hit (lqf rfl) fun h₁ he₁ hs₁ => ?_)
 have hT₁ : Shared.TypeIs ⟨h₁, g, dr, tk, os⟩ (.ref it) "dict_keyiterator" := ⟨_, he₁, rfl⟩
 refine wpAny_bind (wpAny_holding ?_)
 refine wpAny_bind (wpAny_isOneOf_keyiter hT₁ ?_)
 show wpAny _ _ (pure (ent x).key) _ _ _
 refine wpAny_pure (wpAny_pure ⟨_, rfl, wpAny_pure (hq h₁ ?_ hs₁)⟩)
 have e : ((i + 1 : Nat) : Int) = (i : Int) + 1 := by exact Int.natCast_succ _
 unfold kitO; rw [e]; exact he₁
theorem next_key_end (G : Good w B s) (h2 : it ≠ 2) {Q : Option Value → Shared → Prop} {E : Value → Shared → Prop} (hh : A.handled = none) (hit : s.heap.get? it = some (kitO a L.length L.length ep)) (C : IsC s.heap a d L ep)
  (hq : ∀ s', Kp [it] s s' → s'.gens = s.gens → Q none s') :
  wpAny (model P0 w) A (pyNext (.ref it)) Q E s := by
 obtain ⟨h, g, dr, tk, os⟩ := s
 have hT : Shared.TypeIs ⟨h, g, dr, tk, os⟩ (.ref it) "dict_keyiterator" := ⟨_, hit, rfl⟩
 unfold pyNext
 refine wpAny_bind (wpAny_attempt (wpAny_callSpecial?_slot (name := "__next__") hT F.slot_dict_keyiterator_next
  (wpAny_call_entry F.slot_dict_keyiterator_next hT F.entry_dict_keyiterator_next ?_ (F.args_dict_keyiterator_next_1 _))))
 refine wpAny_bind (wpAny_pure ?_)
 refine wpAny_bind (wpAny_bind (wpAny_bind (wpAny_typeNameOfWhole_keyiter hT (wpAny_pure ?_))))
 refine wpAny_bind (wpAny_fieldsOf hit rfl ?_)
 have hown : Builtin.Dict_items.ownsTuple "dict_keyiterator" = false := by decide
 simp only [hown, Bool.false_eq_true, if_false]
 have hn : (Value.ref a == Value.none) = false := rfl
 show wpAny _ _ (if (Value.ref a == Value.none) = true then _ else _) _ _ _
 rw [hn, if_neg Bool.false_ne_true]
 refine wpAny_bind (wpAny_pure ?_)
 refine wpAny_bind (wpAny_dictEntries C.at_ rfl ?_)
 rw [if_neg sz0]
 refine wpAny_bind (wpAny_pure ?_)
 refine wpAny_bind (wpAny_dictEpoch C.at_ rfl ?_)
 rw [if_neg bn0]
 refine wpAny_pure ?_
 have hi : ¬ ((L.length : Int) < 0) := by exact lqi
 have he : (L.map ent).toArray[(L.length : Int).toNat]? = none := by simp
 show wpAny _ _ (match (if (L.length : Int) < 0 then none else (L.map ent).toArray[(L.length : Int).toNat]?) with | some e => _ | none => _) _ _ _
 rw [if_neg hi, he]
 refine wpAny_bind (wpAny_bind (wpAny_typeNameOfWhole_keyiter hT (wpAny_pure ?_)))
 simp only [hown, Bool.false_eq_true, if_false]
 show wpAny _ _ (setField (.ref it) 0 .none >>= _) _ _ _
 refine wpAny_bind (wpAny_setField_rec hit (Nat.succ_pos _) fun h₁ he₁ hs₁ => ?_)
 refine jaT hh fun s' k1 k2 k3 k4 => ?_
 refine hq s' ((jaz (s := ⟨h, g, dr, tk, os⟩) hs₁ h2 ⟨_, he₁⟩ (Nat.le_refl _)).trans (jat k1 ?_ k3 k4 k2) |>.mono sm0) k2
 obtain ⟨o, e⟩ := G.two
 exact ⟨o, (hs₁.2 2 (Ne.symm h2)).trans e⟩
noncomputable def iitO (a : Addr) (i n ep : Nat) (out ok ov : Value) : Obj := ⟨.type "dict_itemiterator", none, .fields #[out, .bool false, .ref a, .int i 0, .int n 0, .int ep 0, ok, ov], #[]⟩
noncomputable def tupO (vs : Array Value) : Obj := ⟨.type "tuple", none, .seq vs 0, #[]⟩
theorem pair_new {i n ep : Nat} {ok ov k v : Value} {Q : Value → Shared → Prop} {E : Value → Shared → Prop} (hit : s.heap.get? it = some (iitO a i n ep .none ok ov))
  (hq : ∀ h', h'.get? it = some (iitO a i n ep (rawInt s.heap.objs.size) k v) → h'.get? s.heap.objs.size = some (tupO #[k, v]) → (∀ b o, b ≠ it → s.heap.get? b = some o → h'.get? b = some o) → Q (.ref s.heap.objs.size) { s with heap := h' }) :
  wpAny (model P0 w) A (Builtin.Dict_items.pairFromOwner (.ref it) 6 k v) Q E s := by
 unfold Builtin.Dict_items.pairFromOwner
 have hil : it < s.heap.objs.size := Heap.lt_size hit
 refine wpAny_bind (wpAny_newTuple ?_)
 have h2 : (s.heap.push (tupO #[k, v])).get? it = some (iitO a i n ep .none ok ov) := Heap.get?_push_of_some _ hit
 have ht : (s.heap.push (tupO #[k, v])).get? s.heap.objs.size = some (tupO #[k, v]) := Heap.get?_push_size _ rfl
 have hk : ∀ b o, b ≠ it → s.heap.get? b = some o → (s.heap.push (tupO #[k, v])).get? b = some o := fun b o Y e => Heap.get?_push_of_some _ e
 change wpAny _ _ _ _ _ { s with heap := s.heap.push (tupO #[k, v]) }
 generalize s.heap.push (tupO #[k, v]) = g1 at h2 ht hk
 refine wpAny_bind (wpAny_bind (wpAny_field h2 rfl (x := .none) rfl (wpAny_pure ?_)))
 simp only [if_true]
 refine wpAny_bind (wpAny_field h2 rfl (x := ok) rfl ?_)
 refine wpAny_bind (wpAny_field h2 rfl (x := ov) rfl ?_)
 refine wpAny_bind (wpAny_setField_rec h2 (Nat.le_succ _) fun g2 e2 s2 => ?_)
 refine wpAny_bind (wpAny_setField_rec e2 (lqf rfl) fun g3 e3 s3 => ?_)
 refine wpAny_bind (wpAny_setField_rec e3 (Nat.succ_pos _) fun g4 e4 s4 => ?_)
 refine wpAny_bind (wpAny_setField_rec e4 (lqf rfl) fun g5 e5 s5 => ?_)
 have sb : ∀ b, b ≠ it → g5.get? b = g1.get? b := fun b nb => (s5.2 b nb).trans ((s4.2 b nb).trans ((s3.2 b nb).trans (s2.2 b nb)))
 exact wpAny_bind (wpAny_letGo (wpAny_pure (hq g5 e5 ((sb _ (Nat.ne_of_gt hil)).trans ht) (fun b o nb e => (sb b nb).trans (hk b o nb e)))))
theorem next_item {x : En} {ok ov : Value} {Q : Option Value → Shared → Prop} {E : Value → Shared → Prop} (hit : s.heap.get? it = some (iitO a i L.length ep .none ok ov)) (C : IsC s.heap a d L ep) (hx : L[i]? = some x)
  (hq : ∀ h', h'.get? it = some (iitO a (i + 1) L.length ep (rawInt s.heap.objs.size) (.int x.1 x.2.1) (.int x.2.2.1 x.2.2.2)) → h'.get? s.heap.objs.size = some (tupO #[.int x.1 x.2.1, .int x.2.2.1 x.2.2.2]) →
   (∀ b o, b ≠ it → s.heap.get? b = some o → h'.get? b = some o) → Q (some (.ref s.heap.objs.size)) { s with heap := h' }) :
  wpAny (model P0 w) A (pyNext (.ref it)) Q E s := by
 obtain ⟨h, g, dr, tk, os⟩ := s
 have hT : Shared.TypeIs ⟨h, g, dr, tk, os⟩ (.ref it) "dict_itemiterator" := ⟨_, hit, rfl⟩
 unfold pyNext
 refine wpAny_bind (wpAny_attempt (wpAny_callSpecial?_slot (name := "__next__") hT F.slot_dict_itemiterator_next
  (wpAny_call_entry F.slot_dict_itemiterator_next hT F.entry_dict_itemiterator_next ?_ (F.args_dict_itemiterator_next_1 _))))
 refine wpAny_bind (wpAny_pure ?_)
 refine wpAny_bind (wpAny_bind (wpAny_bind (wpAny_typeNameOfWhole_itemiter hT (wpAny_pure ?_))))
 refine wpAny_bind (wpAny_fieldsOf hit rfl ?_)
 have hown : Builtin.Dict_items.ownsTuple "dict_itemiterator" = true := by decide
 simp only [hown, if_true]
 have hn : (Value.ref a == Value.none) = false := rfl
 have hlt : i < L.length := (List.getElem?_eq_some_iff.mp hx).1
 show wpAny _ _ (if (Value.ref a == Value.none) = true then _ else _) _ _ _
 rw [hn, if_neg Bool.false_ne_true]
 refine wpAny_bind (wpAny_pure ?_)
 refine wpAny_bind (wpAny_dictEntries C.at_ rfl ?_)
 rw [if_neg sz0]
 refine wpAny_bind (wpAny_pure ?_)
 refine wpAny_bind (wpAny_dictEpoch C.at_ rfl ?_)
 rw [if_neg bn0]
 refine wpAny_pure ?_
 have hi : ¬ ((i : Int) < 0) := by exact lqi
 have he : (L.map ent).toArray[(i : Int).toNat]? = some (ent x) := by simp [hx]
 show wpAny _ _ (match (if (i : Int) < 0 then none else (L.map ent).toArray[(i : Int).toNat]?) with | some e => _ | none => _) _ _ _
 rw [if_neg hi, he]
 refine wpAny_bind (wpAny_bind (wpAny_typeNameOfWhole_itemiter hT (wpAny_pure ?_)))
 refine wpAny_bind (wpAny_isOneOf_itemiter hT ?_)
 simp only [hown, if_true]
 show wpAny _ _ (setField (.ref it) 3 (rawInt ((i : Int) + 1)) >>= _) _ _ _
 refine wpAny_bind (wpAny_setField_rec hit (lqf rfl) fun h₁ he₁ hs₁ => ?_)
 have hT₁ : Shared.TypeIs ⟨h₁, g, dr, tk, os⟩ (.ref it) "dict_itemiterator" := ⟨_, he₁, rfl⟩
 have e1 : ((i + 1 : Nat) : Int) = (i : Int) + 1 := by exact Int.natCast_succ _
 have he₂ : h₁.get? it = some (iitO a (i + 1) L.length ep .none ok ov) := by unfold iitO; rw [e1]; exact he₁
 refine wpAny_bind (wpAny_holding ?_)
 refine wpAny_bind (wpAny_isOneOf_itemiter hT₁ ?_)
 refine wpAny_bind (wpAny_isOneOf_itemiter hT₁ ?_)
 have hz : h₁.objs.size = h.objs.size := hs₁.1
 refine pair_new (s := ⟨h₁, g, dr, tk, os⟩) he₂ fun h' q1 q2 q3 => ?_
 rw [hz] at q1 q2
 refine wpAny_pure ⟨_, rfl, wpAny_pure ?_⟩
 rw [hz]
 exact hq h' q1 q2 fun b o nb e => q3 b o nb ((hs₁.2 b nb).trans e)
theorem jct (G : Good w B s) (h2 : it ≠ 2) {ok ov : Value} {Q : Option Value → Shared → Prop} {E : Value → Shared → Prop} (hh : A.handled = none) (hit : s.heap.get? it = some (iitO a L.length L.length ep .none ok ov)) (C : IsC s.heap a d L ep)
  (hq : ∀ s', Kp [it] s s' → s'.gens = s.gens → Q none s') :
  wpAny (model P0 w) A (pyNext (.ref it)) Q E s := by
 obtain ⟨h, g, dr, tk, os⟩ := s
 have hT : Shared.TypeIs ⟨h, g, dr, tk, os⟩ (.ref it) "dict_itemiterator" := ⟨_, hit, rfl⟩
 unfold pyNext
 refine wpAny_bind (wpAny_attempt (wpAny_callSpecial?_slot (name := "__next__") hT F.slot_dict_itemiterator_next
  (wpAny_call_entry F.slot_dict_itemiterator_next hT F.entry_dict_itemiterator_next ?_ (F.args_dict_itemiterator_next_1 _))))
 refine wpAny_bind (wpAny_pure ?_)
 refine wpAny_bind (wpAny_bind (wpAny_bind (wpAny_typeNameOfWhole_itemiter hT (wpAny_pure ?_))))
 refine wpAny_bind (wpAny_fieldsOf hit rfl ?_)
 have hown : Builtin.Dict_items.ownsTuple "dict_itemiterator" = true := by decide
 simp only [hown, if_true]
 have hn : (Value.ref a == Value.none) = false := rfl
 show wpAny _ _ (if (Value.ref a == Value.none) = true then _ else _) _ _ _
 rw [hn, if_neg Bool.false_ne_true]
 refine wpAny_bind (wpAny_pure ?_)
 refine wpAny_bind (wpAny_dictEntries C.at_ rfl ?_)
 rw [if_neg sz0]
 refine wpAny_bind (wpAny_pure ?_)
 refine wpAny_bind (wpAny_dictEpoch C.at_ rfl ?_)
 rw [if_neg bn0]
 refine wpAny_pure ?_
 have hi : ¬ ((L.length : Int) < 0) := by exact lqi
 have he : (L.map ent).toArray[(L.length : Int).toNat]? = none := by simp
 show wpAny _ _ (match (if (L.length : Int) < 0 then none else (L.map ent).toArray[(L.length : Int).toNat]?) with | some e => _ | none => _) _ _ _
 rw [if_neg hi, he]
 refine wpAny_bind (wpAny_bind (wpAny_typeNameOfWhole_itemiter hT (wpAny_pure ?_)))
 simp only [hown, if_true]
 show wpAny _ _ (setField (.ref it) 2 .none >>= _) _ _ _
 refine wpAny_bind (wpAny_setField_rec hit (lqf rfl) fun h₁ he₁ hs₁ => ?_)
 refine jaT hh fun s' k1 k2 k3 k4 => ?_
 refine hq s' ((jaz (s := ⟨h, g, dr, tk, os⟩) hs₁ h2 ⟨_, he₁⟩ (Nat.le_refl _)).trans (jat k1 ?_ k3 k4 k2) |>.mono sm0) k2
 obtain ⟨o, e⟩ := G.two
 exact ⟨o, (hs₁.2 2 (Ne.symm h2)).trans e⟩
end
noncomputable abbrev Wp {α : Type} (w : World) (A : Around) (t : Sem α) (Q : α → Shared → Prop) (s : Shared) : Prop := wpAny (model P0 w) A t Q (fun Y Y => False) s
theorem lW {α : Type} {w : World} {A : Around} {t : Sem α} {Q : α → Shared → Prop} {s : Shared} (h : let R := Q; Wp w A t R s) : Wp w A t Q s := h
theorem Wp.use {α : Type} {w : World} {A : Around} {t : Sem α} {Q Q' : α → Shared → Prop} {E : Value → Shared → Prop} {s : Shared} (h : Wp w A t Q s) (hq : ∀ v s', Q v s' → Q' v s') : wpAny (model P0 w) A t Q' E s :=
 wpAny_mono h hq fun Y Y z => z.elim
theorem Wp.useE {α : Type} {w : World} {A : Around} {t : Sem α} {x : α} {P : Shared → Prop} {Q' : α → Shared → Prop} {E : Value → Shared → Prop} {s : Shared} (h : Wp w A t (fun v s' => v = x ∧ P s') s) (hq : ∀ s', P s' → Q' x s') : wpAny (model P0 w) A t Q' E s :=
 h.use fun v s' hx => by cases hx.1; exact hq s' hx.2
theorem Wp.useE1 {α β : Type} {w : World} {A : Around} {t : Sem α} {f : β → α} {P : β → Shared → Prop} {Q' : α → Shared → Prop} {E : Value → Shared → Prop} {s : Shared} (h : Wp w A t (fun v s' => ∃ x, v = f x ∧ P x s') s) (hq : ∀ x s', P x s' → Q' (f x) s') : wpAny (model P0 w) A t Q' E s :=
 h.use fun v s' hx => by obtain ⟨x, e, p⟩ := hx; cases e; exact hq x s' p
theorem Wp.useE2 {α β0 β1 : Type} {w : World} {A : Around} {t : Sem α} {f : β0 → β1 → α} {P : β0 → β1 → Shared → Prop} {Q' : α → Shared → Prop} {E : Value → Shared → Prop} {s : Shared} (h : Wp w A t (fun v s' => ∃ x0 x1, v = f x0 x1 ∧ P x0 x1 s') s) (hq : ∀ x0 x1 s', P x0 x1 s' → Q' (f x0 x1) s') : wpAny (model P0 w) A t Q' E s :=
 h.use fun v s' hx => by obtain ⟨x0, x1, e, p⟩ := hx; cases e; exact hq x0 x1 s' p
theorem Wp.useE3 {α β0 β1 β2 : Type} {w : World} {A : Around} {t : Sem α} {f : β0 → β1 → β2 → α} {P : β0 → β1 → β2 → Shared → Prop} {Q' : α → Shared → Prop} {E : Value → Shared → Prop} {s : Shared} (h : Wp w A t (fun v s' => ∃ x0 x1 x2, v = f x0 x1 x2 ∧ P x0 x1 x2 s') s) (hq : ∀ x0 x1 x2 s', P x0 x1 x2 s' → Q' (f x0 x1 x2) s') : wpAny (model P0 w) A t Q' E s :=
 h.use fun v s' hx => by obtain ⟨x0, x1, x2, e, p⟩ := hx; cases e; exact hq x0 x1 x2 s' p
theorem Wp.useE4 {α β0 β1 β2 β3 : Type} {w : World} {A : Around} {t : Sem α} {f : β0 → β1 → β2 → β3 → α} {P : β0 → β1 → β2 → β3 → Shared → Prop} {Q' : α → Shared → Prop} {E : Value → Shared → Prop} {s : Shared} (h : Wp w A t (fun v s' => ∃ x0 x1 x2 x3, v = f x0 x1 x2 x3 ∧ P x0 x1 x2 x3 s') s) (hq : ∀ x0 x1 x2 x3 s', P x0 x1 x2 x3 s' → Q' (f x0 x1 x2 x3) s') : wpAny (model P0 w) A t Q' E s :=
 h.use fun v s' hx => by obtain ⟨x0, x1, x2, x3, e, p⟩ := hx; cases e; exact hq x0 x1 x2 x3 s' p
theorem Wp.useP {α β0 : Type} {w : World} {A : Around} {t : Sem α} {f : β0 → α} {P : Shared → Prop} {Q' : α → Shared → Prop} {E : Value → Shared → Prop} {s : Shared} (h : Wp w A t (fun v s' => (∃ x0, v = f x0) ∧ P s') s) (hq : ∀ x0 s', P s' → Q' (f x0) s') : wpAny (model P0 w) A t Q' E s :=
 h.use fun v s' hx => by obtain ⟨⟨x0, e⟩, p⟩ := hx; cases e; exact hq x0 s' p
theorem Wp.useP2 {α β0 β1 : Type} {w : World} {A : Around} {t : Sem α} {f : β0 → β1 → α} {P : Shared → Prop} {Q' : α → Shared → Prop} {E : Value → Shared → Prop} {s : Shared} (h : Wp w A t (fun v s' => (∃ x0 x1, v = f x0 x1) ∧ P s') s) (hq : ∀ x0 x1 s', P s' → Q' (f x0 x1) s') : wpAny (model P0 w) A t Q' E s :=
 h.use fun v s' hx => by obtain ⟨⟨x0, x1, e⟩, p⟩ := hx; cases e; exact hq x0 x1 s' p
theorem coE {M : Model} {A : Around} {c : Code} {x : Result} {P : Shared → Prop} {R : Result → Shared → Prop} {s : Shared} (h : codeAny M A c (fun r s' => r = x ∧ P s') s) (hq : ∀ s', P s' → R x s') : codeAny M A c R s :=
 codeAny_mono h fun r s' hx => by cases hx.1; exact hq s' hx.2
theorem coE2 {β0 β1 : Type} {M : Model} {A : Around} {c : Code} {f : β0 → β1 → Result} {P : β0 → β1 → Shared → Prop} {R : Result → Shared → Prop} {s : Shared} (h : codeAny M A c (fun r s' => ∃ x0 x1, r = f x0 x1 ∧ P x0 x1 s') s) (hq : ∀ x0 x1 s', P x0 x1 s' → R (f x0 x1) s') : codeAny M A c R s :=
 codeAny_mono h fun r s' hx => by obtain ⟨x0, x1, e, p⟩ := hx; cases e; exact hq x0 x1 s' p
theorem coE3 {β0 β1 β2 : Type} {M : Model} {A : Around} {c : Code} {f : β0 → β1 → β2 → Result} {P : β0 → β1 → β2 → Shared → Prop} {R : Result → Shared → Prop} {s : Shared} (h : codeAny M A c (fun r s' => ∃ x0 x1 x2, r = f x0 x1 x2 ∧ P x0 x1 x2 s') s) (hq : ∀ x0 x1 x2 s', P x0 x1 x2 s' → R (f x0 x1 x2) s') : codeAny M A c R s :=
 codeAny_mono h fun r s' hx => by obtain ⟨x0, x1, x2, e, p⟩ := hx; cases e; exact hq x0 x1 x2 s' p
theorem coE4 {β0 β1 β2 β3 : Type} {M : Model} {A : Around} {c : Code} {f : β0 → β1 → β2 → β3 → Result} {P : β0 → β1 → β2 → β3 → Shared → Prop} {R : Result → Shared → Prop} {s : Shared} (h : codeAny M A c (fun r s' => ∃ x0 x1 x2 x3, r = f x0 x1 x2 x3 ∧ P x0 x1 x2 x3 s') s) (hq : ∀ x0 x1 x2 x3 s', P x0 x1 x2 x3 s' → R (f x0 x1 x2 x3) s') : codeAny M A c R s :=
 codeAny_mono h fun r s' hx => by obtain ⟨x0, x1, x2, x3, e, p⟩ := hx; cases e; exact hq x0 x1 x2 x3 s' p
theorem Rm.in1 {n : Nat} {A : Around} (r : Rm n A) : Rm (n + 1) A.in1 := ⟨r.1, (by have := r.2.1; show A.depth ≤ n + 1 + 310; exact Nat.le_succ_of_le ‹_›), by have := r.2.2; show A.units + 1 ≤ 10 * (n + 1); exact lqo ‹_› (by rfl)⟩
theorem Rm.le {n m : Nat} {A : Around} (r : Rm n A) (h : n ≤ m) : Rm m A := ⟨r.1, Nat.le_trans r.2.1 (Nat.add_le_add_right h 310), by have := r.2.2; omega⟩
noncomputable def fnD (K : Frag) (f : Addr) : Option (FuncData × List Stmt) := match K.lookup f with
 | some ⟨_, _, .func fd, _⟩ => match fd.body, fd.code with
  | .stmts b, .ref c => match K.lookup c with
   | some ⟨_, _, .fields vs, _⟩ => match (vs[1]? : Option Value) with
    | some (.str q _) => cond (q == fd.qualname && fd.scope.kind == .function && !fd.scope.isGenerator && !fd.scope.isCoroutine && fd.globals == 3 && fd.builtins == 0) (some (fd, b)) none
    | _ => none
   | _ => none
  | _, _ => none
 | _ => none
theorem cnd2 {α : Type} {b : Bool} {x : Option α} {y : α} (h : cond b x none = some y) : b = true ∧ x = some y := by
 cases b
 ·exact absurd h.symm (Option.some_ne_none y)
 ·exact ⟨rfl, h⟩
set_option tactic.hygienic true in
theorem fnD_of {K : Frag} {f : Addr} {fd : FuncData} {b : List Stmt} (h : fnD K f = some (fd, b)) : ∃ fo c co vs tq, K.lookup f = some fo ∧ fo.data = .func fd ∧ fd.code = .ref c ∧ K.lookup c = some co ∧ co.data = .fields vs ∧ vs[1]? = some (.str fd.qualname tq) ∧ fd.body = .stmts b ∧
  fd.scope.kind = .function ∧ fd.scope.isGenerator = false ∧ fd.scope.isCoroutine = false ∧ fd.globals = 3 ∧ fd.builtins = 0 := by
 unfold fnD at h
 split at h
 ·rename_i ho
  split at h
  ·rename_i hbody hcode
   split at h
   ·rename_i hc
    split at h
    ·rename_i hq
     obtain ⟨hall, e⟩ := cnd2 h
     cases e
     simp only [Bool.and_eq_true, beq_iff_eq, Bool.not_eq_true'] at hall
     refine aG ?_; intro gO; obtain ⟨⟨⟨⟨⟨h1, h2⟩, h3⟩, h4⟩, h6⟩, h7⟩ := hall; unfold gO; clear gO
     subst h1
     exact ⟨_, _, _, _, _, ho, rfl, hcode, hc, rfl, hq, hbody, h2, h3, h4, h6, h7⟩
    ·cases h
   ·cases h
  ·cases h
 ·cases h
theorem ncell {sc : Scope} (h : sc.names.all (fun x => x.2 != .cell) = true) : ∀ x ∈ sc.names, x.2 ≠ .cell := fun x m => bne_iff_ne.mp (List.all_eq_true.mp h x m)
noncomputable def fnChk (K : Frag) (f : Addr) : Option (FuncData × List Stmt) := (fnD K f).bind fun r => cond (r.1.closure.isEmpty && r.1.scope.names.all fun x => x.2 != .cell) (some r) none
noncomputable def fdAt (K : Frag) (f : Addr) : FuncData := match K.lookup f with
 | some ⟨_, _, .func fd, _⟩ => fd
 | _ => default
noncomputable def fenv (f L : Addr) (fd : FuncData) : Env := { scope := fd.scope, locals := L, globals := 3, cells := [], qual := fd.qualname ++ ".<locals>.", func := some f, code := fd.code, frame := some L, builtins := 0 }
noncomputable def isStrV : Value → Bool
 | .str .. => true
 | _ => false
noncomputable def nsChk (K : Frag) (ns : Addr) : Bool := match K.lookup ns with
 | some ⟨_, _, .dict es _, _⟩ => es.toList.all fun e => isStrV e.key
 | _ => false
noncomputable def nsMapOf (K : Frag) (ns : Addr) : Str → Option Value := match K.lookup ns with
 | some ⟨_, _, .dict es _, _⟩ => nsFind es
 | _ => fun Y => none
set_option tactic.hygienic true in
theorem ns_of {K : Frag} {h : Heap} (X : K.In h) {ns : Addr} (e : nsChk K ns = true) : h.Ns ns (nsMapOf K ns) := by
 unfold nsChk at e
 unfold nsMapOf
 split at e
 ·rename_i c d es ep sl ho
  refine ⟨_, es, ep, X _ _ ho, rfl, fun x hx => ?_, fun Y => rfl⟩
  have := List.all_eq_true.mp e x (Array.mem_toList_iff.mpr hx)
  cases hk : x.key <;> rw [hk] at this <;> first | exact ⟨_, _, rfl⟩ | cases this
 ·cases e
theorem jb7 {w : World} {h : Heap} (X : (KH w.params).In h) : h.NoLimit :=
 ⟨_, ns_of X (ns := 2) (by kernel_rfl), by kernel_rfl⟩
structure EnvOk (env : Env) (sc : Scope) : Prop where
 scq : env.scope = sc
 gl : env.globals = 3
 bu : env.builtins = 0
 fn : sc.kind = .function
theorem Rm.deeper {n : Nat} {A : Around} (r : Rm n A) (env : Env) : Rm (n + 1) (A.deeper env) := ⟨r.1, (by have := r.2.1; show A.depth + 1 ≤ n + 1 + 310; omega), by have := r.2.2; show A.units + 3 ≤ 10 * (n + 1); exact lqo ‹_› (by rfl)⟩
section
variable {w : World} {B : Heap} {A : Around} {s : Shared}
theorem call_fn {f : Addr} {fd : FuncData} {body : List Stmt} {args : List Value} {binds : List (Str × Value)} {R : Result → Shared → Prop} {sc : Scope} {n : Nat} (G : Good w B s) (hA : Rm n A) (hn : n < 600) (hf : fnChk (KH w.params) f = some (fd, body)) (hsc : fd.scope = sc)
  (hb : bindArgs fd ⟨args, []⟩ = pure binds) (hl : binds.all (fun x => sc.names.lookup x.1 == some .local) = true)
  (h : ∀ (env : Env) (A' : Around) (s₁ : Shared), EnvOk env sc → Rm (n + 1) A' → s₁.heap.Ns env.locals (fun x => binds.reverse.lookup x) → s.heap.get? env.locals = none → Kp [] s s₁ → s₁.gens = s.gens →
   Wp w A' (execs body env) (fun fl s' => R (.ok (.ret (match fl with | .ret v => v | _ => .none))) s') s₁) :
  codeAny (model P0 w) A (.call (.ref f) ⟨args, []⟩) R s := by
 refine aG ?_; intro gO; obtain ⟨r, hd, hf⟩ := Option.bind_eq_some_iff.mp hf; unfold gO; clear gO
 obtain ⟨h8, hf⟩ := cnd2 hf
 cases hf
 obtain ⟨h5, h8⟩ := Bool.and_eq_true_iff.mp h8
 have h5 := List.isEmpty_iff.mp h5
 have h8 := ncell h8
 refine aG ?_; intro gO; obtain ⟨fo, c, co, vs, tq, ho, hfo, hcode, hc, hco, hq, hbody, h2, h3, h4, h6, h7⟩ := fnD_of hd; unfold gO; clear gO
 dsimp only at *
 have hroom : A.depth < recursionLimit := Nat.lt_of_le_of_lt hA.2.1 (Nat.lt_of_lt_of_le (Nat.add_lt_add_right hn 310) (by decide))
 have hl' : ∀ x ∈ binds, fd.scope.names.lookup x.1 = some .local := fun x hx => by rw [hsc]; exact eq_of_beq (List.all_eq_true.mp hl x hx)
 have ho' := G.k _ _ ho
 have hc' := G.k _ _ hc
 refine codeAny_call_function hroom ho' hfo h4 h3 hbody ⟨c, _, vs, tq, hcode, hc', hco, hq⟩ ?_
 rw [hb]
 refine wpAny_pure (wpAny_newFunctionEnv h8 hl' (fun h₁ hns hsb => ?_) h2)
 have up : ∀ b o, s.heap.get? b = some o → h₁.get? b = some o := fun b o e => hsb.extBut b o (Nat.ne_of_lt (Heap.lt_size e)) (Heap.get?_push_of_some _ e)
 refine ⟨jb7 fun a o e => up _ _ (G.k _ _ e), ?_⟩
 have henv : newEnv fd.scope s.heap.objs.size fd.globals fd.closure (fd.qualname ++ ".<locals>.") (some f) fd.code none fd.builtins = fenv f s.heap.objs.size fd := by
  unfold newEnv fenv; rw [h5, h6, h7]
 rw [henv]
 have fresh : s.heap.get? s.heap.objs.size = none := by
  cases e : s.heap.get? s.heap.objs.size with
  | none => rfl
  | some o => exact absurd (Heap.lt_size e) (Nat.lt_irrefl _)
 exact codeAny_func (wpAny_mono (h (fenv f s.heap.objs.size fd) (A.deeper _) { s with heap := h₁, toks := s.toks + binds.length } ⟨hsc, rfl, rfl, by rw [hsc] at h2; exact h2⟩ (hA.deeper _) hns fresh (jat (s' := { s with heap := h₁, toks := s.toks + binds.length }) up G.two rfl (Nat.le_add_right _ _) rfl) rfl) (fun Y Y z => z) fun Y Y z => z.elim)
end
noncomputable def cnt (L : List En) (k : Int) : Int := match getE L k with | some e => e.2.2.1 | none => 0
section
variable {w : World} {B : Heap} {A : Around} {s : Shared} {a b d it : Addr} {L : List En} {ep i : Nat}
theorem IsC.kp {S : List Addr} {s' : Shared} (C : IsC s.heap a d L ep) (k : Kp S s s') (h1 : a ∉ S) (h2 : d ∉ S) : IsC s'.heap a d L ep :=
 ⟨k.keep _ _ C.at_ rfl h1, k.keep _ _ C.ow rfl h2, C.tp⟩
theorem IsC.ne1 (G : Good w B s) (C : IsC s.heap a d L ep) : (a == sysModules) = false := by
 rw [beq_eq_false_iff_ne]
 intro q
 have : ((KH w.params).lookup 1).map (fun o => o.cls) = some (.type "dict") := by kernel_rfl
 obtain ⟨o, e, ho⟩ := Option.map_eq_some_iff.mp this
 have := G.k _ _ e
 rw [show (1 : Addr) = a from q.symm, C.at_] at this
 cases this
 cases ho
theorem IsC.ne {h : Heap} (C : IsC h a d L ep) : d ≠ a := fun q => by
 have := C.ow
 rw [q, C.at_] at this
 cases this
theorem kh_fn894 (P : Params) : ((KH P).lookup 894).map (fun o => o.cls) = some (.type "function") := by kernel_rfl
theorem jak {n : Nat} (h : s.toks ≤ n) : Kp [] s { s with toks := n } := ⟨fun Y Y e Y Y => e, fun Y o e => ⟨o, e⟩, fun Y Y o => o, fun Y => rfl, rfl, h, id⟩
theorem fn_miss (P : Params) : fnChk (KH P) 894 = some (fdAt (KH P) 894, ja2 (ctrS "__missing__")) := by kernel_rfl
theorem missing_kp {n : Nat} (G : Good w B s) (hR : Rm n A) (hn : n < 600) {k : Int} {t : Nat} : Wp w A (call (.ref 894) [.ref a, .int k t]) (fun v s' => ∃ t', v = .int 0 t' ∧ 0 ≤ t' ∧ Kp [] s s' ∧ s'.gens = s.gens) s := by
 refine wpAny_call (call_fn G hR hn (fn_miss _) (sc := jas (ctrS "__missing__")) (by kernel_rfl) (binds := [("self", .ref a), ("key", .int k t)]) (by kernel_rfl) (by kernel_rfl) fun env A' s1 O R1 hn1 fr K1 g1 => ?_)
 rw [show ja2 (ctrS "__missing__") = [(ja2 (ctrS "__missing__"))[0]!] by kernel_rfl]
 exact wpAny_execs_cons (wpAny_Return_some (wpAny_Constant_int ⟨_, rfl, Nat.zero_le _, (K1.trans (jak (Nat.le_succ _))).mono al0, g1⟩))
theorem jaC {k : Int} {t : Nat} (G : Good w B s) (C : IsC s.heap a d L ep) (hR : Rm 299 A) :
  Wp w A (getItem (.ref a) (.int k t)) (fun v s' => ∃ t', v = .int (cnt L k) t' ∧ 0 ≤ t' ∧ Kp [] s s' ∧ s'.gens = s.gens) s := by
 cases he : getE L k with
 | some e =>
  refine getitem_found G C he ⟨_, ?_, (C.tp e (List.mem_of_find?_eq_some he)).2, jak (Nat.le_succ _), rfl⟩
  unfold cnt; rw [he]
 | none =>
  refine getItem_ctr G C ?_
  refine jbC (n := "__getitem__") (.inl (by decide +kernel)) (by decide +kernel) (by decide +kernel) F.entry_dict_getitem (F.args_dict_getitem_2 _ _) (jbp G C _) ?_
  show wpAny _ _ (dictGet a (.int k t) >>= _) _ _ s
  refine wpAny_bind (jca C ?_)
  rw [he]
  refine wpAny_bind (wpAny_missed_other (C.ne1 G) ?_)
  have G1 : Good w B { s with toks := s.toks + 1 } := G.kp (jak (Nat.le_succ _)) al0
  have L1 := C.type (w := w)
  have L2 := C.spec G (f2 w.params)
  obtain ⟨h, g, dr, tk, os⟩ := s
  refine wpAny_bind (L1.at ?_)
  rw [if_pos (by decide)]
  obtain ⟨fo, e1, e2⟩ := Option.map_eq_some_iff.mp (kh_fn894 w.params)
  refine wpAny_bind (jbD (s := ⟨h, g, dr, tk + 1, os⟩) L2 (G1.k _ _ e1) e2 ?_)
  refine (missing_kp G1 hR.in1 (lqe rfl)).use fun v s' hx0 => ?_
  obtain ⟨t', h1, h2, h3, h4⟩ := hx0
  refine wpAny_bind (wpAny_rule (wpAny_pure ⟨v, rfl, t', ?_, h2, ?_, h4⟩))
  ·rw [h1]; unfold cnt; rw [he]
  ·exact ((jak (s := ⟨h, g, dr, tk, os⟩) (Nat.le_succ tk)).trans h3).mono al0
theorem f3 (P : Params) : findIn (KH P) (.ref 1093) (PySem.Str.ofString "__setitem__") = some (some (.builtin "dict.__setitem__")) := by kernel_rfl
theorem f4 (P : Params) : findIn (KH P) (.ref 1093) (PySem.Str.ofString "__contains__") = some (some (.builtin "dict.__contains__")) := by kernel_rfl
theorem notOrd {name : String} {args : List Value} (G : Good w B s) (C : IsC s.heap a d L ep) : Looks (model P0 w) s.heap (Dict.notOrdered name ⟨.ref a :: args, []⟩) () := by
 unfold Dict.notOrdered
 split
 ·refine C.type.andThen ?_
  rw [if_pos (by decide)]
  exact (jbp G C _).andThen (by rw [if_neg (by decide)]; exact .now)
 ·exact .now
theorem ty_setitem (h : Heap) : Looks (model P0 w) h (typeOf (.builtin "dict.__setitem__")) (.type "wrapper_descriptor") := Looks.of_pure (by show builtinType _ = _; rw [builtinType_eq_fast]; kernel_rfl)
theorem jbX {k : Int} {t c t' : Nat} {cc : Int} (G : Good w B s) (C : IsC s.heap a d L ep) (hk : getE L k = none) (hL : L.length ≤ 100) (ht : 0 ≤ t) (ht' : 0 ≤ t') :
  Wp w A (setItem (.ref a) (.int k t) (.int cc t')) (fun Y s' => IsC s'.heap a d (L ++ [(k, t, cc, t')]) (ep + 1) ∧ Kp [a] s s' ∧ s'.gens = s.gens) s := by
 have L1 := C.spec G (f3 w.params)
 have L3 := seqKey_ctr (w := w) (v := .int k t) (name := "__setitem__") G C
 have L4 := notOrd (name := "__setitem__") (args := [.int k t, .int cc t']) G C
 have nd : d ≠ a := C.ne
 have n2 : a ≠ 2 := fun q => by
  have : ((KH w.params).lookup 2).map (fun o => o.cls) = some .none := by kernel_rfl
  obtain ⟨o, e, ho⟩ := Option.map_eq_some_iff.mp this
  have := G.k _ _ e
  rw [← q, C.at_] at this
  cases this
  cases ho
 have I := jbp G C (.type "dict")
 unfold setItem
 refine wpAny_holding (wpAny_bind ?_)
 obtain ⟨h, g, dr, tk, os⟩ := s
 refine L3.at (wpAny_bind ?_)
 refine callSp_built L1 (.inl (ty_setitem _)) ?_
 refine jbC (n := "__setitem__") (.inr (by decide +kernel)) (by decide +kernel) (by decide +kernel) F.entry_dict_setitem (F.args_dict_setitem_3 _ _ _) I ?_
 show wpAny _ _ (Dict.notOrdered "__setitem__" ⟨[.ref a, .int k t, .int cc t'], []⟩ >>= _) _ _ _
 refine wpAny_bind (L4.at ?_)
 show wpAny _ _ (dictSet a (.int k t) (.int cc t') >>= _) _ _ _
 refine wpAny_bind ?_
 unfold dictSet
 refine wpAny_holding (wpAny_bind (wpAny_pyHash_int ?_))
 unfold dictSetHashed
 refine wpAny_holding (wpAny_bind (wpAny_dictFind_int (s := ⟨h, g, dr, tk + 1, os⟩) C.at_ rfl (ints_ent L) ?_))
 have hi : (L.map ent).toArray.findIdx? (fun e => Value.isInt k e.key) = none := by
  have := findBy_of_findIdx? Value.isInt (L.map ent).toArray k
  rw [jbZ, hk] at this
  cases e : (L.map ent).toArray.findIdx? (fun e => Value.isInt k e.key) with
  | none => rfl
  | some i =>
   rw [e] at this
   dsimp only at this
   have lt := (Array.findIdx?_eq_some_iff_findIdx_eq.mp e).1
   rw [Array.getElem?_eq_getElem lt] at this
   cases this
 rw [hi]
 refine wpAny_bind (wpAny_rule (wpAny_updateDictKeys (s := ⟨h, g, dr, tk + 1, os⟩) C.at_ rfl ?_ (by simp; exact Nat.le_trans hL (by decide)) (Nat.le_of_eq (Array.size_push ..))))
 refine wpAny_pure ⟨_, rfl, wpAny_pure ⟨⟨?_, ?_, ?_⟩, ?_, rfl⟩⟩
 ·refine (Heap.get?_update_self _ C.at_ rfl).trans ?_
  simp [ctrO, Obj.mapDictKeys, ent]
 ·exact ((Heap.SameBut.update ..).2 d nd).trans C.ow
 ·intro e he
  rcases List.mem_append.mp he with he | he
  ·exact C.tp e he
  ·cases List.mem_singleton.mp he; exact ⟨ht, ht'⟩
 ·exact jaz (s := ⟨h, g, dr, tk, os⟩) (Heap.SameBut.update ..) n2 ⟨_, Heap.get?_update_self _ C.at_ rfl⟩ (Nat.le_succ _)
theorem callSpU_built {self : Value} {name : Str} {id : String} {args : List Value} {refuse : Sem Value} {Q : Option Value → Shared → Prop} {E : Value → Shared → Prop}
  (h1 : Looks (model P0 w) s.heap (specialOf self name) (some (.builtin id))) (h2 : Looks (model P0 w) s.heap (typeOf (.builtin id)) (.type "wrapper_descriptor") ∨ Looks (model P0 w) s.heap (typeOf (.builtin id)) (.type "method_descriptor"))
  (hc : wpAny (model P0 w) A (call (.builtin id) (self :: args)) (fun v => Q (some v)) E s) : wpAny (model P0 w) A (callSpecialUnlessNone? self name args refuse) Q E s := by
 obtain ⟨h, g, d', tk, os⟩ := s
 unfold callSpecialUnlessNone?
 refine wpAny_bind (h1.at ?_)
 refine wpAny_holding (wpAny_bind ?_)
 unfold bindSpecial
 have fin : wpAny (model P0 w) A (call (.builtin id) ([self] ++ args) [] >>= fun v => pure (some v)) Q E ⟨h, g, d', tk, os⟩ :=
  wpAny_bind (wpAny_mono hc (fun v s' h' => wpAny_pure h') fun Y Y h' => h')
 rcases h2 with h2 | h2
 ·refine wpAny_bind (h2.at ?_)
  rw [if_pos (by decide)]
  exact wpAny_pure fin
 ·refine wpAny_bind (h2.at ?_)
  rw [if_pos (by decide)]
  exact wpAny_pure fin
theorem ty_contains (h : Heap) : Looks (model P0 w) h (typeOf (.builtin "dict.__contains__")) (.type "method_descriptor") := Looks.of_pure (by show builtinType _ = _; rw [builtinType_eq_fast]; kernel_rfl)
theorem contains_ctr {k : Int} {t : Nat} (G : Good w B s) (C : IsC s.heap a d L ep) :
  Wp w A (contains (.ref a) (.int k t)) (fun b s' => b = (getE L k).isSome ∧ Kp [] s s' ∧ s'.gens = s.gens) s := by
 have L1 := C.spec G (f4 w.params)
 have I := jbp G C (.type "dict")
 have n1 := C.ne1 G
 unfold contains
 refine wpAny_holding ?_
 show wpAny _ _ (specialOf (.ref a) "__contains__" >>= _) _ _ _
 obtain ⟨h, g, dr, tk, os⟩ := s
 refine wpAny_bind (L1.at ?_)
 rw [if_neg (by decide)]
 refine wpAny_bind (callSpU_built L1 (.inr (ty_contains _)) ?_)
 refine jbC (n := "__contains__") (.inl (by decide +kernel)) (by decide +kernel) (by decide +kernel) F.entry_dict_contains (F.args_dict_contains_2 _ _) I ?_
 show wpAny _ _ (dictGet a (.int k t) >>= _) _ _ _
 refine wpAny_bind (jca (s := ⟨h, g, dr, tk, os⟩) C ?_)
 cases e : getE L k with
 | some x =>
  exact wpAny_pure ⟨_, rfl, wpAny_truthy_bool ⟨rfl, jak (s := ⟨h, g, dr, tk, os⟩) (Nat.le_succ _), rfl⟩⟩
 | none =>
  show wpAny _ _ (Dict.pendingKey? a (.int k t) >>= _) _ _ _
  exact wpAny_bind (wpAny_pendingKey_other n1 (wpAny_pure ⟨_, rfl, wpAny_truthy_bool ⟨rfl, jak (s := ⟨h, g, dr, tk, os⟩) (Nat.le_succ _), rfl⟩⟩))
end
noncomputable def globIn (K : Frag) (x : Str) : Option Value := match nsIn K 3 x with
 | some (some v) => some v
 | some none => (match nsIn K 0 x with | some (some v) => some v | _ => none)
 | none => none
section
variable {w : World} {B : Heap} {A : Around} {s : Shared} {env : Env} {sc : Scope} {E : Value → Shared → Prop}
theorem EnvOk.kind (O : EnvOk env sc) {x : Str} {k : NameKind} (h : sc.names.lookup x = some k) : env.kindOf x = some k := by
 unfold Env.kindOf; rw [O.scq]; exact h
theorem EnvOk.fk (O : EnvOk env sc) : env.scope.kind = .function := by rw [O.scq]; exact O.fn
set_option tactic.hygienic true in
theorem jal (v : Value) {x : Str} {pos : Pos} {Q : Value → Shared → Prop} (G : Good w B s) (O : EnvOk env sc) (h : Q v s) (e : globIn (KH w.params) x = some v := by kernel_rfl)
  (hn : sc.names.lookup x = some .globalImplicit := by kernel_rfl) (hd : (x == ("__debug__" : Str)) = false := by kernel_rfl) : wpAny (model P0 w) A (eval (.Name x pos) env) Q E s := by
 refine wpAny_Name ?_ hd
 unfold loadName
 have h1 : env.scope.kind.isAnnotationScope = false := by rw [O.fk]; rfl
 have h2 : env.blockKind = .function := by unfold Env.blockKind; rw [h1]; exact O.fk
 rw [h1, h2, O.kind hn]
 show wpAny _ _ (loadGlobal env x) _ _ _
 unfold loadGlobal
 rw [O.gl, O.bu]
 unfold globIn at e
 refine aG ?_; intro gO; obtain ⟨hh, g, dr, tk, os⟩ := s; unfold gO; clear gO
 split at e
 ·rename_i v' e1
  cases e
  exact wpAny_bind ((looks_nsIn G.k e1).at (wpAny_pure h))
 ·rename_i e1
  refine wpAny_bind ((looks_nsIn G.k e1).at ?_)
  split at e
  ·rename_i v' e2
   cases e
   exact wpAny_bind ((looks_nsIn G.k e2).at (wpAny_pure h))
  ·cases e
 ·cases e
theorem jam {x : Str} {pos : Pos} {v : Value} {m : Str → Option Value} {Q : Value → Shared → Prop} (O : EnvOk env sc) (hn : s.heap.Ns env.locals m) (hv : m x = some v) (h : Q v s)
  (hl : sc.names.lookup x = some .local := by kernel_rfl) (hd : (x == ("__debug__" : Str)) = false := by kernel_rfl) : wpAny (model P0 w) A (eval (.Name x pos) env) Q E s :=
 wpAny_Name (wpAny_loadName_local O.fk (O.kind hl) hn hv h) hd
end
section
variable {w : World} {A : Around} {s : Shared} {env : Env} {E : Value → Shared → Prop}
theorem jap {func : Expr} {args : List Expr} {pos : Pos} {Q : Value → Shared → Prop} (h : wpAny (model P0 w) A (eval func env) (fun f s1 => wpAny (model P0 w) A (callWith pos f [] (backTo pos (starEach args env)) []) Q E s1) E s)
  (he : eval (.Call func args [] pos) env = (do callWith pos (← eval func env) [] (backTo pos (starEach args env)) (backToKw pos (keywordEach [] env))) := by rfl) : wpAny (model P0 w) A (eval (.Call func args [] pos) env) Q E s := by
 rw [he]
 exact wpAny_bind h
theorem jao {pos : Pos} {Q : List Value → Shared → Prop} (h : Q [] s) : wpAny (model P0 w) A (spliced (backTo pos (starEach [] env))) Q E s := wpAny_pure h
theorem jad {pos : Pos} {e : Expr} {es : List Expr} {Q : List Value → Shared → Prop} (h : wpAny (model P0 w) A (eval e env) (fun v s₁ => wpAny (model P0 w) A (spliced (backTo pos (starEach es env))) (fun vs s₂ => Q (v :: vs) s₂) E s₁) E s)
  (he : starEach (e :: es) env = (false, eval e env) :: starEach es env := by rfl) : wpAny (model P0 w) A (spliced (backTo pos (starEach (e :: es) env))) Q E s := by
 rw [he]
 exact spliced_cons h
theorem ja8 {id : String} {first : List Value} {pos : Pos} {e : Expr} {es : List Expr} {Q : Value → Shared → Prop}
  (h : wpAny (model P0 w) A (spliced (backTo pos (starEach (e :: es) env))) (fun vs s' => wpAny (model P0 w) A (call (.builtin id) (first ++ vs)) Q E s') E s)
  (he : starEach (e :: es) env = (false, eval e env) :: starEach es env := by rfl) (hp : (backTo pos (starEach (e :: es) env)).any (·.1) = false := by rfl) :
  wpAny (model P0 w) A (callWith pos (.builtin id) first (backTo pos (starEach (e :: es) env)) []) Q E s := by
 refine callWith_builtin hp ?_
 rw [he] at h ⊢
 exact evalArgs_plain h
theorem jb4 {id : String} {first : List Value} {pos : Pos} {Q : Value → Shared → Prop} (h : wpAny (model P0 w) A (call (.builtin id) (first ++ [])) Q E s) :
  wpAny (model P0 w) A (callWith pos (.builtin id) first (backTo pos (starEach [] env)) []) Q E s := by
 refine callWith_builtin rfl (PyProof.Rows.evalArgs_empty h)
end
noncomputable def andBody : List Stmt := ja2 (ctrS "__and__")
theorem fn_and (P : Params) : fnChk (KH P) 1043 = some (fdAt (KH P) 1043, andBody) := by kernel_rfl
local macro_rules | `(tactic| x_close) => `(tactic| (exact ⟨_, rfl, by first | assumption | exact Mem.start _, rfl, rfl, by ((try dsimp only); exact Nat.le_refl _)⟩))
theorem isinst_run (w : World) (s : Shared) (KX : (KH w.params).In s.heap) (a d ep : Nat) (es : Array DictEntry) (ha : s.heap.get? a = some ⟨.ref 1093, some d, .dict es ep, #[]⟩) :
  wpAny (model P0 w) lv0 (call (.builtin "isinstance") [.ref a, .ref 1093]) (fun v s' => ∃ news, v = .bool true ∧ Mem s.heap s'.heap [] news ∧ s'.gens = s.gens ∧ s'.os = s.os ∧ s.toks ≤ s'.toks) (fun Y Y => False) s := by
 have f2 := kf2 KX; have f3 := kf3 KX; have f83 := kf83 KX; have f84 := kf84 KX; have f99 := kf99 KX; have f100 := jbJ KX; have f116 := jbI KX; have f117 := jbH KX; have f466 := jbG KX; have f467 := jb0 KX; have f470 := jbF KX; have f471 := jbE KX; have f893 := jbO KX; have f894 := jbN KX; have f1092 := jbf KX; have f1093 := jbe KX
 x_run
section
variable {w : World} {B : Heap} {A : Around} {s : Shared} {a d : Addr} {L : List En} {ep : Nat}
theorem jbB (G : Good w B s) (C : IsC s.heap a d L ep) (hR : Rm 300 A) : Wp w A (call (.builtin "isinstance") [.ref a, .ref 1093]) (fun v s' => v = .bool true ∧ Kp [] s s' ∧ s'.gens = s.gens) s :=
 hR.lv (wpAny_mono (isinst_run w s G.k a d ep _ C.at_) (fun Y Y ⟨_, h1, D, h3, h4, h5⟩ => ⟨h1, jax G D h4 h5 h3, h3⟩) fun Y Y z => z)
end
section
variable {w : World} {B : Heap} {A : Around} {s : Shared} {a d it : Addr} {L : List En} {ep : Nat} {env : Env} {sc : Scope}
theorem jaP (G : Good w B s) {x : Addr} (h : B.get? x = none) : x ≠ 2 := fun q => by
 obtain ⟨o, e⟩ := Option.isSome_iff_exists.mp (show ((KH w.params).lookup 2).isSome = true by kernel_rfl)
 have := G.kb _ _ e
 rw [← q, h] at this
 cases this
theorem for_items {xk xv : Str} {pk pv pt : Pos} {x1 : Nat} {body : List Stmt} {R : Result → Shared → Prop} {n : Nat} (hA : Rm n A) (O : EnvOk env sc)
  (hit : s.heap.get? it = some (iitO a 0 L.length ep .none .none .none)) (C : IsC s.heap a d L ep) (G : Good w B s) (hB : B.get? it = none) (hBL : B.get? env.locals = none)
  (hLa : env.locals ≠ a) (hLd : env.locals ≠ d) (hLi : env.locals ≠ it)
  (I : Nat → Shared → Prop) (hI : ∀ i s, I i s → Good w B s ∧ ∃ m, s.heap.Ns env.locals m) (h0 : I 0 s)
  (step : ∀ i x s₁ s₂ m, L[i]? = some x → I i s₁ → Kp [it, env.locals] s₁ s₂ → s₁.heap.Ns env.locals m → s₂.heap.Ns env.locals (fun y => if y = xv then some (.int x.2.2.1 x.2.2.2) else if y = xk then some (.int x.1 x.2.1) else m y) → s₂.gens = s₁.gens → IsC s₂.heap a d L ep →
   Wp w A (execs body env) (fun f s₃ => (f = .next ∨ f = .cont) ∧ I (i + 1) s₃ ∧ ∃ S, Kp S s₂ s₃ ∧ it ∉ S ∧ a ∉ S ∧ d ∉ S) s₂)
  (hR : ∀ s₁ s₂, I L.length s₁ → Kp [it] s₁ s₂ → s₂.gens = s₁.gens → R (.ok .next) s₂)
  (hxk : sc.names.lookup xk = some .local := by kernel_rfl) (hxv : sc.names.lookup xv = some .local := by kernel_rfl) :
  codeAny (model P0 w) A (.forLoop (.Tuple [.Name xk pk, .Name xv pv] x1 pt) (.ref it) body [] env) R s := by
 have hh : A.handled = none := hA.1
 have n2 : it ≠ 2 := jaP G hB
 have nL2 : env.locals ≠ 2 := jaP G hBL
 have nia : it ≠ a := fun q => by have := C.at_; rw [← q, hit] at this; cases this
 have nid : it ≠ d := fun q => by have e := C.ow; rw [← q, hit] at e; have := congrArg Obj.cls (Option.some.inj e); simp [iitO, dctO] at this
 refine codeAny_forLoop_any (fun n s' => ∃ i ok ov, i ≤ L.length ∧ n = L.length + 1 - i ∧ s'.heap.get? it = some (iitO a i L.length ep .none ok ov) ∧ IsC s'.heap a d L ep ∧ I i s') ?_ (L.length + 1) ⟨0, .none, .none, Nat.zero_le _, rfl, hit, C, h0⟩
 rintro n s' ⟨i, ok, ov, hi, rfl, hit', C', hI'⟩
 refine aG ?_; intro gO; obtain ⟨G', m, hm⟩ := hI _ _ hI'; unfold gO; clear gO
 cases hv : L[i]? with
 | none =>
  have hsz : i = L.length := Nat.le_antisymm hi (List.getElem?_eq_none_iff.mp hv)
  subst hsz
  refine jct G' n2 hh hit' C' fun s₂ k2 g2 => wpAny_execs_nil ?_
  exact hR s' s₂ hI' k2 g2
 | some x =>
  have hlt : i < L.length := (List.getElem?_eq_some_iff.mp hv).1
  refine next_item hit' C' hv fun h₁ q1 q2 q3 => ?_
  have hsz : it < s'.heap.objs.size := Heap.lt_size hit'
  have lsz : env.locals < s'.heap.objs.size := hm.lt
  refine wpAny_letOwnedTupleGo_items (d := a) (i := i + 1) (n := L.length) (ep := ep) q1 fun h₂ e2 s2 => ?_
  replace s2 : Heap.SameBut it h₁ h₂ := s2
  have ht₂ : h₂.IsTuple s'.heap.objs.size #[.int x.1 x.2.1, .int x.2.2.1 x.2.2.2] := ⟨_, (s2.2 _ (Nat.ne_of_gt hsz)).trans q2, rfl, _, rfl⟩
  have old₂ : ∀ b o, b ≠ it → s'.heap.get? b = some o → h₂.get? b = some o := fun b o nb e => (s2.2 b nb).trans (q3 b o nb e)
  have z₂ : ∀ b o, s'.heap.get? b = some o → b < h₂.objs.size := fun b o e => by
   by_cases q : b = it
   ·rw [q]; exact Heap.lt_size e2
   ·exact Heap.lt_size (old₂ b o q e)
  refine wpAny_assign_Tuple hh ht₂ rfl rfl fun h₃ hx₃ => ?_
  replace hx₃ : Heap.ExtBut h₂.objs.size h₂ h₃ := hx₃
  have old₃ : ∀ b o, b ≠ it → s'.heap.get? b = some o → h₃.get? b = some o := fun b o nb e => hx₃ b o (Nat.ne_of_lt (Heap.lt_size (old₂ b o nb e))) (old₂ b o nb e)
  have it₃ : h₃.get? it = some (iitO a (i + 1) L.length ep .none (.int x.1 x.2.1) (.int x.2.2.1 x.2.2.2)) := hx₃ it _ (Nat.ne_of_lt (Heap.lt_size e2)) e2
  refine aG ?_; intro gO; obtain ⟨om, es, eq, hom, hod, hos, hof⟩ := hm; unfold gO; clear gO
  have hn₃ : h₃.Ns env.locals m := ⟨om, es, eq, old₃ _ _ hLi hom, hod, hos, hof⟩
  show wpAny _ _ (do holding [.int x.2.2.1 x.2.2.2] (assign (.Name xk pk) env (.int x.1 x.2.1)); do holding [] (assign (.Name xv pv) env (.int x.2.2.1 x.2.2.2)); pure ()) _ _ _
  have hp : (env.scope.kind == .class || (env.scope.kind == .module && env.locals != env.globals)) = false := by rw [O.fk]; rfl
  refine wpAny_bind (wpAny_holding (wpAny_assign_Name (wpAny_storeName_local (O.kind hxk) hn₃ (fun h₄ hn₄ hs₄ => ?_) hp)))
  replace hs₄ : Heap.SameBut env.locals h₃ h₄ := hs₄
  refine wpAny_bind (wpAny_holding (wpAny_assign_Name (wpAny_storeName_local (O.kind hxv) hn₄ (fun h₅ hn₅ hs₅ => wpAny_pure ?_) hp)))
  replace hs₅ : Heap.SameBut env.locals h₄ h₅ := hs₅
  have k2 : Kp [it, env.locals] s' { s' with heap := h₅, toks := s'.toks + 1 + 1 } := by
   refine kp_same (fun Y => ?_) (fun b o e nb => ?_) (fun b o e => ?_) (by omega)
   ·obtain ⟨o, e⟩ := G'.two
    rw [e]
    exact (hs₅.2 2 (Ne.symm nL2)).trans ((hs₄.2 2 (Ne.symm nL2)).trans (old₃ 2 o (Ne.symm n2) e))
   ·have n1 : b ≠ it := fun q => nb (by rw [q]; simp)
    have n3 : b ≠ env.locals := fun q => nb (by rw [q]; simp)
    exact (hs₅.2 b n3).trans ((hs₄.2 b n3).trans (old₃ b o n1 e))
   ·by_cases q : b = env.locals
    ·rw [q]; obtain ⟨o', _, _, ho', _⟩ := hn₅; exact ⟨o', ho'⟩
    ·by_cases q2 : b = it
     ·rw [q2] at q ⊢; exact ⟨_, (hs₅.2 _ q).trans ((hs₄.2 _ q).trans it₃)⟩
     ·exact ⟨_, (hs₅.2 b q).trans ((hs₄.2 b q).trans (old₃ b o q2 e))⟩
  have C5 : IsC h₅ a d L ep := C'.kp k2 (by simp [Ne.symm nia, Ne.symm hLa]) (by simp [Ne.symm nid, Ne.symm hLd])
  refine (step i x s' _ m hv hI' k2 ⟨om, es, eq, hom, hod, hos, hof⟩ hn₅ rfl C5).use fun f s₃ hx0 => ?_
  refine aG ?_; intro gO; obtain ⟨hf, hI3, S, k3, m1, m2, m3⟩ := hx0; unfold gO; clear gO
  have it₅ : h₅.get? it = some (iitO a (i + 1) L.length ep .none (.int x.1 x.2.1) (.int x.2.2.1 x.2.2.2)) := (hs₅.2 _ (Ne.symm hLi)).trans ((hs₄.2 _ (Ne.symm hLi)).trans it₃)
  have fin : ∃ m, m < L.length + 1 - i ∧ ∃ i ok ov, i ≤ L.length ∧ m = L.length + 1 - i ∧ s₃.heap.get? it = some (iitO a i L.length ep .none ok ov) ∧ IsC s₃.heap a d L ep ∧ I i s₃ :=
   ⟨L.length + 1 - (i + 1), by exact lrd ‹_›, i + 1, _, _, hlt, rfl, k3.keep _ _ it₅ rfl m1, C5.kp k3 m2 m3, hI3⟩
  rcases hf with rfl | rfl <;> exact fin
end
theorem g1 (P : Params) : findIn (KH P) (.ref 1093) (PySem.Str.ofString "__getattribute__") = some (some (.builtin "dict.__getattribute__")) := by kernel_rfl
theorem g2 (P : Params) : findIn (KH P) (.ref 1093) (PySem.Str.ofString "__getattr__") = some none := by kernel_rfl
theorem g3 : Manifest.canonical "dict.__getattribute__" = "object.__getattribute__" := by decide +kernel
theorem g4 (P : Params) : findIn (KH P) (.ref 1093) (PySem.Str.ofString "items") = some (some (.builtin "dict.items")) := by kernel_rfl
section
variable {w : World} {B : Heap} {A : Around} {s : Shared} {a d it : Addr} {L : List En} {ep : Nat} {env : Env} {sc : Scope} {E : Value → Shared → Prop}
theorem nsGet_own {name : Str} (C : IsC s.heap a d L ep) : Looks (model P0 w) s.heap (nsGet d name) none := by
 intro A Q E s' k q
 refine wpAny_bind (wpAny_loadPart (k _ _ C.ow) ?_)
 rw [nsLook_of (o := dctO) (r := none) (by rfl)]
 exact wpAny_pure q
theorem jaK {name : Str} {id : String} {pl : Sem Bool} (G : Good w B s) (C : IsC s.heap a d L ep) (h1 : findIn (KH w.params) (.ref 1093) name = some (some (.builtin id)))
  (h2 : typeOf (.builtin id) = pure (.type "method_descriptor")) : Looks (model P0 w) s.heap (getMethod (.ref a) name pl) (.builtin id, [.ref a]) := by
 unfold getMethod
 refine (C.spec G (g1 _)).andThen ?_
 try dsimp only
 rw [g3, if_neg (by decide)]
 refine (C.spec G (g2 _)).andThen ?_
 rw [if_neg (by decide)]
 refine (C.spec G h1).andThen ?_
 refine (Looks.of_pure h2).andThen ?_
 rw [if_neg (by decide)]
 try dsimp only
 refine (Looks.ld C.at_).andThen ?_
 show Looks _ _ (nsGet d name >>= _) _
 refine (nsGet_own C).andThen ?_
 rw [if_neg (by decide)]
 exact Looks.tag .now
theorem jbW {o : Expr} {name : Str} {apos pos : Pos} {args : List Expr} {Q : Value → Shared → Prop}
  (h : wpAny (model P0 w) A (eval o env) (fun ov s₁ => wpAny (model P0 w) A (getMethod ov name (do return (← importBound o env).getD true)) (fun fa s₂ =>
   wpAny (model P0 w) A (callWith pos fa.1 fa.2 (backTo pos (starEach args env)) []) Q E s₂) E s₁) E s)
  (hb : attributeBase o name env (eval o env) = eval o env := by rfl) (hf : methodCallForm (args.length + 0) (backTo pos (starEach args env)) [] = true := by rfl) (hl : (apos.endLine == pos.line) = true := by rfl) :
  wpAny (model P0 w) A (eval (.Call (.Attribute o name apos) args [] pos) env) Q E s := by
 show wpAny _ _ (do let ov ← attributeBase o name env (eval o env); standAt apos.atName; methodCall o name apos pos env ov (args.length + 0) (backTo pos (starEach args env)) []) _ _ _
 rw [hb]
 refine wpAny_bind (wpAny_mono h (fun ov s₁ h₁ => wpAny_bind (wpAny_standAt ?_)) fun Y Y z => z)
 unfold methodCall
 rw [hf]
 refine wpAny_bind (wpAny_holding ?_)
 refine wpAny_mono h₁ (fun fa s₂ h₂ => ?_) fun Y Y z => z
 unfold methodCallPos
 rw [hl, if_pos (by rfl)]
 exact wpAny_bind (wpAny_pure h₂)
end
noncomputable def ditO (a : Addr) : Obj := ⟨.type "dict_items", none, .fields #[.ref a], #[]⟩
local macro_rules | `(tactic| x_close) => `(tactic| (refine ⟨_, _, rfl, by assumption, ?m1, rfl, rfl, by ((try dsimp only); exact Nat.le_refl _)⟩; (case m1 => (repeat (first | exact List.Mem.head _ | refine List.Mem.tail _ ?_)))))
theorem items_run (w : World) (s : Shared) (KX : (KH w.params).In s.heap) (a d ep : Nat) (es : Array DictEntry) (ha : s.heap.get? a = some ⟨.ref 1093, some d, .dict es ep, #[]⟩) :
  wpAny (model P0 w) lv0 (call (.builtin "dict.items") [.ref a]) (fun v s' => ∃ vw news, v = .ref vw ∧ Mem s.heap s'.heap [] news ∧ (vw, (⟨.type "dict_items", none, .fields #[.ref a], #[]⟩ : Obj)) ∈ news ∧ s'.gens = s.gens ∧ s'.os = s.os ∧ s.toks ≤ s'.toks) (fun Y Y => False) s := by
 have f2 := kf2 KX; have f3 := kf3 KX; have f83 := kf83 KX; have f84 := kf84 KX; have f99 := kf99 KX; have f100 := jbJ KX; have f116 := jbI KX; have f117 := jbH KX; have f466 := jbG KX; have f467 := jb0 KX; have f470 := jbF KX; have f471 := jbE KX; have f893 := jbO KX; have f894 := jbN KX; have f1092 := jbf KX; have f1093 := jbe KX
 x_run
theorem iter_items_run (w : World) (s : Shared) (KX : (KH w.params).In s.heap) (a d ep vw : Nat) (es : Array DictEntry) (ha : s.heap.get? a = some ⟨.ref 1093, some d, .dict es ep, #[]⟩) (hv : s.heap.get? vw = some ⟨.type "dict_items", none, .fields #[.ref a], #[]⟩) :
  wpAny (model P0 w) lv0 (call (.builtin "dict_items.__iter__") [.ref vw]) (fun v s' => ∃ it news, v = .ref it ∧ Mem s.heap s'.heap [] news ∧ (it, (⟨.type "dict_itemiterator", none, .fields #[.none, .bool false, .ref a, .int 0 0, .int es.size 0, .int ep 0, .none, .none], #[]⟩ : Obj)) ∈ news ∧ s'.gens = s.gens ∧ s'.os = s.os ∧ s.toks ≤ s'.toks) (fun Y Y => False) s := by
 have f2 := kf2 KX; have f3 := kf3 KX; have f83 := kf83 KX; have f84 := kf84 KX; have f99 := kf99 KX; have f100 := jbJ KX; have f116 := jbI KX; have f117 := jbH KX; have f466 := jbG KX; have f467 := jb0 KX; have f470 := jbF KX; have f471 := jbE KX; have f893 := jbO KX; have f894 := jbN KX; have f1092 := jbf KX; have f1093 := jbe KX
 x_run
section
variable {w : World} {B : Heap} {A : Around} {s : Shared} {a d it vw : Addr} {L : List En} {ep : Nat}
theorem jcq (G : Good w B s) (C : IsC s.heap a d L ep) (hR : Rm 300 A) : Wp w A (call (.builtin "dict.items") [.ref a]) (fun v s' => ∃ vw, v = .ref vw ∧ s.heap.get? vw = none ∧ s'.heap.get? vw = some (ditO a) ∧ Kp [] s s' ∧ s'.gens = s.gens) s :=
 hR.lv (wpAny_mono (items_run w s G.k a d ep _ C.at_) (fun Y Y hx0 => by obtain ⟨vw, news, h1, D, hm, h3, h4, h5⟩ := hx0; exact ⟨vw, h1, (D.nw _ hm).2, (D.nw _ hm).1, jax G D h4 h5 h3, h3⟩) fun Y Y z => z)
theorem jbA (G : Good w B s) (C : IsC s.heap a d L ep) (hv : s.heap.get? vw = some (ditO a)) (hR : Rm 300 A) :
  Wp w A (pyIter (.ref vw)) (fun v s' => ∃ it, v = .ref it ∧ s.heap.get? it = none ∧ s'.heap.get? it = some (iitO a 0 L.length ep .none .none .none) ∧ Kp [] s s' ∧ s'.gens = s.gens) s := by
 refine lW ?_
 intro Ro
 have hT : s.TypeIs (.ref vw) "dict_items" := ⟨_, hv, rfl⟩
 refine wpAny_pyIter_slot hT F.slot_dict_items_iter ?_
 refine hR.lv (wpAny_mono (iter_items_run w s G.k a d ep vw _ C.at_ hv) (fun v s' hx0 => ?_) fun Y Y z => z)
 obtain ⟨it, news, h1, D, hm, h3, h4, h5⟩ := hx0
 have e := (D.nw _ hm).1
 refine ⟨"dict_itemiterator", _, ?_, F.slot_dict_itemiterator_next.lookup, it, h1, (D.nw _ hm).2, ?_, jax G D h4 h5 h3, h3⟩
 ·rw [h1]; exact ⟨_, e, rfl⟩
 ·simpa [iitO] using e
end
theorem entry_type_call : entryFor table "type.__call__" = some Builtin.«type.__call__» := entryFor_of_tree (by kernel_rfl)
local macro_rules | `(tactic| x_close) => `(tactic| (refine ⟨_, ?_, _, rfl, by assumption, ?m1, ?m2, rfl, rfl, by ((try dsimp only); exact Nat.le_refl _)⟩; (case m1 => (repeat (first | exact List.Mem.head _ | refine List.Mem.tail _ ?_))); (case m2 => (repeat (first | exact List.Mem.head _ | refine List.Mem.tail _ ?_)))))
theorem dnew_run (w : World) (s : Shared) (KX : (KH w.params).In s.heap) (rest : List Value) :
  wpAny (model P0 w) lv0 (call (.builtin "dict.__new__") (.ref 1093 :: rest)) (fun v s' => ∃ a d news, v = .ref a ∧ Mem s.heap s'.heap [] news ∧ (a, (⟨.ref 1093, some d, .dict #[] 0, #[]⟩ : Obj)) ∈ news ∧ (d, (⟨.type "dict", none, .dict #[] 0, #[]⟩ : Obj)) ∈ news ∧ s'.gens = s.gens ∧ s'.os = s.os ∧ s.toks ≤ s'.toks) (fun Y Y => False) s := by
 have f2 := kf2 KX; have f3 := kf3 KX; have f83 := kf83 KX; have f84 := kf84 KX; have f99 := kf99 KX; have f100 := jbJ KX; have f116 := jbI KX; have f117 := jbH KX; have f466 := jbG KX; have f467 := jb0 KX; have f470 := jbF KX; have f471 := jbE KX; have f893 := jbO KX; have f894 := jbN KX; have f1092 := jbf KX; have f1093 := jbe KX
 x_run
noncomputable def clsO (K : Frag) : Obj := (K.lookup 1093).getD default
theorem look93 (P : Params) : (KH P).lookup 1093 = some (clsO (KH P)) := by kernel_rfl
theorem cls93 (P : Params) : (clsO (KH P)).cls = .type "type" := by kernel_rfl
theorem slot93 (P : Params) : ((clsO (KH P)).slots[4]?).join = some (.builtin "dict.__new__") := by kernel_rfl
theorem Rm.under {n : Nat} {A : Around} {c : Code} (r : Rm n A) (hw : c.weight ≤ 1) (hu : c.cUnits ≤ 10) : Rm (n + 1) (A.under c) :=
 ⟨r.1, by have := r.2.1; show A.depth + c.weight ≤ n + 1 + 310; exact lsx ‹_› ‹_›, by have := r.2.2; show A.units + c.cUnits ≤ 10 * (n + 1); exact lsy ‹_› ‹_›⟩
theorem jbo {M : Model} {h : Heap} {id T : String} (e : fastBuiltinType id = pure (.type T)) : Looks M h (typeOf (.builtin id)) (.type T) := Looks.of_pure (by show builtinType id = _; rw [builtinType_eq_fast]; exact e)
theorem jaL {M : Model} {h : Heap} {T : String} {name : Str} {r : Option Value} (e : fastLookup T name = some r) : Looks M h (typeLookup (.type T) name) r := Looks.of_pure (by rw [typeLookup_type, builtinLookup_eq_fast, e])
section
variable {w : World} {B : Heap} {A : Around} {s : Shared} {a d it vw : Addr} {L : List En} {ep : Nat}
theorem jcl (G : Good w B s) : Looks (model P0 w) s.heap (typeOf (.ref 1093)) (.type "type") := by
 have := (Looks.ld (M := model P0 w) (part := some headPart) (G.k _ _ (look93 w.params))).andThen (f := fun o => (pure o.cls : Sem Value)) .now
 rw [cls93] at this
 exact this
set_option tactic.hygienic true in
theorem cls_data (P : Params) : ∃ c, (clsO (KH P)).data = .cls c := by
 have : (match (clsO (KH P)).data with | .cls _ => true | _ => false) = true := by kernel_rfl
 split at this
 ·rename_i c hc; exact ⟨c, hc⟩
 ·cases this
theorem call_cls {args : List Value} {R : Result → Shared → Prop} (G : Good w B s) (h : codeAny (model P0 w) A (.call (.builtin "type.__call__") ⟨.ref 1093 :: args, []⟩) R s) : codeAny (model P0 w) A (.call (.ref 1093) ⟨args, []⟩) R s := by
 have e := G.k _ _ (look93 w.params)
 have LT := jcl G
 obtain ⟨c, hc⟩ := cls_data w.params
 have hAu : A.under (.call (.ref 1093) ⟨args, []⟩) = A.under (.call (.ref 1093) ⟨args, []⟩) := rfl
 refine aG ?_; intro gO; obtain ⟨hh, g, dr, tk, os⟩ := s; unfold gO; clear gO
 refine codeAny_of_tree ?_
 show wpAny _ _ (callAny (.ref 1093) ⟨args, []⟩) _ _ _
 unfold callAny
 refine wpAny_bind (wpAny_load e ?_)
 rw [hc]
 dsimp only
 unfold callAny.viaDunder
 have L2 : Looks (model P0 w) hh (specialOf (.ref 1093) "__call__") (some (.builtin "type.__call__")) := LT.andThen (jaL (by kernel_rfl))
 refine wpAny_bind (L2.at ?_)
 refine wpAny_bind ?_
 unfold bindSpecial
 refine wpAny_bind ((jbo (T := "wrapper_descriptor") (by kernel_rfl)).at ?_)
 rw [if_pos (by decide)]
 refine wpAny_pure ?_
 show wpAny _ _ (callAny.plainCallee (.builtin "type.__call__") >>= _) _ _ _
 refine wpAny_bind (wpAny_pure ?_)
 rw [if_pos (by decide)]
 exact wpAny_pure ⟨rfl, h⟩
theorem mro93 (P : Params) : (clsIn (KH P) 1093).map (·.mro) = some [.ref 1093, .type "dict", .type "object"] := by kernel_rfl
theorem jcp (G : Good w B s) : Looks (model P0 w) s.heap (mroOf (.ref 1093)) [.ref 1093, .type "dict", .type "object"] := by
 refine aG ?_; intro gO; obtain ⟨cd, e1, e2⟩ := Option.map_eq_some_iff.mp (mro93 w.params); unfold gO; clear gO
 have := (looks_clsIn (M := model P0 w) G.k e1).andThen (f := fun c => (pure c.mro : Sem (List Value))) .now
 rw [e2] at this
 exact this
theorem made93 (G : Good w B s) : Looks (model P0 w) s.heap (Bind.madeBy (.ref 1093)) (some "dict.__new__") := by
 unfold Bind.madeBy
 refine (jcp G).andThen ?_
 have LS : Looks (model P0 w) s.heap (slotAt 1093 4) (some (.builtin "dict.__new__")) := by
  have := (Looks.ld (M := model P0 w) (part := some (slotPart 4)) (G.k _ _ (look93 w.params))).andThen (f := fun o => (pure (o.slots[4]?).join : Sem (Option Value))) .now
  rw [slot93] at this
  exact this
 rw [List.forIn_cons]
 refine Looks.andThen (a := (some (some "dict.__new__"), Value.ref 1093)) ?_ .now
 refine Looks.andThen (a := ForInStep.done (some (some "dict.__new__"), Value.ref 1093)) (LS.andThen .now) .now
theorem chk_slot {id owner n : String} {self : Value} {args : List Value} {Q : Unit → Shared → Prop} {E : Value → Shared → Prop} (hk : builtinKind id = some .slot) (hs : splitId id = some (owner, n)) (ha : argsOk id ⟨self :: args, []⟩)
  (hI : Looks (model P0 w) s.heap (isInstance self (.type owner)) true) (h : Q () s) : wpAny (model P0 w) A (checkBuiltinCall id ⟨self :: args, []⟩) Q E s := by
 refine aG ?_; intro gO; obtain ⟨hh, g, dr, tk, os⟩ := s; unfold gO; clear gO
 unfold checkBuiltinCall
 rw [hk, hs]
 dsimp only
 refine wpAny_bind (hI.at ?_)
 rw [if_neg (by decide)]
 cases hsig : Manifest.signature? id with
 | none => exact wpAny_pure h
 | some sig =>
  simp only [argsOk, hsig] at ha
  have h2 : Bind.checkArgs id sig ⟨self :: args, []⟩ = pure () := ha
  dsimp only
  rw [h2]; exact wpAny_pure h
theorem init93 (P : Params) : findIn (KH P) (.ref 1093) (PySem.Str.ofString "__init__") = some (some (.ref 887)) := by kernel_rfl
theorem fn887 (P : Params) : ((KH P).lookup 887).map (fun o => o.cls) = some (.type "function") := by kernel_rfl
theorem call_type {args : List Value} {n : Nat} {Q : Value → Shared → Prop} (G : Good w B s) (hR : Rm n A) (hn : n < 290) (ha : argsOk "type.__call__" ⟨.ref 1093 :: args, []⟩)
  (hi : ∀ a d s₁ A', Rm (n + 1) A' → IsC s₁.heap a d [] 0 → s.heap.get? a = none → s.heap.get? d = none → Kp [] s s₁ → s₁.gens = s.gens → Wp w A' (call (.ref 887) (.ref a :: args)) (fun v s₂ => v = .none ∧ Q (.ref a) s₂) s₁) :
  Wp w A (call (.ref 1093) args) Q s := by
 refine wpAny_call (call_cls G ?_)
 have LT := jcl G
 have LM := jcp G
 have LB := made93 G
 refine codeAny_call_builtin_at (Code.quiet_builtin _ (by decide +kernel)) entry_type_call ?_
 refine chk_slot (owner := "type") (n := "__call__") (by decide +kernel) (by decide +kernel) ha ?_ ?_
 ·unfold isInstance
  refine LT.andThen (Looks.of_pure ?_)
  rw [isSubtype_type]; kernel_rfl
 have R1 : Rm (n + 1) (A.under (.builtin "type.__call__" ⟨.ref 1093 :: args, []⟩)) := hR.under (Nat.le_of_eq (by kernel_rfl)) (Nat.le_trans (m := 1) (Nat.le_of_eq (by kernel_rfl)) (by decide))
 generalize A.under (.builtin "type.__call__" ⟨.ref 1093 :: args, []⟩) = A1 at R1
 unfold «type.__call__»
 dsimp only
 rw [if_neg (show ¬ ((Value.ref 1093 == .type "type") = true) by decide)]
 have G0 := G
 have s0 := s
 refine aG ?_; intro gO; obtain ⟨hh, g, dr, tk, os⟩ := s; unfold gO; clear gO
 refine wpAny_bind (LM.at ?_)
 rw [if_neg (by decide)]
 refine wpAny_bind (LB.at ?_)
 refine wpAny_bind (wpAny_pure ?_)
 refine wpAny_bind (wpAny_holding ?_)
 refine Wp.useE3 ((R1.le (by omega : n + 1 ≤ 300)).lv (dnew_run w ⟨hh, g, dr, tk, os⟩ G.k args)) fun a d news s1 hx0 => ?_
 refine aG ?_; intro gO; obtain ⟨D, m1, m2, e3, e4, e5⟩ := hx0; unfold gO; clear gO
 have K1 := jax G D e4 e5 e3
 have G1 := G.kp K1 al0
 have C1 : IsC s1.heap a d [] 0 := ⟨(D.nw _ m1).1, (D.nw _ m2).1, fun Y h => by cases h⟩
 have f1 := (D.nw _ m1).2
 have f2 := (D.nw _ m2).2
 clear m1 m2 D
 have LI := jbp G1 C1 (.ref 1093)
 have LN := C1.spec G1 (init93 w.params)
 have hi' := hi a d s1 A1 R1 C1 f1 f2 K1 e3
 refine aG ?_; intro gO; obtain ⟨fo, q1, q2⟩ := Option.map_eq_some_iff.mp (fn887 w.params); unfold gO; clear gO
 have q1' := G1.k _ _ q1
 refine aG ?_; intro gO; obtain ⟨h1, g1, dr1, tk1, os1⟩ := s1; unfold gO; clear gO
 refine wpAny_bind (LI.at ?_)
 rw [if_neg (by decide)]
 refine wpAny_bind (wpAny_holding (jbD (s := ⟨h1, g1, dr1, tk1, os1⟩) LN q1' q2 (hi'.useE fun s2 hq => ?_)))
 dsimp only
 rw [if_neg (by decide)]
 exact wpAny_pure hq
end
noncomputable def fnChk2 (K : Frag) (f : Addr) : Option (FuncData × List Stmt) := (fnD K f).bind fun r => cond (r.1.scope.names.all fun x => x.2 != .cell) (some r) none
theorem fn_init (P : Params) : fnChk2 (KH P) 887 = some (fdAt (KH P) 887, ja2 (ctrS "__init__")) := by kernel_rfl
theorem par_init (P : Params) : (fdAt (KH P) 887).params = jck (ctrS "__init__") := by kernel_rfl
theorem df_init (P : Params) : (fdAt (KH P) 887).defaults = .ref 879 := by kernel_rfl
theorem l879 (P : Params) : (KH P).lookup 879 = some ⟨.type "tuple", none, .seq #[.none] 0, #[]⟩ := by kernel_rfl
section
variable {w : World} {B : Heap} {A : Around} {s : Shared} {a d it vw : Addr} {L : List En} {ep : Nat}
theorem wp_eq {α : Type} {M : Model} {A : Around} {t t' : Sem α} {Q : α → Shared → Prop} {E : Value → Shared → Prop} {s : Shared} (e : t = t') (h : wpAny M A t' Q E s) : wpAny M A t Q E s := by rw [e]; exact h
noncomputable def uArgs (p1 p2 p3 : Option Expr) (q1 q2 q3 : Pos) (D : List Expr) : Arguments := ⟨[⟨"self", p1, q1⟩, ⟨"iterable", p2, q2⟩], [], none, [], [], some ⟨"kwds", p3, q3⟩, D⟩
theorem bind_u0 {fd : FuncData} {dA : Addr} {v : Value} {p1 p2 p3 : Option Expr} {q1 q2 q3 : Pos} {D : List Expr} {Q : List (PySem.Str × Value) → Shared → Prop} {E : Value → Shared → Prop} (hp : fd.params = uArgs p1 p2 p3 q1 q2 q3 D) (hd : fd.defaults = .ref dA)
  (hD : s.heap.get? dA = some ⟨.type "tuple", none, .seq #[.none] 0, #[]⟩)
  (hq : Q [("self", v), ("iterable", .none), ("kwds", .ref s.heap.objs.size)] { s with heap := s.heap.push dctO }) :
  wpAny (model P0 w) A (bindArgs fd ⟨[v], []⟩) Q E s := by
 have LD : Looks (model P0 w) s.heap (seqItems? (.ref dA)) (some #[.none]) := (Looks.ld (part := none) hD).andThen .now
 unfold bindArgs
 rw [hp, hd]
 obtain ⟨hh, g, dr, tk, os⟩ := s
 refine wpAny_bind (wpAny_pure ?_)
 dsimp only
 refine wpAny_bind (LD.at ?_)
 refine wp_eq (t' := (PySem.alloc dctO >>= fun d => (pure [("self", v), ("iterable", Value.none), ("kwds", Value.ref d)] : Sem (List (PySem.Str × Value))))) (by kernel_rfl) ?_
 exact wpAny_bind (wpAny_alloc (wpAny_pure hq))
theorem bind_u1 {fd : FuncData} {dA : Addr} {v x : Value} {p1 p2 p3 : Option Expr} {q1 q2 q3 : Pos} {D : List Expr} {Q : List (PySem.Str × Value) → Shared → Prop} {E : Value → Shared → Prop} (hp : fd.params = uArgs p1 p2 p3 q1 q2 q3 D) (hd : fd.defaults = .ref dA)
  (hD : s.heap.get? dA = some ⟨.type "tuple", none, .seq #[.none] 0, #[]⟩)
  (hq : Q [("self", v), ("iterable", x), ("kwds", .ref s.heap.objs.size)] { s with heap := s.heap.push dctO }) :
  wpAny (model P0 w) A (bindArgs fd ⟨[v, x], []⟩) Q E s := by
 have LD : Looks (model P0 w) s.heap (seqItems? (.ref dA)) (some #[.none]) := (Looks.ld (part := none) hD).andThen .now
 unfold bindArgs
 rw [hp, hd]
 obtain ⟨hh, g, dr, tk, os⟩ := s
 refine wpAny_bind (wpAny_pure ?_)
 dsimp only
 refine wpAny_bind (LD.at ?_)
 refine wp_eq (t' := (PySem.alloc dctO >>= fun d => (pure [("self", v), ("iterable", x), ("kwds", Value.ref d)] : Sem (List (PySem.Str × Value))))) (by kernel_rfl) ?_
 exact wpAny_bind (wpAny_alloc (wpAny_pure hq))
theorem sh_init : ∃ p1 p2 p3 q1 q2 q3 D, jck (ctrS "__init__") = uArgs p1 p2 p3 q1 q2 q3 D := ⟨_, _, _, _, _, _, _, rfl⟩
theorem sh_update : ∃ p1 p2 p3 q1 q2 q3 D, jck (ctrS "update") = uArgs p1 p2 p3 q1 q2 q3 D := ⟨_, _, _, _, _, _, _, rfl⟩
theorem fn_update (P : Params) : fnChk2 (KH P) 936 = some (fdAt (KH P) 936, ja2 (ctrS "update")) := by kernel_rfl
theorem par_update (P : Params) : (fdAt (KH P) 936).params = jck (ctrS "update") := by kernel_rfl
theorem df_update (P : Params) : (fdAt (KH P) 936).defaults = .ref 928 := by kernel_rfl
theorem l928 (P : Params) : (KH P).lookup 928 = some ⟨.type "tuple", none, .seq #[.none] 0, #[]⟩ := by kernel_rfl
theorem sc_init (P : Params) : (fdAt (KH P) 887).scope = jas (ctrS "__init__") := by kernel_rfl
theorem sc_update (P : Params) : (fdAt (KH P) 936).scope = jas (ctrS "update") := by kernel_rfl
structure EnvC (env : Env) (f : Addr) (fd : FuncData) : Prop where
 fn : env.func = some f
 code : env.code = fd.code
 cells : env.cells = fd.closure
 frame : env.frame = some env.locals
end
noncomputable def NewC (w : World) (B : Heap) : Prop := ∀ (s : Shared) (A : Around), Good w B s → Rm 280 A →
 Wp w A (call (.ref 1093) []) (fun v s' => ∃ a d, v = .ref a ∧ IsC s'.heap a d [] 0 ∧ s.heap.get? a = none ∧ s.heap.get? d = none ∧ Kp [] s s' ∧ s'.gens = s.gens) s
noncomputable abbrev VL := List (Int × Int)
noncomputable def vals (L : List En) : VL := L.map fun e => (e.1, e.2.2.1)
noncomputable def lk0 (V : VL) (k : Int) : Int := match V.find? (fun p => p.1 == k) with | some p => p.2 | none => 0
theorem jaG (L : List En) (k : Int) : cnt L k = lk0 (vals L) k := by
 unfold cnt getE lk0 vals
 induction L with
 | nil => rfl
 | cons x L ih =>
  rw [List.map_cons, List.find?_cons, List.find?_cons]
  cases h : x.1 == k with
  | true => rfl
  | false => simpa [h] using ih
noncomputable def jbl (E F : VL) : VL := E.filterMap fun p => let m := if p.2 < lk0 F p.1 then p.2 else lk0 F p.1; if 0 < m then some (p.1, m) else none
section
variable {w : World} {B : Heap} {A : Around} {s : Shared} {a b d e it : Addr} {L L' : List En} {ep ep' : Nat} {env : Env} {sc : Scope} {E : Value → Shared → Prop}
theorem cw_cls0 {pos : Pos} {Q : Value → Shared → Prop} (G : Good w B s) (h : wpAny (model P0 w) A (call (.ref 1093) []) Q E s) :
  wpAny (model P0 w) A (callWith pos (.ref 1093) [] (backTo pos (starEach [] env)) []) Q E s := by
 have e := G.k _ _ (look93 w.params)
 obtain ⟨c, hc⟩ := cls_data w.params
 have LC : Looks (model P0 w) s.heap (keeperOf (.ref 1093)) .machine := by
  unfold keeperOf
  refine (Looks.ld (part := none) e).andThen ?_
  rw [hc]
  dsimp only
  refine ((jcl G).andThen (jaL (T := "type") (name := "__call__") (r := some (.builtin "type.__call__")) (by kernel_rfl))).andThen ?_
  exact .now
 unfold callWith
 obtain ⟨hh, g, dr, tk, os⟩ := s
 refine wpAny_bind (wpAny_holding (evalArgs_empty (wpAny_bind (wpAny_standAt ?_))))
 refine wpAny_bind (LC.at ?_)
 refine wpAny_bind (wpAny_mono h (fun v s' hv => wpAny_bind (wpAny_holding (wpAny_point (wpAny_pure hv)))) fun Y Y z => z)
theorem st_loc {x : Str} {v : Value} {m : Str → Option Value} {Q : Unit → Shared → Prop} (G : Good w B s) (O : EnvOk env sc) (hn : s.heap.Ns env.locals m) (hB : B.get? env.locals = none)
  (h : ∀ s', s'.heap.Ns env.locals (fun y => if y = x then some v else m y) → Kp [env.locals] s s' → s'.gens = s.gens → Good w B s' → Q () s')
  (hl : sc.names.lookup x = some .local := by kernel_rfl) : wpAny (model P0 w) A (storeName env x v) Q E s := by
 refine wpAny_storeName_local (O.kind hl) hn (fun h' hn' hs' => ?_) (by rw [O.fk]; rfl)
 have k := jaz (s := s) hs' (jaP G hB) (by obtain ⟨o, _, _, ho, _⟩ := hn'; exact ⟨o, ho⟩) (tk := s.toks + 1) (Nat.le_succ _)
 exact h _ hn' k rfl (G.kp k (al1 hB))
theorem operate_wp {M : Model} {ops : List Value} {m : Sem Value} {Q : Value → Shared → Prop} (h : wpAny M A m Q E s) : wpAny M A (operate ops m) Q E s := fun Γ p hΓ => by
 rw [Sem.wp_operate]; exact h Γ p hΓ
theorem jaJ {x : Str} {px pos : Pos} {slice : Expr} {Q : Value → Shared → Prop}
  (h : wpAny (model P0 w) A (eval (.Name x px) env) (fun o s₁ => wpAny (model P0 w) A (eval slice env) (fun i s₂ => Looks (model P0 w) s₂.heap (getitemInPython o) false ∧ wpAny (model P0 w) A (getItem o i) Q E s₂) E s₁) E s)
  (hs : ∀ o i, subscripted slice false o i = operate [o, i] (getItem o i) := by intro _ _; rfl) : wpAny (model P0 w) A (eval (.Subscript (.Name x px) slice pos) env) Q E s := by
 show wpAny _ _ (do
  let o ← eval (.Name x px) env
  let i ← holding [o] (eval slice env)
  standAt pos
  let r ← subscripted slice (← getitemInPython o) o i
  letTemporaryGo (.Name x px) o r
  pure r) _ _ _
 refine wpAny_bind (wpAny_mono h (fun o s₁ h₁ => wpAny_bind (wpAny_holding (wpAny_mono h₁ (fun i s₂ hx0 => ?_) fun Y Y z => z))) fun Y Y z => z)
 obtain ⟨hl, h₂⟩ := hx0
 obtain ⟨hh, g, dr, tk, os⟩ := s₂
 refine wpAny_bind (wpAny_standAt (wpAny_bind (hl.at ?_)))
 rw [hs]
 exact wpAny_bind (operate_wp (wpAny_mono h₂ (fun r s₃ hr => wpAny_bind (wpAny_pure (wpAny_pure hr))) fun Y Y z => z))
theorem jbx (G : Good w B s) (C : IsC s.heap a d L ep) : Looks (model P0 w) s.heap (getitemInPython (.ref a)) false := by
 unfold getitemInPython
 exact (C.spec G (f1 _)).andThen .now
end
theorem Kp.comp0 {w : World} {B : Heap} {S : List Addr} {s0 s1 s2 : Shared} (G : Good w B s0) (x : Kp [] s0 s1) (y : Kp S s1 s2) (hS : ∀ a ∈ S, s0.heap.get? a = none) : Kp [] s0 s2 where
 keep b o h hc _ := y.keep b o (x.keep b o h hc ni0) hc fun m => by have := hS _ m; rw [h] at this; cases this
 there b o h := by obtain ⟨o', h'⟩ := x.there b o h; exact y.there b o' h'
 old B' _ O := y.old B' (fun a m => by
  cases e : B'.get? a with
  | none => rfl
  | some o => obtain ⟨o', e'⟩ := O.there _ _ e; rw [hS a m] at e'; cases e') (x.old B' al0 O)
 stat _ := (y.stat fun m => by obtain ⟨o, e⟩ := G.two; rw [hS _ m] at e; cases e).trans (x.stat ni0)
 os := y.os.trans x.os
 tk := Nat.le_trans x.tk y.tk
 gb h := y.gb (x.gb h)
theorem Kp.back {S : List Addr} {s s' : Shared} {b : Addr} (k : Kp S s s') (h : s'.heap.get? b = none) : s.heap.get? b = none := by
 cases e : s.heap.get? b with
 | none => rfl
 | some o => obtain ⟨o', e'⟩ := k.there _ _ e; rw [h] at e'; cases e'
theorem jay {S : List Addr} {s s' : Shared} {l : Addr} {m : Str → Option Value} (h : s.heap.Ns l m) (k : Kp S s s') (n : l ∉ S) : s'.heap.Ns l m := by
 refine aG ?_; intro gO; obtain ⟨o, es, ep, h1, h2, h3⟩ := h; unfold gO; clear gO
 refine ⟨o, es, ep, k.keep _ _ h1 ?_ n, h2, h3⟩
 unfold tabby; rw [h2]; cases o.cls <;> rfl
theorem meetV_one (x : En) (V : VL) {mm : Int} (h : (if x.2.2.1 < lk0 V x.1 then x.2.2.1 else lk0 V x.1) = mm) : jbl (vals [x]) V = if 0 < mm then [(x.1, mm)] else [] := by
 subst h
 show List.filterMap _ [(x.1, x.2.2.1)] = _
 rw [List.filterMap_cons]
 try dsimp only
 by_cases q : 0 < (if x.2.2.1 < lk0 V x.1 then x.2.2.1 else lk0 V x.1)
 ·rw [if_pos q, if_pos q]; rfl
 ·rw [if_neg q, if_neg q]; rfl
theorem ns_uniq {h : Heap} {l : Addr} {m m' : Str → Option Value} (x : h.Ns l m) (y : h.Ns l m') : m = m' := by
 refine aG ?_; intro gO; obtain ⟨o, es, ep, h1, h2, _, h3⟩ := x; unfold gO; clear gO
 refine aG ?_; intro gO; obtain ⟨o', es', ep', h1', h2', _, h3'⟩ := y; unfold gO; clear gO
 rw [h1] at h1'; cases h1'
 rw [h2] at h2'; cases h2'
 funext n; rw [← h3 n, ← h3' n]
theorem jcr {M : List En} {k : Int} (h : ∀ x ∈ M, x.1 ≠ k) : getE M k = none := by
 unfold getE
 rw [List.find?_eq_none]
 intro x hx
 simpa using h x hx
theorem jaW (M N : List En) : vals (M ++ N) = vals M ++ vals N := by simp [vals]
theorem meetV_append (E E' F : VL) : jbl (E ++ E') F = jbl E F ++ jbl E' F := by simp [jbl]
section
variable {w : World} {B : Heap} {A : Around} {s : Shared} {a b d e it : Addr} {L L' : List En} {ep ep' : Nat} {env : Env} {sc : Scope}
structure AndI (w : World) (B : Heap) (s0 : Shared) (env : Env) (b e : Addr) (L L' : List En) (ep' : Nat) (i : Nat) (s : Shared) (m : Str → Option Value) (r rd : Addr) (M : List En) (epr : Nat) : Prop where
 g : Good w B s
 ns : s.heap.Ns env.locals m
 mo : m "other" = some (.ref b)
 mr : m "result" = some (.ref r)
 cr : IsC s.heap r rd M epr
 cb : IsC s.heap b e L' ep'
 v : vals M = jbl (vals (L.take i)) (vals L')
 ks : ∀ x ∈ M, ∃ y ∈ L.take i, y.1 = x.1
 le : M.length ≤ i
 fr : s0.heap.get? r = none
 fd : s0.heap.get? rd = none
 kp : Kp [] s0 s
 gn : s.gens = s0.gens
theorem and_ctr {n : Nat} (hN : NewC w B) (G : Good w B s) (hA : Rm n A) (hn : n < 200) (C : IsC s.heap a d L ep) (C' : IsC s.heap b e L' ep') (hL : L.length ≤ 10) (hnd : (L.map (·.1)).Nodup) :
  codeAny (model P0 w) A (.call (.ref 1043) ⟨[.ref a, .ref b], []⟩) (fun r s' => ∃ v rd M epr, r = .ok (.ret (.ref v)) ∧ IsC s'.heap v rd M epr ∧ vals M = jbl (vals L) (vals L') ∧ s.heap.get? v = none ∧ s.heap.get? rd = none ∧ Kp [] s s' ∧ s'.gens = s.gens) s := by
 try (refine lC ?_; intro Ro)
 refine call_fn G hA (lq0 hn rfl) (fn_and _) (sc := jas (ctrS "__and__")) (by kernel_rfl) (binds := [("self", .ref a), ("other", .ref b)]) (by kernel_rfl) (by kernel_rfl) fun env A' s1 O R1 hn1 fr K1 g1 => ?_
 have G1 := G.kp K1 al0
 have C1 := C.kp K1 ni0 ni0
 have C2 := C'.kp K1 ni0 ni0
 have hBL := G.new fr
 have e1 : andBody = [andBody[0]!, andBody[1]!, andBody[2]!, andBody[3]!] := by kernel_rfl
 rw [e1]
 refine wpAny_execs_cons (wpAny_If (wpAny_isTrue_Not (isTrue_plain (jap (jal (.builtin "isinstance") G1 O ?_)))))
 refine ja8 (jad (jam O hn1 (v := .ref b) (by kernel_rfl) (jad (jal (.ref 1093) G1 O (jao ?_)))))
 refine (jbB G1 C2 (R1.le (lq0 hn rfl))).useE fun s2 hx0 => ?_
 obtain ⟨K2, g2⟩ := hx0
 have G2 := G1.kp K2 al0
 have C1b := C1.kp K2 ni0 ni0
 have C2b := C2.kp K2 ni0 ni0
 refine wpAny_truthy_bool ?_
 rw [if_neg (by decide)]
 refine wpAny_execs_nil ?_
 try dsimp only
 refine wpAny_execs_cons (wpAny_Assign_Name (jap (jal (.ref 1093) G2 O (cw_cls0 G2 ?_))))
 refine (hN s2 A' G2 (R1.le (lq0 hn rfl))).useE2 fun r rd s3 hx0 => ?_
 refine aG ?_; intro gO; obtain ⟨C3, f3, f3', K3, g3⟩ := hx0; unfold gO; clear gO
 have G3 := G2.kp K3 al0
 have hn3 := jay (jay hn1 K2 ni0) K3 ni0
 have K03 : Kp [] s s3 := (K1.comp0 G K2 al0).comp0 G K3 al0
 refine st_loc G3 O hn3 hBL fun s4 hn4 K4 g4 G4 => ?_
 try dsimp only
 have hLs : ∀ x ∈ [env.locals], s.heap.get? x = none := by simpa using fr
 have K04 : Kp [] s s4 := K03.comp0 G K4 hLs
 have K02 : Kp [] s s2 := K1.comp0 G K2 al0
 have frr := K02.back f3
 have frd := K02.back f3'
 have C4 := C.kp K04 ni0 ni0
 have C4' := C'.kp K04 ni0 ni0
 refine wpAny_execs_cons (wpAny_For ?_)
 refine jbW (jam O hn4 (v := .ref a) (by kernel_rfl) ?_)
 refine aG ?_; intro gO; obtain ⟨h5, g5, dr5, tk5, os5⟩ := s4; unfold gO; clear gO
 refine (jaK G4 C4 (Mine.g4 _) F.type_dict_items).at ?_
 refine jb4 ?_
 refine (jcq G4 C4 (R1.le (lq0 hn rfl))).useE1 fun vw s6 hx0 => ?_
 refine aG ?_; intro gO; obtain ⟨f6, hv6, K6, g6⟩ := hx0; unfold gO; clear gO
 have G6 := G4.kp K6 al0
 have C6 := C4.kp K6 ni0 ni0
 refine (jbA G6 C6 hv6 (R1.le (lq0 hn rfl))).useE1 fun it s7 hx0 => ?_
 refine aG ?_; intro gO; obtain ⟨f7, hi7, K7, g7⟩ := hx0; unfold gO; clear gO
 have G7 := G6.kp K7 al0
 have C7 := C6.kp K7 ni0 ni0
 have C7' := (C4'.kp K6 ni0 ni0).kp K7 ni0 ni0
 have hn7 := jay (jay hn4 K6 ni0) K7 ni0
 have K07 : Kp [] s s7 := (K04.comp0 G K6 al0).comp0 G K7 al0
 have rr : r ≠ env.locals := fun q => by
  refine aG ?_; intro gO; obtain ⟨o, _, _, ho, hd, _⟩ := jay hn1 K2 ni0; unfold gO; clear gO
  rw [← q, f3] at ho; cases ho
 have rrd : rd ≠ env.locals := fun q => by
  refine aG ?_; intro gO; obtain ⟨o, _, _, ho, hd, _⟩ := jay hn1 K2 ni0; unfold gO; clear gO
  rw [← q, f3'] at ho; cases ho
 have C7r : IsC s7.heap r rd [] 0 := ((C3.kp K4 (ni1 rr) (ni1 rrd)).kp K6 ni0 ni0).kp K7 ni0 ni0
 have fit : s.heap.get? it = none := (K04.comp0 G K6 al0).back f7
 have alive : ∀ {x : Addr} {o : Obj} {y : Addr}, s.heap.get? x = some o → s.heap.get? y = none → y ≠ x := fun h1 h2 q => by rw [q, h1] at h2; cases h2
 have rit : r ≠ it := fun q => by
  have := C7r.at_
  rw [q, hi7] at this
  cases this
 have rdit : rd ≠ it := fun q => by
  have e := C7r.ow
  rw [q, hi7] at e
  have := congrArg Obj.cls (Option.some.inj e)
  simp [iitO, dctO] at this
 have lit : env.locals ≠ it := fun q => by
  refine aG ?_; intro gO; obtain ⟨o, _, _, ho, hd, _⟩ := hn7; unfold gO; clear gO
  rw [q, hi7] at ho
  cases ho
  cases hd
 refine for_items R1 O hi7 C7 G7 (G.new fit) hBL (alive C.at_ fr) (alive C.ow fr) lit
  (fun i s' => ∃ m M epr, AndI w B s env b e L L' ep' i s' m r rd M epr) (fun i s' hx0 => by obtain ⟨m, M, epr, I⟩ := hx0; exact ⟨I.g, m, I.ns⟩)
  ⟨_, [], 0, ⟨G7, hn7, by kernel_rfl, by kernel_rfl, C7r, C7', rfl, na0, Nat.zero_le _, frr, frd, K07, g7.trans (g6.trans (g4.trans (g3.trans (g2.trans g1))))⟩⟩ ?_ ?_
 ·rintro i x t1 t2 m hx ⟨m', M, epr, I⟩ Kt hm1 hm2 gt Ct
  cases ns_uniq hm1 I.ns
  first | (refine lW ?_; intro Ro) | (refine lA ?_; intro Ro) | (refine lC ?_; intro Ro) | skip
  have fS : ∀ y ∈ [it, env.locals], s.heap.get? y = none := by
   intro y hy
   rcases List.mem_cons.mp hy with rfl | hy
   ·exact fit
   ·cases List.mem_singleton.mp hy; exact fr
  have H2 : Good w B t2 := I.g.kp Kt (fun y hy => G.new (fS y hy))
  have D2 : IsC t2.heap r rd M epr := I.cr.kp Kt (by simp [rit, rr]) (by simp [rdit, rrd])
  have nbi : b ∉ [it, env.locals] := fun hy => by have := fS _ hy; rw [C'.at_] at this; cases this
  have nei : e ∉ [it, env.locals] := fun hy => by have := fS _ hy; rw [C'.ow] at this; cases this
  have D2b : IsC t2.heap b e L' ep' := I.cb.kp Kt nbi nei
  have K2t : Kp [] s t2 := I.kp.comp0 G Kt fS
  refine wpAny_execs_cons (wpAny_Assign_Name (jaJ (jam O hm2 (v := .ref b) I.mo (jam O hm2 (v := .int x.1 x.2.1) rfl ⟨jbx H2 D2b, ?_⟩))))
  refine (jaC H2 D2b (R1.le (lq0 hn rfl))).useE1 fun t' t3 hx0 => ?_
  refine aG ?_; intro gO; obtain ⟨pt', Ka, ga⟩ := hx0; unfold gO; clear gO
  have H3 := H2.kp Ka al0
  have D3 := D2.kp Ka ni0 ni0
  have D3b := D2b.kp Ka ni0 ni0
  refine st_loc H3 O (jay hm2 Ka ni0) hBL fun t4 hm4 Kb gb H4 => ?_
  try dsimp only
  have pc := C.tp x (List.mem_of_getElem? hx)
  have D4 := D3.kp Kb (ni1 rr) (ni1 rrd)
  have nbl : b ∉ [env.locals] := fun hy => nbi (List.mem_cons_of_mem _ hy)
  have nel : e ∉ [env.locals] := fun hy => nei (List.mem_cons_of_mem _ hy)
  have D4b := D3b.kp Kb nbl nel
  have K4t : Kp [] s t4 := (K2t.comp0 G Ka al0).comp0 G Kb hLs
  have Kx : Kp [env.locals] t2 t4 := (Ka.trans Kb).mono sm0
  refine wpAny_execs_cons (wpAny_Assign_Name (Wp.use (Q := fun v s' => s' = t4 ∧ ∃ tt, 0 ≤ tt ∧ v = .int (if x.2.2.1 < cnt L' x.1 then x.2.2.1 else cnt L' x.1) tt) ?_ fun v s' hx0 => ?_))
  ·first | (refine lW ?_; intro Ro) | (refine lA ?_; intro Ro) | (refine lC ?_; intro Ro) | skip
   refine wpAny_IfExp (wpAny_isTrue_Compare1 (jam O hm4 (v := .int x.2.2.1 x.2.2.2) rfl (jam O hm4 (v := .int (cnt L' x.1) t') rfl (wpAny_lt_int (wpAny_truthy_bool ?_)))))
   by_cases hc : x.2.2.1 < cnt L' x.1
   ·first | (refine lW ?_; intro Ro) | (refine lA ?_; intro Ro) | (refine lC ?_; intro Ro) | skip
    rw [if_pos (decide_eq_true hc)]
    exact jam O hm4 (v := .int x.2.2.1 x.2.2.2) rfl ⟨rfl, _, pc.2, by rw [if_pos hc]⟩
   ·first | (refine lW ?_; intro Ro) | (refine lA ?_; intro Ro) | (refine lC ?_; intro Ro) | skip
    rw [if_neg ((fun e => hc (of_decide_eq_true e)))]
    exact jam O hm4 (v := .int (cnt L' x.1) t') rfl ⟨rfl, _, pt', by rw [if_neg hc]⟩
  refine aG ?_; intro gO; obtain ⟨es, tt, ptt, ev⟩ := hx0; unfold gO; clear gO
  subst es ev
  generalize hmm : (if x.2.2.1 < cnt L' x.1 then x.2.2.1 else cnt L' x.1) = mm
  refine st_loc H4 O hm4 hBL fun t5 hm5 Kc gc H5 => ?_
  try dsimp only
  have D5 := D4.kp Kc (ni1 rr) (ni1 rrd)
  have D5b := D4b.kp Kc nbl nel
  have K5t := K4t.comp0 G Kc hLs
  have Kx5 : Kp [env.locals] t2 t5 := (Kx.trans Kc).mono ap2
  refine wpAny_execs_cons (wpAny_If (wpAny_isTrue_Compare1 (jam O hm5 (v := .int mm tt) rfl (wpAny_Constant_int (PyProof.Rows.gt_int (wpAny_truthy_bool ?_))))))
  have Kd : Kp [] t5 { t5 with toks := t5.toks + 1 } := jak (Nat.le_succ _)
  generalize ht6 : ({ t5 with toks := t5.toks + 1 } : Shared) = t6 at Kd ⊢
  have gd : t6.gens = t5.gens := by rw [← ht6]
  have H6 := H5.kp Kd al0
  have hm6 := jay hm5 Kd ni0
  have D6 := D5.kp Kd ni0 ni0
  have D6b := D5b.kp Kd ni0 ni0
  have K6t := K5t.comp0 G Kd al0
  have Kx6 : Kp [env.locals] t2 t6 := (Kx5.trans Kd).mono sm0
  have gens6 : t6.gens = s.gens := gd.trans (gc.trans (gb.trans (ga.trans (gt.trans I.gn))))
  have hlt : i < L.length := (List.getElem?_eq_some_iff.mp hx).1
  have tk1 : L.take (i + 1) = L.take i ++ [x] := by rw [List.take_add_one, hx]; rfl
  have vx : jbl (vals (L.take (i + 1))) (vals L') = jbl (vals (L.take i)) (vals L') ++ (if 0 < mm then [(x.1, mm)] else []) := by
   rw [tk1, jaW, meetV_append]
   rw [meetV_one x (vals L') (mm := mm) (by rw [← jaG]; exact hmm)]
  have nk : ∀ y ∈ M, y.1 ≠ x.1 := fun y hy q => by
   refine aG ?_; intro gO; obtain ⟨z, hz, e⟩ := I.ks y hy; unfold gO; clear gO
   have h1 : (L.take (i + 1)).map (·.1) = (L.take i).map (·.1) ++ [x.1] := by rw [tk1, List.map_append]; rfl
   have h2 : ((L.take (i + 1)).map (·.1)).Nodup := by rw [List.map_take]; exact hnd.sublist (List.take_sublist _ _)
   rw [h1, List.nodup_append] at h2
   exact h2.2.2 _ (List.mem_map_of_mem hz) _ (List.mem_singleton_self _) (e.trans q)
  have nS : ∀ S : List Addr, (∀ y ∈ S, y = env.locals ∨ y = r) → it ∉ S ∧ a ∉ S ∧ d ∉ S := fun S hS => by
   refine ⟨fun hy => ?_, fun hy => ?_, fun hy => ?_⟩ <;> rcases hS _ hy with q | q
   ·exact lit q.symm
   ·exact rit q.symm
   ·exact alive C.at_ fr q.symm
   ·exact alive C.at_ frr q.symm
   ·exact alive C.ow fr q.symm
   ·exact alive C.ow frr q.symm
  have kM : ∀ y ∈ M, ∃ z ∈ L.take (i + 1), z.1 = y.1 := fun y hy => by
   refine aG ?_; intro gO; obtain ⟨z, hz, e⟩ := I.ks y hy; unfold gO; clear gO
   exact ⟨z, by rw [tk1]; exact List.mem_append_left _ hz, e⟩
  by_cases hp : 0 < mm
  ·first | (refine lW ?_; intro Ro) | (refine lA ?_; intro Ro) | (refine lC ?_; intro Ro) | skip
   rw [if_pos (decide_eq_true hp)]
   refine wpAny_execs_cons (wpAny_Assign_Subscript (jam O hm6 (v := .int mm tt) rfl (jam O hm6 (v := .ref r) I.mr (jam O hm6 (v := .int x.1 x.2.1) rfl ?_))))
   refine (jbX (c := 0) H6 D6 (jcr nk) (by have := I.le; exact lsq ‹_› ‹_› ‹_› (by rfl)) pc.1 ptt).use fun Y t7 hx0 => ?_
   refine aG ?_; intro gO; obtain ⟨D7, Ke, ge⟩ := hx0; unfold gO; clear gO
   refine wpAny_execs_nil (wpAny_execs_nil ⟨.inl rfl, ?_, ?_⟩)
   ·first | (refine lW ?_; intro Ro) | (refine lA ?_; intro Ro) | (refine lC ?_; intro Ro) | skip
    have nbr : b ∉ [r] := fun hy => by cases List.mem_singleton.mp hy; exact (alive C'.at_ frr) rfl
    have ner : e ∉ [r] := fun hy => by cases List.mem_singleton.mp hy; exact (alive C'.ow frr) rfl
    have fr1 : ∀ y ∈ [r], s.heap.get? y = none := by simpa using frr
    refine ⟨_, _, _, ⟨H6.kp Ke (fun y hy => G.new (fr1 y hy)), jay hm6 Ke (by simpa using Ne.symm rr), I.mo, I.mr, D7, D6b.kp Ke nbr ner, ?_, ?_, ?_, frr, frd, K6t.comp0 G Ke fr1, ge.trans gens6⟩⟩
    ·rw [jaW, vx, if_pos hp, I.v]; rfl
    ·intro y hy
     first | (refine lW ?_; intro Ro) | (refine lA ?_; intro Ro) | (refine lC ?_; intro Ro) | skip
     rcases List.mem_append.mp hy with hy | hy
     ·exact kM y hy
     ·cases List.mem_singleton.mp hy
      exact ⟨x, by rw [tk1]; simp, rfl⟩
    ·have := I.le; simp; exact ‹_›
   ·first | (refine lW ?_; intro Ro) | (refine lA ?_; intro Ro) | (refine lC ?_; intro Ro) | skip
    refine ⟨_, Kx6.trans Ke, ?_⟩
    exact nS _ (by simp)
  ·first | (refine lW ?_; intro Ro) | (refine lA ?_; intro Ro) | (refine lC ?_; intro Ro) | skip
   rw [if_neg ((fun e => hp (of_decide_eq_true e)))]
   refine wpAny_execs_nil (wpAny_execs_nil ⟨.inl rfl, ?_, ?_⟩)
   ·first | (refine lW ?_; intro Ro) | (refine lA ?_; intro Ro) | (refine lC ?_; intro Ro) | skip
    refine ⟨_, _, _, ⟨H6, hm6, I.mo, I.mr, D6, D6b, ?_, kM, Nat.le_succ_of_le I.le, frr, frd, K6t, gens6⟩⟩
    rw [vx, if_neg hp, I.v, List.append_nil]
   ·exact ⟨_, Kx6, nS _ (by simp)⟩
 ·rintro t1 t2 ⟨m, M, epr, I⟩ Kt gt
  first | (refine lW ?_; intro Ro) | (refine lA ?_; intro Ro) | (refine lC ?_; intro Ro) | skip
  have fit1 : ∀ y ∈ [it], s.heap.get? y = none := by simpa using fit
  have H2 := I.g.kp Kt (fun y hy => G.new (fit1 y hy))
  try dsimp only
  refine wpAny_execs_cons (wpAny_Return_some (jam O (jay I.ns Kt (ni1 lit)) (v := .ref r) I.mr ?_))
  refine ⟨r, rd, M, epr, rfl, I.cr.kp Kt (ni1 rit) (ni1 rdit), ?_, frr, frd, I.kp.comp0 G Kt fit1, gt.trans I.gn⟩
  have := I.v
  rwa [List.take_length] at this
end
noncomputable def jbK (E F : VL) : VL := E.filterMap fun p => let m := if p.2 < lk0 F p.1 then lk0 F p.1 else p.2; if 0 < m then some (p.1, m) else none
noncomputable def jcc (E F : VL) : VL := F.filter fun p => (E.find? fun q => q.1 == p.1).isNone && decide (0 < p.2)
noncomputable def jbP (E F : VL) : VL := jbK E F ++ jcc E F
theorem find_vals (L : List En) (k : Int) : ((vals L).find? fun q => q.1 == k).isNone = !(getE L k).isSome := by
 unfold getE vals
 induction L with
 | nil => rfl
 | cons x L ih =>
  rw [List.map_cons, List.find?_cons, List.find?_cons]
  cases h : x.1 == k with
  | true => rfl
  | false => simpa [h] using ih
theorem joinB_append (E F F' : VL) : jcc E (F ++ F') = jcc E F ++ jcc E F' := by simp [jcc]
theorem joinB_one (L : List En) (x : En) : jcc (vals L) (vals [x]) = if (!(getE L x.1).isSome && decide (0 < x.2.2.1)) = true then [(x.1, x.2.2.1)] else [] := by
 show List.filter _ [(x.1, x.2.2.1)] = _
 rw [List.filter_cons]
 try dsimp only
 rw [find_vals]
 rfl
theorem getE_some_mem {L : List En} {k : Int} (h : getE L k = none) : ∀ y ∈ L, y.1 ≠ k := by
 unfold getE at h
 rw [List.find?_eq_none] at h
 intro y hy
 simpa using h y hy
theorem joinA_append (E E' F : VL) : jbK (E ++ E') F = jbK E F ++ jbK E' F := by simp [jbK]
theorem joinA_one (x : En) (V : VL) {mm : Int} (h : (if x.2.2.1 < lk0 V x.1 then lk0 V x.1 else x.2.2.1) = mm) : jbK (vals [x]) V = if 0 < mm then [(x.1, mm)] else [] := by
 subst h
 show List.filterMap _ [(x.1, x.2.2.1)] = _
 rw [List.filterMap_cons]
 try dsimp only
 by_cases q : 0 < (if x.2.2.1 < lk0 V x.1 then lk0 V x.1 else x.2.2.1)
 ·rw [if_pos q, if_pos q]; rfl
 ·rw [if_neg q, if_neg q]; rfl
noncomputable def orBody : List Stmt := ja2 (ctrS "__or__")
theorem fn_or (P : Params) : fnChk (KH P) 1036 = some (fdAt (KH P) 1036, orBody) := by kernel_rfl
section
variable {w : World} {B : Heap} {A : Around} {s : Shared} {a b d e it : Addr} {L L' : List En} {ep ep' : Nat} {env : Env} {sc : Scope}
structure OrI (w : World) (B : Heap) (s0 : Shared) (env : Env) (a d : Addr) (ep : Nat) (b e : Addr) (L L' : List En) (ep' : Nat) (i : Nat) (s : Shared) (m : Str → Option Value) (r rd : Addr) (M : List En) (epr : Nat) : Prop where
 g : Good w B s
 ns : s.heap.Ns env.locals m
 mo : m "other" = some (.ref b)
 mr : m "result" = some (.ref r)
 cr : IsC s.heap r rd M epr
 cb : IsC s.heap b e L' ep'
 v : vals M = jbK (vals (L.take i)) (vals L')
 ks : ∀ x ∈ M, ∃ y ∈ L.take i, y.1 = x.1
 le : M.length ≤ i
 fr : s0.heap.get? r = none
 fd : s0.heap.get? rd = none
 kp : Kp [] s0 s
 gn : s.gens = s0.gens
 ms : m "self" = some (.ref a)
 ca : IsC s.heap a d L ep
theorem notin_ctr {k : Int} {t : Nat} (G : Good w B s) (C : IsC s.heap a d L ep) : Wp w A (compareOp .NotIn (.int k t) (.ref a)) (fun v s' => v = .bool (!(getE L k).isSome) ∧ Kp [] s s' ∧ s'.gens = s.gens) s := by
 try (refine lW ?_; intro Ro)
 show wpAny _ _ (do return Value.bool (!(← contains (.ref a) (.int k t)))) _ _ _
 exact wpAny_bind ((contains_ctr G C).use fun c s' hx0 => by obtain ⟨e, k1, g1⟩ := hx0; exact wpAny_pure ⟨by rw [e], k1, g1⟩)
theorem or_ctr {n : Nat} (hN : NewC w B) (G : Good w B s) (hA : Rm n A) (hn : n < 200) (C : IsC s.heap a d L ep) (C' : IsC s.heap b e L' ep') (hL : L.length ≤ 10) (hnd : (L.map (·.1)).Nodup) (hL' : L'.length ≤ 10) (hnd' : (L'.map (·.1)).Nodup) :
  codeAny (model P0 w) A (.call (.ref 1036) ⟨[.ref a, .ref b], []⟩) (fun r s' => ∃ v rd M epr, r = .ok (.ret (.ref v)) ∧ IsC s'.heap v rd M epr ∧ vals M = jbP (vals L) (vals L') ∧ s.heap.get? v = none ∧ s.heap.get? rd = none ∧ Kp [] s s' ∧ s'.gens = s.gens) s := by
 try (refine lC ?_; intro Ro)
 refine call_fn G hA (lq0 hn rfl) (fn_or _) (sc := jas (ctrS "__or__")) (by kernel_rfl) (binds := [("self", .ref a), ("other", .ref b)]) (by kernel_rfl) (by kernel_rfl) fun env A' s1 O R1 hn1 fr K1 g1 => ?_
 have G1 := G.kp K1 al0
 have C1 := C.kp K1 ni0 ni0
 have C2 := C'.kp K1 ni0 ni0
 have hBL := G.new fr
 have e1 : orBody = [orBody[0]!, orBody[1]!, orBody[2]!, orBody[3]!, orBody[4]!] := by kernel_rfl
 rw [e1]
 refine wpAny_execs_cons (wpAny_If (wpAny_isTrue_Not (isTrue_plain (jap (jal (.builtin "isinstance") G1 O ?_)))))
 refine ja8 (jad (jam O hn1 (v := .ref b) (by kernel_rfl) (jad (jal (.ref 1093) G1 O (jao ?_)))))
 refine (jbB G1 C2 (R1.le (lq0 hn rfl))).useE fun s2 hx0 => ?_
 obtain ⟨K2, g2⟩ := hx0
 have G2 := G1.kp K2 al0
 have C1b := C1.kp K2 ni0 ni0
 have C2b := C2.kp K2 ni0 ni0
 refine wpAny_truthy_bool ?_
 rw [if_neg (by decide)]
 refine wpAny_execs_nil ?_
 try dsimp only
 refine wpAny_execs_cons (wpAny_Assign_Name (jap (jal (.ref 1093) G2 O (cw_cls0 G2 ?_))))
 refine (hN s2 A' G2 (R1.le (lq0 hn rfl))).useE2 fun r rd s3 hx0 => ?_
 refine aG ?_; intro gO; obtain ⟨C3, f3, f3', K3, g3⟩ := hx0; unfold gO; clear gO
 have G3 := G2.kp K3 al0
 have hn3 := jay (jay hn1 K2 ni0) K3 ni0
 have K03 : Kp [] s s3 := (K1.comp0 G K2 al0).comp0 G K3 al0
 refine st_loc G3 O hn3 hBL fun s4 hn4 K4 g4 G4 => ?_
 try dsimp only
 have hLs : ∀ x ∈ [env.locals], s.heap.get? x = none := by simpa using fr
 have K04 : Kp [] s s4 := K03.comp0 G K4 hLs
 have K02 : Kp [] s s2 := K1.comp0 G K2 al0
 have frr := K02.back f3
 have frd := K02.back f3'
 have C4 := C.kp K04 ni0 ni0
 have C4' := C'.kp K04 ni0 ni0
 refine wpAny_execs_cons (wpAny_For ?_)
 refine jbW (jam O hn4 (v := .ref a) (by kernel_rfl) ?_)
 refine aG ?_; intro gO; obtain ⟨h5, g5, dr5, tk5, os5⟩ := s4; unfold gO; clear gO
 refine (jaK G4 C4 (Mine.g4 _) F.type_dict_items).at ?_
 refine jb4 ?_
 refine (jcq G4 C4 (R1.le (lq0 hn rfl))).useE1 fun vw s6 hx0 => ?_
 refine aG ?_; intro gO; obtain ⟨f6, hv6, K6, g6⟩ := hx0; unfold gO; clear gO
 have G6 := G4.kp K6 al0
 have C6 := C4.kp K6 ni0 ni0
 refine (jbA G6 C6 hv6 (R1.le (lq0 hn rfl))).useE1 fun it s7 hx0 => ?_
 refine aG ?_; intro gO; obtain ⟨f7, hi7, K7, g7⟩ := hx0; unfold gO; clear gO
 have G7 := G6.kp K7 al0
 have C7 := C6.kp K7 ni0 ni0
 have C7' := (C4'.kp K6 ni0 ni0).kp K7 ni0 ni0
 have hn7 := jay (jay hn4 K6 ni0) K7 ni0
 have K07 : Kp [] s s7 := (K04.comp0 G K6 al0).comp0 G K7 al0
 have rr : r ≠ env.locals := fun q => by
  refine aG ?_; intro gO; obtain ⟨o, _, _, ho, hd, _⟩ := jay hn1 K2 ni0; unfold gO; clear gO
  rw [← q, f3] at ho; cases ho
 have rrd : rd ≠ env.locals := fun q => by
  refine aG ?_; intro gO; obtain ⟨o, _, _, ho, hd, _⟩ := jay hn1 K2 ni0; unfold gO; clear gO
  rw [← q, f3'] at ho; cases ho
 have C7r : IsC s7.heap r rd [] 0 := ((C3.kp K4 (ni1 rr) (ni1 rrd)).kp K6 ni0 ni0).kp K7 ni0 ni0
 have fit : s.heap.get? it = none := (K04.comp0 G K6 al0).back f7
 have alive : ∀ {x : Addr} {o : Obj} {y : Addr}, s.heap.get? x = some o → s.heap.get? y = none → y ≠ x := fun h1 h2 q => by rw [q, h1] at h2; cases h2
 have rit : r ≠ it := fun q => by
  have := C7r.at_
  rw [q, hi7] at this
  cases this
 have rdit : rd ≠ it := fun q => by
  have e := C7r.ow
  rw [q, hi7] at e
  have := congrArg Obj.cls (Option.some.inj e)
  simp [iitO, dctO] at this
 have lit : env.locals ≠ it := fun q => by
  refine aG ?_; intro gO; obtain ⟨o, _, _, ho, hd, _⟩ := hn7; unfold gO; clear gO
  rw [q, hi7] at ho
  cases ho
  cases hd
 refine for_items R1 O hi7 C7 G7 (G.new fit) hBL (alive C.at_ fr) (alive C.ow fr) lit
  (fun i s' => ∃ m M epr, OrI w B s env a d ep b e L L' ep' i s' m r rd M epr) (fun i s' hx0 => by obtain ⟨m, M, epr, I⟩ := hx0; exact ⟨I.g, m, I.ns⟩)
  ⟨_, [], 0, ⟨G7, hn7, by kernel_rfl, by kernel_rfl, C7r, C7', rfl, na0, Nat.zero_le _, frr, frd, K07, g7.trans (g6.trans (g4.trans (g3.trans (g2.trans g1)))), by kernel_rfl, C7⟩⟩ ?_ ?_
 ·rintro i x t1 t2 m hx ⟨m', M, epr, I⟩ Kt hm1 hm2 gt Ct
  cases ns_uniq hm1 I.ns
  first | (refine lW ?_; intro Ro) | (refine lA ?_; intro Ro) | (refine lC ?_; intro Ro) | skip
  have fS : ∀ y ∈ [it, env.locals], s.heap.get? y = none := by
   intro y hy
   rcases List.mem_cons.mp hy with rfl | hy
   ·exact fit
   ·cases List.mem_singleton.mp hy; exact fr
  have H2 : Good w B t2 := I.g.kp Kt (fun y hy => G.new (fS y hy))
  have D2 : IsC t2.heap r rd M epr := I.cr.kp Kt (by simp [rit, rr]) (by simp [rdit, rrd])
  have nbi : b ∉ [it, env.locals] := fun hy => by have := fS _ hy; rw [C'.at_] at this; cases this
  have nei : e ∉ [it, env.locals] := fun hy => by have := fS _ hy; rw [C'.ow] at this; cases this
  have D2b : IsC t2.heap b e L' ep' := I.cb.kp Kt nbi nei
  have K2t : Kp [] s t2 := I.kp.comp0 G Kt fS
  refine wpAny_execs_cons (wpAny_Assign_Name (jaJ (jam O hm2 (v := .ref b) I.mo (jam O hm2 (v := .int x.1 x.2.1) rfl ⟨jbx H2 D2b, ?_⟩))))
  refine (jaC H2 D2b (R1.le (lq0 hn rfl))).useE1 fun t' t3 hx0 => ?_
  refine aG ?_; intro gO; obtain ⟨pt', Ka, ga⟩ := hx0; unfold gO; clear gO
  have H3 := H2.kp Ka al0
  have D3 := D2.kp Ka ni0 ni0
  have D3b := D2b.kp Ka ni0 ni0
  refine st_loc H3 O (jay hm2 Ka ni0) hBL fun t4 hm4 Kb gb H4 => ?_
  try dsimp only
  have pc := C.tp x (List.mem_of_getElem? hx)
  have D4 := D3.kp Kb (ni1 rr) (ni1 rrd)
  have nbl : b ∉ [env.locals] := fun hy => nbi (List.mem_cons_of_mem _ hy)
  have nel : e ∉ [env.locals] := fun hy => nei (List.mem_cons_of_mem _ hy)
  have D4b := D3b.kp Kb nbl nel
  have K4t : Kp [] s t4 := (K2t.comp0 G Ka al0).comp0 G Kb hLs
  have Kx : Kp [env.locals] t2 t4 := (Ka.trans Kb).mono sm0
  refine wpAny_execs_cons (wpAny_Assign_Name (Wp.use (Q := fun v s' => s' = t4 ∧ ∃ tt, 0 ≤ tt ∧ v = .int (if x.2.2.1 < cnt L' x.1 then cnt L' x.1 else x.2.2.1) tt) ?_ fun v s' hx0 => ?_))
  ·first | (refine lW ?_; intro Ro) | (refine lA ?_; intro Ro) | (refine lC ?_; intro Ro) | skip
   refine wpAny_IfExp (wpAny_isTrue_Compare1 (jam O hm4 (v := .int x.2.2.1 x.2.2.2) rfl (jam O hm4 (v := .int (cnt L' x.1) t') rfl (wpAny_lt_int (wpAny_truthy_bool ?_)))))
   by_cases hc : x.2.2.1 < cnt L' x.1
   ·first | (refine lW ?_; intro Ro) | (refine lA ?_; intro Ro) | (refine lC ?_; intro Ro) | skip
    rw [if_pos (decide_eq_true hc)]
    exact jam O hm4 (v := .int (cnt L' x.1) t') rfl ⟨rfl, _, pt', by rw [if_pos hc]⟩
   ·first | (refine lW ?_; intro Ro) | (refine lA ?_; intro Ro) | (refine lC ?_; intro Ro) | skip
    rw [if_neg ((fun e => hc (of_decide_eq_true e)))]
    exact jam O hm4 (v := .int x.2.2.1 x.2.2.2) rfl ⟨rfl, _, pc.2, by rw [if_neg hc]⟩
  refine aG ?_; intro gO; obtain ⟨es, tt, ptt, ev⟩ := hx0; unfold gO; clear gO
  subst es ev
  generalize hmm : (if x.2.2.1 < cnt L' x.1 then cnt L' x.1 else x.2.2.1) = mm
  refine st_loc H4 O hm4 hBL fun t5 hm5 Kc gc H5 => ?_
  try dsimp only
  have D5 := D4.kp Kc (ni1 rr) (ni1 rrd)
  have D5b := D4b.kp Kc nbl nel
  have K5t := K4t.comp0 G Kc hLs
  have Kx5 : Kp [env.locals] t2 t5 := (Kx.trans Kc).mono ap2
  refine wpAny_execs_cons (wpAny_If (wpAny_isTrue_Compare1 (jam O hm5 (v := .int mm tt) rfl (wpAny_Constant_int (PyProof.Rows.gt_int (wpAny_truthy_bool ?_))))))
  have Kd : Kp [] t5 { t5 with toks := t5.toks + 1 } := jak (Nat.le_succ _)
  generalize ht6 : ({ t5 with toks := t5.toks + 1 } : Shared) = t6 at Kd ⊢
  have gd : t6.gens = t5.gens := by rw [← ht6]
  have H6 := H5.kp Kd al0
  have hm6 := jay hm5 Kd ni0
  have D6 := D5.kp Kd ni0 ni0
  have D6b := D5b.kp Kd ni0 ni0
  have K6t := K5t.comp0 G Kd al0
  have Kx6 : Kp [env.locals] t2 t6 := (Kx5.trans Kd).mono sm0
  have gens6 : t6.gens = s.gens := gd.trans (gc.trans (gb.trans (ga.trans (gt.trans I.gn))))
  have nal : a ∉ [env.locals] := fun hy => by cases List.mem_singleton.mp hy; exact (alive C.at_ fr) rfl
  have ndl : d ∉ [env.locals] := fun hy => by cases List.mem_singleton.mp hy; exact (alive C.ow fr) rfl
  have C6a := Ct.kp Kx6 nal ndl
  have hlt : i < L.length := (List.getElem?_eq_some_iff.mp hx).1
  have tk1 : L.take (i + 1) = L.take i ++ [x] := by rw [List.take_add_one, hx]; rfl
  have vx : jbK (vals (L.take (i + 1))) (vals L') = jbK (vals (L.take i)) (vals L') ++ (if 0 < mm then [(x.1, mm)] else []) := by
   rw [tk1, jaW, joinA_append]
   rw [joinA_one x (vals L') (mm := mm) (by rw [← jaG]; exact hmm)]
  have nk : ∀ y ∈ M, y.1 ≠ x.1 := fun y hy q => by
   refine aG ?_; intro gO; obtain ⟨z, hz, e⟩ := I.ks y hy; unfold gO; clear gO
   have h1 : (L.take (i + 1)).map (·.1) = (L.take i).map (·.1) ++ [x.1] := by rw [tk1, List.map_append]; rfl
   have h2 : ((L.take (i + 1)).map (·.1)).Nodup := by rw [List.map_take]; exact hnd.sublist (List.take_sublist _ _)
   rw [h1, List.nodup_append] at h2
   exact h2.2.2 _ (List.mem_map_of_mem hz) _ (List.mem_singleton_self _) (e.trans q)
  have nS : ∀ S : List Addr, (∀ y ∈ S, y = env.locals ∨ y = r) → it ∉ S ∧ a ∉ S ∧ d ∉ S := fun S hS => by
   refine ⟨fun hy => ?_, fun hy => ?_, fun hy => ?_⟩ <;> rcases hS _ hy with q | q
   ·exact lit q.symm
   ·exact rit q.symm
   ·exact alive C.at_ fr q.symm
   ·exact alive C.at_ frr q.symm
   ·exact alive C.ow fr q.symm
   ·exact alive C.ow frr q.symm
  have kM : ∀ y ∈ M, ∃ z ∈ L.take (i + 1), z.1 = y.1 := fun y hy => by
   refine aG ?_; intro gO; obtain ⟨z, hz, e⟩ := I.ks y hy; unfold gO; clear gO
   exact ⟨z, by rw [tk1]; exact List.mem_append_left _ hz, e⟩
  by_cases hp : 0 < mm
  ·first | (refine lW ?_; intro Ro) | (refine lA ?_; intro Ro) | (refine lC ?_; intro Ro) | skip
   rw [if_pos (decide_eq_true hp)]
   refine wpAny_execs_cons (wpAny_Assign_Subscript (jam O hm6 (v := .int mm tt) rfl (jam O hm6 (v := .ref r) I.mr (jam O hm6 (v := .int x.1 x.2.1) rfl ?_))))
   refine (jbX (c := 0) H6 D6 (jcr nk) (by have := I.le; exact lsq ‹_› ‹_› ‹_› (by rfl)) pc.1 ptt).use fun Y t7 hx0 => ?_
   refine aG ?_; intro gO; obtain ⟨D7, Ke, ge⟩ := hx0; unfold gO; clear gO
   refine wpAny_execs_nil (wpAny_execs_nil ⟨.inl rfl, ?_, ?_⟩)
   ·first | (refine lW ?_; intro Ro) | (refine lA ?_; intro Ro) | (refine lC ?_; intro Ro) | skip
    have nbr : b ∉ [r] := fun hy => by cases List.mem_singleton.mp hy; exact (alive C'.at_ frr) rfl
    have ner : e ∉ [r] := fun hy => by cases List.mem_singleton.mp hy; exact (alive C'.ow frr) rfl
    have fr1 : ∀ y ∈ [r], s.heap.get? y = none := by simpa using frr
    refine ⟨_, _, _, ⟨H6.kp Ke (fun y hy => G.new (fr1 y hy)), jay hm6 Ke (by simpa using Ne.symm rr), I.mo, I.mr, D7, D6b.kp Ke nbr ner, ?_, ?_, ?_, frr, frd, K6t.comp0 G Ke fr1, ge.trans gens6, I.ms, C6a.kp Ke (fun hy => by cases List.mem_singleton.mp hy; exact (alive C.at_ frr) rfl) (fun hy => by cases List.mem_singleton.mp hy; exact (alive C.ow frr) rfl)⟩⟩
    ·rw [jaW, vx, if_pos hp, I.v]; rfl
    ·intro y hy
     first | (refine lW ?_; intro Ro) | (refine lA ?_; intro Ro) | (refine lC ?_; intro Ro) | skip
     rcases List.mem_append.mp hy with hy | hy
     ·exact kM y hy
     ·cases List.mem_singleton.mp hy
      exact ⟨x, by rw [tk1]; simp, rfl⟩
    ·have := I.le; simp; exact ‹_›
   ·first | (refine lW ?_; intro Ro) | (refine lA ?_; intro Ro) | (refine lC ?_; intro Ro) | skip
    refine ⟨_, Kx6.trans Ke, ?_⟩
    exact nS _ (by simp)
  ·first | (refine lW ?_; intro Ro) | (refine lA ?_; intro Ro) | (refine lC ?_; intro Ro) | skip
   rw [if_neg ((fun e => hp (of_decide_eq_true e)))]
   refine wpAny_execs_nil (wpAny_execs_nil ⟨.inl rfl, ?_, ?_⟩)
   ·first | (refine lW ?_; intro Ro) | (refine lA ?_; intro Ro) | (refine lC ?_; intro Ro) | skip
    refine ⟨_, _, _, ⟨H6, hm6, I.mo, I.mr, D6, D6b, ?_, kM, Nat.le_succ_of_le I.le, frr, frd, K6t, gens6, I.ms, C6a⟩⟩
    rw [vx, if_neg hp, I.v, List.append_nil]
   ·exact ⟨_, Kx6, nS _ (by simp)⟩
 ·rintro t1 t2 ⟨m, M, epr, I⟩ Kt gt
  first | (refine lW ?_; intro Ro) | (refine lA ?_; intro Ro) | (refine lC ?_; intro Ro) | skip
  have fit1 : ∀ y ∈ [it], s.heap.get? y = none := by simpa using fit
  have H2 := I.g.kp Kt (fun y hy => G.new (fit1 y hy))
  try dsimp only
  have hn2 := jay I.ns Kt (ni1 lit)
  have Ka2 := I.ca.kp Kt (by simpa using (alive C.at_ fit).symm) (by simpa using (alive C.ow fit).symm)
  have Kb2 := I.cb.kp Kt (by simpa using (alive C'.at_ fit).symm) (by simpa using (alive C'.ow fit).symm)
  have Kr2 := I.cr.kp Kt (ni1 rit) (ni1 rdit)
  have K2s := I.kp.comp0 G Kt fit1
  have v2 : vals M = jbK (vals L) (vals L') := by have := I.v; rwa [List.take_length] at this
  have ks2 : ∀ x ∈ M, ∃ y ∈ L, y.1 = x.1 := fun x hx => by obtain ⟨y, hy, e⟩ := I.ks x hx; exact ⟨y, List.mem_of_mem_take hy, e⟩
  have gn2 := gt.trans I.gn
  have mo := I.mo
  have mr := I.mr
  have ms := I.ms
  have le2 := I.le
  clear I Kt gt
  refine wpAny_execs_cons (wpAny_For (jbW (jam O hn2 (v := .ref b) mo ?_)))
  have LG := jaK H2 Kb2 (Mine.g4 _) F.type_dict_items (pl := (do return (← importBound (.Name "other" ⟨0, 0, 0, 0⟩) env).getD true))
  refine aG ?_; intro gO; obtain ⟨hh2, gg2, dd2, tt2, oo2⟩ := t2; unfold gO; clear gO
  refine (jaK H2 Kb2 (Mine.g4 _) F.type_dict_items).at ?_
  refine jb4 ?_
  refine (jcq H2 Kb2 (R1.le (lq0 hn rfl))).useE1 fun vw2 u6 hx0 => ?_
  refine aG ?_; intro gO; obtain ⟨uf6, uv6, UK6, ug6⟩ := hx0; unfold gO; clear gO
  have UG6 := H2.kp UK6 al0
  have UC6 := Kb2.kp UK6 ni0 ni0
  refine (jbA UG6 UC6 uv6 (R1.le (lq0 hn rfl))).useE1 fun jt u7 hx0 => ?_
  refine aG ?_; intro gO; obtain ⟨uf7, ui7, UK7, ug7⟩ := hx0; unfold gO; clear gO
  have UG7 := UG6.kp UK7 al0
  have Ub7 := UC6.kp UK7 ni0 ni0
  have Ua7 := (Ka2.kp UK6 ni0 ni0).kp UK7 ni0 ni0
  have Ur7 := (Kr2.kp UK6 ni0 ni0).kp UK7 ni0 ni0
  have un7 := jay (jay hn2 UK6 ni0) UK7 ni0
  have UK07 := (K2s.comp0 G UK6 al0).comp0 G UK7 al0
  have fjt : s.heap.get? jt = none := (K2s.comp0 G UK6 al0).back uf7
  have rjt : r ≠ jt := fun q => by
   have := Ur7.at_
   rw [q, ui7] at this
   cases this
  have rdjt : rd ≠ jt := fun q => by
   have e := Ur7.ow
   rw [q, ui7] at e
   have := congrArg Obj.cls (Option.some.inj e)
   simp [iitO, dctO] at this
  have ljt : env.locals ≠ jt := fun q => by
   refine aG ?_; intro gO; obtain ⟨o, _, _, ho, hd, _⟩ := un7; unfold gO; clear gO
   rw [q, ui7] at ho
   cases ho
   cases hd
  refine for_items R1 O ui7 Ub7 UG7 (G.new fjt) hBL (alive C'.at_ fr) (alive C'.ow fr) ljt
   (fun i s' => ∃ m M epr, Good w B s' ∧ s'.heap.Ns env.locals m ∧ m "self" = some (.ref a) ∧ m "result" = some (.ref r) ∧ IsC s'.heap r rd M epr ∧ IsC s'.heap a d L ep ∧ vals M = jbK (vals L) (vals L') ++ jcc (vals L) (vals (L'.take i)) ∧
    (∀ x ∈ M, (∃ y ∈ L, y.1 = x.1) ∨ ∃ y ∈ L'.take i, y.1 = x.1) ∧ M.length ≤ L.length + i ∧ Kp [] s s' ∧ s'.gens = s.gens) (fun i s' hx0 => by obtain ⟨m, M, epr, g, n, _⟩ := hx0; exact ⟨g, m, n⟩)
   ⟨_, M, epr, UG7, un7, ms, mr, Ur7, Ua7, by rw [v2]; simp [jcc, vals], fun x hx => .inl (ks2 x hx), by exact Nat.le_add_right_of_le ‹_›, UK07, ug7.trans (ug6.trans gn2)⟩ ?_ ?_
  ·rintro i x t1 t2 m hx ⟨m', M, epr, I1, I2, I3, I4, I5, I6, I7, I8, I9, I10, I11⟩ Kt hm1 hm2 gt Ct
   cases ns_uniq hm1 I2
   first | (refine lW ?_; intro Ro) | (refine lA ?_; intro Ro) | (refine lC ?_; intro Ro) | skip
   have fS : ∀ y ∈ [jt, env.locals], s.heap.get? y = none := by
    intro y hy
    rcases List.mem_cons.mp hy with rfl | hy
    ·exact fjt
    ·cases List.mem_singleton.mp hy; exact fr
   have nS1 : ∀ {y : Addr} {o : Obj}, s.heap.get? y = some o → y ∉ [jt, env.locals] := fun h hy => by have := fS _ hy; rw [h] at this; cases this
   have H2 : Good w B t2 := I1.kp Kt (fun y hy => G.new (fS y hy))
   have D2 : IsC t2.heap r rd M epr := I5.kp Kt (by simp [rjt, rr]) (by simp [rdjt, rrd])
   have D2a : IsC t2.heap a d L ep := I6.kp Kt (nS1 C.at_) (nS1 C.ow)
   have K2t : Kp [] s t2 := I10.comp0 G Kt fS
   have pc := C'.tp x (List.mem_of_getElem? hx)
   refine wpAny_execs_cons (wpAny_If (Wp.use (Q := fun c t' => c = (!(getE L x.1).isSome && decide (0 < x.2.2.1)) ∧ Kp [] t2 t' ∧ t'.gens = t2.gens) ?_ fun c t6 hx0 => ?_))
   ·first | (refine lW ?_; intro Ro) | (refine lA ?_; intro Ro) | (refine lC ?_; intro Ro) | skip
    refine isTrue_and (wpAny_isTrue_Compare1 (jam O hm2 (v := .int x.1 x.2.1) rfl (jam O hm2 (v := .ref a) I3 ?_)))
    refine (notin_ctr H2 D2a).useE fun t3 hx0 => ?_
    obtain ⟨Ka, ga⟩ := hx0
    refine wpAny_truthy_bool ?_
    cases hc : (getE L x.1).isSome with
    | true => exact ⟨by simp [hc], Ka, ga⟩
    | false =>
     have hm3 := jay hm2 Ka ni0
     refine isTrue_and (wpAny_isTrue_Compare1 (jam O hm3 (v := .int x.2.2.1 x.2.2.2) rfl (wpAny_Constant_int (PyProof.Rows.gt_int (wpAny_truthy_bool ?_)))))
     have Kb := (Ka.trans (jak (s := t3) (Nat.le_succ _))).mono (S' := []) al0
     cases hq : decide (0 < x.2.2.1) with
     | false => exact ⟨by simp [hc, hq], Kb, ga⟩
     | true => exact isTrue_and_nil ⟨by simp [hc, hq], Kb, ga⟩
   ·first | (refine lW ?_; intro Ro) | (refine lA ?_; intro Ro) | (refine lC ?_; intro Ro) | skip
    refine aG ?_; intro gO; obtain ⟨ec, Kd, gd⟩ := hx0; unfold gO; clear gO
    have H6 := H2.kp Kd al0
    have hm6 := jay hm2 Kd ni0
    have D6 := D2.kp Kd ni0 ni0
    have D6a := D2a.kp Kd ni0 ni0
    have K6t := K2t.comp0 G Kd al0
    have gens6 : t6.gens = s.gens := gd.trans (gt.trans I11)
    have tk1 : L'.take (i + 1) = L'.take i ++ [x] := by rw [List.take_add_one, hx]; rfl
    have vx : jcc (vals L) (vals (L'.take (i + 1))) = jcc (vals L) (vals (L'.take i)) ++ (if c = true then [(x.1, x.2.2.1)] else []) := by
     rw [tk1, jaW, joinB_append, joinB_one, ← ec]
    have kM : ∀ y ∈ M, (∃ z ∈ L, z.1 = y.1) ∨ ∃ z ∈ L'.take (i + 1), z.1 = y.1 := fun y hy => by
     rcases I8 y hy with h | ⟨z, hz, e⟩
     ·exact .inl h
     ·exact .inr ⟨z, by rw [tk1]; exact List.mem_append_left _ hz, e⟩
    have hlt : i < L'.length := (List.getElem?_eq_some_iff.mp hx).1
    cases c with
    | false =>
     rw [if_neg (by decide)]
     refine wpAny_execs_nil (wpAny_execs_nil ⟨.inl rfl, ⟨_, M, epr, H6, hm6, I3, I4, D6, D6a, ?_, kM, by exact Nat.le_succ_of_le ‹_›, K6t, gens6⟩, [], Kd, by simp, by simp, by simp⟩)
     rw [vx, I7]; simp
    | true =>
     rw [if_pos rfl]
     have ec' := ec.symm
     rw [Bool.and_eq_true] at ec'
     have hnone : getE L x.1 = none := by
      cases q : getE L x.1 with
      | none => rfl
      | some z => rw [q] at ec'; simp at ec'
     have nk : ∀ y ∈ M, y.1 ≠ x.1 := fun y hy q => by
      rcases I8 y hy with ⟨z, hz, e⟩ | ⟨z, hz, e⟩
      ·exact getE_some_mem hnone z hz (e.trans q)
      ·first | (refine lW ?_; intro Ro) | (refine lA ?_; intro Ro) | (refine lC ?_; intro Ro) | skip
       have h1 : (L'.take (i + 1)).map (·.1) = (L'.take i).map (·.1) ++ [x.1] := by rw [tk1, List.map_append]; rfl
       have h2 : ((L'.take (i + 1)).map (·.1)).Nodup := by rw [List.map_take]; exact hnd'.sublist (List.take_sublist _ _)
       rw [h1, List.nodup_append] at h2
       exact h2.2.2 _ (List.mem_map_of_mem hz) _ (List.mem_singleton_self _) (e.trans q)
     refine wpAny_execs_cons (wpAny_Assign_Subscript (jam O hm6 (v := .int x.2.2.1 x.2.2.2) rfl (jam O hm6 (v := .ref r) I4 (jam O hm6 (v := .int x.1 x.2.1) rfl ?_))))
     refine (jbX (c := 0) H6 D6 (jcr nk) (lsp ‹_› ‹_› ‹_› ‹_› (by rfl)) pc.1 pc.2).use fun Y t7 hx0 => ?_
     refine aG ?_; intro gO; obtain ⟨D7, Ke, ge⟩ := hx0; unfold gO; clear gO
     have fr1 : ∀ y ∈ [r], s.heap.get? y = none := by simpa using frr
     have nr : ∀ {y : Addr} {o : Obj}, s.heap.get? y = some o → y ∉ [r] := fun h hy => by have := fr1 _ hy; rw [h] at this; cases this
     refine wpAny_execs_nil (wpAny_execs_nil ⟨.inl rfl, ⟨_, _, _, H6.kp Ke (fun y hy => G.new (fr1 y hy)), jay hm6 Ke (by simpa using Ne.symm rr), I3, I4, D7, D6a.kp Ke (nr C.at_) (nr C.ow), ?_, ?_, ?_, K6t.comp0 G Ke fr1, ge.trans gens6⟩, [r], (Kd.trans Ke).mono sm0, by simpa using Ne.symm rjt, nr C'.at_, nr C'.ow⟩)
     ·rw [jaW, vx, I7, if_pos rfl, List.append_assoc]; rfl
     ·intro y hy
      first | (refine lW ?_; intro Ro) | (refine lA ?_; intro Ro) | (refine lC ?_; intro Ro) | skip
      rcases List.mem_append.mp hy with hy | hy
      ·exact kM y hy
      ·cases List.mem_singleton.mp hy
       exact .inr ⟨x, by rw [tk1]; simp, rfl⟩
     ·simp; omega
  ·rintro t1 t2 ⟨m, M, epr, I1, I2, I3, I4, I5, I6, I7, I8, I9, I10, I11⟩ Kt gt
   first | (refine lW ?_; intro Ro) | (refine lA ?_; intro Ro) | (refine lC ?_; intro Ro) | skip
   have fit1 : ∀ y ∈ [jt], s.heap.get? y = none := by simpa using fjt
   try dsimp only
   refine wpAny_execs_cons (wpAny_Return_some (jam O (jay I2 Kt (ni1 ljt)) (v := .ref r) I4 ?_))
   refine ⟨r, rd, M, epr, rfl, I5.kp Kt (ni1 rjt) (ni1 rdjt), ?_, frr, frd, I10.comp0 G Kt fit1, gt.trans I11⟩
   rw [I7, List.take_length]; rfl
end
noncomputable def supO (a : Addr) : Obj := ⟨.type "super", none, .fields #[.ref 1093, .ref a, .ref 1093], #[]⟩
local macro_rules | `(tactic| x_close) => `(tactic| (refine ⟨_, _, rfl, by assumption, ?m1, rfl, rfl, by ((try dsimp only); exact Nat.le_refl _)⟩; (case m1 => (repeat (first | exact List.Mem.head _ | refine List.Mem.tail _ ?_)))))
theorem super_run (w : World) (s : Shared) (KX : (KH w.params).In s.heap) (a d ep : Nat) (es : Array DictEntry) (ha : s.heap.get? a = some ⟨.ref 1093, some d, .dict es ep, #[]⟩) :
  wpAny (model P0 w) lv0 (call (.type "super") [.ref 1093, .ref a]) (fun v s' => ∃ x news, v = .ref x ∧ Mem s.heap s'.heap [] news ∧ (x, (⟨.type "super", none, .fields #[.ref 1093, .ref a, .ref 1093], #[]⟩ : Obj)) ∈ news ∧ s'.gens = s.gens ∧ s'.os = s.os ∧ s.toks ≤ s'.toks) (fun Y Y => False) s := by
 have f2 := kf2 KX; have f3 := kf3 KX; have f83 := kf83 KX; have f84 := kf84 KX; have f99 := kf99 KX; have f100 := jbJ KX; have f116 := jbI KX; have f117 := jbH KX; have f466 := jbG KX; have f467 := jb0 KX; have f470 := jbF KX; have f471 := jbE KX; have f893 := jbO KX; have f894 := jbN KX; have f1092 := jbf KX; have f1093 := jbe KX
 x_run
noncomputable def mwO (id : String) (a : Addr) : Obj := ⟨.type "method-wrapper", none, .fields #[.builtin id, .ref a], #[]⟩
theorem geti_run (w : World) (s : Shared) (KX : (KH w.params).In s.heap) (a d ep : Nat) (es : Array DictEntry) (ha : s.heap.get? a = some ⟨.ref 1093, some d, .dict es ep, #[]⟩) :
  wpAny (model P0 w) lv0 (call (.builtin "wrapper_descriptor.__get__") [.builtin "dict.__init__", .ref a, .ref 1093]) (fun v s' => ∃ x news, v = .ref x ∧ Mem s.heap s'.heap [] news ∧ (x, (⟨.type "method-wrapper", none, .fields #[.builtin "dict.__init__", .ref a], #[]⟩ : Obj)) ∈ news ∧ s'.gens = s.gens ∧ s'.os = s.os ∧ s.toks ≤ s'.toks) (fun Y Y => False) s := by
 have f2 := kf2 KX; have f3 := kf3 KX; have f83 := kf83 KX; have f84 := kf84 KX; have f99 := kf99 KX; have f100 := jbJ KX; have f116 := jbI KX; have f117 := jbH KX; have f466 := jbG KX; have f467 := jb0 KX; have f470 := jbF KX; have f471 := jbE KX; have f893 := jbO KX; have f894 := jbN KX; have f1092 := jbf KX; have f1093 := jbe KX
 x_run
theorem getu_run (w : World) (s : Shared) (KX : (KH w.params).In s.heap) (a d ep : Nat) (es : Array DictEntry) (ha : s.heap.get? a = some ⟨.ref 1093, some d, .dict es ep, #[]⟩) :
  wpAny (model P0 w) lv0 (call (.builtin "method_descriptor.__get__") [.builtin "dict.update", .ref a, .ref 1093]) (fun v s' => ∃ x news, v = .ref x ∧ Mem s.heap s'.heap [] news ∧ (x, (⟨.type "builtin_function_or_method", none, .fields #[.builtin "dict.update", .ref a], #[]⟩ : Obj)) ∈ news ∧ s'.gens = s.gens ∧ s'.os = s.os ∧ s.toks ≤ s'.toks) (fun Y Y => False) s := by
 have f2 := kf2 KX; have f3 := kf3 KX; have f83 := kf83 KX; have f84 := kf84 KX; have f99 := kf99 KX; have f100 := jbJ KX; have f116 := jbI KX; have f117 := jbH KX; have f466 := jbG KX; have f467 := jb0 KX; have f470 := jbF KX; have f471 := jbE KX; have f893 := jbO KX; have f894 := jbN KX; have f1092 := jbf KX; have f1093 := jbe KX
 x_run
local macro_rules | `(tactic| x_close) => `(tactic| (exact ⟨_, rfl, by first | assumption | exact Mem.start _, rfl, rfl, by ((try dsimp only); exact Nat.le_refl _)⟩))
theorem mwi_run (w : World) (s : Shared) (KX : (KH w.params).In s.heap) (a d ep x : Nat) (es : Array DictEntry) (ha : s.heap.get? a = some ⟨.ref 1093, some d, .dict es ep, #[]⟩) (hx : s.heap.get? x = some ⟨.type "method-wrapper", none, .fields #[.builtin "dict.__init__", .ref a], #[]⟩) :
  wpAny (model P0 w) lv0 (call (.ref x) []) (fun v s' => ∃ news, v = .none ∧ Mem s.heap s'.heap [] news ∧ s'.gens = s.gens ∧ s'.os = s.os ∧ s.toks ≤ s'.toks) (fun Y Y => False) s := by
 have f2 := kf2 KX; have f3 := kf3 KX; have f83 := kf83 KX; have f84 := kf84 KX; have f99 := kf99 KX; have f100 := jbJ KX; have f116 := jbI KX; have f117 := jbH KX; have f466 := jbG KX; have f467 := jb0 KX; have f470 := jbF KX; have f471 := jbE KX; have f893 := jbO KX; have f894 := jbN KX; have f1092 := jbf KX; have f1093 := jbe KX
 x_run
theorem q1 : builtinKind "super.__getattribute__" = some .slot := by decide +kernel
theorem q2 : splitId "super.__getattribute__" = some ("super", "__getattribute__") := by decide +kernel
theorem q3 (x t : Nat) : argsOk "super.__getattribute__" ⟨[.ref x, .str (PySem.Str.ofString "__init__") t], []⟩ := by unfold argsOk; kernel_rfl
theorem sub_ss : isSubtype (.type "super") (.type "super") = pure true := by rw [isSubtype_type]; kernel_rfl
theorem chk_sga {w : World} {A : Around} {s : Shared} {x t : Nat} {Q : Unit → Shared → Prop} {E : Value → Shared → Prop} (hT : Looks (model P0 w) s.heap (typeOf (.ref x)) (.type "super")) (h : Q () s) : wpAny (model P0 w) A (checkBuiltinCall "super.__getattribute__" ⟨[.ref x, .str (PySem.Str.ofString "__init__") t], []⟩) Q E s := by
 have h1 : Looks (model P0 w) s.heap (isInstance (.ref x) (.type "super")) true := by
  unfold isInstance
  exact hT.andThen (Looks.of_pure sub_ss)
 exact @chk_slot w A s "super.__getattribute__" "super" "__getattribute__" (.ref x) [.str (PySem.Str.ofString "__init__") t] Q E q1 q2 (q3 _ _) h1 h
theorem entry_sga : entryFor table "super.__getattribute__" = some Builtin.«super.__getattribute__» := entryFor_of_tree (by kernel_rfl)
section
variable {w : World} {B : Heap} {A : Around} {s : Shared} {a d x : Addr} {L : List En} {ep : Nat}
theorem own_dict_init (P : Params) : ownIn (KH P) (PySem.Str.ofString "__init__") (.type "dict") = some (some (.builtin "dict.__init__")) := by kernel_rfl
theorem bt_dict_init : fastBuiltinType "dict.__init__" = pure (.type "wrapper_descriptor") := by kernel_rfl
theorem tl_wd_get : fastLookup "wrapper_descriptor" (PySem.Str.ofString "__get__") = some (some (.builtin "wrapper_descriptor.__get__")) := by kernel_rfl
theorem k_opq (P : Params) : nsIn (KH P) 2 (PySem.Str.ofString "thirdparty.any") = some none := by kernel_rfl
theorem noOpaque (G : Good w B s) : Looks (model P0 w) s.heap (opaqueClassAbove (.ref 1093)) none := by
 unfold opaqueClassAbove
 dsimp only
 unfold anyOpaqueLoaded
 refine Looks.andThen (a := false) ((looks_nsIn G.k (r := none) (k_opq _)).andThen .now) ?_
 rw [if_pos (by decide)]
 exact .now
theorem sga_init {t : Nat} (G : Good w B s) (C : IsC s.heap a d L ep) (hx : s.heap.get? x = some (supO a)) (hR : Rm 290 A) :
  Wp w A (call (.builtin "super.__getattribute__") [.ref x, .str (PySem.Str.ofString "__init__") t]) (fun v s' => ∃ y, v = .ref y ∧ s'.heap.get? y = some (mwO "dict.__init__" a) ∧ Kp [] s s' ∧ s'.gens = s.gens) s := by
 try (refine lW ?_; intro Ro)
 have hT : Looks (model P0 w) s.heap (typeOf (.ref x)) (.type "super") := (Looks.ld (part := some headPart) hx).andThen .now
 have LM := jcp G
 refine wpAny_call (codeAny_call_builtin (by decide +kernel) entry_sga ?_)
 refine chk_sga hT ?_
 unfold «super.__getattribute__»
 have f0 : Looks (model P0 w) s.heap (field (.ref x) 0) (.ref 1093) := fun A Q E s' k q => wpAny_field (k _ _ hx) rfl (x := .ref 1093) rfl q
 have f1 : Looks (model P0 w) s.heap (field (.ref x) 1) (.ref a) := fun A Q E s' k q => wpAny_field (k _ _ hx) rfl (x := .ref a) rfl q
 have f2 : Looks (model P0 w) s.heap (field (.ref x) 2) (.ref 1093) := fun A Q E s' k q => wpAny_field (k _ _ hx) rfl (x := .ref 1093) rfl q
 have G0 := G
 refine aG ?_; intro gO; obtain ⟨hh, g, dr, tk, os⟩ := s; unfold gO; clear gO
 refine wpAny_bind (wpAny_pure ?_)
 rw [if_neg (by decide)]
 refine wpAny_bind (wpAny_pure ?_)
 dsimp only
 refine wpAny_bind (f0.at ?_)
 refine wpAny_bind (f1.at ?_)
 refine wpAny_bind (f2.at ?_)
 rw [if_neg (by decide +kernel)]
 have LO : Looks (model P0 w) hh (notOfAnOpaqueClass (PySem.Str.ofString "__init__").toString "" (.ref 1093)) () := by
  unfold notOfAnOpaqueClass
  exact (noOpaque G).andThen .now
 refine wpAny_bind (LO.at ?_)
 rw [if_neg (by decide +kernel)]
 refine wpAny_bind (LM.at ?_)
 rw [show List.drop 1 (List.dropWhile (fun x => x != Value.ref 1093) [Value.ref 1093, .type "dict", .type "object"]) = [Value.type "dict", .type "object"] from by decide +kernel]
 rw [List.forIn_cons]
 have L1 : Looks (model P0 w) hh (classOwn (.type "dict") (PySem.Str.ofString "__init__")) (some (.builtin "dict.__init__")) := looks_ownIn G.k (own_dict_init _)
 have L2 : Looks (model P0 w) hh (typeOf (.builtin "dict.__init__")) (.type "wrapper_descriptor") := jbo bt_dict_init
 have L3 : Looks (model P0 w) hh (typeLookup (.type "wrapper_descriptor") (PySem.Str.ofString "__get__")) (some (.builtin "wrapper_descriptor.__get__")) := jaL tl_wd_get
 refine wpAny_bind (wpAny_bind (wpAny_bind (L1.at (wpAny_bind (L2.at (wpAny_bind (L3.at (wpAny_bind (wpAny_holding ?_)))))))))
 have na : (Value.ref a == Value.ref 1093) = false := by
  rw [beq_eq_false_iff_ne]
  intro q
  cases q
  have e := G.k _ _ (look93 w.params)
  have e2 := C.at_
  rw [e] at e2
  have := congrArg Obj.cls (Option.some.inj e2)
  rw [cls93] at this
  cases this
 rw [na, if_neg Bool.false_ne_true]
 refine Wp.useE2 ((hR.in1.le (by omega : 291 ≤ 300)).lv (geti_run w ⟨hh, g, dr, tk, os⟩ G.k a d ep _ C.at_)) fun y news s1 hx0 => ?_
 refine aG ?_; intro gO; obtain ⟨D, m1, e3, e4, e5⟩ := hx0; unfold gO; clear gO
 exact wpAny_bind (wpAny_pure (wpAny_pure (wpAny_pure (wpAny_pure ⟨y, rfl, (D.nw _ m1).1, jax G D e4 e5 e3, e3⟩))))
end
theorem tl_super_ga : fastLookup "super" (PySem.Str.ofString "__getattribute__") = some (some (.builtin "super.__getattribute__")) := by kernel_rfl
section
variable {w : World} {B : Heap} {A : Around} {s : Shared} {a d x : Addr} {L : List En} {ep : Nat}
theorem iff_ {α : Type} {M : Model} {c : Bool} {t e : Sem α} {Q : α → Shared → Prop} {E : Value → Shared → Prop} (h : c = false) (k : wpAny M A e Q E s) : wpAny M A (if c = true then t else e) Q E s := by rw [h]; exact k
theorem ift_ {α : Type} {M : Model} {c : Bool} {t e : Sem α} {Q : α → Shared → Prop} {E : Value → Shared → Prop} (h : c = true) (k : wpAny M A t Q E s) : wpAny M A (if c = true then t else e) Q E s := by rw [h]; exact k
theorem bt_sga : fastBuiltinType "super.__getattribute__" = pure (.type "wrapper_descriptor") := by kernel_rfl
theorem sga_wd {h : Heap} : Looks (model P0 w) h (typeOf (.builtin "super.__getattribute__")) (.type "wrapper_descriptor") := by
 refine jbo ?_
 exact bt_sga
theorem jb5 {id : String} {self arg : Value} {Q : Value → Shared → Prop} {E : Value → Shared → Prop} (h2 : Looks (model P0 w) s.heap (typeOf (.builtin id)) (.type "wrapper_descriptor") ∨ Looks (model P0 w) s.heap (typeOf (.builtin id)) (.type "method_descriptor"))
  (hc : wpAny (model P0 w) A (call (.builtin id) [self, arg]) Q E s) : wpAny (model P0 w) A (boundAndCalled (.builtin id) self arg) Q E s := by
 unfold boundAndCalled bindSpecial
 refine wpAny_bind ?_
 rcases h2 with h2 | h2
 ·refine wpAny_bind (h2.here ?_)
  exact ift_ (by rfl) (wpAny_pure hc)
 ·refine wpAny_bind (h2.here ?_)
  exact ift_ (by rfl) (wpAny_pure hc)
theorem jcv {ex : Bool} (G : Good w B s) (C : IsC s.heap a d L ep) (hx : s.heap.get? x = some (supO a)) (hR : Rm 289 A) :
  Wp w A (getAttr (.ref x) (PySem.Str.ofString "__init__") ex) (fun v s' => ∃ y, v = .ref y ∧ s'.heap.get? y = some (mwO "dict.__init__" a) ∧ Kp [] s s' ∧ s'.gens = s.gens) s := by
 refine lW ?_
 intro Ro
 unfold getAttr
 refine wpAny_bind (wpAny_mkText ?_)
 unfold getAttrBy
 refine wpAny_holding ?_
 have K0 : Kp [] s { s with toks := s.toks + 1 } := jak (Nat.le_succ _)
 have gg : ({ s with toks := s.toks + 1 } : Shared).gens = s.gens := rfl
 generalize hs1 : ({ s with toks := s.toks + 1 } : Shared) = s1 at K0 gg ⊢
 have G1 := G.kp K0 al0
 have C1 := C.kp K0 ni0 ni0
 have hx1 := K0.keep _ _ hx rfl ni0
 have hT : Looks (model P0 w) s1.heap (typeOf (.ref x)) (.type "super") := (Looks.ld (part := some headPart) hx1).andThen .now
 have LL : Looks (model P0 w) s1.heap (typeLookup (.type "super") (PySem.Str.ofString "__getattribute__")) (some (.builtin "super.__getattribute__")) := jaL tl_super_ga
 have sg := sga_init (t := s.toks) (A := A) G1 C1 hx1 (hR.le (lqe rfl))
 refine wpAny_bind (hT.here (wpAny_bind (LL.here ?_)))
 show wpAny _ _ (if _ then _ else _) _ _ _
 refine iff_ (by kernel_rfl) ?_
 unfold getAttrByItsOwn
 refine wpAny_bind (wpAny_pure ?_)
 refine wpAny_bind (wpAny_attempt (wpAny_holding ?_))
 unfold callGetattribute
 refine iff_ (by cases ex <;> rfl) ?_
 refine jb5 (id := "super.__getattribute__") (.inl (sga_wd (h := s1.heap))) (sg.useE1 fun y s' hx0 => ?_)
 obtain ⟨h1, h2, h3⟩ := hx0
 exact wpAny_pure ⟨y, rfl, h1, (K0.trans h2).mono al0, h3.trans gg⟩
end
noncomputable def mthO (f : Value) (a : Addr) : Obj := ⟨.type "method", none, .fields #[f, .ref a], #[]⟩
local macro_rules | `(tactic| x_close) => `(tactic| (refine ⟨_, _, rfl, by assumption, ?m1, rfl, rfl, by ((try dsimp only); exact Nat.le_refl _)⟩; (case m1 => (repeat (first | exact List.Mem.head _ | refine List.Mem.tail _ ?_)))))
local macro_rules | `(tactic| x_close) => `(tactic| (exact ⟨_, _, rfl, by first | assumption | exact Mem.start _, rfl, rfl, by ((try dsimp only); omega)⟩))
theorem len0_run (w : World) (s : Shared) (KX : (KH w.params).In s.heap) (a d ep : Nat) (es : Array DictEntry) (ha : s.heap.get? a = some ⟨.ref 1093, some d, .dict es ep, #[]⟩) (hz : es.size ≤ 100) :
  wpAny (model P0 w) lv0 (runValue (.builtin "len" ⟨[.ref a], []⟩)) (fun v s' => ∃ news t, v = .int es.size t ∧ Mem s.heap s'.heap [] news ∧ s'.gens = s.gens ∧ s'.os = s.os ∧ s.toks ≤ s'.toks) (fun Y Y => False) s := by
 have f0 := kf0 KX; have f2 := kf2 KX; have f3 := kf3 KX; have f83 := kf83 KX; have f84 := kf84 KX; have f99 := kf99 KX; have f100 := jbJ KX; have f116 := jbI KX; have f117 := jbH KX; have f466 := jbG KX; have f467 := jb0 KX; have f470 := jbF KX; have f471 := jbE KX; have f893 := jbO KX; have f894 := jbN KX; have f1092 := jbf KX; have f1093 := jbe KX
 x_run
noncomputable def dicO (L : List En) (ep : Nat) : Obj := ⟨.type "dict", none, .dict (L.map ent).toArray ep, #[]⟩
section
variable {w : World} {B : Heap} {A : Around} {s : Shared} {a d b : Addr} {L S : List En} {ep ep' : Nat} {E : Value → Shared → Prop}
theorem IsC.n2 (G : Good w B s) (C : IsC s.heap a d L ep) : a ≠ 2 := fun q => by
 have : ((KH w.params).lookup 2).map (fun o => o.cls) = some .none := by kernel_rfl
 refine aG ?_; intro gO; obtain ⟨o, e, ho⟩ := Option.map_eq_some_iff.mp this; unfold gO; clear gO
 have := G.k _ _ e
 rw [← q, C.at_] at this
 cases this
 cases ho
theorem dsh_new {k : Int} {t t' : Nat} {cc : Int} {Q : Unit → Shared → Prop} (C : IsC s.heap a d L ep) (hk : getE L k = none) (hL : L.length ≤ 100) (ht : 0 ≤ t) (ht' : 0 ≤ t')
  (hq : ∀ h', IsC h' a d (L ++ [(k, t, cc, t')]) (ep + 1) → Heap.SameBut a s.heap h' → Q () { s with heap := h' }) :
  wpAny (model P0 w) A (dictSetHashed a (.int k t) (hashInt k) (.int cc t')) Q E s := by
 unfold dictSetHashed
 refine wpAny_holding (wpAny_bind (wpAny_dictFind_int C.at_ rfl (ints_ent L) ?_))
 have hi : (L.map ent).toArray.findIdx? (fun e => Value.isInt k e.key) = none := by
  have := findBy_of_findIdx? Value.isInt (L.map ent).toArray k
  rw [jbZ, hk] at this
  cases e : (L.map ent).toArray.findIdx? (fun e => Value.isInt k e.key) with
  | none => rfl
  | some i =>
   rw [e] at this
   dsimp only at this
   have lt := (Array.findIdx?_eq_some_iff_findIdx_eq.mp e).1
   rw [Array.getElem?_eq_getElem lt] at this
   cases this
 rw [hi]
 refine wpAny_bind (wpAny_rule (wpAny_updateDictKeys C.at_ rfl (hq _ ⟨?_, ?_, ?_⟩ (Heap.SameBut.update ..)) (by simp; exact Nat.le_trans hL (by decide)) (Nat.le_of_eq (Array.size_push ..))))
 ·first | (refine lW ?_; intro Ro) | (refine lA ?_; intro Ro) | (refine lC ?_; intro Ro) | skip
  refine (Heap.get?_update_self _ C.at_ rfl).trans ?_
  simp [ctrO, Obj.mapDictKeys, ent]
 ·exact ((Heap.SameBut.update ..).2 d C.ne).trans C.ow
 ·intro e he
  first | (refine lW ?_; intro Ro) | (refine lA ?_; intro Ro) | (refine lC ?_; intro Ro) | skip
  rcases List.mem_append.mp he with he | he
  ·exact C.tp e he
  ·cases List.mem_singleton.mp he; exact ⟨ht, ht'⟩
theorem jbS (hb : s.heap.get? b = some (dicO S ep')) : Looks (model P0 w) s.heap (typeOf (.ref b)) (.type "dict") := (Looks.ld (part := some headPart) hb).andThen .now
theorem sub_dd : isSubtype (.type "dict") (.type "dict") = pure true := by rw [isSubtype_type]; kernel_rfl
theorem tl_d_iter : fastLookup "dict" (PySem.Str.ofString "__iter__") = some (some (.builtin "dict.__iter__")) := by kernel_rfl
theorem readd (hb : s.heap.get? b = some (dicO S ep')) : Looks (model P0 w) s.heap (Dict.readDirectly (.ref b)) true := by
 unfold Dict.readDirectly
 have LI : Looks (model P0 w) s.heap (isInstance (.ref b) (.type "dict")) true := by
  unfold isInstance
  exact (jbS hb).andThen (Looks.of_pure sub_dd)
 refine LI.andThen ?_
 rw [if_neg (by decide)]
 have LS : Looks (model P0 w) s.heap (specialOf (.ref b) "__iter__") (some (.builtin "dict.__iter__")) := by
  refine (jbS hb).andThen ?_
  exact jaL (T := "dict") tl_d_iter
 exact LS.andThen (Looks.of_pure (by kernel_rfl))
theorem merge_ctr {nm : String} {Q : Unit → Shared → Prop} (h1 : (b == sysModules) = false) (C : IsC s.heap a d [] 0) (hb : s.heap.get? b = some (dicO S ep')) (hz : S.length ≤ 8) (hnd : (S.map (·.1)).Nodup) (htp : ∀ e ∈ S, 0 ≤ e.2.1 ∧ 0 ≤ e.2.2.2)
  (hq : ∀ h', IsC h' a d S S.length → Heap.SameBut a s.heap h' → Q () { s with heap := h' }) :
  wpAny (model P0 w) A (Dict.merge nm a (.ref b)) Q E s := by
 unfold Dict.merge
 have nab : a ≠ b := fun q => by have := C.at_; rw [q, hb] at this; cases this
 refine wpAny_bind ((readd hb).here ?_)
 rw [if_pos rfl]
 refine wpAny_bind (wpAny_pure ?_)
 unfold Dict.mergeDict
 rw [if_neg ((fun e => nab (beq_iff_eq.mp e)))]
 unfold Dict.showsAll
 rw [if_neg (by rw [h1]; exact Bool.false_ne_true)]
 refine wpAny_bind (wpAny_pure ?_)
 refine wpAny_bind (wpAny_dictEntries hb rfl ?_)
 have hfew : (decide ((S.map ent).toArray.size ≤ 8) && (S.map ent).toArray.all fun e => (keyPart e.key).isSome) = true := by
  rw [Bool.and_eq_true]
  refine ⟨by simpa using hz, ?_⟩
  rw [Array.all_eq_true']
  intro e he
  obtain ⟨x, _, rfl⟩ := List.mem_map.mp (List.mem_toArray.mp he)
  rfl
 rw [hfew, if_neg (by decide)]
 refine wpAny_bind (wpAny_dictEpoch hb rfl ?_)
 refine wpAny_bind (wpAny_dictEntries hb rfl ?_)
 rw [Std.Legacy.Range.forIn_eq_forIn_range']
 simp only [Std.Legacy.Range.size, Nat.sub_zero, Nat.add_sub_cancel, Nat.div_one]
 refine wpAny_bind ?_
 have hsz : (S.map ent).toArray.size = S.length := by simp
 rw [hsz]
 refine wpAny_forIn_list _
   (fun rest Y s' => ∃ h' i, s' = { s with heap := h' } ∧ rest = List.range' i (S.length - i) ∧ i ≤ S.length ∧ IsC h' a d (S.take i) i ∧ h'.get? b = some (dicO S ep') ∧ Heap.SameBut a s.heap h')
   _ ?_ ?_ _ _ ⟨s.heap, 0, rfl, by simp, Nat.zero_le _, by simpa using C, hb, Heap.SameBut.refl _ _⟩
 ·rintro x rest u s' ⟨h', i, rfl, hr, hi, hd', hb', hs'⟩
  first | (refine lW ?_; intro Ro) | (refine lA ?_; intro Ro) | (refine lC ?_; intro Ro) | skip
  have hlt : i < S.length := by
   rcases Nat.lt_or_ge i S.length with h | h
   ·exact h
   ·rw [Nat.sub_eq_zero_of_le h] at hr; simp at hr
  obtain ⟨rfl, hrest⟩ : x = i ∧ rest = List.range' (i + 1) (S.length - (i + 1)) := by
   have e : S.length - i = (S.length - (i + 1)) + 1 := by exact lra ‹_›
   rw [e, List.range'_succ] at hr
   injection hr with h1 h2
   exact ⟨h1, h2⟩
  refine wpAny_bind (wpAny_dictEntries hb' rfl ?_)
  have hg : (S.map ent).toArray[x]? = some (ent S[x]) := by simp [hlt]
  rw [hg]
  have hx : S[x]? = some S[x] := List.getElem?_eq_getElem hlt
  have tk1 : S.take (x + 1) = S.take x ++ [S[x]] := by rw [List.take_add_one, hx]; rfl
  have hnk : getE (S.take x) S[x].1 = none := by
   refine jcr fun y hy q => ?_
   have h1 : (S.take (x + 1)).map (·.1) = (S.take x).map (·.1) ++ [S[x].1] := by rw [tk1, List.map_append]; rfl
   have h2 : ((S.take (x + 1)).map (·.1)).Nodup := by rw [List.map_take]; exact hnd.sublist (List.take_sublist _ _)
   rw [h1, List.nodup_append] at h2
   exact h2.2.2 _ (List.mem_map_of_mem hy) _ (List.mem_singleton_self _) q
  have tp := htp S[x] (List.getElem_mem hlt)
  show wpAny _ _ (holding [(ent S[x]).key, (ent S[x]).val] (dictSetHashed a (.int S[x].1 S[x].2.1) (hashInt S[x].1) (.int S[x].2.2.1 S[x].2.2.2)) >>= _) _ _ _
  refine wpAny_bind (wpAny_holding (dsh_new (s := { s with heap := h' }) hd' hnk (by simp; exact lrv ‹_› (by rfl)) tp.1 tp.2 fun h2 C2 s2 => ?_))
  have hb2 : h2.get? b = some (dicO S ep') := (s2.2 b (Ne.symm nab)).trans hb'
  refine wpAny_bind (wpAny_dictEpoch hb2 rfl ?_)
  rw [if_neg bn1]
  refine wpAny_pure ⟨h2, x + 1, rfl, hrest, hlt, ?_, hb2, hs'.trans s2⟩
  rw [tk1]
  exact C2
 ·rintro u s' ⟨h', i, rfl, hr, hi, hd', hb', hs'⟩
  first | (refine lW ?_; intro Ro) | (refine lA ?_; intro Ro) | (refine lC ?_; intro Ro) | skip
  have : i = S.length := by
   have := congrArg List.length hr
   simp at this
   exact Nat.le_antisymm ‹_› (Nat.sub_eq_zero_iff_le.mp this.symm)
  subst this
  rw [List.take_length] at hd'
  exact wpAny_pure (hq h' hd' hs')
end
noncomputable def bfO (id : String) (a : Addr) : Obj := ⟨.type "builtin_function_or_method", none, .fields #[.builtin id, .ref a], #[]⟩
theorem q3u (x t : Nat) : argsOk "super.__getattribute__" ⟨[.ref x, .str (PySem.Str.ofString "update") t], []⟩ := by unfold argsOk; kernel_rfl
theorem chk_sgu {w : World} {A : Around} {s : Shared} {x t : Nat} {Q : Unit → Shared → Prop} {E : Value → Shared → Prop} (hT : Looks (model P0 w) s.heap (typeOf (.ref x)) (.type "super")) (h : Q () s) : wpAny (model P0 w) A (checkBuiltinCall "super.__getattribute__" ⟨[.ref x, .str (PySem.Str.ofString "update") t], []⟩) Q E s := by
 have h1 : Looks (model P0 w) s.heap (isInstance (.ref x) (.type "super")) true := by
  unfold isInstance
  exact hT.andThen (Looks.of_pure sub_ss)
 exact @chk_slot w A s "super.__getattribute__" "super" "__getattribute__" (.ref x) [.str (PySem.Str.ofString "update") t] Q E q1 q2 (q3u _ _) h1 h
section
variable {w : World} {B : Heap} {A : Around} {s : Shared} {a d x : Addr} {L : List En} {ep : Nat}
theorem own_dict_update (P : Params) : ownIn (KH P) (PySem.Str.ofString "update") (.type "dict") = some (some (.builtin "dict.update")) := by kernel_rfl
theorem bt_dict_update : fastBuiltinType "dict.update" = pure (.type "method_descriptor") := by kernel_rfl
theorem tl_md_get : fastLookup "method_descriptor" (PySem.Str.ofString "__get__") = some (some (.builtin "method_descriptor.__get__")) := by kernel_rfl
theorem sga_update {t : Nat} (G : Good w B s) (C : IsC s.heap a d L ep) (hx : s.heap.get? x = some (supO a)) (hR : Rm 290 A) :
  Wp w A (call (.builtin "super.__getattribute__") [.ref x, .str (PySem.Str.ofString "update") t]) (fun v s' => ∃ y, v = .ref y ∧ s'.heap.get? y = some (bfO "dict.update" a) ∧ Kp [] s s' ∧ s'.gens = s.gens) s := by
 try (refine lW ?_; intro Ro)
 have hT : Looks (model P0 w) s.heap (typeOf (.ref x)) (.type "super") := (Looks.ld (part := some headPart) hx).andThen .now
 have LM := jcp G
 refine wpAny_call (codeAny_call_builtin (by decide +kernel) entry_sga ?_)
 refine chk_sgu hT ?_
 unfold «super.__getattribute__»
 have f0 : Looks (model P0 w) s.heap (field (.ref x) 0) (.ref 1093) := fun A Q E s' k q => wpAny_field (k _ _ hx) rfl (x := .ref 1093) rfl q
 have f1 : Looks (model P0 w) s.heap (field (.ref x) 1) (.ref a) := fun A Q E s' k q => wpAny_field (k _ _ hx) rfl (x := .ref a) rfl q
 have f2 : Looks (model P0 w) s.heap (field (.ref x) 2) (.ref 1093) := fun A Q E s' k q => wpAny_field (k _ _ hx) rfl (x := .ref 1093) rfl q
 have G0 := G
 refine aG ?_; intro gO; obtain ⟨hh, g, dr, tk, os⟩ := s; unfold gO; clear gO
 refine wpAny_bind (wpAny_pure ?_)
 rw [if_neg (by decide)]
 refine wpAny_bind (wpAny_pure ?_)
 dsimp only
 refine wpAny_bind (f0.at ?_)
 refine wpAny_bind (f1.at ?_)
 refine wpAny_bind (f2.at ?_)
 rw [if_neg (by decide +kernel)]
 have LO : Looks (model P0 w) hh (notOfAnOpaqueClass (PySem.Str.ofString "update").toString "" (.ref 1093)) () := by
  unfold notOfAnOpaqueClass
  exact (noOpaque G).andThen .now
 refine wpAny_bind (LO.at ?_)
 rw [if_neg (by decide +kernel)]
 refine wpAny_bind (LM.at ?_)
 rw [show List.drop 1 (List.dropWhile (fun x => x != Value.ref 1093) [Value.ref 1093, .type "dict", .type "object"]) = [Value.type "dict", .type "object"] from by decide +kernel]
 rw [List.forIn_cons]
 have L1 : Looks (model P0 w) hh (classOwn (.type "dict") (PySem.Str.ofString "update")) (some (.builtin "dict.update")) := looks_ownIn G.k (own_dict_update _)
 have L2 : Looks (model P0 w) hh (typeOf (.builtin "dict.update")) (.type "method_descriptor") := jbo bt_dict_update
 have L3 : Looks (model P0 w) hh (typeLookup (.type "method_descriptor") (PySem.Str.ofString "__get__")) (some (.builtin "method_descriptor.__get__")) := jaL tl_md_get
 refine wpAny_bind (wpAny_bind (wpAny_bind (L1.at (wpAny_bind (L2.at (wpAny_bind (L3.at (wpAny_bind (wpAny_holding ?_)))))))))
 have na : (Value.ref a == Value.ref 1093) = false := by
  rw [beq_eq_false_iff_ne]
  intro q
  cases q
  have e := G.k _ _ (look93 w.params)
  have e2 := C.at_
  rw [e] at e2
  have := congrArg Obj.cls (Option.some.inj e2)
  rw [cls93] at this
  cases this
 rw [na, if_neg Bool.false_ne_true]
 refine Wp.useE2 ((hR.in1.le (by omega : 291 ≤ 300)).lv (getu_run w ⟨hh, g, dr, tk, os⟩ G.k a d ep _ C.at_)) fun y news s1 hx0 => ?_
 refine aG ?_; intro gO; obtain ⟨D, m1, e3, e4, e5⟩ := hx0; unfold gO; clear gO
 exact wpAny_bind (wpAny_pure (wpAny_pure (wpAny_pure (wpAny_pure ⟨y, rfl, (D.nw _ m1).1, jax G D e4 e5 e3, e3⟩))))
theorem jbL {ex : Bool} (G : Good w B s) (C : IsC s.heap a d L ep) (hx : s.heap.get? x = some (supO a)) (hR : Rm 289 A) :
  Wp w A (getAttr (.ref x) (PySem.Str.ofString "update") ex) (fun v s' => ∃ y, v = .ref y ∧ s'.heap.get? y = some (bfO "dict.update" a) ∧ Kp [] s s' ∧ s'.gens = s.gens) s := by
 try (refine lW ?_; intro Ro)
 unfold getAttr
 refine wpAny_bind (wpAny_mkText ?_)
 unfold getAttrBy
 refine wpAny_holding ?_
 have K0 : Kp [] s { s with toks := s.toks + 1 } := jak (Nat.le_succ _)
 have gg : ({ s with toks := s.toks + 1 } : Shared).gens = s.gens := rfl
 generalize hs1 : ({ s with toks := s.toks + 1 } : Shared) = s1 at K0 gg ⊢
 have G1 := G.kp K0 al0
 have C1 := C.kp K0 ni0 ni0
 have hx1 := K0.keep _ _ hx rfl ni0
 have hT : Looks (model P0 w) s1.heap (typeOf (.ref x)) (.type "super") := (Looks.ld (part := some headPart) hx1).andThen .now
 have LL : Looks (model P0 w) s1.heap (typeLookup (.type "super") (PySem.Str.ofString "__getattribute__")) (some (.builtin "super.__getattribute__")) := jaL tl_super_ga
 have sg := sga_update (t := s.toks) (A := A) G1 C1 hx1 (hR.le (lqe rfl))
 refine wpAny_bind (hT.here (wpAny_bind (LL.here ?_)))
 show wpAny _ _ (if _ then _ else _) _ _ _
 refine iff_ (by kernel_rfl) ?_
 unfold getAttrByItsOwn
 refine wpAny_bind (wpAny_pure ?_)
 refine wpAny_bind (wpAny_attempt (wpAny_holding ?_))
 unfold callGetattribute
 refine iff_ (by cases ex <;> rfl) ?_
 refine jb5 (id := "super.__getattribute__") (.inl (sga_wd (h := s1.heap))) (sg.useE1 fun y s' hx0 => ?_)
 refine aG ?_; intro gO; obtain ⟨h1, h2, h3⟩ := hx0; unfold gO; clear gO
 exact wpAny_pure ⟨y, rfl, h1, (K0.trans h2).mono al0, h3.trans gg⟩
end
theorem entry_upd : entryFor table "dict.update" = some Builtin.«dict.update» := entryFor_of_tree (by kernel_rfl)
theorem chk_upd (a b : Addr) : (Manifest.signature? "dict.update").map (fun sg => Bind.checkArgs "dict.update" { sg with full := toString (PySem.Str.ofString "Counter").toString ++ toString "." ++ toString (Bind.lastOf "dict.update") } ⟨[.ref a, .ref b], []⟩) = some (pure ()) := by kernel_rfl
theorem va_upd : Manifest.varargsMethods.contains "dict.update" = false := by decide +kernel
theorem bk_upd : builtinKind "dict.update" = some .method := by decide +kernel
theorem cls_in (P : Params) : (clsIn (KH P) 1093).map (·.qualname) = some (PySem.Str.ofString "Counter") := by kernel_rfl
section
variable {w : World} {B : Heap} {A : Around} {s : Shared} {a d b y : Addr} {L S : List En} {ep ep' : Nat} {E : Value → Shared → Prop}
theorem chkB_upd (G : Good w B s) (C : IsC s.heap a d L ep) : Looks (model P0 w) s.heap (checkBoundCall "dict.update" ⟨[.ref a, .ref b], []⟩) () := by
 unfold checkBoundCall
 obtain ⟨sg, es, hc⟩ := Option.map_eq_some_iff.mp (chk_upd a b)
 rw [es]
 dsimp only
 rw [bk_upd]
 dsimp only
 rw [if_neg (by decide)]
 refine (jbp G C (.type "module")).andThen ?_
 rw [va_upd]
 rw [show ([Value.ref 1093, .type "dict", .type "object"].contains (.type "module")) = false by decide +kernel]
 rw [if_neg (by decide)]
 have LT : Looks (model P0 w) s.heap (isType (.ref a)) false := by
  unfold isType loadHead
  exact (Looks.ld C.at_).andThen .now
 refine LT.andThen ?_
 rw [if_neg (by decide)]
 refine C.type.andThen ?_
 dsimp only
 obtain ⟨cd, e1, e2⟩ := Option.map_eq_some_iff.mp (cls_in w.params)
 refine (looks_clsIn G.k e1).andThen ?_
 refine (jcl G).andThen ?_
 rw [if_pos (by decide), e2]
 rw [hc]
 exact .now
theorem call_upd (G : Good w B s) (C : IsC s.heap a d [] 0) (hy : s.heap.get? y = some (bfO "dict.update" a)) (h1 : (b == sysModules) = false) (hb : s.heap.get? b = some (dicO S ep')) (hz : S.length ≤ 8) (hnd : (S.map (·.1)).Nodup) (htp : ∀ e ∈ S, 0 ≤ e.2.1 ∧ 0 ≤ e.2.2.2) :
  Wp w A (call (.ref y) [.ref b]) (fun v s' => v = .none ∧ IsC s'.heap a d S S.length ∧ Kp [a] s s' ∧ s'.gens = s.gens) s := by
 refine lW ?_
 intro Ro
 refine wpAny_call (codeAny_of_tree ?_)
 show wpAny _ _ (callAny (.ref y) _) _ _ _
 unfold callAny
 refine wpAny_bind (wpAny_load hy ?_)
 show wpAny _ _ (do checkBoundCall "dict.update" ⟨[.ref a, .ref b], []⟩; (return ← again (.builtin "dict.update" ⟨[.ref a, .ref b], []⟩) : Sem Fin)) _ _ _
 refine wpAny_bind ((chkB_upd G C).here ?_)
 refine wpAny_bind (wpAny_pure (wpAny_pure ⟨Code.quiet_builtin _ (by decide +kernel), codeAny_builtin entry_upd ?_⟩))
 unfold «dict.update» Dict.selfAndRest
 refine wpAny_bind (wpAny_bind ((notOrd G C).here (wpAny_bind (wpAny_pure (wpAny_pure ?_)))))
 dsimp only
 unfold Dict.updateCommon
 dsimp only
 unfold Dict.updateFrom
 refine wpAny_bind ((jbS hb).here ?_)
 rw [if_neg (by decide)]
 refine wpAny_bind (merge_ctr h1 C hb hz hnd htp fun h' C' s' => ?_)
 unfold Dict.addKeywords
 rw [List.forIn_nil]
 refine wpAny_bind (wpAny_bind (wpAny_pure (wpAny_pure ?_)))
 exact wpAny_pure ⟨rfl, C', jaz (s := s) s' (C.n2 G) ⟨_, C'.at_⟩ (Nat.le_refl _), rfl⟩
end
section
variable {w : World} {B : Heap} {A : Around} {s : Shared} {a d it vw : Addr} {L : List En} {ep : Nat} {env : Env} {sc : Scope} {E : Value → Shared → Prop}
theorem call_fnAt {f : Addr} {fd : FuncData} {body : List Stmt} {args : List Value} {binds : List (PySem.Str × Value)} {R : Result → Shared → Prop} {sc : Scope} {n : Nat} {s' : Shared} (G : Good w B s) (hA : Rm n A) (hn : n < 600)
  (hf : fnChk2 (KH w.params) f = some (fd, body)) (hsc : fd.scope = sc) (hk' : Kp [] s s') (hg' : s'.gens = s.gens)
  (hb : ∀ (Q : List (PySem.Str × Value) → Shared → Prop) (E : Value → Shared → Prop), Q binds s' → wpAny (model P0 w) A.in1 (bindArgs fd ⟨args, []⟩) Q E s)
  (hl : binds.all (fun x => sc.names.lookup x.1 == some .local) = true)
  (h : ∀ (env : Env) (A' : Around) (s₁ : Shared), EnvOk env sc → EnvC env f fd → Rm (n + 1) A' → s₁.heap.Ns env.locals (fun x => binds.reverse.lookup x) → s'.heap.get? env.locals = none → Kp [] s' s₁ → s₁.gens = s.gens →
   _root_.PySem.wpAt (model P0 w) A' (.func body env) (execs body env) (fun fl s' => R (.ok (.ret (match fl with | .ret v => v | _ => .none))) s') (fun Y Y => False) s₁) :
  codeAny (model P0 w) A (.call (.ref f) ⟨args, []⟩) R s := by
 obtain ⟨r, hd, hf⟩ := Option.bind_eq_some_iff.mp hf
 obtain ⟨h8, hf⟩ := cnd2 hf
 cases hf
 have h8 := ncell h8
 obtain ⟨fo, c, co, vs, tq, ho, hfo, hcode, hc, hco, hq, hbody, h2, h3, h4, h6, h7⟩ := fnD_of hd
 dsimp only at *
 have hroom : A.depth < recursionLimit := Nat.lt_of_le_of_lt hA.2.1 (Nat.lt_of_lt_of_le (Nat.add_lt_add_right hn 310) (by decide))
 have hl' : ∀ x ∈ binds, fd.scope.names.lookup x.1 = some .local := fun x hx => by rw [hsc]; exact eq_of_beq (List.all_eq_true.mp hl x hx)
 have ho' := G.k _ _ ho
 have hc' := G.k _ _ hc
 have G' := G.kp hk' al0
 refine codeAny_call_function hroom ho' hfo h4 h3 hbody ⟨c, _, vs, tq, hcode, hc', hco, hq⟩ ?_
 refine hb _ _ ?_
 refine wpAny_newFunctionEnv h8 hl' (fun h₁ hns hsb => ?_) h2
 have up : ∀ b o, s'.heap.get? b = some o → h₁.get? b = some o := fun b o e => hsb.extBut b o (Nat.ne_of_lt (Heap.lt_size e)) (Heap.get?_push_of_some _ e)
 refine ⟨jb7 fun a o e => up _ _ (G'.k _ _ e), ?_⟩
 have fresh : s'.heap.get? s'.heap.objs.size = none := by
  cases e : s'.heap.get? s'.heap.objs.size with
  | none => rfl
  | some o => exact absurd (Heap.lt_size e) (Nat.lt_irrefl _)
 exact ks_codeAny_funcAt (_root_.PySem.wpAt_mono (h _ (A.deeper _) { s' with heap := h₁, toks := s'.toks + binds.length } ⟨hsc, h6, h7, by rw [hsc] at h2; exact h2⟩ ⟨rfl, rfl, rfl, rfl⟩ (hA.deeper _) hns fresh (jat (s' := { s' with heap := h₁, toks := s'.toks + binds.length }) up G'.two rfl (Nat.le_add_right _ _) rfl) hg') (fun Y Y z => z) fun Y Y z => z.elim)
set_option tactic.hygienic true in
theorem ld_glob (v : Value) {x : Str} {Q : Value → Shared → Prop} (G : Good w B s) (O : EnvOk env sc) (h : Q v s) (e : globIn (KH w.params) x = some v := by kernel_rfl)
  (hn : sc.names.lookup x = some .globalImplicit := by kernel_rfl) : wpAny (model P0 w) A (loadName env x) Q E s := by
 unfold loadName
 have h1 : env.scope.kind.isAnnotationScope = false := by rw [O.fk]; rfl
 have h2 : env.blockKind = .function := by unfold Env.blockKind; rw [h1]; exact O.fk
 rw [h1, h2, O.kind hn]
 show wpAny _ _ (loadGlobal env x) _ _ _
 unfold loadGlobal
 rw [O.gl, O.bu]
 unfold globIn at e
 split at e
 ·rename_i v' e1
  cases e
  exact wpAny_bind ((looks_nsIn G.k e1).here (wpAny_pure h))
 ·rename_i e1
  refine wpAny_bind ((looks_nsIn G.k e1).here ?_)
  split at e
  ·rename_i v' e2
   cases e
   exact wpAny_bind ((looks_nsIn G.k e2).here (wpAny_pure h))
  ·cases e
 ·cases e
noncomputable def cellIn (K : Frag) (c : Addr) : Option Value := match K.lookup c with
 | some ⟨_, _, .cell v, _⟩ => v
 | _ => none
theorem cell874 (P : Params) : cellIn (KH P) 874 = some (.ref 1093) := by kernel_rfl
noncomputable def fileAt (K : Frag) (v : Value) : Option Str := match v with
 | .ref c => (match K.lookup c with
  | some ⟨_, _, .fields vs, _⟩ => (match (vs[2]? : Option Value) with
   | some (.str q _) => some q
   | _ => none)
  | _ => none)
 | _ => none
theorem file_init (P : Params) : fileAt (KH P) (fdAt (KH P) 887).code = some P0.main.file := by kernel_rfl
theorem file_update (P : Params) : fileAt (KH P) (fdAt (KH P) 936).code = some P0.main.file := by kernel_rfl
theorem clo_init (P : Params) : (fdAt (KH P) 887).closure = [((PySem.Str.ofString "__class__"), 874)] := by kernel_rfl
theorem clo_update (P : Params) : (fdAt (KH P) 936).closure = [((PySem.Str.ofString "__class__"), 874)] := by kernel_rfl
theorem nosuper : (P0.main.scope.names.lookup ("super" : Str)).isSome = false := by kernel_rfl
set_option tactic.hygienic true in
theorem at_super {f : Addr} {fd : FuncData} {body : List Stmt} {p0 p1 : Pos} {attr : Str} {whole : Sem Value} {m : Str → Option Value} {p1' p2' p3' : Option Expr} {q1 q2 q3 : Pos} {D : List Expr} {Q : Value → Shared → Prop} (G : Good w B s) (O : EnvOk env sc) (OC : EnvC env f fd) (C : IsC s.heap a d L ep)
  (hR : Rm 300 A) (hf : fnChk2 (KH w.params) f = some (fd, body)) (hp : fd.params = uArgs p1' p2' p3' q1 q2 q3 D) (hfile : fileAt (KH w.params) fd.code = some P0.main.file) (hclo : fd.closure = [((PySem.Str.ofString "__class__"), 874)])
  (hns : s.heap.Ns env.locals m) (hv : m "self" = some (.ref a)) (h : ∀ x s', s'.heap.get? x = some (supO a) → s.heap.get? x = none → Kp [] s s' → s'.gens = s.gens → Q (.ref x) s')
  (hs1 : sc.names.lookup ("super" : Str) = some .globalImplicit := by kernel_rfl) (hs2 : sc.names.lookup ("__class__" : Str) = some .free := by kernel_rfl) (hs3 : sc.names.lookup ("self" : Str) = some .local := by kernel_rfl) (hat : (attr == ("__class__" : Str)) = false := by kernel_rfl) :
  _root_.PySem.wpAt (model P0 w) A (.func body env) (attributeBase (.Call (.Name "super" p0) [] [] p1) attr env whole) Q E s := by
 obtain ⟨r, hd, hf⟩ := Option.bind_eq_some_iff.mp hf
 obtain ⟨_, hf⟩ := cnd2 hf
 cases hf
 obtain ⟨fo, _, _, _, _, hfo, hfd, _⟩ := fnD_of hd
 obtain ⟨cc, co, vs, tf, hc1, hc2, hc3, hc4⟩ : ∃ cc co vs tf, fd.code = .ref cc ∧ (KH w.params).lookup cc = some co ∧ co.data = .fields vs ∧ vs[2]? = some (.str P0.main.file tf) := by
  unfold fileAt at hfile
  split at hfile
  ·rename_i c hc
   split at hfile
   ·rename_i x1 x2 vs x3 ho
    split at hfile
    ·rename_i q t hq
     cases hfile
     exact ⟨_, _, vs, t, hc, ho, rfl, hq⟩
    ·cases hfile
   ·cases hfile
  ·cases hfile
 refine ks_wpAt_super_base (O.kind hs1) (O.kind hs2) hat OC.fn (G.k _ _ hfo) hfd (ar := ⟨"self", p1', q1⟩) (by rw [hp]; rfl) (OC.code.trans hc1) (G.k _ _ hc2) hc3 hc4 (beq_self_eq_true _) nosuper ?_
 refine ld_glob (.type "super") G O ⟨rfl, ?_⟩ (by kernel_rfl) hs1
 have hcell : s.heap.IsCell 874 (some (.ref 1093)) := by
  have := cell874 w.params
  unfold cellIn at this
  split at this
  ·rename_i v x3 ho
   cases this
   exact ⟨_, G.k _ _ ho, rfl⟩
  ·cases this
 refine wpAny_loadName_free O.fk (O.kind hs2) (by rw [OC.cells, hclo]; rfl) hcell ?_
 refine wpAny_loadName_local O.fk (O.kind hs3) hns hv ?_
 have hty : Looks (model P0 w) s.heap (isType (.ref 1093)) true := by
  unfold isType loadHead
  obtain ⟨c, hc⟩ := cls_data w.params
  refine (Looks.ld (G.k _ _ (look93 w.params))).andThen ?_
  rw [hc]
  exact .now
 refine hty.here ⟨rfl, ?_⟩
 refine Wp.useE2 (hR.lv (super_run w s G.k a d ep _ C.at_)) fun x news s1 hx0 => ?_
 obtain ⟨D, m1, e3, e4, e5⟩ := hx0
 exact h x s1 (D.nw _ m1).1 (D.nw _ m1).2 (jax G D e4 e5 e3) e3
end
theorem c_bool (P : Params) : findIn (KH P) (.ref 1093) (PySem.Str.ofString "__bool__") = some none := by kernel_rfl
theorem c_len (P : Params) : findIn (KH P) (.ref 1093) (PySem.Str.ofString "__len__") = some (some (.builtin "dict.__len__")) := by kernel_rfl
section
variable {w : World} {B : Heap} {A : Around} {s : Shared} {a d b x y : Addr} {L S : List En} {ep ep' : Nat} {env : Env} {sc : Scope} {E : Value → Shared → Prop}
theorem truthy_len {f : Value} {Q : Bool → Shared → Prop} (h1 : Looks (model P0 w) s.heap (specialOf (.ref a) "__bool__") none) (h2 : Looks (model P0 w) s.heap (specialOf (.ref a) "__len__") (some f))
  (h : wpAny (model P0 w) A (runValue (.builtin "len" ⟨[.ref a], []⟩)) (fun v s' => ∃ n t, v = .int n t ∧ Q (n != 0) s') E s) : wpAny (model P0 w) A (truthy (.ref a)) Q E s := by
 have hc : Looks (model P0 w) s.heap (callSpecial? (.ref a) "__bool__") none := by
  unfold callSpecial?
  exact h1.andThen .now
 unfold truthy
 refine wpAny_bind (hc.here ?_)
 dsimp only
 refine wpAny_bind (h2.here ?_)
 rw [if_neg Bool.noConfusion]
 refine wpAny_bind (wpAny_mono h (fun v s' hx0 => ?_) fun Y Y z => z)
 obtain ⟨n, t, e, q⟩ := hx0
 subst e
 exact wpAny_pure q
theorem truthy_ctr (G : Good w B s) (hR : Rm 300 A) (C : IsC s.heap a d L ep) (hL : L.length ≤ 100) : Wp w A (truthy (.ref a)) (fun v s' => v = !L.isEmpty ∧ Kp [] s s' ∧ s'.gens = s.gens) s := by
 refine truthy_len (C.spec G (c_bool _)) (C.spec G (c_len _)) (hR.lv (wpAny_mono (len0_run w s G.k a d ep _ C.at_ (by simpa using hL)) (fun v s' ⟨news, t, e, D, h1, h2, h3⟩ => ⟨_, t, e, ?_, jax G D h2 h3 h1, h1⟩) fun Y Y z => z))
 cases L <;> simp <;> omega
theorem d0_of {h : Heap} (C : h.get? a = some dctO) : h.DictOf (intKind P0 w) a [] := ⟨_, _, _, C, ⟨rfl, rfl, rfl⟩, rfl, (fun e he => by cases (Array.mem_def.mp he)), .nil, List.nodup_nil⟩
theorem truthy_d0 (C : s.heap.get? a = some dctO) (h1 : (a == sysModules) = false) : Wp w A (truthy (.ref a)) (fun v s' => v = false ∧ Kp [] s s' ∧ s'.gens = s.gens) s :=
 wpAny_truthy_dict h1 (d0_of C) (by decide) ⟨rfl, jak (Nat.le_succ_of_le (Nat.le_succ _)), rfl⟩
theorem at_If {c : Code} {M : Model} {test : Expr} {body orelse : List Stmt} {pos : Pos} {Q : Flow → Shared → Prop}
  (h : wpAny M A (isTrue test env (eval test env)) (fun b s₂ => if b = true then _root_.PySem.wpAt M A c (execs body env) Q E s₂ else _root_.PySem.wpAt M A c (execs orelse env) Q E s₂) E s) :
  _root_.PySem.wpAt M A c (exec (.If test body orelse pos) env) Q E s := by
 rw [exec_If]
 refine _root_.PySem.wpAt_bind (wpAt_of_wpAny (wpAny_standAt (_root_.PySem.wpAt_bind (wpAt_of_wpAny (wpAny_mono h (fun b s₂ h₂ => ?_) fun Y Y z => z)))))
 cases b <;> exact h₂
theorem noint (O : EnvOk env sc) : interactive env = false := by
 unfold interactive; rw [O.fk]; rfl
theorem tl_sup_ga : fastLookup "super" (PySem.Str.ofString "__getattribute__") = some (some (.builtin "super.__getattribute__")) := by kernel_rfl
theorem can_sup : (Manifest.canonical "super.__getattribute__" != "object.__getattribute__") = true := by decide +kernel
theorem jb6 {name : Str} {pl : Sem Bool} {Q : Value × List Value → Shared → Prop} (hx : s.heap.get? x = some (supO a)) (h : wpAny (model P0 w) A (getAttr (.ref x) name false) (fun v s' => Q (v, []) s') E s) :
  wpAny (model P0 w) A (getMethod (.ref x) name pl) Q E s := by
 have hT : Looks (model P0 w) s.heap (typeOf (.ref x)) (.type "super") := (Looks.ld (part := some headPart) hx).andThen .now
 have hS : Looks (model P0 w) s.heap (specialOf (.ref x) "__getattribute__") (some (.builtin "super.__getattribute__")) := hT.andThen (jaL (T := "super") tl_sup_ga)
 unfold getMethod
 refine wpAny_bind (hS.here ?_)
 show wpAny _ _ (if (Manifest.canonical "super.__getattribute__" != "object.__getattribute__") = true then _ else _) _ _ _
 rw [if_pos can_sup]
 exact wpAny_bind (wpAny_mono h (fun v s' h' => wpAny_pure h') fun Y Y z => z)
theorem cw_mach {f : Value} {first : List Value} {pos : Pos} {args : List (Bool × Sem Value)} {Q : Value → Shared → Prop} (hs : args.any (·.1) = false)
  (h : wpAny (model P0 w) A (evalArgs f true args []) (fun a s₁ => Looks (model P0 w) s₁.heap (keeperOf f) .machine ∧ wpAny (model P0 w) A (call f (first ++ a.pos) a.kw) Q E s₁) E s) :
  wpAny (model P0 w) A (callWith pos f first args []) Q E s := by
 unfold callWith
 refine wpAny_bind (wpAny_holding (wpAny_mono h (fun a s₁ ⟨hk, h₁⟩ => wpAny_bind (wpAny_standAt ?_)) fun Y Y z => z))
 refine wpAny_bind (hk.here ?_)
 rw [hs]
 exact wpAny_bind (wpAny_mono h₁ (fun v s' hv => wpAny_bind (wpAny_holding (wpAny_point (wpAny_pure hv)))) fun Y Y z => z)
theorem keep_mw {id : String} (hy : s.heap.get? y = some (mwO id a)) : Looks (model P0 w) s.heap (keeperOf (.ref y)) .machine := by
 unfold keeperOf
 refine (Looks.ld (part := none) hy).andThen ?_
 exact .now
theorem keep_bf {id : String} (hy : s.heap.get? y = some (bfO id a)) : Looks (model P0 w) s.heap (keeperOf (.ref y)) .machine := by
 unfold keeperOf
 refine (Looks.ld (part := none) hy).andThen ?_
 exact .now
end
noncomputable def upBody : List Stmt := ja2 (ctrS "update")
section
variable {w : World} {B : Heap} {A : Around} {s : Shared} {a d b x y : Addr} {L S : List En} {ep ep' : Nat} {env : Env} {sc : Scope} {E : Value → Shared → Prop}
theorem Good.sys (G : Good w B s) {k : Addr} (h : s.heap.get? k = none) : (k == sysModules) = false := by
 rw [beq_eq_false_iff_ne]
 intro q
 have : ((KH w.params).lookup 1).map (fun o => o.cls) = some (.type "dict") := by kernel_rfl
 obtain ⟨o, e, ho⟩ := Option.map_eq_some_iff.mp this
 have := G.k _ _ e
 rw [show (1 : Addr) = k from q.symm, h] at this
 cases this
theorem jar {o : Obj} (G : Good w B s) : Kp [] s { s with heap := s.heap.push o } := jat (fun Y Y e => Heap.get?_push_of_some _ e) G.two rfl (Nat.le_refl _) rfl
theorem jag : s.heap.get? s.heap.objs.size = none := by
 cases e : s.heap.get? s.heap.objs.size with
 | none => rfl
 | some o => exact absurd (Heap.lt_size e) (Nat.lt_irrefl _)
theorem at_nil {c : Code} {M : Model} {Q : Flow → Shared → Prop} (h : Q .next s) : _root_.PySem.wpAt M A c (execs [] env) Q E s := wpAt_of_wpAny (wpAny_execs_nil h)
theorem ev_none {k : Nat} {pos : Pos} {Q : Value → Shared → Prop} (h : Q .none s) : wpAny (model P0 w) A (eval (.Constant .none k pos) env) Q E s := wpAny_pure h
theorem upd_none {n : Nat} (G : Good w B s) (hA : Rm n A) (hn : n < 288) :
  codeAny (model P0 w) A (.call (.ref 936) ⟨[.ref a, .none], []⟩) (fun r s' => r = .ok (.ret .none) ∧ Kp [] s s' ∧ s'.gens = s.gens) s := by
 obtain ⟨p1, p2, p3, q1, q2, q3, D, hsh⟩ := sh_update
 have hk' : Kp [] s { s with heap := s.heap.push dctO } := jar G
 refine call_fnAt G hA (lq0 hn rfl) (fn_update _) (sc := jas (ctrS "update")) (sc_update _) (binds := [("self", .ref a), ("iterable", .none), ("kwds", .ref s.heap.objs.size)]) hk' rfl
  (fun Q E hq => bind_u1 ((par_update _).trans hsh) (df_update _) (G.k _ _ (l928 _)) hq) (by kernel_rfl) fun env A' s1 O OC R1 hn1 fr K1 g1 => ?_
 have Gp := G.kp hk' al0
 have G1 := Gp.kp K1 al0
 have hkd : s1.heap.get? s.heap.objs.size = some dctO := K1.keep _ _ (Heap.get?_push_size _ rfl) rfl ni0
 have hks := G.sys (jag (s := s))
 have e1 : ja2 (ctrS "update") = [upBody[0]!, upBody[1]!] := by kernel_rfl
 rw [e1]
 refine ks_wpAt_execs_cons (wpAt_of_wpAny (wpAny_If (wpAny_isTrue_Compare1 (jam O hn1 (v := .none) (by kernel_rfl) (ev_none (wpAny_isNot_self rfl (wpAny_truthy_bool ?_)))))))
 rw [if_neg (by decide)]
 refine wpAny_execs_nil ?_
 dsimp only
 refine ks_wpAt_execs_cons (wpAt_of_wpAny (wpAny_If (isTrue_plain (jam O hn1 (v := .ref s.heap.objs.size) (by kernel_rfl) ?_))))
 refine (truthy_d0 hkd hks).useE fun s2 hx0 => ?_
 obtain ⟨K2, g2⟩ := hx0
 rw [if_neg (by decide)]
 refine wpAny_execs_nil (at_nil ⟨rfl, ((hk'.trans K1).trans K2).mono al0, g2.trans g1⟩)
end
local macro_rules | `(tactic| x_close) => `(tactic| (exact ⟨_, rfl, by first | assumption | exact Mem.start _, rfl, rfl, by ((try dsimp only); exact Nat.le_refl _)⟩))
theorem km_run (w : World) (s : Shared) (t : Nat) (KX : (KH w.params).In s.heap) :
  wpAny (model P0 w) lv0 (call (.builtin "type.__getattribute__") [.ref 471, .str (PySem.Str.ofString "_abc_kind") t]) (fun v s' => ∃ news, v = .ref 467 ∧ Mem s.heap s'.heap [] news ∧ s'.gens = s.gens ∧ s'.os = s.os ∧ s.toks ≤ s'.toks) (fun Y Y => False) s := by
 have f2 := kf2 KX; have f83 := kf83 KX; have f84 := kf84 KX; have f99 := kf99 KX; have f116 := jbI KX; have f117 := jbH KX; have f466 := jbG KX; have f467 := jb0 KX; have f470 := jbF KX; have f471 := jbE KX
 x_run
theorem cl_run (w : World) (s : Shared) (t : Nat) (KX : (KH w.params).In s.heap) (a ep : Nat) (es : Array DictEntry) (ha : s.heap.get? a = some ⟨.type "dict", none, .dict es ep, #[]⟩) :
  wpAny (model P0 w) lv0 (call (.builtin "dict.__getattribute__") [.ref a, .str (PySem.Str.ofString "__class__") t]) (fun v s' => ∃ news, v = .type "dict" ∧ Mem s.heap s'.heap [] news ∧ s'.gens = s.gens ∧ s'.os = s.os ∧ s.toks ≤ s'.toks) (fun Y Y => False) s := by
 have f2 := kf2 KX
 x_run
theorem sc_run (w : World) (s : Shared) (KX : (KH w.params).In s.heap) :
  wpAny (model P0 w) lv0 (call (.builtin "issubclass") [.type "dict", .type "dict"]) (fun v s' => ∃ news, v = .bool true ∧ Mem s.heap s'.heap [] news ∧ s'.gens = s.gens ∧ s'.os = s.os ∧ s.toks ≤ s'.toks) (fun Y Y => False) s := by
 have f2 := kf2 KX
 x_run
section
variable {w : World} {B : Heap} {A : Around} {s : Shared} {a d b x y : Addr} {L S : List En} {ep ep' : Nat} {env : Env} {sc : Scope} {E : Value → Shared → Prop}
theorem call_b {id : String} {bb : Builtin} {args : List Value} {Q : Value → Shared → Prop} (hk : builtinKind id = none) (hp : plainId id = true) (hb : entryFor table id = some bb) (ha : argsOk id ⟨args, []⟩)
  (hc : wpAny (model P0 w) A.in1 (bb ⟨args, []⟩) (fun fin s' => match fin with | .done f => wants Q E (.ok f) s' | .again c' => c'.quiet = true ∧ codeAny (model P0 w) A c' (wants Q E) s') (fun e s' => wants Q E (.error e) s') s) : wpAny (model P0 w) A (call (.builtin id) args) Q E s := by
 refine wpAny_call (codeAny_call_builtin hp hb ?_)
 simp only [checkBuiltinCall, hk]
 cases hsig : Manifest.signature? id with
 | none => exact wpAny_pure hc
 | some sig =>
  simp only [argsOk, hsig] at ha
  have h2 : Bind.checkArgs id sig ⟨args, []⟩ = pure () := ha
  try dsimp only
  rw [h2]; exact wpAny_pure hc
theorem abcBody : ja2 (metS "_ABCLike" "__instancecheck__") = [(ja2 (metS "_ABCLike" "__instancecheck__"))[0]!, (ja2 (metS "_ABCLike" "__instancecheck__"))[1]!, (ja2 (metS "_ABCLike" "__instancecheck__"))[2]!] := by kernel_rfl
theorem kindBody : ja2 (metS "Mapping" "_abc_kind") = [(ja2 (metS "Mapping" "_abc_kind"))[0]!, (ja2 (metS "Mapping" "_abc_kind"))[1]!] := by kernel_rfl
theorem fn_abc (P : Params) : fnChk (KH P) 100 = some (fdAt (KH P) 100, ja2 (metS "_ABCLike" "__instancecheck__")) := by kernel_rfl
theorem fn_kind (P : Params) : fnChk (KH P) 467 = some (fdAt (KH P) 467, ja2 (metS "Mapping" "_abc_kind")) := by kernel_rfl
theorem pk_ic (P : Params) : peek (KH P) ⟨P0, P⟩ (specialOf (.ref 471) (PySem.Str.ofString "__instancecheck__")) = some (some (.ref 100)) := by kernel_rfl
theorem pk_ty (P : Params) : peek (KH P) ⟨P0, P⟩ (typeOf (.ref 471)) = some (.ref 117) := by kernel_rfl
theorem pk_un (P : Params) : peek (KH P) ⟨P0, P⟩ (Builtins.unionMembers (.ref 471)) = some (.ref 471) := by kernel_rfl
theorem pk_tu (P : Params) : peek (KH P) ⟨P0, P⟩ (isInstance (.ref 471) (.type "tuple")) = some false := by kernel_rfl
theorem pk_ga (P : Params) : peek (KH P) ⟨P0, P⟩ (specialOf (.ref 471) (PySem.Str.ofString "__getattribute__")) = some (some (.builtin "type.__getattribute__")) := by kernel_rfl
theorem pk_tl (P : Params) : peek (KH P) ⟨P0, P⟩ (typeLookup (.ref 117) (PySem.Str.ofString "__getattribute__")) = some (some (.builtin "type.__getattribute__")) := by kernel_rfl
theorem pk_hk (P : Params) : peek (KH P) ⟨P0, P⟩ (hookBefore (.ref 117)) = some none := by kernel_rfl
theorem can_ty : (Manifest.canonical "type.__getattribute__" != "object.__getattribute__") = true := by decide +kernel
theorem tl_dga : fastLookup "dict" (PySem.Str.ofString "__getattribute__") = some (some (.builtin "dict.__getattribute__")) := by kernel_rfl
theorem f100 (P : Params) : ((KH P).lookup 100).map (fun o => o.cls) = some (.type "function") := by kernel_rfl
theorem bt_tga : fastBuiltinType "type.__getattribute__" = pure (.type "wrapper_descriptor") := by kernel_rfl
theorem bt_dga0 : fastBuiltinType "dict.__getattribute__" = pure (.type "wrapper_descriptor") := by kernel_rfl
theorem tga_wd {h : Heap} : Looks (model P0 w) h (typeOf (.builtin "type.__getattribute__")) (.type "wrapper_descriptor") := by
 refine jbo ?_
 exact bt_tga
theorem dga_wd0 {h : Heap} : Looks (model P0 w) h (typeOf (.builtin "dict.__getattribute__")) (.type "wrapper_descriptor") := by
 refine jbo ?_
 exact bt_dga0
theorem getattr_kind {ex : Bool} (G : Good w B s) (hR : Rm 300 A) :
  Wp w A (getAttr (.ref 471) (PySem.Str.ofString "_abc_kind") ex) (fun v s' => v = .ref 467 ∧ Kp [] s s' ∧ s'.gens = s.gens) s := by
 try (refine lW ?_; intro Ro)
 unfold getAttr
 refine wpAny_bind (wpAny_mkText ?_)
 unfold getAttrBy
 refine wpAny_holding ?_
 have K0 : Kp [] s { s with toks := s.toks + 1 } := jak (Nat.le_succ _)
 have gg : ({ s with toks := s.toks + 1 } : Shared).gens = s.gens := rfl
 generalize hs1 : ({ s with toks := s.toks + 1 } : Shared) = s1 at K0 gg ⊢
 have G1 := G.kp K0 al0
 have L1 : Looks (model P0 w) s1.heap (typeOf (.ref 471)) (.ref 117) := Looks.of_peek G1.k (pk_ty _)
 have L2 : Looks (model P0 w) s1.heap (typeLookup (.ref 117) (PySem.Str.ofString "__getattribute__")) (some (.builtin "type.__getattribute__")) := Looks.of_peek G1.k (pk_tl _)
 have L3 : Looks (model P0 w) s1.heap (hookBefore (.ref 117)) none := Looks.of_peek G1.k (pk_hk _)
 refine wpAny_bind (L1.here (wpAny_bind (L2.here ?_)))
 show wpAny _ _ (if _ then _ else _) _ _ _
 refine iff_ (by kernel_rfl) ?_
 unfold getAttrByItsOwn
 refine wpAny_bind (L3.here ?_)
 refine wpAny_bind (wpAny_attempt (wpAny_holding ?_))
 unfold callGetattribute
 refine iff_ (by cases ex <;> rfl) ?_
 refine jb5 (id := "type.__getattribute__") (.inl (tga_wd (h := s1.heap))) ?_
 refine Wp.useE1 (hR.lv (km_run w s1 _ G1.k)) fun news s' hx0 => ?_
 refine aG ?_; intro gO; obtain ⟨D, e3, e4, e5⟩ := hx0; unfold gO; clear gO
 exact wpAny_pure ⟨rfl, (K0.trans (jax G1 D e4 e5 e3)).mono al0, e3.trans gg⟩
theorem getattr_class {ex : Bool} (G : Good w B s) (hR : Rm 300 A) (hb : s.heap.get? b = some (dicO S ep')) :
  Wp w A (getAttr (.ref b) (PySem.Str.ofString "__class__") ex) (fun v s' => v = .type "dict" ∧ Kp [] s s' ∧ s'.gens = s.gens) s := by
 try (refine lW ?_; intro Ro)
 unfold getAttr
 refine wpAny_bind (wpAny_mkText ?_)
 unfold getAttrBy
 refine wpAny_holding ?_
 have K0 : Kp [] s { s with toks := s.toks + 1 } := jak (Nat.le_succ _)
 have gg : ({ s with toks := s.toks + 1 } : Shared).gens = s.gens := rfl
 generalize hs1 : ({ s with toks := s.toks + 1 } : Shared) = s1 at K0 gg ⊢
 have G1 := G.kp K0 al0
 have L1 : Looks (model P0 w) s1.heap (typeOf (.ref b)) (.type "dict") := jbS (K0.keep _ _ hb rfl ni0)
 have L2 : Looks (model P0 w) s1.heap (typeLookup (.type "dict") (PySem.Str.ofString "__getattribute__")) (some (.builtin "dict.__getattribute__")) := jaL tl_dga
 refine wpAny_bind (L1.here (wpAny_bind (L2.here ?_)))
 show wpAny _ _ (if _ then _ else _) _ _ _
 refine iff_ (by kernel_rfl) ?_
 unfold getAttrByItsOwn
 refine wpAny_bind (wpAny_pure ?_)
 refine wpAny_bind (wpAny_attempt (wpAny_holding ?_))
 unfold callGetattribute
 refine iff_ (by cases ex <;> rfl) ?_
 refine jb5 (id := "dict.__getattribute__") (.inl (dga_wd0 (h := s1.heap))) ?_
 refine Wp.useE1 (hR.lv (cl_run w s1 _ G1.k b ep' _ (K0.keep _ _ hb rfl ni0))) fun news s' hx0 => ?_
 refine aG ?_; intro gO; obtain ⟨D, e3, e4, e5⟩ := hx0; unfold gO; clear gO
 exact wpAny_pure ⟨rfl, (K0.trans (jax G1 D e4 e5 e3)).mono al0, e3.trans gg⟩
theorem getMethod_471 {name : Str} {pl : Sem Bool} {Q : Value × List Value → Shared → Prop} (G : Good w B s) (h : wpAny (model P0 w) A (getAttr (.ref 471) name false) (fun v s' => Q (v, []) s') E s) :
  wpAny (model P0 w) A (getMethod (.ref 471) name pl) Q E s := by
 have hS : Looks (model P0 w) s.heap (specialOf (.ref 471) (PySem.Str.ofString "__getattribute__")) (some (.builtin "type.__getattribute__")) := Looks.of_peek G.k (pk_ga _)
 unfold getMethod
 refine wpAny_bind (hS.here ?_)
 show wpAny _ _ (if (Manifest.canonical "type.__getattribute__" != "object.__getattribute__") = true then _ else _) _ _ _
 rw [if_pos can_ty]
 exact wpAny_bind (wpAny_mono h (fun v s' h' => wpAny_pure h') fun Y Y z => z)
theorem ea_cons {f : Value} {pos : Pos} {e : Expr} {es : List Expr} {Q : Args → Shared → Prop} (h : wpAny (model P0 w) A (spliced (backTo pos (starEach (e :: es) env))) (fun vs s' => Q ⟨vs, []⟩ s') E s)
  (he : starEach (e :: es) env = (false, eval e env) :: starEach es env := by rfl) : wpAny (model P0 w) A (evalArgs f true (backTo pos (starEach (e :: es) env)) []) Q E s := by
 rw [he] at h ⊢
 exact evalArgs_plain h
theorem kind_fn {n : Nat} (G : Good w B s) (hA : Rm n A) (hn : n < 296) : codeAny (model P0 w) A (.call (.ref 467) ⟨[.ref 471, .type "dict"], []⟩) (fun r s' => r = .ok (.ret (.bool true)) ∧ Kp [] s s' ∧ s'.gens = s.gens) s := by
 try (refine lC ?_; intro Ro)
 refine call_fn G hA (lq0 hn rfl) (fn_kind _) (sc := jas (metS "Mapping" "_abc_kind")) (by kernel_rfl) (binds := [("cls", .ref 471), ("C", .type "dict")]) (by kernel_rfl) (by kernel_rfl) fun env A' s1 O R1 hn1 fr K1 g1 => ?_
 have G1 := G.kp K1 al0
 rw [kindBody]
 refine wpAny_execs_cons (wpAny_If (wpAny_isTrue_Compare1 (jam O hn1 (v := .ref 471) (by kernel_rfl) (jal (.ref 471) G1 O ?_))))
 refine wpAny_bind (wpAny_isSame_ref_self (wpAny_pure (wpAny_truthy_bool ?_)))
 rw [if_pos rfl]
 refine wpAny_execs_cons (wpAny_If (PyProof.Rows.isTrue_or (isTrue_plain (jap (jal (.builtin "issubclass") G1 O (ja8 (jad (jam O hn1 (v := .type "dict") (by kernel_rfl) (jad (jal (.type "dict") G1 O (jao ?_)))))))))))
 refine Wp.useE1 ((R1.le (lq0 hn rfl)).lv (sc_run w _ G1.k)) fun news s2 hx0 => ?_
 refine aG ?_; intro gO; obtain ⟨D, e3, e4, e5⟩ := hx0; unfold gO; clear gO
 refine wpAny_truthy_bool ?_
 rw [if_pos rfl, if_pos rfl]
 refine wpAny_execs_cons (wpAny_Return_some (wpAny_pure ?_))
 exact ⟨rfl, K1.comp0 G (jax G1 D e4 e5 e3) al0, e3.trans g1⟩
theorem abc_fn {n : Nat} (G : Good w B s) (hA : Rm n A) (hn : n < 294) (hb : s.heap.get? b = some (dicO S ep')) : codeAny (model P0 w) A (.call (.ref 100) ⟨[.ref 471, .ref b], []⟩) (fun r s' => r = .ok (.ret (.bool true)) ∧ Kp [] s s' ∧ s'.gens = s.gens) s := by
 try (refine lC ?_; intro Ro)
 refine call_fn G hA (lq0 hn rfl) (fn_abc _) (sc := jas (metS "_ABCLike" "__instancecheck__")) (by kernel_rfl) (binds := [("cls", .ref 471), ("instance", .ref b)]) (by kernel_rfl) (by kernel_rfl) fun env A' s1 O R1 hn1 fr K1 g1 => ?_
 have G1 := G.kp K1 al0
 have hBL := G.new fr
 have hb1 := K1.keep _ _ hb rfl ni0
 rw [abcBody]
 refine wpAny_execs_cons (wpAny_Assign_Name (jap (jal (.type "type") G1 O (callWith_type1 (jad (jam O hn1 (v := .ref b) (by kernel_rfl) (jao ?_)))))))
 refine call_type_of (Tx := "dict") ?_ (by decide) ?_
 ·exact ⟨_, hb1, rfl⟩
 refine st_loc G1 O hn1 hBL fun s2 hn2 K2 g2 G2 => ?_
 have hb2 := K2.keep _ _ hb1 rfl (fun m => by rw [List.mem_singleton.mp m, fr] at hb; cases hb)
 refine wpAny_execs_cons (wpAny_If (wpAny_isTrue_Compare1 ?_))
 rw [arm_eval_Attribute]
 refine wpAny_bind (jam O hn2 (v := .ref b) (by kernel_rfl) (wpAny_bind (wpAny_standAt (wpAny_bind (wpAny_holding ?_)))))
 refine (getattr_class G2 (R1.le (lq0 hn rfl)) hb2).use fun v s3 hx0 => ?_
 refine aG ?_; intro gO; obtain ⟨e3, K3, g3⟩ := hx0; unfold gO; clear gO
 subst e3
 have G3 := G2.kp K3 al0
 have hn3 := jay hn2 K3 ni0
 refine wpAny_bind (wpAny_pure (wpAny_pure (jam O hn3 (v := .type "dict") (by kernel_rfl) (wpAny_isNot_self (by kernel_rfl) (wpAny_truthy_bool ?_)))))
 rw [if_neg Bool.false_ne_true]
 refine wpAny_execs_nil (wpAny_execs_cons (wpAny_Return_some (jbW (jam O hn3 (v := .ref 471) (by kernel_rfl) (getMethod_471 G3 ?_)))))
 refine (getattr_kind G3 (R1.le (lq0 hn rfl))).use fun v s4 hx0 => ?_
 refine aG ?_; intro gO; obtain ⟨e4, K4, g4⟩ := hx0; unfold gO; clear gO
 subst e4
 have G4 := G3.kp K4 al0
 have hn4 := jay hn3 K4 ni0
 have f467 := jb0 G4.k
 refine callWith_function (o := ⟨.type "function", none, .func fd467, #[]⟩) (fd := fd467) (ea_cons (jad (jam O hn4 (v := .ref 471) (by kernel_rfl) (jad (jam O hn4 (v := .type "dict") (by kernel_rfl) (jao ⟨⟨f467, rfl⟩, ?_⟩))))))
 refine wpAny_call (coE (kind_fn G4 R1 (lq2 hn rfl)) fun s5 hx0 => ?_)
 obtain ⟨K5, g5⟩ := hx0
 exact ⟨rfl, ((((K1.comp0 G K2 (fun x m => by rw [List.mem_singleton.mp m]; exact fr)).comp0 G K3 al0).comp0 G K4 al0).comp0 G K5 al0), g5.trans (g4.trans (g3.trans (g2.trans g1)))⟩
theorem ismap {n : Nat} (G : Good w B s) (hA : Rm n A) (hn : n < 290) (hb : s.heap.get? b = some (dicO S ep')) : Wp w A (call (.builtin "isinstance") [.ref b, .ref 471]) (fun v s' => v = .bool true ∧ Kp [] s s' ∧ s'.gens = s.gens) s := by
 try (refine lW ?_; intro Ro)
 refine call_b F.kind_isinstance F.plain_isinstance F.entry_isinstance (F.args_isinstance_2 _ _) (isinstance_outer ?_ (by intro e; cases e))
 unfold Builtin.«isinstance.nested»
 have L1 : Looks (model P0 w) s.heap (typeOf (.ref 471)) (.ref 117) := Looks.of_peek G.k (pk_ty _)
 have L2 : Looks (model P0 w) s.heap (Builtins.unionMembers (.ref 471)) (.ref 471) := Looks.of_peek G.k (pk_un _)
 have L3 : Looks (model P0 w) s.heap (isInstance (.ref 471) (.type "tuple")) false := Looks.of_peek G.k (pk_tu _)
 have L4 : Looks (model P0 w) s.heap (specialOf (.ref 471) (PySem.Str.ofString "__instancecheck__")) (some (.ref 100)) := Looks.of_peek G.k (pk_ic _)
 refine wpAny_bind ((jbS hb).here ?_)
 refine iff_ (by kernel_rfl) ?_
 refine wpAny_bind (L1.here ?_)
 refine iff_ (by kernel_rfl) ?_
 refine wpAny_bind (L2.here ?_)
 refine wpAny_bind (L3.here ?_)
 refine iff_ rfl ?_
 refine wpAny_bind (wpAny_cRoom ?_ ?_)
 ·have := hA.in1.2.2; unfold cLine; exact lrk ‹_› ‹_› (by rfl)
 refine wpAny_bind (jbD (f := 100) L4 (jbJ G.k) rfl ?_)
 refine wpAny_call (coE (abc_fn G hA.in1 (lq2 hn rfl) hb) fun s5 hx0 => ?_)
 obtain ⟨K5, g5⟩ := hx0
 refine wpAny_bind (wpAny_rule (wpAny_bind (wpAny_holding (wpAny_truthy_bool (wpAny_bind (wpAny_letGo ?_))))))
 refine wpAny_pure ?_
 exact ⟨rfl, K5, g5⟩
end
section
variable {w : World} {B : Heap} {A : Around} {s : Shared} {a d b x y : Addr} {L S : List En} {ep ep' : Nat} {env : Env} {sc : Scope} {E : Value → Shared → Prop}
theorem at_meth {c : Code} {o : Expr} {name : Str} {apos pos : Pos} {args : List Expr} {Q : Value → Shared → Prop}
  (h : _root_.PySem.wpAt (model P0 w) A c (attributeBase o name env (eval o env)) (fun ov s₁ => wpAny (model P0 w) A (getMethod ov name (do return (← importBound o env).getD true)) (fun fa s₂ =>
   wpAny (model P0 w) A (callWith pos fa.1 fa.2 (backTo pos (starEach args env)) []) Q E s₂) E s₁) E s)
  (hf : methodCallForm (args.length + 0) (backTo pos (starEach args env)) [] = true := by rfl) (hl : (apos.endLine == pos.line) = true := by rfl) :
  _root_.PySem.wpAt (model P0 w) A c (eval (.Call (.Attribute o name apos) args [] pos) env) Q E s := by
 show _root_.PySem.wpAt _ _ _ (do let ov ← attributeBase o name env (eval o env); standAt apos.atName; methodCall o name apos pos env ov (args.length + 0) (backTo pos (starEach args env)) []) _ _ _
 refine _root_.PySem.wpAt_bind (_root_.PySem.wpAt_mono h (fun ov s₁ h₁ => wpAt_of_wpAny (wpAny_bind (wpAny_standAt ?_))) fun Y Y z => z)
 unfold methodCall
 rw [hf]
 refine wpAny_bind (wpAny_holding ?_)
 refine wpAny_mono h₁ (fun fa s₂ h₂ => ?_) fun Y Y z => z
 unfold methodCallPos
 rw [hl, if_pos (by rfl)]
 exact wpAny_bind (wpAny_pure h₂)
theorem upd_dict {n : Nat} (G : Good w B s) (hA : Rm n A) (hn : n < 288) (C : IsC s.heap a d [] 0) (hb : s.heap.get? b = some (dicO S ep')) (hb1 : (b == sysModules) = false) (hz : S.length ≤ 8) (hnd : (S.map (·.1)).Nodup) (htp : ∀ e ∈ S, 0 ≤ e.2.1 ∧ 0 ≤ e.2.2.2) :
  codeAny (model P0 w) A (.call (.ref 936) ⟨[.ref a, .ref b], []⟩) (fun r s' => r = .ok (.ret .none) ∧ IsC s'.heap a d S S.length ∧ Kp [a] s s' ∧ s'.gens = s.gens) s := by
 obtain ⟨p1, p2, p3, q1, q2, q3, D, hsh⟩ := sh_update
 have hk' : Kp [] s { s with heap := s.heap.push dctO } := jar G
 refine call_fnAt G hA (lq0 hn rfl) (fn_update _) (sc := jas (ctrS "update")) (sc_update _) (binds := [("self", .ref a), ("iterable", .ref b), ("kwds", .ref s.heap.objs.size)]) hk' rfl
  (fun Q E hq => bind_u1 ((par_update _).trans hsh) (df_update _) (G.k _ _ (l928 _)) hq) (by kernel_rfl) fun env A' s1 O OC R1 hn1 fr K1 g1 => ?_
 have Gp := G.kp hk' al0
 have G1 := Gp.kp K1 al0
 have hkd : s1.heap.get? s.heap.objs.size = some dctO := K1.keep _ _ (Heap.get?_push_size _ rfl) rfl ni0
 have hks := G.sys (jag (s := s))
 have C1 := (C.kp hk' ni0 ni0).kp K1 ni0 ni0
 have hb2 := K1.keep _ _ (hk'.keep _ _ hb rfl ni0) rfl ni0
 have e1 : ja2 (ctrS "update") = [upBody[0]!, upBody[1]!] := by kernel_rfl
 rw [e1]
 refine ks_wpAt_execs_cons (at_If (wpAny_isTrue_Compare1 (jam O hn1 (v := .ref b) (by kernel_rfl) (ev_none (wpAny_isNot_other rfl ((fun h => Value.noConfusion h)) (wpAny_truthy_bool ?_))))))
 rw [if_pos rfl]
 refine ks_wpAt_execs_cons (at_If (isTrue_plain (jap (jal (.builtin "isinstance") G1 O ?_))))
 refine ja8 (jad (jam O hn1 (v := .ref b) (by kernel_rfl) (jad (jal (.ref 471) G1 O (jao ?_)))))
 refine (ismap G1 R1 (lq2 hn rfl) hb2).use fun v s2 hx0 => ?_
 obtain ⟨ev, K2, g2⟩ := hx0
 subst ev
 have G2 := G1.kp K2 al0
 have C2 := C1.kp K2 ni0 ni0
 have hn2 := jay hn1 K2 ni0
 refine wpAny_truthy_bool ?_
 rw [if_pos rfl]
 refine ks_wpAt_execs_cons (at_If (isTrue_plain (jam O hn2 (v := .ref a) (by kernel_rfl) ?_)))
 refine (truthy_ctr G2 (R1.le (lq0 hn rfl)) C2 (Nat.zero_le _)).use fun v s3 hx0 => ?_
 obtain ⟨ev, K3, g3⟩ := hx0
 subst ev
 have G3 := G2.kp K3 al0
 have C3 := C2.kp K3 ni0 ni0
 have hn3 := jay hn2 K3 ni0
 rw [if_neg (by decide)]
 refine ks_wpAt_execs_cons (ks_wpAt_Expr_any (hi := noint O) ?_)
 refine at_meth (at_super G3 O OC C3 (R1.le (lq0 hn rfl)) (fn_update _) ((par_update _).trans hsh) (file_update _) (clo_update _) hn3 (by kernel_rfl) fun x s4 hx4 f4 K4 g4 => ?_)
 have G4 := G3.kp K4 al0
 have C4 := C3.kp K4 ni0 ni0
 have hn4 := jay hn3 K4 ni0
 refine jb6 hx4 ?_
 refine (jbL G4 C4 hx4 (R1.le (lq0 hn rfl))).use fun v s5 hx0 => ?_
 obtain ⟨y, ev, hy5, K5, g5⟩ := hx0
 subst ev
 have G5 := G4.kp K5 al0
 have C5 := C4.kp K5 ni0 ni0
 have hn5 := jay hn4 K5 ni0
 refine cw_mach (by rfl) (ea_cons (jad (jam O hn5 (v := .ref b) (by kernel_rfl) (jao ⟨keep_bf hy5, ?_⟩))))
 have K15 : Kp [] s1 s5 := ((K2.trans K3).trans (K4.trans K5)).mono al0
 have hb5 := K15.keep _ _ hb2 rfl ni0
 have hkd5 := K15.keep _ _ hkd rfl ni0
 refine (call_upd G5 C5 hy5 hb1 hb5 hz hnd htp).use fun v s6 hx0 => ?_
 obtain ⟨ev, C6, K6, g6⟩ := hx0
 subst ev
 have fa := C5.at_
 refine at_nil ?_
 refine at_nil ?_
 refine at_nil ?_
 dsimp only
 have nal : env.locals ≠ a := fun q => by
  obtain ⟨o, _, _, ho, hd, _⟩ := hn5
  rw [q, fa] at ho; cases ho
  have hcl := fr
  rw [q] at hcl
  have := hk'.keep _ _ C.at_ rfl ni0
  rw [hcl] at this; cases this
 have nak : s.heap.objs.size ≠ a := fun q => by
  rw [q, fa] at hkd5; cases hkd5
 have hn6 := jay hn5 K6 (ni1 nal)
 have hkd6 := K6.keep _ _ hkd5 rfl (ni1 nak)
 refine ks_wpAt_execs_cons (wpAt_of_wpAny (wpAny_If (isTrue_plain (jam O hn6 (v := .ref s.heap.objs.size) (by kernel_rfl) ?_))))
 refine (truthy_d0 hkd6 hks).use fun v s7 hx0 => ?_
 obtain ⟨ev, K7, g7⟩ := hx0
 subst ev
 rw [if_neg (by decide)]
 have G6 := G5.kp (S := [a]) K6
 refine wpAny_execs_nil (at_nil ⟨rfl, C6.kp K7 ni0 ni0, (((hk'.trans K1).trans K15).trans (K6.trans K7)).mono sm0, ?_⟩)
 exact g7.trans (g6.trans (g5.trans (g4.trans (g3.trans (g2.trans g1)))))
end
local macro_rules | `(tactic| x_close) => `(tactic| (refine ⟨_, _, rfl, by assumption, ?m1, rfl, rfl, by ((try dsimp only); exact Nat.le_refl _)⟩; (case m1 => (repeat (first | exact List.Mem.head _ | refine List.Mem.tail _ ?_)))))
theorem gaupd2_run (w : World) (s : Shared) (KX : (KH w.params).In s.heap) (a d ep t : Nat) (es : Array DictEntry) (ha : s.heap.get? a = some ⟨.ref 1093, some d, .dict es ep, #[]⟩) (hd : s.heap.get? d = some ⟨.type "dict", none, .dict #[] 0, #[]⟩) :
  wpAny (model P0 w) lv0 (call (.builtin "dict.__getattribute__") [.ref a, .str (PySem.Str.ofString "update") t]) (fun v s' => ∃ x news, v = .ref x ∧ Mem s.heap s'.heap [] news ∧ (x, (⟨.type "method", none, .fields #[.ref 936, .ref a], #[]⟩ : Obj)) ∈ news ∧ s'.gens = s.gens ∧ s'.os = s.os ∧ s.toks ≤ s'.toks) (fun Y Y => False) s := by
 have f2 := kf2 KX; have f3 := kf3 KX; have f83 := kf83 KX; have f84 := kf84 KX; have f99 := kf99 KX; have f100 := jbJ KX; have f116 := jbI KX; have f117 := jbH KX; have f466 := jbG KX; have f467 := jb0 KX; have f470 := jbF KX; have f471 := jbE KX; have f893 := jbO KX; have f894 := jbN KX; have f1092 := jbf KX; have f1093 := jbe KX; have f936 : s.heap.get? (nat_lit 936) = some ⟨.type "function", none, .func fd936, #[]⟩ := KX 936 _ rfl
 x_run
theorem bt_dga : fastBuiltinType "dict.__getattribute__" = pure (.type "wrapper_descriptor") := by kernel_rfl
section
variable {w : World} {B : Heap} {A : Around} {s : Shared} {a d b k m x y : Addr} {L S : List En} {ep ep' : Nat} {env : Env} {sc : Scope} {E : Value → Shared → Prop}
theorem dga_wd {h : Heap} : Looks (model P0 w) h (typeOf (.builtin "dict.__getattribute__")) (.type "wrapper_descriptor") := by
 refine jbo ?_
 exact bt_dga
theorem getattr_update {ex : Bool} (G : Good w B s) (C : IsC s.heap a d L ep) (hR : Rm 289 A) :
  Wp w A (getAttr (.ref a) (PySem.Str.ofString "update") ex) (fun v s' => ∃ y, v = .ref y ∧ s'.heap.get? y = some (mthO (.ref 936) a) ∧ s.heap.get? y = none ∧ Kp [] s s' ∧ s'.gens = s.gens) s := by
 try (refine lW ?_; intro Ro)
 unfold getAttr
 refine wpAny_bind (wpAny_mkText ?_)
 unfold getAttrBy
 refine wpAny_holding ?_
 have K0 : Kp [] s { s with toks := s.toks + 1 } := jak (Nat.le_succ _)
 have gg : ({ s with toks := s.toks + 1 } : Shared).gens = s.gens := rfl
 have hh : ∀ y, ({ s with toks := s.toks + 1 } : Shared).heap.get? y = s.heap.get? y := fun Y => rfl
 generalize hs1 : ({ s with toks := s.toks + 1 } : Shared) = s1 at K0 gg hh ⊢
 have G1 := G.kp K0 al0
 have C1 := C.kp K0 ni0 ni0
 have LL : Looks (model P0 w) s1.heap (typeLookup (.ref 1093) (PySem.Str.ofString "__getattribute__")) (some (.builtin "dict.__getattribute__")) := looks_findIn G1.k (g1 _)
 have LH : Looks (model P0 w) s1.heap (typeLookup (.ref 1093) (PySem.Str.ofString "__getattr__")) none := looks_findIn G1.k (g2 _)
 refine wpAny_bind (C1.type.here (wpAny_bind (LL.here ?_)))
 show wpAny _ _ (if _ then _ else _) _ _ _
 refine iff_ (by kernel_rfl) ?_
 unfold getAttrByItsOwn
 refine wpAny_bind (m := hookBefore (.ref 1093)) (LH.here ?_)
 refine wpAny_bind (wpAny_attempt (wpAny_holding ?_))
 unfold callGetattribute
 refine iff_ (by cases ex <;> rfl) ?_
 refine jb5 (id := "dict.__getattribute__") (.inl (dga_wd (h := s1.heap))) ?_
 refine Wp.useE2 ((hR.le (by omega : 289 ≤ 300)).lv (gaupd2_run w s1 G1.k a d ep _ _ C1.at_ C1.ow)) fun y news s' hx0 => ?_
 refine aG ?_; intro gO; obtain ⟨D, m1, e3, e4, e5⟩ := hx0; unfold gO; clear gO
 exact wpAny_pure ⟨y, rfl, (D.nw _ m1).1, (hh y).symm.trans (D.nw _ m1).2, (K0.trans (jax G1 D e4 e5 e3)).mono al0, e3.trans gg⟩
theorem merge_nil {Q : Unit → Shared → Prop} (hk : s.heap.get? k = some dctO) (hk1 : (k == sysModules) = false) (hm : s.heap.get? m = some dctO) (hq : Q () s) : wpAny (model P0 w) A (mergeMapping m (.ref k) true) Q E s := by
 have hb : s.heap.get? k = some (dicO [] 0) := hk
 unfold mergeMapping
 have LI : Looks (model P0 w) s.heap (isInstance (.ref k) (.type "dict")) true := by
  unfold isInstance
  exact (jbS hb).andThen (Looks.of_pure sub_dd)
 have LS : Looks (model P0 w) s.heap (specialOf (.ref k) "__iter__") (some (.builtin "dict.__iter__")) := by
  refine (jbS hb).andThen ?_
  exact jaL (T := "dict") tl_d_iter
 have he : (some (Value.builtin "dict.__iter__") == some (Value.builtin "dict.__iter__")) = true := by kernel_rfl
 refine wpAny_bind (LI.here ?_)
 dsimp only
 rw [if_pos rfl]
 refine wpAny_bind (LS.here ?_)
 rw [he]
 refine wpAny_bind (wpAny_pure ?_)
 dsimp only
 rw [if_neg (by rw [hk1]; exact Bool.false_ne_true)]
 refine wpAny_bind (wpAny_dictEntries hm rfl ?_)
 refine ift_ (by rfl) ?_
 refine wpAny_bind (wpAny_dictEntries hk rfl ?_)
 refine wpAny_bind (wpAny_pure ?_)
 refine wpAny_bind (wpAny_dictEntries hk rfl ?_)
 refine wpAny_bind (wpAny_dictEpoch hk rfl ?_)
 exact wpAny_bind (wpAny_pure (wpAny_pure hq))
theorem merged_kw {f : Value} {x : Sem Value} {Q : Addr → Shared → Prop} (hk1 : (k == sysModules) = false)
  (h : wpAny (model P0 w) A x (fun v s' => v = .ref k ∧ s'.heap.get? k = some dctO ∧ s'.heap.get? s.heap.objs.size = some dctO ∧ Q s.heap.objs.size s') E { s with heap := s.heap.push dctO }) : wpAny (model P0 w) A (mergedKeywords f [(none, x)]) Q E s := by
 unfold mergedKeywords
 refine wpAny_bind (wpAny_alloc ?_)
 refine wpAny_bind (wpAny_holding ?_)
 dsimp only
 rw [List.forIn_cons]
 refine wpAny_bind (wpAny_bind (wpAny_bind (ift_ (by rfl) (wpAny_pure (wpAny_bind (wpAny_mono h (fun v s' hv => ?_) fun Y Y z => z))))))
 refine aG ?_; intro gO; obtain ⟨ev, h1, h2, hq⟩ := hv; unfold gO; clear gO
 subst ev
 refine wpAny_bind (wpAny_onRaise (wpAny_holding (wpAny_tryCatch (wpAny_onRaise (merge_nil h1 hk1 h2 ?_)))))
 refine wpAny_pure ?_
 dsimp only
 rw [List.forIn_nil]
 exact wpAny_pure (ift_ (by rfl) (wpAny_pure (wpAny_pure hq)))
end
noncomputable def inBody : List Stmt := ja2 (ctrS "__init__")
section
variable {w : World} {B : Heap} {A : Around} {s : Shared} {a d b k m x y : Addr} {L S : List En} {ep ep' : Nat} {env : Env} {sc : Scope} {E : Value → Shared → Prop}
theorem ev_methkw {o : Expr} {name : Str} {apos pos : Pos} {args : List Expr} {kw : Keyword} {Q : Value → Shared → Prop}
  (h : wpAny (model P0 w) A (eval o env) (fun ov s₁ => wpAny (model P0 w) A (getAttr ov name true) (fun f s₂ =>
   wpAny (model P0 w) A (callWith pos f [] (backTo pos (starEach args env)) (backToKw pos [(none, eval kw.value env)])) Q E s₂) E s₁) E s)
  (hk : kw.arg = none)
  (hb : attributeBase o name env (eval o env) = eval o env := by rfl) (hf : methodCallForm (args.length + 1) (backTo pos (starEach args env)) (backToKw pos [(none, eval kw.value env)]) = false := by rfl) :
  wpAny (model P0 w) A (eval (.Call (.Attribute o name apos) args [kw] pos) env) Q E s := by
 obtain ⟨ka, kv, kp⟩ := kw
 dsimp only at hk
 subst hk
 show wpAny _ _ (do let ov ← attributeBase o name env (eval o env); standAt apos.atName; methodCall o name apos pos env ov (args.length + 1) (backTo pos (starEach args env)) (backToKw pos [(none, eval kv env)])) _ _ _
 rw [hb]
 refine wpAny_bind (wpAny_mono h (fun ov s₁ h₁ => wpAny_bind (wpAny_standAt ?_)) fun Y Y z => z)
 unfold methodCall
 rw [hf]
 refine wpAny_bind (wpAny_holding ?_)
 refine wpAny_bind (wpAny_mono h₁ (fun fa s₂ h₂ => ?_) fun Y Y z => z)
 refine wpAny_pure ?_
 unfold methodCallPos
 exact wpAny_bind (ift_ (by rfl) (wpAny_pure h₂))
theorem cw_kw {f : Addr} {pos : Pos} {e : Expr} {kv : Expr} {Q : Value → Shared → Prop} (hk1 : (k == sysModules) = false) (he : starEach [e] env = [(false, eval e env)])
  (h : wpAny (model P0 w) A (eval e env) (fun v s₁ => wpAny (model P0 w) A (eval kv env) (fun u s₂ => u = .ref k ∧ s₂.heap.get? k = some dctO ∧ s₂.heap.get? s₁.heap.objs.size = some dctO ∧ Looks (model P0 w) s₂.heap (keeperOf (.ref f)) .boundFrame ∧ wpAny (model P0 w) A (call (.ref f) [v]) Q E s₂) E { s₁ with heap := s₁.heap.push dctO }) E s) :
  wpAny (model P0 w) A (callWith pos (.ref f) [] (backTo pos (starEach [e] env)) (backToKw pos [(none, eval kv env)])) Q E s := by
 rw [he]
 unfold callWith
 have key : wpAny (model P0 w) A (evalArgs (.ref f) true (backTo pos [(false, eval e env)]) (backToKw pos [(none, eval kv env)]))
   (fun a s₁ => ∃ v, a = ⟨[v], []⟩ ∧ Looks (model P0 w) s₁.heap (keeperOf (.ref f)) .boundFrame ∧ wpAny (model P0 w) A (call (.ref f) [v]) Q E s₁) E s := by
  unfold evalArgs
  show wpAny _ _ (spliced [(false, eval e env)] >>= _) _ _ _
  refine wpAny_bind (spliced_cons (wpAny_mono h (fun v s₁ h₁ => ?_) fun Y Y z => z))
  refine spliced_nil (wpAny_bind (wpAny_pure (wpAny_holding ?_)))
  refine iff_ (by rfl) ?_
  refine wpAny_bind (merged_kw (k := k) hk1 (wpAny_bind (wpAny_mono h₁ (fun u s₂ h₂ => wpAny_bind (wpAny_standAt (wpAny_pure ?_))) fun Y Y z => z)))
  obtain ⟨eu, e1, e2, e3, e4⟩ := h₂
  refine ⟨eu, e1, e2, ?_⟩
  refine wpAny_bind (wpAny_pure ?_)
  refine wpAny_bind (wpAny_holding ?_)
  unfold keywordsIn
  refine wpAny_bind (wpAny_dictEntries e2 rfl ?_)
  refine wpAny_bind (wpAny_pure (wpAny_pure ?_))
  exact wpAny_pure ⟨v, rfl, e3, e4⟩
 refine wpAny_bind (wpAny_holding (wpAny_mono key (fun a s₁ ⟨v, ea, hl, hc⟩ => wpAny_bind (wpAny_standAt ?_)) fun Y Y z => z))
 subst ea
 refine wpAny_bind (hl.here ?_)
 refine wpAny_bind (operate_wp (wpAny_mono hc (fun r s' hr => wpAny_bind (wpAny_holding (wpAny_point (wpAny_pure hr)))) fun Y Y z => z))
theorem keep_mth {f : Addr} {fo : Obj} {fd : FuncData} (hy : s.heap.get? y = some (mthO (.ref f) a)) (hf : s.heap.get? f = some fo) (hd : fo.data = .func fd) : Looks (model P0 w) s.heap (keeperOf (.ref y)) .boundFrame := by
 unfold keeperOf
 refine (Looks.ld (part := none) hy).andThen ?_
 refine (Looks.ld (part := none) hf).andThen ?_
 rw [hd]
 exact .now
end
set_option tactic.hygienic true in
theorem fn936 (P : Params) : ∃ o fd, (KH P).lookup 936 = some o ∧ o.data = .func fd := by
 have : (match (KH P).lookup 936 with | some ⟨_, _, .func _, _⟩ => true | _ => false) = true := by kernel_rfl
 split at this
 ·rename_i c d fd sl ho
  exact ⟨_, _, ho, rfl⟩
 ·cases this
section
variable {w : World} {B : Heap} {A : Around} {s : Shared} {a d b k m x y : Addr} {L S : List En} {ep ep' : Nat} {env : Env} {sc : Scope} {E : Value → Shared → Prop}
theorem mwi (G : Good w B s) (hR : Rm 300 A) (C : IsC s.heap a d L ep) (hy : s.heap.get? y = some (mwO "dict.__init__" a)) : Wp w A (call (.ref y) []) (fun v s' => v = .none ∧ Kp [] s s' ∧ s'.gens = s.gens) s :=
 hR.lv (wpAny_mono (mwi_run w s G.k a d ep y _ C.at_ hy) (fun v s' hx0 => by obtain ⟨news, e, D, h1, h2, h3⟩ := hx0; exact ⟨e, jax G D h2 h3 h1, h1⟩) fun Y Y z => z)
theorem init_gen {args : List Value} {v : Value} {n : Nat} {Post : Shared → Shared → Prop} (G : Good w B s) (hA : Rm n A) (hn : n < 285) (C : IsC s.heap a d [] 0)
  (hb : ∀ (Q : List (PySem.Str × Value) → Shared → Prop) (E : Value → Shared → Prop), Q [("self", .ref a), ("iterable", v), ("kwds", .ref s.heap.objs.size)] { s with heap := s.heap.push dctO } → wpAny (model P0 w) A.in1 (bindArgs (fdAt (KH w.params) 887) ⟨args, []⟩) Q E s)
  (hu : ∀ A' s', Rm (n + 2) A' → Good w B s' → IsC s'.heap a d [] 0 → Kp [] s s' → codeAny (model P0 w) A' (.call (.ref 936) ⟨[.ref a, v], []⟩) (fun r s'' => r = .ok (.ret .none) ∧ Post s' s'') s') :
  codeAny (model P0 w) A (.call (.ref 887) ⟨args, []⟩) (fun r s' => r = .ok (.ret .none) ∧ ∃ s1, Kp [] s s1 ∧ s1.gens = s.gens ∧ Post s1 s') s := by
 try (refine lC ?_; intro Ro)
 refine aG ?_; intro gO; obtain ⟨p1, p2, p3, q1, q2, q3, D, hsh⟩ := sh_init; unfold gO; clear gO
 have hk' : Kp [] s { s with heap := s.heap.push dctO } := jar G
 refine call_fnAt G hA (lq0 hn rfl) (fn_init _) (sc := jas (ctrS "__init__")) (sc_init _) (binds := [("self", .ref a), ("iterable", v), ("kwds", .ref s.heap.objs.size)]) hk' rfl
  hb (by kernel_rfl) fun env A' s1 O OC R1 hn1 fr K1 g1 => ?_
 have Gp := G.kp hk' al0
 have G1 := Gp.kp K1 al0
 have hkd : s1.heap.get? s.heap.objs.size = some dctO := K1.keep _ _ (Heap.get?_push_size _ rfl) rfl ni0
 have hks := G.sys (jag (s := s))
 have C1 := (C.kp hk' ni0 ni0).kp K1 ni0 ni0
 have e1 : ja2 (ctrS "__init__") = [inBody[0]!, inBody[1]!] := by kernel_rfl
 rw [e1]
 refine ks_wpAt_execs_cons (ks_wpAt_Expr_any (hi := noint O) ?_)
 refine at_meth (at_super G1 O OC C1 (R1.le (lq0 hn rfl)) (fn_init _) ((par_init _).trans hsh) (file_init _) (clo_init _) hn1 (by kernel_rfl) fun x s2 hx2 f2 K2 g2 => ?_)
 have G2 := G1.kp K2 al0
 have C2 := C1.kp K2 ni0 ni0
 have hn2 := jay hn1 K2 ni0
 refine jb6 hx2 ?_
 refine (jcv G2 C2 hx2 (R1.le (lq0 hn rfl))).useE1 fun y s3 hx0 => ?_
 refine aG ?_; intro gO; obtain ⟨hy3, K3, g3⟩ := hx0; unfold gO; clear gO
 have G3 := G2.kp K3 al0
 have C3 := C2.kp K3 ni0 ni0
 have hn3 := jay hn2 K3 ni0
 refine cw_mach (by rfl) (PyProof.Rows.evalArgs_empty ⟨keep_mw hy3, ?_⟩)
 refine (mwi G3 (R1.le (lq0 hn rfl)) C3 hy3).useE fun s4 hx0 => ?_
 obtain ⟨K4, g4⟩ := hx0
 have G4 := G3.kp K4 al0
 have C4 := C3.kp K4 ni0 ni0
 have hn4 := jay hn3 K4 ni0
 have K14 : Kp [] s1 s4 := (K2.trans (K3.trans K4)).mono al0
 refine ks_wpAt_execs_cons (ks_wpAt_Expr_any (hi := noint O) (wpAt_of_wpAny ?_))
 refine ev_methkw (jam O hn4 (v := .ref a) (by kernel_rfl) ?_) (by rfl)
 refine (getattr_update G4 C4 (R1.le (lq0 hn rfl))).useE1 fun y' s5 hx0 => ?_
 refine aG ?_; intro gO; obtain ⟨hy5, f5, K5, g5⟩ := hx0; unfold gO; clear gO
 have G5 := G4.kp K5 al0
 have C5 := C4.kp K5 ni0 ni0
 have hn5 := jay hn4 K5 ni0
 have K15 : Kp [] s1 s5 := (K14.trans K5).mono al0
 have hkd5 := K15.keep _ _ hkd rfl ni0
 refine cw_kw (k := s.heap.objs.size) hks (by rfl) (jam O hn5 (v := v) (by kernel_rfl) ?_)
 have K6 : Kp [] s5 { s5 with heap := s5.heap.push dctO } := jar G5
 have f6 : ({ s5 with heap := s5.heap.push dctO } : Shared).heap.get? s5.heap.objs.size = some dctO := Heap.get?_push_size _ rfl
 have g6 : ({ s5 with heap := s5.heap.push dctO } : Shared).gens = s5.gens := rfl
 generalize ({ s5 with heap := s5.heap.push dctO } : Shared) = s6 at K6 f6 g6 ⊢
 have G6 := G5.kp K6 al0
 have C6 := C5.kp K6 ni0 ni0
 have hn6 := jay hn5 K6 ni0
 have hy6 := K6.keep _ _ hy5 rfl ni0
 have hkd6 := K6.keep _ _ hkd5 rfl ni0
 refine aG ?_; intro gO; obtain ⟨fo, fd, hf1, hf2⟩ := fn936 w.params; unfold gO; clear gO
 have K06 : Kp [] s s6 := (hk'.trans (K1.trans (K15.trans K6))).mono al0
 refine jam O hn6 (v := .ref s.heap.objs.size) (by kernel_rfl) ⟨rfl, hkd6, f6, keep_mth hy6 (G6.k _ _ hf1) hf2, ?_⟩
 refine wpAny_call (method_call hy6 (coE (hu A' s6 (R1.le (Nat.le_succ _)) G6 C6 K06) fun s7 hp => ?_))
 try dsimp only
 exact at_nil ⟨rfl, s6, K06, g6.trans (g5.trans (g4.trans (g3.trans (g2.trans g1)))), hp⟩
end
section
variable {w : World} {B : Heap} {A : Around} {s : Shared} {a d b k m x y : Addr} {L S : List En} {ep ep' : Nat} {env : Env} {sc : Scope} {E : Value → Shared → Prop}
theorem ao0 : argsOk "type.__call__" ⟨[.ref 1093], []⟩ := by unfold argsOk; kernel_rfl
theorem ao1 (v : Value) : argsOk "type.__call__" ⟨[.ref 1093, v], []⟩ := by unfold argsOk; kernel_rfl
theorem newC (w : World) (B : Heap) : NewC w B := fun s A G hR => by
 refine call_type (n := 280) G hR (lqe rfl) ao0 fun a d s1 A' R1 C f1 f2 K1 g1 => ?_
 have G1 := G.kp K1 al0
 refine aG ?_; intro gO; obtain ⟨p1, p2, p3, q1, q2, q3, D, hsh⟩ := sh_init; unfold gO; clear gO
 refine wpAny_call (coE (init_gen (v := .none) (n := 281) (Post := fun s' s'' => Kp [] s' s'' ∧ s''.gens = s'.gens) G1 R1 (lqe rfl) C
  (fun Q E hq => bind_u0 ((par_init _).trans hsh) (df_init _) (G1.k _ _ (l879 _)) hq) fun A2 s2 R2 G2 C2 K2 => upd_none (n := 283) G2 R2 (lqe rfl)) fun s3 hx0 => ?_)
 refine aG ?_; intro gO; obtain ⟨s2, K2, g2, K3, g3⟩ := hx0; unfold gO; clear gO
 exact ⟨rfl, a, d, rfl, (C.kp K2 ni0 ni0).kp K3 ni0 ni0, f1, f2, ((K1.trans K2).trans K3).mono al0, g3.trans (g2.trans g1)⟩
theorem newD (G : Good w B s) (hR : Rm 280 A) (hb : s.heap.get? b = some (dicO S ep')) (hb1 : (b == sysModules) = false) (hz : S.length ≤ 8) (hnd : (S.map (·.1)).Nodup) (htp : ∀ e ∈ S, 0 ≤ e.2.1 ∧ 0 ≤ e.2.2.2) :
  Wp w A (call (.ref 1093) [.ref b]) (fun v s' => ∃ a d, v = .ref a ∧ IsC s'.heap a d S S.length ∧ s.heap.get? a = none ∧ s.heap.get? d = none ∧ Kp [] s s' ∧ s'.gens = s.gens) s := by
 try (refine lW ?_; intro Ro)
 refine call_type (n := 280) G hR (lqe rfl) (ao1 _) fun a d s1 A' R1 C f1 f2 K1 g1 => ?_
 have G1 := G.kp K1 al0
 refine aG ?_; intro gO; obtain ⟨p1, p2, p3, q1, q2, q3, D, hsh⟩ := sh_init; unfold gO; clear gO
 have hb2 := K1.keep _ _ hb rfl ni0
 refine wpAny_call (coE (init_gen (v := .ref b) (n := 281) (Post := fun s' s'' => IsC s''.heap a d S S.length ∧ Kp [a] s' s'' ∧ s''.gens = s'.gens) G1 R1 (lqe rfl) C
  (fun Q E hq => bind_u1 ((par_init _).trans hsh) (df_init _) (G1.k _ _ (l879 _)) hq) fun A2 s2 R2 G2 C2 K2 => upd_dict (n := 283) G2 R2 (lqe rfl) C2 (K2.keep _ _ hb2 rfl ni0) hb1 hz hnd htp) fun s3 hx0 => ?_)
 refine aG ?_; intro gO; obtain ⟨s2, K2, g2, C3, K3, g3⟩ := hx0; unfold gO; clear gO
 exact ⟨rfl, a, d, rfl, C3, f1, f2, (K1.trans K2 |>.mono (S' := []) al0).comp0 G K3 (al1 f1), g3.trans (g2.trans g1)⟩
end
noncomputable def jba (o : Obj) : Prop := o.cls ≠ .type "list" ∧ o.cls ≠ .type "dict" ∧ o.cls ≠ .ref 1093
structure KW (w : World) (B : Heap) (I : Addr) (fp : List Addr) (n : Nat) (P : Nat → Value → Prop) (St : Nat → Shared → Prop) : Prop where
 frame : ∀ i s s' S, St i s → Kp S s s' → (∀ a ∈ I :: fp, a ∉ S) → St i s'
 item : ∀ (A : Around) i s (Q : Option Value → Shared → Prop) (E : Value → Shared → Prop), A.handled = none → Good w B s → i < n → St i s →
  (∀ v s', P i v → St (i + 1) s' → Kp [I] s s' → s'.gens = s.gens → Q (some v) s') → wpAny (model P0 w) A (pyNext (.ref I)) Q E s
 done : ∀ (A : Around) s (Q : Option Value → Shared → Prop) (E : Value → Shared → Prop), A.handled = none → Good w B s → St n s →
  (∀ s', Kp [I] s s' → s'.gens = s.gens → Q none s') → wpAny (model P0 w) A (pyNext (.ref I)) Q E s
 self : ∀ (A : Around) i s (Q : Value → Shared → Prop) (E : Value → Shared → Prop), St i s → Q (.ref I) s → wpAny (model P0 w) A (pyIter (.ref I)) Q E s
 cl : ∀ i s, St i s → ∃ o, s.heap.get? I = some o ∧ jba o
theorem kh_two (P : Params) : ((KH P).lookup 2).map (fun o => o.cls) = some .none := by kernel_rfl
section
variable {w : World} {B : Heap} {A : Around} {s : Shared} {a d b k m x y : Addr} {L S : List En} {ep ep' : Nat} {env : Env} {sc : Scope} {E : Value → Shared → Prop}
theorem Good.not2 (G : Good w B s) {o : Obj} (h : s.heap.get? a = some o) (hc : o.cls ≠ .none) : a ≠ 2 := fun q => by
 obtain ⟨o', e, ho⟩ := Option.map_eq_some_iff.mp (kh_two w.params)
 have := G.k _ _ e
 rw [← q, h] at this
 cases this
 exact hc ho
theorem jau {o : Obj} (hc : o.cls ≠ .none) : tabby o = false := by
 obtain ⟨c, d, dt, sl⟩ := o
 unfold tabby
 cases c <;> first | rfl | exact absurd rfl hc
theorem list_kp {l : Addr} {xs : Array Value} {s' : Shared} {Sx : List Addr} (h : s.heap.IsList l xs) (k : Kp Sx s s') (n : l ∉ Sx) : s'.heap.IsList l xs := by
 obtain ⟨o, ho, hc, r⟩ := h
 exact ⟨o, k.keep _ _ ho (jau (by rw [hc]; simp)) n, hc, r⟩
theorem tup_kp {l : Addr} {xs : Array Value} {s' : Shared} {Sx : List Addr} (h : s.heap.IsTuple l xs) (k : Kp Sx s s') (n : l ∉ Sx) : s'.heap.IsTuple l xs := by
 obtain ⟨o, ho, hc, r⟩ := h
 exact ⟨o, k.keep _ _ ho (jau (by rw [hc]; simp)) n, hc, r⟩
theorem liter_kp {l : Addr} {i : Nat} {s' : Shared} {Sx : List Addr} (h : s.heap.IsListIter a l i) (k : Kp Sx s s') (n : a ∉ Sx) : s'.heap.IsListIter a l i := by
 obtain ⟨o, ho, hc, r⟩ := h
 exact ⟨o, k.keep _ _ ho (jau (by rw [hc]; simp)) n, hc, r⟩
theorem titer_kp {l : Addr} {i : Nat} {s' : Shared} {Sx : List Addr} (h : s.heap.IsTupleIter a l i) (k : Kp Sx s s') (n : a ∉ Sx) : s'.heap.IsTupleIter a l i := by
 obtain ⟨o, ho, hc, r⟩ := h
 exact ⟨o, k.keep _ _ ho (jau (by rw [hc]; simp)) n, hc, r⟩
theorem end_kp {it : Addr} {f : Obj → Obj} {o : Obj} {vs : Array Value} {s' : Shared} (G : Good w B s) (n2 : it ≠ 2) (hf : (f o).data = .fields vs) (ho : s.heap.get? it = some o)
  (k1 : ∀ b o, (s.heap.update it f).get? b = some o → s'.heap.get? b = some o) (k3 : s'.os = s.os) (k4 : s.toks ≤ s'.toks) (gb : s'.gens = s.gens := by assumption) : Kp [it] s s' := by
 have hb : Heap.SameBut it s.heap (s.heap.update it f) := Heap.SameBut.update ..
 have h1 := Heap.get?_update_self (h := s.heap) f ho (Obj.isFreed_of_fields hf)
 have x := jaz (s := s) hb n2 ⟨_, h1⟩ (Nat.le_refl s.toks)
 refine (x.trans (jat (s' := s') k1 ?_ k3 k4 gb)).mono sm0
 obtain ⟨o2, e2⟩ := G.two
 exact ⟨o2, (hb.2 2 (Ne.symm n2)).trans e2⟩
theorem list_end {it l : Addr} {i : Nat} {items : Array Value} {Q : Option Value → Shared → Prop} (G : Good w B s) (hh : A.handled = none)
  (hit : s.heap.IsListIter it l i) (hl : s.heap.IsList l items) (hx : items[i]? = none)
  (hq : ∀ s', Kp [it] s s' → s'.gens = s.gens → Q none s') : wpAny (model P0 w) A (pyNext (.ref it)) Q E s := by
 obtain ⟨o, ho, hc, hd⟩ := id hit
 obtain ⟨ol, hol, _, nl, hdl⟩ := hl
 have n2 := G.not2 ho (by rw [hc]; simp)
 unfold pyNext
 refine wpAny_bind (wpAny_attempt (wpAny_callSpecial?_slot (name := Str.ofString "__next__") hit.typeIs slot_listiter_next
  (wpAny_call_entry slot_listiter_next hit.typeIs entry_listiter_next ?_ (args_listiter_next _))))
 show wpAny _ _ (field (.ref it) 0 >>= _) _ _ s
 refine wpAny_bind (wpAny_field ho hd (x := .ref l) rfl ?_)
 show wpAny _ _ (if (Value.ref l == Value.none) = true then _ else _) _ _ s
 rw [if_neg (show ¬ ((Value.ref l == Value.none) = true) from Bool.false_ne_true)]
 show wpAny _ _ (field (.ref it) 1 >>= _) _ _ s
 refine wpAny_bind (wpAny_field ho hd (x := .int i 0) rfl ?_)
 show wpAny _ _ (seqItems? (.ref l) >>= _) _ _ s
 refine wpAny_bind (wpAny_seqItems hol hdl ?_)
 simp only [Int.toNat_natCast, hx]
 refine wpAny_bind (wpAny_rule (wpAny_bind (wpAny_setField ho hd (Nat.le_succ _) ?_)))
 refine jaT hh fun s' k1 k2 k3 k4 => hq s' ?_ k2
 exact end_kp G n2 (Obj.data_mapFields hd _) ho k1 k3 k4
theorem tuple_end {it l : Addr} {i : Nat} {items : Array Value} {Q : Option Value → Shared → Prop} (G : Good w B s) (hh : A.handled = none)
  (hit : s.heap.IsTupleIter it l i) (hl : s.heap.IsTuple l items) (hx : items[i]? = none)
  (hq : ∀ s', Kp [it] s s' → s'.gens = s.gens → Q none s') : wpAny (model P0 w) A (pyNext (.ref it)) Q E s := by
 obtain ⟨o, ho, hc, hd⟩ := id hit
 obtain ⟨ol, hol, _, nl, hdl⟩ := hl
 have n2 := G.not2 ho (by rw [hc]; simp)
 unfold pyNext
 refine wpAny_bind (wpAny_attempt (wpAny_callSpecial?_slot (name := Str.ofString "__next__") hit.typeIs F.slot_tuple_iterator_next
  (wpAny_call_entry F.slot_tuple_iterator_next hit.typeIs F.entry_tuple_iterator_next ?_ (F.args_tuple_iterator_next_1 _))))
 show wpAny _ _ (field (.ref it) 0 >>= _) _ _ s
 refine wpAny_bind (wpAny_field ho hd (x := .ref l) rfl ?_)
 show wpAny _ _ (if (Value.ref l == Value.none) = true then _ else _) _ _ s
 rw [if_neg (show ¬ ((Value.ref l == Value.none) = true) from Bool.false_ne_true)]
 show wpAny _ _ (field (.ref it) 1 >>= _) _ _ s
 refine wpAny_bind (wpAny_field ho hd (x := .int i 0) rfl ?_)
 show wpAny _ _ (seqItems? (.ref l) >>= _) _ _ s
 refine wpAny_bind (wpAny_seqItems hol hdl ?_)
 simp only [Int.toNat_natCast, hx]
 refine wpAny_bind (wpAny_rule (wpAny_bind (wpAny_setField ho hd (Nat.le_succ _) ?_)))
 refine jaT hh fun s' k1 k2 k3 k4 => hq s' ?_ k2
 exact end_kp G n2 (Obj.data_mapFields hd _) ho k1 k3 k4
theorem range_end {it : Addr} {x left step : Int} {Q : Option Value → Shared → Prop} (G : Good w B s) (hh : A.handled = none) (hit : IsRangeIter s.heap it x left step) (hleft : left ≤ 0)
  (hq : ∀ s', Kp [it] s s' → s'.gens = s.gens → Q none s') : wpAny (model P0 w) A (pyNext (.ref it)) Q E s := by
 have hT : s.TypeIs (.ref it) "range_iterator" := ⟨_, hit, rfl⟩
 have n2 := G.not2 hit ((fun h => Value.noConfusion h))
 unfold pyNext
 refine wpAny_bind (wpAny_attempt (wpAny_callSpecial?_slot (name := Str.ofString "__next__") hT F.slot_range_iterator_next
  (wpAny_call_entry F.slot_range_iterator_next hT F.entry_range_iterator_next ?_ (F.args_range_iterator_next_1 _))))
 show wpAny _ _ (field (.ref it) 0 >>= _) _ _ s
 refine wpAny_bind (wpAny_field hit rfl (x := rawInt x) rfl ?_)
 show wpAny _ _ (field (.ref it) 1 >>= _) _ _ s
 refine wpAny_bind (wpAny_field hit rfl (x := rawInt left) rfl ?_)
 show wpAny _ _ (field (.ref it) 2 >>= _) _ _ s
 refine wpAny_bind (wpAny_field hit rfl (x := rawInt step) rfl ?_)
 show wpAny _ _ (if left ≤ 0 then _ else _) _ _ s
 rw [if_pos hleft]
 refine wpAny_bind (wpAny_rule (wpAny_bind ?_))
 refine jaT hh fun s' k1 k2 k3 k4 => hq s' ?_ k2
 exact jat k1 G.two k3 k4 k2 |>.mono al0
end
local macro_rules | `(tactic| x_close) => `(tactic| (refine ⟨_, _, rfl, by assumption, ?m1, rfl, rfl, by ((try dsimp only); exact Nat.le_refl _)⟩; (case m1 => (repeat (first | exact List.Mem.head _ | refine List.Mem.tail _ ?_)))))
theorem iterc_run (w : World) (s : Shared) (KX : (KH w.params).In s.heap) (a d ep : Nat) (es : Array DictEntry) (ha : s.heap.get? a = some ⟨.ref 1093, some d, .dict es ep, #[]⟩) :
  wpAny (model P0 w) lv0 (call (.builtin "dict.__iter__") [.ref a]) (fun v s' => ∃ it news, v = .ref it ∧ Mem s.heap s'.heap [] news ∧ (it, (⟨.type "dict_keyiterator", none, .fields #[.ref a, .int 0 0, .int es.size 0, .int ep 0], #[]⟩ : Obj)) ∈ news ∧ s'.gens = s.gens ∧ s'.os = s.os ∧ s.toks ≤ s'.toks) (fun Y Y => False) s := by
 have f2 := kf2 KX; have f3 := kf3 KX; have f83 := kf83 KX; have f84 := kf84 KX; have f99 := kf99 KX; have f100 := jbJ KX; have f116 := jbI KX; have f117 := jbH KX; have f466 := jbG KX; have f467 := jb0 KX; have f470 := jbF KX; have f471 := jbE KX; have f893 := jbO KX; have f894 := jbN KX; have f1092 := jbf KX; have f1093 := jbe KX
 x_run
theorem c_iter (P : Params) : findIn (KH P) (.ref 1093) (PySem.Str.ofString "__iter__") = some (some (.builtin "dict.__iter__")) := by kernel_rfl
theorem bt_diter : fastBuiltinType "dict.__iter__" = pure (.type "wrapper_descriptor") := by kernel_rfl
theorem diter_wd {w : World} {h : Heap} : Looks (model P0 w) h (typeOf (.builtin "dict.__iter__")) (.type "wrapper_descriptor") := by
 refine jbo ?_
 exact bt_diter
structure Iter (w : World) (B : Heap) (s : Shared) (fp : List Addr) (n : Nat) (P : Nat → Value → Prop) (v : Value) (s' : Shared) : Prop where
 ex : ∃ I St, v = .ref I ∧ KW w B I fp n P St ∧ St 0 s' ∧ s.heap.get? I = none ∧ (∃ o, s'.heap.get? I = some o)
 al : ∀ b ∈ fp, ∃ o, s.heap.get? b = some o
 kp : Kp [] s s'
 gn : s'.gens = s.gens
section
variable {w : World} {B : Heap} {A : Around} {s : Shared} {a d b k m x y I l : Addr} {L S : List En} {ep ep' : Nat} {env : Env} {sc : Scope} {E : Value → Shared → Prop}
theorem KW.list {items : Array Value} (hne : l ≠ I) : KW w B I [l] items.size (fun i v => items[i]? = some v) (fun i s => s.heap.IsListIter I l i ∧ s.heap.IsList l items) where
 frame := fun i s s' S st k n => ⟨liter_kp st.1 k (n _ (List.mem_cons_self ..)), list_kp st.2 k (n _ (List.Mem.tail _ (List.Mem.head _)))⟩
 item := fun A i s Q E hh G hi st hq => by
  refine wpAny_pyNext_list_item st.1 st.2 (x := items[i]) (by simp [hi]) fun h' hit' hs' => ?_
  refine aG ?_; intro gO; obtain ⟨o, ho, hc, _⟩ := st.1; unfold gO; clear gO
  have ne2 := G.not2 ho (by rw [hc]; simp)
  exact hq _ _ (by simp [hi]) ⟨hit', st.2.extBut hs'.extBut hne⟩ (jaz (s := s) hs' ne2 (let ⟨o, ho, _⟩ := hit'; ⟨o, ho⟩) (Nat.le_refl _)) rfl
 done := fun A s Q E hh G st hq => list_end G hh st.1 st.2 (by simp) hq
 self := fun A i s Q E st hq => wpAny_pyIter_listiter st.1 hq
 cl := fun i s st => let ⟨o, ho, hc, _⟩ := st.1; ⟨o, ho, by unfold jba; rw [hc]; simp⟩
theorem KW.tuple {items : Array Value} (hne : l ≠ I) : KW w B I [l] items.size (fun i v => items[i]? = some v) (fun i s => s.heap.IsTupleIter I l i ∧ s.heap.IsTuple l items) where
 frame := fun i s s' S st k n => ⟨titer_kp st.1 k (n _ (List.mem_cons_self ..)), tup_kp st.2 k (n _ (List.Mem.tail _ (List.Mem.head _)))⟩
 item := fun A i s Q E hh G hi st hq => by
  refine wpAny_pyNext_tuple_item st.1 st.2 (x := items[i]) (by simp [hi]) fun h' hit' hs' => ?_
  refine aG ?_; intro gO; obtain ⟨o, ho, hc, _⟩ := st.1; unfold gO; clear gO
  have ne2 := G.not2 ho (by rw [hc]; simp)
  exact hq _ _ (by simp [hi]) ⟨hit', st.2.extBut hs'.extBut hne⟩ (jaz (s := s) hs' ne2 (let ⟨o, ho, _⟩ := hit'; ⟨o, ho⟩) (Nat.le_refl _)) rfl
 done := fun A s Q E hh G st hq => tuple_end G hh st.1 st.2 (by simp) hq
 self := fun A i s Q E st hq => wpAny_pyIter_tupleiter st.1 hq
 cl := fun i s st => let ⟨o, ho, hc, _⟩ := st.1; ⟨o, ho, by unfold jba; rw [hc]; simp⟩
theorem KW.range {a c : Int} {n : Nat} : KW w B I [] n (fun i v => ∃ t, 0 ≤ t ∧ v = .int (a + i * c) t) (fun i s => IsRangeIter s.heap I (a + i * c) ((n : Int) - i) c) where
 frame := fun i s s' S st k nn => k.keep _ _ st (jau ((fun h => Value.noConfusion h))) (nn _ (List.mem_cons_self ..))
 item := fun A i s Q E hh G hi st hq => by
  refine wpAny_pyNext_range_item st (by omega) fun h' hit' hs' => ?_
  have ne2 := G.not2 st ((fun h => Value.noConfusion h))
  refine hq _ _ ⟨_, Nat.zero_le _, rfl⟩ ?_ (jaz (s := s) hs' ne2 ⟨_, hit'⟩ (Nat.le_succ _)) rfl
  have e1 : (a + ((i + 1 : Nat) : Int) * c) = a + i * c + c := by push_cast; rw [Int.add_mul]; omega
  have e2 : ((n : Int) - ((i + 1 : Nat) : Int)) = (n : Int) - i - 1 := by push_cast; omega
  show IsRangeIter h' I _ _ c
  rw [e1, e2]
  exact hit'
 done := fun A s Q E hh G st hq => range_end G hh st (by omega) hq
 self := fun A i s Q E st hq => wpAny_pyIter_rangeiter st hq
 cl := fun i s st => ⟨_, st, by unfold jba; simp⟩
theorem kit_kp {i n : Nat} {s' : Shared} {Sx : List Addr} (h : s.heap.get? I = some (kitO a i n ep)) (k : Kp Sx s s') (nn : I ∉ Sx) : s'.heap.get? I = some (kitO a i n ep) :=
 k.keep _ _ h (jau (by simp [kitO])) nn
theorem ty_kit {i n : Nat} (hit : s.heap.get? I = some (kitO a i n ep)) : s.TypeIs (.ref I) "dict_keyiterator" := ⟨_, hit, rfl⟩
theorem iter_kit {i n : Nat} {Q : Value → Shared → Prop} (hit : s.heap.get? I = some (kitO a i n ep)) (h : Q (.ref I) s) : wpAny (model P0 w) A (pyIter (.ref I)) Q E s := by
 refine wpAny_pyIter_slot (ty_kit hit) F.slot_dict_keyiterator_iter (wpAny_call_entry F.slot_dict_keyiterator_iter (ty_kit hit) F.entry_dict_keyiterator_iter ?_ (F.args_dict_keyiterator_iter_1 _))
 show wpAny _ _ (ret (.ref I)) _ _ s
 exact wpAny_pure ⟨_, rfl, "dict_keyiterator", _, ty_kit hit, F.slot_dict_keyiterator_next.lookup, h⟩
theorem KW.keys (na : I ≠ a) (nd : I ≠ d) : KW w B I [a, d] L.length (fun i v => ∃ x, L[i]? = some x ∧ v = .int x.1 x.2.1) (fun i s => s.heap.get? I = some (kitO a i L.length ep) ∧ IsC s.heap a d L ep) where
 frame := fun i s s' S st k n => ⟨kit_kp st.1 k (n _ (List.mem_cons_self ..)), st.2.kp k (n _ (List.Mem.tail _ (List.Mem.head _))) (n _ (List.Mem.tail _ (List.Mem.tail _ (List.Mem.head _))))⟩
 item := fun A i s Q E hh G hi st hq => by
  have hx : L[i]? = some L[i] := List.getElem?_eq_getElem hi
  have ne2 := G.not2 st.1 (by simp [kitO])
  refine next_key st.1 st.2 hx fun h' h1 h2 => ?_
  have k := jaz (s := s) h2 ne2 ⟨_, h1⟩ (Nat.le_refl s.toks)
  exact hq _ _ ⟨_, hx, rfl⟩ ⟨h1, st.2.kp k (by simpa using Ne.symm na) (by simpa using Ne.symm nd)⟩ k rfl
 done := fun A s Q E hh G st hq => next_key_end G (G.not2 st.1 (by simp [kitO])) hh st.1 st.2 hq
 self := fun A i s Q E st hq => iter_kit st.1 hq
 cl := fun i s st => ⟨_, st.1, by unfold jba kitO; simp⟩
theorem jb9 {o : Obj} (h : s.heap.get? x = none) (e : s.heap.get? y = some o) : y ≠ x := fun q => by rw [q, h] at e; cases e
theorem jaD {items : Array Value} (G : Good w B s) (hl : s.heap.IsList l items) : Wp w A (pyIter (.ref l)) (fun v s' => Iter w B s [l] items.size (fun i v => items[i]? = some v) v s') s := by
 try (refine lW ?_; intro Ro)
 refine aG ?_; intro gO; obtain ⟨o, ho, _⟩ := id hl; unfold gO; clear gO
 refine wpAny_pyIter_list hl ⟨⟨_, _, rfl, KW.list (jb9 jag ho), ⟨⟨_, Heap.get?_push_size _ rfl, rfl, rfl⟩, hl.push _⟩, jag, ⟨_, Heap.get?_push_size _ rfl⟩⟩, by simpa using ⟨o, ho⟩, jar G, rfl⟩
theorem iter_tuple {items : Array Value} (G : Good w B s) (hl : s.heap.IsTuple l items) : Wp w A (pyIter (.ref l)) (fun v s' => Iter w B s [l] items.size (fun i v => items[i]? = some v) v s') s := by
 try (refine lW ?_; intro Ro)
 refine aG ?_; intro gO; obtain ⟨o, ho, r⟩ := id hl; unfold gO; clear gO
 refine wpAny_pyIter_tuple hl ⟨⟨_, _, rfl, KW.tuple (jb9 jag ho), ⟨⟨_, Heap.get?_push_size _ rfl, rfl, rfl⟩, ⟨o, Heap.get?_push_of_some _ ho, r⟩⟩, jag, ⟨_, Heap.get?_push_size _ rfl⟩⟩, by simpa using ⟨o, ho⟩, jar G, rfl⟩
theorem jaI {n : Nat} {t u v : Tok} (G : Good w B s) (hr : IsRange s.heap l 0 n 1 t u v) (hs : Builtin.Range.small 0 n 1 = true) (hz : Builtin.Range.rangeSize 0 n 1 = n) :
  Wp w A (pyIter (.ref l)) (fun v s' => Iter w B s [] n (fun i v => ∃ t, 0 ≤ t ∧ v = .int i t) v s') s := by
 try (refine lW ?_; intro Ro)
 refine wpAny_pyIter_range hr hs ?_
 rw [hz]
 have := KW.range (w := w) (B := B) (I := s.heap.objs.size) (a := 0) (c := 1) (n := n)
 simp only [Int.zero_add, Int.mul_one] at this
 exact ⟨⟨_, _, rfl, this, Heap.get?_push_size _ rfl, jag, ⟨_, Heap.get?_push_size _ rfl⟩⟩, by simp, jar G, rfl⟩
theorem pyIter_sp {v : Value} {id : String} {r : Value} {Q : Value → Shared → Prop} (h1 : Looks (model P0 w) s.heap (specialOf v "__iter__") (some (.builtin id))) (h2 : Looks (model P0 w) s.heap (typeOf (.builtin id)) (.type "wrapper_descriptor"))
  (hc : wpAny (model P0 w) A (call (.builtin id) [v]) (fun it s' => Looks (model P0 w) s'.heap (specialOf it "__next__") (some r) ∧ Q it s') E s) : wpAny (model P0 w) A (pyIter v) Q E s := by
 unfold pyIter
 refine wpAny_bind (h1.here ?_)
 show wpAny _ _ (callSpecialIfBoundUnlessNone? v "__iter__" _ >>= _) _ _ _
 have fin : ∀ refuse, wpAny (model P0 w) A (callSpecialIfBoundUnlessNone? v "__iter__" refuse) (fun o s' => ∃ it, o = some it ∧ Looks (model P0 w) s'.heap (specialOf it "__next__") (some r) ∧ Q it s') E s := fun refuse => by
  unfold callSpecialIfBoundUnlessNone? bindSpecialIfBound?
  refine wpAny_holding (wpAny_bind (wpAny_bind (h1.here ?_)))
  have hb : Looks (model P0 w) s.heap (bindSpecial (.builtin id) v) (.builtin id, [v]) := by
   unfold bindSpecial
   refine h2.andThen ?_
   rw [if_pos (by decide)]
   exact .now
  have hc2 : wpAny (model P0 w) A (if (Value.builtin id == Value.none) = true then (refuse >>= fun v => pure (some v)) else (call (.builtin id) [v] >>= fun v => pure (some v))) (fun o s' => ∃ it, o = some it ∧ Looks (model P0 w) s'.heap (specialOf it "__next__") (some r) ∧ Q it s') E s :=
   iff_ (by rfl) (wpAny_bind (wpAny_mono hc (fun it s' h' => wpAny_pure ⟨it, rfl, h'⟩) fun Y Y z => z))
  refine wpAny_bind (wpAny_askSetting (wpAny_ite ?_))
  split
  ·exact wpAny_bind (hb.here (wpAny_pure hc2))
  ·exact wpAny_tryCatch (wpAny_bind (hb.here (wpAny_pure hc2)))
 refine wpAny_bind (wpAny_mono (fin _) (fun o s' hx0 => ?_) fun Y Y z => z)
 refine aG ?_; intro gO; obtain ⟨it, eo, hl, hq⟩ := hx0; unfold gO; clear gO
 subst eo
 exact wpAny_bind (hl.here (wpAny_pure hq))
theorem tl_kit_next : fastLookup "dict_keyiterator" (PySem.Str.ofString "__next__") = some (some (.builtin "dict_keyiterator.__next__")) := by kernel_rfl
theorem iter_ctr (G : Good w B s) (C : IsC s.heap a d L ep) (hR : Rm 300 A) : Wp w A (pyIter (.ref a)) (fun v s' => Iter w B s [a, d] L.length (fun i v => ∃ x, L[i]? = some x ∧ v = .int x.1 x.2.1) v s') s := by
 try (refine lW ?_; intro Ro)
 refine pyIter_sp (id := "dict.__iter__") (r := .builtin "dict_keyiterator.__next__") (C.spec G (c_iter _)) diter_wd ?_
 refine Wp.useE2 (hR.lv (iterc_run w s G.k a d ep _ C.at_)) fun it news s' hx0 => ?_
 refine aG ?_; intro gO; obtain ⟨D, hm, h1, h2, h3⟩ := hx0; unfold gO; clear gO
 have K := jax G D h2 h3 h1
 have e1 : s'.heap.get? it = some (kitO a 0 L.length ep) := by simpa [kitO] using (D.nw _ hm).1
 have f1 := (D.nw _ hm).2
 refine ⟨?_, ⟨it, _, rfl, KW.keys (Ne.symm (jb9 f1 C.at_)) (Ne.symm (jb9 f1 C.ow)), ⟨e1, C.kp K ni0 ni0⟩, f1, ⟨_, e1⟩⟩, ?_, K, h1⟩
 ·refine Looks.andThen (a := .type "dict_keyiterator") ((Looks.ld (part := some headPart) e1).andThen .now) ?_
  exact jaL (T := "dict_keyiterator") tl_kit_next
 ·intro b hb
  rcases List.mem_cons.mp hb with rfl | hb
  ·exact ⟨_, C.at_⟩
  ·cases List.mem_singleton.mp hb; exact ⟨_, C.ow⟩
end
theorem Tb.grow {h h' : Heap} {c P : Addr} {ps more : Array Value} (x : Tb h) (ht : h.TableAt c P ps) (hc : h'.IsCode c P (ps ++ more)) (ht' : h'.TableAt c P (ps ++ more)) (hx : Heap.ExtBut P h h') : Tb h' := fun c2 m2 => by
 refine aG ?_; intro gO; obtain ⟨P2, ps2, n2, a2, b2⟩ := x c2 m2; unfold gO; clear gO
 have nc : c2 ≠ P := fun q => by
  refine aG ?_; intro gO; obtain ⟨⟨o, vs, e1, e2, e3, e4⟩, e5⟩ := b2; unfold gO; clear gO
  have := ht.2
  rw [← q, e1] at this
  cases this
  cases e2
 by_cases q : P2 = P
 ·subst q
  refine aG ?_; intro gO; obtain ⟨o2, vs2, file, tf, flags, tg, inF, text, tt, op, y1, r1, r2, r3, r4, r5, r6, y2, r7, r8, r9⟩ := a2; unfold gO; clear gO
  refine aG ?_; intro gO; obtain ⟨o3, vs3, file', tf', flags', tg', inF', text', tt', op', z1, q1, q2, q3, q4, q5, q6, z2, q7, q8, q9⟩ := hc; unfold gO; clear gO
  refine aG ?_; intro gO; obtain ⟨⟨o, vs, e1, e2, e3, e4⟩, e5⟩ := b2; unfold gO; clear gO
  exact ⟨P2, _, n2, ⟨o2, vs2, file, tf, flags, tg, inF, text, tt, op', hx _ _ nc y1, r1, r2, r3, r4, r5, r6, z2, q7, q8, r9⟩, ⟨⟨o, vs, hx _ _ nc e1, e2, e3, e4⟩, ht'.2⟩⟩
 ·exact ⟨P2, ps2, n2, a2.extBut hx nc q, b2.extBut hx nc q⟩
section
variable {w : World} {B : Heap} {A : Around} {s : Shared} {a d b c k m x y I l : Addr} {L S : List En} {ep ep' : Nat} {env : Env} {sc : Scope} {E : Value → Shared → Prop}
theorem genCode {pos : Pos} {q : Str} {scope : Scope} (G : Good w B s) (hc : env.code = .ref c) (hm : c ∈ gcodes) : Wp w A (genexprCode env pos q scope) (fun Y s' => Kp [] s s' ∧ s'.gens = s.gens) s := by
 try (refine lW ?_; intro Ro)
 refine aG ?_; intro gO; obtain ⟨P, ps, n, hok, htab⟩ := G.old.th c hm; unfold gO; clear gO
 cases hn : codeAmong pos ps.toList with
 | some cv =>
  refine aG ?_; intro gO; obtain ⟨o, vs, file, tf, flags, tg, inF, text, tt, op, ho, hd, h11, h2, h7, h9, h10, hop, hpd, htr, hne⟩ := id hok; unfold gO; clear gO
  unfold genexprCode codeAt
  rw [hc, if_neg (show ¬ ((Value.ref c == Value.none) = true) from Bool.false_ne_true)]
  refine wpAny_bind (wpAny_fieldsOf ho hd ?_)
  rw [h11]
  refine wpAny_bind (wpAny_fieldsOf hop hpd ?_)
  rw [hn]
  exact wpAny_pure ⟨(Kp.refl s).mono al0, rfl⟩
 | none =>
  refine wpAny_with_toks (Nat.le_refl s.toks) (wpAny_genexprCodeX hc hok htab hn fun c' h' tk hx Y Y hok' Y htab' Y htk => ⟨⟨fun b o e ht Y => ?_, fun b o e => ?_, fun B' Y OT => ?_, fun Y => ?_, rfl, htk, id⟩, rfl⟩)
  ·refine hx b o (fun q => ?_) e
   rw [q, htab.2] at e
   cases e
   cases ht
  ·by_cases q : b = P
   ·exact ⟨_, q ▸ htab'.2⟩
   ·exact ⟨o, hx b o q e⟩
  ·refine aG ?_; intro gO; obtain ⟨P0, ps0, n0, a0, b0⟩ := OT.tb c hm; unfold gO; clear gO
   have hp : P0 = P := by
    refine aG ?_; intro gO; obtain ⟨⟨o', vs', d1, d2, d3, d4⟩, _⟩ := b0; unfold gO; clear gO
    refine aG ?_; intro gO; obtain ⟨⟨o, vs, e1, e2, e3, e4⟩, _⟩ := htab; unfold gO; clear gO
    have := OT.ok.get_of_cls d1 (by rw [d2]; simp)
    rw [e1] at this
    cases this
    rw [e3] at d3
    cases d3
    rw [e4] at d4
    cases d4
    rfl
   subst hp
   exact ⟨OT.tb, OT.ok.step_table b0 htab htab' hx n, OT.th.grow htab hok' htab' hx⟩
  ·obtain ⟨o, e⟩ := G.two
   exact (hx 2 o (Ne.symm n) e).trans e.symm
end
theorem peek_bi (P : Params) : peek (KH P) ⟨P0, P⟩ (builtinsFor 3 0) = some 0 := by kernel_rfl
section
variable {w : World} {B : Heap} {A : Around} {s : Shared} {a d b c k m x y I l : Addr} {L S : List En} {ep ep' : Nat} {env : Env} {sc : Scope} {E : Value → Shared → Prop}
theorem Kp.comp {W S : List Addr} {s0 s1 s2 : Shared} (G : Good w B s0) (x : Kp W s0 s1) (y : Kp S s1 s2) (hS : ∀ a ∈ S, a ∈ W ∨ s0.heap.get? a = none) : Kp W s0 s2 where
 keep b o h hc hb := y.keep b o (x.keep b o h hc hb) hc fun m => by
  rcases hS _ m with q | q
  ·exact hb q
  ·rw [h] at q; cases q
 there b o h := by obtain ⟨o', h'⟩ := x.there b o h; exact y.there b o' h'
 old B' hB O := y.old B' (fun a m => by
  rcases hS _ m with q | q
  ·exact hB _ q
  ·cases e : B'.get? a with
   | none => rfl
   | some o => obtain ⟨o', e'⟩ := O.there _ _ e; rw [q] at e'; cases e') (x.old B' hB O)
 stat h := (y.stat fun m => by
  rcases hS _ m with q | q
  ·exact h q
  ·obtain ⟨o, e⟩ := G.two; rw [q] at e; cases e).trans (x.stat h)
 os := y.os.trans x.os
 tk := Nat.le_trans x.tk y.tk
 gb h := y.gb (x.gb h)
noncomputable def ge2 (elt i1 : Expr) (x1 : Str) (p1 : Pos) (x2 : Str) (p2 p3 : Pos) (scope : Scope) (pos : Pos) : Expr := .GeneratorExp elt [⟨.Name x1 p1, i1, [], 0⟩, ⟨.Name x2 p2, .Name x1 p3, [], 0⟩] scope pos
theorem eval_ge2 {elt i1 : Expr} {x1 x2 : Str} {p1 p2 p3 : Pos} {scope : Scope} {pos : Pos} (hco : scope.isCoroutine = false) :
  eval (ge2 elt i1 x1 p1 x2 p2 p3 scope pos) env = (do
   let x ← eval i1 env
   standAt i1.pos
   let x ← genFold i1 env x
   let it ← holding [x] (pyIter x)
   enterFrame
   let cl ← closureFor scope env
   let code ← genexprCode env pos (env.qual ++ "<genexpr>") scope
   let bi ← builtinsFor env.globals env.builtins
   let cenv ← newFunctionEnv scope env.globals cl [(".0", it)] (env.qual ++ "<genexpr>.") none code none bi
   newGenerator (.compStart (ge2 elt i1 x1 p1 x2 p2 p3 scope pos) 0 it .none cenv) "<genexpr>" (env.qual ++ "<genexpr>")) := by
 unfold ge2
 rw [arm_eval_GeneratorExp]
 simp only [hco, Bool.false_eq_true, if_false]
 cases i1 <;> rfl
theorem gen2_make {elt i1 : Expr} {x1 x2 : Str} {p1 p2 p3 : Pos} {scope : Scope} {cl : List (Str × Addr)} {pos : Pos} {Q : Value → Shared → Prop} {n : Nat} (O : EnvOk env sc) (hA : Rm n A) (hn : n < 600) (hc : env.code = .ref c) (hm : c ∈ gcodes)
  (hco : scope.isCoroutine = false) (hclos : closureFor scope env = pure cl) (hcell : ∀ y ∈ scope.names, y.2 ≠ .cell) (h0 : scope.names.lookup (".0" : Str) = some NameKind.local) (hkind : scope.kind = .function)
  (h : wpAny (model P0 w) A (eval i1 env) (fun xv s₁ => wpAny (model P0 w) A (pyIter xv) (fun it s₂ => Good w B s₂ ∧ ∀ code C ga s', s'.gens = s₂.gens.push (.fresh (.compStart (ge2 elt i1 x1 p1 x2 p2 p3 scope pos) 0 it .none (genEnv scope cl C code 0 env))) →
    s'.heap.IsGen ga s₂.gens.size → s'.heap.Ns C (fun y => if y = ".0" then some it else none) → Kp [] s₂ s' → s₂.heap.get? C = none → s₂.heap.get? ga = none → C ≠ ga → Q (.ref ga) s') E s₁) E s)
  (hs : ∀ x, genFold i1 env x = pure x) :
  wpAny (model P0 w) A (eval (ge2 elt i1 x1 p1 x2 p2 p3 scope pos) env) Q E s := by
 rw [eval_ge2 hco, hclos]
 refine wpAny_bind (wpAny_mono h (fun xv s₁ h₁ => ?_) fun Y Y e => e)
 refine wpAny_bind (wpAny_standAt ?_)
 refine wpAny_bind (wpAny_of_eq (hs xv) ?_)
 refine wpAny_bind (wpAny_holding (wpAny_mono h₁ (fun it s₂ hx0 => ?_) fun Y Y e => e))
 obtain ⟨G2, h₂⟩ := hx0
 have hroom : A.depth < recursionLimit := Nat.lt_of_le_of_lt hA.2.1 (Nat.lt_of_lt_of_le (Nat.add_lt_add_right hn 310) (by decide))
 refine wpAny_bind (wpAny_enterFrame (jb7 G2.k) hroom ?_)
 refine wpAny_bind (wpAny_pure ?_)
 refine wpAny_bind ((genCode G2 hc hm).use fun code s₃ hx0 => ?_)
 obtain ⟨K3, g3⟩ := hx0
 have G3 := G2.kp K3 al0
 have LB : Looks (model P0 w) s₃.heap (builtinsFor env.globals env.builtins) 0 := by
  rw [O.gl, O.bu]
  exact Looks.of_peek G3.k (peek_bi _)
 refine wpAny_bind (LB.here ?_)
 have hbinds : ∀ y ∈ ([((".0" : Str), it)] : List (Str × Value)), scope.names.lookup y.1 = some NameKind.local := by
  intro y hy
  rcases List.mem_cons.mp hy with rfl | hy
  ·exact h0
  ·cases hy
 refine wpAny_bind (wpAny_newFunctionEnv hcell hbinds (fun h' hn' hs' => ?_) hkind)
 have e : (fun y : Str => ([((".0" : Str), it)] : List (Str × Value)).reverse.lookup y) = fun y : Str => if y = (".0" : Str) then some it else none := by
  funext y
  by_cases hy : y = ".0"
  ·subst hy; simp
  ·have : (y == (".0" : Str)) = false := by simpa using hy
   simp [List.lookup, this, hy]
 rw [e] at hn'
 simp only [newGenerator, newFields]
 refine wpAny_bind (wpAny_newGen (wpAny_bind (wpAny_mkText (wpAny_bind (wpAny_mkText (wpAny_newObj_type ?_ (by size_fits)))))))
 have up : ∀ b o, s₃.heap.get? b = some o → (h'.push { cls := .type "generator", data := .fields #[.int s₃.gens.size 0, .str "<genexpr>" (s₃.toks + 1), .str (env.qual ++ "<genexpr>") (s₃.toks + 1 + 1)] }).get? b = some o :=
  fun b o e => Heap.get?_push_of_some _ (hs'.extBut b o (Nat.ne_of_lt (Heap.lt_size e)) (Heap.get?_push_of_some _ e))
 have hsz : h'.objs.size = s₃.heap.objs.size + 1 := by rw [hs'.1, Heap.size_push]
 have f1 : s₃.heap.get? h'.objs.size = none := by
  cases e : s₃.heap.get? h'.objs.size with
  | none => rfl
  | some o =>
   have h1 : h'.objs.size < s₃.heap.objs.size := Heap.lt_size e
   rw [hsz] at h1
   exact absurd h1 (Nat.not_lt.mpr (Nat.le_succ _))
 refine h₂ code s₃.heap.objs.size h'.objs.size _ (by rw [← g3]; rfl) ?_ (hn'.push _) ?_ (K3.back jag) (K3.back f1) (by rw [hsz]; exact Nat.ne_of_lt (Nat.lt_succ_self _))
 ·rw [← g3]
  exact ⟨_, _, _, Heap.get?_push_size _ rfl, rfl, rfl, rfl⟩
 ·refine K3.comp0 G2 (S := []) ⟨fun b o e Y Y => up b o e, fun b o e => ⟨o, up b o e⟩, fun B' Y OT => OT.step_keeps up, fun Y => ?_, rfl, ?_, ?_⟩ al0
  ·obtain ⟨o, e⟩ := G3.two
   exact (up 2 o e).trans e.symm
  ·show s₃.toks ≤ _ + 1 + 1
   simp
   omega
  ·intro hb y hy
   rcases Array.mem_push.mp hy with hy | rfl
   ·exact hb y hy
   ·rfl
end
section
variable {elt i1 : Expr} {x1 x2 : Str} {p1 p2 p3 : Pos} {scope : Scope} {pos : Pos}
theorem turn0 (it acc : Value) (env : Env) : compTurn (ge2 elt i1 x1 p1 x2 p2 p3 scope pos) 0 it acc env = (do
   standAt i1.pos
   match ← pyNext it with
   | none => pure (.done .next)
   | some v =>
    letOwnedTupleGo (.Name x1 p1) it v
    assign (.Name x1 p1) env v
    let x ← eval (.Name x1 p3) env
    standAt (Expr.Name x1 p3).pos
    let x ← foldedSetIterable (.Name x1 p3) env x
    let _ ← runOwn (.compStart (ge2 elt i1 x1 p1 x2 p2 p3 scope pos) 1 (← holding [x] (pyIter x)) acc env) env
    again (.compLoop (ge2 elt i1 x1 p1 x2 p2 p3 scope pos) 0 it acc env)) := by rfl
theorem turn1 (it acc : Value) (env : Env) : compTurn (ge2 elt i1 x1 p1 x2 p2 p3 scope pos) 1 it acc env = (do
   standAt (Expr.Name x1 p3).pos
   match ← pyNext it with
   | none => pure (.done .next)
   | some v =>
    letOwnedTupleGo (.Name x2 p2) it v
    assign (.Name x2 p2) env v
    (do let v ← eval elt env; standAt elt.pos; let _ ← yieldOut env v)
    again (.compLoop (ge2 elt i1 x1 p1 x2 p2 p3 scope pos) 1 it acc env)) := by rfl
end
structure G2 (w : World) (B : Heap) (sb : Shared) (C I0 : Addr) (ctr : Nat → Addr × Addr × List En × Nat) (n0 : Nat) (ks : List Int) (off : Nat → Nat) (fp0 : List Addr) (St0 : Nat → Shared → Prop) (cenv : Env) (x1 x2 : Str) (elt : Expr) (test : Int → Bool) (nn : Nat) : Prop where
 hB : ∀ a ∈ [C, I0], B.get? a = none
 g : Good w B sb
 ct : ∀ i < n0, IsC sb.heap (ctr i).1 (ctr i).2.1 (ctr i).2.2.1 (ctr i).2.2.2
 nC : ∀ i < n0, (ctr i).1 ∉ [C, I0] ∧ (ctr i).2.1 ∉ [C, I0]
 offS : ∀ i < n0, off (i + 1) = off i + (ctr i).2.2.1.length
 offN : off n0 = ks.length
 offL : ∀ i ≤ n0, off i ≤ ks.length
 hk : ∀ i < n0, ∀ (j : Nat) (x : En), (ctr i).2.2.1[j]? = some x → ks[off i + j]? = some x.1
 W0 : KW w B I0 fp0 n0 (fun i v => v = .ref (ctr i).1) St0
 nf : ∀ b ∈ fp0, b ≠ C ∧ b ≠ I0 ∧ ∃ o, sb.heap.get? b = some o
 hx1 : cenv.kindOf x1 = some .local
 hx2 : cenv.kindOf x2 = some .local
 fk : cenv.scope.kind = .function
 hco : cenv.scope.isCoroutine = false
 hl : cenv.locals = C
 ne : I0 ≠ C
 lC : ∃ o, sb.heap.get? C = some o
 lI : ∃ o, sb.heap.get? I0 = some o
 dx : (x1 == ("__debug__" : Str)) = false
 el : ∀ (A' : Around) s (m : Str → Option Value) k t, Rm nn A' → Kp [C, I0] sb s → s.heap.Ns C m → m x2 = some (.int k t) → Wp w A' (eval elt cenv) (fun v s' => v = .bool (test k) ∧ Kp [] s s' ∧ s'.gens = s.gens) s
noncomputable def g2Y (sb : Shared) (C I0 : Addr) (ks : List Int) (test : Int → Bool) : Protocol := fun m s₀ v s kap =>
 (∃ k, ks[ks.length - 1 - m]? = some k ∧ v = .bool (test k)) ∧ Kp [C, I0] sb s ∧ s.gens = s₀.gens ∧ ∀ s'' : Shared, Kp [] s s'' → kap (.send .none) s''
noncomputable def g2R (sb : Shared) (C I0 : Addr) : GenEnd := fun n s₀ r s₁ => r = .ok .next ∧ n = 0 ∧ Kp [C, I0] sb s₁ ∧ s₁.gens = s₀.gens
section
variable {w : World} {B : Heap} {A : Around} {sb : Shared} {C I0 it : Addr} {ctr : Nat → Addr × Addr × List En × Nat} {n0 : Nat} {ks : List Int} {off : Nat → Nat} {fp0 : List Addr} {St0 : Nat → Shared → Prop} {cenv : Env} {x1 x2 : Str} {elt i1 : Expr} {test : Int → Bool} {nn : Nat}
 {p1 p2 p3 : Pos} {scope : Scope} {pos : Pos}
theorem G2.good (H : G2 w B sb C I0 ctr n0 ks off fp0 St0 cenv x1 x2 elt test nn) {s : Shared} (k : Kp [C, I0] sb s) : Good w B s := H.g.kp k H.hB
theorem lsub {n a m : Nat} (h : n - a = m + 1) : n - 1 - m = a := by
 rw [(Nat.sub_eq_iff_eq_add (Nat.le_of_lt (Nat.lt_of_sub_eq_succ h))).mp h, Nat.sub_sub, Nat.add_comm 1 m, Nat.add_sub_cancel_left]
theorem seg_in (H : G2 w B sb C I0 ctr n0 ks off fp0 St0 cenv x1 x2 elt test nn) {i : Nat} (hi : i < n0) {fs : List Frame} (hfs : splitAtGen fs = none) (hfg : fs.any Frame.guarded = false)
  (hR : Rm nn (A.over (.compLoop (ge2 elt i1 x1 p1 x2 p2 p3 scope pos) 1 (.ref it) .none cenv) fs)) {St1 : Nat → Shared → Prop}
  (W1 : KW w B it [(ctr i).1, (ctr i).2.1] (ctr i).2.2.1.length (fun j v => ∃ x, (ctr i).2.2.1[j]? = some x ∧ v = .int x.1 x.2.1) St1) (nit : sb.heap.get? it = none) (n2 : it ≠ C)
  (fin : ∀ s₀ s m, Kp [C, I0] sb s → s.gens = s₀.gens → St0 (i + 1) s → s.heap.Ns C m → Seg (model P0 w) A (g2R sb C I0) (g2Y sb C I0 ks test) (ks.length - off (i + 1)) s₀ (.compLoop (ge2 elt i1 x1 p1 x2 p2 p3 scope pos) 1 (.ref it) .none cenv) (.pure (.done .next)) fs s) :
  ∀ k j s₀ s m, (ctr i).2.2.1.length - j = k → j ≤ (ctr i).2.2.1.length → Kp [C, I0] sb s → s.gens = s₀.gens → St0 (i + 1) s → St1 j s → s.heap.Ns C m →
   Seg (model P0 w) A (g2R sb C I0) (g2Y sb C I0 ks test) (ks.length - (off i + j)) s₀ (.compLoop (ge2 elt i1 x1 p1 x2 p2 p3 scope pos) 1 (.ref it) .none cenv)
    ((model P0 w).den (.compLoop (ge2 elt i1 x1 p1 x2 p2 p3 scope pos) 1 (.ref it) .none cenv)) fs s := by
 have hh := hR.1
 have hoL := H.offL (i + 1) hi
 have hoS := H.offS i hi
 have nI0 : it ≠ I0 := fun q => by obtain ⟨o, e⟩ := H.lI; rw [← q, nit] at e; cases e
 have hit : ∀ a ∈ [it], a ∈ [C, I0] ∨ sb.heap.get? a = none := by simpa using .inr nit
 have f0 : ∀ a ∈ I0 :: fp0, a ∉ [it] := by
  intro a ha q
  cases List.mem_singleton.mp q
  rcases List.mem_cons.mp ha with q | q
  ·exact nI0 q
  ·obtain ⟨_, _, o, e⟩ := H.nf _ q; rw [nit] at e; cases e
 have f0C : ∀ a ∈ I0 :: fp0, a ∉ [C] := by
  intro a ha q
  cases List.mem_singleton.mp q
  rcases List.mem_cons.mp ha with q | q
  ·exact H.ne q.symm
  ·exact (H.nf _ q).1 rfl
 have f1C : ∀ a ∈ it :: [(ctr i).1, (ctr i).2.1], a ∉ [C] := by
  intro a ha q
  cases List.mem_singleton.mp q
  obtain ⟨h1, h2⟩ := H.nC i hi
  rcases List.mem_cons.mp ha with q | q
  ·exact n2 q.symm
  ·rcases List.mem_cons.mp q with q | q
   ·exact h1 (by rw [← q]; simp)
   ·cases List.mem_singleton.mp q; exact h2 (List.mem_cons_self ..)
 have hpl : (cenv.scope.kind == .class || (cenv.scope.kind == .module && cenv.locals != cenv.globals)) = false := by rw [H.fk]; rfl
 intro k
 induction k with
 | zero =>
  intro j s₀ s m hk hj K0 g0 h0 h1 hn
  have hj' : j = (ctr i).2.2.1.length := by exact lqq ‹_› ‹_›
  subst hj'
  have G := H.good K0
  show Seg _ A _ _ _ s₀ _ ((compTurn (ge2 elt i1 x1 p1 x2 p2 p3 scope pos) 1 (.ref it) .none cenv).onRaise (fun x => do noteFrame x cenv; theTreesLotGoes x)) fs s
  rw [turn1, Sem.onRaise_eq_wrap]
  refine seg_bind_wrap (wpAny_standAt ?_)
  refine seg_bind_wrap (W1.done _ s _ _ hh G h1 fun s' k' g' => ?_)
  rw [← hoS]
  exact fin s₀ s' m (K0.comp H.g k' hit) (g'.trans g0) (H.W0.frame _ _ _ _ h0 k' f0) (jay hn k' (by simpa using Ne.symm n2))
 | succ k ih =>
  intro j s₀ s m hk hj K0 g0 h0 h1 hn
  have hlt : j < (ctr i).2.2.1.length := by exact lqr ‹_›
  have G := H.good K0
  show Seg _ A _ _ _ s₀ _ ((compTurn (ge2 elt i1 x1 p1 x2 p2 p3 scope pos) 1 (.ref it) .none cenv).onRaise (fun x => do noteFrame x cenv; theTreesLotGoes x)) fs s
  rw [turn1, Sem.onRaise_eq_wrap]
  refine seg_bind_wrap (wpAny_standAt ?_)
  refine seg_bind_wrap (W1.item _ j s _ _ hh G hlt h1 fun v s1 ⟨x, hx, ev⟩ h1' k1 g1 => ?_)
  subst ev
  have K1 := K0.comp H.g k1 hit
  have h01 := H.W0.frame _ _ _ _ h0 k1 f0
  have hn1 := jay hn k1 (by simpa using Ne.symm n2)
  refine seg_bind_wrap (wpAny_of_eq (rfl : letOwnedTupleGo (.Name x2 p2) (.ref it) (.int x.1 x.2.1) = pure ()) ?_)
  have hn1' : s1.heap.Ns cenv.locals m := by rw [H.hl]; exact hn1
  refine seg_bind_wrap (wpAny_assign_Name (wpAny_storeName_local H.hx2 hn1' (fun h₂ hn₂ hs₂ => ?_) hpl))
  rw [H.hl] at hn₂ hs₂
  have hC2 : C ≠ 2 := jaP H.g (H.hB C (List.mem_cons_self ..))
  have k2 : Kp [C] s1 { s1 with heap := h₂, toks := s1.toks + 1 } := jaz (s := s1) hs₂ hC2 (by obtain ⟨o, _, _, ho, _⟩ := hn₂; exact ⟨o, ho⟩) (Nat.le_succ _)
  have g2 : ({ s1 with heap := h₂, toks := s1.toks + 1 } : Shared).gens = s1.gens := rfl
  have hn2 : ({ s1 with heap := h₂, toks := s1.toks + 1 } : Shared).heap.Ns C (fun y => if y = x2 then some (.int x.1 x.2.1) else m y) := hn₂
  generalize ({ s1 with heap := h₂, toks := s1.toks + 1 } : Shared) = s2 at k2 g2 hn2
  have K2 := K1.comp H.g k2 (by simp)
  have h02 := H.W0.frame _ _ _ _ h01 k2 f0C
  have h12 := W1.frame _ _ _ _ h1' k2 f1C
  obtain ⟨mm, hmm⟩ : ∃ mm, ks.length - (off i + j) = mm + 1 := ⟨_, (Nat.sub_add_cancel (Nat.sub_pos_of_lt (Nat.lt_of_lt_of_le (Nat.add_lt_add_left hlt _) (hoS ▸ hoL)))).symm⟩
  rw [hmm]
  have hy : ∀ v, yieldOut cenv v = yieldValue v := fun v => by simp only [yieldOut, H.hco, Bool.false_eq_true, if_false]
  simp only [hy]
  rw [Sem.bind_eq_wrap', Sem.bind_eq_wrap', Sem.wrap_wrap, Sem.wrap_wrap]
  refine seg_wrap (wpAny_mono (H.el _ s2 _ x.1 x.2.1 hR K2 hn2 (if_pos rfl)) (fun y s3 hx0 => ?_) fun Y Y e => e.elim)
  obtain ⟨ey, k3, g3⟩ := hx0
  have K3 := K2.comp H.g k3 al0
  refine seg_at (seg_yield hfs rfl hfg ⟨⟨x.1, ?_, ey⟩, K3, g3.trans (g2.trans (g1.trans g0)), fun s'' k4 => ?_⟩)
  ·have := H.hk i hi j x hx
   have e := lsub hmm
   rw [e]
   exact this
  ·have e2 : mm = ks.length - (off i + (j + 1)) := (congrArg Nat.pred hmm).symm
   rw [e2]
   refine seg_again rfl (ih (j + 1) s'' s'' _ (lqj ‹_›) hlt (K3.comp H.g k4 al0) rfl (H.W0.frame _ _ _ _ (H.W0.frame _ _ _ _ h02 k3 nn0) k4 nn0) (W1.frame _ _ _ _ (W1.frame _ _ _ _ h12 k3 nn0) k4 nn0) (jay (jay hn2 k3 ni0) k4 ni0))
theorem den_start0 (it acc : Value) : (model P0 w).den (.compStart (ge2 elt i1 x1 p1 x2 p2 p3 scope pos) 0 it acc cenv) = (compStart (ge2 elt i1 x1 p1 x2 p2 p3 scope pos) 0 it acc cenv).onRaise (leaving cenv) := by rfl
theorem den_start1 (it acc : Value) : (model P0 w).den (.compStart (ge2 elt i1 x1 p1 x2 p2 p3 scope pos) 1 it acc cenv) = (compStart (ge2 elt i1 x1 p1 x2 p2 p3 scope pos) 1 it acc cenv).onRaise (fun x => do noteFrame x cenv; standAt theWindowsPlace) := by rfl
theorem start_eq (dp : Nat) (it acc : Value) (g : Comprehension) (hg : (clausesOf (ge2 elt i1 x1 p1 x2 p2 p3 scope pos))[dp]? = some g) (ha : g.is_async = 0) : compStart (ge2 elt i1 x1 p1 x2 p2 p3 scope pos) dp it acc cenv = (do
   if (← ask).params.followText "comprehension-iter-twice" then again (.compLoop (ge2 elt i1 x1 p1 x2 p2 p3 scope pos) dp it acc cenv) else do
    rule "comprehension.iter-twice"
    standAt g.iter.pos
    let v ← pyIter it
    again (.compLoop (ge2 elt i1 x1 p1 x2 p2 p3 scope pos) dp v acc cenv)) := by
 unfold compStart
 rw [hg]
 simp [ha]
end
section
variable {w : World} {B : Heap} {A : Around} {sb : Shared} {C I0 it : Addr} {ctr : Nat → Addr × Addr × List En × Nat} {n0 : Nat} {ks : List Int} {off : Nat → Nat} {fp0 : List Addr} {St0 : Nat → Shared → Prop} {cenv : Env} {x1 x2 : Str} {elt i1 : Expr} {test : Int → Bool} {nn : Nat}
 {p1 p2 p3 : Pos} {scope : Scope} {pos : Pos}
theorem over_rm {A : Around} {n : Nat} {c : Code} {fs : List Frame} (r : Rm n A) (h1 : (marksOver fs (A.handled, A.handled)).1 = A.handled) (h2 : frameCount (fs.map Frame.where_) + c.weight ≤ 4) (h3 : unitsOf (fs.map Frame.where_) + c.cUnits ≤ 40) : Rm (n + 4) (A.over c fs) :=
 ⟨h1.trans r.1, by show A.depth + _ + _ ≤ n + 4 + 310; rw [Nat.add_assoc, Nat.add_right_comm n]; exact Nat.add_le_add r.2.1 h2, by show A.units + _ + _ ≤ 10 * (n + 4); rw [Nat.add_assoc, Nat.mul_add]; exact Nat.add_le_add r.2.2 h3⟩
theorem wt0 (it : Value) : (Code.compLoop (ge2 elt i1 x1 p1 x2 p2 p3 scope pos) 0 it .none cenv).weight = 1 ∧ (Code.compLoop (ge2 elt i1 x1 p1 x2 p2 p3 scope pos) 0 it .none cenv).cUnits = 3 := ⟨rfl, rfl⟩
theorem wt1 (it : Value) : (Code.compLoop (ge2 elt i1 x1 p1 x2 p2 p3 scope pos) 1 it .none cenv).weight = 0 ∧ (Code.compLoop (ge2 elt i1 x1 p1 x2 p2 p3 scope pos) 1 it .none cenv).cUnits = 0 := ⟨rfl, rfl⟩
theorem seg_out (H : G2 w B sb C I0 ctr n0 ks off fp0 St0 cenv x1 x2 elt test nn) {n : Nat} (hA : Rm n A) (hnn : n + 4 ≤ nn) (hn3 : nn ≤ 300) :
  ∀ k i s₀ s m, n0 - i = k → i ≤ n0 → Kp [C, I0] sb s → s.gens = s₀.gens → St0 i s → s.heap.Ns C m →
   Seg (model P0 w) A (g2R sb C I0) (g2Y sb C I0 ks test) (ks.length - off i) s₀ (.compLoop (ge2 elt i1 x1 p1 x2 p2 p3 scope pos) 0 (.ref I0) .none cenv)
    ((model P0 w).den (.compLoop (ge2 elt i1 x1 p1 x2 p2 p3 scope pos) 0 (.ref I0) .none cenv)) [] s := by
 have R0 : Rm nn (A.over (.compLoop (ge2 elt i1 x1 p1 x2 p2 p3 scope pos) 0 (.ref I0) .none cenv) []) := (over_rm hA rfl (by rw [(wt0 _).1]; decide) (by rw [(wt0 _).2]; decide)).le hnn
 have hh := R0.1
 have hpl : (cenv.scope.kind == .class || (cenv.scope.kind == .module && cenv.locals != cenv.globals)) = false := by rw [H.fk]; rfl
 have f0C : ∀ a ∈ I0 :: fp0, a ∉ [C] := by
  intro a ha q
  cases List.mem_singleton.mp q
  rcases List.mem_cons.mp ha with q | q
  ·exact H.ne q.symm
  ·exact (H.nf _ q).1 rfl
 have hC2 : C ≠ 2 := jaP H.g (H.hB C (List.mem_cons_self ..))
 intro k
 induction k with
 | zero =>
  intro i s₀ s m hk hi K0 g0 h0 hn
  have hi' : i = n0 := by exact lqq ‹_› ‹_›
  subst hi'
  have G := H.good K0
  show Seg _ A _ _ _ s₀ _ ((compTurn (ge2 elt i1 x1 p1 x2 p2 p3 scope pos) 0 (.ref I0) .none cenv).onRaise (leaving cenv)) [] s
  rw [turn0, Sem.onRaise_eq_wrap]
  refine seg_bind_wrap (wpAny_standAt ?_)
  refine seg_bind_wrap (H.W0.done _ s _ _ hh G h0 fun s' k' g' => ?_)
  rw [H.offN, Nat.sub_self]
  exact seg_end (.ok .next) ⟨rfl, rfl, K0.comp H.g k' (by simp), g'.trans g0⟩
 | succ k ih =>
  intro i s₀ s m hk hi K0 g0 h0 hn
  have hlt : i < n0 := by exact lqr ‹_›
  have G := H.good K0
  show Seg _ A _ _ _ s₀ _ ((compTurn (ge2 elt i1 x1 p1 x2 p2 p3 scope pos) 0 (.ref I0) .none cenv).onRaise (leaving cenv)) [] s
  rw [turn0, Sem.onRaise_eq_wrap]
  refine seg_bind_wrap (wpAny_standAt ?_)
  refine seg_bind_wrap (H.W0.item _ i s _ _ hh G hlt h0 fun v s1 ev h0' k1 g1 => ?_)
  subst ev
  have K1 := K0.comp H.g k1 (by simp)
  have hn1 := jay hn k1 (by simpa using Ne.symm H.ne)
  refine seg_bind_wrap (wpAny_of_eq (rfl : letOwnedTupleGo (.Name x1 p1) (.ref I0) (.ref (ctr i).1) = pure ()) ?_)
  have hn1' : s1.heap.Ns cenv.locals m := by rw [H.hl]; exact hn1
  refine seg_bind_wrap (wpAny_assign_Name (wpAny_storeName_local H.hx1 hn1' (fun h₂ hn₂ hs₂ => ?_) hpl))
  rw [H.hl] at hn₂ hs₂
  have k2 : Kp [C] s1 { s1 with heap := h₂, toks := s1.toks + 1 } := jaz (s := s1) hs₂ hC2 (by obtain ⟨o, _, _, ho, _⟩ := hn₂; exact ⟨o, ho⟩) (Nat.le_succ _)
  have g2 : ({ s1 with heap := h₂, toks := s1.toks + 1 } : Shared).gens = s1.gens := rfl
  have hn2 : ({ s1 with heap := h₂, toks := s1.toks + 1 } : Shared).heap.Ns C (fun y => if y = x1 then some (.ref (ctr i).1) else m y) := hn₂
  generalize ({ s1 with heap := h₂, toks := s1.toks + 1 } : Shared) = s2 at k2 g2 hn2
  have K2 := K1.comp H.g k2 (by simp)
  have h02 := H.W0.frame _ _ _ _ h0' k2 f0C
  have G2' := H.good K2
  have hn2' : s2.heap.Ns cenv.locals (fun y => if y = x1 then some (.ref (ctr i).1) else m y) := by rw [H.hl]; exact hn2
  refine seg_bind_wrap (wpAny_Name (wpAny_loadName_local H.fk H.hx1 hn2' (v := .ref (ctr i).1) (if_pos rfl) ?_) H.dx)
  refine seg_bind_wrap (wpAny_standAt ?_)
  refine seg_bind_wrap (wpAny_of_eq (rfl : foldedSetIterable (.Name x1 p3) cenv (.ref (ctr i).1) = pure (.ref (ctr i).1)) ?_)
  have Cc := (H.ct i hlt).kp K2 (H.nC i hlt).1 (H.nC i hlt).2
  refine seg_bind_wrap (wpAny_holding ((iter_ctr G2' Cc (R0.le hn3)).use fun v s3 It => ?_))
  refine aG ?_; intro gO; obtain ⟨⟨it, St1, ev, W1, h1, nit, oit, hit⟩, al, k3, g3⟩ := It; unfold gO; clear gO
  subst ev
  have K3 := K2.comp H.g k3 al0
  have nitb : sb.heap.get? it = none := K2.back nit
  have n2 : it ≠ C := fun q => by obtain ⟨o, e⟩ := H.lC; rw [← q, nitb] at e; cases e
  have h03 := H.W0.frame _ _ _ _ h02 k3 nn0
  have hn3' := jay hn2 k3 ni0
  refine seg_call fun p => ?_
  generalize hF : (fun x : Result => _) = F
  have hF1 : F (.ok .next) = .pure (.again (.compLoop (ge2 elt i1 x1 p1 x2 p2 p3 scope pos) 0 (.ref I0) .none cenv)) := by rw [← hF]; rfl
  clear hF
  have loop := seg_in (A := A) (elt := elt) (i1 := i1) (p1 := p1) (p2 := p2) (p3 := p3) (scope := scope) (pos := pos) H hlt (fs := [.ret F none (_root_.id false) (_root_.id []) (.compLoop (ge2 elt i1 x1 p1 x2 p2 p3 scope pos) 0 (.ref I0) .none cenv) p []]) rfl rfl
   ((over_rm hA rfl (by simp only [List.map_cons, List.map_nil, Frame.where_]; rw [frameCount_cons, (wt0 _).1, (wt1 _).1]; decide) (by simp only [List.map_cons, List.map_nil, Frame.where_]; rw [unitsOf_cons, (wt0 _).2, (wt1 _).2]; decide)).le hnn)
   W1 nitb n2 (fun s₁ s m K g h hn => by
    refine seg_leaf (.ok .next) ?_
    rw [hF1]
    exact seg_again rfl (ih (i + 1) s₁ s m (lqj ‹_›) hlt K g h hn)) _ 0 s₀ s3 _ rfl (Nat.zero_le _) K3 (g3.trans (g2.trans (g1.trans g0))) h03 h1 hn3'
  rw [den_start1, start_eq 1 (.ref it) .none _ rfl rfl, Sem.onRaise_eq_wrap]
  refine seg_bind_wrap (wpAny_askSetting ?_)
  split
  ·exact seg_again rfl loop
  ·refine seg_bind_wrap (wpAny_rule (seg_bind_wrap (wpAny_standAt (seg_bind_wrap (W1.self _ 0 s3 _ _ h1 (seg_again rfl loop))))))
end
section
variable {w : World} {B : Heap} {A : Around} {sb : Shared} {C I0 it ga : Addr} {g : Nat} {ctr : Nat → Addr × Addr × List En × Nat} {n0 : Nat} {ks : List Int} {off : Nat → Nat} {fp0 : List Addr} {St0 : Nat → Shared → Prop} {cenv : Env} {x1 x2 : Str} {elt i1 : Expr} {test : Int → Bool} {nn : Nat}
 {p1 p2 p3 : Pos} {scope : Scope} {pos : Pos}
theorem seg_start (H : G2 w B sb C I0 ctr n0 ks off fp0 St0 cenv x1 x2 elt test nn) (ho0 : off 0 = 0) {n : Nat} (hA : Rm n A) (hnn : n + 4 ≤ nn) (hn3 : nn ≤ 300) {s : Shared} {m : Str → Option Value} (K : Kp [C, I0] sb s) (h0 : St0 0 s) (hn : s.heap.Ns C m) :
  Seg (model P0 w) A (g2R sb C I0) (g2Y sb C I0 ks test) ks.length s (.compStart (ge2 elt i1 x1 p1 x2 p2 p3 scope pos) 0 (.ref I0) .none cenv)
    ((model P0 w).den (.compStart (ge2 elt i1 x1 p1 x2 p2 p3 scope pos) 0 (.ref I0) .none cenv)) [] s := by
 have loop := seg_out (elt := elt) (i1 := i1) (p1 := p1) (p2 := p2) (p3 := p3) (scope := scope) (pos := pos) H hA hnn hn3 n0 0 s s m (Nat.sub_zero _) (Nat.zero_le _) K rfl h0 hn
 rw [ho0, Nat.sub_zero] at loop
 rw [den_start0, start_eq 0 (.ref I0) .none _ rfl rfl, Sem.onRaise_eq_wrap]
 refine seg_bind_wrap (wpAny_askSetting ?_)
 split
 ·exact seg_again rfl loop
 ·exact seg_bind_wrap (wpAny_rule (seg_bind_wrap (wpAny_standAt (seg_bind_wrap (H.W0.self _ 0 s _ _ h0 (seg_again rfl loop))))))
structure GAt (w : World) (A : Around) (sb : Shared) (C I0 : Addr) (g : Nat) (ks : List Int) (test : Int → Bool) (n : Nat) (s : Shared) : Prop where
 kp : Kp [C, I0] sb s
 gs : ∃ gs, s.gens[g]? = some gs ∧ ∀ s'', Kp [] s s'' → gs.Goes (model P0 w) A (g2R sb C I0) (g2Y sb C I0 ks test) n (.send .none) s''
theorem allBare_set {s : Shared} {x : GenState} (hx : x.bare = true) (h : AllBare s.gens) : AllBare (s.setGen g x).gens := by
 intro y hy
 unfold Shared.setGen at hy
 dsimp only at hy
 obtain ⟨i, hi, rfl⟩ := Array.mem_iff_getElem.mp hy
 rw [Array.getElem_setIfInBounds (Nat.lt_of_lt_of_eq hi (Array.size_setIfInBounds ..))]
 split
 ·exact hx
 ·exact h _ (Array.getElem_mem (Nat.lt_of_lt_of_eq hi (Array.size_setIfInBounds ..)))
theorem kp_set {s : Shared} {x : GenState} (hx : x.bare = true) : Kp [] s (s.setGen g x) := ⟨fun Y Y e Y Y => e, fun Y o e => ⟨o, e⟩, fun Y Y o => o, fun Y => rfl, rfl, Nat.le_refl _, allBare_set hx⟩
theorem gen_kp {s s' : Shared} {Sx : List Addr} (h : s.heap.IsGen ga g) (k : Kp Sx s s') (n : ga ∉ Sx) : s'.heap.IsGen ga g := by
 obtain ⟨o, nm, qn, ho, hc, r⟩ := h
 exact ⟨o, nm, qn, k.keep _ _ ho (jau (by rw [hc]; simp)) n, hc, r⟩
theorem all_loop (hg : Good w B sb) (hB : ∀ a ∈ [C, I0], B.get? a = none) (nga : ga ∉ [C, I0]) (hgb : sb.heap.IsGen ga g) {n : Nat} (hA : Rm n A) (hn : n < 600) : ∀ k s, k ≤ ks.length → GAt w A.in1.in1 sb C I0 g ks test k s →
  codeAny (model P0 w) A (.builtin "all.loop" ⟨[.ref ga], []⟩) (fun r s' => r = .ok (.ret (.bool ((ks.drop (ks.length - k)).all test))) ∧ Kp [C, I0] sb s') s := by
 intro k
 induction k with
 | zero =>
  intro s hk st
  refine codeAny_builtin F.entry_all_loop ?_
  rw [Around.under_plainId F.plain_all_loop _]
  obtain ⟨K, gs, hgs, hgo⟩ := st
  have hig := gen_kp hgb K nga
  have G := hg.kp K hB
  have hroom : A.in1.depth < recursionLimit := Nat.lt_of_le_of_lt hA.2.1 (Nat.lt_of_lt_of_le (Nat.add_lt_add_right hn 310) (by decide))
  refine wpAny_bind (wpAny_pyNext_genexpQ (P := fun n s₀ s₁ => n = 0 ∧ Kp [C, I0] sb s₁ ∧ s₁.gens = s₀.gens) hA.1 (jb7 G.k) hroom hig hgs (hgo _ (kp_set rfl)) (fun v s₁ gs' hb hv => ?_) (fun s₁ hp h' hkk => ?_))
  ·exact (hv.2.2.2 s₁ ((Kp.refl s₁).mono al0)).elim
  ·have k1 : Kp [] s₁ { s₁.setGen g .finished with heap := h' } := by
    refine ⟨fun b o e Y Y => hkk b o e, fun b o e => ⟨o, hkk b o e⟩, fun Y Y o => o.step_keeps hkk, fun Y => ?_, rfl, Nat.le_refl _, allBare_set (s := s₁) rfl⟩
    obtain ⟨o, e⟩ := (hg.kp hp.2.1 hB).two
    exact (hkk 2 o e).trans e.symm
   refine wpAny_bind (wpAny_rule (wpAny_pure ⟨?_, hp.2.1.comp hg k1 al0⟩))
   simp
 | succ k ih =>
  intro s hk st
  refine codeAny_builtin F.entry_all_loop ?_
  rw [Around.under_plainId F.plain_all_loop _]
  obtain ⟨K, gs, hgs, hgo⟩ := st
  have hig := gen_kp hgb K nga
  have G := hg.kp K hB
  have hroom : A.in1.depth < recursionLimit := Nat.lt_of_le_of_lt hA.2.1 (Nat.lt_of_lt_of_le (Nat.add_lt_add_right hn 310) (by decide))
  refine wpAny_bind (wpAny_pyNext_genexpQ (P := fun n s₀ s₁ => n = 0 ∧ Kp [C, I0] sb s₁ ∧ s₁.gens = s₀.gens) hA.1 (jb7 G.k) hroom hig hgs (hgo _ (kp_set rfl)) (fun v s₁ gs' hb hv => ?_) (fun s₁ hp h' hkk => ?_))
  ·obtain ⟨⟨q, hq, ev⟩, K1, g1, hkap⟩ := hv
   subst ev
   have e1 : ks.length - 1 - k = ks.length - (k + 1) := by exact lqt
   have hlt : ks.length - (k + 1) < ks.length := by exact lrc ‹_›
   have hq' : ks[ks.length - (k + 1)]? = some q := by rw [← e1]; exact hq
   have dr : ks.drop (ks.length - (k + 1)) = q :: ks.drop (ks.length - k) := by
    rw [List.drop_eq_getElem_cons hlt]
    have h1 : ks[ks.length - (k + 1)] = q := by rw [List.getElem?_eq_getElem hlt] at hq'; exact Option.some.inj hq'
    have h2 : ks.length - (k + 1) + 1 = ks.length - k := by exact lrb ‹_›
    rw [h1, h2]
   have k2 : Kp [] s₁ (s₁.setGen g gs') := kp_set hb
   have K2 : Kp [C, I0] sb (s₁.setGen g gs') := K1.comp hg k2 al0
   refine wpAny_bind (wpAny_holding (wpAny_truthy_bool (wpAny_bind (wpAny_letGo ?_))))
   cases ht : test q with
   | true =>
    refine ift_ rfl (wpAny_pure ⟨plainId_quiet F.plain_all_loop _, ?_⟩)
    have hgs2 : (s₁.setGen g gs').gens[g]? = some gs' := by
     refine setGen_self (gs := .running) ?_
     rw [g1]
     exact setGen_self hgs
    have := ih (s₁.setGen g gs') (Nat.le_of_lt ‹_›) ⟨K2, gs', hgs2, fun s'' k3 => hkap s'' ((k2.trans k3).mono al0)⟩
    refine codeAny_mono this fun r s' ⟨er, hk'⟩ => ⟨?_, hk'⟩
    rw [er, dr, List.all_cons, ht, Bool.true_and]
   | false =>
    refine iff_ rfl (wpAny_bind (wpAny_rule (wpAny_pure ⟨?_, K2⟩)))
    rw [dr, List.all_cons, ht, Bool.false_and]
  ·exact absurd hp.1 (Nat.succ_ne_zero k)
theorem call_all (hg : Good w B sb) (hB : ∀ a ∈ [C, I0], B.get? a = none) (nga : ga ∉ [C, I0]) (hgb : sb.heap.IsGen ga g) {n : Nat} (hA : Rm n A) (hn : n < 550) {s : Shared} (st : GAt w A.in1.in1 sb C I0 g ks test ks.length s) :
  Wp w A (call (.builtin "all") [.ref ga]) (fun v s' => v = .bool (ks.all test) ∧ Kp [C, I0] sb s') s := by
 refine call_function_tree F.kind_all F.plain_all F.entry_all (F.args_all1 _) ?_
 unfold Builtin.«all»
 refine wpAny_bind (m := oneArg "all" _) (wpAny_pure ?_)
 refine wpAny_bind (wpAny_pyIter_gen (gen_kp hgb st.kp nga) ?_)
 refine wpAny_pure ⟨plainId_quiet F.plain_all_loop _, coE (all_loop hg hB nga hgb hA (lq0 hn rfl) ks.length s (Nat.le_refl _) st) fun s' k => ?_⟩
 simpa using k
end
noncomputable def fnChkC (K : Frag) (f : Addr) : Option (FuncData × List Stmt) := (fnD K f).bind fun r => cond r.1.closure.isEmpty (some r) none
structure CallC (s : Shared) (env : Env) (sc : Scope) (f : Addr) (fd : FuncData) (binds : List (Str × Value)) (s₁ : Shared) : Prop where
 ok : EnvOk env sc
 fn : env.func = some f
 code : env.code = fd.code
 cells : env.cells = cellsFrom (env.locals + 1) sc.names []
 frame : env.frame = some env.locals
 ns : s₁.heap.Ns env.locals (bindL (fun x => sc.names.lookup x) binds fun Y => none)
 cell : ∀ x c, env.cells.lookup x = some c → s₁.heap.IsCell c (bindC (fun x => sc.names.lookup x) binds (fun Y => none) x)
 fr : s.heap.get? env.locals = none
 above : ∀ x c, (x, c) ∈ env.cells → env.locals < c
 frc : ∀ x c, (x, c) ∈ env.cells → s.heap.get? c = none
 apart : env.cells.Pairwise fun x y => x.2 ≠ y.2
 kp : Kp [] s s₁
 gn : s₁.gens = s.gens
section
variable {w : World} {B : Heap} {A : Around} {s : Shared} {a d b c k m x y I l : Addr} {L S : List En} {ep ep' : Nat} {env : Env} {sc : Scope} {E : Value → Shared → Prop}
theorem jcm {f : Addr} {fd : FuncData} {body : List Stmt} {args : List Value} {binds : List (Str × Value)} {R : Result → Shared → Prop} {sc : Scope} {n : Nat} (G : Good w B s) (hA : Rm n A) (hn : n < 600) (hf : fnChkC (KH w.params) f = some (fd, body)) (hsc : fd.scope = sc)
  (hb : bindArgs fd ⟨args, []⟩ = pure binds) (hl : ∀ N : Nat, binds.all (fun x => sc.names.lookup x.1 == some .local || (sc.names.lookup x.1 == some .cell && ((cellsFrom (N + 1) sc.names []).lookup x.1).isSome)) = true)
  (h : ∀ (env : Env) (A' : Around) (s₁ : Shared), CallC s env sc f fd binds s₁ → Rm (n + 1) A' →
   Wp w A' (execs body env) (fun fl s' => R (.ok (.ret (match fl with | .ret v => v | _ => .none))) s') s₁) :
  codeAny (model P0 w) A (.call (.ref f) ⟨args, []⟩) R s := by
 obtain ⟨r, hd, hf⟩ := Option.bind_eq_some_iff.mp hf
 obtain ⟨h5, hf⟩ := cnd2 hf
 cases hf
 have h5 := List.isEmpty_iff.mp h5
 obtain ⟨fo, c, co, vs, tq, ho, hfo, hcode, hc, hco, hq, hbody, h2, h3, h4, h6, h7⟩ := fnD_of hd
 dsimp only at *
 have hroom : A.depth < recursionLimit := Nat.lt_of_le_of_lt hA.2.1 (Nat.lt_of_lt_of_le (Nat.add_lt_add_right hn 310) (by decide))
 have ho' := G.k _ _ ho
 have hc' := G.k _ _ hc
 refine codeAny_call_function hroom ho' hfo h4 h3 hbody ⟨c, _, vs, tq, hcode, hc', hco, hq⟩ ?_
 rw [hb, h5]
 have hkind : ∀ x ∈ binds, fd.scope.names.lookup x.1 = some .local ∨ (fd.scope.names.lookup x.1 = some .cell ∧ ((cellsFrom (s.heap.objs.size + 1) fd.scope.names []).lookup x.1).isSome = true) := fun x hx => by
  have := List.all_eq_true.mp (hl s.heap.objs.size) x hx
  rw [hsc]
  simpa using this
 refine wpAny_pure (wpAny_with_toks (Nat.le_refl s.toks) (wpAny_newFunctionEnv_cells h2 hkind fun env he s₁ I htk => ?_))
 have up : ∀ b o, s.heap.get? b = some o → s₁.heap.get? b = some o := I.toInCall.keep
 obtain ⟨h₁, tk, e1⟩ := I.toInCall.same
 have gz : ∀ {c : Addr}, s.heap.objs.size ≤ c → s.heap.get? c = none := fun {c} hc => by
  cases e : s.heap.get? c with
  | none => rfl
  | some o => exact absurd (Heap.lt_size e) (Nat.not_lt.mpr hc)
 have lo : env.locals = s.heap.objs.size := by rw [he]; rfl
 have kf : env.kindOf = fun x => sc.names.lookup x := by funext x; rw [he, ← hsc]; rfl
 refine ⟨(jb7 G.k).keeps up, codeAny_func (wpAny_mono (h env (A.deeper env) s₁ ⟨⟨?_, ?_, ?_, ?_⟩, ?_, ?_, ?_, ?_, ?_, ?_, gz (Nat.le_of_eq lo.symm), I.above, fun x c hm => gz ?_, I.apart, jat up G.two ?_ htk ?_, ?_⟩ (hA.deeper _)) (fun Y Y z => z) fun Y Y z => z.elim)⟩
 ·rw [he]; exact hsc
 ·rw [he]; exact h6
 ·rw [he]; exact h7
 ·rw [← hsc]; exact h2
 ·rw [he]; rfl
 ·rw [he]; rfl
 ·rw [lo, ← hsc, he]; rfl
 ·rw [he]; rfl
 ·have := I.toInCall.ns
  rwa [kf] at this
 ·have := I.cell
  rwa [kf] at this
 ·have := I.above x c hm
  rw [lo] at this
  exact Nat.le_of_lt this
 ·rw [e1]
 ·rw [e1]
 ·rw [e1]
theorem jaw {v : Option Value} {s' : Shared} {Sx : List Addr} (h : s.heap.IsCell c v) (k : Kp Sx s s') (n : c ∉ Sx) : s'.heap.IsCell c v := by
 obtain ⟨o, ho, hd⟩ := h
 refine ⟨o, k.keep _ _ ho ?_ n, hd⟩
 unfold tabby
 rw [hd]
 cases o.cls <;> rfl
theorem jcz {x : Str} {pos : Pos} {v : Value} {Q : Value → Shared → Prop} (O : EnvOk env sc) (hc : env.cells.lookup x = some c) (hv : s.heap.IsCell c (some v)) (h : Q v s)
  (hl : sc.names.lookup x = some .cell := by kernel_rfl) (hd : (x == ("__debug__" : Str)) = false := by kernel_rfl) : wpAny (model P0 w) A (eval (.Name x pos) env) Q E s :=
 wpAny_Name (wpAny_loadName_cell O.fk (O.kind hl) hc hv h) hd
end
theorem KW.mono {w : World} {B : Heap} {I : Addr} {fp : List Addr} {n : Nat} {P P' : Nat → Value → Prop} {St : Nat → Shared → Prop} (W : KW w B I fp n P St) (h : ∀ i v, i < n → P i v → P' i v) : KW w B I fp n P' St :=
 ⟨W.frame, fun A i s Q E hh G hi st hq => W.item A i s Q E hh G hi st fun v s' hp => hq v s' (h i v hi hp), W.done, W.self, W.cl⟩
theorem ev_free {w : World} {A : Around} {s : Shared} {env : Env} {sc : Scope} {c : Addr} {E : Value → Shared → Prop} {x : Str} {pos : Pos} {v : Value} {Q : Value → Shared → Prop} (O : EnvOk env sc) (hc : env.cells.lookup x = some c) (hv : s.heap.IsCell c (some v)) (h : Q v s)
  (hl : sc.names.lookup x = some .free := by kernel_rfl) (hd : (x == ("__debug__" : Str)) = false := by kernel_rfl) (hn : (x == ("__classdict__" : Str)) = false := by kernel_rfl) : wpAny (model P0 w) A (eval (.Name x pos) env) Q E s :=
 wpAny_Name (wpAny_loadName_free O.fk (O.kind hl) hc hv h hn) hd
noncomputable def eqBody : List Stmt := ja2 (ctrS "__eq__")
theorem fn_eq (P : Params) : fnChkC (KH P) 980 = some (fdAt (KH P) 980, eqBody) := by kernel_rfl
theorem sc_eq (P : Params) : (fdAt (KH P) 980).scope = jas (ctrS "__eq__") := by kernel_rfl
theorem code_eq (P : Params) : (fdAt (KH P) 980).code = .ref 979 := by kernel_rfl
section
variable {w : World} {B : Heap} {A : Around} {s : Shared} {a d b e c k m x y I l : Addr} {L L' : List En} {ep ep' : Nat} {env : Env} {sc : Scope} {E : Value → Shared → Prop}
noncomputable def gEeq : Expr := match eqBody[1]! with
 | .Return (some (.Call _ [g] _ _)) _ => g
 | _ => default
noncomputable def sceqG : Scope := match gEeq with
 | .GeneratorExp _ _ s _ => s
 | _ => default
noncomputable def elteq : Expr := match gEeq with
 | .GeneratorExp e _ _ _ => e
 | _ => default
theorem sh_eq : ∃ (q1 q2 q3 p1 p2 p3 pos : Pos), gEeq = ge2 elteq (.Tuple [.Name "self" q1, .Name "other" q2] 0 q3) "c" p1 "e" p2 p3 sceqG pos := ⟨_, _, _, _, _, _, _, rfl⟩
theorem clo_eq {env : Env} {c1 c2 : Addr} (h : env.cells = [((PySem.Str.ofString "other"), c2), ((PySem.Str.ofString "self"), c1)]) : closureFor sceqG env = pure [((PySem.Str.ofString "self"), c1), ((PySem.Str.ofString "other"), c2)] := by
 refine aG ?_; intro gO; obtain ⟨_, _, _, cs, _, _, _, _, _⟩ := env; unfold gO; clear gO
 dsimp only at h
 subst h
 kernel_rfl
theorem el_eq {cenv : Env} {C c1 c2 : Addr} {code : Value} {env0 : Env} {s : Shared} {m : Str → Option Value} {k : Int} {t n : Nat} (hce : cenv = genEnv sceqG [((PySem.Str.ofString "self"), c1), ((PySem.Str.ofString "other"), c2)] C code 0 env0) (hgl : env0.globals = 3) (G : Good w B s) (hA : Rm n A) (hn : n ≤ 290) (h1 : s.heap.IsCell c1 (some (.ref a))) (h2 : s.heap.IsCell c2 (some (.ref b))) (Ca : IsC s.heap a d L ep) (Cb : IsC s.heap b e L' ep') (hns : s.heap.Ns C m) (hm : m "e" = some (.int k t)) :
  Wp w A (eval elteq cenv) (fun v s' => v = .bool (decide (cnt L k = cnt L' k)) ∧ Kp [] s s' ∧ s'.gens = s.gens) s := by
 try (refine lW ?_; intro Ro)
 have O : EnvOk cenv sceqG := ⟨by rw [hce]; rfl, by rw [hce]; exact hgl, by rw [hce]; rfl, by rfl⟩
 have lo : cenv.locals = C := by rw [hce]; rfl
 have ce : cenv.cells = [((PySem.Str.ofString "self"), c1), ((PySem.Str.ofString "other"), c2)] := by rw [hce]; rfl
 rw [← lo] at hns
 refine wpAny_Compare1 (jaJ (ev_free O (by rw [ce]; rfl) h1 (jam O hns hm ⟨jbx G Ca, ?_⟩)))
 refine (jaC G Ca (hA.le (lq8 ‹_› (by rfl)))).useE1 fun t1 s1 hx0 => ?_
 refine aG ?_; intro gO; obtain ⟨pt1, K1, g1⟩ := hx0; unfold gO; clear gO
 have G1 := G.kp K1 al0
 have Cb1 := Cb.kp K1 ni0 ni0
 refine jaJ (ev_free O (by rw [ce]; rfl) (jaw h2 K1 ni0) (jam O (jay hns K1 ni0) hm ⟨jbx G1 Cb1, ?_⟩))
 refine (jaC G1 Cb1 (hA.le (lq8 ‹_› (by rfl)))).useE1 fun t2 s2 hx0 => ?_
 refine aG ?_; intro gO; obtain ⟨pt2, K2, g2⟩ := hx0; unfold gO; clear gO
 exact PyProof.Rows.eq_int ⟨by first | rfl | simp, (K1.trans K2).mono al0, g2.trans g1⟩
noncomputable def ksOf (L L' : List En) : List Int := L.map (·.1) ++ L'.map (·.1)
theorem eq_ctr {n : Nat} (G : Good w B s) (hA : Rm n A) (hn : n < 250) (C : IsC s.heap a d L ep) (C' : IsC s.heap b e L' ep') :
  codeAny (model P0 w) A (.call (.ref 980) ⟨[.ref a, .ref b], []⟩) (fun r s' => r = .ok (.ret (.bool ((ksOf L L').all fun k => decide (cnt L k = cnt L' k)))) ∧ Kp [] s s') s := by
 try (refine lC ?_; intro Ro)
 refine jcm G hA (lq0 hn rfl) (fn_eq _) (sc_eq _) (binds := [("self", .ref a), ("other", .ref b)]) (by kernel_rfl) (fun N => by kernel_rfl) fun env A' s1 X R1 => ?_
 have G1 := G.kp X.kp al0
 have C1 := C.kp X.kp ni0 ni0
 have C2 := C'.kp X.kp ni0 ni0
 have O := X.ok
 have hcells : env.cells = [((PySem.Str.ofString "other"), env.locals + 1 + 1), ((PySem.Str.ofString "self"), env.locals + 1)] := X.cells.trans (by kernel_rfl)
 have l1 : env.cells.lookup (PySem.Str.ofString "self") = some (env.locals + 1) := by rw [hcells]; rfl
 have l2 : env.cells.lookup (PySem.Str.ofString "other") = some (env.locals + 1 + 1) := by rw [hcells]; rfl
 have h1 : s1.heap.IsCell (env.locals + 1) (some (.ref a)) := by have := X.cell _ _ l1; exact this
 have h2 : s1.heap.IsCell (env.locals + 1 + 1) (some (.ref b)) := by have := X.cell _ _ l2; exact this
 have e1 : eqBody = [eqBody[0]!, eqBody[1]!] := by kernel_rfl
 rw [e1]
 refine wpAny_execs_cons (wpAny_If (wpAny_isTrue_Not (isTrue_plain (jap (jal (.builtin "isinstance") G1 O ?_)))))
 refine ja8 (jad (jcz O l2 h2 (jad (jal (.ref 1093) G1 O (jao ?_)))))
 refine (jbB G1 C2 (R1.le (lq0 hn rfl))).useE fun s2 hx0 => ?_
 obtain ⟨K2, g2⟩ := hx0
 have G2' := G1.kp K2 al0
 have C1b := C1.kp K2 ni0 ni0
 have C2b := C2.kp K2 ni0 ni0
 have h1b := jaw h1 K2 ni0
 have h2b := jaw h2 K2 ni0
 refine wpAny_truthy_bool ?_
 rw [if_neg (by decide)]
 refine wpAny_execs_nil ?_
 dsimp only
 refine wpAny_execs_cons (wpAny_Return_some (jap (jal (.builtin "all") G2' O ?_)))
 refine ja8 (jad ?_)
 refine aG ?_; intro gO; obtain ⟨q1, q2, q3, p1, p2, p3, pos, hsh⟩ := sh_eq; unfold gO; clear gO
 show wpAny _ _ (eval gEeq env) _ _ _
 rw [hsh]
 refine gen2_make (B := B) O R1 (lq2 hn rfl) (X.code.trans (code_eq _)) (by decide) (by rfl) (clo_eq hcells) (by decide) (by rfl) (by rfl) ?_ (fun Y => rfl)
 refine Tuple_ (jad (jcz O l1 h1b (jad (jcz O l2 h2b (jao ?_)))))
 refine wpAny_newTuple ?_
 have K3 : Kp [] s2 { s2 with heap := s2.heap.push { cls := .type "tuple", data := .seq #[.ref a, .ref b] } } := jar G2'
 have ht : ({ s2 with heap := s2.heap.push { cls := .type "tuple", data := .seq #[.ref a, .ref b] } } : Shared).heap.IsTuple s2.heap.objs.size #[.ref a, .ref b] := ⟨_, Heap.get?_push_size _ rfl, rfl, _, rfl⟩
 have ft : s2.heap.get? s2.heap.objs.size = none := jag
 show wpAny _ _ _ _ _ { s2 with heap := s2.heap.push { cls := .type "tuple", data := .seq #[.ref a, .ref b] } }
 generalize hT : s2.heap.objs.size = T at ht ft ⊢
 generalize ({ s2 with heap := s2.heap.push { cls := .type "tuple", data := .seq #[.ref a, .ref b] } } : Shared) = s3 at K3 ht ⊢
 have G3 := G2'.kp K3 al0
 refine (iter_tuple G3 ht).use fun v s4 It => ?_
 refine aG ?_; intro gO; obtain ⟨⟨I0, St0, ev, W0, st0, nI0, oI0⟩, al, K4, g4⟩ := It; unfold gO; clear gO
 subst ev
 have G4 := G3.kp K4 al0
 refine ⟨G4, fun code Cf ga sb gg hig hns K5 fC fga nCga => jao ?_⟩
 have K1b : Kp [] s s4 := (X.kp.trans (K2.trans (K3.trans K4))).mono al0
 have Gb := G4.kp K5 al0
 have Kb : Kp [] s sb := K1b.comp0 G K5 al0
 have Ca := C.kp Kb ni0 ni0
 have Cb := C'.kp Kb ni0 ni0
 have K15 : Kp [] s2 sb := (K3.trans (K4.trans K5)).mono al0
 have h1s := jaw h1b K15 ni0
 have h2s := jaw h2b K15 ni0
 have fI : s.heap.get? I0 = none := ((X.kp.trans (K2.trans K3)).mono (S' := []) al0).back nI0
 have fCs : s.heap.get? Cf = none := K1b.back fC
 have al4 : ∀ {x : Addr} {o : Obj}, s4.heap.get? x = some o → x ≠ Cf := fun h q => by rw [q, fC] at h; cases h
 have al3 : ∀ {x : Addr} {o : Obj}, s3.heap.get? x = some o → x ≠ I0 := fun h q => by rw [q, nI0] at h; cases h
 have al0 : ∀ {x : Addr} {o : Obj}, s.heap.get? x = some o → x ∉ [Cf, I0] := fun h q => by
  rcases List.mem_cons.mp q with q | q
  ·rw [q, fCs] at h; cases h
  ·cases List.mem_singleton.mp q; rw [fI] at h; cases h
 obtain ⟨oI, eI⟩ := oI0
 have nIC : I0 ≠ Cf := al4 eI
 have cc : ∀ {c : Addr} {v : Option Value}, s2.heap.IsCell c v → c ∉ [Cf, I0] := fun ⟨o, ho, hd⟩ q => by
  have h3 := K3.keep _ _ ho (by unfold tabby; rw [hd]; cases o.cls <;> rfl) ni0
  have h4 := K4.keep _ _ h3 (by unfold tabby; rw [hd]; cases o.cls <;> rfl) ni0
  rcases List.mem_cons.mp q with q | q
  ·exact al4 h4 q
  ·cases List.mem_singleton.mp q; exact al3 h3 rfl
 let ctr : Nat → Addr × Addr × List En × Nat := fun i => if i = 0 then (a, d, L, ep) else (b, e, L', ep')
 let off : Nat → Nat := fun i => if i = 0 then 0 else if i = 1 then L.length else L.length + L'.length
 have two : ∀ {i : Nat}, i < 2 → i = 0 ∨ i = 1 := fun {i} h => by exact lqp ‹_›
 have H : G2 w B sb Cf I0 ctr 2 (ksOf L L') off [T] St0 (genEnv sceqG [((PySem.Str.ofString "self"), env.locals + 1), ((PySem.Str.ofString "other"), env.locals + 1 + 1)] Cf code 0 env) "c" "e" elteq (fun k => decide (cnt L k = cnt L' k)) 290 := by
  refine ⟨?_, Gb, ?_, ?_, ?_, ?_, ?_, ?_, ?_, ?_, by rfl, by rfl, by rfl, by rfl, by rfl, nIC, ?_, ?_, by decide, ?_⟩
  ·intro x hx
   rcases List.mem_cons.mp hx with rfl | hx
   ·exact G.new fCs
   ·cases List.mem_singleton.mp hx; exact G.new fI
  ·intro i hi
   rcases two hi with rfl | rfl
   ·exact Ca
   ·exact Cb
  ·intro i hi
   rcases two hi with rfl | rfl
   ·exact ⟨al0 C.at_, al0 C.ow⟩
   ·exact ⟨al0 C'.at_, al0 C'.ow⟩
  ·intro i hi
   rcases two hi with rfl | rfl
   ·simp [off, ctr]
   ·simp [off, ctr]
  ·simp [off, ksOf]
  ·intro i hi
   simp only [off, ksOf, List.length_append, List.length_map]
   split
   ·exact Nat.zero_le _
   ·split <;> omega
  ·intro i hi j x hx
   rcases two hi with rfl | rfl
   ·have hx' : L[j]? = some x := hx
    have hj : j < L.length := (List.getElem?_eq_some_iff.mp hx').1
    show (ksOf L L')[0 + j]? = some x.1
    rw [Nat.zero_add]
    unfold ksOf
    rw [List.getElem?_append_left (Nat.lt_of_lt_of_eq hj (List.length_map _).symm), List.getElem?_map, hx']
    rfl
   ·have hx' : L'[j]? = some x := hx
    show (ksOf L L')[L.length + j]? = some x.1
    unfold ksOf
    rw [List.getElem?_append_right (by simp), List.length_map, Nat.add_sub_cancel_left, List.getElem?_map, hx']
    rfl
  ·refine W0.mono fun i v hi hv => ?_
   rcases two hi with rfl | rfl
   ·exact (Option.some.inj hv).symm
   ·exact (Option.some.inj hv).symm
  ·intro x hx
   cases List.mem_singleton.mp hx
   refine aG ?_; intro gO; obtain ⟨o, ho, hc, _⟩ := ht; unfold gO; clear gO
   have h4 := K4.keep _ _ ho (jau (by rw [hc]; simp)) ni0
   exact ⟨al4 h4, al3 ho, o, K5.keep _ _ h4 (jau (by rw [hc]; simp)) ni0⟩
  ·obtain ⟨o, _, _, ho, _⟩ := hns; exact ⟨o, ho⟩
  ·exact K5.there _ _ eI
  ·intro A2 s5 m k t R5 K5' hn5 hm5
   have nc1 := cc h1b
   have nc2 := cc h2b
   exact el_eq (n := 290) rfl O.gl (Gb.kp K5' (by
    intro x hx
    rcases List.mem_cons.mp hx with rfl | hx
    ·exact G.new fCs
    ·cases List.mem_singleton.mp hx; exact G.new fI)) R5 (Nat.le_refl _) (jaw h1s K5' nc1) (jaw h2s K5' nc2) (Ca.kp K5' (al0 C.at_) (al0 C.ow)) (Cb.kp K5' (al0 C'.at_) (al0 C'.ow)) hn5 hm5
 have hB' := H.hB
 have nga : ga ∉ [Cf, I0] := fun q => by
  rcases List.mem_cons.mp q with q | q
  ·exact nCga q.symm
  ·cases List.mem_singleton.mp q; rw [fga] at eI; cases eI
 have hgs : sb.gens[s4.gens.size]? = some (.fresh (.compStart (ge2 elteq (.Tuple [.Name "self" q1, .Name "other" q2] 0 q3) "c" p1 "e" p2 p3 sceqG pos) 0 (.ref I0) .none (genEnv sceqG [((PySem.Str.ofString "self"), env.locals + 1), ((PySem.Str.ofString "other"), env.locals + 1 + 1)] Cf code 0 env))) := by
  rw [gg]
  exact Array.getElem?_push_size ..
 have st0b : St0 0 sb := W0.frame _ _ _ _ st0 K5 nn0
 have GA : GAt w A'.in1.in1 sb Cf I0 s4.gens.size (ksOf L L') (fun k => decide (cnt L k = cnt L' k)) (ksOf L L').length sb :=
  ⟨(Kp.refl sb).mono na0, _, hgs, fun s5 k5 => ⟨rfl, seg_start H (by rfl) (n := n + 1 + 1 + 1) R1.in1.in1 (lq2 hn rfl) (lqe rfl) ((Kp.refl sb).mono (S' := [Cf, I0]) na0 |>.comp Gb k5 na0) (W0.frame _ _ _ _ st0b k5 nn0) (jay hns k5 ni0)⟩⟩
 refine (call_all Gb hB' nga hig R1 (lq2 hn rfl) GA).useE fun s6 K6 => ?_
 exact ⟨rfl, Kb.comp0 G K6 (by
  intro x hx
  rcases List.mem_cons.mp hx with rfl | hx
  ·exact fCs
  ·cases List.mem_singleton.mp hx; exact fI)⟩
end
noncomputable def leBody : List Stmt := ja2 (ctrS "__le__")
theorem fn_le (P : Params) : fnChkC (KH P) 994 = some (fdAt (KH P) 994, leBody) := by kernel_rfl
theorem sc_le (P : Params) : (fdAt (KH P) 994).scope = jas (ctrS "__le__") := by kernel_rfl
theorem code_le (P : Params) : (fdAt (KH P) 994).code = .ref 993 := by kernel_rfl
section
variable {w : World} {B : Heap} {A : Around} {s : Shared} {a d b e c k m x y I l : Addr} {L L' : List En} {ep ep' : Nat} {env : Env} {sc : Scope} {E : Value → Shared → Prop}
noncomputable def gEle : Expr := match leBody[1]! with
 | .Return (some (.Call _ [g] _ _)) _ => g
 | _ => default
noncomputable def scleG : Scope := match gEle with
 | .GeneratorExp _ _ s _ => s
 | _ => default
noncomputable def eltle : Expr := match gEle with
 | .GeneratorExp e _ _ _ => e
 | _ => default
theorem sh_le : ∃ (q1 q2 q3 p1 p2 p3 pos : Pos), gEle = ge2 eltle (.Tuple [.Name "self" q1, .Name "other" q2] 0 q3) "c" p1 "e" p2 p3 scleG pos := ⟨_, _, _, _, _, _, _, rfl⟩
theorem clo_le {env : Env} {c1 c2 : Addr} (h : env.cells = [((PySem.Str.ofString "other"), c2), ((PySem.Str.ofString "self"), c1)]) : closureFor scleG env = pure [((PySem.Str.ofString "self"), c1), ((PySem.Str.ofString "other"), c2)] := by
 refine aG ?_; intro gO; obtain ⟨_, _, _, cs, _, _, _, _, _⟩ := env; unfold gO; clear gO
 dsimp only at h
 subst h
 kernel_rfl
theorem el_le {cenv : Env} {C c1 c2 : Addr} {code : Value} {env0 : Env} {s : Shared} {m : Str → Option Value} {k : Int} {t n : Nat} (hce : cenv = genEnv scleG [((PySem.Str.ofString "self"), c1), ((PySem.Str.ofString "other"), c2)] C code 0 env0) (hgl : env0.globals = 3) (G : Good w B s) (hA : Rm n A) (hn : n ≤ 290) (h1 : s.heap.IsCell c1 (some (.ref a))) (h2 : s.heap.IsCell c2 (some (.ref b))) (Ca : IsC s.heap a d L ep) (Cb : IsC s.heap b e L' ep') (hns : s.heap.Ns C m) (hm : m "e" = some (.int k t)) :
  Wp w A (eval eltle cenv) (fun v s' => v = .bool (decide (cnt L k ≤ cnt L' k)) ∧ Kp [] s s' ∧ s'.gens = s.gens) s := by
 try (refine lW ?_; intro Ro)
 have O : EnvOk cenv scleG := ⟨by rw [hce]; rfl, by rw [hce]; exact hgl, by rw [hce]; rfl, by rfl⟩
 have lo : cenv.locals = C := by rw [hce]; rfl
 have ce : cenv.cells = [((PySem.Str.ofString "self"), c1), ((PySem.Str.ofString "other"), c2)] := by rw [hce]; rfl
 rw [← lo] at hns
 refine wpAny_Compare1 (jaJ (ev_free O (by rw [ce]; rfl) h1 (jam O hns hm ⟨jbx G Ca, ?_⟩)))
 refine (jaC G Ca (hA.le (lq8 ‹_› (by rfl)))).useE1 fun t1 s1 hx0 => ?_
 refine aG ?_; intro gO; obtain ⟨pt1, K1, g1⟩ := hx0; unfold gO; clear gO
 have G1 := G.kp K1 al0
 have Cb1 := Cb.kp K1 ni0 ni0
 refine jaJ (ev_free O (by rw [ce]; rfl) (jaw h2 K1 ni0) (jam O (jay hns K1 ni0) hm ⟨jbx G1 Cb1, ?_⟩))
 refine (jaC G1 Cb1 (hA.le (lq8 ‹_› (by rfl)))).useE1 fun t2 s2 hx0 => ?_
 refine aG ?_; intro gO; obtain ⟨pt2, K2, g2⟩ := hx0; unfold gO; clear gO
 exact le_int ⟨by first | rfl | simp, (K1.trans K2).mono al0, g2.trans g1⟩
theorem le_ctr {n : Nat} (G : Good w B s) (hA : Rm n A) (hn : n < 250) (C : IsC s.heap a d L ep) (C' : IsC s.heap b e L' ep') :
  codeAny (model P0 w) A (.call (.ref 994) ⟨[.ref a, .ref b], []⟩) (fun r s' => r = .ok (.ret (.bool ((ksOf L L').all fun k => decide (cnt L k ≤ cnt L' k)))) ∧ Kp [] s s') s := by
 try (refine lC ?_; intro Ro)
 refine jcm G hA (lq0 hn rfl) (fn_le _) (sc_le _) (binds := [("self", .ref a), ("other", .ref b)]) (by kernel_rfl) (fun N => by kernel_rfl) fun env A' s1 X R1 => ?_
 have G1 := G.kp X.kp al0
 have C1 := C.kp X.kp ni0 ni0
 have C2 := C'.kp X.kp ni0 ni0
 have O := X.ok
 have hcells : env.cells = [((PySem.Str.ofString "other"), env.locals + 1 + 1), ((PySem.Str.ofString "self"), env.locals + 1)] := X.cells.trans (by kernel_rfl)
 have l1 : env.cells.lookup (PySem.Str.ofString "self") = some (env.locals + 1) := by rw [hcells]; rfl
 have l2 : env.cells.lookup (PySem.Str.ofString "other") = some (env.locals + 1 + 1) := by rw [hcells]; rfl
 have h1 : s1.heap.IsCell (env.locals + 1) (some (.ref a)) := by have := X.cell _ _ l1; exact this
 have h2 : s1.heap.IsCell (env.locals + 1 + 1) (some (.ref b)) := by have := X.cell _ _ l2; exact this
 have e1 : leBody = [leBody[0]!, leBody[1]!] := by kernel_rfl
 rw [e1]
 refine wpAny_execs_cons (wpAny_If (wpAny_isTrue_Not (isTrue_plain (jap (jal (.builtin "isinstance") G1 O ?_)))))
 refine ja8 (jad (jcz O l2 h2 (jad (jal (.ref 1093) G1 O (jao ?_)))))
 refine (jbB G1 C2 (R1.le (lq0 hn rfl))).useE fun s2 hx0 => ?_
 obtain ⟨K2, g2⟩ := hx0
 have G2' := G1.kp K2 al0
 have C1b := C1.kp K2 ni0 ni0
 have C2b := C2.kp K2 ni0 ni0
 have h1b := jaw h1 K2 ni0
 have h2b := jaw h2 K2 ni0
 refine wpAny_truthy_bool ?_
 rw [if_neg (by decide)]
 refine wpAny_execs_nil ?_
 dsimp only
 refine wpAny_execs_cons (wpAny_Return_some (jap (jal (.builtin "all") G2' O ?_)))
 refine ja8 (jad ?_)
 refine aG ?_; intro gO; obtain ⟨q1, q2, q3, p1, p2, p3, pos, hsh⟩ := sh_le; unfold gO; clear gO
 show wpAny _ _ (eval gEle env) _ _ _
 rw [hsh]
 refine gen2_make (B := B) O R1 (lq2 hn rfl) (X.code.trans (code_le _)) (by decide) (by rfl) (clo_le hcells) (by decide) (by rfl) (by rfl) ?_ (fun Y => rfl)
 refine Tuple_ (jad (jcz O l1 h1b (jad (jcz O l2 h2b (jao ?_)))))
 refine wpAny_newTuple ?_
 have K3 : Kp [] s2 { s2 with heap := s2.heap.push { cls := .type "tuple", data := .seq #[.ref a, .ref b] } } := jar G2'
 have ht : ({ s2 with heap := s2.heap.push { cls := .type "tuple", data := .seq #[.ref a, .ref b] } } : Shared).heap.IsTuple s2.heap.objs.size #[.ref a, .ref b] := ⟨_, Heap.get?_push_size _ rfl, rfl, _, rfl⟩
 have ft : s2.heap.get? s2.heap.objs.size = none := jag
 show wpAny _ _ _ _ _ { s2 with heap := s2.heap.push { cls := .type "tuple", data := .seq #[.ref a, .ref b] } }
 generalize hT : s2.heap.objs.size = T at ht ft ⊢
 generalize ({ s2 with heap := s2.heap.push { cls := .type "tuple", data := .seq #[.ref a, .ref b] } } : Shared) = s3 at K3 ht ⊢
 have G3 := G2'.kp K3 al0
 refine (iter_tuple G3 ht).use fun v s4 It => ?_
 refine aG ?_; intro gO; obtain ⟨⟨I0, St0, ev, W0, st0, nI0, oI0⟩, al, K4, g4⟩ := It; unfold gO; clear gO
 subst ev
 have G4 := G3.kp K4 al0
 refine ⟨G4, fun code Cf ga sb gg hig hns K5 fC fga nCga => jao ?_⟩
 have K1b : Kp [] s s4 := (X.kp.trans (K2.trans (K3.trans K4))).mono al0
 have Gb := G4.kp K5 al0
 have Kb : Kp [] s sb := K1b.comp0 G K5 al0
 have Ca := C.kp Kb ni0 ni0
 have Cb := C'.kp Kb ni0 ni0
 have K15 : Kp [] s2 sb := (K3.trans (K4.trans K5)).mono al0
 have h1s := jaw h1b K15 ni0
 have h2s := jaw h2b K15 ni0
 have fI : s.heap.get? I0 = none := ((X.kp.trans (K2.trans K3)).mono (S' := []) al0).back nI0
 have fCs : s.heap.get? Cf = none := K1b.back fC
 have al4 : ∀ {x : Addr} {o : Obj}, s4.heap.get? x = some o → x ≠ Cf := fun h q => by rw [q, fC] at h; cases h
 have al3 : ∀ {x : Addr} {o : Obj}, s3.heap.get? x = some o → x ≠ I0 := fun h q => by rw [q, nI0] at h; cases h
 have al0 : ∀ {x : Addr} {o : Obj}, s.heap.get? x = some o → x ∉ [Cf, I0] := fun h q => by
  rcases List.mem_cons.mp q with q | q
  ·rw [q, fCs] at h; cases h
  ·cases List.mem_singleton.mp q; rw [fI] at h; cases h
 obtain ⟨oI, eI⟩ := oI0
 have nIC : I0 ≠ Cf := al4 eI
 have cc : ∀ {c : Addr} {v : Option Value}, s2.heap.IsCell c v → c ∉ [Cf, I0] := fun ⟨o, ho, hd⟩ q => by
  have h3 := K3.keep _ _ ho (by unfold tabby; rw [hd]; cases o.cls <;> rfl) ni0
  have h4 := K4.keep _ _ h3 (by unfold tabby; rw [hd]; cases o.cls <;> rfl) ni0
  rcases List.mem_cons.mp q with q | q
  ·exact al4 h4 q
  ·cases List.mem_singleton.mp q; exact al3 h3 rfl
 let ctr : Nat → Addr × Addr × List En × Nat := fun i => if i = 0 then (a, d, L, ep) else (b, e, L', ep')
 let off : Nat → Nat := fun i => if i = 0 then 0 else if i = 1 then L.length else L.length + L'.length
 have two : ∀ {i : Nat}, i < 2 → i = 0 ∨ i = 1 := fun {i} h => by exact lqp ‹_›
 have H : G2 w B sb Cf I0 ctr 2 (ksOf L L') off [T] St0 (genEnv scleG [((PySem.Str.ofString "self"), env.locals + 1), ((PySem.Str.ofString "other"), env.locals + 1 + 1)] Cf code 0 env) "c" "e" eltle (fun k => decide (cnt L k ≤ cnt L' k)) 290 := by
  refine ⟨?_, Gb, ?_, ?_, ?_, ?_, ?_, ?_, ?_, ?_, by rfl, by rfl, by rfl, by rfl, by rfl, nIC, ?_, ?_, by decide, ?_⟩
  ·intro x hx
   rcases List.mem_cons.mp hx with rfl | hx
   ·exact G.new fCs
   ·cases List.mem_singleton.mp hx; exact G.new fI
  ·intro i hi
   rcases two hi with rfl | rfl
   ·exact Ca
   ·exact Cb
  ·intro i hi
   rcases two hi with rfl | rfl
   ·exact ⟨al0 C.at_, al0 C.ow⟩
   ·exact ⟨al0 C'.at_, al0 C'.ow⟩
  ·intro i hi
   rcases two hi with rfl | rfl
   ·simp [off, ctr]
   ·simp [off, ctr]
  ·simp [off, ksOf]
  ·intro i hi
   simp only [off, ksOf, List.length_append, List.length_map]
   split
   ·exact Nat.zero_le _
   ·split <;> omega
  ·intro i hi j x hx
   rcases two hi with rfl | rfl
   ·have hx' : L[j]? = some x := hx
    have hj : j < L.length := (List.getElem?_eq_some_iff.mp hx').1
    show (ksOf L L')[0 + j]? = some x.1
    rw [Nat.zero_add]
    unfold ksOf
    rw [List.getElem?_append_left (Nat.lt_of_lt_of_eq hj (List.length_map _).symm), List.getElem?_map, hx']
    rfl
   ·have hx' : L'[j]? = some x := hx
    show (ksOf L L')[L.length + j]? = some x.1
    unfold ksOf
    rw [List.getElem?_append_right (by simp), List.length_map, Nat.add_sub_cancel_left, List.getElem?_map, hx']
    rfl
  ·refine W0.mono fun i v hi hv => ?_
   rcases two hi with rfl | rfl
   ·exact (Option.some.inj hv).symm
   ·exact (Option.some.inj hv).symm
  ·intro x hx
   cases List.mem_singleton.mp hx
   refine aG ?_; intro gO; obtain ⟨o, ho, hc, _⟩ := ht; unfold gO; clear gO
   have h4 := K4.keep _ _ ho (jau (by rw [hc]; simp)) ni0
   exact ⟨al4 h4, al3 ho, o, K5.keep _ _ h4 (jau (by rw [hc]; simp)) ni0⟩
  ·obtain ⟨o, _, _, ho, _⟩ := hns; exact ⟨o, ho⟩
  ·exact K5.there _ _ eI
  ·intro A2 s5 m k t R5 K5' hn5 hm5
   have nc1 := cc h1b
   have nc2 := cc h2b
   exact el_le (n := 290) rfl O.gl (Gb.kp K5' (by
    intro x hx
    rcases List.mem_cons.mp hx with rfl | hx
    ·exact G.new fCs
    ·cases List.mem_singleton.mp hx; exact G.new fI)) R5 (Nat.le_refl _) (jaw h1s K5' nc1) (jaw h2s K5' nc2) (Ca.kp K5' (al0 C.at_) (al0 C.ow)) (Cb.kp K5' (al0 C'.at_) (al0 C'.ow)) hn5 hm5
 have hB' := H.hB
 have nga : ga ∉ [Cf, I0] := fun q => by
  rcases List.mem_cons.mp q with q | q
  ·exact nCga q.symm
  ·cases List.mem_singleton.mp q; rw [fga] at eI; cases eI
 have hgs : sb.gens[s4.gens.size]? = some (.fresh (.compStart (ge2 eltle (.Tuple [.Name "self" q1, .Name "other" q2] 0 q3) "c" p1 "e" p2 p3 scleG pos) 0 (.ref I0) .none (genEnv scleG [((PySem.Str.ofString "self"), env.locals + 1), ((PySem.Str.ofString "other"), env.locals + 1 + 1)] Cf code 0 env))) := by
  rw [gg]
  exact Array.getElem?_push_size ..
 have st0b : St0 0 sb := W0.frame _ _ _ _ st0 K5 nn0
 have GA : GAt w A'.in1.in1 sb Cf I0 s4.gens.size (ksOf L L') (fun k => decide (cnt L k ≤ cnt L' k)) (ksOf L L').length sb :=
  ⟨(Kp.refl sb).mono na0, _, hgs, fun s5 k5 => ⟨rfl, seg_start H (by rfl) (n := n + 1 + 1 + 1) R1.in1.in1 (lq2 hn rfl) (lqe rfl) ((Kp.refl sb).mono (S' := [Cf, I0]) na0 |>.comp Gb k5 na0) (W0.frame _ _ _ _ st0b k5 nn0) (jay hns k5 ni0)⟩⟩
 refine (call_all Gb hB' nga hig R1 (lq2 hn rfl) GA).useE fun s6 K6 => ?_
 exact ⟨rfl, Kb.comp0 G K6 (by
  intro x hx
  rcases List.mem_cons.mp hx with rfl | hx
  ·exact fCs
  ·cases List.mem_singleton.mp hx; exact fI)⟩
end
theorem pk_or (P : Params) : peek (KH P) ⟨P0, P⟩ (fillsNumberSlot (.ref 1093) "or") = some true := by kernel_rfl
theorem pk_and (P : Params) : peek (KH P) ⟨P0, P⟩ (fillsNumberSlot (.ref 1093) "and") = some true := by kernel_rfl
theorem fi_or (P : Params) : findIn (KH P) (.ref 1093) (dunder "or") = some (some (.ref 1036)) := by kernel_rfl
theorem fi_and (P : Params) : findIn (KH P) (.ref 1093) (dunder "and") = some (some (.ref 1043)) := by kernel_rfl
theorem fi_eq (P : Params) : findIn (KH P) (.ref 1093) (PySem.Str.ofString "__eq__") = some (some (.ref 980)) := by kernel_rfl
theorem fi_le (P : Params) : findIn (KH P) (.ref 1093) (PySem.Str.ofString "__le__") = some (some (.ref 994)) := by kernel_rfl
theorem fcls (P : Params) : ((KH P).lookup 1036).map (·.cls) = some (.type "function") ∧ ((KH P).lookup 1043).map (·.cls) = some (.type "function") ∧ ((KH P).lookup 980).map (·.cls) = some (.type "function") ∧ ((KH P).lookup 994).map (·.cls) = some (.type "function") := ⟨by kernel_rfl, by kernel_rfl, by kernel_rfl, by kernel_rfl⟩
section
variable {w : World} {B : Heap} {A : Around} {s : Shared} {a d b e c k m x y I l f : Addr} {L L' : List En} {ep ep' : Nat} {env : Env} {sc : Scope} {E : Value → Shared → Prop}
theorem bin_ctr {op : Operator} {Q : Value → Shared → Prop} (hp : peek (KH w.params) ⟨P0, w.params⟩ (fillsNumberSlot (.ref 1093) op.info.2) = some true) (hf : findIn (KH w.params) (.ref 1093) (dunder op.info.2) = some (some (.ref f)))
  (hc : ((KH w.params).lookup f).map (·.cls) = some (.type "function")) (G : Good w B s) (C : IsC s.heap a d L ep) (C' : IsC s.heap b e L' ep')
  (h : wpAny (model P0 w) A (call (.ref f) [.ref a, .ref b]) (fun v s' => v ≠ .notImplemented ∧ Q v s') E s) : wpAny (model P0 w) A (binaryOp op (.ref a) (.ref b)) Q E s := by
 unfold binaryOp
 refine wpAny_holding ?_
 have LF : Looks (model P0 w) s.heap (fillsNumberSlot (.ref 1093) op.info.2) true := Looks.of_peek G.k hp
 have L1 := C.type (w := w)
 have L2 := C'.type (w := w)
 have LS := C.spec G hf
 have LS' : Looks (model P0 w) s.heap (specialOf (.ref a) (dunder op.info.2)) (some (.ref f)) := LS
 obtain ⟨fo, e1, e2⟩ := Option.map_eq_some_iff.mp hc
 have key : wpAny (model P0 w) A (binaryOp1 op.info.2 (.ref a) (.ref b)) (fun o s' => ∃ v, o = some v ∧ Q v s') E s := by
  unfold binaryOp1
  refine wpAny_bind (L1.here (wpAny_bind (L2.here (wpAny_bind (LF.here ?_)))))
  refine ift_ (beq_self_eq_true _) (wpAny_bind (wpAny_pure ?_))
  dsimp only
  refine iff_ rfl (iff_ rfl (iff_ rfl (wpAny_bind (wpAny_pure (iff_ rfl (ift_ rfl ?_))))))
  unfold tryMethod
  refine wpAny_bind (wpAny_bind (jbD LS' (G.k _ _ e1) e2 (wpAny_mono h (fun v s' hx0 => ?_) fun Y Y z => z)))
  obtain ⟨hn, hq⟩ := hx0
  cases v <;> first | exact absurd rfl hn | exact wpAny_pure (wpAny_pure ⟨_, rfl, hq⟩)
 refine wpAny_bind (wpAny_mono key (fun o s' hx0 => ?_) fun Y Y z => z)
 obtain ⟨v, eo, hq⟩ := hx0
 subst eo
 exact wpAny_pure hq
theorem callSpIf_own {self : Value} {name : Str} {args : List Value} {fo : Obj} {Q : Option Value → Shared → Prop} (h1 : Looks (model P0 w) s.heap (specialOf self name) (some (.ref f))) (h2 : s.heap.get? f = some fo) (h3 : fo.cls = .type "function")
  (hc : wpAny (model P0 w) A (call (.ref f) (self :: args)) (fun v => Q (some v)) E s) : wpAny (model P0 w) A (callSpecialIfBound? self name args) Q E s := by
 unfold callSpecialIfBound? bindSpecialIfBound?
 refine wpAny_holding (wpAny_bind (wpAny_bind (h1.here ?_)))
 have fin : wpAny (model P0 w) A (call (.ref f) ([self] ++ args) >>= fun v => pure (some v)) Q E s := wpAny_bind (wpAny_mono hc (fun v s' h' => wpAny_pure h') fun Y Y z => z)
 refine wpAny_bind (wpAny_askSetting (wpAny_ite ?_))
 split
 ·exact wpAny_bind (wpAny_bindSpecial_def h2 h3 (wpAny_pure fin))
 ·exact wpAny_tryCatch (wpAny_bind (wpAny_bindSpecial_def h2 h3 (wpAny_pure fin)))
theorem rich_ctr {op : CmpOp} {Q : Value → Shared → Prop} {n : Nat} (hA : Rm n A) (hn : n < 600) (hf : findIn (KH w.params) (.ref 1093) (cmpInfo op).2.1 = some (some (.ref f))) (hc : ((KH w.params).lookup f).map (·.cls) = some (.type "function")) (G : Good w B s) (C : IsC s.heap a d L ep) (C' : IsC s.heap b e L' ep')
  (h : wpAny (model P0 w) A (call (.ref f) [.ref a, .ref b]) (fun v s' => v ≠ .notImplemented ∧ Q v s') E s) (ho : oneThing? op (.ref a) (.ref b) = none := by rfl) : wpAny (model P0 w) A (richCompare op (.ref a) (.ref b)) Q E s := by
 unfold richCompare
 have L1 := C.type (w := w)
 have L2 := C'.type (w := w)
 have LS := C.spec G hf
 obtain ⟨fo, e1, e2⟩ := Option.map_eq_some_iff.mp hc
 refine wpAny_holding (wpAny_bind (wpAny_cRoomFor (Nat.lt_of_le_of_lt hA.2.2 (by unfold cLine; omega)) ?_))
 rw [ho]
 dsimp only
 refine wpAny_bind (L1.here (wpAny_bind (L2.here ?_)))
 refine iff_ (bne_self_eq_false _) (wpAny_bind (wpAny_pure (iff_ rfl ?_)))
 unfold tryCompare
 refine wpAny_bind (wpAny_bind (callSpIf_own LS (G.k _ _ e1) e2 (wpAny_mono h (fun v s' hx0 => ?_) fun Y Y z => z)))
 obtain ⟨hn, hq⟩ := hx0
 cases v <;> first | exact absurd rfl hn | exact wpAny_pure (wpAny_pure hq)
theorem eqB_ctr {n : Nat} (hA : Rm n A) (hn : n < 250) (G : Good w B s) (C : IsC s.heap a d L ep) (C' : IsC s.heap b e L' ep') :
  Wp w A (eqBool (.ref a) (.ref b)) (fun v s' => v = decide (∀ k ∈ ksOf L L', cnt L k = cnt L' k) ∧ Kp [] s s') s := by
 refine lW ?_
 intro Ro
 unfold eqBool
 refine wpAny_holding ?_
 by_cases hab : a = b
 ·subst hab
  have h1 := C.at_
  have h2 := C'.at_
  rw [h1] at h2
  have hL : L.map ent = L'.map ent := by
   have := Option.some.inj h2
   simp only [ctrO, Obj.mk.injEq, Data.dict.injEq] at this
   simpa using this.2.2.1.1
  have hLL : L = L' := by
   refine List.map_inj_right (f := ent) (fun x y hxy => ?_) |>.mp hL
   obtain ⟨x1, x2, x3, x4⟩ := x
   obtain ⟨y1, y2, y3, y4⟩ := y
   simp only [ent, DictEntry.mk.injEq, Value.int.injEq] at hxy
   simp [hxy]
  subst hLL
  refine ift_ (beq_self_eq_true _) (wpAny_bind (wpAny_rule (wpAny_pure ⟨by simp, (Kp.refl s).mono al0⟩)))
 ·have hne : (Value.ref a == Value.ref b) = false := by simp [hab]
  rw [hne]
  refine iff_ rfl ?_
  refine wpAny_bind (rich_ctr (op := .Eq) hA (lq0 hn rfl) (fi_eq _) (fcls _).2.2.1 G C C' (wpAny_call (coE (eq_ctr G hA hn C C') fun s' k => ?_)))
  refine ⟨by simp, ?_⟩
  unfold truthOfDropped
  refine wpAny_truthy_bool ⟨?_, k⟩
  rw [Bool.eq_iff_iff]
  simp
theorem le_op {n : Nat} (hA : Rm n A) (hn : n < 250) (G : Good w B s) (C : IsC s.heap a d L ep) (C' : IsC s.heap b e L' ep') :
  Wp w A (compareOp .LtE (.ref a) (.ref b)) (fun v s' => v = .bool (decide (∀ k ∈ ksOf L L', cnt L k ≤ cnt L' k)) ∧ Kp [] s s') s := by
 refine lW ?_
 intro Ro
 refine rich_ctr (op := .LtE) hA (lq0 hn rfl) (fi_le _) (fcls _).2.2.2 G C C' (wpAny_call (coE (le_ctr G hA hn C C') fun s' k => ?_))
 refine ⟨by simp, ?_, k⟩
 congr 1
 rw [Bool.eq_iff_iff]
 simp
theorem or_op {n : Nat} (hA : Rm n A) (hn : n < 200) (G : Good w B s) (C : IsC s.heap a d L ep) (C' : IsC s.heap b e L' ep') (hL : L.length ≤ 10) (hnd : (L.map (·.1)).Nodup) (hL' : L'.length ≤ 10) (hnd' : (L'.map (·.1)).Nodup) :
  Wp w A (binaryOp .BitOr (.ref a) (.ref b)) (fun v s' => ∃ r rd M epr, v = .ref r ∧ IsC s'.heap r rd M epr ∧ vals M = jbP (vals L) (vals L') ∧ s.heap.get? r = none ∧ s.heap.get? rd = none ∧ Kp [] s s' ∧ s'.gens = s.gens) s := by
 refine lW ?_
 intro Ro
 refine bin_ctr (op := .BitOr) (pk_or _) (fi_or _) (fcls _).1 G C C' (wpAny_call (coE4 (or_ctr (newC w B) G hA hn C C' hL hnd hL' hnd') fun v rd M epr s' h => ?_))
 exact ⟨by simp, v, rd, M, epr, rfl, h⟩
theorem and_op {n : Nat} (hA : Rm n A) (hn : n < 200) (G : Good w B s) (C : IsC s.heap a d L ep) (C' : IsC s.heap b e L' ep') (hL : L.length ≤ 10) (hnd : (L.map (·.1)).Nodup) :
  Wp w A (binaryOp .BitAnd (.ref a) (.ref b)) (fun v s' => ∃ r rd M epr, v = .ref r ∧ IsC s'.heap r rd M epr ∧ vals M = jbl (vals L) (vals L') ∧ s.heap.get? r = none ∧ s.heap.get? rd = none ∧ Kp [] s s' ∧ s'.gens = s.gens) s := by
 refine lW ?_
 intro Ro
 refine bin_ctr (op := .BitAnd) (pk_and _) (fi_and _) (fcls _).2.1 G C C' (wpAny_call (coE4 (and_ctr (newC w B) G hA hn C C' hL hnd) fun v rd M epr s' h => ?_))
 exact ⟨by simp, v, rd, M, epr, rfl, h⟩
end
noncomputable def jai (env : Env) (x : Str) : Addr := (env.cells.lookup x).getD env.locals
noncomputable def Own (env : Env) : List Addr := env.locals :: env.cells.map (·.2)
noncomputable def Bnd (env : Env) (x : Str) (v : Value) (s : Shared) : Prop := match env.cells.lookup x with
 | some c => (env.kindOf x = some .cell ∨ env.kindOf x = some .free) ∧ s.heap.IsCell c (some v)
 | none => env.kindOf x = some .local ∧ ∃ m, s.heap.Ns env.locals m ∧ m x = some v
structure Frm (env : Env) (s : Shared) : Prop where
 ns : ∃ m, s.heap.Ns env.locals m
 ce : ∀ x c, env.cells.lookup x = some c → ∃ v, s.heap.IsCell c v
structure Sta (env : Env) (sc : Scope) : Prop where
 ok : EnvOk env sc
 ap : env.cells.Pairwise fun x y => x.2 ≠ y.2
 nl : ∀ x c, env.cells.lookup x = some c → c ≠ env.locals
theorem jac {env : Env} {x : Str} : jai env x ∈ Own env := by
 unfold jai Own
 cases h : env.cells.lookup x with
 | none => simp
 | some c => exact List.mem_cons_of_mem _ (List.mem_map_of_mem (mem_of_lookup h))
section
variable {w : World} {B : Heap} {A : Around} {s : Shared} {a d b e c k m x y I l f : Addr} {L L' : List En} {ep ep' : Nat} {env : Env} {sc : Scope} {E : Value → Shared → Prop}
theorem jcf {x : Str} {v : Value} {s' : Shared} {S : List Addr} (h : Bnd env x v s) (k : Kp S s s') (n : jai env x ∉ S) : Bnd env x v s' := by
 unfold Bnd jai at *
 cases hc : env.cells.lookup x with
 | none =>
  rw [hc] at h n
  obtain ⟨h1, m, h2, h3⟩ := h
  exact ⟨h1, m, jay h2 k n, h3⟩
 | some c =>
  rw [hc] at h n
  exact ⟨h.1, jaw h.2 k n⟩
theorem jaA {x : Str} {v : Value} {s' : Shared} {S : List Addr} (h : Bnd env x v s) (k : Kp S s s') (n : ∀ a ∈ Own env, a ∉ S) : Bnd env x v s' := jcf h k (n _ jac)
theorem ja0 {s' : Shared} {S : List Addr} (h : Frm env s) (k : Kp S s s') (n : ∀ a ∈ Own env, a ∉ S) : Frm env s' := by
 obtain ⟨⟨m, hm⟩, hc⟩ := h
 refine ⟨⟨m, jay hm k (n _ (List.mem_cons_self ..))⟩, fun x c hx => ?_⟩
 obtain ⟨v, hv⟩ := hc x c hx
 exact ⟨v, jaw hv k (n _ (List.mem_cons_of_mem _ (List.mem_map_of_mem (mem_of_lookup hx))))⟩
theorem jaf {x : Str} {pos : Pos} {v : Value} {Q : Value → Shared → Prop} (S : Sta env sc) (hb : Bnd env x v s) (h : Q v s) (hd : (x == ("__debug__" : Str)) = false := by kernel_rfl) (hn : (x == ("__classdict__" : Str)) = false := by kernel_rfl) : wpAny (model P0 w) A (eval (.Name x pos) env) Q E s := by
 unfold Bnd at hb
 cases hc : env.cells.lookup x with
 | none =>
  rw [hc] at hb
  obtain ⟨h1, m, h2, h3⟩ := hb
  exact wpAny_Name (wpAny_loadName_local S.ok.fk h1 h2 h3 h) hd
 | some c =>
  rw [hc] at hb
  rcases hb.1 with h1 | h1
  ·exact wpAny_Name (wpAny_loadName_cell S.ok.fk h1 hc hb.2 h) hd
  ·exact wpAny_Name (wpAny_loadName_free S.ok.fk h1 hc hb.2 h hn) hd
theorem jaY {x : Str} {v : Value} {Q : Unit → Shared → Prop} (G : Good w B s) (S : Sta env sc) (F : Frm env s) (hB : ∀ a ∈ Own env, B.get? a = none)
  (h : ∀ s', Bnd env x v s' → Frm env s' → (∀ y u, y ≠ x → Bnd env y u s → Bnd env y u s') → Kp [jai env x] s s' → s'.gens = s.gens → Good w B s' → Q () s')
  (hx : (env.cells.lookup x = none ∧ env.kindOf x = some .local) ∨ ∃ c, env.cells.lookup x = some c ∧ env.kindOf x = some .cell) : wpAny (model P0 w) A (storeName env x v) Q E s := by
 have hB' : B.get? (jai env x) = none := hB _ jac
 have n2 := jaP G hB'
 rcases hx with ⟨hc, hl⟩ | ⟨c, hc, hl⟩
 ·have hs : jai env x = env.locals := by unfold jai; rw [hc]; rfl
  rw [hs] at n2 hB' h
  obtain ⟨m, hm⟩ := F.ns
  refine wpAny_storeName_local hl hm (fun h' hn' hs' => ?_) (by rw [S.ok.fk]; rfl)
  have k := jaz (s := s) hs' n2 (by obtain ⟨o, _, _, ho, _⟩ := hn'; exact ⟨o, ho⟩) (tk := s.toks + 1) (Nat.le_succ _)
  refine h _ ?_ ⟨⟨_, hn'⟩, fun y c hy => ?_⟩ (fun y u hy hb => ?_) k rfl (G.kp k (al1 hB'))
  ·unfold Bnd; rw [hc]; exact ⟨hl, _, hn', by simp⟩
  ·obtain ⟨u, hu⟩ := F.ce y c hy
   exact ⟨u, jaw hu k (by simpa using S.nl y c hy)⟩
  ·unfold Bnd at hb ⊢
   cases hy' : env.cells.lookup y with
   | none =>
    rw [hy'] at hb
    obtain ⟨h1, m2, h2, h3⟩ := hb
    have := ns_uniq h2 hm
    subst this
    exact ⟨h1, _, hn', by simp [hy, h3]⟩
   | some c =>
    rw [hy'] at hb
    exact ⟨hb.1, jaw hb.2 k (by simpa using S.nl y c hy')⟩
 ·have hs : jai env x = c := by unfold jai; rw [hc]; rfl
  rw [hs] at n2 hB' h
  obtain ⟨v0, hv0⟩ := F.ce x c hc
  refine wpAny_storeName_cell S.ok.fk hl hc hv0 fun h' hc' hs' => ?_
  have k := jaz (s := s) hs' n2 (by obtain ⟨o, ho, _⟩ := hc'; exact ⟨o, ho⟩) (tk := s.toks) (Nat.le_refl _)
  refine h _ ?_ ⟨?_, fun y c' hy => ?_⟩ (fun y u hy hb => ?_) k rfl (G.kp k (al1 hB'))
  ·unfold Bnd; rw [hc]; exact ⟨.inl hl, hc'⟩
  ·obtain ⟨m, hm⟩ := F.ns
   exact ⟨m, jay hm k (by simpa using Ne.symm (S.nl x c hc))⟩
  ·by_cases q : c' = c
   ·subst q; exact ⟨_, hc'⟩
   ·obtain ⟨u, hu⟩ := F.ce y c' hy
    exact ⟨u, jaw hu k (ni1 q)⟩
  ·refine jcf hb k ?_
   unfold jai
   cases hy' : env.cells.lookup y with
   | none => simpa using Ne.symm (S.nl x c hc)
   | some c' =>
    have : c' ≠ c := fun q => by
     subst q
     exact hy (name_of_addr S.ap (mem_of_lookup hy') (mem_of_lookup hc))
    simpa using this
end
noncomputable def PL (h : Heap) (l : Addr) (vs : List Value) : Prop := ∃ ep, IsL h l vs.toArray ep
noncomputable def Outs (T : List Addr) (test : Nat → Bool) (F : Nat → Value → Shared → Prop) : Nat → List Value → Shared → Prop
 | 0, ys, _ => ys = []
 | i + 1, ys, s => if test i = true then ∃ zs y, ys = zs ++ [y] ∧ Outs T test F i zs s ∧ F i y s ∧ (∀ a, y = .ref a → a ∉ T) else Outs T test F i ys s
noncomputable def Stab (F : Nat → Value → Shared → Prop) : Prop := ∀ i y s s' S, F i y s → Kp S s s' → (∀ a, y = .ref a → a ∉ S) → F i y s'
set_option tactic.hygienic true in
theorem jcy {T S : List Addr} {test : Nat → Bool} {F : Nat → Value → Shared → Prop} (hF : Stab F) {s s' : Shared} (k : Kp S s s') (hS : ∀ a ∈ S, a ∈ T) : ∀ {i : Nat} {ys : List Value}, Outs T test F i ys s → Outs T test F i ys s' := by
 intro i
 induction i with
 | zero =>
  rintro _ h
  exact h
 | succ i ih =>
  rintro ys h
  unfold Outs at h ⊢
  split at h
  ·rename_i ht
   rw [if_pos ht]
   refine aG ?_; intro gO; obtain ⟨zs, y, e, h1, h2, h3⟩ := h; unfold gO; clear gO
   exact ⟨zs, y, e, ih h1, hF i y s s' S h2 k fun a ea m => h3 a ea (hS a m), h3⟩
  ·rename_i ht
   rw [if_neg ht]
   exact ih h
theorem outs_len {T : List Addr} {test : Nat → Bool} {F : Nat → Value → Shared → Prop} {s : Shared} : ∀ {i : Nat} {ys : List Value}, Outs T test F i ys s → ys.length ≤ i := by
 intro i
 induction i with
 | zero =>
  rintro _ h
  unfold Outs at h; simp [h]
 | succ i ih =>
  rintro ys h
  unfold Outs at h
  split at h
  ·refine aG ?_; intro gO; obtain ⟨zs, y, e, h1, _⟩ := h; unfold gO; clear gO
   have := ih h1
   rw [e]; simp; exact this
  ·have := ih h
   exact Nat.le_succ_of_le ‹_›
section
variable {w : World} {B : Heap} {A : Around} {s : Shared} {a d b e c k m x y I l f D : Addr} {L L' : List En} {ep ep' : Nat} {env cenv : Env} {sc : Scope} {E : Value → Shared → Prop}
theorem jbv {x : Str} {px : Pos} {v : Value} {Q : Unit → Shared → Prop} (h : wpAny (model P0 w) A (storeName env x v) Q E s) : wpAny (model P0 w) A (assign (.Name x px) env v) Q E s := wpAny_assign_Name h
theorem PL.list {h : Heap} {vs : List Value} (x : PL h l vs) : h.IsList l vs.toArray := let ⟨_, h⟩ := x; h.isList
theorem jaj {vs : List Value} {s' : Shared} {Sx : List Addr} (h : PL s.heap l vs) (k : Kp Sx s s') (n : l ∉ Sx) : PL s'.heap l vs := let ⟨ep, e⟩ := h; ⟨ep, k.keep _ _ e (jau ((fun h => Value.noConfusion h))) n⟩
theorem list_app {vs : List Value} {y : Value} {Q : Value → Shared → Prop} (G : Good w B s) (hl : PL s.heap l vs) (hB : B.get? l = none) (hsz : vs.length ≤ 1000)
  (h : ∀ s', PL s'.heap l (vs ++ [y]) → Kp [l] s s' → s'.gens = s.gens → Good w B s' → Q .none s') : wpAny (model P0 w) A (call (.builtin "list.append") [.ref l, y]) Q E s := by
 have n2 : l ≠ 2 := jaP G hB
 have hz : vs.toArray.size ≤ sizeLine := Nat.le_trans hsz (show 1000 ≤ sizeLine by decide)
 obtain ⟨ep, e⟩ := hl
 refine wpAny_call_entry slot_list_append (IsL.isList e).typeIs entry_list_append ?_ (args_list_append _ _)
 show wpAny _ _ (updateSeq l (·.push y) >>= fun Y => ret .none) _ _ s
 refine wpAny_bind (wpAny_updateSeq (hz := hz) (_hz' := by rw [Array.size_push]; exact lq4 ‹_› (by rfl)) e rfl (wpAny_pure ⟨.none, rfl, ?_⟩))
 have e' := IsL.update e (·.push y)
 have k := jaz (s := s) (h' := s.heap.update l (Obj.mapSeq (·.push y))) (Heap.SameBut.update ..) n2 ⟨_, e'⟩ (Nat.le_refl s.toks)
 refine h _ ⟨_, by simpa using e'⟩ k rfl (G.kp k (al1 hB))
theorem lc_loop {elt iter : Expr} {x : Str} {px : Pos} {ifs : List Expr} {scope : Scope} {pos : Pos} {sc' : Scope} {fp : List Addr} {n nn : Nat} {P : Nat → Value → Prop} {St : Nat → Shared → Prop} {test : Nat → Bool} {F : Nat → Value → Shared → Prop} {R : Result → Shared → Prop} {s1 : Shared}
  (S : Sta cenv sc') (hA : Rm nn A) (W : KW w B I fp n P St) (hn : n ≤ 1000) (hF : Stab F)
  (G1 : Good w B s1) (hfI : s1.heap.get? I = none) (hfD : s1.heap.get? D = none) (hsl : s1.heap.get? (jai cenv x) = none) (hfL : s1.heap.get? cenv.locals = none) (hBo : ∀ a ∈ Own cenv, B.get? a = none)
  (dI : D ≠ I) (oI : ∀ a ∈ Own cenv, a ≠ I) (oD : ∀ a ∈ Own cenv, a ≠ D) (fpD : ∀ a ∈ fp, a ≠ D) (fpO : ∀ a ∈ fp, a ∉ Own cenv)
  (hx : (cenv.cells.lookup x = none ∧ cenv.kindOf x = some .local) ∨ ∃ c, cenv.cells.lookup x = some c ∧ cenv.kindOf x = some .cell)
  (body : ∀ (A' : Around) i v s, Rm nn A' → i < n → P i v → Kp [] s1 s → Good w B s → Frm cenv s → Bnd cenv x v s →
   Wp w A' (forIn ifs true fun c r => if r = true then do let ok ← isTrue c cenv (eval c cenv); pure (ForInStep.yield ok) else pure (ForInStep.yield r)) (fun ok s' => ok = test i ∧ Kp [] s s' ∧
    (test i = true → Wp w A' (eval elt cenv) (fun y s'' => F i y s'' ∧ Kp [] s' s'' ∧ (∀ a, y = .ref a → s'.heap.get? a = none)) s')) s)
  (fin : ∀ s ys, Outs [I, D, jai cenv x, cenv.locals] test F n ys s → Kp [] s1 s → Good w B s → Frm cenv s → PL s.heap D ys → R (.ok .next) s) :
  ∀ i ys s, Outs [I, D, jai cenv x, cenv.locals] test F i ys s → i ≤ n → Kp [] s1 s → Good w B s → St i s → Frm cenv s → PL s.heap D ys → (∃ o, s.heap.get? I = some o) →
   codeAny (model P0 w) A (.compLoop (.ListComp elt [⟨.Name x px, iter, ifs, 0⟩] scope pos) 0 (.ref I) (.ref D) cenv) R s := by
 have fT : ∀ a ∈ [I, D, jai cenv x, cenv.locals], s1.heap.get? a = none := by
  intro a ha
  simp only [List.mem_cons, List.not_mem_nil, or_false] at ha
  rcases ha with rfl | rfl | rfl | rfl
  ·exact hfI
  ·exact hfD
  ·exact hsl
  ·exact hfL
 intro i ys s hO hi K G st Fr hl hI
 refine codeAny_compLoop_tests (fun k s => ∃ i ys, k = n - i ∧ Outs [I, D, jai cenv x, cenv.locals] test F i ys s ∧ i ≤ n ∧ Kp [] s1 s ∧ Good w B s ∧ St i s ∧ Frm cenv s ∧ PL s.heap D ys ∧ ∃ o, s.heap.get? I = some o) ?_ (n - i) ⟨i, ys, rfl, hO, hi, K, G, st, Fr, hl, hI⟩
 rintro k s ⟨i, ys, rfl, hO, hi, K, G, st, Fr, hl, hI⟩
 have hh := hA.1
 by_cases hlt : i < n
 ·refine W.item A i s _ _ hh G hlt st fun v s2 hv st2 k2 g2 => ?_
  have K2 := K.comp0 G1 k2 (al1 hfI)
  have G2 := G.kp k2 (by simpa using G1.new hfI)
  have Fr2 := ja0 Fr k2 (fun a ha => by simpa using oI a ha)
  have hl2 := jaj hl k2 (ni1 dI)
  have hO2 := jcy hF k2 (by simp) hO
  refine jbv (jaY G2 S Fr2 hBo (fun s3 B3 Fr3 Y k3 g3 G3 => ?_) hx)
  have K3 := K2.comp0 G1 k3 (al1 hsl)
  have st3 := W.frame _ _ _ _ st2 k3 (by
   intro a ha q
   cases List.mem_singleton.mp q
   rcases List.mem_cons.mp ha with q | q
   ·exact oI _ jac q
   ·exact fpO _ q jac)
  have hl3 := jaj hl2 k3 (by simpa using Ne.symm (oD _ jac))
  have hO3 := jcy hF k3 (by simp) hO2
  have hI3 : ∃ o, s3.heap.get? I = some o := by
   obtain ⟨o, e⟩ := hI
   obtain ⟨o2, e2⟩ := k2.there _ _ e
   exact k3.there _ _ e2
  refine (body A i v s3 hA hlt hv K3 G3 Fr3 B3).useE fun s4 hx0 => ?_
  obtain ⟨k4, hel⟩ := hx0
  have K4 := K3.comp0 G1 k4 al0
  have G4 := G3.kp k4 al0
  have Fr4 := ja0 Fr3 k4 nn0
  have st4 := W.frame _ _ _ _ st3 k4 nn0
  have hl4 := jaj hl3 k4 ni0
  have hO4 := jcy hF k4 al0 hO3
  have hI4 : ∃ o, s4.heap.get? I = some o := by obtain ⟨o, e⟩ := hI3; exact k4.there _ _ e
  cases ht : test i with
  | false =>
   rw [if_neg Bool.noConfusion]
   exact ⟨n - (i + 1), by exact lqk ‹_›, i + 1, ys, rfl, by unfold Outs; rw [if_neg (by simp [ht])]; exact hO4, hlt, K4, G4, st4, Fr4, hl4, hI4⟩
  | true =>
   rw [if_pos rfl]
   refine (hel ht).use fun y s5 hx0 => ?_
   refine aG ?_; intro gO; obtain ⟨hy, k5, hfr⟩ := hx0; unfold gO; clear gO
   have K5 := K4.comp0 G1 k5 al0
   have G5 := G4.kp k5 al0
   have Fr5 := ja0 Fr4 k5 nn0
   have st5 := W.frame _ _ _ _ st4 k5 nn0
   have hl5 := jaj hl4 k5 ni0
   have hO5 := jcy hF k5 al0 hO4
   have hsz := outs_len hO5
   have nT : ∀ a, y = .ref a → a ∉ [I, D, jai cenv x, cenv.locals] := fun a ea ma => by
    have hf := hfr a ea
    simp only [List.mem_cons, List.not_mem_nil, or_false] at ma
    rcases ma with rfl | rfl | rfl | rfl
    ·obtain ⟨o, e⟩ := hI4; rw [hf] at e; cases e
    ·obtain ⟨ep, e⟩ := hl4; rw [IsL, hf] at e; cases e
    ·rcases hx with ⟨hc, _⟩ | ⟨c, hc, _⟩
     ·have hs : jai cenv x = cenv.locals := by unfold jai; rw [hc]; rfl
      rw [hs] at hf
      refine aG ?_; intro gO; obtain ⟨m, o, _, _, ho, _⟩ := Fr4.ns; unfold gO; clear gO
      rw [hf] at ho; cases ho
     ·have hs : jai cenv x = c := by unfold jai; rw [hc]; rfl
      rw [hs] at hf
      refine aG ?_; intro gO; obtain ⟨u, o, ho, _⟩ := Fr4.ce x c hc; unfold gO; clear gO
      rw [hf] at ho; cases ho
    ·refine aG ?_; intro gO; obtain ⟨m, o, _, _, ho, _⟩ := Fr4.ns; unfold gO; clear gO
     rw [hf] at ho; cases ho
   refine list_app G5 hl5 (G1.new hfD) (lsq ‹_› ‹_› ‹_› (by rfl)) fun s6 hl6 k6 g6 G6 => ?_
   have hI6 : ∃ o, s6.heap.get? I = some o := by
    obtain ⟨o, e⟩ := hI4
    obtain ⟨o2, e2⟩ := k5.there _ _ e
    exact k6.there _ _ e2
   refine ⟨n - (i + 1), by exact lqk ‹_›, i + 1, ys ++ [y], rfl, ?_, hlt, K5.comp0 G1 k6 (al1 hfD), G6, W.frame _ _ _ _ st5 k6 ?_, ja0 Fr5 k6 (fun a ha => by simpa using oD a ha), hl6, hI6⟩
   ·unfold Outs
    rw [if_pos ht]
    exact ⟨ys, y, rfl, jcy hF k6 (by simp) hO5, hF i y _ _ _ hy k6 (fun a ea q => nT a ea (by cases List.mem_singleton.mp q; simp)), nT⟩
   ·intro a ha q
    cases List.mem_singleton.mp q
    rcases List.mem_cons.mp ha with q | q
    ·exact dI q
    ·exact fpD _ q rfl
 ·have hin : i = n := by exact ltf ‹_› ‹_›
  subst hin
  refine W.done A s _ _ hh G st fun s2 k2 g2 => ?_
  exact fin s2 ys (jcy hF k2 (by simp) hO) (K.comp0 G1 k2 (al1 hfI)) (G.kp k2 (by simpa using G1.new hfI)) (ja0 Fr k2 (fun a ha => by simpa using oI a ha)) (jaj hl k2 (ni1 dI))
end
noncomputable def jav (scope sc : Scope) : Scope := { scope with names := scope.names.map fun (n, k) => if (k == .free && sc.kind == .function && sc.names.lookup n == some .cell) then (n, .cell) else (n, k) }
theorem relab_eq {env : Env} {sc scope : Scope} (O : EnvOk env sc) : relabel scope env = jav scope sc := by
 unfold relabel jav Env.kindOf; rw [O.scq]
structure CompT (scope sc : Scope) (cl : List (Str × Addr)) (x : Str) (xc : Bool) : Prop where
 kind : scope.kind = .function
 names : ∀ y ∈ scope.names, y.2 = .local → scope.names.lookup y.1 = some .local
 cf : ∀ N, cellsFrom N scope.names cl = if xc then (x, N) :: cl else cl
 pc : ∀ h, pushCells h scope.names = if xc then h.push { cls := .type "cell", data := .cell none } else h
 x0 : cl.lookup x = none
 xk : (jav scope sc).names.lookup x = some (if xc then .cell else .local)
section
variable {w : World} {B : Heap} {A : Around} {s : Shared} {a d b e c k m x y I l f D : Addr} {L L' : List En} {ep ep' : Nat} {env cenv : Env} {sc : Scope} {E : Value → Shared → Prop}
theorem comp_env {scope : Scope} {cl : List (Str × Addr)} {x : Str} {xc : Bool} {qual : Str} {Q : Env → Shared → Prop} (G : Good w B s) (O : EnvOk env sc) (T : CompT scope sc cl x xc)
  (hcl : ∀ p ∈ cl, ∃ v, s.heap.IsCell p.2 v) (hap : cl.Pairwise fun x y => x.2 ≠ y.2) (hclB : ∀ p ∈ cl, B.get? p.2 = none)
  (h : ∀ cenv s', s'.heap.get? cenv.locals ≠ none → s.heap.get? cenv.locals = none → Sta { cenv with scope := relabel scope env } (jav scope sc) → Frm { cenv with scope := relabel scope env } s' →
   (∃ N, cenv.cells = (if xc then (x, N) :: cl else cl) ∧ (xc = true → s.heap.get? N = none ∧ N ≠ cenv.locals)) → (∀ a ∈ Own cenv, B.get? a = none) → Kp [] s s' → Good w B s' → Q cenv s') :
  wpAny (model P0 w) A (newFunctionEnv scope env.globals cl [] qual none .none (some env)) Q E s := by
 have hg : ∀ {c : Addr}, s.heap.objs.size ≤ c → s.heap.get? c = none := fun {c} hc => by
  cases e : s.heap.get? c with
  | none => rfl
  | some o => exact absurd (Heap.lt_size e) (Nat.not_lt.mpr hc)
 simp only [newFunctionEnv, Option.isSome_some, if_true]
 refine wpAny_bind (wpAny_alloc ?_)
 refine wpAny_bind (wpAny_layCells _ (fun name kind cells => by cases hkc : kind == NameKind.cell <;> simp [hkc]) _ _ _ _ ?_)
 rw [show ({ s with heap := s.heap.push { cls := .type "dict", data := .dict #[] } } : Shared).heap.objs.size = s.heap.objs.size + 1 from Heap.size_push ..]
 rw [List.forIn_nil]
 refine wpAny_bind (wpAny_pure (wpAny_pure ?_))
 have up : ∀ b o, s.heap.get? b = some o → (pushCells (s.heap.push { cls := .type "dict", data := .dict #[] }) scope.names).get? b = some o := fun b o e => pushCells_keeps _ _ b o (Heap.get?_push_of_some _ e)
 have K : Kp [] s { s with heap := pushCells (s.heap.push { cls := .type "dict", data := .dict #[] }) scope.names } := jat up G.two rfl (Nat.le_refl _) rfl
 have hL : (pushCells (s.heap.push { cls := .type "dict", data := .dict #[] }) scope.names).get? s.heap.objs.size = some { cls := .type "dict", data := .dict #[] } := pushCells_keeps _ _ _ _ (Heap.get?_push_size _ rfl)
 have hNs : (pushCells (s.heap.push { cls := .type "dict", data := .dict #[] }) scope.names).Ns s.heap.objs.size (fun Y => none) := ⟨_, _, _, hL, rfl, fun e he => by simp at he, fun Y => rfl⟩
 have G' := G.kp K al0
 have ncl : ∀ p ∈ cl, p.2 ≠ s.heap.objs.size ∧ p.2 ≠ s.heap.objs.size + 1 := fun p hp => by
  obtain ⟨v, o, ho, _⟩ := hcl p hp
  have := Heap.lt_size ho
  exact ⟨Nat.ne_of_lt this, Nat.ne_of_lt (Nat.lt_succ_of_lt this)⟩
 refine h _ _ (by show (pushCells _ _).get? s.heap.objs.size ≠ none; rw [hL]; simp) (hg (Nat.le_refl _)) ⟨⟨relab_eq O, O.gl, O.bu, T.kind⟩, ?_, ?_⟩ ⟨⟨_, hNs⟩, ?_⟩ ⟨s.heap.objs.size + 1, T.cf _, fun Y => ⟨hg (Nat.le_succ _), by show s.heap.objs.size + 1 ≠ s.heap.objs.size; exact Nat.succ_ne_self _⟩⟩ ?_ K G'
 ·show (cellsFrom (s.heap.objs.size + 1) scope.names cl).Pairwise _
  rw [T.cf]
  cases xc with
  | false => exact hap
  | true =>
   refine List.pairwise_cons.mpr ⟨fun y hy => ?_, hap⟩
   exact Ne.symm (ncl y hy).2
 ·intro y c hy
  have hy' : (cellsFrom (s.heap.objs.size + 1) scope.names cl).lookup y = some c := hy
  rw [T.cf] at hy'
  show c ≠ s.heap.objs.size
  cases xc with
  | false => exact (ncl _ (mem_of_lookup hy')).1
  | true =>
   rcases List.mem_cons.mp (mem_of_lookup hy') with q | q
   ·cases q; exact Nat.succ_ne_self _
   ·exact (ncl _ q).1
 ·intro y c hy
  have hy' : (cellsFrom (s.heap.objs.size + 1) scope.names cl).lookup y = some c := hy
  rw [T.cf] at hy'
  show ∃ v, (pushCells _ _).IsCell c v
  cases xc with
  | false =>
   obtain ⟨v, hv⟩ := hcl _ (mem_of_lookup hy')
   exact ⟨v, hv.keeps up⟩
  | true =>
   rcases List.mem_cons.mp (mem_of_lookup hy') with q | q
   ·cases q
    refine ⟨none, { cls := .type "cell", data := .cell none }, ?_, rfl⟩
    rw [T.pc]
    rw [if_pos rfl]
    have := Heap.get?_push_size (s.heap.push { cls := .type "dict", data := .dict #[] }) (o := { cls := .type "cell", data := .cell none }) rfl
    rwa [Heap.size_push] at this
   ·obtain ⟨v, hv⟩ := hcl _ q
    exact ⟨v, hv.keeps up⟩
 ·intro a ha
  have ha' : a ∈ s.heap.objs.size :: (cellsFrom (s.heap.objs.size + 1) scope.names cl).map (·.2) := ha
  rw [T.cf] at ha'
  rcases List.mem_cons.mp ha' with rfl | ha'
  ·exact G.new (hg (Nat.le_refl _))
  ·obtain ⟨p, hp, rfl⟩ := List.mem_map.mp ha'
   cases xc with
   | false => exact hclB _ hp
   | true =>
    rcases List.mem_cons.mp hp with rfl | hp
    ·exact G.new (hg (by show s.heap.objs.size ≤ s.heap.objs.size + 1; exact Nat.le_succ _))
    ·exact hclB _ hp
end
section
variable {w : World} {B : Heap} {A : Around} {s : Shared} {a d b e c k m x y I l f D : Addr} {L L' : List En} {ep ep' : Nat} {env cenv : Env} {sc : Scope} {E : Value → Shared → Prop}
noncomputable def Body (w : World) (B : Heap) (nn : Nat) (sc' : Scope) (cl : List (Str × Addr)) (x : Str) (xc : Bool) (ifs : List Expr) (elt : Expr) (s1 : Shared) (n : Nat) (P : Nat → Value → Prop) (test : Nat → Bool) (F : Nat → Value → Shared → Prop) : Prop :=
 ∀ (cenv : Env) (A' : Around) i v s, Sta cenv sc' → (∃ N, cenv.cells = (if xc then (x, N) :: cl else cl)) → (∀ a ∈ Own cenv, B.get? a = none) → Rm nn A' → i < n → P i v → Kp [] s1 s → Good w B s → Bnd cenv x v s →
   Wp w A' (forIn ifs true fun c r => if r = true then do let ok ← isTrue c cenv (eval c cenv); pure (ForInStep.yield ok) else pure (ForInStep.yield r)) (fun ok s' => ok = test i ∧ Kp [] s s' ∧
    (test i = true → Wp w A' (eval elt cenv) (fun y s'' => F i y s'' ∧ Kp [] s' s'' ∧ (∀ a, y = .ref a → s'.heap.get? a = none)) s')) s
theorem lc_start {elt iter : Expr} {x : Str} {px : Pos} {ifs : List Expr} {scope : Scope} {pos : Pos} {cl : List (Str × Addr)} {xc : Bool} {nn n : Nat} {fp : List Addr} {P : Nat → Value → Prop} {test : Nat → Bool} {F : Nat → Value → Shared → Prop} {s1 : Shared} {it : Value} {RR : Value → Addr → Result → Shared → Prop}
  (O : EnvOk env sc) (T : CompT scope sc cl x xc) (hA : Rm nn A) (hF : Stab F) (hn : n ≤ 1000) (G1 : Good w B s1)
  (hcl : ∀ p ∈ cl, ∃ v, s1.heap.IsCell p.2 v) (hap : cl.Pairwise fun x y => x.2 ≠ y.2) (hclB : ∀ p ∈ cl, B.get? p.2 = none) (fpc : ∀ a ∈ fp, a ∉ cl.map (·.2))
  (It : Iter w B s1 fp n P it s)
  (hb : Body w B nn (jav scope sc) cl x xc ifs elt s1 n P test F)
  (hRR : ∀ D C ys s' T, s1.heap.get? D = none → s1.heap.get? C = none → D ≠ C → (∃ m, s'.heap.Ns C m) → PL s'.heap D ys → Outs T test F n ys s' → D ∈ T → C ∈ T → Kp [] s1 s' → Good w B s' → RR (.ref D) C (.ok .next) s') :
  wpAny (model P0 w) A (newList []) (fun acc s₃ => wpAny (model P0 w) A (newFunctionEnv scope env.globals cl [] env.qual none .none (some env)) (fun cenv s₄ =>
   codeAny (model P0 w) A (.compStart (.ListComp elt [⟨.Name x px, iter, ifs, 0⟩] scope pos) 0 it acc { cenv with scope := relabel scope env }) (RR acc cenv.locals) s₄) E s₃) E s := by
 refine lA ?_
 intro Ro
 obtain ⟨⟨I, St, ei, W, st, fI, aI⟩, al, k1, g1⟩ := It
 subst ei
 have G := G1.kp k1 al0
 refine wpAny_newObj_type ?_ (by size_fits)
 have kD : Kp [] s { s with heap := s.heap.push { cls := .type "list", dict := none, data := .seq ([] : List Value).toArray } } := jar G
 have lD : ({ s with heap := s.heap.push { cls := .type "list", dict := none, data := .seq ([] : List Value).toArray } } : Shared).heap.objs.size = _ ∧ PL ({ s with heap := s.heap.push { cls := .type "list", dict := none, data := .seq ([] : List Value).toArray } } : Shared).heap s.heap.objs.size ([] : List Value) := ⟨rfl, 0, Heap.get?_push_size _ rfl⟩
 replace lD := lD.2
 have fD : s.heap.get? s.heap.objs.size = none := jag
 generalize s.heap.objs.size = D at lD fD ⊢
 generalize ({ s with heap := s.heap.push { cls := .type "list", dict := none, data := .seq ([] : List Value).toArray } } : Shared) = s2 at kD lD ⊢
 have G2 := G.kp kD al0
 have K2 : Kp [] s1 s2 := (k1.trans kD).mono al0
 have fD1 := k1.back fD
 have cell2 : ∀ p ∈ cl, ∃ v, s2.heap.IsCell p.2 v := fun p hp => by
  obtain ⟨v, hv⟩ := hcl p hp
  exact ⟨v, jaw hv K2 ni0⟩
 refine comp_env G2 O T cell2 hap hclB fun cenv s3 aL fL Sc Fr hce hOwn k3 G3 => ?_
 obtain ⟨N, hN, hN2⟩ := hce
 have K3 : Kp [] s1 s3 := (K2.trans k3).mono al0
 have st3 := W.frame _ _ _ _ (W.frame _ _ _ _ st kD nn0) k3 nn0
 have lD3 := jaj lD k3 ni0
 have aI2 : ∃ o, s2.heap.get? I = some o := by obtain ⟨o, e⟩ := aI; exact kD.there _ _ e
 have aI3 : ∃ o, s3.heap.get? I = some o := by obtain ⟨o, e⟩ := aI2; exact k3.there _ _ e
 have fL1 := K2.back fL
 obtain ⟨epD, eD⟩ := id lD
 replace eD : s2.heap.get? D = some _ := eD
 obtain ⟨oI, eI⟩ := aI2
 have aD0 : D ≠ I := fun q => by obtain ⟨o, e⟩ := aI; rw [← q, fD] at e; cases e
 have nLI : cenv.locals ≠ I := fun q => by rw [q, eI] at fL; cases fL
 have nLD : cenv.locals ≠ D := fun q => by rw [q, eD] at fL; cases fL
 have ownC : ∀ a ∈ Own { cenv with scope := relabel scope env }, a = cenv.locals ∨ (xc = true ∧ a = N) ∨ a ∈ cl.map (·.2) := by
  intro a ha
  have ha' : a ∈ cenv.locals :: cenv.cells.map (·.2) := ha
  rcases List.mem_cons.mp ha' with q | q
  ·exact .inl q
  ·rw [hN] at q
   cases xc with
   | false => exact .inr (.inr q)
   | true =>
    rcases List.mem_cons.mp q with q | q
    ·exact .inr (.inl ⟨rfl, q⟩)
    ·exact .inr (.inr q)
 have clA : ∀ a ∈ cl.map (·.2), ∃ o, s1.heap.get? a = some o := fun a ha => by
  obtain ⟨p, hp, rfl⟩ := List.mem_map.mp ha
  obtain ⟨v, o, ho, _⟩ := hcl p hp
  exact ⟨o, ho⟩
 have hx : ((cenv.cells.lookup x = none ∧ (jav scope sc).names.lookup x = some .local) ∨ ∃ c, cenv.cells.lookup x = some c ∧ (jav scope sc).names.lookup x = some .cell) := by
  have := T.xk
  rw [hN]
  cases xc with
  | false => exact .inl ⟨T.x0, this⟩
  | true => exact .inr ⟨N, by simp [List.lookup_cons], this⟩
 have hsl : jai { cenv with scope := relabel scope env } x = cenv.locals ∨ (xc = true ∧ jai { cenv with scope := relabel scope env } x = N) := by
  show (cenv.cells.lookup x).getD cenv.locals = cenv.locals ∨ (xc = true ∧ (cenv.cells.lookup x).getD cenv.locals = N)
  rw [hN]
  cases xc with
  | false => left; rw [if_neg Bool.noConfusion, T.x0]; rfl
  | true => right; simp [List.lookup_cons]
 have loop := lc_loop (A := A) (elt := elt) (iter := iter) (px := px) (ifs := ifs) (scope := scope) (pos := pos) (cenv := { cenv with scope := relabel scope env }) (nn := nn) (R := RR (.ref D) cenv.locals) Sc hA W hn hF G1 fI fD1
  (by
   rcases hsl with q | ⟨q1, q⟩
   ·rw [q]; exact fL1
   ·rw [q]; exact K2.back (hN2 q1).1) fL1 hOwn aD0
  (fun a ha q => by
   rcases ownC a ha with r | ⟨r1, r⟩ | r
   ·exact nLI (r.symm.trans q)
   ·rw [← q, r, (hN2 r1).1] at eI; cases eI
   ·obtain ⟨o, e⟩ := clA a r; rw [q, fI] at e; cases e)
  (fun a ha q => by
   rcases ownC a ha with r | ⟨r1, r⟩ | r
   ·exact nLD (r.symm.trans q)
   ·rw [← q, r, (hN2 r1).1] at eD; cases eD
   ·obtain ⟨o, e⟩ := clA a r; rw [q, fD1] at e; cases e)
  (fun a ha q => by obtain ⟨o, e⟩ := al a ha; rw [q, fD1] at e; cases e)
  (fun a ha q => by
   obtain ⟨o, e⟩ := al a ha
   rcases ownC a q with r | ⟨r1, r⟩ | r
   ·rw [r, fL1] at e; cases e
   ·rw [r, K2.back (hN2 r1).1] at e; cases e
   ·exact fpc a ha r)
  (by
   rcases hx with ⟨h1, h2⟩ | ⟨c, h1, h2⟩
   ·exact .inl ⟨h1, Sc.ok.kind h2⟩
   ·exact .inr ⟨c, h1, Sc.ok.kind h2⟩)
  (fun A' i v s hA' hi hv K G Fr hbn => hb { cenv with scope := relabel scope env } A' i v s Sc ⟨N, hN⟩ hOwn hA' hi hv K G hbn)
  (fun s ys hO K G Fr hl => hRR D cenv.locals ys s _ fD1 fL1 (Ne.symm nLD) Fr.ns hl hO (List.Mem.tail _ (List.Mem.head _)) (by simp) K G)
  0 [] s3 rfl (Nat.zero_le _) K3 G3 st3 Fr lD3 aI3
 refine codeAny_compStart_list loop (W.self _ 0 _ _ _ st3 loop)
end
theorem Kp.but {w : World} {B : Heap} {s0 s : Shared} {C : Addr} {h' : Heap} (G : Good w B s0) (k : Kp [] s0 s) (hC : s0.heap.get? C = none) (hs : Heap.SameBut C s.heap h') : Kp [] s0 { s with heap := h' } := by
 have ne : ∀ b o, s0.heap.get? b = some o → b ≠ C := fun b o e q => by rw [q, hC] at e; cases e
 refine ⟨fun b o e hc Y => (hs.2 b (ne b o e)).trans (k.keep b o e hc ni0), fun b o e => ?_, fun B' Y OT => ?_, fun Y => ?_, k.os, k.tk, k.gb⟩
 ·obtain ⟨o', e'⟩ := k.there b o e
  exact ⟨o', (hs.2 b (ne b o e)).trans e'⟩
 ·have O := k.old B' al0 OT
  have hB : ∀ b o, B'.get? b = some o → b ≠ C := fun b o e => by
   obtain ⟨o', e'⟩ := OT.there b o e
   exact ne b o' e'
  refine O.step_but (S := [C]) (h' := h') (fun a ha => ?_) (fun b o e hb => (hs.2 b ((fun e => hb (List.mem_singleton.mpr e)))).trans e) ⟨fun b o e => ?_, fun b o e => ?_⟩
  ·cases List.mem_singleton.mp ha
   cases e : B'.get? C with
   | none => rfl
   | some o => exact absurd rfl (hB C o e)
  ·rcases O.ok.old b o e with x | ⟨t, hc, vs, more, hv, x⟩ | ⟨rfl, hc, ⟨o', es, n, ho', r⟩, z⟩
   ·exact .inl ((hs.2 b (hB b o e)).trans x)
   ·exact .inr (.inl ⟨t, hc, vs, more, hv, (hs.2 b (hB b o e)).trans x⟩)
   ·exact .inr (.inr ⟨rfl, hc, ⟨o', es, n, (hs.2 _ (hB _ o e)).trans ho', r⟩, fun key => by rw [OldK.staticOf_congr (hs.2 _ (hB _ o e)) key]; exact z key⟩)
  ·obtain ⟨o', e'⟩ := O.there b o e
   exact ⟨o', (hs.2 b (hB b o e)).trans e'⟩
 ·obtain ⟨o, e⟩ := G.two
  exact (hs.2 2 (ne 2 o e)).trans (k.stat ni0)
section
variable {w : World} {B : Heap} {A : Around} {s : Shared} {a d b e c k m x y I l f D : Addr} {L L' : List En} {ep ep' : Nat} {env cenv : Env} {sc : Scope} {E : Value → Shared → Prop}
set_option tactic.hygienic true in
theorem outs_but {T : List Addr} {test : Nat → Bool} {F : Nat → Value → Shared → Prop} {C : Addr} {h' : Heap} (hF : ∀ i y, F i y s → (∀ a, y = .ref a → a ≠ C) → F i y { s with heap := h' }) (hC : C ∈ T) : ∀ {i : Nat} {ys : List Value}, Outs T test F i ys s → Outs T test F i ys { s with heap := h' } := by
 intro i
 induction i with
 | zero =>
  rintro _ h
  exact h
 | succ i ih =>
  rintro ys h
  unfold Outs at h ⊢
  split at h
  ·rename_i ht
   rw [if_pos ht]
   refine aG ?_; intro gO; obtain ⟨zs, y, e, h1, h2, h3⟩ := h; unfold gO; clear gO
   exact ⟨zs, y, e, ih h1, hF i y h2 fun a ea q => h3 a ea (q ▸ hC), h3⟩
  ·rename_i ht
   rw [if_neg ht]
   exact ih h
noncomputable def StabB (F : Nat → Value → Shared → Prop) : Prop := ∀ i y s C h', F i y s → (∀ a, y = .ref a → a ≠ C) → Heap.SameBut C s.heap h' → F i y { s with heap := h' }
theorem jbV {elt iter : Expr} {x : Str} {px : Pos} {ifs : List Expr} {scope : Scope} {pos : Pos} {cl : List (Str × Addr)} {xc : Bool} {nn : Nat} {Q : Value → Shared → Prop}
  (O : EnvOk env sc) (T : CompT scope sc cl x xc) (hA : Rm nn A) (hclos : closureFor scope env = pure cl) (hap : cl.Pairwise fun x y => x.2 ≠ y.2) (hclB : ∀ p ∈ cl, B.get? p.2 = none)
  (h : wpAny (model P0 w) A (eval iter env) (fun xv s₁ => wpAny (model P0 w) A (pyIter xv) (fun it s₂ => ∃ fp n P test F, Good w B s₁ ∧ (∀ p ∈ cl, ∃ v, s₁.heap.IsCell p.2 v) ∧ (∀ a ∈ fp, a ∉ cl.map (·.2)) ∧ Iter w B s₁ fp n P it s₂ ∧ Stab F ∧ StabB F ∧ n ≤ 1000 ∧
   Body w B nn (jav scope sc) cl x xc ifs elt s₁ n P test F ∧
   (∀ D ys T s', s₁.heap.get? D = none → PL s'.heap D ys → Outs T test F n ys s' → D ∈ T → Kp [] s₁ s' → Good w B s' → Q (.ref D) s')) E s₁) E s)
  (hs : ∀ x, foldedSetIterable iter env x = pure x := by intro _; rfl) : wpAny (model P0 w) A (eval (.ListComp elt [⟨.Name x px, iter, ifs, 0⟩] scope pos) env) Q E s := by
 rw [eval_ListComp]
 refine wpAny_comprehension_free (use := none) rfl hs hclos T.kind T.names (wpAny_mono h (fun xv s₁ h₁ => wpAny_mono h₁ (fun it s₂ h₂ => ?_) fun Y Y z => z) fun Y Y z => z)
 refine aG ?_; intro gO; obtain ⟨fp, n, P, test, F, G1, hcl, fpc, It, hF, hFB, hn, hb, hq⟩ := h₂; unfold gO; clear gO
 refine lc_start (RR := fun acc C => compPost (model P0 w) A E none Q acc C) O T hA hF hn G1 hcl hap hclB fpc It hb ?_
 intro D C ys s' T fD fC nDC hns hl hO hD hC K G
 obtain ⟨m, hm⟩ := hns
 refine ⟨m, hm, fun h' hs' => ?_⟩
 refine hq D ys T _ fD (let ⟨ep, e⟩ := hl; ⟨ep, (hs'.2 D nDC).trans e⟩) (outs_but (fun i y hy ha => hFB i y s' C h' hy ha hs') hC hO) hD (Kp.but G1 K fC hs') ?_
 exact G1.kp (Kp.but G1 K fC hs') al0
end
section
variable {w : World} {B : Heap} {A : Around} {s : Shared} {a d b e c k m x y I l f D : Addr} {L L' : List En} {ep ep' : Nat} {env cenv : Env} {sc : Scope} {E : Value → Shared → Prop}
noncomputable def jaB (env : Env) (x : Str) : Prop := (env.cells.lookup x = none ∧ env.kindOf x = some .local) ∨ ∃ c, env.cells.lookup x = some c ∧ env.kindOf x = some .cell
theorem for_rule {x : Str} {px : Pos} {body : List Stmt} {R : Result → Shared → Prop} {fp : List Addr} {n nn : Nat} {P : Nat → Value → Prop} {St : Nat → Shared → Prop} (S : Sta env sc) (hA : Rm nn A) (W : KW w B I fp n P St)
  (hBI : B.get? I = none) (fpO : ∀ a ∈ fp, a ∉ Own env) (IO : ∀ a ∈ Own env, a ≠ I) (hBo : ∀ a ∈ Own env, B.get? a = none) (hx : jaB env x)
  (J : Nat → Shared → Prop) (hJ : ∀ i s, J i s → Good w B s ∧ Frm env s)
  (step : ∀ i v s s2, i < n → P i v → J i s → (∃ o, s.heap.get? I = some o ∧ jba o) → Kp [I, jai env x] s s2 → Bnd env x v s2 → (∀ y u, y ≠ x → Bnd env y u s → Bnd env y u s2) → Good w B s2 → Frm env s2 →
   Wp w A (execs body env) (fun f s3 => match f with
    | .next | .cont => J (i + 1) s3 ∧ ∃ Z, Kp Z s2 s3 ∧ ∀ a ∈ I :: fp, a ∉ Z
    | .ret v => R (.ok (.ret v)) s3
    | .brk => False) s2)
  (fin : ∀ s s2, J n s → (∃ o, s.heap.get? I = some o ∧ jba o) → Kp [I] s s2 → R (.ok .next) s2) (h0 : J 0 s) (st0 : St 0 s) : codeAny (model P0 w) A (.forLoop (.Name x px) (.ref I) body [] env) R s := by
 have hh := hA.1
 refine codeAny_forLoop_any (fun k s => ∃ i, i ≤ n ∧ k = n - i ∧ J i s ∧ St i s) ?_ n ⟨0, Nat.zero_le _, rfl, h0, st0⟩
 rintro k s ⟨i, hi, rfl, hj, st⟩
 obtain ⟨G, F⟩ := hJ i s hj
 by_cases hlt : i < n
 ·refine W.item A i s _ _ hh G hlt st fun v s1 hv st1 k1 g1 => ?_
  have G1 := G.kp k1 (al1 hBI)
  have F1 := ja0 F k1 (fun a ha => by simpa using IO a ha)
  refine wpAny_of_eq (rfl : letOwnedTupleGo (.Name x px) (.ref I) v = pure ()) ?_
  refine jbv (jaY G1 S F1 hBo (fun s2 B2 F2 hk k2 g2 G2 => ?_) hx)
  have st2 := W.frame _ _ _ _ st1 k2 (by
   intro a ha q
   cases List.mem_singleton.mp q
   rcases List.mem_cons.mp ha with q | q
   ·exact IO _ jac q
   ·exact fpO _ q jac)
  refine (step i v s s2 hlt hv hj (W.cl i s st) ((k1.trans k2).mono sm0) B2 (fun y u hy hb => hk y u hy (jaA hb k1 (fun a ha => by simpa using IO a ha))) G2 F2).use fun fl s3 hf => ?_
  have go : J (i + 1) s3 ∧ (∃ Z, Kp Z s2 s3 ∧ ∀ a ∈ I :: fp, a ∉ Z) → ∃ m, m < n - i ∧ ∃ i, i ≤ n ∧ m = n - i ∧ J i s3 ∧ St i s3 := fun hx0 => by obtain ⟨j1, Z, kz, hz⟩ := hx0; exact
   ⟨n - (i + 1), by exact lqk ‹_›, i + 1, hlt, rfl, j1, W.frame _ _ _ _ st2 kz hz⟩
  cases fl with
  | next => exact go hf
  | cont => exact go hf
  | brk => exact hf.elim
  | ret v => exact hf
 ·have hin : i = n := by exact ltf ‹_› ‹_›
  subst hin
  refine W.done A s _ _ hh G st fun s2 k2 g2 => wpAny_execs_nil ?_
  exact fin s s2 hj (W.cl _ s st) k2
end
local macro_rules | `(tactic| x_close) => `(tactic| (refine ⟨_, ?_, ?_, ?_, _, rfl, by assumption, ?m1, rfl, rfl, by ((try dsimp only); omega)⟩; (case m1 => (repeat (first | exact List.Mem.head _ | refine List.Mem.tail _ ?_)))))
theorem range_run (w : World) (s : Shared) (KX : (KH w.params).In s.heap) (n t : Nat) :
  wpAny (model P0 w) lv0 (call (.type "range") [.int n t]) (fun v s' => ∃ r t1 t2 t3 news, v = .ref r ∧ Mem s.heap s'.heap [] news ∧ (r, (⟨.type "range", none, .fields #[.int 0 t1, .int n t2, .int 1 t3], #[]⟩ : Obj)) ∈ news ∧ s'.gens = s.gens ∧ s'.os = s.os ∧ s.toks ≤ s'.toks) (fun Y Y => False) s := by
 have f2 := kf2 KX; have f3 := kf3 KX; have f83 := kf83 KX; have f84 := kf84 KX; have f99 := kf99 KX; have f100 := jbJ KX; have f116 := jbI KX; have f117 := jbH KX; have f466 := jbG KX; have f467 := jb0 KX; have f470 := jbF KX; have f471 := jbE KX; have f893 := jbO KX; have f894 := jbN KX; have f1092 := jbf KX; have f1093 := jbe KX
 x_run
section
variable {w : World} {B : Heap} {A : Around} {s : Shared} {a d b e c k m x y I l f D : Addr} {L L' : List En} {ep ep' : Nat} {env cenv : Env} {sc : Scope} {E : Value → Shared → Prop}
theorem jaH {n t : Nat} (G : Good w B s) (hR : Rm 300 A) : Wp w A (call (.type "range") [.int n t]) (fun v s' => ∃ r t1 t2 t3, v = .ref r ∧ IsRange s'.heap r 0 n 1 t1 t2 t3 ∧ s.heap.get? r = none ∧ Kp [] s s') s :=
 hR.lv (wpAny_mono (range_run w s G.k n t) (fun v s' hx0 => by obtain ⟨r, t1, t2, t3, news, e, D, hm, h1, h2, h3⟩ := hx0; exact ⟨r, t1, t2, t3, e, (D.nw _ hm).1, (D.nw _ hm).2, jax G D h2 h3 h1⟩) fun Y Y z => z)
theorem tk_any {α : Type} {M : Model} {t : Sem α} {Q : α → Shared → Prop} (h : wpAny M A t (fun a s' => s.toks ≤ s'.toks → Q a s') (fun e s' => s.toks ≤ s'.toks → E e s') s) : wpAny M A t Q E s := wpAny_with_toks (Nat.le_refl _) h
theorem max_call {p q : Int} {t u : Nat} (G : Good w B s) (hh : A.handled = none) (ht : 0 ≤ t) (hu : 0 ≤ u) : Wp w A (call (.builtin "max") [.int p t, .int q u]) (fun v s' => (∃ t', 0 ≤ t' ∧ v = .int (if q > p then q else p) t') ∧ Kp [] s s') s := by
 refine tk_any (max_two_ints hh fun h' tk hk htk => ⟨?_, ?_⟩)
 ·split
  ·exact ⟨u, hu, rfl⟩
  ·exact ⟨t, ht, rfl⟩
 ·exact jat (s' := { s with heap := h', toks := tk }) hk G.two rfl htk rfl
theorem min_call {p q : Int} {t u : Nat} (G : Good w B s) (hh : A.handled = none) (ht : 0 ≤ t) (hu : 0 ≤ u) : Wp w A (call (.builtin "min") [.int p t, .int q u]) (fun v s' => (∃ t', 0 ≤ t' ∧ v = .int (if q < p then q else p) t') ∧ Kp [] s s') s := by
 refine tk_any (min_two_ints hh fun h' tk hk htk => ⟨?_, ?_⟩)
 ·split
  ·exact ⟨u, hu, rfl⟩
  ·exact ⟨t, ht, rfl⟩
 ·exact jat (s' := { s with heap := h', toks := tk }) hk G.two rfl htk rfl
end
end Mine
namespace Mine
open PySem PySem.W PySem.W.X PyProof.Rows PySem.Calls Builtin PySem.SeqAt
noncomputable abbrev Rel (α : Type) := Heap → Value → α → Prop
noncomputable def intR : Rel Int := fun Y v n => ∃ t, v = .int n t
noncomputable def jbw {α : Type} (R : Rel α) : Rel (List α) := fun h v xs => ∃ l vs, v = .ref l ∧ PL h l vs ∧ Paired (R h) vs xs
noncomputable def tupR {α : Type} (R : Rel α) : Rel (List α) := fun h v xs => ∃ l vs, v = .ref l ∧ h.IsTuple l vs.toArray ∧ Paired (R h) vs xs
noncomputable def Func {α : Type} (R : Rel α) : Prop := ∀ h v x y, R h v x → R h v y → x = y
theorem paired_func {α : Type} {R : Rel α} (hR : Func R) {h : Heap} : ∀ {vs : List Value} {xs ys : List α}, Paired (R h) vs xs → Paired (R h) vs ys → xs = ys := by
 intro _ _ ys p
 induction p generalizing ys with
 | nil => intro q; cases q; rfl
 | cons a b ih => intro q; cases q with | cons c d => rw [hR _ _ _ _ a c, ih d]
theorem jbi : Func intR := fun Y v x y ⟨t, e⟩ ⟨t', e'⟩ => by rw [e] at e'; cases e'; rfl
theorem listR_func {α : Type} {R : Rel α} (hR : Func R) : Func (jbw R) := fun h v x y ⟨l, vs, e, ⟨ep, hl⟩, p⟩ ⟨l', vs', e', ⟨ep', hl'⟩, p'⟩ => by
 rw [e] at e'; cases e'
 rw [IsL, hl] at hl'
 have := Option.some.inj hl'
 simp only [Obj.mk.injEq, Data.seq.injEq, true_and, and_true] at this
 have e3 : vs = vs' := by simpa using this.1
 subst e3
 exact paired_func hR p p'
theorem tupR_func {α : Type} {R : Rel α} (hR : Func R) : Func (tupR R) := fun h v x y ⟨l, vs, e, hl, p⟩ ⟨l', vs', e', hl', p'⟩ => by
 rw [e] at e'; cases e'
 refine aG ?_; intro gO; obtain ⟨o, ho, _, n, hd⟩ := hl; unfold gO; clear gO
 refine aG ?_; intro gO; obtain ⟨o', ho', _, n', hd'⟩ := hl'; unfold gO; clear gO
 rw [ho] at ho'; cases ho'
 rw [hd] at hd'; cases hd'
 exact paired_func hR p p'
noncomputable def EqOk {α : Type} [DecidableEq α] (n : Nat) (R : Rel α) : Prop := ∀ (A : Around) (s : Shared) v v' x x', A.units + n < cLine → R s.heap v x → R s.heap v' x' → EqAt A s v v' (decide (x = x'))
theorem jbq : EqOk 0 intR := fun A s v v' x x' Y ⟨t, e⟩ ⟨t', e'⟩ => by
 subst e e'
 have := EqAt.int_int (A := A) (s := s) x t x' t'
 rwa [show (x == x') = decide (x = x') by rfl] at this
theorem jaa {α β : Type} {F : α → β → Prop} : ∀ {l₁ : List α} {l₂ : List β}, Paired F l₁ l₂ → l₁.length = l₂.length := fun h => h.length
theorem ja3 {α β : Type} {F : α → β → Prop} : ∀ {l₁ : List α} {l₂ : List β}, Paired F l₁ l₂ → ∀ (j : Nat) (h : j < l₁.length) (h' : j < l₂.length), F l₁[j] l₂[j] := by
 intro _ _ p
 induction p with
 | nil => intro j h; exact absurd h (Nat.not_lt_zero _)
 | cons a b ih => intro j h h'; cases j with
  | zero => exact a
  | succ j => exact ih j (Nat.lt_of_succ_lt_succ h) (Nat.lt_of_succ_lt_succ h')
theorem all_eq {α : Type} [DecidableEq α] : ∀ {xs ys : List α} (h : xs.length = ys.length), ((List.range xs.length).all fun j => decide (xs[j]? = ys[j]?)) = decide (xs = ys) := by
 intro xs ys h
 rw [Bool.eq_iff_iff]
 simp only [List.all_eq_true, List.mem_range, decide_eq_true_eq]
 constructor
 ·intro hh
  refine List.ext_getElem? fun j => ?_
  by_cases hj : j < xs.length
  ·exact hh j hj
  ·rw [List.getElem?_eq_none (Nat.not_lt.mp ‹_›), List.getElem?_eq_none (by omega)]
 ·rintro rfl j _; rfl
theorem eqOk_seq {α : Type} [DecidableEq α] {n : Nat} {R : Rel α} (hR : EqOk n R) {A : Around} {s : Shared} {vs vs' : List Value} {xs xs' : List α} (hu : A.units + (n + 1) < cLine) (p : Paired (R s.heap) vs xs) (p' : Paired (R s.heap) vs' xs') :
  ∀ (j : Nat) (h1 : j < vs.toArray.size) (h2 : j < vs'.toArray.size), EqAt A.in1 s vs.toArray[j] vs'.toArray[j] (decide (xs[j]? = xs'[j]?)) := fun j h1 h2 => by
 have h1' : j < vs.length := by simpa using h1
 have h2' : j < vs'.length := by simpa using h2
 have k1 : j < xs.length := by rw [← jaa p]; exact h1'
 have k2 : j < xs'.length := by rw [← jaa p']; exact h2'
 have := hR A.in1 s vs[j] vs'[j] xs[j] xs'[j] (by show A.units + 1 + n < cLine; exact lsv ‹_›) (ja3 p j h1' k1) (ja3 p' j h2' k2)
 rw [List.getElem?_eq_getElem k1, List.getElem?_eq_getElem k2]
 simpa using this
theorem rc_list {α : Type} [DecidableEq α] {n : Nat} {R : Rel α} (hR : EqOk n R) {A : Around} {s : Shared} {l b : Addr} {xs xs' : List α} (hu : A.units + (n + 1) < cLine) (h : jbw R s.heap (.ref l) xs) (h' : jbw R s.heap (.ref b) xs') : RcAt A s (.ref l) (.ref b) (decide (xs = xs')) := by
 refine aG ?_; intro gO; obtain ⟨l1, vs, e1, hl, p⟩ := h; unfold gO; clear gO
 refine aG ?_; intro gO; obtain ⟨l2, vs', e2, hl', p'⟩ := h'; unfold gO; clear gO
 cases e1; cases e2
 by_cases hz : vs.length = vs'.length
 ·have := RcAt.lists (A := A) hl.list hl'.list hz (ltj ‹_›) (eqOk_seq hR hu p p')
  rwa [show vs.toArray.size = xs.length by simpa using jaa p, all_eq (by rw [← jaa p, ← jaa p', hz])] at this
 ·have := RcAt.lists_lengths (A := A) hl.list hl'.list (bne_iff_ne.mpr hz) (ltj ‹_›)
  rwa [show decide (xs = xs') = false by
   rw [decide_eq_false_iff_not]; rintro rfl; exact hz (by rw [jaa p, jaa p'])]
theorem eqOk_list {α : Type} [DecidableEq α] {n : Nat} {R : Rel α} (hF : Func R) (hR : EqOk n R) : EqOk (n + 1) (jbw R) := fun A s v v' x x' hu h h' => by
 have h0 := h
 have h0' := h'
 refine aG ?_; intro gO; obtain ⟨l, vs, e, hl, p⟩ := h; unfold gO; clear gO
 refine aG ?_; intro gO; obtain ⟨l', vs', e', hl', p'⟩ := h'; unfold gO; clear gO
 subst e e'
 by_cases q : l = l'
 ·subst q
  have := listR_func hF _ _ _ _ h0 h0'
  subst this
  simpa using EqAt.same (A := A) (s := s) (.ref l)
 ·exact EqAt.of_refs q (rc_list hR hu h0 h0')
theorem eqOk_tup {α : Type} [DecidableEq α] {n : Nat} {R : Rel α} (hF : Func R) (hR : EqOk n R) : EqOk (n + 1) (tupR R) := fun A s v v' x x' hu h h' => by
 have h0 := h
 have h0' := h'
 refine aG ?_; intro gO; obtain ⟨l, vs, e, hl, p⟩ := h; unfold gO; clear gO
 refine aG ?_; intro gO; obtain ⟨l', vs', e', hl', p'⟩ := h'; unfold gO; clear gO
 subst e e'
 by_cases q : l = l'
 ·subst q
  have := tupR_func hF _ _ _ _ h0 h0'
  subst this
  simpa using EqAt.same (A := A) (s := s) (.ref l)
 ·refine EqAt.of_refs q ?_
  have := RcAt.tuples (A := A) hl hl' (ltj ‹_›) (eqOk_seq hR hu p p')
  have e : ((List.range (min vs.toArray.size vs'.toArray.size)).all (fun j => decide (x[j]? = x'[j]?)) && vs.toArray.size == vs'.toArray.size) = decide (x = x') := by
   have z1 : vs.toArray.size = x.length := by simpa using jaa p
   have z2 : vs'.toArray.size = x'.length := by simpa using jaa p'
   rw [z1, z2]
   by_cases hz : x.length = x'.length
   ·rw [show min x.length x'.length = x.length by exact Nat.min_eq_left (Nat.le_of_eq ‹_›), all_eq hz]
    simp [hz]
   ·have : decide (x = x') = false := by rw [decide_eq_false_iff_not]; rintro rfl; exact hz rfl
    rw [this]
    simp [hz]
  rwa [e] at this
section
variable {w : World} {B : Heap} {A : Around} {s : Shared} {a d b e c k m x y I l f D : Addr} {env cenv : Env} {sc : Scope} {E : Value → Shared → Prop}
theorem notin_list {α : Type} [DecidableEq α] {n : Nat} {R : Rel α} (hF : Func R) (hR : EqOk n R) {v : Value} {z : α} {xs : List α} (hu : A.units + (n + 1) < cLine) (h : jbw R s.heap (.ref l) xs) (hv : R s.heap v z) : Wp w A (compareOp .NotIn v (.ref l)) (fun r s' => r = .bool (!decide (z ∈ xs)) ∧ s' = s) s := by
 try (refine lW ?_; intro Ro)
 classical
 refine aG ?_; intro gO; obtain ⟨l', vs, el, hl, p⟩ := h; unfold gO; clear gO
 cases el
 let e : Value → Bool := fun y => decide (R s.heap y z)
 have key : ∀ {vs : List Value} {xs : List α}, Paired (R s.heap) vs xs → (vs.any e = decide (z ∈ xs)) ∧ ∀ y ∈ vs, EqAt A.in1 s y v (e y) := by
  intro vs xs p
  induction p with
  | nil => exact ⟨by simp, fun y hy => by simp at hy⟩
  | @cons a b l₁ l₂ hab t ih =>
   have hab' : e a = decide (b = z) := by
    show decide (R s.heap a z) = _
    rw [Bool.eq_iff_iff]
    simp only [decide_eq_true_eq]
    constructor
    ·intro q; exact hF _ _ _ _ hab q
    ·rintro rfl; exact hab
   refine ⟨?_, ?_⟩
   ·rw [List.any_cons, ih.1, hab']
    rw [Bool.eq_iff_iff]
    simp only [Bool.or_eq_true, decide_eq_true_eq, List.mem_cons]
    exact ⟨fun h => h.imp Eq.symm id, fun h => h.imp Eq.symm id⟩
   ·intro y hy
    rcases List.mem_cons.mp hy with rfl | hy
    ·rw [hab']
     exact hR A.in1 s y v b z (by show A.units + 1 + n < cLine; exact lsv ‹_›) hab hv
    ·exact ih.2 y hy
 refine notIn_listAt e hl.list (fun y hy => (key p).2 y (Array.mem_toList_iff.mpr hy)) ⟨?_, rfl⟩
 have := (key p).1
 rw [← this, List.any_toArray]
end
end Mine
namespace Mine
open PySem PySem.W PySem.W.X PyProof.Rows PySem.Calls Builtin PySem.MeetsSeq PySem.MeetsSeq2 PySem.MeetsSeq3 PySem.SeqAt
noncomputable def eqv (L L' : List En) : Bool := decide (∀ k ∈ ksOf L L', cnt L k = cnt L' k)
noncomputable def ctrR (W : List Addr) : Rel (List En) := fun h v L => ∃ a d ep, v = .ref a ∧ IsC h a d L ep ∧ a ∉ W ∧ d ∉ W
section
variable {w : World} {B : Heap} {A : Around} {s : Shared} {a d b e c k m x y I l f D dx : Addr} {Lx : List En} {epx : Nat} {env cenv : Env} {sc : Scope} {E : Value → Shared → Prop}
noncomputable def NoC (W : List Addr) (s : Shared) (S : List Addr) : Prop := ∀ x ∈ S, x ∈ W ∨ ∃ o, s.heap.get? x = some o ∧ o.cls ≠ .ref 1093 ∧ o.cls ≠ .type "dict"
theorem jaV {W S : List Addr} {v : Value} {L : List En} {s' : Shared} (h : ctrR W s.heap v L) (k : Kp S s s') (hS : NoC W s S) : ctrR W s'.heap v L := by
 refine aG ?_; intro gO; obtain ⟨a, d, ep, e, C, h1, h2⟩ := h; unfold gO; clear gO
 refine ⟨a, d, ep, e, C.kp k (fun m => ?_) (fun m => ?_), h1, h2⟩
 ·rcases hS _ m with q | ⟨o, ho, hc, _⟩
  ·exact h1 q
  ·rw [C.at_] at ho; cases ho; exact hc rfl
 ·rcases hS _ m with q | ⟨o, ho, _, hc⟩
  ·exact h2 q
  ·rw [C.ow] at ho; cases ho; exact hc rfl
theorem jab {α : Type} {R : Rel α} {s' : Shared} (hR : ∀ v x, R s.heap v x → R s'.heap v x) : ∀ {vs : List Value} {xs : List α}, Paired (R s.heap) vs xs → Paired (R s'.heap) vs xs := fun p => by
 induction p with
 | nil => exact .nil
 | cons a b ih => exact .cons (hR _ _ a) ih
theorem plain_cl : plainId "list.__contains__.loop" = true := by decide +kernel
theorem jaM {xs : Array Value} {Q : Array Value → Shared → Prop} (hl : s.heap.IsList l xs) (h : Q xs s) : wpAny (model P0 w) A (Builtin.List.listItems (.ref l)) Q E s := by
 refine aG ?_; intro gO; obtain ⟨o, ho, hc, nn, hd⟩ := hl; unfold gO; clear gO
 unfold Builtin.List.listItems
 exact wpAny_bind (wpAny_seqItems ho hd (wpAny_pure h))
theorem notin_loop {vs : List Value} {Ls : List (List En)} {W : List Addr} {n : Nat} (hA : Rm n A) (hn : n < 240) : ∀ k i s, vs.length - i = k → i ≤ vs.length → Good w B s → s.heap.IsList l vs.toArray → Paired (ctrR W s.heap) vs Ls → IsC s.heap x dx Lx epx →
  codeAny (model P0 w) A (.builtin "list.__contains__.loop" ⟨[.ref l, .ref x, rawInt i], []⟩) (fun r s' => r = .ok (.ret (.bool ((Ls.drop i).any fun L => eqv L Lx))) ∧ Kp [] s s') s := by
 intro k
 induction k with
 | zero =>
  intro i s hk hi G hl p C
  have hin : i = vs.length := by exact lqq ‹_› ‹_›
  refine codeAny_builtin entry_contains_loop ?_
  rw [Around.under_plainId plain_cl _]
  show wpAny _ _ (Builtin.List.listItems (.ref l) >>= _) _ _ _
  refine wpAny_bind (jaM hl ?_)
  have hg : vs.toArray[((i : Nat) : Int).toNat]? = none := by simp [hin]
  rw [hg]
  refine wpAny_pure ⟨?_, (Kp.refl s).mono al0⟩
  rw [List.drop_of_length_le (by rw [← jaa p]; exact Nat.le_of_eq ‹_ = _›.symm)]
  rfl
 | succ k ih =>
  intro i s hk hi G hl p C
  have hlt : i < vs.length := by exact lqr ‹_›
  have hlt' : i < Ls.length := by rw [← jaa p]; exact hlt
  refine codeAny_builtin entry_contains_loop ?_
  rw [Around.under_plainId plain_cl _]
  show wpAny _ _ (Builtin.List.listItems (.ref l) >>= _) _ _ _
  refine wpAny_bind (jaM hl ?_)
  have hg : vs.toArray[((i : Nat) : Int).toNat]? = some vs[i] := by simp [hlt]
  rw [hg]
  refine aG ?_; intro gO; obtain ⟨a, d, ep, ev, Ca, _, _⟩ := ja3 p i hlt hlt'; unfold gO; clear gO
  rw [ev]
  refine wpAny_bind ((eqB_ctr hA.in1 (lq2 hn rfl) G Ca C).use fun v s1 hx0 => ?_)
  obtain ⟨e1, k1⟩ := hx0
  have hd : Ls.drop i = Ls[i] :: Ls.drop (i + 1) := List.drop_eq_getElem_cons hlt'
  rw [hd, List.any_cons]
  have hv : v = eqv Ls[i] Lx := e1
  rw [← hv]
  cases v with
  | true =>
   refine ift_ rfl (wpAny_pure ⟨by simp, k1⟩)
  | false =>
   refine iff_ rfl (wpAny_pure ⟨plainId_quiet plain_cl _, ?_⟩)
   have hc : ((i : Int) + 1) = ((i + 1 : Nat) : Int) := by push_cast; rfl
   show codeAny _ _ (.builtin "list.__contains__.loop" ⟨[.ref l, .ref x, rawInt ((i : Int) + 1)], []⟩) _ _
   rw [hc]
   refine codeAny_mono (ih (i + 1) s1 (lqj ‹_›) hlt (G.kp k1 al0) (list_kp hl k1 ni0) (jab (fun v L h => jaV h k1 (by intro x hx; simp at hx)) p) (C.kp k1 ni0 ni0)) fun r s' ⟨er, k2⟩ => ⟨?_, (k1.trans k2).mono al0⟩
   rw [er, Bool.false_or]
theorem notin_ctrs {vs : List Value} {Ls : List (List En)} {W : List Addr} {n : Nat} (hA : Rm n A) (hn : n < 240) (G : Good w B s) (hl : s.heap.IsList l vs.toArray) (p : Paired (ctrR W s.heap) vs Ls) (C : IsC s.heap x dx Lx epx) :
  Wp w A (compareOp .NotIn (.ref x) (.ref l)) (fun r s' => r = .bool (!(Ls.any fun L => eqv L Lx)) ∧ Kp [] s s') s := by
 try (refine lW ?_; intro Ro)
 show wpAny _ _ (do return Value.bool (!(← contains (.ref l) (.ref x)))) _ _ _
 have g : MeetsIn P0 w (Builtin.«list.__contains__» ⟨[.ref l, .ref x], []⟩) (fun A' R s' => Rm n A' ∧ s' = s ∧ ∀ s'', Kp [] s s'' → R (.ok (.ret (.bool (Ls.any fun L => eqv L Lx)))) s'') := by
  intro A' R s' ⟨hA', es, hR⟩
  subst es
  show wpAny _ _ (again (.builtin "list.__contains__.loop" ⟨[.ref l, .ref x, rawInt 0], []⟩)) _ _ _
  refine wpAny_pure ⟨plainId_quiet plain_cl _, codeAny_mono (notin_loop hA' hn vs.length 0 s' (Nat.sub_zero _) (Nat.zero_le _) G hl p C) fun r s'' hx0 => ?_⟩
  obtain ⟨er, k⟩ := hx0
  rw [er]
  exact hR s'' k
 refine wpAny_bind (wpAny_contains_slot hl.typeIs F.slot_list_contains (call_meetsIn F.slot_list_contains hl.typeIs F.entry_list_contains (F.args_list_contains_2 _ _) g ⟨hA, rfl, fun s'' k => ?_⟩))
 exact wpAny_truthy_bool (wpAny_pure ⟨rfl, k⟩)
end
end Mine
namespace Mine
open PySem PySem.W PySem.W.X PyProof.Rows PySem.Calls Builtin
section
variable {w : World} {B : Heap} {A : Around} {s : Shared} {a d b e c k m x y I l f D dx : Addr} {Lx : List En} {epx : Nat} {env cenv : Env} {sc : Scope} {E : Value → Shared → Prop}
theorem pl_push (h : Heap) (xs : Array Value) : PL (h.push { cls := .type "list", data := .seq xs }) h.objs.size xs.toList := ⟨0, by
 have e : xs.toList.toArray = xs := by simp
 rw [e]
 exact IsL.new h xs⟩
theorem ev_item {value slice : Expr} {pos : Pos} {Q : Value → Shared → Prop}
  (h : wpAny (model P0 w) A (eval value env) (fun o s₁ => wpAny (model P0 w) A (eval slice env) (fun i s₂ => ∃ l vs k u x, o = .ref l ∧ i = .int k u ∧ PL s₂.heap l vs ∧ 0 ≤ k ∧ k < 1000000 ∧ vs[k.toNat]? = some x ∧ Q x s₂) E s₁) E s)
  (hs : ∀ l k u, subscripted slice false (.ref l) (.int k u) = operate [.ref l, .int k u] (getItem (.ref l) (.int k u)) := by intro _ _ _; with_unfolding_all rfl) (hg : ∀ l r, letTemporaryGo value (.ref l) r = pure () := by intro _ _; with_unfolding_all rfl) :
  wpAny (model P0 w) A (eval (.Subscript value slice pos) env) Q E s := by
 refine Subscript_ (wpAny_mono h (fun o s₁ h₁ => wpAny_mono h₁ (fun i s₂ hx0 => ?_) fun Y Y z => z) fun Y Y z => z)
 refine aG ?_; intro gO; obtain ⟨l, vs, k, u, x, eo, ei, hl, h0, hk, hx, hq⟩ := hx0; unfold gO; clear gO
 subst eo ei
 exact item_list hl.list h0 (by omega) (by simpa using hx) hq (hs l k u) (hg l)
theorem ev_slice {value : Expr} {lower upper : Option Expr} {p pos : Pos} {Q : Value → Shared → Prop}
  (h : wpAny (model P0 w) A (eval value env) (fun o s₁ => wpAny (model P0 w) A (evalPart lower env) (fun lo s₂ => wpAny (model P0 w) A (evalPart upper env) (fun up s₃ => ∃ l vs li ui, o = .ref l ∧ PL s₃.heap l vs ∧ vs.length ≤ 1000 ∧ IsPart lo li ∧ IsPart up ui ∧ Good w B s₃ ∧
   (∀ D s', s₃.heap.get? D = none → PL s'.heap D (slicePick vs.toArray li ui none).toList → Kp [] s₃ s' → Q (.ref D) s')) E s₂) E s₁) E s)
  (ht : ∀ o r, letTemporaryGo value o r = pure () := by intro _ _; rfl) :
  wpAny (model P0 w) A (eval (.Subscript value (.Slice lower upper none p) pos) env) Q E s := by
 refine wpAny_Subscript_Slice (T := "list") list_getitem_lookup (wpAny_mono h (fun o s₁ h₁ => wpAny_Slice (wpAny_mono h₁ (fun lo s₂ h₂ => wpAny_mono h₂ (fun up s₃ hx0 => ?_) fun Y Y z => z) fun Y Y z => z)) fun Y Y z => z) ht
 refine aG ?_; intro gO; obtain ⟨l, vs, li, ui, eo, hl, hz, p1, p2, G, hq⟩ := hx0; unfold gO; clear gO
 subst eo
 have hl1 : ({ s₃ with heap := s₃.heap.push { cls := .type "slice", data := .fields #[lo, up, .none] } } : Shared).heap.IsList l vs.toArray := hl.list.push _
 have hz' : vs.toArray.size ≤ sizeLine := Nat.le_trans hz (show 1000 ≤ sizeLine by decide)
 have k1 : Kp [] s₃ { s₃ with heap := s₃.heap.push { cls := .type "slice", data := .fields #[lo, up, .none] } } := jar G
 have f2 : s₃.heap.get? (s₃.heap.push { cls := .type "slice", data := .fields #[lo, up, .none] }).objs.size = none := k1.back jag
 refine wpAny_pure ⟨hl1.typeIs, wpAny_getItem_list_slice hl1 (Heap.IsSliceOf.new ..) p1 p2 .none (by simp) (hq _ _ f2 (pl_push _ _) ((k1.trans (jar (G.kp k1 al0))).mono al0)) hz'⟩
theorem ev_slice_st {value st : Expr} {lower upper : Option Expr} {p pos : Pos} {Q : Value → Shared → Prop}
  (h : wpAny (model P0 w) A (eval value env) (fun o s₁ => wpAny (model P0 w) A (evalPart lower env) (fun lo s₂ => wpAny (model P0 w) A (evalPart upper env) (fun up s₃ => wpAny (model P0 w) A (eval st env) (fun sv s₄ => ∃ l vs li ui si, o = .ref l ∧ s₄.heap.IsList l vs ∧ vs.size ≤ 1000 ∧ IsPart lo li ∧ IsPart up ui ∧ IsPart sv si ∧ si ≠ some 0 ∧ Good w B s₄ ∧
   (∀ D s', s₄.heap.get? D = none → PL s'.heap D (slicePick vs li ui si).toList → Kp [] s₄ s' → Q (.ref D) s')) E s₃) E s₂) E s₁) E s)
  (ht : ∀ o r, letTemporaryGo value o r = pure () := by intro _ _; rfl) :
  wpAny (model P0 w) A (eval (.Subscript value (.Slice lower upper (some st) p) pos) env) Q E s := by
 refine wpAny_Subscript_Slice_step (T := "list") list_getitem_lookup (wpAny_mono h (fun o s₁ h₁ => wpAny_Slice (wpAny_mono h₁ (fun lo s₂ h₂ => wpAny_mono h₂ (fun up s₃ h₃ => wpAny_mono h₃ (fun sv s₄ hx0 => ?_) fun Y Y z => z) fun Y Y z => z) fun Y Y z => z)) fun Y Y z => z) ht
 refine aG ?_; intro gO; obtain ⟨l, vs, li, ui, si, eo, hl, hz, p1, p2, p3, h0, G, hq⟩ := hx0; unfold gO; clear gO
 subst eo
 have hl1 : ({ s₄ with heap := s₄.heap.push { cls := .type "slice", data := .fields #[lo, up, sv] } } : Shared).heap.IsList l vs := hl.push _
 have hz' : vs.size ≤ sizeLine := Nat.le_trans hz (show 1000 ≤ sizeLine by decide)
 have k1 : Kp [] s₄ { s₄ with heap := s₄.heap.push { cls := .type "slice", data := .fields #[lo, up, sv] } } := jar G
 have f2 : s₄.heap.get? (s₄.heap.push { cls := .type "slice", data := .fields #[lo, up, sv] }).objs.size = none := k1.back jag
 exact ⟨hl1.typeIs, wpAny_getItem_list_slice hl1 (Heap.IsSliceOf.new ..) p1 p2 p3 h0 (hq _ _ f2 (pl_push _ _) ((k1.trans (jar (G.kp k1 al0))).mono al0)) hz'⟩
theorem len_call {vs : List Value} (hl : PL s.heap l vs) (hz : vs.length ≤ 1000) : Wp w A (call (.builtin "len") [.ref l]) (fun v s' => (∃ t, v = .int vs.length t) ∧ Kp [] s s') s := by
 try (refine lW ?_; intro Ro)
 refine Calls.call_len_list hl.list (by simp; omega) ⟨⟨s.toks + 1, by simp⟩, jak (by omega)⟩
theorem add_call {vs ws : List Value} (G : Good w B s) (hl : PL s.heap l vs) (hb : PL s.heap b ws) (hz : vs.length + ws.length ≤ 1000) : Wp w A (binaryOp .Add (.ref l) (.ref b)) (fun v s' => ∃ D, v = .ref D ∧ s.heap.get? D = none ∧ PL s'.heap D (vs ++ ws) ∧ Kp [] s s') s := by
 try (refine lW ?_; intro Ro)
 obtain ⟨n, e⟩ := hl
 obtain ⟨n2, e2⟩ := hb
 refine P.add_list e e2 ⟨_, rfl, jag, by simpa using pl_push s.heap (vs.toArray ++ ws.toArray), jar G⟩ (Nat.le_trans hz (show 1000 ≤ sizeLine by decide))
theorem jcn {f e : Expr} {apos pos spos : Pos} {Q : Flow → Shared → Prop} (O : EnvOk env sc)
  (h : wpAny (model P0 w) A (eval f env) (fun o s₁ => ∃ l vs, o = .ref l ∧ PL s₁.heap l vs ∧ wpAny (model P0 w) A (eval e env) (fun y s₂ => PL s₂.heap l vs ∧ vs.length ≤ 1000 ∧ B.get? l = none ∧ Good w B s₂ ∧ (∀ s', PL s'.heap l (vs ++ [y]) → Kp [l] s₂ s' → Good w B s' → Q .next s')) E s₁) E s)
  (hb : attributeBase f "append" env (eval f env) = eval f env := by rfl) (hl : (apos.endLine == pos.line) = true := by rfl) (he : starEach [e] env = [(false, eval e env)] := by rfl) (hs : swapsWith (.Call (.Attribute f "append" apos) [e] [] pos) none spos.line env = pure false := by rfl) :
  wpAny (model P0 w) A (exec (.Expr (.Call (.Attribute f "append" apos) [e] [] pos) spos) env) Q E s := by
 refine wpAny_Expr (hi := noint O) (hs := hs) (jbW (hb := hb) (hl := hl) (hf := by rw [he]; rfl) (wpAny_mono h (fun o s₁ hx0 => ?_) fun Y Y z => z))
 refine aG ?_; intro gO; obtain ⟨l, vs, eo, hl, h₁⟩ := hx0; unfold gO; clear gO
 subst eo
 obtain ⟨n, en⟩ := hl
 refine getMethod_list_append en rfl rfl ?_
 rw [he]
 refine Calls.callWith_builtin rfl (evalArgs_plain (spliced_cons (wpAny_mono h₁ (fun y s₂ hx0 => ?_) fun Y Y z => z)))
 refine aG ?_; intro gO; obtain ⟨hl2, hz, hB, G, hq⟩ := hx0; unfold gO; clear gO
 exact spliced_nil (list_app G hl2 hB hz fun s' hl' k Y G' => hq s' hl' k G')
end
section
variable {w : World} {B : Heap} {A : Around} {s : Shared} {a d b e c k m x y I l f D dx : Addr} {Lx : List En} {epx : Nat} {env cenv : Env} {sc : Scope} {E : Value → Shared → Prop} {W : List Addr}
theorem CallC.sta {f : Addr} {fd : FuncData} {binds : List (Str × Value)} {s₁ : Shared} (X : CallC s env sc f fd binds s₁) : Sta env sc :=
 ⟨X.ok, X.apart, fun x c h => Nat.ne_of_gt (X.above x c (mem_of_lookup h))⟩
theorem CallC.frm {f : Addr} {fd : FuncData} {binds : List (Str × Value)} {s₁ : Shared} (X : CallC s env sc f fd binds s₁) : Frm env s₁ :=
 ⟨⟨_, X.ns⟩, fun x c h => ⟨_, X.cell x c h⟩⟩
theorem CallC.own {f : Addr} {fd : FuncData} {binds : List (Str × Value)} {s₁ : Shared} (X : CallC s env sc f fd binds s₁) : ∀ a ∈ Own env, s.heap.get? a = none := by
 intro a ha
 unfold Own at ha
 rcases List.mem_cons.mp ha with rfl | ha
 ·exact X.fr
 ·obtain ⟨p, hp, rfl⟩ := List.mem_map.mp ha
  exact X.frc p.1 p.2 hp
theorem CallC.bndL {f : Addr} {fd : FuncData} {binds : List (Str × Value)} {s₁ : Shared} (X : CallC s env sc f fd binds s₁) {x : Str} {v : Value} (h : sc.names.lookup x = some .local) (hc : ∀ N, (cellsFrom N sc.names []).lookup x = none)
  (hb : bindL (fun x => sc.names.lookup x) binds (fun Y => none) x = some v) : Bnd env x v s₁ := by
 unfold Bnd
 rw [X.cells, hc]
 exact ⟨X.ok.kind h, _, X.ns, hb⟩
theorem CallC.bndC {f : Addr} {fd : FuncData} {binds : List (Str × Value)} {s₁ : Shared} (X : CallC s env sc f fd binds s₁) {x : Str} {v : Value} (h : sc.names.lookup x = some .cell) (hc : ∀ N, ∃ c, (cellsFrom N sc.names []).lookup x = some c)
  (hb : bindC (fun x => sc.names.lookup x) binds (fun Y => none) x = some v) : Bnd env x v s₁ := by
 unfold Bnd
 obtain ⟨c, e⟩ := hc (env.locals + 1)
 have e' := e
 rw [← X.cells] at e'
 rw [e']
 refine ⟨.inl (X.ok.kind h), ?_⟩
 have := X.cell x c e'
 rwa [hb] at this
theorem CallC.setL {f : Addr} {fd : FuncData} {binds : List (Str × Value)} {s₁ : Shared} (X : CallC s env sc f fd binds s₁) {x : Str} (h : sc.names.lookup x = some .local) (hc : ∀ N, (cellsFrom N sc.names []).lookup x = none) : jaB env x := by
 refine .inl ⟨?_, X.ok.kind h⟩
 rw [X.cells, hc]
theorem CallC.setC {f : Addr} {fd : FuncData} {binds : List (Str × Value)} {s₁ : Shared} (X : CallC s env sc f fd binds s₁) {x : Str} (h : sc.names.lookup x = some .cell) (hc : ∀ N, ∃ c, (cellsFrom N sc.names []).lookup x = some c) : jaB env x := by
 obtain ⟨c, e⟩ := hc (env.locals + 1)
 exact .inr ⟨c, by rw [X.cells, e], X.ok.kind h⟩
theorem Kp.compW {S : List Addr} {s0 s1 s2 : Shared} (x : Kp W s0 s1) (y : Kp S s1 s2) (hS : ∀ a ∈ S, a ∈ W ∨ s0.heap.get? a = none) (h2 : ∃ o, s0.heap.get? 2 = some o) : Kp W s0 s2 where
 keep b o h hc hb := y.keep b o (x.keep b o h hc hb) hc fun m => by
  rcases hS _ m with q | q
  ·exact hb q
  ·rw [h] at q; cases q
 there b o h := by obtain ⟨o', h'⟩ := x.there b o h; exact y.there b o' h'
 old B' hB O := y.old B' (fun a m => by
  rcases hS _ m with q | q
  ·exact hB a q
  ·cases e : B'.get? a with
   | none => rfl
   | some o => obtain ⟨o', e'⟩ := O.there _ _ e; rw [q] at e'; cases e') (x.old B' hB O)
 stat h := (y.stat fun m => by
  rcases hS _ m with q | q
  ·exact h q
  ·obtain ⟨o, e⟩ := h2; rw [q] at e; cases e).trans (x.stat h)
 os := y.os.trans x.os
 tk := Nat.le_trans x.tk y.tk
 gb h := y.gb (x.gb h)
theorem jbz {x : Str} {px : Pos} {body : List Stmt} {R : Result → Shared → Prop} {fp : List Addr} {n nn : Nat} {P : Nat → Value → Prop} {v : Value} {s0 s1 : Shared} (S : Sta env sc) (hA : Rm nn A) (G0 : Good w B s0) (It : Iter w B s0 fp n P v s1)
  (hW : ∀ a ∈ Own env, a ∈ W) (hal : ∀ a ∈ W, ∃ o, s0.heap.get? a = some o) (fpW : ∀ a ∈ fp, a ∉ W) (hBo : ∀ a ∈ Own env, B.get? a = none) (hx : jaB env x)
  (J : Nat → Shared → Prop) (hJ : ∀ i s, J i s → Good w B s ∧ Frm env s) (h0 : J 0 s1)
  (step : ∀ I i v s s2, s0.heap.get? I = none → i < n → P i v → J i s → (∃ o, s.heap.get? I = some o ∧ jba o) → Kp [I, jai env x] s s2 → Bnd env x v s2 → (∀ y u, y ≠ x → Bnd env y u s → Bnd env y u s2) → Good w B s2 → Frm env s2 →
   Wp w A (execs body env) (fun f s3 => match f with
    | .next | .cont => J (i + 1) s3 ∧ Kp W s2 s3
    | .ret v => R (.ok (.ret v)) s3
    | .brk => False) s2)
  (fin : ∀ I s s2, s0.heap.get? I = none → J n s → (∃ o, s.heap.get? I = some o ∧ jba o) → Kp [I] s s2 → R (.ok .next) s2) : codeAny (model P0 w) A (.forLoop (.Name x px) v body [] env) R s1 := by
 obtain ⟨⟨I, St, rfl, KWi, st, fI, _⟩, al, k1, g1⟩ := It
 have nW : ∀ a ∈ W, a ≠ I := fun a ha q => by
  obtain ⟨o, e⟩ := hal a ha
  rw [q, fI] at e; cases e
 refine for_rule S hA KWi (G0.new fI) (fun a ha q => fpW a ha (hW a q)) (fun a ha => nW a (hW a ha)) hBo hx J hJ (fun i v s s2 hi hv hj hI k hb hk G F => ?_) (fun s s2 hj hI k => fin I s s2 fI hj hI k) h0 st
 refine (step I i v s s2 fI hi hv hj hI k hb hk G F).use fun f s3 hf => ?_
 have go : J (i + 1) s3 ∧ Kp W s2 s3 → J (i + 1) s3 ∧ ∃ Z, Kp Z s2 s3 ∧ ∀ a ∈ I :: fp, a ∉ Z := fun hx0 => by obtain ⟨h1, h2⟩ := hx0; exact ⟨h1, W, h2, fun a ha q => by
  rcases List.mem_cons.mp ha with rfl | ha
  ·exact nW a q rfl
  ·exact fpW a ha q⟩
 cases f with
 | next => exact go hf
 | cont => exact go hf
 | ret v => exact hf
 | brk => exact hf
noncomputable def NoL (W : List Addr) (s : Shared) (S : List Addr) : Prop := ∀ x ∈ S, x ∈ W ∨ ∃ o, s.heap.get? x = some o ∧ o.cls ≠ .type "list"
noncomputable def liW (W : List Addr) {α : Type} (R : Rel α) : Rel (List α) := fun h v xs => ∃ l vs, v = .ref l ∧ l ∉ W ∧ PL h l vs ∧ Paired (R h) vs xs
noncomputable def StR (W : List Addr) {α : Type} (R : Rel α) : Prop := ∀ s s' S v x, R s.heap v x → Kp S s s' → NoL W s S → R s'.heap v x
theorem jaZ : StR W intR := fun Y Y Y Y Y h Y Y => h
theorem pl_noL {vs : List Value} {s' : Shared} {S : List Addr} (hl : PL s.heap l vs) (k : Kp S s s') (hW : l ∉ W) (hS : NoL W s S) : PL s'.heap l vs := jaj hl k fun m => by
 rcases hS _ m with q | ⟨o, ho, hc⟩
 ·exact hW q
 ·obtain ⟨ep, e⟩ := hl
  rw [e] at ho; cases ho; exact hc rfl
theorem jbd {α : Type} {R : Rel α} (hR : StR W R) : StR W (liW W R) := fun s s' S v x ⟨l, vs, e, n, hl, p⟩ k hS =>
 ⟨l, vs, e, n, pl_noL hl k n hS, jab (fun v x h => hR s s' S v x h k hS) p⟩
theorem liW.list {α : Type} {R : Rel α} {h : Heap} {v : Value} {xs : List α} (x : liW W R h v xs) : jbw R h v xs := let ⟨l, vs, e, _, hl, p⟩ := x; ⟨l, vs, e, hl, p⟩
theorem liW_func {α : Type} {R : Rel α} (hR : Func R) : Func (liW W R) := fun h v x y a b => listR_func hR h v x y a.list b.list
theorem eqOk_liW {α : Type} [DecidableEq α] {n : Nat} {R : Rel α} (hF : Func R) (hR : EqOk n R) : EqOk (n + 1) (liW W R) := fun A s v v' x x' hu h h' => eqOk_list hF hR A s v v' x x' hu h.list h'.list
theorem jaq : NoL W s [] := by intro x hx; simp at hx
theorem noL_it (hI : ∃ o, s.heap.get? I = some o ∧ jba o) (ha : a ∈ W) : NoL W s [I, a] := by
 intro x hx
 rcases List.mem_cons.mp hx with rfl | hx
 ·obtain ⟨o, ho, hc⟩ := hI; exact .inr ⟨o, ho, hc.1⟩
 ·cases List.mem_singleton.mp hx; exact .inl ha
theorem ja9 {S : List Addr} (h : ∀ a ∈ S, a ∈ W) : NoL W s S := fun x hx => .inl (h x hx)
theorem ev_at {vs : List Value} {i t : Nat} {v : Value} {x y : Str} {px py pos : Pos} {Q : Value → Shared → Prop} (S : Sta env sc) (hx : Bnd env x (.ref l) s) (hl : PL s.heap l vs) (hy : Bnd env y (.int i t) s) (hv : vs[i]? = some v) (hi : i < 1000) (h : Q v s)
  (hd : (x == ("__debug__" : Str)) = false := by kernel_rfl) (hn : (x == ("__classdict__" : Str)) = false := by kernel_rfl) (hd' : (y == ("__debug__" : Str)) = false := by kernel_rfl) (hn' : (y == ("__classdict__" : Str)) = false := by kernel_rfl)
  (hs : ∀ l k u, subscripted (.Name y py) false (.ref l) (.int k u) = operate [.ref l, .int k u] (getItem (.ref l) (.int k u)) := by intro _ _ _; with_unfolding_all rfl) :
  wpAny (model P0 w) A (eval (.Subscript (.Name x px) (.Name y py) pos) env) Q E s :=
 ev_item (jaf S hx (jaf S hy ⟨l, vs, i, t, v, rfl, rfl, hl, by omega, by omega, by simpa using hv, h⟩ hd' hn') hd hn) hs
theorem ev_atc {vs : List Value} {i : Nat} {v : Value} {x : Str} {px py pos : Pos} {k : Nat} {Q : Value → Shared → Prop} (G : Good w B s) (S : Sta env sc) (hx : Bnd env x (.ref l) s) (hl : PL s.heap l vs) (hv : vs[i]? = some v) (hi : i < 1000) (h : ∀ s', Kp [] s s' → Q v s')
  (hd : (x == ("__debug__" : Str)) = false := by kernel_rfl) (hn : (x == ("__classdict__" : Str)) = false := by kernel_rfl)
  (hs : ∀ l k' u, subscripted (.Constant (.int i) k py) false (.ref l) (.int k' u) = operate [.ref l, .int k' u] (getItem (.ref l) (.int k' u)) := by intro _ _ _; with_unfolding_all rfl) :
  wpAny (model P0 w) A (eval (.Subscript (.Name x px) (.Constant (.int i) k py) pos) env) Q E s :=
 ev_item (jaf S hx (wpAny_Constant_int ⟨l, vs, i, _, v, rfl, rfl, jaj hl (jak (Nat.le_succ _)) ni0, by omega, by omega, by simpa using hv, h _ (jak (Nat.le_succ _))⟩) hd hn) hs
theorem jaU {es : List Expr} {pos : Pos} {Q : Value → Shared → Prop} (h : wpAny (model P0 w) A (spliced (backTo pos (starEach es env))) (fun vs s' => Good w B s' ∧ vs.length ≤ 1000 ∧ ∀ D s'', s'.heap.get? D = none → PL s''.heap D vs → Kp [] s' s'' → Q (.ref D) s'') E s) :
  wpAny (model P0 w) A (eval (.List es pos) env) Q E s :=
 wpAny_List_spliced (wpAny_mono h (fun vs s' ⟨G, hz, hq⟩ => ⟨Nat.le_trans hz (show 1000 ≤ sizeLine by decide), hq _ _ jag ⟨0, Heap.get?_push_size _ rfl⟩ (jar G)⟩) fun Y Y z => z)
end
theorem fn_pairs (P : Params) : fnChkC (KH P) 1104 = some (fdAt (KH P) 1104, ja2 (lawS "_law_pairs")) := by kernel_rfl
theorem fn_due (P : Params) : fnChkC (KH P) 1109 = some (fdAt (KH P) 1109, ja2 (lawS "_law_due")) := by kernel_rfl
theorem fn_law (P : Params) : fnChkC (KH P) 1114 = some (fdAt (KH P) 1114, ja2 (lawS "law")) := by kernel_rfl
theorem sc_pairs (P : Params) : (fdAt (KH P) 1104).scope = jas (lawS "_law_pairs") := by kernel_rfl
theorem sc_due (P : Params) : (fdAt (KH P) 1109).scope = jas (lawS "_law_due") := by kernel_rfl
theorem sc_law (P : Params) : (fdAt (KH P) 1114).scope = jas (lawS "law") := by kernel_rfl
noncomputable def addN {α : Type} [DecidableEq α] (f : List α) (x : α) : List α := if x ∈ f then f else f ++ [x]
noncomputable def jcd (rows : List (List Int)) (i j : Nat) : List (List Int) := rows.foldl (fun f r => addN f [r.getD i 0, r.getD j 0]) []
noncomputable def mx (a b : Int) : Int := if b > a then b else a
noncomputable def mn (a b : Int) : Int := if b < a then b else a
noncomputable def jbk (h o : List Int) : List (List Int) := [[mx (h.getD 0 0) (o.getD 0 0), mx (h.getD 1 0) (o.getD 1 0)], [mn (h.getD 0 0) (o.getD 0 0), mn (h.getD 1 0) (o.getD 1 0)]]
noncomputable def prTurn (h : List Int) (f : List (List Int)) (o : List Int) : List (List Int) := (jbk h o).foldl addN f
noncomputable def jaQ (f : List (List Int)) (p : Nat) : List (List Int) := match f[p]? with | none => f | some h => (f.take p).foldl (prTurn h) f
noncomputable def pairsOf (rows : List (List Int)) (i j : Nat) : List (List Int) := (List.range 9).foldl jaQ (jcd rows i j)
theorem jbu {α β : Type} {g : β → α → β} {b : β} {xs : List α} {i : Nat} {x : α} (h : xs[i]? = some x) : (xs.take (i + 1)).foldl g b = g ((xs.take i).foldl g b) x := by
 rw [List.take_add_one, h]; simp [List.foldl_append]
theorem fold_all {α β : Type} {g : β → α → β} {b : β} {xs : List α} {n : Nat} (h : n = xs.length) : (xs.take n).foldl g b = xs.foldl g b := by rw [h, List.take_length]
theorem jbc {β : Type} {g : β → Nat → β} {b : β} {i : Nat} : (List.range (i + 1)).foldl g b = g ((List.range i).foldl g b) i := by rw [List.range_succ]; simp [List.foldl_append]
theorem addN_len {α : Type} [DecidableEq α] (f : List α) (x : α) : (addN f x).length ≤ f.length + 1 ∧ f.length ≤ (addN f x).length := by unfold addN; split <;> simp
theorem jbb {α β : Type} {g : List β → α → List β} {k : Nat} (hg : ∀ f x, (g f x).length ≤ f.length + k) : ∀ (xs : List α) (f : List β), (xs.foldl g f).length ≤ f.length + k * xs.length := by
 intro xs
 induction xs with
 | nil =>
  rintro f
  simp
 | cons x xs ih =>
  rintro f
  have h1 := ih (g f x)
  have h2 := hg f x
  rw [List.foldl_cons, List.length_cons, Nat.mul_add]
  exact lsk ‹_› ‹_›
theorem prTurn_len (h : List Int) (f : List (List Int)) (o : List Int) : (prTurn h f o).length ≤ f.length + 2 := by
 have := jbb (k := 1) (fun f x => (addN_len (α := List Int) f x).1) (jbk h o) f
 exact Nat.le_trans this (by simp [jbk])
set_option tactic.hygienic true in
theorem prPlace_len (f : List (List Int)) (p : Nat) : (jaQ f p).length ≤ f.length + 2 * p := by
 unfold jaQ
 split
 ·exact Nat.le_add_right _ _
 ·rename_i h _
  have := jbb (k := 2) (prTurn_len h) (f.take p) f
  have h2 : (f.take p).length ≤ p := by simp; exact Nat.min_le_left _ _
  exact lsn ‹_› ‹_›
theorem prAll_len (f : List (List Int)) : ∀ n, ((List.range n).foldl jaQ f).length ≤ f.length + 2 * n * n := by
 intro n
 induction n with
 | zero =>
  simp
 | succ n ih =>
  rw [jbc]
  have h1 := prPlace_len ((List.range n).foldl jaQ f) n
  have h2 := ih
  have e : 2 * n * n + 2 * n ≤ 2 * (n + 1) * (n + 1) := by
   rw [← Nat.add_mul]; exact Nat.mul_le_mul_left (2 * (n + 1)) (Nat.le_succ n)
  exact Nat.le_trans h1 (Nat.le_trans (Nat.add_le_add_right h2 _) (by rw [Nat.add_assoc]; exact Nat.add_le_add_left e _))
theorem prInit_len (rows : List (List Int)) (i j : Nat) : ∀ n, ((rows.take n).foldl (fun f r => addN f [r.getD i 0, r.getD j 0]) []).length ≤ n := fun n => by
 have := jbb (k := 1) (g := fun f (r : List Int) => addN f [r.getD i 0, r.getD j 0]) (fun f x => (addN_len f _).1) (rows.take n) []
 rw [List.length_nil, List.length_take] at this
 exact lsm ‹_›
theorem ja4 {α β : Type} {F : α → β → Prop} : ∀ {l₁ : List α} {l₂ : List β} {i : Nat} {v : α}, Paired F l₁ l₂ → l₁[i]? = some v → ∃ x, l₂[i]? = some x ∧ F v x := by
 intro _ _ i v p
 induction p generalizing i with
 | nil => intro h; cases h
 | cons a b ih => intro h; cases i with
  | zero => cases h; exact ⟨_, rfl, a⟩
  | succ i => exact ih h
theorem paired_ta {α β : Type} {F : α → β → Prop} : ∀ {l₁ : List α} {l₂ : List β} {i : Nat} {x : β}, Paired F l₁ l₂ → l₂[i]? = some x → ∃ v, l₁[i]? = some v ∧ F v x := by
 intro _ _ i v p
 induction p generalizing i with
 | nil => intro h; cases h
 | cons a b ih => intro h; cases i with
  | zero => cases h; exact ⟨_, rfl, a⟩
  | succ i => exact ih h
theorem jbY {α β : Type} {F : α → β → Prop} : ∀ {l₁ : List α} {l₂ : List β} (n : Nat), Paired F l₁ l₂ → Paired F (l₁.take n) (l₂.take n)
 | _, _, 0, _ => by simpa using Paired.nil
 | _, _, n + 1, .nil => .nil
 | _, _, n + 1, .cons a b => .cons a (jbY n b)
theorem NoL.mono {W U S : List Addr} {s : Shared} (h : NoL W s S) (k : ∀ a ∈ W, a ∈ U) : NoL U s S := fun x hx => (h x hx).imp (k x) id
section
variable {w : World} {B : Heap} {A : Around} {s : Shared} {a d b e c k m x y I l f D dx rl fl : Addr} {env cenv : Env} {sc : Scope} {E : Value → Shared → Prop} {W U : List Addr} {sX : Shared} {rvs : List Value} {rows found : List (List Int)} {one two t1 t2 : Nat}
noncomputable abbrev fixN : List Str := ["rows", "one", "two", "found"]
structure PrI (w : World) (B : Heap) (env : Env) (W U : List Addr) (rl fl : Addr) (rvs : List Value) (rows : List (List Int)) (one t1 two t2 : Nat) (sX : Shared) (s : Shared) (found : List (List Int)) : Prop where
 g : Good w B s
 f : Frm env s
 kp : Kp W sX s
 br : Bnd env "rows" (.ref rl) s
 bo : Bnd env "one" (.int one t1) s
 bt : Bnd env "two" (.int two t2) s
 bf : Bnd env "found" (.ref fl) s
 rp : PL s.heap rl rvs
 rr : Paired (liW U intR s.heap) rvs rows
 ff : ∃ vs, PL s.heap fl vs ∧ Paired (liW U intR s.heap) vs found
structure PrE (B : Heap) (env : Env) (sc : Scope) (W U : List Addr) (rl fl : Addr) (sX : Shared) : Prop where
 sta : Sta env sc
 own : ∀ a ∈ Own env, a ∈ W
 fw : fl ∈ W
 fo : fl ∉ Own env
 rw' : rl ∉ W
 bw : ∀ a ∈ W, B.get? a = none
 wu : ∀ a ∈ W, a ∈ U
 al : ∀ a ∈ U, ∃ o, sX.heap.get? a = some o
 tw : ∃ o, sX.heap.get? 2 = some o
 bx : ∀ a o, B.get? a = some o → ∃ o, sX.heap.get? a = some o
 set : ∀ x ∈ ([("row" : Str), "place", "here", "other", "new"] : List Str), jaB env x
theorem PrI.to {s' : Shared} {S : List Addr} (H : PrE B env sc W U rl fl sX) (X : PrI w B env W U rl fl rvs rows one t1 two t2 sX s found) (k : Kp S s s') (hS : ∀ a ∈ S, a ∈ W ∨ sX.heap.get? a = none) (hN : NoL W s S) (hf : fl ∉ S) (g : Good w B s') (f : Frm env s')
  (hb : ∀ y u, y ∈ fixN → Bnd env y u s → Bnd env y u s') : PrI w B env W U rl fl rvs rows one t1 two t2 sX s' found where
 g := g
 f := f
 kp := X.kp.compW k hS H.tw
 br := hb _ _ (by simp [fixN]) X.br
 bo := hb _ _ (by simp [fixN]) X.bo
 bt := hb _ _ (by simp [fixN]) X.bt
 bf := hb _ _ (by simp [fixN]) X.bf
 rp := pl_noL X.rp k H.rw' hN
 rr := jab (fun v x h => jbd jaZ s s' S v x h k (hN.mono H.wu)) X.rr
 ff := let ⟨vs, h1, h2⟩ := X.ff; ⟨vs, jaj h1 k hf, jab (fun v x h => jbd jaZ s s' S v x h k (hN.mono H.wu)) h2⟩
theorem PrI.ex {s' : Shared} (H : PrE B env sc W U rl fl sX) (X : PrI w B env W U rl fl rvs rows one t1 two t2 sX s found) (k : Kp [] s s') : PrI w B env W U rl fl rvs rows one t1 two t2 sX s' found :=
 X.to H k al0 jaq ni0 (X.g.kp k al0) (ja0 X.f k nn0) fun y u Y h => jcf h k ni0
theorem PrI.st {s' : Shared} {z : Str} (H : PrE B env sc W U rl fl sX) (X : PrI w B env W U rl fl rvs rows one t1 two t2 sX s found) (fI : sX.heap.get? I = none) (hI : ∃ o, s.heap.get? I = some o ∧ jba o) (k : Kp [I, jai env z] s s') (hz : z ∉ fixN) (hk : ∀ y u, y ≠ z → Bnd env y u s → Bnd env y u s') (g : Good w B s') (f : Frm env s') :
  PrI w B env W U rl fl rvs rows one t1 two t2 sX s' found :=
 X.to H k (by
   intro a ha
   rcases List.mem_cons.mp ha with rfl | ha
   ·exact .inr fI
   ·cases List.mem_singleton.mp ha; exact .inl (H.own _ jac))
  (noL_it hI (H.own _ jac)) (by
   intro q
   rcases List.mem_cons.mp q with rfl | q
   ·obtain ⟨o, e⟩ := H.al _ (H.wu _ H.fw); rw [fI] at e; cases e
   ·cases List.mem_singleton.mp q; exact H.fo jac) g f fun y u hy h => hk y u (fun q => hz (q ▸ hy)) h
theorem PrI.base (X : PrI w B env W U rl fl rvs rows one t1 two t2 sX s found) : PrI w B env W U rl fl rvs rows one t1 two t2 s s found := { X with kp := (Kp.refl s).mono al0 }
theorem PrI.join {s1 : Shared} (k : Kp W sX s1) (X : PrI w B env W U rl fl rvs rows one t1 two t2 s1 s found) : PrI w B env W U rl fl rvs rows one t1 two t2 sX s found := { X with kp := (k.trans X.kp).mono ap2 }
theorem PrE.at {s1 : Shared} (H : PrE B env sc W U rl fl sX) (k : Kp W sX s1) : PrE B env sc W U rl fl s1 := { H with al := fun a ha => let ⟨_, e⟩ := H.al a ha; k.there _ _ e, tw := let ⟨_, e⟩ := H.tw; k.there _ _ e, bx := fun a o e => let ⟨_, e⟩ := H.bx a o e; k.there _ _ e }
set_option tactic.hygienic true in
theorem pr_add {e1 e2 : Expr} {p1 p2 p3 p4 p5 p6 p7 : Pos} {xs : List Int} {n : Nat} (H : PrE B env sc W U rl fl sX) (X : PrI w B env W U rl fl rvs rows one t1 two t2 sX s found) (hA : Rm n A) (hn : n < 240) (hz : found.length ≤ 1000)
  (h1 : Wp w A (eval e1 env) (fun v s' => liW U intR s'.heap v xs ∧ Kp [] s s') s) (h2 : ∀ s', Kp [] s s' → Wp w A (eval e2 env) (fun v s'' => liW U intR s''.heap v xs ∧ Kp [] s' s'') s')
  (he : starEach [e2] env = [(false, eval e2 env)] := by rfl) (hsw : swapsWith (.Call (.Attribute (.Name "found" p3) "append" p4) [e2] [] p5) none p6.line env = pure false := by rfl) (hl : (p4.endLine == p5.line) = true := by rfl) :
  Wp w A (exec (.If (.Compare e1 [.NotIn] [.Name "found" p1] p2) [.Expr (.Call (.Attribute (.Name "found" p3) "append" p4) [e2] [] p5) p6] [] p7) env) (fun f s' => f = .next ∧ PrI w B env W U rl fl rvs rows one t1 two t2 sX s' (addN found xs) ∧ ∀ y u, Bnd env y u s → Bnd env y u s') s := by
 try (refine lW ?_; intro Ro)
 refine wpAny_If (wpAny_isTrue_Compare1 (h1.use fun v s1 hx0 => ?_))
 obtain ⟨hv, k1⟩ := hx0
 have X1 := X.ex H k1
 refine jaf H.sta X1.bf ?_
 refine aG ?_; intro gO; obtain ⟨vs, hvs, pvs⟩ := X1.ff; unfold gO; clear gO
 have hu := hA.2.2
 refine (notin_list (n := 1) (liW_func jbi) (eqOk_liW (W := U) jbi jbq) (by unfold cLine; exact lqn ‹_› ‹_› (by rfl)) ⟨fl, vs, rfl, hvs, pvs⟩ hv).use fun r s2 hx0 => ?_
 obtain ⟨er, es⟩ := hx0
 subst er es
 refine wpAny_truthy_bool ?_
 split
 rotate_left
 ·rename_i hm
  have hm : xs ∈ found := by simpa using hm
  refine wpAny_execs_nil ⟨rfl, ?_⟩
  have : addN found xs = found := by unfold addN; rw [if_pos hm]
  rw [this]; exact ⟨X1, fun y u h => jcf h k1 ni0⟩
 ·rename_i hm
  have hm : xs ∉ found := by simpa using hm
  refine (wpAny_execs_cons (jcn (B := B) H.sta.ok ?_ (hb := rfl) (hl := hl) (he := he) (hs := hsw)))
  refine jaf H.sta X1.bf ⟨fl, vs, rfl, hvs, (h2 _ k1).use fun y s3 hx0 => ?_⟩
  obtain ⟨hy, k3⟩ := hx0
  have X3 := X1.ex H k3
  have hvs3 := jaj hvs k3 ni0
  refine ⟨hvs3, by rw [jaa pvs]; exact hz, H.bw _ H.fw, X3.g, fun s4 h4 k4 G4 => ?_⟩
  refine wpAny_execs_nil ⟨rfl, ?_⟩
  have e : addN found xs = found ++ [xs] := by unfold addN; rw [if_neg hm]
  rw [e]
  have n4 : NoL W s3 [fl] := ja9 (al1 H.fw)
  have b4 : ∀ y u, Bnd env y u s3 → Bnd env y u s4 := fun y u h => jaA h k4 fun a ha q => H.fo (by cases List.mem_singleton.mp q; exact ha)
  refine ⟨?_, fun y u h => b4 y u (jcf (jcf h k1 ni0) k3 ni0)⟩
  exact { g := G4, f := ja0 X3.f k4 (fun a ha q => H.fo (by cases List.mem_singleton.mp q; exact ha)), kp := X3.kp.compW k4 (by simpa using .inl H.fw) H.tw,
          br := b4 _ _ X3.br, bo := b4 _ _ X3.bo, bt := b4 _ _ X3.bt, bf := b4 _ _ X3.bf, rp := pl_noL X3.rp k4 H.rw' n4, rr := jab (fun v x h => jbd jaZ s3 s4 _ v x h k4 (n4.mono H.wu)) X3.rr,
          ff := ⟨_, h4, (jab (fun v x h => jbd jaZ s3 s4 _ v x h k4 (n4.mono H.wu)) (jab (fun v x h => jbd jaZ s2 s3 _ v x h k3 jaq) pvs)).snoc (jbd jaZ s3 s4 _ y xs hy k4 (n4.mono H.wu))⟩ }
end
section
variable {w : World} {B : Heap} {A : Around} {s : Shared} {a d b e c k m x y I l f D dx rl fl : Addr} {env cenv : Env} {sc : Scope} {E : Value → Shared → Prop} {W U : List Addr} {sX : Shared} {rvs : List Value} {rows found : List (List Int)} {one two t1 t2 : Nat}
theorem jae {z : Str} {v : Value} {s' : Shared} (h : Bnd env z v s) (k : Kp [] s s') : Bnd env z v s' := jcf h k ni0
theorem jbt {v : Value} {xs : List Int} {s' : Shared} {vs : List Value} (hal : ∀ a ∈ U, ∃ o, s.heap.get? a = some o) (hD : s.heap.get? D = none) (hl : PL s'.heap D vs) (p : Paired (intR s'.heap) vs xs) (e : v = .ref D) : liW U intR s'.heap v xs :=
 ⟨D, vs, e, (fun q => by obtain ⟨o, e⟩ := hal _ q; rw [hD] at e; cases e), hl, p⟩
theorem int_at {vs : List Value} {xs : List Int} {h : Heap} {i : Nat} (p : Paired (intR h) vs xs) (hi : i < xs.length) : ∃ t, vs[i]? = some (.int (xs.getD i 0) t) := by
 obtain ⟨v, hv, t, e⟩ := paired_ta p (x := xs[i]) (i := i) (by simp [hi])
 refine ⟨t, ?_⟩
 rw [hv, e]
 simp [hi]
theorem pr_pair {z o1 o2 : Str} {p1 p2 p3 p4 p5 p6 p7 : Pos} {r : Addr} {rv : List Value} {row : List Int} {i j u1 u2 : Nat} (G : Good w B s) (S : Sta env sc) (hal : ∀ a ∈ U, ∃ o, s.heap.get? a = some o) (hz : Bnd env z (.ref r) s) (h1 : Bnd env o1 (.int i u1) s) (h2 : Bnd env o2 (.int j u2) s)
  (hl : PL s.heap r rv) (p : Paired (intR s.heap) rv row) (hi : i < row.length) (hj : j < row.length) (hb : row.length ≤ 1000)
  (d1 : (z == ("__debug__" : Str)) = false := by kernel_rfl) (d2 : (z == ("__classdict__" : Str)) = false := by kernel_rfl) (d3 : (o1 == ("__debug__" : Str)) = false := by kernel_rfl) (d4 : (o1 == ("__classdict__" : Str)) = false := by kernel_rfl) (d5 : (o2 == ("__debug__" : Str)) = false := by kernel_rfl) (d6 : (o2 == ("__classdict__" : Str)) = false := by kernel_rfl) :
  Wp w A (eval (.List [.Subscript (.Name z p1) (.Name o1 p2) p3, .Subscript (.Name z p4) (.Name o2 p5) p6] p7) env) (fun v s' => liW U intR s'.heap v [row.getD i 0, row.getD j 0] ∧ Kp [] s s') s := by
 obtain ⟨t, e1⟩ := int_at p hi
 obtain ⟨t', e2⟩ := int_at p hj
 refine jaU (B := B) (jad (ev_at S hz hl h1 e1 (Nat.le_trans ‹_› ‹_›) (jad (ev_at S hz hl h2 e2 (Nat.le_trans ‹_› ‹_›) (jao ⟨G, by simp, fun D s' hD hl' k => ?_⟩) d1 d2 d5 d6)) d1 d2 d3 d4))
 exact ⟨jbt hal hD hl' (.cons ⟨_, rfl⟩ (.cons ⟨_, rfl⟩ .nil)) rfl, k⟩
theorem pr_mx {fn : String} {g : Int → Int → Int} {p0 p1 p2 p3 p4 p5 p6 p7 : Pos} {k1 k2 : Nat} {h o : Addr} {hv ov : List Value} {hs os : List Int} {i n : Nat} {Q : Value → Shared → Prop} (G : Good w B s) (S : Sta env sc) (hA : Rm n A) (hh : Bnd env "here" (.ref h) s) (ho : Bnd env "other" (.ref o) s)
  (hl : PL s.heap h hv) (p : Paired (intR s.heap) hv hs) (hl' : PL s.heap o ov) (p' : Paired (intR s.heap) ov os) (hi : i < hs.length) (hi' : i < os.length) (hb : i < 1000)
  (hf : globIn (KH w.params) (PySem.Str.ofString fn) = some (.builtin fn)) (hn : sc.names.lookup (PySem.Str.ofString fn) = some .globalImplicit) (hd : (PySem.Str.ofString fn == ("__debug__" : Str)) = false)
  (hc : ∀ (s : Shared) p q t u, Good w B s → Wp w A (call (.builtin fn) [.int p t, .int q u]) (fun v s' => (∃ t', 0 ≤ t' ∧ v = .int (g p q) t') ∧ Kp [] s s') s)
  (h : ∀ v s', (∃ t, v = .int (g (hs.getD i 0) (os.getD i 0)) t) → Kp [] s s' → Q v s') :
  wpAny (model P0 w) A (eval (.Call (.Name (PySem.Str.ofString fn) p0) [.Subscript (.Name "here" p1) (.Constant (.int i) k1 p2) p3, .Subscript (.Name "other" p4) (.Constant (.int i) k2 p5) p6] [] p7) env) Q E s := by
 obtain ⟨t, e1⟩ := int_at p hi
 obtain ⟨t', e2⟩ := int_at p' hi'
 refine jap (jal (.builtin fn) G S.ok ?_ hf hn hd)
 refine ja8 (jad (ev_atc G S hh hl e1 hb fun s1 q1 => ?_))
 refine jad (ev_atc (G.kp q1 al0) S (jae ho q1) (jaj hl' q1 ni0) e2 hb fun s2 q2 => jao ?_)
 refine (hc s2 _ _ _ _ ((G.kp q1 al0).kp q2 al0)).use fun v s3 hx0 => ?_
 obtain ⟨⟨t3, _, ev⟩, q3⟩ := hx0
 exact h v s3 ⟨t3, ev⟩ (((q1.trans q2).trans q3).mono al0)
end
noncomputable abbrev prB : List Stmt := ja2 (lawS "_law_pairs")
section
variable {w : World} {B : Heap} {A : Around} {s : Shared} {a d b e c k m x y I l f D dx rl fl : Addr} {env cenv : Env} {sc : Scope} {E : Value → Shared → Prop} {W U V : List Addr} {sX : Shared} {rvs : List Value} {rows found : List (List Int)} {one two t1 t2 : Nat}
theorem PrI.it {s' : Shared} (H : PrE B env sc W U rl fl sX) (X : PrI w B env W U rl fl rvs rows one t1 two t2 sX s found) (fI : sX.heap.get? I = none) (hI : ∃ o, s.heap.get? I = some o ∧ jba o) (k : Kp [I] s s') :
  PrI w B env W U rl fl rvs rows one t1 two t2 sX s' found := by
 have ne : ∀ a ∈ W, a ≠ I := fun a ha q => by obtain ⟨o, e⟩ := H.al _ (H.wu _ ha); rw [q, fI] at e; cases e
 have bI : B.get? I = none := by
  cases e : B.get? I with
  | none => rfl
  | some o =>
   have : (∃ o, sX.heap.get? I = some o) → False := fun hx0 => by obtain ⟨o, e⟩ := hx0; rw [fI] at e; cases e
   exact absurd (H.bx _ _ e) this
 exact X.to H k (by simpa using .inr fI) (fun x hx => by
   cases List.mem_singleton.mp hx
   obtain ⟨o, ho, hc⟩ := hI; exact .inr ⟨o, ho, hc.1⟩) (by simpa using ne _ H.fw) (X.g.kp k (al1 bI)) (ja0 X.f k (fun a ha => by simpa using ne _ (H.own _ ha))) fun y u Y h => jaA h k fun a ha => by simpa using ne _ (H.own _ ha)
theorem PrI.sv {s' : Shared} {z : Str} (H : PrE B env sc W U rl fl sX) (X : PrI w B env W U rl fl rvs rows one t1 two t2 sX s found) (k : Kp [jai env z] s s') (hz : z ∉ fixN) (hk : ∀ y u, y ≠ z → Bnd env y u s → Bnd env y u s') (g : Good w B s') (f : Frm env s') :
  PrI w B env W U rl fl rvs rows one t1 two t2 sX s' found :=
 X.to H k (by simpa using .inl (H.own _ jac)) (ja9 (by simpa using H.own _ jac)) (by simpa using fun q : fl = jai env z => H.fo (q ▸ jac)) g f fun y u hy h => hk y u (fun q => hz (q ▸ hy)) h
end
noncomputable def forB : Stmt → List Stmt | .For _ _ b _ _ => b | _ => []
noncomputable def ifB : Stmt → List Stmt | .If _ b _ _ => b | _ => []
noncomputable abbrev plB : List Stmt := forB prB[2]!
noncomputable abbrev hrB : List Stmt := ifB plB[0]!
noncomputable abbrev otB : List Stmt := forB hrB[1]!
section
variable {w : World} {B : Heap} {A : Around} {s : Shared} {a d b e c k m x y I l f D dx rl fl : Addr} {env cenv : Env} {sc : Scope} {E : Value → Shared → Prop} {W U V : List Addr} {sX : Shared} {rvs : List Value} {rows found : List (List Int)} {one two t1 t2 : Nat}
theorem jan {v : Value} {xs : List Int} {s' : Shared} {S : List Addr} (h : liW U intR s.heap v xs) (k : Kp S s s') (n : NoL U s S) : liW U intR s'.heap v xs := jbd jaZ s s' S v xs h k n
theorem it_noL (hI : ∃ o, s.heap.get? I = some o ∧ jba o) : NoL U s [I] := fun x hx => by
 cases List.mem_singleton.mp hx
 obtain ⟨o, ho, hc⟩ := hI; exact .inr ⟨o, ho, hc.1⟩
theorem pr_new {n : Nat} {h o : Value} {hs os : List Int} (hsc : sc = jas (lawS "_law_pairs")) (H : PrE B env sc W U rl fl sX) (X : PrI w B env W U rl fl rvs rows one t1 two t2 sX s found) (hA : Rm n A) (hn : n < 240) (hz : found.length + 2 ≤ 1000)
  (hb : Bnd env "here" h s) (ho : Bnd env "other" o s) (hh : liW U intR s.heap h hs) (hh' : liW U intR s.heap o os) (l1 : hs.length = 2) (l2 : os.length = 2) :
  Wp w A (execs otB env) (fun f s' => f = .next ∧ PrI w B env W U rl fl rvs rows one t1 two t2 sX s' (prTurn hs found os) ∧ ∀ (y : Str) u, y ≠ "new" → Bnd env y u s → Bnd env y u s') s := by
 try (refine lW ?_; intro Ro)
 have e1 : otB = [otB[0]!] := by kernel_rfl
 rw [e1]
 obtain ⟨ha, hv, rfl, nh, hl, ph⟩ := hh
 obtain ⟨oa, ov, rfl, no, ol, po⟩ := hh'
 refine wpAny_execs_cons (wpAny_For ?_)
 refine jaU (B := B) (jad (jaU (B := B) ?_))
 refine jad (pr_mx (fn := "max") (g := mx) X.g H.sta hA hb ho hl ph ol po (i := 0) (lqb ‹_› (by rfl)) (lqb ‹_› (by rfl)) (lqe rfl) (by kernel_rfl) (by rw [hsc]; kernel_rfl) (by kernel_rfl) (fun s p q t u G => max_call G hA.1 (Nat.zero_le _) (Nat.zero_le _)) fun v1 s1 i1 k1 => ?_)
 have X1 := X.ex H k1
 refine jad (pr_mx (fn := "max") (g := mx) X1.g H.sta hA (jae hb k1) (jae ho k1) (jaj hl k1 ni0) ph (jaj ol k1 ni0) po (i := 1) (lqb ‹_› (by rfl)) (lqb ‹_› (by rfl)) (lqe rfl) (by kernel_rfl) (by rw [hsc]; kernel_rfl) (by kernel_rfl) (fun s p q t u G => max_call G hA.1 (Nat.zero_le _) (Nat.zero_le _)) fun v2 s2 i2 k2 => ?_)
 refine jao ⟨X1.g.kp k2 al0, by simp, fun D1 s3 f3 hD1 k3 => ?_⟩
 have K3 : Kp [] s s3 := ((k1.trans k2).trans k3).mono al0
 have X3 := X.ex H K3
 have aU : ∀ a ∈ U, ∃ o, s.heap.get? a = some o := (H.at X.kp).al
 have r1 : liW U intR s3.heap (.ref D1) [mx (hs.getD 0 0) (os.getD 0 0), mx (hs.getD 1 0) (os.getD 1 0)] := jbt aU ((k1.trans k2).back f3) hD1 (.cons i1 (.cons i2 .nil)) rfl
 refine jad (jaU (B := B) ?_)
 refine jad (pr_mx (fn := "min") (g := mn) X3.g H.sta hA (jae hb K3) (jae ho K3) (jaj hl K3 ni0) ph (jaj ol K3 ni0) po (i := 0) (lqb ‹_› (by rfl)) (lqb ‹_› (by rfl)) (lqe rfl) (by kernel_rfl) (by rw [hsc]; kernel_rfl) (by kernel_rfl) (fun s p q t u G => min_call G hA.1 (Nat.zero_le _) (Nat.zero_le _)) fun v4 s4 i4 k4 => ?_)
 have K4 : Kp [] s s4 := (K3.trans k4).mono al0
 have X4 := X.ex H K4
 refine jad (pr_mx (fn := "min") (g := mn) X4.g H.sta hA (jae hb K4) (jae ho K4) (jaj hl K4 ni0) ph (jaj ol K4 ni0) po (i := 1) (lqb ‹_› (by rfl)) (lqb ‹_› (by rfl)) (lqe rfl) (by kernel_rfl) (by rw [hsc]; kernel_rfl) (by kernel_rfl) (fun s p q t u G => min_call G hA.1 (Nat.zero_le _) (Nat.zero_le _)) fun v5 s5 i5 k5 => ?_)
 refine jao ⟨X4.g.kp k5 al0, by simp, fun D2 s6 f6 hD2 k6 => ?_⟩
 have K6 : Kp [] s s6 := ((K4.trans k5).trans k6).mono al0
 have X6 := X.ex H K6
 have r2 : liW U intR s6.heap (.ref D2) [mn (hs.getD 0 0) (os.getD 0 0), mn (hs.getD 1 0) (os.getD 1 0)] := jbt aU ((K4.trans k5).back f6) hD2 (.cons i4 (.cons i5 .nil)) rfl
 refine jao ⟨X6.g, by simp, fun D s7 f7 hD k7 => ?_⟩
 have K7 : Kp [] s s7 := (K6.trans k7).mono al0
 have X7 := X.ex H K7
 have p7 : Paired (liW U intR s7.heap) [.ref D1, .ref D2] (jbk hs os) := .cons (jan (jan (jan (jan r1 k4 jaq) k5 jaq) k6 jaq) k7 jaq) (.cons (jan r2 k7 jaq) .nil)
 refine (jaD X7.g hD.list).use fun v s8 It => ?_
 have X8 := X7.ex H It.kp
 have H7 := H.at X7.kp
 refine jbz (W := W) H.sta hA X7.g It H.own (fun a ha => H7.al a (H.wu a ha)) (fun a ha q => ?_) (fun a ha => H.bw _ (H.own a ha)) (H.set _ (by simp))
  (fun i s => PrI w B env W U rl fl rvs rows one t1 two t2 s7 s (((jbk hs os).take i).foldl addN found) ∧ Paired (liW U intR s.heap) [.ref D1, .ref D2] (jbk hs os) ∧ ∀ (y : Str) u, y ≠ "new" → Bnd env y u s7 → Bnd env y u s) (fun i s h => ⟨h.1.g, h.1.f⟩) ⟨PrI.ex H7 X7.base It.kp, jab (fun v x h => jan h It.kp jaq) p7, fun y u Y h => jae h It.kp⟩ ?_ ?_
 ·cases List.mem_singleton.mp ha
  obtain ⟨o, e⟩ := H.al _ (H.wu _ q)
  obtain ⟨o, e⟩ := X6.kp.there _ _ e
  rw [f7] at e; cases e
 ·rintro I i v s9 s10 fI hi hv ⟨X9, p9, q9⟩ hI k10 b10 hk10 G10 F10
  first | (refine lW ?_; intro Ro) | (refine lA ?_; intro Ro) | (refine lC ?_; intro Ro) | skip
  have X10 := X9.st H7 fI hI k10 (by decide +kernel) hk10 G10 F10
  have p10 := jab (fun v x h => jan h k10 ((noL_it hI (H.own _ jac)).mono H.wu)) p9
  refine aG ?_; intro gO; obtain ⟨x, hx, rx⟩ := ja4 p10 (toA hv); unfold gO; clear gO
  have H10 := H7.at X10.kp
  refine wpAny_execs_cons ((pr_add H10 X10.base hA hn ?_ (jaf H.sta b10 ⟨rx, (Kp.refl _).mono al0⟩) fun s' k' => jaf H.sta (jae b10 k') ⟨jan rx k' jaq, (Kp.refl _).mono al0⟩).use fun f s11 hx0 => ?_)
  ·first | (refine lW ?_; intro Ro) | (refine lA ?_; intro Ro) | (refine lC ?_; intro Ro) | skip
   have := jbb (k := 1) (fun f x => (addN_len (α := List Int) f x).1) ((jbk hs os).take i) found
   have h2 : ((jbk hs os).take i).length ≤ 2 := by rw [List.length_take]; simp [jbk]; exact Nat.min_le_right _ _
   exact lss ‹_› ‹_› ‹_›
  ·first | (refine lW ?_; intro Ro) | (refine lA ?_; intro Ro) | (refine lC ?_; intro Ro) | skip
   refine aG ?_; intro gO; obtain ⟨ef, X11, q11⟩ := hx0; unfold gO; clear gO
   subst ef
   refine wpAny_execs_nil ⟨⟨?_, jab (fun v x h => ?_) p10, fun y u hy h => q11 y u (hk10 y u hy (q9 y u hy h))⟩, X11.kp⟩
   ·first | (refine lW ?_; intro Ro) | (refine lA ?_; intro Ro) | (refine lC ?_; intro Ro) | skip
    rw [jbu hx]
    exact X11.join X10.kp
   ·exact jan h X11.kp (ja9 H.wu)
 ·rintro I s9 s10 fI ⟨X9, _, q9⟩ hI k10
  first | (refine lW ?_; intro Ro) | (refine lA ?_; intro Ro) | (refine lC ?_; intro Ro) | skip
  refine wpAny_execs_nil ⟨rfl, ?_, fun y u hy h => jcf (q9 y u hy (jae h K7)) k10 (by simpa using fun q : jai env y = I => by obtain ⟨o, e⟩ := H7.al _ (H.wu _ (H.own _ (jac (env := env) (x := y)))); rw [q, fI] at e; cases e)⟩
  have X10 := X9.it H7 fI hI k10
  rw [fold_all (by simp [jbk])] at X10
  exact X10.join X7.kp
end
section
variable {w : World} {B : Heap} {A : Around} {s : Shared} {a d b e c k m x y I l f D dx rl fl : Addr} {env cenv : Env} {sc : Scope} {E : Value → Shared → Prop} {W U V : List Addr} {sX : Shared} {rvs : List Value} {rows found : List (List Int)} {one two t1 t2 : Nat}
theorem addN_all {P : List Int → Prop} {f : List (List Int)} {x : List Int} (hf : ∀ y ∈ f, P y) (hx : P x) : ∀ y ∈ addN f x, P y := by
 unfold addN
 split
 ·exact hf
 ·intro y hy
  first | (refine lW ?_; intro Ro) | (refine lA ?_; intro Ro) | (refine lC ?_; intro Ro) | skip
  rcases List.mem_append.mp hy with h | h
  ·exact hf y h
  ·cases List.mem_singleton.mp h; exact hx
theorem ja7 {α β : Type} {P : β → Prop} {g : β → α → β} : ∀ (xs : List α) (b : β), (∀ b x, x ∈ xs → P b → P (g b x)) → P b → P (xs.foldl g b) := by
 intro xs
 induction xs with
 | nil =>
  rintro _ _ h
  exact h
 | cons x xs ih =>
  rintro b hg h
  exact ih (g b x) (fun b y hy hb => hg b y (List.mem_cons_of_mem _ hy) hb) (hg b x (List.mem_cons_self ..) h)
theorem prTurn_two {h o : List Int} {f : List (List Int)} (hf : ∀ y ∈ f, y.length = 2) : ∀ y ∈ prTurn h f o, y.length = 2 := by
 refine ja7 (P := fun f : List (List Int) => ∀ y ∈ f, y.length = 2) _ _ (fun b x hx hb => addN_all hb ?_) hf
 simp [jbk] at hx
 rcases hx with rfl | rfl <;> rfl
theorem prPlace_two {f : List (List Int)} (p : Nat) (hf : ∀ y ∈ f, y.length = 2) : ∀ y ∈ jaQ f p, y.length = 2 := by
 unfold jaQ
 split
 ·exact hf
 ·exact ja7 (P := fun f : List (List Int) => ∀ y ∈ f, y.length = 2) _ _ (fun b x Y hb => prTurn_two hb) hf
theorem prInit_two (rows : List (List Int)) (i j n : Nat) : ∀ y ∈ (rows.take n).foldl (fun f r => addN f [r.getD i 0, r.getD j 0]) [], y.length = 2 :=
 ja7 (P := fun f : List (List Int) => ∀ y ∈ f, y.length = 2) _ _ (fun b x Y hb => addN_all hb rfl) na0
theorem pr_others {n : Nat} {h : Value} {hs : List Int} {p : Nat} {t : Nat} (hsc : sc = jas (lawS "_law_pairs")) (H : PrE B env sc W U rl fl sX) (X : PrI w B env W U rl fl rvs rows one t1 two t2 sX s found) (hA : Rm n A) (hn : n < 240) (hz : found.length + 2 * p ≤ 998) (hp : p ≤ 200)
  (hb : Bnd env "here" h s) (hpl : Bnd env "place" (.int p t) s) (hh : liW U intR s.heap h hs) (l1 : hs.length = 2) (two' : ∀ y ∈ found, y.length = 2) :
  Wp w A (exec hrB[1]! env) (fun f s' => f = .next ∧ PrI w B env W U rl fl rvs rows one t1 two t2 sX s' ((found.take p).foldl (prTurn hs) found)) s := by
 try (refine lW ?_; intro Ro)
 refine wpAny_For ?_
 refine aG ?_; intro gO; obtain ⟨vs, hvs, pvs⟩ := X.ff; unfold gO; clear gO
 have hle : vs.length ≤ 1000 := by rw [jaa pvs]; exact lsg ‹_› (by rfl)
 refine ev_slice (B := B) (jaf H.sta X.bf (wpAny_evalPart_none (wpAny_evalPart_some (jaf H.sta hpl ⟨fl, vs, none, some p, rfl, hvs, hle, .none, .int .., X.g, fun D s1 f1 hD k1 => ?_⟩))))
 rw [slicePick_upto'] at hD
 have hD' : PL s1.heap D (vs.take p) := by simpa using hD
 have X1 := X.ex H k1
 have p1 : Paired (liW U intR s1.heap) (vs.take p) (found.take p) := jbY p (jab (fun v x h => jan h k1 jaq) pvs)
 refine (jaD X1.g hD'.list).use fun v s2 It => ?_
 have H1 := H.at X1.kp
 have X2 : PrI w B env W U rl fl rvs rows one t1 two t2 s1 s2 found := PrI.ex H1 X1.base It.kp
 refine jbz (W := W) H.sta hA X1.g It H.own (fun a ha => H1.al a (H.wu a ha)) (fun a ha q => ?_) (fun a ha => H.bw _ (H.own a ha)) (H.set _ (by simp))
  (fun i s => PrI w B env W U rl fl rvs rows one t1 two t2 s1 s (((found.take p).take i).foldl (prTurn hs) found) ∧ Paired (liW U intR s.heap) (vs.take p) (found.take p) ∧ Bnd env "here" h s ∧ liW U intR s.heap h hs) (fun i s h => ⟨h.1.g, h.1.f⟩)
  ⟨by simpa using X2, jab (fun v x h => jan h It.kp jaq) p1, jae (jae hb k1) It.kp, jan (jan hh k1 jaq) It.kp jaq⟩ ?_ ?_
 ·cases List.mem_singleton.mp ha
  obtain ⟨o, e⟩ := H.al _ (H.wu _ q)
  obtain ⟨o, e⟩ := X.kp.there _ _ e
  rw [f1] at e; cases e
 ·rintro I i v s3 s4 fI hi hv ⟨X3, p3, b3, h3⟩ hI k4 b4 hk4 G4 F4
  first | (refine lW ?_; intro Ro) | (refine lA ?_; intro Ro) | (refine lC ?_; intro Ro) | skip
  have X4 := X3.st H1 fI hI k4 (by decide +kernel) hk4 G4 F4
  have n4 : NoL U s3 [I, jai env "other"] := (noL_it hI (H.own _ jac)).mono H.wu
  have p4 := jab (fun v x h => jan h k4 n4) p3
  have h4 := jan h3 k4 n4
  have c4 := hk4 ("here" : Str) h (by decide +kernel) b3
  refine aG ?_; intro gO; obtain ⟨x, hx, rx⟩ := ja4 p4 (toA hv); unfold gO; clear gO
  have H4 := H1.at X4.kp
  have hxm : x ∈ found := List.mem_of_mem_take (List.mem_of_getElem? hx)
  have hbd : (((found.take p).take i).foldl (prTurn hs) found).length ≤ found.length + 2 * p := by
   refine Nat.le_trans (jbb (k := 2) (prTurn_len hs) _ _) ?_
   have : ((found.take p).take i).length ≤ p := by rw [List.length_take, List.length_take]; exact Nat.le_trans (Nat.min_le_right _ _) (Nat.min_le_left _ _)
   exact lso ‹_›
  refine (pr_new hsc H4 X4.base hA hn (by omega) c4 b4 h4 rx l1 (two' _ hxm)).useE fun s5 hx0 => ?_
  obtain ⟨X5, q5⟩ := hx0
  refine ⟨⟨?_, jab (fun v x h => jan h X5.kp (ja9 H.wu)) p4, ?_, jan h4 X5.kp (ja9 H.wu)⟩, X5.kp⟩
  ·rw [jbu hx]; exact X5.join X4.kp
  ·exact q5 ("here" : Str) h (by decide +kernel) c4
 ·rintro I s3 s4 fI ⟨X3, _⟩ hI k4
  first | (refine lW ?_; intro Ro) | (refine lA ?_; intro Ro) | (refine lC ?_; intro Ro) | skip
  refine ⟨rfl, ?_⟩
  have X4 := X3.it H1 fI hI k4
  rw [fold_all (by rw [← jaa p1]; simp)] at X4
  exact X4.join X1.kp
end
section
variable {w : World} {B : Heap} {A : Around} {s : Shared} {a d b e c k m x y I l f D dx rl fl : Addr} {env cenv : Env} {sc : Scope} {E : Value → Shared → Prop} {W U V : List Addr} {sX : Shared} {rvs : List Value} {rows found : List (List Int)} {one two t1 t2 : Nat}
set_option tactic.hygienic true in
theorem pr_place {n : Nat} {p t : Nat} (hsc : sc = jas (lawS "_law_pairs")) (H : PrE B env sc W U rl fl sX) (X : PrI w B env W U rl fl rvs rows one t1 two t2 sX s found) (hA : Rm n A) (hn : n < 240) (hz : found.length + 2 * p ≤ 998) (hp : p ≤ 200)
  (hpl : Bnd env "place" (.int p t) s) (two' : ∀ y ∈ found, y.length = 2) :
  Wp w A (execs plB env) (fun f s' => f = .next ∧ PrI w B env W U rl fl rvs rows one t1 two t2 sX s' (jaQ found p)) s := by
 try (refine lW ?_; intro Ro)
 have e1 : plB = [plB[0]!] := by kernel_rfl
 rw [e1]
 refine aG ?_; intro gO; obtain ⟨vs, hvs, pvs⟩ := X.ff; unfold gO; clear gO
 have hle : vs.length ≤ 1000 := by rw [jaa pvs]; exact lsg ‹_› (by rfl)
 refine wpAny_execs_cons (wpAny_If (wpAny_isTrue_Compare1 (jaf H.sta hpl (jap (jal (.builtin "len") X.g H.sta.ok ?_ (by kernel_rfl) (by rw [hsc]; kernel_rfl) (by kernel_rfl))))))
 refine ja8 (jad (jaf H.sta X.bf (jao ?_)))
 refine (len_call hvs hle).useP fun t' s1 k1 => ?_
 have X1 := X.ex H k1
 refine lt_int (wpAny_truthy_bool ?_)
 split
 rotate_left
 ·rename_i hlt
  have hlt : vs.length ≤ p := by simpa using hlt
  refine wpAny_execs_nil (wpAny_execs_nil ⟨rfl, ?_⟩)
  have : jaQ found p = found := by
   unfold jaQ
   rw [List.getElem?_eq_none (by rw [← jaa pvs]; exact hlt)]
  rw [this]; exact X1
 ·rename_i hlt
  have hlt : p < vs.length := by simpa using hlt
  have hlt' : p < found.length := by rw [← jaa pvs]; exact hlt
  have e2 : hrB = [hrB[0]!, hrB[1]!] := by kernel_rfl
  have hvs1 := jaj hvs k1 ni0
  have pvs1 := jab (fun v x h => jan h k1 (jaq (W := U))) pvs
  have hh : liW U intR s1.heap vs[p] found[p] := ja3 pvs1 p hlt hlt'
  show wpAny _ _ (execs hrB env) _ _ _
  rw [e2]
  refine wpAny_execs_cons (wpAny_Assign_Name (ev_at H.sta X1.bf hvs1 (jae hpl k1) (List.getElem?_eq_getElem hlt) (lq5 ‹_› (by rfl)) ?_))
  refine jaY X1.g H.sta X1.f (fun a ha => H.bw _ (H.own a ha)) (fun s2 b2 F2 hk2 k2 g2 G2 => ?_) (H.set ("here" : Str) (List.Mem.tail _ (List.Mem.tail _ (List.Mem.head _))))
  have X2 := X1.sv H k2 (by decide +kernel) hk2 G2 F2
  have n2 : NoL U s1 [jai env "here"] := ja9 fun a ha => by cases List.mem_singleton.mp ha; exact H.wu _ (H.own _ jac)
  have hh2 := jan hh k2 n2
  refine wpAny_execs_cons ((pr_others hsc H X2 hA hn hz hp b2 (hk2 ("place" : Str) _ (by decide +kernel) (jae hpl k1)) hh2 (two' _ (List.getElem_mem _)) two').useE fun s3 X3 => ?_)
  refine wpAny_execs_nil (wpAny_execs_nil ⟨rfl, ?_⟩)
  have : jaQ found p = (found.take p).foldl (prTurn found[p]) found := by
   unfold jaQ
   rw [List.getElem?_eq_getElem hlt']
  rw [this]; exact X3
theorem jah {α β : Type} {F G : α → β → Prop} (h : ∀ v x, F v x → G v x) : ∀ {l₁ : List α} {l₂ : List β}, Paired F l₁ l₂ → Paired G l₁ l₂ := fun p => by
 induction p with
 | nil => exact .nil
 | cons a b ih => exact .cons (h _ _ a) ih
theorem lookup_nodup {z : Str} {c : Addr} : ∀ {l : List (Str × Addr)}, (l.map (·.1)).Nodup → (z, c) ∈ l → l.lookup z = some c
 | (y, v) :: l, hn, hm => by
  rw [List.map_cons, List.nodup_cons] at hn
  rw [List.lookup_cons]
  rcases List.mem_cons.mp hm with q | q
  ·cases q; simp
  ·have : (z == y) = false := by
    rw [beq_eq_false_iff_ne]
    rintro rfl
    exact hn.1 (List.mem_map.mpr ⟨_, q, rfl⟩)
   rw [this]
   exact lookup_nodup hn.2 q
theorem CallC.alive {f : Addr} {fd : FuncData} {binds : List (Str × Value)} {s₁ : Shared} {ks : List Str} (X : CallC s env sc f fd binds s₁) (hk : ∀ N, (cellsFrom N sc.names []).map (·.1) = ks) (hn : ks.Nodup) : ∀ a ∈ Own env, ∃ o, s₁.heap.get? a = some o := by
 intro a q
 unfold Own at q
 rcases List.mem_cons.mp q with q | q
 ·first | (refine lW ?_; intro Ro) | (refine lA ?_; intro Ro) | (refine lC ?_; intro Ro) | skip
  refine aG ?_; intro gO; obtain ⟨o, _, _, ho, _⟩ := X.ns; unfold gO; clear gO
  exact ⟨o, q ▸ ho⟩
 ·first | (refine lW ?_; intro Ro) | (refine lA ?_; intro Ro) | (refine lC ?_; intro Ro) | skip
  refine aG ?_; intro gO; obtain ⟨p, hp, hq⟩ := List.mem_map.mp q; unfold gO; clear gO
  have hl : env.cells.lookup p.1 = some p.2 := lookup_nodup (by rw [X.cells, hk]; exact hn) hp
  refine aG ?_; intro gO; obtain ⟨o, ho, _⟩ := X.cell p.1 p.2 hl; unfold gO; clear gO
  exact ⟨o, hq ▸ ho⟩
theorem liW_up {v : Value} {xs : List Int} (h : liW V intR s.heap v xs) (hW : ∀ a ∈ W, s.heap.get? a = none) : liW (W ++ V) intR s.heap v xs := by
 refine aG ?_; intro gO; obtain ⟨l, vs, e, n, hl, p⟩ := h; unfold gO; clear gO
 refine ⟨l, vs, e, fun q => ?_, hl, p⟩
 rcases List.mem_append.mp q with q | q
 ·obtain ⟨ep, e⟩ := hl; rw [IsL, hW _ q] at e; cases e
 ·exact n q
theorem liW_down {h : Heap} {v : Value} {xs : List Int} (x : liW U intR h v xs) (k : ∀ a ∈ V, a ∈ U) : liW V intR h v xs := let ⟨l, vs, e, n, hl, p⟩ := x; ⟨l, vs, e, fun q => n (k _ q), hl, p⟩
theorem pairs_call {n : Nat} (G : Good w B s) (hA : Rm n A) (hn : n < 200) (hV : ∀ a ∈ V, ∃ o, s.heap.get? a = some o) (rp : PL s.heap rl rvs) (rr : Paired (liW V intR s.heap) rvs rows) (hr : rows.length ≤ 100) (hrow' : ∀ r ∈ rows, one < r.length ∧ two < r.length ∧ r.length ≤ 1000) :
  codeAny (model P0 w) A (.call (.ref 1104) ⟨[.ref rl, .int one t1, .int two t2], []⟩) (fun r s' => ∃ fl vs, r = .ok (.ret (.ref fl)) ∧ s.heap.get? fl = none ∧ PL s'.heap fl vs ∧ Paired (liW V intR s'.heap) vs (pairsOf rows one two) ∧ Kp [] s s') s := by
 try (refine lC ?_; intro Ro)
 refine jcm G hA (lq0 hn rfl) (fn_pairs _) (sc_pairs _) (binds := [("rows", .ref rl), ("one", .int one t1), ("two", .int two t2)]) (by kernel_rfl) (fun N => by kernel_rfl) fun env A' s1 X R1 => ?_
 have G1 := G.kp X.kp al0
 have S := X.sta
 have own := X.own
 have ownB : ∀ a ∈ Own env, B.get? a = none := fun a ha => G.new (own a ha)
 have e1 : prB = [prB[0]!, prB[1]!, prB[2]!, prB[3]!] := by kernel_rfl
 have b1 : Bnd env "rows" (.ref rl) s1 := X.bndL (by kernel_rfl) (fun Y => by kernel_rfl) (by kernel_rfl)
 have b2 : Bnd env "one" (.int one t1) s1 := X.bndL (by kernel_rfl) (fun Y => by kernel_rfl) (by kernel_rfl)
 have b3 : Bnd env "two" (.int two t2) s1 := X.bndL (by kernel_rfl) (fun Y => by kernel_rfl) (by kernel_rfl)
 have set : ∀ x ∈ ([("row" : Str), "place", "here", "other", "new"] : List Str), jaB env x := by
  intro x hx
  simp only [List.mem_cons, List.not_mem_nil, or_false] at hx
  rcases hx with rfl | rfl | rfl | rfl | rfl <;> exact X.setL (by kernel_rfl) (fun Y => by kernel_rfl)
 have setf : jaB env "found" := X.setL (by kernel_rfl) (fun Y => by kernel_rfl)
 show wpAny _ _ (execs prB env) _ _ _
 rw [e1]
 refine wpAny_execs_cons (wpAny_Assign_Name (jaU (B := B) (jao ⟨G1, by simp, fun D s2 f2 hD k2 => ?_⟩)))
 have G2 := G1.kp k2 al0
 refine jaY G2 S (ja0 X.frm k2 nn0) ownB (fun s3 bf F3 hk3 k3 g3 G3 => ?_) setf
 have K12 : Kp [] s s2 := (X.kp.trans k2).mono al0
 have fD : s.heap.get? D = none := X.kp.back f2
 have nD : D ∉ Own env := fun q => by
  obtain ⟨o, e⟩ := X.alive (ks := []) (fun Y => by kernel_rfl) List.Pairwise.nil D q
  rw [f2] at e; cases e
 have K13 : Kp [] s s3 := K12.comp0 G k3 (by simpa using own _ jac)
 have aO : ∀ a ∈ Own env, ∃ o, s3.heap.get? a = some o := fun a ha => by
  obtain ⟨o, e⟩ := X.alive (ks := []) (fun Y => by kernel_rfl) List.Pairwise.nil a ha
  obtain ⟨o, e⟩ := k2.there _ _ e
  exact k3.there _ _ e
 have hD3 : PL s3.heap D [] := jaj hD k3 (by simpa using fun q : D = jai env "found" => nD (q ▸ jac))
 have aW : ∀ a ∈ D :: Own env, ∃ o, s3.heap.get? a = some o := fun a ha => by
  rcases List.mem_cons.mp ha with rfl | ha
  ·obtain ⟨ep, e⟩ := hD3; exact ⟨_, e⟩
  ·exact aO a ha
 have fW : ∀ a ∈ D :: Own env, s.heap.get? a = none := fun a ha => by
  rcases List.mem_cons.mp ha with rfl | ha
  ·exact fD
  ·exact own a ha
 have rl1 : ∃ o, s.heap.get? rl = some o := by obtain ⟨ep, e⟩ := rp; exact ⟨_, e⟩
 have H : PrE B env (jas (lawS "_law_pairs")) (D :: Own env) ((D :: Own env) ++ V) rl D s3 :=
  { sta := S, own := fun a ha => List.mem_cons_of_mem _ ha, fw := List.mem_cons_self .., fo := nD, rw' := (fun q => by obtain ⟨o, e⟩ := rl1; rw [fW _ q] at e; cases e),
    bw := fun a ha => G.new (fW a ha), wu := fun a ha => List.mem_append_left _ ha,
    al := fun a ha => (List.mem_append.mp ha).elim (aW a) fun q => by obtain ⟨o, e⟩ := hV a q; exact K13.there _ _ e,
    tw := by obtain ⟨o, e⟩ := G.two; exact K13.there _ _ e
    bx := fun a o e => by obtain ⟨o', e'⟩ := G.old.there _ _ e; exact K13.there _ _ e'
    set := set }
 have X3 : PrI w B env (D :: Own env) ((D :: Own env) ++ V) rl D rvs rows one t1 two t2 s3 s3 [] :=
  { g := G3, f := F3, kp := (Kp.refl _).mono al0, br := hk3 _ _ (by decide +kernel) (jae b1 k2), bo := hk3 _ _ (by decide +kernel) (jae b2 k2), bt := hk3 _ _ (by decide +kernel) (jae b3 k2), bf := bf,
    rp := jaj rp K13 ni0, rr := jah (fun v x h => jan (liW_up h fW) K13 jaq) rr, ff := ⟨[], hD3, .nil⟩ }
 refine wpAny_execs_cons (wpAny_For (jaf S X3.br ((jaD G3 X3.rp.list).use fun v s4 It => ?_)))
 refine jbz (W := D :: Own env) S R1 G3 It H.own aW (fun a ha q => H.rw' (by cases List.mem_singleton.mp ha; exact q)) ownB (set _ (List.mem_cons_self ..))
  (fun i s => PrI w B env (D :: Own env) ((D :: Own env) ++ V) rl D rvs rows one t1 two t2 s3 s ((rows.take i).foldl (fun f r => addN f [r.getD one 0, r.getD two 0]) [])) (fun i s h => ⟨h.g, h.f⟩) (X3.ex H It.kp) ?_ ?_
 ·intro I i v s5 s6 fI hi hv X5 hI k6 b6 hk6 G6 F6
  first | (refine lW ?_; intro Ro) | (refine lA ?_; intro Ro) | (refine lC ?_; intro Ro) | skip
  have X6 := X5.st H fI hI k6 (by decide +kernel) hk6 G6 F6
  refine aG ?_; intro gO; obtain ⟨row, hrow, rw1⟩ := ja4 X6.rr (toA hv); unfold gO; clear gO
  have hmem : row ∈ rows := List.mem_of_getElem? hrow
  refine aG ?_; intro gO; obtain ⟨hr1, hr2, hr3⟩ := hrow' _ hmem; unfold gO; clear gO
  obtain ⟨r, rv, rfl, nr, hl, pr⟩ := rw1
  have H6 := H.at X6.kp
  have e2 : forB prB[1]! = [(forB prB[1]!)[0]!] := by kernel_rfl
  show wpAny _ _ (execs (forB prB[1]!) env) _ _ _
  rw [e2]
  refine wpAny_execs_cons ((pr_add H6 X6.base R1 (lq2 hn rfl) ?_ (pr_pair X6.g S H6.al b6 X6.bo X6.bt hl pr hr1 hr2 hr3) fun s' k' => ?_).use fun f s7 hx0 => ?_)
  ·first | (refine lW ?_; intro Ro) | (refine lA ?_; intro Ro) | (refine lC ?_; intro Ro) | skip
   have := prInit_len rows one two i
   have hi' : i < rvs.length := by simpa using hi
   rw [jaa rr] at hi'
   exact lsq ‹_› ‹_› ‹_› (by rfl)
  ·first | (refine lW ?_; intro Ro) | (refine lA ?_; intro Ro) | (refine lC ?_; intro Ro) | skip
   have X6' := PrI.ex H6 X6.base k'
   exact pr_pair X6'.g S (H6.at X6'.kp).al (jae b6 k') X6'.bo X6'.bt (jaj hl k' ni0) pr hr1 hr2 hr3
  ·first | (refine lW ?_; intro Ro) | (refine lA ?_; intro Ro) | (refine lC ?_; intro Ro) | skip
   refine aG ?_; intro gO; obtain ⟨ef, X7, _⟩ := hx0; unfold gO; clear gO
   subst ef
   refine wpAny_execs_nil ⟨?_, X7.kp⟩
   rw [jbu hrow]
   exact X7.join X6.kp
 ·intro I s5 s6 fI X5 hI k6
  first | (refine lW ?_; intro Ro) | (refine lA ?_; intro Ro) | (refine lC ?_; intro Ro) | skip
  have X6 := X5.it H fI hI k6
  rw [fold_all (by rw [← jaa rr]; simp)] at X6
  refine wpAny_execs_cons (wpAny_For (jap (jal (.type "range") X6.g S.ok (callWith_type1 (jad (wpAny_Constant_int (jao ?_)))))))
  have kt : Kp [] s6 { s6 with toks := s6.toks + 1 } := jak (Nat.le_succ _)
  have X6' := X6.ex H kt
  refine (jaH (n := 9) X6'.g (R1.le (lq0 hn rfl))).useE4 fun r q1 q2 q3 s7 hx0 => ?_
  refine aG ?_; intro gO; obtain ⟨hr', fr, k7⟩ := hx0; unfold gO; clear gO
  have X7 := X6'.ex H k7
  refine (jaI (n := 9) X7.g hr' (by decide +kernel) (by decide +kernel)).use fun v s8 It8 => ?_
  have H7 := H.at X7.kp
  have zi : (jcd rows one two).length ≤ 100 := by
   have := prInit_len rows one two rows.length
   rw [List.take_length] at this
   exact Nat.le_trans this hr
  have t0 : ∀ y ∈ jcd rows one two, y.length = 2 := by
   have := prInit_two rows one two rows.length
   rw [List.take_length] at this
   exact this
  refine jbz (W := D :: Own env) S R1 X7.g It8 H.own (fun a ha => H7.al a (H.wu a ha)) al0 ownB (set _ (List.Mem.tail _ (List.Mem.head _)))
   (fun i s => PrI w B env (D :: Own env) ((D :: Own env) ++ V) rl D rvs rows one t1 two t2 s7 s ((List.range i).foldl jaQ (jcd rows one two))) (fun i s h => ⟨h.g, h.f⟩) (PrI.ex H7 X7.base It8.kp) ?_ ?_
  ·intro I i v s9 s10 fI hi hv X9 hI k10 b10 hk10 G10 F10
   obtain ⟨t, _, rfl⟩ := hv
   first | (refine lW ?_; intro Ro) | (refine lA ?_; intro Ro) | (refine lC ?_; intro Ro) | skip
   have X10 := X9.st H7 fI hI k10 (by decide +kernel) hk10 G10 F10
   have H10 := H7.at X10.kp
   have hlen := prAll_len (jcd rows one two) i
   have hi2 : 2 * i * i ≤ 2 * 8 * 8 := Nat.mul_le_mul (by omega) (lq6 ‹_› (by rfl))
   refine (pr_place rfl H10 X10.base R1 (lq2 hn rfl) (by omega) (lq6 ‹_› (by rfl)) b10 (ja7 (P := fun f : List (List Int) => ∀ y ∈ f, y.length = 2) _ _ (fun b x Y hb => prPlace_two x hb) t0)).useE fun s11 X11 => ?_
   refine ⟨?_, X11.kp⟩
   rw [jbc]
   exact X11.join X10.kp
  ·intro I s9 s10 fI X9 hI k10
   first | (refine lW ?_; intro Ro) | (refine lA ?_; intro Ro) | (refine lC ?_; intro Ro) | skip
   have X10 := (X9.it H7 fI hI k10).join X7.kp
   refine wpAny_execs_cons (wpAny_Return_some (jaf S X10.bf ?_))
   refine aG ?_; intro gO; obtain ⟨vs, h1, h2⟩ := X10.ff; unfold gO; clear gO
   refine ⟨D, vs, rfl, fD, h1, jah (fun v x h => liW_down h fun a ha => List.mem_append_right _ ha) h2, ?_⟩
   exact K13.comp0 G X10.kp fW
end
section
variable {w : World} {B : Heap} {A : Around} {s : Shared} {a d b e c k m x y I l f D dx r : Addr} {env cenv : Env} {sc : Scope} {E : Value → Shared → Prop} {fp : List Addr} {n : Nat} {P : Nat → Value → Prop} {St : Nat → Shared → Prop} {R : Result → Shared → Prop}
noncomputable def ItsP (P : Nat → Value → Prop) (vs : List Value) (i : Nat) : Prop := vs.length = i ∧ ∀ j v, vs[j]? = some v → P j v
theorem ItsP.snoc {vs : List Value} {i : Nat} {v : Value} (h : ItsP P vs i) (hv : P i v) : ItsP P (vs ++ [v]) (i + 1) := by
 refine ⟨by simp [h.1], fun j u hj => ?_⟩
 by_cases q : j < vs.length
 ·rw [List.getElem?_append_left q] at hj; exact h.2 j u hj
 ·rw [List.getElem?_append_right (Nat.not_lt.mp ‹_›)] at hj
  have hj0 : j - vs.length = 0 := by
   cases e : j - vs.length with
   | zero => rfl
   | succ k => rw [e] at hj; simp at hj
  rw [hj0] at hj
  have : u = v := by simpa using hj.symm
  subst this
  have : j = i := by have := h.1; exact (lrl ‹_› ‹_›).trans ‹_›
  subst this; exact hv
theorem pl_upd {vs : List Value} {g : Array Value → Array Value} {Q : Unit → Shared → Prop} (G : Good w B s) (hl : PL s.heap l vs) (hB : B.get? l = none) (hsz : vs.length ≤ 1000) (hg : (g vs.toArray).size ≤ 1001)
  (h : ∀ s', PL s'.heap l (g vs.toArray).toList → Kp [l] s s' → s'.gens = s.gens → Good w B s' → Q () s') : wpAny (model P0 w) A (updateSeq l g) Q E s := by
 have n2 : l ≠ 2 := jaP G hB
 obtain ⟨ep, e⟩ := hl
 refine wpAny_updateSeq (hz := Nat.le_trans hsz (show 1000 ≤ sizeLine by decide)) (_hz' := Nat.le_trans hg (show 1001 ≤ sizeLine + 1 by decide)) e rfl ?_
 have e' := IsL.update e g
 have k := jaz (s := s) (h' := s.heap.update l (Obj.mapSeq g)) (Heap.SameBut.update ..) n2 ⟨_, e'⟩ (Nat.le_refl s.toks)
 exact h _ ⟨_, by simpa using e'⟩ k rfl (G.kp k (al1 hB))
theorem ext_loop (hh : A.handled = none) (W : KW w B I fp n P St) (hn : n ≤ 1000) (hL : l ∉ fp) (hLI : l ≠ I) (hBI : B.get? I = none) (hB : B.get? l = none) (res : Value) :
  ∀ k i s vs, n - i = k → i ≤ n → Good w B s → St i s → PL s.heap l vs → ItsP P vs i →
  (∀ s' vs, PL s'.heap l vs → ItsP P vs n → Kp [I, l] s s' → Good w B s' → R (.ok (.ret res)) s') →
  codeAny (model P0 w) A (.builtin "list.extend.loop" ⟨[.ref l, .ref I, res], []⟩) R s := by
 intro k
 induction k with
 | zero =>
  intro i s vs hk hi G st hl hv hR
  have hin : i = n := by exact lqq ‹_› ‹_›
  subst hin
  refine codeAny_builtin PySem.F.entry_extend_loop ?_
  rw [Around.under_plainId PySem.F.plain_extend_loop _]
  show wpAny _ A.in1 (pyNext (.ref I) >>= _) _ _ s
  refine wpAny_bind (W.done _ s _ _ hh G st fun s' k g => ?_)
  exact wpAny_pure (hR s' vs (jaj hl k (ni1 hLI)) hv (k.mono si2) (G.kp k (al1 hBI)))
 | succ k ih =>
  intro i s vs hk hi G st hl hv hR
  have hlt : i < n := by exact lqr ‹_›
  refine codeAny_builtin PySem.F.entry_extend_loop ?_
  rw [Around.under_plainId PySem.F.plain_extend_loop _]
  show wpAny _ A.in1 (pyNext (.ref I) >>= _) _ _ s
  refine wpAny_bind (W.item _ i s _ _ hh G hlt st fun v s1 hp st1 k1 g1 => ?_)
  have G1 := G.kp k1 (al1 hBI)
  show wpAny _ A.in1 (updateSeq l (·.push v) >>= _) _ _ _
  refine wpAny_bind (pl_upd G1 (jaj hl k1 (ni1 hLI)) hB (by have := hv.1; exact lse ‹_› ‹_› ‹_›) (by have := hv.1; simp; exact lse ‹_› ‹_› ‹_›) fun s2 hl2 k2 g2 G2 => ?_)
  refine wpAny_pure ⟨plainId_quiet PySem.F.plain_extend_loop _, ih (i + 1) s2 (vs ++ [v]) (lqj ‹_›) hlt G2 (W.frame _ _ _ _ st1 k2 ?_) (by simpa using hl2) (hv.snoc hp) fun s3 vs3 hl3 hv3 k3 G3 => ?_⟩
  ·intro a ha q
   cases List.mem_singleton.mp q
   rcases List.mem_cons.mp ha with q | q
   ·exact hLI q
   ·exact hL q
  ·exact hR s3 vs3 hl3 hv3 (((k1.trans k2).trans k3).mono ap2) G3
theorem ext_with {tv : Value} (hh : A.handled = none) (G : Good w B s) (hT : Looks (model P0 w) s.heap (typeOf (.ref r)) tv) (ht : (tv == .type "list") = false) (ht' : (tv == .type "tuple") = false) (hl : PL s.heap l []) (hlr : l ≠ r) (hB : B.get? l = none) (hfp : l ∉ fp) (hn : n ≤ 1000) (res : Value)
  (hit : Wp w A.in1 (pyIter (.ref r)) (fun v s' => Iter w B s fp n P v s') s) (hint : ∀ s1, Kp [] s s1 → Wp w A.in1 (Builtin.List.listLengthHint (.ref r)) (fun Y s' => Kp [] s1 s') s1)
  (hR : ∀ s' vs, PL s'.heap l vs → ItsP P vs n → Kp [l] s s' → Good w B s' → R (.ok (.ret res)) s') :
  wpAny (model P0 w) A.in1 (Builtin.List.listExtendWith (.ref l) (.ref r) res)
   (fun fin s' => match fin with | .done f => R (.ok f) s' | .again c' => c'.quiet = true ∧ codeAny (model P0 w) A c' R s') (fun e s' => R (.error e) s') s := by
 unfold Builtin.List.listExtendWith
 refine wpAny_bind (hT.here ?_)
 have h1 : Builtin.List.listSameRef (.ref l) (.ref r) = false := by simp [Builtin.List.listSameRef, hlr]
 simp only [h1, ht, ht', Bool.or_false, Bool.false_eq_true, if_false]
 refine wpAny_bind (hit.use fun v s1 It => ?_)
 obtain ⟨⟨I, St, rfl, W, st, fI, aI⟩, al, k1, g1⟩ := It
 have al' : ∃ o, s.heap.get? l = some o := by obtain ⟨ep, e⟩ := hl; exact ⟨_, e⟩
 have hlI : l ≠ I := fun q => by obtain ⟨o, e⟩ := al'; rw [q, fI] at e; cases e
 have G1 := G.kp k1 al0
 refine wpAny_bind (wpAny_holding ((hint s1 k1).use fun room s2 k2 => ?_))
 have G2 := G1.kp k2 al0
 have K2 : Kp [] s s2 := (k1.trans k2).mono al0
 have st2 := W.frame _ _ _ _ st k2 nn0
 have hl2 := jaj hl K2 ni0
 have key : ∀ s3, PL s3.heap l [] → Kp [l] s s3 → Good w B s3 → St 0 s3 → codeAny (model P0 w) A (.builtin "list.extend.loop" ⟨[.ref l, .ref I, res], []⟩) R s3 := fun s3 hl3 k3 G3 st3 =>
  ext_loop hh W hn hfp hlI (G.new fI) hB res n 0 s3 [] rfl (Nat.zero_le _) G3 st3 hl3 ⟨rfl, by simp⟩ fun s' vs h1 h2 k4 G4 => hR s' vs h1 h2 (k3.compW k4 (by simpa using .inr fI) G.two) G4
 split
 rotate_left
 ·exact wpAny_pure ⟨plainId_quiet PySem.F.plain_extend_loop _, key s2 hl2 (K2.mono al0) G2 st2⟩
 ·refine wpAny_bind (wpAny_rule (wpAny_bind ?_))
  show wpAny _ _ (updateSeq l (·.push .none) >>= fun Y => updateSeq l (·.pop)) _ _ _
  refine wpAny_bind (pl_upd G2 hl2 hB (Nat.zero_le _) (Nat.succ_pos _) fun s3 hl3 k3 g3 G3 => ?_)
  refine pl_upd G3 hl3 hB (Nat.succ_pos _) (Nat.zero_le _) fun s4 hl4 k4 g4 G4 => ?_
  refine wpAny_pure ⟨plainId_quiet PySem.F.plain_extend_loop _, key s4 hl4 (((K2.trans k3).trans k4).mono ap2) G4 ?_⟩
  have nn : ∀ a ∈ I :: fp, a ∉ [l] := by
   intro a ha q
   cases List.mem_singleton.mp q
   rcases List.mem_cons.mp ha with q | q
   ·exact hlI q
   ·exact hfp q
  exact W.frame _ _ _ _ (W.frame _ _ _ _ st2 k3 nn) k4 nn
theorem list_of {tv : Value} (hh : A.handled = none) (G : Good w B s) (hT : ∀ s1, Kp [] s s1 → Looks (model P0 w) s1.heap (typeOf (.ref r)) tv) (ht : (tv == .type "list") = false) (ht' : (tv == .type "tuple") = false) (har : ∃ o, s.heap.get? r = some o) (hfp : ∀ a ∈ fp, ∃ o, s.heap.get? a = some o) (hn : n ≤ 1000)
  (hit : ∀ A' s1, Kp [] s s1 → Good w B s1 → A' = A.in1.in1 → Wp w A' (pyIter (.ref r)) (fun v s' => Iter w B s1 fp n P v s') s1) (hint : ∀ A' s1, Kp [] s s1 → Good w B s1 → A' = A.in1.in1 → Wp w A' (Builtin.List.listLengthHint (.ref r)) (fun Y s' => Kp [] s1 s') s1) :
  Wp w A (call (.type "list") [.ref r]) (fun v s' => ∃ D vs, v = .ref D ∧ s.heap.get? D = none ∧ PL s'.heap D vs ∧ ItsP P vs n ∧ Kp [] s s') s := by
 refine lW ?_
 intro Ro
 refine callType_codes (Q₁ := fun obj s₁ => obj = .ref s.heap.objs.size ∧ s₁ = { s with heap := s.heap.push { cls := .type "list", data := .seq #[] } }) PySem.F.called_list (PySem.F.typeCall_list_1 _) PySem.F.entry_list_init
  (code_list_new _ ⟨rfl, rfl⟩) fun obj s₁ h₁ => ?_
 obtain ⟨rfl, rfl⟩ := h₁
 have hS : (s.heap.push { cls := .type "list", data := .seq #[] }).get? s.heap.objs.size = some { cls := .type "list", data := .seq #[] } := Heap.get?_push_size _ rfl
 refine ⟨⟨_, hS, rfl⟩, PySem.F.args_list_init_2 _ _, ?_⟩
 have fD : s.heap.get? s.heap.objs.size = none := jag
 have kD : Kp [] s { s with heap := s.heap.push { cls := .type "list", dict := none, data := .seq #[] } } := jar G
 have hS' : ({ s with heap := s.heap.push { cls := .type "list", dict := none, data := .seq #[] } } : Shared).heap.get? s.heap.objs.size = some { cls := .type "list", data := .seq #[] } := hS
 generalize s.heap.objs.size = D at *
 generalize ({ s with heap := s.heap.push { cls := .type "list", dict := none, data := .seq #[] } } : Shared) = s1 at *
 have hl1 : PL s1.heap D [] := ⟨0, hS'⟩
 have hB := G.new fD
 have G1 := G.kp kD al0
 show wpAny _ A.in1.in1 (do let old ← Builtin.List.listItems (.ref D); Builtin.List.listUpdate (.ref D) (fun Y => #[]); letGo old.toList.reverse; Builtin.List.listExtendWith (.ref D) (.ref r) .none) _ _ s1
 refine wpAny_bind (jaM hl1.list (wpAny_bind ?_))
 show wpAny _ _ (updateSeq D (fun Y => #[])) _ _ _
 refine pl_upd G1 hl1 hB (Nat.zero_le _) (Nat.zero_le _) fun s2 hl2 k2 g2 G2 => ?_
 refine wpAny_bind (wpAny_letGo ?_)
 have K2 : Kp [] s s2 := kD.comp0 G k2 (al1 fD)
 have nr : D ≠ r := fun q => by obtain ⟨o, e⟩ := har; rw [← q, fD] at e; cases e
 refine ext_with (A := A.in1) (P := P) (n := n) (fp := fp) (B := B) hh G2 (hT s2 K2) ht ht' hl2 nr hB (fun q => by obtain ⟨o, e⟩ := hfp _ q; rw [fD] at e; cases e) hn .none (hit _ s2 K2 G2 rfl) (fun s3 k3 => hint _ s3 ((K2.trans k3).mono al0) (G2.kp k3 al0) rfl) fun s3 vs h1 h2 k3 G3 => ?_
 exact ⟨rfl, D, vs, rfl, fD, h1, h2, K2.comp0 G k3 (al1 fD)⟩
end
end Mine
namespace Mine
open PySem
structure TOk (b : Bool) (t : SetTable) (n : Nat) : Prop where
 mask : t.mask = 7
 sz : t.place.size = n
 dm : t.dummies = #[]
 pl : t.plain = true
 led : t.led = b
 so : t.place.toList.Pairwise (· < ·)
theorem TOk.fits {b : Bool} {t : SetTable} {n : Nat} (h : TOk b t n) (hn : n ≤ 7) : t.fits n = true := by
 unfold SetTable.fits SetTable.fill
 rw [h.sz, h.dm, h.mask]
 simp [hn]
theorem below0 (xs : Array Nat) (h : xs.size = 0) (j : Nat) : SetTable.below xs j = 0 := by
 unfold SetTable.below; rw [h]; rfl
theorem below1 (x j : Nat) : SetTable.below #[x] j = if x < j then 1 else 0 := by
 simp [SetTable.below, SetTable.below.go]
theorem below2 (x y j : Nat) : SetTable.below #[x, y] j = if y < j then 2 else if x < j then 1 else 0 := by
 simp [SetTable.below, SetTable.below.go]
theorem below3 (x y z j : Nat) : SetTable.below #[x, y, z] j = if y < j then (if z < j then 3 else 2) else if x < j then 1 else 0 := by
 simp [SetTable.below, SetTable.below.go]
set_option tactic.hygienic true in
theorem slot_live {t : SetTable} {j i : Nat} (h : t.slot j = .live i) : j ∈ t.place.toList := by
 unfold SetTable.slot at h
 dsimp only at h
 split at h
 ·rename_i hh
  have hh : t.place[SetTable.below t.place j]? = some j := by simpa using hh
  rw [← Array.getElem?_toList] at hh
  exact List.mem_of_getElem? hh
 ·split at h <;> cases h
theorem slot_dm {t : SetTable} (hd : t.dummies = #[]) (j : Nat) : t.slot j ≠ .dummy := by
 unfold SetTable.slot
 dsimp only
 split
 ·simp
 ·have : SetTable.has t.dummies j = false := by rw [hd]; simp [SetTable.has]
  rw [this]; simp
theorem slot_emp {t : SetTable} {j : Nat} (h : t.slot j = .empty) : t.place[SetTable.below t.place j]? ≠ some j := by
 intro q
 unfold SetTable.slot at h
 dsimp only at h
 rw [q] at h
 simp at h
noncomputable def walk : Nat → Nat → Nat → Nat × Nat
 | 0, i, p => (i, p)
 | k + 1, i, p => walk k ((i * 5 + 1 + p / 32) % 8) (p / 32)
theorem go_cases {t : SetTable} {h : Int} (hm : t.mask = 7) (hd : t.dummies = #[]) : ∀ (fuel : Nat) (p : SetTable.Probe), p.more = 0 → p.j = p.i → p.dummy = none →
  (SetTable.probe.go t (fun Y => h + 1) h fuel p = none → ∀ k, k < fuel → (walk k p.i p.perturb).1 ∈ t.place.toList) ∧ ∀ m, SetTable.probe.go t (fun Y => h + 1) h fuel p = some m → ∃ j, m = .empty j none ∧ t.slot j = .empty := by
 intro fuel
 induction fuel with
 | zero =>
  rintro p _ _ _
  exact ⟨fun Y k hk => absurd hk (Nat.not_lt_zero _), fun m hm => by unfold SetTable.probe.go at hm; cases hm⟩
 | succ fuel ih =>
  rintro p h1 h2 h3
  unfold SetTable.probe.go
  cases hs : t.slot p.j with
  | empty =>
   refine ⟨fun q => by simp at q, fun m q => ?_⟩
   cases q
   exact ⟨p.j, by rw [h3], hs⟩
  | dummy => exact absurd hs (slot_dm hd _)
  | live i =>
   have hne : (h + 1 == h) = false := by
    rw [beq_eq_false_iff_ne]
    exact fun q => Int.ne_of_gt (Int.lt_succ h) q
   dsimp only
   rw [hne]
   simp only [Bool.false_eq_true, if_false]
   have hmem : p.i ∈ t.place.toList := h2 ▸ slot_live hs
   have ha : (t.advance p).more = 0 ∧ (t.advance p).j = (t.advance p).i ∧ (t.advance p).dummy = none ∧ (t.advance p).i = (p.i * 5 + 1 + p.perturb / 32) % 8 ∧ (t.advance p).perturb = p.perturb / 32 := by
    unfold SetTable.advance
    rw [h1, hm]
    simp only [Nat.lt_irrefl, gt_iff_lt, if_false]
    unfold SetTable.leap SetTable.runEnd
    refine ⟨?_, trivial, h3, rfl, rfl⟩
    dsimp only
    rw [if_neg (Nat.not_le.mpr (Nat.lt_of_lt_of_le (by decide : 7 < 9) (Nat.le_add_left 9 _)))]
    exact Nat.sub_self _
   obtain ⟨a1, a2, a3, a4, a5⟩ := ha
   obtain ⟨b1, b2⟩ := ih (t.advance p) a1 a2 a3
   refine ⟨fun q k hk => ?_, b2⟩
   cases k with
   | zero => exact hmem
   | succ k =>
    have := b1 q k (Nat.lt_of_succ_lt_succ hk)
    rw [a4, a5] at this
    exact this
theorem walk_add : ∀ (k m i p : Nat), walk (k + m) i p = walk m (walk k i p).1 (walk k i p).2 := by
 intro k
 induction k with
 | zero =>
  rintro m i p
  rw [Nat.zero_add]; rfl
 | succ k ih =>
  rintro m i p
  rw [Nat.succ_add]; exact ih m _ _
theorem walk_p : ∀ (k i p : Nat), (walk k i p).2 = p / 32 ^ k := by
 intro k
 induction k with
 | zero =>
  rintro i p
  simp [walk]
 | succ k ih =>
  rintro i p
  show (walk k _ (p / 32)).2 = _
  rw [ih, Nat.div_div_eq_div_mul, Nat.pow_succ, Nat.mul_comm]
theorem walk_lt (k i p : Nat) : (walk (k + 1) i p).1 < 8 := by
 rw [walk_add k 1]
 exact Nat.mod_lt _ (by decide)
theorem three : ∀ i : Fin 8, (walk 0 i.1 0).1 ≠ (walk 1 i.1 0).1 ∧ (walk 0 i.1 0).1 ≠ (walk 2 i.1 0).1 ∧ (walk 1 i.1 0).1 ≠ (walk 2 i.1 0).1 := by decide
theorem two_has {l : List Nat} (h : l.length ≤ 2) {a b c : Nat} (ha : a ∈ l) (hb : b ∈ l) (hc : c ∈ l) : a = b ∨ a = c ∨ b = c := by
 rcases l with _ | ⟨x, _ | ⟨y, _ | ⟨z, l⟩⟩⟩
 ·simp at ha
 ·simp at ha hb; exact .inl (ha.trans hb.symm)
 ·simp at ha hb hc
  rcases ha with ha | ha <;> rcases hb with hb | hb <;> first | exact .inl (ha.trans hb.symm) | (rcases hc with hc | hc <;> first | exact .inr (.inl (ha.trans hc.symm)) | exact .inr (.inr (hb.trans hc.symm)))
 ·exact absurd (Nat.le_of_succ_le_succ (Nat.le_of_succ_le_succ h)) (Nat.not_succ_le_zero _)
theorem free_slot {b : Bool} {t : SetTable} {n : Nat} (ok : TOk b t n) (hn : n ≤ 2) (h : Int) : ∃ j, t.freeSlot h = some (j, false) ∧ t.slot j = .empty := by
 unfold SetTable.freeSlot SetTable.probe
 have p0 : (t.probeStart h).more = 0 := by
  unfold SetTable.probeStart SetTable.runEnd
  dsimp only
  rw [ok.mask, if_neg (Nat.not_le.mpr (Nat.lt_of_lt_of_le (by decide : 7 < 9) (Nat.le_add_left 9 _)))]
  exact Nat.sub_self _
 obtain ⟨c1, c2⟩ := go_cases (h := h) ok.mask ok.dm (10 * SetTable.turns t.mask) (t.probeStart h) p0 rfl rfl
 cases hg : SetTable.probe.go t (fun Y => h + 1) h (10 * SetTable.turns t.mask) (t.probeStart h) with
 | some m =>
  obtain ⟨j, rfl, hj⟩ := c2 m hg
  exact ⟨j, rfl, hj⟩
 | none =>
  exfalso
  have hf : 10 * SetTable.turns t.mask = 220 := by rw [ok.mask]; rfl
  have c := c1 hg
  rw [hf] at c
  have hpt : (t.probeStart h).perturb / 32 ^ 13 = 0 := by
   refine Nat.div_eq_of_lt ?_
   show SetTable.bits h < _
   unfold SetTable.bits
   have : h % (2 ^ 64 : Int) < 2 ^ 64 := Int.emod_lt_of_pos _ (by decide)
   have h0 : 0 ≤ h % (2 ^ 64 : Int) := Int.emod_nonneg _ (by decide)
   exact Nat.lt_trans ((Int.toNat_lt h0).mpr this) (by decide : (2 : Nat) ^ 64 < 32 ^ 13)
  have k0 := c 13 (by decide)
  have k1 := c (13 + 1) (by decide)
  have k2 := c (13 + 2) (by decide)
  rw [walk_add, walk_p, hpt] at k1 k2
  have hl := walk_lt 12 (t.probeStart h).i (t.probeStart h).perturb
  have h3 := three ⟨_, hl⟩
  have hsz : t.place.toList.length ≤ 2 := by rw [Array.length_toList, ok.sz]; exact hn
  rcases two_has hsz k0 k1 k2 with q | q | q
  ·exact h3.1 q
  ·exact h3.2.1 q
  ·exact h3.2.2 q
theorem arr_cases {α : Type} (xs : Array α) (h : xs.size ≤ 2) : xs = #[] ∨ (∃ x, xs = #[x]) ∨ ∃ x y, xs = #[x, y] := by
 obtain ⟨l⟩ := xs
 rcases l with _ | ⟨x, _ | ⟨y, _ | ⟨z, l⟩⟩⟩
 ·exact .inl rfl
 ·exact .inr (.inl ⟨x, rfl⟩)
 ·exact .inr (.inr ⟨x, y, rfl⟩)
 ·exact absurd (Nat.le_of_succ_le_succ (Nat.le_of_succ_le_succ h)) (Nat.not_succ_le_zero _)
theorem put_ok {b : Bool} {t : SetTable} {n j : Nat} (ok : TOk b t n) (hn : n ≤ 2) (hj : t.slot j = .empty) : TOk b (t.put j).1 (n + 1) ∧ (t.put j).2 ≤ n := by
 have he := slot_emp hj
 have hd : SetTable.has t.dummies j = false := by rw [ok.dm]; simp [SetTable.has]
 have hso := ok.so
 have hsz := ok.sz
 unfold SetTable.put
 dsimp only
 rw [hd]
 simp only [Bool.false_eq_true, if_false]
 rcases arr_cases t.place (lsb ‹_› ‹_› (by rfl)) with e | ⟨x, e⟩ | ⟨x, y, e⟩
 ·rw [e] at he hsz hso ⊢
  rw [below0 _ rfl] at *
  refine ⟨⟨ok.mask, by simp at hsz; simp [SetTable.insertAt]; exact ‹_ = _›.symm, ok.dm, ok.pl, ok.led, by simp [SetTable.insertAt]⟩, by simp⟩
 ·rw [e] at he hsz hso ⊢
  rw [below1] at *
  by_cases q : x < j
  ·rw [if_pos q] at *
   exact ⟨⟨ok.mask, by simp at hsz; simp [SetTable.insertAt]; exact ‹_ = _›.symm, ok.dm, ok.pl, ok.led, by simp [SetTable.insertAt]; exact q⟩, by simp at hsz; exact Nat.le_of_eq ‹_›⟩
  ·rw [if_neg q] at *
   have : x ≠ j := by simpa using he
   exact ⟨⟨ok.mask, by simp at hsz; simp [SetTable.insertAt]; exact ‹_ = _›.symm, ok.dm, ok.pl, ok.led, by simp [SetTable.insertAt]; exact Nat.lt_of_le_of_ne (Nat.not_lt.mp q) (Ne.symm this)⟩, by simp at hsz; exact Nat.zero_le _⟩
 ·rw [e] at he hsz hso ⊢
  rw [below2] at *
  have hxy : x < y := by simpa using hso
  by_cases q : y < j
  ·rw [if_pos q] at *
   exact ⟨⟨ok.mask, by simp at hsz; simp [SetTable.insertAt]; exact ‹_ = _›.symm, ok.dm, ok.pl, ok.led, by simp [SetTable.insertAt]; exact ⟨⟨hxy, Nat.lt_trans hxy q⟩, q⟩⟩, by simp at hsz; exact Nat.le_of_eq ‹_›⟩
  ·rw [if_neg q] at *
   by_cases q2 : x < j
   ·rw [if_pos q2] at *
    have : y ≠ j := by simpa using he
    exact ⟨⟨ok.mask, by simp at hsz; simp [SetTable.insertAt]; exact ‹_ = _›.symm, ok.dm, ok.pl, ok.led, by simp [SetTable.insertAt]; exact ⟨⟨q2, hxy⟩, Nat.lt_of_le_of_ne (Nat.not_lt.mp q) (Ne.symm this)⟩⟩, by simp at hsz; omega⟩
   ·rw [if_neg q2] at *
    have : x ≠ j := by simpa using he
    exact ⟨⟨ok.mask, by simp at hsz; simp [SetTable.insertAt]; exact ‹_ = _›.symm, ok.dm, ok.pl, ok.led, by simp [SetTable.insertAt]; exact ⟨⟨Nat.lt_of_le_of_ne (Nat.not_lt.mp q2) (Ne.symm this), Nat.lt_trans (Nat.lt_of_le_of_ne (Nat.not_lt.mp q2) (Ne.symm this)) hxy⟩, hxy⟩⟩, by simp at hsz; exact Nat.zero_le _⟩
end Mine
namespace Mine
open PySem PySem.W PySem.W.X PyProof.Rows PySem.Calls Builtin
noncomputable def sEnt (x : Int × Nat) : Int × Value := (hashInt x.1, .int x.1 x.2)
noncomputable def setO (L : List (Int × Nat)) (ep : Nat) (t : SetTable) : Obj := ⟨.type "set", none, .set (L.map sEnt).toArray ep t, #[]⟩
noncomputable def byT (w : World) : Bool := w.params.followText "set-order"
structure IsS (w : World) (h : Heap) (a : Addr) (L : List (Int × Nat)) (ep : Nat) (t : SetTable) : Prop where
 at_ : h.get? a = some (setO L ep t)
 ok : TOk (!byT w) t L.length
 nd : (L.map (·.1)).Nodup
section
variable {w : World} {B : Heap} {A : Around} {s : Shared} {a d b e c k m x y I l f D dx r : Addr} {env cenv : Env} {sc : Scope} {E : Value → Shared → Prop} {L : List (Int × Nat)} {ep : Nat} {t : SetTable}
theorem IsS.kp {S : List Addr} {s' : Shared} (h : IsS w s.heap a L ep t) (k : Kp S s s') (n : a ∉ S) : IsS w s'.heap a L ep t := ⟨k.keep _ _ h.at_ (jau (by simp [setO])) n, h.ok, h.nd⟩
theorem s_elems (L : List (Int × Nat)) : ElemsOf (intKind P0 w) (L.map sEnt).toArray.toList := by
 intro e he
 simp only [List.mem_map] at he
 obtain ⟨x, _, rfl⟩ := he
 exact ⟨⟨x.1, intKind_is _ _ _ _, rfl⟩, rfl⟩
theorem s_size (L : List (Int × Nat)) : (L.map sEnt).toArray.size = L.length := by simp
theorem s_find (L : List (Int × Nat)) (z : Int) : ((L.map sEnt).toArray.toList.findIdx? fun e => (intKind P0 w).is z e.2).isSome = decide (z ∈ L.map (·.1)) := by
 have key : ∀ x : Int × Nat, (intKind P0 w).is z (sEnt x).2 = (x.1 == z) := fun x => by simp [intKind, sEnt, Value.isInt]
 rw [Bool.eq_iff_iff]
 simp only [List.findIdx?_isSome, List.any_eq_true, decide_eq_true_eq, List.mem_map]
 constructor
 ·rintro ⟨e, ⟨x, hx, rfl⟩, h⟩
  rw [key] at h
  exact ⟨x, hx, by simpa using h⟩
 ·rintro ⟨x, hx, rfl⟩
  exact ⟨_, ⟨x, hx, rfl⟩, by rw [key]; simp⟩
theorem jcw {Q : (Array (Int × Value) × Nat × SetTable) → Shared → Prop} (S : IsS w s.heap a L ep t) (hn : L.length ≤ 7) (h : Q ((L.map sEnt).toArray, ep, t) s) : wpAny (model P0 w) A (setState a) Q E s :=
 wpAny_setState_of S.at_ rfl (by rw [s_size]; exact S.ok.fits hn) h
theorem setAdd_s {z : Int} {u : Nat} {Q : Bool → Shared → Prop} (G : Good w B s) (hB : B.get? a = none) (S : IsS w s.heap a L ep t) (hn : L.length ≤ 2)
  (h : ∀ b s' L' ep' t', IsS w s'.heap a L' ep' t' → (if z ∈ L.map (·.1) then L' = L else L'.Perm ((z, u) :: L)) → Kp [a] s s' → Good w B s' → Q b s') : wpAny (model P0 w) A (setAddHashed a (.int z u) (hashInt z)) Q E s := by
 have hf : t.fits (L.map sEnt).toArray.size = true := by rw [s_size]; exact S.ok.fits (lq8 ‹_› (by rfl))
 have hb : (L.map sEnt).toArray.size < scanBound := by rw [s_size]; unfold scanBound; exact lq5 ‹_› (by rfl)
 have hF := s_find (w := w) L z
 unfold setAddHashed setAddHashedIn
 refine wpAny_holding (wpAny_bind (jcw S (lq8 ‹_› (by rfl)) ?_))
 dsimp only
 rw [byScan_of (knd := intKind P0 w) rfl hb (s_elems L)]
 simp only [↓reduceIte]
 unfold setAddByScan
 refine wpAny_bind (wpAny_bind (wpAny_rule (wpAny_bind (wpAny_setScan_of (knd := intKind P0 w) (k := z) (intKind_is _ _ _ _) S.at_ rfl hf (s_elems L) ?_))))
 cases hr : List.findIdx? (fun e => (intKind P0 w).is z e.2) (L.map sEnt).toArray.toList with
 | some j =>
  rw [hr] at hF
  have hm : z ∈ L.map (·.1) := by simpa using hF.symm
  dsimp only
  exact wpAny_pure (wpAny_pure (h _ s L ep t S (by rw [if_pos hm]) ((Kp.refl s).mono al0) G))
 | none =>
  rw [hr] at hF
  have hm : z ∉ L.map (·.1) := by simpa using hF.symm
  dsimp only
  obtain ⟨j, hj, hje⟩ := free_slot S.ok hn (hashInt z)
  obtain ⟨ok', hp⟩ := put_ok S.ok hn hje
  let L' := L.take (t.put j).2 ++ (z, u) :: L.drop (t.put j).2
  have hlen : L'.length = L.length + 1 := by simp [L']; rw [Nat.min_eq_left hp, ← Nat.add_assoc, Nat.add_sub_of_le hp]
  have hes : SetTable.insertAt (L.map sEnt).toArray (t.put j).2 (hashInt z, Value.int z u) = (L'.map sEnt).toArray := by
   unfold SetTable.insertAt
   apply Array.ext'
   simp [L', sEnt, List.map_take, List.map_drop]
   exact List.take_of_length_le (by simp)
  have hlay : layNew t (L.map sEnt).toArray (hashInt z) (.int z u) = ((L'.map sEnt).toArray, (t.put j).1, false, false) := by
   unfold layNew
   rw [hj]
   dsimp only
   rw [hes]
   have hfit : (t.put j).1.fits (L'.map sEnt).toArray.size = true := by rw [s_size, hlen]; exact ok'.fits (lq4 ‹_› (by rfl))
   unfold SetTable.orStandIn
   rw [hfit]
   rfl
  show wpAny _ _ (match layNew t (L.map sEnt).toArray ((intKind P0 w).hash z) (.int z u) with | (es, t, wasDummy, gave) => _) _ _ _
  rw [show (intKind P0 w).hash z = hashInt z from rfl, hlay]
  dsimp only
  refine wpAny_bind (wpAny_pure ?_)
  rw [ok'.pl]
  refine wpAny_bind ?_
  rw [hashByValue_scannable 8 rfl]
  refine wpAny_pure ?_
  rw [show plainKind (.int z u) = true from rfl]
  simp only [↓reduceIte]
  refine wpAny_bind (wpAny_storeSet_of S.at_ rfl ?_ (by rw [s_size, hlen]; have := sizeLine_eq; exact lq4 ‹_› (by rfl)))
  have hfull : (t.put j).1.tooFull = false := by
   unfold SetTable.tooFull SetTable.fill
   rw [ok'.sz, ok'.dm, ok'.mask]
   simp
   omega
  rw [hfull]
  simp only [Bool.and_false, Bool.false_eq_true, if_false]
  refine wpAny_pure (wpAny_pure ?_)
  have hg : (s.heap.update a (Obj.putSet (L'.map sEnt).toArray (t.put j).1)).get? a = some (setO L' (ep + 1) (t.put j).1) := by
   have := Heap.get?_update_self (Obj.putSet (L'.map sEnt).toArray (t.put j).1) S.at_ (by rw [putSet_of _ _ rfl]; rfl)
   rw [putSet_of _ _ rfl] at this; exact this
  have k := jaz (s := s) (h' := s.heap.update a (Obj.putSet (L'.map sEnt).toArray (t.put j).1)) (Heap.SameBut.update ..) (jaP G hB) ⟨_, hg⟩ (Nat.le_refl s.toks)
  have hperm : L'.Perm ((z, u) :: L) := by
   have := List.perm_middle (a := (z, u)) (l₁ := L.take (t.put j).2) (l₂ := L.drop (t.put j).2)
   rwa [List.take_append_drop] at this
  refine h _ _ L' (ep + 1) (t.put j).1 ⟨hg, by rw [hlen]; exact ok', ?_⟩ (by rw [if_neg hm]; exact hperm) k (G.kp k (al1 hB))
  have := (hperm.map (·.1)).nodup_iff.mpr (by simp only [List.map_cons, List.nodup_cons]; exact ⟨hm, S.nd⟩)
  exact this
end
section
variable {w : World} {B : Heap} {A : Around} {s : Shared} {a d b e c k m x y I l f D dx r : Addr} {env cenv : Env} {sc : Scope} {E : Value → Shared → Prop} {L : List (Int × Nat)} {ep : Nat} {t : SetTable} {fp : List Addr} {n : Nat} {P : Nat → Value → Prop} {St : Nat → Shared → Prop} {R : Result → Shared → Prop}
noncomputable def SetI (ns : List Int) (i : Nat) (L : List (Int × Nat)) : Prop := L.length ≤ i ∧ ∀ z, z ∈ L.map (·.1) ↔ z ∈ ns.take i
set_option tactic.hygienic true in
theorem SetI.step {ns : List Int} {i : Nat} {L' : List (Int × Nat)} {z : Int} {u : Nat} (h : SetI ns i L) (hz : ns[i]? = some z) (hL : if z ∈ L.map (·.1) then L' = L else L'.Perm ((z, u) :: L)) : SetI ns (i + 1) L' := by
 have ht : ns.take (i + 1) = ns.take i ++ [z] := by rw [List.take_add_one, hz]; rfl
 split at hL
 ·rename_i hm
  subst hL
  refine ⟨Nat.le_succ_of_le h.1, fun y => ?_⟩
  rw [ht, List.mem_append, h.2 y]
  constructor
  ·exact .inl
  ·rintro (q | q)
   ·exact q
   ·cases List.mem_singleton.mp q; exact (h.2 z).mp hm
 ·refine ⟨by rw [hL.length_eq]; exact Nat.succ_le_succ h.1, fun y => ?_⟩
  rw [(hL.map (·.1)).mem_iff, ht, List.mem_append, List.map_cons, List.mem_cons, h.2 y, List.mem_singleton]
  exact Or.comm
theorem set_loop {ns : List Int} (hh : A.handled = none) (W : KW w B I fp n P St) (hn : n ≤ 3) (hI : a ∉ fp) (haI : a ≠ I) (hBI : B.get? I = none) (hB : B.get? a = none) (hP : ∀ i v, P i v → ∃ z u, ns[i]? = some z ∧ v = .int z u) :
  ∀ k i s L ep t, n - i = k → i ≤ n → Good w B s → St i s → IsS w s.heap a L ep t → SetI ns i L →
  (∀ s' L ep t, IsS w s'.heap a L ep t → SetI ns n L → Kp [I, a] s s' → Good w B s' → R (.ok (.ret .none)) s') →
  codeAny (model P0 w) A (.builtin "set.update.loop" ⟨[.ref a, .ref I], []⟩) R s := by
 intro k
 induction k with
 | zero =>
  intro i s L ep t hk hi G st S hS hR
  have hin : i = n := by exact lqq ‹_› ‹_›
  subst hin
  refine codeAny_builtin PyProof.Rows.F.entry_set_update_loop ?_
  rw [Around.under_plainId PyProof.Rows.F.plain_set_update_loop _]
  show wpAny _ A.in1 (pyNext (.ref I) >>= _) _ _ s
  refine wpAny_bind (W.done _ s _ _ hh G st fun s' k g => ?_)
  show wpAny _ A.in1 (ret Value.none) _ _ s'
  exact wpAny_pure (hR s' L ep t (S.kp k (ni1 haI)) hS (k.mono si2) (G.kp k (al1 hBI)))
 | succ k ih =>
  intro i s L ep t hk hi G st S hS hR
  have hlt : i < n := by exact lqr ‹_›
  refine codeAny_builtin PyProof.Rows.F.entry_set_update_loop ?_
  rw [Around.under_plainId PyProof.Rows.F.plain_set_update_loop _]
  show wpAny _ A.in1 (pyNext (.ref I) >>= _) _ _ s
  refine wpAny_bind (W.item _ i s _ _ hh G hlt st fun v s1 hp st1 k1 g1 => ?_)
  obtain ⟨z, u, hz, rfl⟩ := hP i v hp
  have G1 := G.kp k1 (al1 hBI)
  show wpAny _ A.in1 (holding [Value.int z u] (setAdd a (.int z u)) >>= _) _ _ s1
  refine wpAny_bind (wpAny_holding ?_)
  unfold setAdd
  refine wpAny_holding (wpAny_bind ((intKind P0 w).pyHash (k := z) (intKind_is _ _ _ _) ?_))
  have kt : Kp [] s1 { s1 with toks := s1.toks + 1 } := jak (Nat.le_succ _)
  refine setAdd_s (G1.kp kt al0) hB ((S.kp k1 (ni1 haI)).kp kt ni0) (by have := hS.1; omega) fun b s2 L2 ep2 t2 S2 hL2 k2 G2 => ?_
  refine wpAny_pure ⟨plainId_quiet PyProof.Rows.F.plain_set_update_loop _, ih (i + 1) s2 L2 ep2 t2 (lqj ‹_›) hlt G2 (W.frame _ _ _ _ (W.frame _ _ _ _ st1 kt nn0) k2 ?_) S2 (hS.step hz hL2) fun s3 L3 ep3 t3 S3 hS3 k3 G3 => ?_⟩
  ·intro b hb q
   cases List.mem_singleton.mp q
   rcases List.mem_cons.mp hb with q | q
   ·exact haI q
   ·exact hI q
  ·exact hR s3 L3 ep3 t3 S3 hS3 ((((k1.trans kt).trans k2).trans k3).mono ap2) G3
theorem code_set_new' (v : Value) {Q₁ : Value → Shared → Prop}
  (h : Q₁ (.ref s.heap.objs.size) { s with heap := s.heap.push { cls := .type "set", dict := none, data := .set #[] 0 (.fresh 0 0 (!byT w)) } }) :
  codeAny (model P0 w) A (.call (.builtin "set.__new__") ⟨[.type "set", v], []⟩) (wants Q₁ E) s := by
 refine codeAny_of_tree ?_
 show wpAny _ A.in1 (do checkBuiltinCall "set.__new__" ⟨[.type "set", v], []⟩; again (.builtin "set.__new__" ⟨[.type "set", v], []⟩)) _ _ s
 refine wpAny_bind (wpAny_of_eq (PySem.F.newCall_set_1 v) (wpAny_pure ⟨plainId_quiet PySem.F.plain_set_new _, codeAny_builtin PySem.F.entry_set_new ?_⟩))
 rw [Around.under_plainId PySem.F.plain_set_new _]
 unfold Builtin.«set.__new__» Builtin.Frozenset.newClass
 have hsub := sub_set_self
 obtain ⟨hp, g, d, tk, os⟩ := s
 dsimp only
 wp_walk
 refine wpAny_askSetting (wpAny_pure ?_)
 dsimp only
 simp only [newObj]
 refine wpAny_bind (wpAny_alloc (wpAny_pure ?_))
 exact wpAny_pure h
end
section
variable {w : World} {B : Heap} {A : Around} {s : Shared} {a d b e c k m x y I l f D dx r : Addr} {env cenv : Env} {sc : Scope} {E : Value → Shared → Prop} {L : List (Int × Nat)} {ep : Nat} {t : SetTable} {fp : List Addr} {n : Nat} {P : Nat → Value → Prop} {St : Nat → Shared → Prop} {R : Result → Shared → Prop}
theorem set_init {vs : List Value} {ns : List Int} (hh : A.handled = none) (G : Good w B s) (hl : PL s.heap l vs) (p : Paired (intR s.heap) vs ns) (hn : ns.length ≤ 3) (S : IsS w s.heap a [] 0 (.fresh 0 0 (!byT w))) (hB : B.get? a = none) (hal : a ≠ l)
  (hR : ∀ s' L ep t, IsS w s'.heap a L ep t → SetI ns ns.length L → Kp [a] s s' → R (.ok (.ret .none)) s') :
  wpAny (model P0 w) A.in1 (Builtin.«set.__init__» ⟨[.ref a, .ref l], []⟩)
   (fun fin s' => match fin with | .done f => R (.ok f) s' | .again c' => c'.quiet = true ∧ codeAny (model P0 w) A c' R s') (fun e s' => R (.error e) s') s := by
 obtain ⟨ep, hol⟩ := id hl
 have hset : s.heap.get? a = some { cls := .type "set", dict := none, data := .set #[] 0 (.fresh 0 0 (!byT w)) } := S.at_
 replace hol : s.heap.get? l = some { cls := .type "list", dict := none, data := .seq vs.toArray ep, slots := #[] } := hol
 have hsls := PySem.F.sub_list_set
 have hslf := PySem.F.sub_list_frozenset
 have hne : (Value.type "list" == Value.type "dict") = false := by decide
 have hT : s.TypeIs (.ref a) "set" := ⟨_, hset, rfl⟩
 have hl1 : s.heap.IsList l vs.toArray := hl.list
 have it := jaD (A := A.in1) G hl1
 unfold Builtin.«set.__init__» noKeywords Builtin.Frozenset.updateFrom
 have fin : ∀ v s1, Iter w B s [l] vs.toArray.size (fun i v => vs.toArray[i]? = some v) v s1 → wpAny (model P0 w) A.in1 (do let _ ← runValue (.builtin "set.update.loop" ⟨[.ref a, v], []⟩); pure ())
   (fun Y s' => R (.ok (.ret .none)) s') (fun e s' => R (.error e) s') s1 := by
  intro v s1 ⟨⟨I, St, ev, W, st, fI, aI⟩, al, k1, g1⟩
  subst ev
  have aI' : a ≠ I := fun q => by rw [← q, hset] at fI; cases fI
  refine wpAny_bind (wpAny_runValue ?_)
  refine set_loop (A := A.in1) (ns := ns) hh W (by rw [show vs.toArray.size = vs.length by simp, jaa p]; exact hn) (ni1 hal) aI' (G.new fI) hB (fun i v hv => ?_) _ 0 s1 [] 0 _ rfl (Nat.zero_le _) (G.kp k1 al0) st (S.kp k1 ni0) ⟨Nat.le_refl _, by simp⟩ fun s2 L ep t h1 h2 k2 G2 => ?_
  ·obtain ⟨z, hz, u, e⟩ := ja4 p (toA hv)
   exact ⟨z, u, hz, e⟩
  ·rw [show vs.toArray.size = vs.length by simp, jaa p] at h2
   exact wpAny_pure (hR s2 L ep t h1 h2 (Kp.compW (W := [a]) (k1.mono al0) k2 (by simpa using .inr fI) G.two))
 obtain ⟨hp, g, dr, tk, os⟩ := s
 generalize hPI : pyIter = PI
 wp_walk
 subst hPI
 exact it.use fun v s1 It => wpAny_mono (fin v s1 It) (fun Y Y h => wpAny_pure h) fun Y Y z => z
theorem call_set_ints {vs : List Value} {ns : List Int} (hh : A.handled = none) (G : Good w B s) (hl : PL s.heap l vs) (p : Paired (intR s.heap) vs ns) (hn : ns.length ≤ 3) :
  Wp w A (call (.type "set") [.ref l]) (fun v s' => ∃ D L ep t, v = .ref D ∧ s.heap.get? D = none ∧ IsS w s'.heap D L ep t ∧ SetI ns ns.length L ∧ Kp [] s s') s := by
 refine lW ?_
 intro Ro
 obtain ⟨c, tl, hmro⟩ := PySem.F.called_set.mro
 have hmade := PySem.F.called_set.made
 have hsub := PySem.F.called_set.sub
 refine wpAny_call (codeAny_of_tree ?_)
 show wpAny _ _ (callAny (.type "set") _) _ _ _
 refine wpAny_pure ⟨Code.quiet_builtin _ (by decide +kernel), codeAny_builtin PySem.F.entry_type_call ?_⟩
 rw [Around.under_plain (weight_type_call_type "set" [.ref l] []) rfl]
 have h1 := PySem.F.called_set.notType
 have h2 := PySem.F.called_set.canCreate
 have hct := PySem.F.typeCall_set_1 (.ref l)
 repeat (any_goals (first | assumption | wp_step))
 refine codeAny_mono (code_set_new' (.ref l) (E := fun Y Y => False) (Q₁ := fun obj s₁ => obj = .ref s.heap.objs.size ∧ s₁ = { s with heap := s.heap.push { cls := .type "set", dict := none, data := .set #[] 0 (.fresh 0 0 (!byT w)) } }) ⟨rfl, rfl⟩) fun r s₁ hr => ?_
 cases r with
 | error e => exact hr
 | ok fl =>
  cases fl with
  | ret obj =>
   obtain ⟨rfl, rfl⟩ := hr
   have fD : s.heap.get? s.heap.objs.size = none := jag
   have kD : Kp [] s { s with heap := s.heap.push { cls := .type "set", dict := none, data := .set #[] 0 (.fresh 0 0 (!byT w)) } } := jar G
   have S0 : IsS w ({ s with heap := s.heap.push { cls := .type "set", dict := none, data := .set #[] 0 (.fresh 0 0 (!byT w)) } } : Shared).heap s.heap.objs.size [] 0 (.fresh 0 0 (!byT w)) :=
    ⟨Heap.get?_push_size _ rfl, ⟨rfl, rfl, rfl, rfl, rfl, by simp [SetTable.fresh]⟩, by simp⟩
   have hT : Shared.TypeIs { s with heap := s.heap.push { cls := .type "set", dict := none, data := .set #[] 0 (.fresh 0 0 (!byT w)) } } (.ref s.heap.objs.size) "set" := ⟨_, Heap.get?_push_size _ rfl, rfl⟩
   have hli := PySem.F.called_set.init.lookup
   have hbi := PySem.F.called_set.init.bind (.ref s.heap.objs.size)
   repeat (any_goals (first | assumption | wp_step))
   have aL : ∃ o, s.heap.get? l = some o := by obtain ⟨ep, e⟩ := hl; exact ⟨_, e⟩
   have nD : s.heap.objs.size ≠ l := fun q => by obtain ⟨o, e⟩ := aL; rw [← q, fD] at e; cases e
   refine codeAny_mono (codeAny_call_builtin (R := wants (fun r s' => r = .none ∧ ∃ L ep t, IsS w s'.heap s.heap.objs.size L ep t ∧ SetI ns ns.length L ∧ Kp [] s s') (fun Y Y => False)) PySem.F.called_set.init.plain PySem.F.entry_set_init (check_set_init_1 hT ?_)) fun r₂ s₂ hr₂ => ?_
   ·exact set_init hh (G.kp kD al0) (jaj hl kD ni0) p hn S0 (G.new fD) nD fun s' L ep t h1 h2 k => ⟨rfl, L, ep, t, h1, h2, kD.comp0 G k (al1 fD)⟩
   ·cases r₂ with
    | error e => exact hr₂
    | ok fl₂ =>
     cases fl₂ with
     | ret r =>
      obtain ⟨rfl, L, ep, t, h1, h2, h3⟩ := hr₂
      repeat (any_goals (first | assumption | wp_step))
      exact ⟨_, L, ep, t, rfl, fD, h1, h2, h3⟩
     | _ => exact hr₂.elim
  | _ => exact hr.elim
end
theorem slot_si_next : Slot "set_iterator" "__next__" "set_iterator.__next__" :=
 .of (owner := "set_iterator") (n := "__next__") (by rw [typeLookup_type, builtinLookup_eq_fast]; kernel_rfl) (by decide +kernel) (by decide +kernel) (by decide +kernel)
  (by first | exact .inl (by decide +kernel) | exact .inr (by decide +kernel)) (by rw [isSubtype_type]; kernel_rfl)
theorem jcu : entryFor table "set_iterator.__next__" = some Builtin.«set_iterator.__next__» := entryFor_of_tree (by kernel_rfl)
theorem owner_si : Manifest.owners.lookup (String.ofList ['r', 'o', 't', 'a', 'r', 'e', 't', 'i', '_', 't', 'e', 's'].reverse) = some Manifest.sig_set_iterator := by kernel_rfl
theorem args_si_next (a : Value) : argsOk "set_iterator.__next__" ⟨[a], []⟩ := by
 unfold argsOk; rw [signature?_of (id := "set_iterator.__next__") (n := ['_', '_', 't', 'x', 'e', 'n', '_', '_']) (o := ['r', 'o', 't', 'a', 'r', 'e', 't', 'i', '_', 't', 'e', 's']) (by kernel_rfl) owner_si]; kernel_rfl
theorem slot_si_iter : Slot "set_iterator" "__iter__" "set_iterator.__iter__" :=
 .of (owner := "set_iterator") (n := "__iter__") (by rw [typeLookup_type, builtinLookup_eq_fast]; kernel_rfl) (by decide +kernel) (by decide +kernel) (by decide +kernel)
  (by first | exact .inl (by decide +kernel) | exact .inr (by decide +kernel)) (by rw [isSubtype_type]; kernel_rfl)
theorem entry_si_iter : entryFor table "set_iterator.__iter__" = some Builtin.«dict_keyiterator.__iter__» := entryFor_alias (id' := "dict_keyiterator.__iter__") (by kernel_rfl) rfl (by decide +kernel) (by kernel_rfl)
theorem args_si_iter (a : Value) : argsOk "set_iterator.__iter__" ⟨[a], []⟩ := by
 unfold argsOk; rw [signature?_of (id := "set_iterator.__iter__") (n := ['_', '_', 'r', 'e', 't', 'i', '_', '_']) (o := ['r', 'o', 't', 'a', 'r', 'e', 't', 'i', '_', 't', 'e', 's']) (by kernel_rfl) owner_si]; kernel_rfl
theorem entry_s_iter : entryFor table "set.__iter__" = some Builtin.«frozenset.__iter__» := entryFor_alias (id' := "frozenset.__iter__") (by kernel_rfl) rfl (by decide +kernel) (by kernel_rfl)
noncomputable def sitO (a : Addr) (slot i n ep : Nat) : Obj := ⟨.type "set_iterator", none, .fields #[.int slot 0, .int i 0, .ref a, .int n 0, .int ep 0], #[]⟩
noncomputable def sOrd (w : World) (a : Addr) (ep : Nat) (L : List (Int × Nat)) : List Value := if byT w then (pickOrder (w.params.setOrder a ep) (L.map sEnt).toArray).toList.map (·.2) else L.map fun x => (sEnt x).2
noncomputable def jbT (t : SetTable) : Nat → Nat | 0 => 0 | j + 1 => t.place.getD j 0 + 1
noncomputable def slotAt (w : World) (t : SetTable) (i : Nat) : Nat := if byT w then 0 else jbT t i
theorem erase_perm {α : Type} : ∀ (l : List α) (i : Nat) (h : i < l.length), (l[i] :: l.eraseIdx i).Perm l
 | x :: xs, 0, _ => by simp
 | x :: xs, i + 1, h => by
  have := erase_perm xs i (Nat.lt_of_succ_lt_succ h)
  simp only [List.getElem_cons_succ, List.eraseIdx_cons_succ]
  exact (List.Perm.swap _ _ _).trans (this.cons x)
theorem pick_go {α : Type} (next : Nat → Nat) : ∀ (fuel k : Nat) (left : List α) (out : Array α), left.length ≤ fuel → (pickOrder.go next fuel k left out).toList.Perm (out.toList ++ left) := by
 intro fuel
 induction fuel with
 | zero =>
  rintro k left out h
  have : left = [] := by cases left <;> simp_all
  subst this; unfold pickOrder.go; simp
 | succ fuel ih =>
  rintro k left out h
  unfold pickOrder.go
  cases hl : left[next k % left.length]? with
  | none =>
   cases left with
   | nil => simp
   | cons x xs =>
    rw [List.getElem?_eq_none_iff] at hl
    exact absurd hl (Nat.not_le.mpr (Nat.mod_lt _ (Nat.succ_pos _)))
  | some x =>
   have hlt : next k % left.length < left.length := (List.getElem?_eq_some_iff.mp hl).1
   have hx : left[next k % left.length] = x := (List.getElem?_eq_some_iff.mp hl).2
   have ih := ih (k + 1) (left.eraseIdx (next k % left.length)) (out.push x) (by rw [List.length_eraseIdx, if_pos hlt]; omega)
   refine ih.trans ?_
   rw [Array.toList_push, List.append_assoc]
   refine List.Perm.append_left _ ?_
   have := erase_perm _ _ hlt
   rw [hx] at this
   exact this
theorem sOrd_perm (w : World) (a : Addr) (ep : Nat) (L : List (Int × Nat)) : (sOrd w a ep L).Perm (L.map fun x => (sEnt x).2) := by
 unfold sOrd
 split
 ·have := (pick_go (w.params.setOrder a ep) (L.map sEnt).toArray.size 0 (L.map sEnt).toArray.toList #[] (by simp)).map (·.2)
  refine List.Perm.trans this ?_
  simp
  exact .rfl
 ·exact .rfl
section
variable {w : World} {B : Heap} {A : Around} {s : Shared} {a d b e c k m x y I l f D dx r : Addr} {env cenv : Env} {sc : Scope} {E : Value → Shared → Prop} {L : List (Int × Nat)} {ep : Nat} {t : SetTable} {fp : List Addr} {n : Nat} {P : Nat → Value → Prop} {St : Nat → Shared → Prop} {R : Result → Shared → Prop}
theorem s_byText {Q : Bool → Shared → Prop} (h : Q (byT w) s) : wpAny (model P0 w) A setsByText Q E s := by
 unfold setsByText
 exact wpAny_bind (wpAny_askSetting (wpAny_pure h))
theorem arr_cases3 {α : Type} (xs : Array α) (h : xs.size ≤ 3) : xs = #[] ∨ (∃ x, xs = #[x]) ∨ (∃ x y, xs = #[x, y]) ∨ ∃ x y z, xs = #[x, y, z] := by
 obtain ⟨l⟩ := xs
 rcases l with _ | ⟨x, _ | ⟨y, _ | ⟨z, _ | ⟨u, l⟩⟩⟩⟩
 ·exact .inl rfl
 ·exact .inr (.inl ⟨x, rfl⟩)
 ·exact .inr (.inr (.inl ⟨x, y, rfl⟩))
 ·exact .inr (.inr (.inr ⟨x, y, z, rfl⟩))
 ·exact absurd (Nat.le_of_succ_le_succ (Nat.le_of_succ_le_succ (Nat.le_of_succ_le_succ h))) (Nat.not_succ_le_zero _)
theorem below_at {b : Bool} {i : Nat} (ok : TOk b t n) (hn : n ≤ 3) (hi : i ≤ n) : SetTable.below t.place (jbT t i) = i := by
 have e0 : jbT t i = (match i with | 0 => 0 | j + 1 => t.place.getD j 0 + 1) := by unfold jbT; cases i <;> rfl
 rw [e0]
 clear e0
 have hsz := ok.sz
 have hso := ok.so
 rcases arr_cases3 t.place (lsb ‹_› ‹_› (by rfl)) with e | ⟨x, e⟩ | ⟨x, y, e⟩ | ⟨x, y, z, e⟩
 ·rw [e] at hsz ⊢
  have : i = 0 := by simp at hsz; omega
  subst this; exact below0 _ rfl _
 ·rw [e] at hsz ⊢
  have : n = 1 := by simpa using hsz.symm
  subst this
  rw [below1]
  rcases i with _ | _ | i
  ·simp
  ·simp
  ·exact absurd (Nat.le_of_succ_le_succ hi) (Nat.not_succ_le_zero _)
 ·rw [e] at hsz hso ⊢
  have : n = 2 := by simpa using hsz.symm
  subst this
  rw [below2]
  have hxy : x < y := by simpa using hso
  rcases i with _ | _ | _ | i
  ·simp
  ·simp; omega
  ·simp
  ·exact absurd (Nat.le_of_succ_le_succ (Nat.le_of_succ_le_succ hi)) (Nat.not_succ_le_zero _)
 ·rw [e] at hsz hso ⊢
  have : n = 3 := by simpa using hsz.symm
  subst this
  rw [below3]
  have hxy : x < y ∧ y < z := by simp at hso; omega
  rcases i with _ | _ | _ | _ | i
  ·simp
  ·simp; omega
  ·simp; exact ‹_ ∧ _›.2
  ·simp; omega
  ·exact absurd (Nat.le_of_succ_le_succ (Nat.le_of_succ_le_succ (Nat.le_of_succ_le_succ hi))) (Nat.not_succ_le_zero _)
theorem jch (w : World) (a : Addr) (ep : Nat) (L : List (Int × Nat)) : (sOrd w a ep L).length = L.length := by rw [(sOrd_perm w a ep L).length_eq]; simp
theorem setNext_at {i : Nat} {Q : Option (Value × Nat) → Shared → Prop} (S : IsS w s.heap a L ep t) (hn : L.length ≤ 3) (hi : i ≤ L.length) (h : Q ((sOrd w a ep L)[i]?.map fun v => (v, slotAt w t (i + 1))) s) :
  wpAny (model P0 w) A (setNext a (slotAt w t i) i ep) Q E s := by
 unfold setNext
 refine wpAny_bind (jcw S (lq8 ‹_› (by rfl)) ?_)
 dsimp only
 refine wpAny_bind (s_byText ?_)
 cases hb : byT w with
 | true =>
  rw [if_pos rfl, if_neg bn1]
  unfold setWalk
  refine wpAny_bind (wpAny_bind (jcw S (lq8 ‹_› (by rfl)) ?_))
  dsimp only
  refine wpAny_bind (s_byText ?_)
  rw [hb, if_pos rfl]
  refine wpAny_bind (wpAny_askSetting ?_)
  refine wpAny_pure (wpAny_pure ?_)
  have e : (sOrd w a ep L)[i]?.map (fun v => (v, slotAt w t (i + 1))) = ((pickOrder (w.params.setOrder a ep) (L.map sEnt).toArray)[i]?).map fun e => (e.2, slotAt w t i) := by
   unfold sOrd slotAt
   rw [hb]
   simp only [if_true, List.getElem?_map, Array.getElem?_toList, Option.map_map]
   rfl
  rw [e] at h
  exact h
 | false =>
  have hp := S.ok.pl
  have hl : t.led = true := by rw [S.ok.led, hb]; rfl
  simp only [Bool.false_eq_true, if_false]
  rw [if_neg (by show ¬ ((!t.plain && _) = true); rw [hp]; simp)]
  refine wpAny_bind ?_
  refine (iff_ (c := !t.led && !(L.map sEnt).toArray.isEmpty) (by rw [hl]; rfl) (wpAny_pure ?_) : wpAny (model P0 w) A (if (!t.led && !(L.map sEnt).toArray.isEmpty) = true then _ else pure PUnit.unit) _ _ _)
  refine wpAny_pure ?_
  have hs : slotAt w t i = jbT t i := by unfold slotAt; rw [hb]; rfl
  rw [hs, below_at S.ok hn hi]
  have e : (sOrd w a ep L)[i]?.map (fun v => (v, slotAt w t (i + 1))) = (match (L.map sEnt).toArray[i]?, t.place[i]? with | some (_, x), some j => some (x, j + 1) | _, _ => none) := by
   unfold sOrd slotAt
   rw [hb]
   simp only [Bool.false_eq_true, if_false, List.getElem?_map, List.getElem?_toArray, Option.map_map]
   cases hx : L[i]? with
   | none => rfl
   | some x =>
    have hlt : i < L.length := (List.getElem?_eq_some_iff.mp hx).1
    have hlt' : i < t.place.size := by rw [S.ok.sz]; exact hlt
    simp [hlt', jbT]
  rw [e] at h
  exact h
theorem ty_sit {slot i n : Nat} (hit : s.heap.get? I = some (sitO a slot i n ep)) : s.TypeIs (.ref I) "set_iterator" := ⟨_, hit, rfl⟩
theorem sit_kp {slot i n : Nat} {s' : Shared} {Sx : List Addr} (h : s.heap.get? I = some (sitO a slot i n ep)) (k : Kp Sx s s') (nn : I ∉ Sx) : s'.heap.get? I = some (sitO a slot i n ep) :=
 k.keep _ _ h (jau (by simp [sitO])) nn
theorem s_entries {Q : Array (Int × Value) → Shared → Prop} (S : IsS w s.heap a L ep t) (hn : L.length ≤ 7) (h : Q (L.map sEnt).toArray s) : wpAny (model P0 w) A (setEntries a) Q E s := by
 unfold setEntries
 exact wpAny_bind (jcw S hn (wpAny_pure h))
theorem sit_item {i : Nat} {v : Value} {Q : Option Value → Shared → Prop} (G : Good w B s) (hB : B.get? I = none) (hit : s.heap.get? I = some (sitO a (slotAt w t i) i L.length ep)) (S : IsS w s.heap a L ep t) (hn : L.length ≤ 3) (hv : (sOrd w a ep L)[i]? = some v)
  (h : ∀ s', s'.heap.get? I = some (sitO a (slotAt w t (i + 1)) (i + 1) L.length ep) → Kp [I] s s' → s'.gens = s.gens → Q (some v) s') : wpAny (model P0 w) A (pyNext (.ref I)) Q E s := by
 have hT := ty_sit hit
 have hi : i < L.length := by have := (List.getElem?_eq_some_iff.mp hv).1; rwa [jch] at this
 have n2 := jaP G hB
 unfold pyNext
 refine wpAny_bind (wpAny_attempt (wpAny_callSpecial?_slot (name := Str.ofString "__next__") hT slot_si_next (wpAny_call_entry slot_si_next hT jcu ?_ (args_si_next _))))
 refine wpAny_bind (wpAny_pure ?_)
 refine wpAny_bind (wpAny_fieldsOf hit rfl ?_)
 show wpAny _ _ (setEntries a >>= _) _ _ _
 refine wpAny_bind (s_entries S (lq8 ‹_› (by rfl)) ?_)
 rw [if_neg sz0]
 show wpAny _ _ (setNext a (slotAt w t i) i ep >>= _) _ _ _
 refine wpAny_bind (setNext_at S hn (Nat.le_of_lt hi) ?_)
 rw [hv]
 dsimp only [Option.map]
 refine wpAny_bind (wpAny_setField_rec hit (Nat.succ_pos _) fun h1 e1 b1 => ?_)
 refine wpAny_bind (wpAny_setField_rec e1 (lqf rfl) fun h2 e2 b2 => ?_)
 have k1 := jaz (s := s) b1 n2 ⟨_, e1⟩ (Nat.le_refl _)
 have k2 := jaz (s := { s with heap := h1 }) b2 n2 ⟨_, e2⟩ (Nat.le_refl _)
 refine wpAny_pure ⟨_, rfl, ?_⟩
 have e3 : h2.get? I = some (sitO a (slotAt w t (i + 1)) (i + 1) L.length ep) := by simpa [sitO, rawInt] using e2
 exact wpAny_pure (h _ e3 ((k1.trans k2).mono ap2) rfl)
theorem sit_done {Q : Option Value → Shared → Prop} (hh : A.handled = none) (G : Good w B s) (hB : B.get? I = none) (hit : s.heap.get? I = some (sitO a (slotAt w t L.length) L.length L.length ep)) (S : IsS w s.heap a L ep t) (hn : L.length ≤ 3)
  (h : ∀ s', Kp [I] s s' → s'.gens = s.gens → Q none s') : wpAny (model P0 w) A (pyNext (.ref I)) Q E s := by
 have hT := ty_sit hit
 have n2 := jaP G hB
 unfold pyNext
 refine wpAny_bind (wpAny_attempt (wpAny_callSpecial?_slot (name := Str.ofString "__next__") hT slot_si_next (wpAny_call_entry slot_si_next hT jcu ?_ (args_si_next _))))
 refine wpAny_bind (wpAny_pure ?_)
 refine wpAny_bind (wpAny_fieldsOf hit rfl ?_)
 show wpAny _ _ (setEntries a >>= _) _ _ _
 refine wpAny_bind (s_entries S (lq8 ‹_› (by rfl)) ?_)
 rw [if_neg sz0]
 show wpAny _ _ (setNext a (slotAt w t L.length) L.length ep >>= _) _ _ _
 refine wpAny_bind (setNext_at S hn (Nat.le_refl _) ?_)
 rw [List.getElem?_eq_none (by rw [jch]; exact Nat.le_refl _)]
 dsimp only [Option.map]
 refine wpAny_bind (wpAny_setField_rec hit (lqf rfl) fun h1 e1 b1 => ?_)
 have k1 := jaz (s := s) b1 n2 ⟨_, e1⟩ (Nat.le_refl _)
 refine jaT (s := { s with heap := h1 }) hh fun s' q1 q2 q3 q4 => h s' ?_ q2
 refine (k1.trans (jat q1 ?_ q3 q4 q2)).mono sm0
 obtain ⟨o, e⟩ := G.two
 exact ⟨o, (b1.2 2 (Ne.symm n2)).trans e⟩
theorem sit_self {slot i n : Nat} {Q : Value → Shared → Prop} (hit : s.heap.get? I = some (sitO a slot i n ep)) (h : Q (.ref I) s) : wpAny (model P0 w) A (pyIter (.ref I)) Q E s := by
 refine wpAny_pyIter_slot (ty_sit hit) slot_si_iter (wpAny_call_entry slot_si_iter (ty_sit hit) entry_si_iter ?_ (args_si_iter _))
 show wpAny _ _ (ret (.ref I)) _ _ s
 exact wpAny_pure ⟨_, rfl, "set_iterator", _, ty_sit hit, slot_si_next.lookup, h⟩
theorem KW.set (hne : a ≠ I) (hBI : B.get? I = none) (hn : L.length ≤ 3) : KW w B I [a] L.length (fun i v => (sOrd w a ep L)[i]? = some v) (fun i s => s.heap.get? I = some (sitO a (slotAt w t i) i L.length ep) ∧ IsS w s.heap a L ep t) where
 frame := fun i s s' S st k n => ⟨sit_kp st.1 k (n _ (List.mem_cons_self ..)), st.2.kp k (n _ (List.Mem.tail _ (List.Mem.head _)))⟩
 item := fun A i s Q E hh G hi st hq => by
  have hv : (sOrd w a ep L)[i]? = some ((sOrd w a ep L)[i]'(by rw [jch]; exact hi)) := List.getElem?_eq_getElem _
  exact sit_item G hBI st.1 st.2 hn hv fun s' h1 k g => hq _ _ hv ⟨h1, st.2.kp k (ni1 hne)⟩ k g
 done := fun A s Q E hh G st hq => sit_done hh G hBI st.1 st.2 hn hq
 self := fun A i s Q E st hq => sit_self st.1 hq
 cl := fun i s st => ⟨_, st.1, by unfold jba sitO; simp⟩
theorem iter_set (G : Good w B s) (S : IsS w s.heap a L ep t) (hn : L.length ≤ 3) : Wp w A (pyIter (.ref a)) (fun v s' => Iter w B s [a] L.length (fun i v => (sOrd w a ep L)[i]? = some v) v s') s := by
 have hT : s.TypeIs (.ref a) "set" := ⟨_, S.at_, rfl⟩
 refine wpAny_pyIter_slot hT PySem.F.slot_set_iter (wpAny_call_entry PySem.F.slot_set_iter hT entry_s_iter ?_ (PySem.F.args_set_iter_1 _))
 unfold Builtin.«frozenset.__iter__»
 refine wpAny_bind (wpAny_bind (wpAny_pure (wpAny_pure ?_)))
 unfold Builtin.Frozenset.sizeOf
 refine wpAny_bind (wpAny_bind (s_entries S (lq8 ‹_› (by rfl)) (wpAny_pure ?_)))
 unfold setDrawn
 refine wpAny_bind (wpAny_bind (jcw S (lq8 ‹_› (by rfl)) ?_))
 dsimp only
 refine wpAny_bind (s_byText (wpAny_pure ?_))
 refine iff_ (c := !byT w && (!t.plain && decide (1 < (L.map sEnt).toArray.size))) (by rw [S.ok.pl]; simp) ?_
 refine wpAny_bind (wpAny_pure ?_)
 unfold setEpoch
 refine wpAny_bind (wpAny_bind (jcw S (lq8 ‹_› (by rfl)) (wpAny_pure ?_)))
 refine wpAny_bind (wpAny_newObj_type ?_)
 have hI : (s.heap.push { cls := .type "set_iterator", dict := none, data := .fields #[rawInt 0, rawInt 0, .ref a, rawInt (L.map sEnt).toArray.size, rawInt ep] }).get? s.heap.objs.size = some (sitO a (slotAt w t 0) 0 L.length ep) := by
  rw [Heap.get?_push_size _ rfl]
  have : slotAt w t 0 = 0 := by unfold slotAt jbT; split <;> rfl
  rw [this]
  simp [sitO, rawInt]
 have fI : s.heap.get? s.heap.objs.size = none := jag
 have hne : a ≠ s.heap.objs.size := fun q => by have := S.at_; rw [q, fI] at this; cases this
 have hS : s.heap.push { cls := .type "set_iterator", dict := none, data := .fields #[rawInt 0, rawInt 0, .ref a, rawInt (L.map sEnt).toArray.size, rawInt ep] } = s.heap.push { cls := .type "set_iterator", dict := none, data := .fields #[rawInt 0, rawInt 0, .ref a, rawInt (L.map sEnt).toArray.size, rawInt ep] } := rfl
 refine wpAny_pure ⟨_, rfl, "set_iterator", _, ⟨_, hI, rfl⟩, slot_si_next.lookup, ?_⟩
 exact ⟨⟨_, _, rfl, KW.set hne (G.new fI) hn, ⟨hI, S.kp (jar G) ni0⟩, fI, ⟨_, hI⟩⟩, by simpa using ⟨_, S.at_⟩, jar G, rfl⟩
end
section
variable {w : World} {B : Heap} {A : Around} {s : Shared} {a d b e c k m x y I l f D dx r : Addr} {env cenv : Env} {sc : Scope} {E : Value → Shared → Prop} {L : List (Int × Nat)} {ep : Nat} {t : SetTable} {fp : List Addr} {n : Nat} {P : Nat → Value → Prop} {St : Nat → Shared → Prop} {R : Result → Shared → Prop}
theorem s_hint {Q : Bool → Shared → Prop} (hT : s.TypeIs (.ref r) "set") (h : Q false s) : wpAny (model P0 w) A (Builtin.List.listLengthHint (.ref r)) Q E s := by
 unfold Builtin.List.listLengthHint
 refine wpAny_bind (wpAny_specialOf hT PySem.F.slot_set_len.lookup ?_)
 generalize hid : ("set.__len__" : String) = id0
 wp_delta
 rw [show splitId id0 = some ("set", "__len__") from by subst hid; decide +kernel]
 subst hid
 refine wpAny_bind (wpAny_isInstance (T := "set") (b := true) hT (by rw [isSubtype_type]; kernel_rfl) ?_)
 refine wpAny_ite_split (fun hab => absurd hab (by decide)) (fun Y => ?_)
 refine wpAny_ite_split (fun Y => ?_) (fun hab => absurd (by decide +kernel) hab)
 refine wpAny_bind (wpAny_typeOf hT ?_)
 exact wpAny_pure h
theorem itsP_eq {xs vs : List Value} (h : ItsP (fun i v => xs[i]? = some v) vs n) (hn : n = xs.length) : vs = xs := by
 refine List.ext_getElem? fun j => ?_
 by_cases hj : j < vs.length
 ·rw [List.getElem?_eq_getElem hj]
  exact (h.2 j _ (List.getElem?_eq_getElem hj)).symm
 ·rw [List.getElem?_eq_none (Nat.not_lt.mp ‹_›), List.getElem?_eq_none (by have := h.1; omega)]
theorem proto_of {tv : Value} (hh : A.handled = none) (G : Good w B s) (hT : ∀ s1, Kp [] s s1 → Looks (model P0 w) s1.heap (typeOf (.ref r)) tv) (ht : (tv == .type "list") = false) (ht' : (tv == .type "tuple") = false) (har : ∃ o, s.heap.get? r = some o) (hfp : ∀ a ∈ fp, ∃ o, s.heap.get? a = some o) (hn : n ≤ 1000)
  (hit : ∀ A' s1, Kp [] s s1 → Good w B s1 → A'.handled = none → A' = A.in1 → Wp w A' (pyIter (.ref r)) (fun v s' => Iter w B s1 fp n P v s') s1) (hint : ∀ A' s1, Kp [] s s1 → Good w B s1 → Wp w A' (Builtin.List.listLengthHint (.ref r)) (fun Y s' => Kp [] s1 s') s1)
  (hR : ∀ D vs s', PL s'.heap D vs → ItsP P vs n → Kp [] s s' → R (.ok (.ret (.ref D))) s') : codeAny (model P0 w) A (.builtin "proto.collect" ⟨[.ref r], []⟩) R s := by
 refine codeAny_builtin PySem.F.entry_proto_collect ?_
 rw [Around.under_plainId PySem.F.plain_proto_collect _]
 show wpAny _ A.in1 (newList [] >>= fun l => again (.builtin "list.__iadd__" ⟨[l, .ref r], []⟩)) _ _ s
 refine wpAny_bind (wpAny_newObj_type ?_)
 refine wpAny_pure ⟨plainId_quiet PySem.F.plain_list_iadd _, codeAny_builtin PySem.F.entry_list_iadd ?_⟩
 rw [Around.under_plainId PySem.F.plain_list_iadd _]
 have fD : s.heap.get? s.heap.objs.size = none := jag
 have kD : Kp [] s { s with heap := s.heap.push { cls := .type "list", dict := none, data := .seq ([] : List Value).toArray } } := jar G
 have hS' : PL ({ s with heap := s.heap.push { cls := .type "list", dict := none, data := .seq ([] : List Value).toArray } } : Shared).heap s.heap.objs.size [] := ⟨0, Heap.get?_push_size _ rfl⟩
 generalize s.heap.objs.size = D at *
 generalize ({ s with heap := s.heap.push { cls := .type "list", dict := none, data := .seq ([] : List Value).toArray } } : Shared) = s1 at *
 have hB := G.new fD
 have G1 := G.kp kD al0
 have nr : D ≠ r := fun q => by obtain ⟨o, e⟩ := har; rw [← q, fD] at e; cases e
 show wpAny _ A.in1 (Builtin.List.listExtendWith (.ref D) (.ref r) (.ref D)) _ _ _
 exact ext_with (A := A) (P := P) (n := n) (fp := fp) (B := B) hh G1 (hT s1 kD) ht ht' hS' nr hB (fun q => by obtain ⟨o, e⟩ := hfp _ q; rw [fD] at e; cases e) hn (.ref D) (hit _ s1 kD G1 hh rfl) (fun s3 k3 => hint _ s3 ((kD.trans k3).mono al0) (G1.kp k3 al0)) fun s3 vs h1 h2 k3 G3 => hR D vs s3 h1 h2 (kD.comp0 G k3 (al1 fD))
theorem collect_of {tv : Value} {Q : List Value → Shared → Prop} (hh : A.handled = none) (G : Good w B s) (hT : ∀ s1, Kp [] s s1 → Looks (model P0 w) s1.heap (typeOf (.ref r)) tv) (ht : (tv == .type "list") = false) (ht' : (tv == .type "tuple") = false) (har : ∃ o, s.heap.get? r = some o) (hfp : ∀ a ∈ fp, ∃ o, s.heap.get? a = some o) (hn : n ≤ 1000)
  (hit : ∀ A' s1, Kp [] s s1 → Good w B s1 → A'.handled = none → A' = A.in1 → Wp w A' (pyIter (.ref r)) (fun v s' => Iter w B s1 fp n P v s') s1) (hint : ∀ A' s1, Kp [] s s1 → Good w B s1 → Wp w A' (Builtin.List.listLengthHint (.ref r)) (fun Y s' => Kp [] s1 s') s1)
  (hq : ∀ vs s', ItsP P vs n → Kp [] s s' → Q vs s') : wpAny (model P0 w) A (collect (.ref r)) Q E s := by
 unfold collect
 refine wpAny_bind (wpAny_runValue (proto_of (P := P) (n := n) (fp := fp) hh G hT ht ht' har hfp hn hit hint fun D vs s3 h1 h2 k3 => ?_))
 obtain ⟨ep3, e3⟩ := h1
 show wpAny _ A (load D >>= _) _ _ s3
 refine wpAny_bind (wpAny_load e3 (wpAny_pure ?_))
 rw [show vs.toArray.toList = vs by simp]
 exact hq vs s3 h2 k3
theorem sort_ints {vs : List Value} {ns : List Int} {Q : Value → Shared → Prop} (G : Good w B s) (hB : B.get? l = none) (ho : s.heap.get? l = some (seqObj "list" vs.toArray 0)) (hI : IntsAre vs ns) (h64 : vs.length < 64)
  (hq : ∀ s' vs' ns', PL s'.heap l vs' → IntsAre vs' ns' → ns'.Perm ns → ns'.Pairwise (· ≤ ·) → Kp [l] s s' → Q .none s') : wpAny (model P0 w) A (call (.builtin "list.sort") [.ref l]) Q E s := by
 refine wpAny_call_entry slot_list_sort ⟨_, ho, rfl⟩ entry_list_sort (list_sort_tree ho hI h64 fun out ns' a1 a2 a3 => ⟨_, rfl, ?_⟩) (args_list_sort _)
 have n2 := jaP G hB
 have e1 := get?_update_seq ho (fun Y => #[])
 have k1 := jaz (s := s) (h' := s.heap.update l (Obj.mapSeq fun Y => #[])) (Heap.SameBut.update ..) n2 ⟨_, e1⟩ (Nat.le_refl _)
 have G1 := G.kp k1 (al1 hB)
 have k2 := jar G1 (o := seqObj "tuple" vs.toArray 0)
 have G2 := G1.kp k2 al0
 have k3 := jar G2 (o := seqObj "list" #[] 0)
 have e3 := Heap.get?_push_of_some (seqObj "list" #[] 0) (Heap.get?_push_of_some (seqObj "tuple" vs.toArray 0) e1)
 have e4 := get?_update_seq e3 (fun Y => out)
 have k4 := jaz (s := { s with heap := ((s.heap.update l (Obj.mapSeq fun Y => #[])).push (seqObj "tuple" vs.toArray 0)).push (seqObj "list" #[] 0) }) (h' := sortedHeap s.heap l vs out) (Heap.SameBut.update ..) n2 ⟨_, e4⟩ (Nat.le_refl _)
 have hpl : PL (sortedHeap s.heap l vs out) l out.toList := by
  have : out.toList.toArray = out := by simp
  unfold PL IsL
  rw [this]
  exact ⟨_, e4⟩
 exact hq _ out.toList ns' hpl a1 a2 a3 ((((k1.trans k2).trans k3).trans k4).mono ap2)
theorem ints_paired {h : Heap} : ∀ {vs : List Value} {ns : List Int}, IntsAre vs ns → Paired (intR h) vs ns := fun p => by
 induction p with
 | nil => exact .nil
 | cons n t r ih => exact .cons ⟨t, rfl⟩ ih
theorem sorted_set (hh : A.handled = none) (G : Good w B s) (S : IsS w s.heap a L ep t) (hn : L.length ≤ 3) :
  Wp w A (call (.builtin "sorted") [.ref a]) (fun v s' => ∃ D vs ns, v = .ref D ∧ s.heap.get? D = none ∧ PL s'.heap D vs ∧ Paired (intR s'.heap) vs ns ∧ ns.Perm (L.map (·.1)) ∧ ns.Pairwise (· ≤ ·) ∧ Kp [] s s') s := by
 refine Calls.call_function_entry kind_sorted plain_sorted entry_sorted (args_sorted1 _) ?_
 unfold Builtin.«sorted»
 refine wpAny_bind (m := checkCount "sorted" 1 1 _) (wpAny_pure ?_)
 have hT : ∀ s1, Kp [] s s1 → s1.TypeIs (.ref a) "set" := fun s1 k => ⟨_, (S.kp k ni0).at_, rfl⟩
 refine wpAny_bind (collect_of (B := B) (fp := [a]) (n := L.length) (P := fun i v => (sOrd w a ep L)[i]? = some v) (tv := .type "set") hh G (fun s1 k => (Looks.ld (part := some headPart) (S.kp k ni0).at_).andThen .now) (by decide) (by decide) ⟨_, S.at_⟩ (by simpa using ⟨_, S.at_⟩) (lq8 ‹_› (by rfl))
  (fun A' s1 k1 G1 Y Y => iter_set G1 (S.kp k1 ni0) hn) (fun A' s1 k1 G1 => s_hint (hT s1 k1) ((Kp.refl _).mono al0)) fun vs s1 hv k1 => ?_)
 have hvs := itsP_eq hv (jch w a ep L).symm
 have hall : ∀ v ∈ vs, ∃ n t, v = .int n t := fun v hm => by
  rw [hvs] at hm
  have := (sOrd_perm w a ep L).mem_iff.mp hm
  obtain ⟨x, _, rfl⟩ := List.mem_map.mp this
  exact ⟨_, _, rfl⟩
 have hI := intsAre_map vs hall
 have hperm : (vs.map numOf).Perm (L.map (·.1)) := by
  rw [hvs]
  have := (sOrd_perm w a ep L).map numOf
  rw [List.map_map] at this
  exact this
 have hlen : vs.length = L.length := by rw [hvs, jch]
 have G1 := G.kp k1 al0
 refine wpAny_bind (wpAny_newList ?_)
 have fD : s1.heap.get? s1.heap.objs.size = none := jag
 have kD : Kp [] s1 { s1 with heap := s1.heap.push { cls := .type "list", data := .seq vs.toArray } } := jar G1
 have hS' : ({ s1 with heap := s1.heap.push { cls := .type "list", data := .seq vs.toArray } } : Shared).heap.get? s1.heap.objs.size = some (seqObj "list" vs.toArray 0) := Heap.get?_push_size _ rfl
 refine wpAny_bind (wpAny_holding (sort_ints (G1.kp kD al0) (G1.new fD) hS' hI (lsc ‹_› ‹_› (by rfl)) fun s2 vs' ns' h1 h2 h3 h4 k2 => ?_))
 exact wpAny_pure ⟨_, rfl, _, vs', ns', rfl, k1.back fD, h1, ints_paired h2, h3.trans hperm, h4, (k1.comp0 G kD al0).comp0 G k2 (by simpa using k1.back fD)⟩
end
noncomputable abbrev Dt (w : World) (h : Heap) (d : Addr) (kvs : List (Int × Value)) (ep : Nat) : Prop := h.DictAt (intKind P0 w) d kvs ep
section
variable {w : World} {B : Heap} {A : Around} {s : Shared} {a d b e c k m x y I l f D dx r : Addr} {env cenv : Env} {sc : Scope} {E : Value → Shared → Prop} {kvs : List (Int × Value)} {ep : Nat} {fp : List Addr} {n : Nat} {P : Nat → Value → Prop} {St : Nat → Shared → Prop} {R : Result → Shared → Prop}
theorem dt_kp {s' : Shared} {S : List Addr} (h : Dt w s.heap d kvs ep) (k : Kp S s s') (n : d ∉ S) : Dt w s'.heap d kvs ep := by
 obtain ⟨o, es, ho, hx, r⟩ := h
 exact ⟨o, es, k.keep _ _ ho (jau (by rw [hx.1]; simp)) n, hx, r⟩
theorem ki_kp {i n : Nat} {s' : Shared} {S : List Addr} (h : s.heap.IsKeyIter I d i n ep) (k : Kp S s s') (nn : I ∉ S) : s'.heap.IsKeyIter I d i n ep := by
 obtain ⟨o, ho, hc, r⟩ := h
 exact ⟨o, k.keep _ _ ho (jau (by rw [hc]; simp)) nn, hc, r⟩
theorem dt_done {Q : Option Value → Shared → Prop} (hh : A.handled = none) (G : Good w B s) (hB : B.get? I = none) (hit : s.heap.IsKeyIter I d kvs.length kvs.length ep) (D : Dt w s.heap d kvs ep)
  (hq : ∀ s', Kp [I] s s' → s'.gens = s.gens → Q none s') : wpAny (model P0 w) A (pyNext (.ref I)) Q E s := by
 obtain ⟨oi, hoi, hci, hdi⟩ := id hit
 obtain ⟨o, es, ho, hx, hd, hk, hp, hn⟩ := id D
 have hT := hit.typeIs
 have n2 := jaP G hB
 have hsz : es.size = kvs.length := by rw [← hp.length]; simp
 unfold pyNext
 refine wpAny_bind (wpAny_attempt (wpAny_callSpecial?_slot (name := Str.ofString "__next__") hT PySem.F.slot_dict_keyiterator_next
  (wpAny_call_entry PySem.F.slot_dict_keyiterator_next hT PySem.F.entry_dict_keyiterator_next ?_ (PySem.F.args_dict_keyiterator_next_1 _))))
 refine wpAny_bind (wpAny_pure ?_)
 refine wpAny_bind (wpAny_bind (wpAny_bind (wpAny_typeNameOfWhole_keyiter hT (wpAny_pure ?_))))
 refine wpAny_bind (wpAny_fieldsOf hoi hdi ?_)
 have hown : Builtin.Dict_items.ownsTuple "dict_keyiterator" = false := by decide
 simp only [hown, Bool.false_eq_true, if_false]
 have hn : (Value.ref d == Value.none) = false := rfl
 show wpAny _ _ (if (Value.ref d == Value.none) = true then _ else _) _ _ _
 rw [hn, if_neg Bool.false_ne_true]
 refine wpAny_bind (wpAny_pure ?_)
 refine wpAny_bind (wpAny_dictEntries ho hd ?_)
 rw [if_neg (by rw [hsz]; simp)]
 refine wpAny_bind (wpAny_pure ?_)
 refine wpAny_bind (wpAny_dictEpoch ho hd ?_)
 rw [if_neg bn0]
 refine wpAny_pure ?_
 have hi : ¬ ((kvs.length : Int) < 0) := by exact lqi
 have he : es[(kvs.length : Int).toNat]? = none := by simp [hsz]
 show wpAny _ _ (match (if (kvs.length : Int) < 0 then none else es[(kvs.length : Int).toNat]?) with | some e => _ | none => _) _ _ _
 rw [if_neg hi, he]
 refine wpAny_bind (wpAny_bind (wpAny_typeNameOfWhole_keyiter hT (wpAny_pure ?_)))
 simp only [hown, Bool.false_eq_true, if_false]
 show wpAny _ _ (setField (.ref I) 0 .none >>= _) _ _ _
 refine wpAny_bind (wpAny_setField hoi hdi (Nat.succ_pos _) ?_)
 refine jaT (s := { s with heap := s.heap.update I (Obj.mapFields (·.setIfInBounds 0 .none)) }) hh fun s' k1 k2 k3 k4 => ?_
 have e1 := Heap.get?_update_self (Obj.mapFields (·.setIfInBounds 0 Value.none)) hoi (Obj.isFreed_of_fields (Obj.data_mapFields hdi _))
 refine hq s' ((jaz (s := s) (Heap.SameBut.update ..) n2 ⟨_, e1⟩ (Nat.le_refl _)).trans (jat k1 ?_ k3 k4 k2) |>.mono sm0) k2
 obtain ⟨o, e⟩ := G.two
 exact ⟨o, ((Heap.SameBut.update s.heap I (Obj.mapFields (·.setIfInBounds 0 Value.none))).2 2 (Ne.symm n2)).trans e⟩
theorem KW.dict (hne : d ≠ I) (hBI : B.get? I = none) : KW w B I [d] kvs.length (fun i v => ∃ z u t, kvs[i]? = some (z, u) ∧ v = .int z t) (fun i s => s.heap.IsKeyIter I d i kvs.length ep ∧ Dt w s.heap d kvs ep) where
 frame := fun i s s' S st k n => ⟨ki_kp st.1 k (n _ (List.mem_cons_self ..)), dt_kp st.2 k (n _ (List.Mem.tail _ (List.Mem.head _)))⟩
 item := fun A i s Q E hh G hi st hq => by
  have hx : kvs[i]? = some (kvs[i].1, kvs[i].2) := List.getElem?_eq_getElem hi
  refine wpAny_pyNext_dict_item st.1 st.2 hx fun key h' hk hit' hs' => ?_
  obtain ⟨t, rfl⟩ := Value.isInt_shape hk
  obtain ⟨o, ho, hc, _⟩ := hit'
  have k := jaz (s := s) hs' (jaP G hBI) ⟨o, ho⟩ (Nat.le_refl s.toks)
  exact hq _ _ ⟨_, _, t, hx, rfl⟩ ⟨⟨o, ho, hc, by assumption⟩, dt_kp st.2 k (ni1 hne)⟩ k rfl
 done := fun A s Q E hh G st hq => dt_done hh G hBI st.1 st.2 hq
 self := fun A i s Q E st hq => by
  refine wpAny_pyIter_slot st.1.typeIs PySem.F.slot_dict_keyiterator_iter (wpAny_call_entry PySem.F.slot_dict_keyiterator_iter st.1.typeIs PySem.F.entry_dict_keyiterator_iter ?_ (PySem.F.args_dict_keyiterator_iter_1 _))
  show wpAny _ _ (ret (.ref I)) _ _ s
  exact wpAny_pure ⟨_, rfl, "dict_keyiterator", _, st.1.typeIs, PySem.F.slot_dict_keyiterator_next.lookup, hq⟩
 cl := fun i s st => let ⟨o, ho, hc, _⟩ := st.1; ⟨o, ho, by unfold jba; rw [hc]; simp⟩
theorem iter_dict (G : Good w B s) (D : Dt w s.heap d kvs ep) (hds : (d == sysModules) = false) : Wp w A (pyIter (.ref d)) (fun v s' => Iter w B s [d] kvs.length (fun i v => ∃ z u t, kvs[i]? = some (z, u) ∧ v = .int z t) v s') s := by
 obtain ⟨o, es, ho, r⟩ := id D
 have fI : s.heap.get? s.heap.objs.size = none := jag
 have hne : d ≠ s.heap.objs.size := fun q => by rw [q, fI] at ho; cases ho
 refine wpAny_pyIter_dict hds D ⟨⟨_, _, rfl, KW.dict hne (G.new fI), ⟨⟨_, Heap.get?_push_size _ rfl, rfl, rfl⟩, D.push _⟩, fI, ⟨_, Heap.get?_push_size _ rfl⟩⟩, by simpa using ⟨o, ho⟩, jar G, rfl⟩
theorem dt_set {z : Int} {t : Nat} {v : Value} {Q : Unit → Shared → Prop} (G : Good w B s) (hB : B.get? d = none) (D : Dt w s.heap d kvs ep) (hz : kvs.length ≤ 100) (hn : z ∉ kvs.map (·.1))
  (h : ∀ s' ep', Dt w s'.heap d (kvs ++ [(z, v)]) ep' → Kp [d] s s' → Good w B s' → Q () s') : wpAny (model P0 w) A (setItem (.ref d) (.int z t) v) Q E s := by
 refine wpAny_setItem_pairs (knd := intKind P0 w) (k := z) (intKind_is _ _ _ _) D.dictOf (fun h' hm hs => ?_) (Nat.le_trans hz (show 100 ≤ sizeLine by decide))
 have hst : stored kvs z v = kvs ++ [(z, v)] := by
  unfold stored
  rw [if_neg]
  simp only [List.any_eq_true, decide_eq_true_eq, not_exists, not_and]
  intro x hx q
  exact hn (List.mem_map.mpr ⟨x, hx, q⟩)
 rw [hst] at hm
 obtain ⟨ep', hm⟩ := hm.dictAt
 have k := jaz (s := s) (h' := h') hs (jaP G hB) (by obtain ⟨o, _, ho, _⟩ := hm; exact ⟨o, ho⟩) (tk := s.toks + 1) (Nat.le_succ _)
 exact h _ ep' hm k (G.kp k (al1 hB))
theorem dt_get {z : Int} {t : Nat} {v : Value} {Q : Value → Shared → Prop} (D : Dt w s.heap d kvs ep) (hv : (z, v) ∈ kvs) (h : ∀ s', Kp [] s s' → Q v s') : wpAny (model P0 w) A (getItem (.ref d) (.int z t)) Q E s := by
 refine wpAny_getItem_of (knd := intKind P0 w) (k := z) (intKind_is _ _ _ _) D.dictOf.mapOf (v := v) ?_ (h _ (jak (Nat.le_succ _)))
 have hn := D.nodup
 unfold valueAt
 clear D h
 induction kvs with
 | nil => simp at hv
 | cons p q ih =>
  rw [List.map_cons, List.nodup_cons] at hn
  rw [List.find?_cons]
  rcases List.mem_cons.mp hv with rfl | hv
  ·simp
  ·have : p.1 ≠ z := fun e => hn.1 (List.mem_map.mpr ⟨_, hv, e.symm⟩)
   simp only [this, decide_false]
   exact ih hv hn.2
end
noncomputable def e4 (elt i0 i1 i2 i3 : Expr) (p0 p1 p2 p3 : Pos) (scope : Scope) (pos : Pos) : Expr := .ListComp elt [⟨.Name "a" p0, i0, [], 0⟩, ⟨.Name "b" p1, i1, [], 0⟩, ⟨.Name "c" p2, i2, [], 0⟩, ⟨.Name "d" p3, i3, [], 0⟩] scope pos
noncomputable def turnM (e : Expr) (k : Nat) (x : Str) (px : Pos) (i i' : Expr) (it acc : Value) (env : Env) : Sem Fin := (standAt i.pos >>= fun Y => pyNext it >>= fun r => match r with
 | none => pure (.done .next)
 | some v => letOwnedTupleGo (.Name x px) it v >>= fun Y => assign (.Name x px) env v >>= fun Y =>
  eval i' env >>= fun y => standAt i'.pos >>= fun Y => foldedSetIterable i' env y >>= fun y => holding [y] (pyIter y) >>= fun j => runOwn (.compStart e (k + 1) j acc env) env >>= fun Y => again (.compLoop e k it acc env))
noncomputable def turnL (e : Expr) (k : Nat) (x : Str) (px : Pos) (i elt : Expr) (it acc : Value) (env : Env) : Sem Fin := (standAt i.pos >>= fun Y => pyNext it >>= fun r => match r with
 | none => pure (.done .next)
 | some v => letOwnedTupleGo (.Name x px) it v >>= fun Y => assign (.Name x px) env v >>= fun Y =>
  (eval elt env >>= fun y => call (.builtin "list.append") [acc, y] >>= fun Y => pure ()) >>= fun Y => again (.compLoop e k it acc env))
section
variable {elt i0 i1 i2 i3 : Expr} {p0 p1 p2 p3 : Pos} {scope : Scope} {pos : Pos}
theorem tn0 (it acc : Value) (env : Env) : compTurn (e4 elt i0 i1 i2 i3 p0 p1 p2 p3 scope pos) 0 it acc env = turnM (e4 elt i0 i1 i2 i3 p0 p1 p2 p3 scope pos) 0 "a" p0 i0 i1 it acc env := by rfl
theorem tn1 (it acc : Value) (env : Env) : compTurn (e4 elt i0 i1 i2 i3 p0 p1 p2 p3 scope pos) 1 it acc env = turnM (e4 elt i0 i1 i2 i3 p0 p1 p2 p3 scope pos) 1 "b" p1 i1 i2 it acc env := by rfl
theorem tn2 (it acc : Value) (env : Env) : compTurn (e4 elt i0 i1 i2 i3 p0 p1 p2 p3 scope pos) 2 it acc env = turnM (e4 elt i0 i1 i2 i3 p0 p1 p2 p3 scope pos) 2 "c" p2 i2 i3 it acc env := by rfl
theorem tn3 (it acc : Value) (env : Env) : compTurn (e4 elt i0 i1 i2 i3 p0 p1 p2 p3 scope pos) 3 it acc env = turnL (e4 elt i0 i1 i2 i3 p0 p1 p2 p3 scope pos) 3 "d" p3 i3 elt it acc env := by rfl
structure IsComp (e : Expr) (k : Nat) (g : Expr) : Prop where
 q : ∀ it acc env, (Code.compLoop e k it acc env).quiet = true
 q' : ∀ it acc env, (Code.compStart e k it acc env).quiet = true
 st : ∀ it acc env, compStart e k it acc env = (do if (← ask).params.followText "comprehension-iter-twice" then return ← again (.compLoop e k it acc env)
                                                   rule "comprehension.iter-twice"
                                                   standAt g.pos
                                                   again (.compLoop e k (← pyIter it) acc env))
 fr : ∀ it acc env, (Code.compLoop e k it acc env).isFrame = false
 fr' : ∀ it acc env, (Code.compStart e k it acc env).isFrame = false
 un : ∀ (A : Around) it acc env, A.under (.compLoop e k it acc env) = A
 un' : ∀ (A : Around) it acc env, A.under (.compStart e k it acc env) = A
theorem isComp0 : IsComp (e4 elt i0 i1 i2 i3 p0 p1 p2 p3 scope pos) 0 i0 := ⟨fun Y Y Y => rfl, fun Y Y Y => rfl, fun Y Y Y => rfl, fun Y Y Y => rfl, fun Y Y Y => rfl, fun Y Y Y Y => rfl, fun Y Y Y Y => rfl⟩
theorem isComp1 : IsComp (e4 elt i0 i1 i2 i3 p0 p1 p2 p3 scope pos) 1 i1 := ⟨fun Y Y Y => rfl, fun Y Y Y => rfl, fun Y Y Y => rfl, fun Y Y Y => rfl, fun Y Y Y => rfl, fun Y Y Y Y => rfl, fun Y Y Y Y => rfl⟩
theorem isComp2 : IsComp (e4 elt i0 i1 i2 i3 p0 p1 p2 p3 scope pos) 2 i2 := ⟨fun Y Y Y => rfl, fun Y Y Y => rfl, fun Y Y Y => rfl, fun Y Y Y => rfl, fun Y Y Y => rfl, fun Y Y Y Y => rfl, fun Y Y Y Y => rfl⟩
theorem isComp3 : IsComp (e4 elt i0 i1 i2 i3 p0 p1 p2 p3 scope pos) 3 i3 := ⟨fun Y Y Y => rfl, fun Y Y Y => rfl, fun Y Y Y => rfl, fun Y Y Y => rfl, fun Y Y Y => rfl, fun Y Y Y Y => rfl, fun Y Y Y Y => rfl⟩
end
section
variable {w : World} {A : Around} {s : Shared} {env : Env} {e : Expr} {k : Nat} {g i i' elt : Expr} {x : Str} {px : Pos} {it acc : Value} {R : Result → Shared → Prop}
theorem start_of (C : IsComp e k g) (h0 : codeAny (model P0 w) A (.compLoop e k it acc env) R s) (h : Wp w A (pyIter it) (fun it' s' => codeAny (model P0 w) A (.compLoop e k it' acc env) R s') s) : codeAny (model P0 w) A (.compStart e k it acc env) R s := by
 refine codeAny_of_tree ?_
 have hd : (model P0 w).den (.compStart e k it acc env) = (compStart e k it acc env).onRaise (fun x => do noteFrame x env; standAt theWindowsPlace) := by
  have := C.fr' it acc env
  show (if (Code.compStart e k it acc env).isFrame then _ else _) = _
  rw [this]; rfl
 have hu : A.under (.compStart e k it acc env) = A := C.un' A it acc env
 rw [hd]
 refine wpAny_notedAt ?_
 rw [C.st]
 refine wpAny_bind (wpAny_askSetting (wpAny_ite ?_))
 split
 ·first
   | exact wpAny_bind (wpAny_pure (wpAny_pure (And.intro (C.q _ _ _) h0)))
   | exact wpAny_pure (And.intro (C.q _ _ _) h0)
 ·refine wpAny_bind (wpAny_rule (wpAny_bind (wpAny_standAt (wpAny_bind ?_))))
  rw [hu]
  exact h.use fun it' s' h' => wpAny_pure (And.intro (C.q _ _ _) h')
end
section
variable {w : World} {A : Around} {s : Shared} {env : Env} {e : Expr} {k : Nat} {g i i' elt : Expr} {x : Str} {px : Pos} {it acc : Value} {R : Result → Shared → Prop}
theorem mid_loop (C : IsComp e k i) (T : compTurn e k it acc env = turnM e k x px i i' it acc env) (hs : ∀ v, foldedSetIterable i' env v = pure v) (I : Nat → Shared → Prop)
  (turn : ∀ n s, I n s → Wp w A (pyNext it) (fun r s₁ => match r with
   | none => R (.ok .next) s₁
   | some v => Wp w A (assign (.Name x px) env v) (fun Y s₂ => Wp w A (eval i' env) (fun y s₃ => Wp w A (pyIter y) (fun j s₄ => codeAny (model P0 w) A (.compStart e (k + 1) j acc env) (fun r s' => r = .ok .next ∧ ∃ m, m < n ∧ I m s') s₄) s₃) s₂) s₁) s)
  (n : Nat) (h : I n s) (hl : ∀ v, letOwnedTupleGo (.Name x px) it v = pure () := by intro _; rfl) : codeAny (model P0 w) A (.compLoop e k it acc env) R s := by
 refine codeAny_loop (C.q _ _ _) I (fun n s hI => ?_) n h
 have hu : A.under (.compLoop e k it acc env) = A := C.un A it acc env
 have hd : (model P0 w).den (.compLoop e k it acc env) = (compTurn e k it acc env).onRaise (fun x => do noteFrame x env; theTreesLotGoes x) := by
  have := C.fr it acc env
  show (if (Code.compLoop e k it acc env).isFrame then _ else _) = _
  rw [this]; rfl
 rw [hd, hu]
 refine wpAny_noted ?_
 rw [T]
 refine wpAny_bind (wpAny_standAt (wpAny_bind ((turn n s hI).use fun r s₁ h₁ => ?_)))
 cases r with
 | none => exact wpAny_pure h₁
 | some v =>
  refine wpAny_bind (wpAny_of_eq (hl v) ?_)
  refine wpAny_bind (Wp.use h₁ fun Y s₂ h₂ => ?_)
  refine wpAny_bind (Wp.use h₂ fun y s₃ h₃ => ?_)
  refine wpAny_bind (wpAny_standAt (wpAny_bind (wpAny_of_eq (hs y) (wpAny_bind (wpAny_holding (Wp.use h₃ fun j s₄ h₄ => ?_))))))
  refine wpAny_bind (wpAny_runOwn (coE h₄ fun s' hm => ?_))
  exact wpAny_pure ⟨rfl, hm⟩
theorem last_loop (C : IsComp e k i) (T : compTurn e k it acc env = turnL e k x px i elt it acc env) (I : Nat → Shared → Prop)
  (turn : ∀ n s, I n s → Wp w A (pyNext it) (fun r s₁ => match r with
   | none => R (.ok .next) s₁
   | some v => Wp w A (assign (.Name x px) env v) (fun Y s₂ => Wp w A (eval elt env) (fun y s₃ => Wp w A (call (.builtin "list.append") [acc, y]) (fun Y s' => ∃ m, m < n ∧ I m s') s₃) s₂) s₁) s)
  (n : Nat) (h : I n s) (hl : ∀ v, letOwnedTupleGo (.Name x px) it v = pure () := by intro _; rfl) : codeAny (model P0 w) A (.compLoop e k it acc env) R s := by
 refine codeAny_loop (C.q _ _ _) I (fun n s hI => ?_) n h
 have hu : A.under (.compLoop e k it acc env) = A := C.un A it acc env
 have hd : (model P0 w).den (.compLoop e k it acc env) = (compTurn e k it acc env).onRaise (fun x => do noteFrame x env; theTreesLotGoes x) := by
  have := C.fr it acc env
  show (if (Code.compLoop e k it acc env).isFrame then _ else _) = _
  rw [this]; rfl
 rw [hd, hu]
 refine wpAny_noted ?_
 rw [T]
 refine wpAny_bind (wpAny_standAt (wpAny_bind ((turn n s hI).use fun r s₁ h₁ => ?_)))
 cases r with
 | none => exact wpAny_pure h₁
 | some v =>
  refine wpAny_bind (wpAny_of_eq (hl v) ?_)
  refine wpAny_bind (Wp.use h₁ fun Y s₂ h₂ => ?_)
  refine wpAny_bind (wpAny_bind (Wp.use h₂ fun y s₃ h₃ => wpAny_bind (Wp.use h₃ fun Y s₄ h₄ => wpAny_pure (wpAny_pure ⟨rfl, h₄⟩))))
end
noncomputable def prod : List (List Int) → List Int → List (List Int)
 | [], p => [p]
 | z :: zs, p => z.flatMap fun v => prod zs (p ++ [v])
section
variable {w : World} {B : Heap} {A : Around} {s : Shared} {a d b e c k m x y I l f D dx r cl : Addr} {env cenv : Env} {sc : Scope} {E : Value → Shared → Prop} {W U V : List Addr} {cvs : List Value} {cs ys : List (List Int)} {s1 : Shared} {nm : List Str}
structure CI (w : World) (B : Heap) (cenv : Env) (W U : List Addr) (D cl : Addr) (cvs : List Value) (cs : List (List Int)) (s1 s : Shared) (ys : List (List Int)) : Prop where
 g : Good w B s
 f : Frm cenv s
 kp : Kp W s1 s
 bc : Bnd cenv "counts" (.ref cl) s
 cp : PL s.heap cl cvs
 cr : Paired (liW U intR s.heap) cvs cs
 dd : ∃ vs, PL s.heap D vs ∧ Paired (liW U intR s.heap) vs ys
 al : ∀ a ∈ U, ∃ o, s.heap.get? a = some o
 alo : ∀ a ∈ Own cenv, ∃ o, s.heap.get? a = some o
structure CE (B : Heap) (cenv : Env) (sc : Scope) (W U : List Addr) (D cl : Addr) (s1 : Shared) : Prop where
 sta : Sta cenv sc
 loc : ∀ x ∈ ([("a" : Str), "b", "c", "d"] : List Str), cenv.cells.lookup x = none ∧ cenv.kindOf x = some .local
 lw : cenv.locals ∈ W
 dw : D ∈ W
 own : ∀ a ∈ Own cenv, a ≠ D
 wo : ∀ a ∈ W, a ≠ cl
 wu : ∀ a ∈ W, a ∈ U
 bw : ∀ a ∈ W, B.get? a = none
 bo : ∀ a ∈ Own cenv, B.get? a = none
 bx : ∀ a o, B.get? a = some o → ∃ o, s1.heap.get? a = some o
 tw : ∃ o, s1.heap.get? 2 = some o
theorem CE.at {s2 : Shared} (H : CE B cenv sc W U D cl s1) (k : Kp W s1 s2) : CE B cenv sc W U D cl s2 := { H with tw := let ⟨_, e⟩ := H.tw; k.there _ _ e, bx := fun a o e => let ⟨_, e⟩ := H.bx a o e; k.there _ _ e }
theorem CI.base (X : CI w B cenv W U D cl cvs cs s1 s ys) : CI w B cenv W U D cl cvs cs s s ys := { X with kp := (Kp.refl s).mono al0 }
theorem CI.join {s2 : Shared} (k : Kp W s1 s2) (X : CI w B cenv W U D cl cvs cs s2 s ys) : CI w B cenv W U D cl cvs cs s1 s ys := { X with kp := (k.trans X.kp).mono ap2 }
theorem CI.to {s' : Shared} {S : List Addr} (H : CE B cenv sc W U D cl s1) (X : CI w B cenv W U D cl cvs cs s1 s ys) (k : Kp S s s') (hS : ∀ a ∈ S, a ∈ W ∨ s1.heap.get? a = none) (hN : NoL W s S) (hD : D ∉ S) (hc : cl ∉ S) (g : Good w B s') (f : Frm cenv s') (hb : Bnd cenv "counts" (.ref cl) s') : CI w B cenv W U D cl cvs cs s1 s' ys where
 g := g
 f := f
 kp := X.kp.compW k hS H.tw
 bc := hb
 cp := jaj X.cp k hc
 cr := jab (fun v x h => jbd jaZ s s' S v x h k (hN.mono H.wu)) X.cr
 dd := let ⟨vs, h1, h2⟩ := X.dd; ⟨vs, jaj h1 k hD, jab (fun v x h => jbd jaZ s s' S v x h k (hN.mono H.wu)) h2⟩
 al := fun a ha => let ⟨_, e⟩ := X.al a ha; k.there _ _ e
 alo := fun a ha => let ⟨_, e⟩ := X.alo a ha; k.there _ _ e
theorem CI.ex {s' : Shared} (H : CE B cenv sc W U D cl s1) (X : CI w B cenv W U D cl cvs cs s1 s ys) (k : Kp [] s s') : CI w B cenv W U D cl cvs cs s1 s' ys :=
 X.to H k al0 jaq ni0 ni0 (X.g.kp k al0) (ja0 X.f k nn0) (jae X.bc k)
theorem CI.it {s' : Shared} (H : CE B cenv sc W U D cl s1) (X : CI w B cenv W U D cl cvs cs s1 s ys) (fI : s1.heap.get? I = none) (nU : ∀ a ∈ U, a ≠ I) (nO : ∀ a ∈ Own cenv, a ≠ I) (hI : ∃ o, s.heap.get? I = some o ∧ jba o) (k : Kp [I] s s') : CI w B cenv W U D cl cvs cs s1 s' ys := by
 have ne : ∀ a, (∃ o, s1.heap.get? a = some o) → a ≠ I := fun a ⟨o, e⟩ q => by rw [q, fI] at e; cases e
 have bI : B.get? I = none := by
  cases e : B.get? I with
  | none => rfl
  | some o => exact absurd rfl (ne _ (H.bx _ _ e))
 have nc : cl ≠ I := fun q => by
  obtain ⟨o, ho, hc⟩ := hI
  obtain ⟨ep, e⟩ := X.cp
  rw [q, IsL, ho] at e
  cases e
  exact hc.1 rfl
 exact X.to H k (by simpa using .inr fI) (it_noL hI) (by simpa using nU _ (H.wu _ H.dw)) (ni1 nc) (X.g.kp k (al1 bI)) (ja0 X.f k (fun a ha => by simpa using nO _ ha))
  (jaA X.bc k fun a ha => by simpa using nO _ ha)
noncomputable def PB (cenv : Env) (nm : List Str) (pref : List Int) (s : Shared) : Prop := ∀ (i : Nat) (z : Int), pref[i]? = some z → ∃ x t, nm[i]? = some x ∧ Bnd cenv x (.int z t) s
end
noncomputable def nm4 : List Str := ["a", "b", "c", "d"]
section
variable {w : World} {B : Heap} {A : Around} {s : Shared} {a d b e c k m x y I l f D dx r cl : Addr} {env cenv : Env} {sc : Scope} {E : Value → Shared → Prop} {W U V : List Addr} {cvs : List Value} {cs ys : List (List Int)} {s1 : Shared} {nm : List Str}
noncomputable def Lev (w : World) (B : Heap) (A : Around) (cenv : Env) (sc : Scope) (W U : List Addr) (D cl : Addr) (cvs : List Value) (cs : List (List Int)) (ex : Expr) (k : Nat) : Prop :=
 ∀ (s0 s : Shared) (I : Addr) (St : Nat → Shared → Prop) (l : Addr) (vs : List Value) (zs pref : List Int) (ys : List (List Int)), cs[k]? = some zs → KW w B I [l] vs.toArray.size (fun i v => vs.toArray[i]? = some v) St → St 0 s → s0.heap.get? I = none → (∀ a ∈ U, a ≠ I) → (∀ a ∈ Own cenv, a ≠ I) → (∀ h, Paired (intR h) vs zs) → l ∉ W → CE B cenv sc W U D cl s0 → CI w B cenv W U D cl cvs cs s0 s ys → PB cenv nm4 pref s → pref.length = k →
  (ys ++ prod (cs.drop k) pref).length ≤ 1000 →
  codeAny (model P0 w) A (.compStart ex k (.ref I) (.ref D) cenv) (fun r s' => r = .ok .next ∧ CI w B cenv W U D cl cvs cs s0 s' (ys ++ prod (cs.drop k) pref) ∧ PB cenv nm4 pref s') s
theorem int_any {vs : List Value} {zs : List Int} {h : Heap} (p : Paired (intR h) vs zs) (h' : Heap) : Paired (intR h') vs zs := p
theorem pb_kp {pref : List Int} {s s' : Shared} (h : PB cenv nm pref s) (hb : ∀ i x u, i < pref.length → nm[i]? = some x → Bnd cenv x u s → Bnd cenv x u s') : PB cenv nm pref s' := fun i z hz => by
 refine aG ?_; intro gO; obtain ⟨x, t, hx, hbd⟩ := h i z hz; unfold gO; clear gO
 exact ⟨x, t, hx, hb i x _ (List.getElem?_eq_some_iff.mp hz).1 hx hbd⟩
theorem pb_snoc {pref : List Int} {z : Int} {x : Str} {t : Nat} {s : Shared} (h : PB cenv nm pref s) (hx : nm[pref.length]? = some x) (hb : Bnd cenv x (.int z t) s) : PB cenv nm (pref ++ [z]) s := fun i y hy => by
 by_cases hi : i < pref.length
 ·rw [List.getElem?_append_left hi] at hy; exact h i y hy
 ·first | (refine lW ?_; intro Ro) | (refine lA ?_; intro Ro) | (refine lC ?_; intro Ro) | skip
  rw [List.getElem?_append_right (Nat.not_lt.mp ‹_›)] at hy
  have h0 : i - pref.length = 0 := by
   cases e : i - pref.length with
   | zero => rfl
   | succ k => rw [e] at hy; simp at hy
  rw [h0] at hy
  have : y = z := by simpa using hy.symm
  subst this
  have : i = pref.length := by exact lrl ‹_› ‹_›
  subst this
  exact ⟨x, t, hx, hb⟩
theorem pb_init {pref : List Int} {z : Int} {s : Shared} (h : PB cenv nm (pref ++ [z]) s) : PB cenv nm pref s := fun i y hy => by
 refine h i y ?_
 rw [List.getElem?_append_left (List.getElem?_eq_some_iff.mp hy).1]; exact hy
theorem nm4_ne {i j : Nat} {x y : Str} (hx : nm4[i]? = some x) (hy : nm4[j]? = some y) (h : i ≠ j) : x ≠ y := by
 have hn : nm4.Nodup := by decide +kernel
 rintro rfl
 exact h ((List.getElem?_inj (List.getElem?_eq_some_iff.mp hx).1 hn).mp (hx.trans hy.symm))
theorem nm4_mem {k : Nat} {x : Str} (hx : nm4[k]? = some x) : x ∈ ([("a" : Str), "b", "c", "d"] : List Str) := List.mem_of_getElem? hx
theorem lev_step {k : Nat} {x : Str} (H : CE B cenv sc W U D cl s1) (X : CI w B cenv W U D cl cvs cs s1 s ys) (hx : nm4[k]? = some x) {v : Value} {z : Int} {t : Nat} {pref : List Int} (hv : v = .int z t) (hk : pref.length = k) (pb : PB cenv nm4 pref s) {Q : Unit → Shared → Prop}
  (h : ∀ s', CI w B cenv W U D cl cvs cs s1 s' ys → PB cenv nm4 (pref ++ [z]) s' → Kp [jai cenv x] s s' → jai cenv x ∈ W → Q () s') {px : Pos} {E' : Value → Shared → Prop} : wpAny (model P0 w) A (assign (.Name x px) cenv v) Q E' s := by
 have hl := H.loc x (nm4_mem hx)
 have hs : jai cenv x = cenv.locals := by unfold jai; rw [hl.1]; rfl
 refine jbv (jaY X.g H.sta X.f H.bo (fun s3 b3 F3 hk3 k3 g3 G3 => ?_) (.inl hl))
 have hcx : ("counts" : Str) ≠ x := by
  intro q
  have := nm4_mem hx
  rw [← q] at this
  exact absurd this (by decide +kernel)
 refine h s3 (X.to H k3 (by rw [hs]; simpa using .inl H.lw) (ja9 (by rw [hs]; simpa using H.lw)) (by rw [hs]; simpa using Ne.symm (H.own _ (List.mem_cons_self ..))) (by rw [hs]; simpa using Ne.symm (H.wo _ H.lw)) G3 F3 (hk3 _ _ hcx X.bc)) ?_ k3 (by rw [hs]; exact H.lw)
 subst hv hk
 exact pb_snoc (pb_kp pb fun i y u hi hy hb => hk3 y u (nm4_ne hy hx (Nat.ne_of_lt ‹_›)) hb) hx b3
theorem jcs {zs : List Int} {i : Nat} {z : Int} {g : Int → List (List Int)} (h : zs[i]? = some z) : (zs.take (i + 1)).flatMap g = (zs.take i).flatMap g ++ g z := by
 rw [List.take_add_one, h]; simp
theorem lev_mid {k : Nat} {x : Str} {px pc p3 p4 : Pos} {ex i : Expr} {kk : Nat} (hA : A.handled = none) (C : IsComp ex k i) (T : ∀ it acc env, compTurn ex k it acc env = turnM ex k x px i (.Subscript (.Name "counts" pc) (.Constant (.int (k + 1 : Nat)) kk p3) p4) it acc env)
  (hx : nm4[k]? = some x) (hk : k < 900) (hcs : (k + 1) < cs.length) (next : Lev w B A cenv sc W U D cl cvs cs ex (k + 1)) : Lev w B A cenv sc W U D cl cvs cs ex k := by
 intro s0 s I St l vs zs pref ys hz W0 st fI nU nO hp0 hlW H X0 pb hlen hb
 have hp := hp0 s.heap
 have hdrop : cs.drop k = zs :: cs.drop (k + 1) := by
  have := List.drop_eq_getElem_cons (l := cs) (i := k) (Nat.le_of_lt ‹_›)
  rw [this]
  congr 1
  have := List.getElem?_eq_getElem (l := cs) (i := k) (Nat.le_of_lt ‹_›)
  rw [hz] at this
  exact (Option.some.inj this).symm
 rw [hdrop] at hb ⊢
 have nI : ∀ a ∈ W, a ≠ I := fun a ha => nU a (H.wu _ ha)
 have loop : codeAny (model P0 w) A (.compLoop ex k (.ref I) (.ref D) cenv) (fun r s' => r = .ok .next ∧ CI w B cenv W U D cl cvs cs s0 s' (ys ++ prod (zs :: cs.drop (k + 1)) pref) ∧ PB cenv nm4 pref s') s := by
  refine mid_loop C (T _ _ _) (fun v => rfl) (fun n s => ∃ i, i ≤ vs.length ∧ n = vs.length - i ∧ St i s ∧ CI w B cenv W U D cl cvs cs s0 s (ys ++ (zs.take i).flatMap fun v => prod (cs.drop (k + 1)) (pref ++ [v])) ∧ PB cenv nm4 pref s) ?_ vs.length
   ⟨0, Nat.zero_le _, rfl, st, by simpa using X0, pb⟩
  rintro n s ⟨i, hi, rfl, st, X, pb⟩
  by_cases hlt : i < vs.length
  ·first | (refine lW ?_; intro Ro) | (refine lA ?_; intro Ro) | (refine lC ?_; intro Ro) | skip
   refine W0.item A i s _ _ hA X.g hlt st fun v s2 hv st2 k2 g2 => ?_
   have X2 := X.it H fI nU nO (W0.cl i s st) k2
   refine aG ?_; intro gO; obtain ⟨z, hzi, t, ev⟩ := ja4 hp (toA hv); unfold gO; clear gO
   have pb2 : PB cenv nm4 pref s2 := pb_kp pb fun i y u Y Y h => jaA h k2 fun a ha => by
    simpa using nO a ha
   refine lev_step H X2 hx ev hlen pb2 fun s3 X3 pb3 k3 sW => ?_
   have hc : (k + 1) < cvs.length := by rw [jaa X3.cr]; exact hcs
   refine aG ?_; intro gO; obtain ⟨l', vs', el, nl', hl', hp'⟩ := ja3 X3.cr (k + 1) hc hcs; unfold gO; clear gO
   refine ev_atc (i := k + 1) X3.g H.sta X3.bc X3.cp (by rw [List.getElem?_eq_getElem hc, el]) (lq2 ‹_› (by rfl)) fun s4 k4 => ?_
   have X4 := X3.ex H k4
   have hl4 := jaj hl' k4 ni0
   refine (jaD X4.g hl4.list).use fun j s5 It5 => ?_
   have H4 := H.at X4.kp
   have hbz : (ys ++ (zs.take i).flatMap (fun v => prod (cs.drop (k + 1)) (pref ++ [v])) ++ prod (cs.drop (k + 1)) (pref ++ [z])).length ≤ 1000 := by
    refine Nat.le_trans ?_ hb
    have h1 : (zs.take (i + 1)).flatMap (fun v => prod (cs.drop (k + 1)) (pref ++ [v])) = _ := jcs hzi
    rw [List.append_assoc, ← h1, List.length_append, List.length_append]
    refine Nat.add_le_add_left ?_ _
    show _ ≤ (zs.flatMap fun v => prod (cs.drop (k + 1)) (pref ++ [v])).length
    conv => rhs; rw [← List.take_append_drop (i + 1) zs]
    rw [List.flatMap_append, List.length_append]
    exact Nat.le_add_right _ _
   refine aG ?_; intro gO; obtain ⟨⟨I5, St5, ej, W5, st5, fI5, aI5⟩, al5, k5, g5⟩ := It5; unfold gO; clear gO
   subst ej
   have ne5 : ∀ a, (∃ o, s4.heap.get? a = some o) → a ≠ I5 := fun a ⟨o, e⟩ q => by rw [q, fI5] at e; cases e
   refine codeAny_mono (next s4 s5 I5 St5 l' vs' cs[k + 1] (pref ++ [z]) _ (List.getElem?_eq_getElem hcs) W5 st5 fI5 (fun a ha => ne5 a (X4.al a ha)) (fun a ha => ne5 a (X4.alo a ha)) (fun h => int_any hp' h) (fun q => nl' (H.wu _ q)) H4 (X4.base.ex H4 k5) (pb_kp pb3 fun i y u Y Y h => jae (jae h k4) k5) (by simp [hlen]) hbz) fun r s6 ⟨er, X6, pb6⟩ => ⟨er, ?_⟩
   refine ⟨vs.length - (i + 1), by exact lqk ‹_›, i + 1, hlt, rfl, ?_, ?_, pb_init pb6⟩
   ·have nn : ∀ a ∈ I :: [l], a ∉ W := by
     intro a ha q
     rcases List.mem_cons.mp ha with rfl | ha
     ·exact nI a q rfl
     ·cases List.mem_singleton.mp ha; exact hlW q
    exact W0.frame _ _ _ _ (W0.frame _ _ _ _ (W0.frame _ _ _ _ st2 k3 fun a ha q => nn a ha (by cases List.mem_singleton.mp q; exact sW)) k4 nn0) X6.kp nn
   ·first | (refine lW ?_; intro Ro) | (refine lA ?_; intro Ro) | (refine lC ?_; intro Ro) | skip
    rw [jcs hzi, ← List.append_assoc]
    exact X6.join X4.kp
  ·first | (refine lW ?_; intro Ro) | (refine lA ?_; intro Ro) | (refine lC ?_; intro Ro) | skip
   have hin : i = vs.length := by exact ltf ‹_› ‹_›
   subst hin
   refine W0.done A s _ _ hA X.g st fun s2 k2 g2 => ?_
   refine ⟨rfl, ?_, pb_kp pb fun i y u Y Y h => jaA h k2 fun a ha => by
    simpa using nO a ha⟩
   have := X.it H fI nU nO (W0.cl _ s st) k2
   rwa [jaa hp, List.take_length] at this
 exact start_of C loop (W0.self _ 0 _ _ _ st loop)
end
section
variable {w : World} {B : Heap} {A : Around} {s : Shared} {a d b e c k m x y I l f D dx r cl : Addr} {env cenv : Env} {sc : Scope} {E : Value → Shared → Prop} {W U V : List Addr} {cvs : List Value} {cs ys : List (List Int)} {s1 : Shared} {nm : List Str}
theorem lev_last {px q0 q1 q2 q3 q4 : Pos} {ex i : Expr} (hA : A.handled = none) (C : IsComp ex 3 i) (T : ∀ it acc env, compTurn ex 3 it acc env = turnL ex 3 "d" px i (.List [.Name "a" q0, .Name "b" q1, .Name "c" q2, .Name "d" q3] q4) it acc env) (hcs : cs.length = 4) : Lev w B A cenv sc W U D cl cvs cs ex 3 := by
 intro s0 s I St l vs zs pref ys hz W0 st fI nU nO hp0 hlW H X0 pb hlen hb
 have hp := hp0 s.heap
 have hdrop : cs.drop 3 = [zs] := by
  have := List.drop_eq_getElem_cons (l := cs) (i := 3) (lqb ‹_› (by rfl))
  rw [this, List.drop_of_length_le (lq9 ‹_› (by rfl))]
  congr 1
  have := List.getElem?_eq_getElem (l := cs) (i := 3) (lqb ‹_› (by rfl))
  rw [hz] at this
  exact (Option.some.inj this).symm
 rw [hdrop] at hb ⊢
 have hpr : prod [zs] pref = zs.flatMap fun v => [pref ++ [v]] := rfl
 rw [hpr] at hb ⊢
 have nI : ∀ a ∈ W, a ≠ I := fun a ha => nU a (H.wu _ ha)
 have loop : codeAny (model P0 w) A (.compLoop ex 3 (.ref I) (.ref D) cenv) (fun r s' => r = .ok .next ∧ CI w B cenv W U D cl cvs cs s0 s' (ys ++ zs.flatMap fun v => [pref ++ [v]]) ∧ PB cenv nm4 pref s') s := by
  refine last_loop C (T _ _ _) (fun n s => ∃ i, i ≤ vs.length ∧ n = vs.length - i ∧ St i s ∧ CI w B cenv W U D cl cvs cs s0 s (ys ++ (zs.take i).flatMap fun v => [pref ++ [v]]) ∧ PB cenv nm4 pref s) ?_ vs.length
   ⟨0, Nat.zero_le _, rfl, st, by simpa using X0, pb⟩
  rintro n s ⟨i, hi, rfl, st, X, pb⟩
  by_cases hlt : i < vs.length
  ·first | (refine lW ?_; intro Ro) | (refine lA ?_; intro Ro) | (refine lC ?_; intro Ro) | skip
   refine W0.item A i s _ _ hA X.g hlt st fun v s2 hv st2 k2 g2 => ?_
   have X2 := X.it H fI nU nO (W0.cl i s st) k2
   refine aG ?_; intro gO; obtain ⟨z, hzi, t, ev⟩ := ja4 hp (toA hv); unfold gO; clear gO
   have pb2 : PB cenv nm4 pref s2 := pb_kp pb fun i y u Y Y h => jaA h k2 fun a ha => by
    simpa using nO a ha
   refine lev_step H X2 (x := "d") rfl ev hlen pb2 fun s3 X3 pb3 k3 sW => ?_
   obtain ⟨pa, pb', pc, rfl⟩ := ln3 hlen
   refine aG ?_; intro gO; obtain ⟨x0, t0, hx0, b0⟩ := pb3 0 pa rfl; unfold gO; clear gO
   refine aG ?_; intro gO; obtain ⟨x1, t1, hx1, b1⟩ := pb3 1 pb' rfl; unfold gO; clear gO
   refine aG ?_; intro gO; obtain ⟨x2, t2, hx2, b2⟩ := pb3 2 pc rfl; unfold gO; clear gO
   refine aG ?_; intro gO; obtain ⟨x3, t3, hx3, b3⟩ := pb3 3 z rfl; unfold gO; clear gO
   cases hx0; cases hx1; cases hx2; cases hx3
   refine jaU (B := B) (jad (jaf H.sta b0 (jad (jaf H.sta b1 (jad (jaf H.sta b2 (jad (jaf H.sta b3 (jao ⟨X3.g, by simp, fun L4 s4 f4 h4 k4 => ?_⟩)))))))))
   have X4 := X3.ex H k4
   refine aG ?_; intro gO; obtain ⟨dvs, hd, pd⟩ := X4.dd; unfold gO; clear gO
   have hbl : dvs.length < 1000 := by
    rw [jaa pd]
    refine Nat.lt_of_lt_of_le ?_ hb
    have h1 : (zs.take (i + 1)).flatMap (fun v => [[pa, pb', pc] ++ [v]]) = _ := jcs hzi
    rw [List.length_append, List.length_append]
    refine Nat.add_lt_add_left ?_ _
    conv => rhs; rw [← List.take_append_drop (i + 1) zs]
    rw [List.flatMap_append, List.length_append, h1, List.length_append]
    simp
    exact Nat.le_add_right _ _
   refine list_app X4.g hd (H.bw _ H.dw) (lq6 ‹_› (by rfl)) fun s5 h5 k5 g5 G5 => ?_
   have n5 : NoL U s4 [D] := ja9 (by simpa using H.wu _ H.dw)
   have hr : liW U intR s5.heap (.ref L4) ([pa, pb', pc] ++ [z]) :=
    jan (jbt (s := s3) X3.al f4 h4 (.cons ⟨_, rfl⟩ (.cons ⟨_, rfl⟩ (.cons ⟨_, rfl⟩ (.cons ⟨_, rfl⟩ .nil)))) rfl) k5 n5
   have X5 : CI w B cenv W U D cl cvs cs s0 s5 (ys ++ (zs.take (i + 1)).flatMap fun v => [[pa, pb', pc] ++ [v]]) :=
    { g := G5, f := ja0 X4.f k5 (fun a ha => by simpa using H.own a ha), kp := X4.kp.compW k5 (by simpa using .inl H.dw) H.tw,
      bc := jaA X4.bc k5 (fun a ha => by simpa using H.own a ha), cp := jaj X4.cp k5 (by simpa using Ne.symm (H.wo _ H.dw)),
      al := fun a ha => let ⟨_, e⟩ := X4.al a ha; k5.there _ _ e, alo := fun a ha => let ⟨_, e⟩ := X4.alo a ha; k5.there _ _ e,
      cr := jab (fun v x h => jan h k5 n5) X4.cr,
      dd := ⟨_, h5, by rw [jcs hzi, ← List.append_assoc]; exact (jab (fun v x h => jan h k5 n5) pd).snoc hr⟩ }
   refine ⟨vs.length - (i + 1), by exact lqk ‹_›, i + 1, hlt, rfl, ?_, X5, pb_init (pb_kp (pb_kp pb3 fun i y u Y Y h => jae h k4) fun i y u Y Y h => jaA h k5 fun a ha => by simpa using H.own a ha)⟩
   have nn : ∀ a ∈ I :: [l], a ∉ W := by
    intro a ha q
    rcases List.mem_cons.mp ha with rfl | ha
    ·exact nI a q rfl
    ·cases List.mem_singleton.mp ha; exact hlW q
   exact W0.frame _ _ _ _ (W0.frame _ _ _ _ (W0.frame _ _ _ _ st2 k3 fun a ha q => nn a ha (by cases List.mem_singleton.mp q; exact sW)) k4 nn0) k5 fun a ha q => nn a ha (by cases List.mem_singleton.mp q; exact H.dw)
  ·first | (refine lW ?_; intro Ro) | (refine lA ?_; intro Ro) | (refine lC ?_; intro Ro) | skip
   have hin : i = vs.length := by exact ltf ‹_› ‹_›
   subst hin
   refine W0.done A s _ _ hA X.g st fun s2 k2 g2 => ?_
   refine ⟨rfl, ?_, pb_kp pb fun i y u Y Y h => jaA h k2 fun a ha => by
    simpa using nO a ha⟩
   have := X.it H fI nU nO (W0.cl _ s st) k2
   rwa [jaa hp, List.take_length] at this
 exact start_of C loop (W0.self _ 0 _ _ _ st loop)
end
section
variable {w : World} {B : Heap} {A : Around} {s : Shared} {a d b e c k m x y I l f D dx r cl : Addr} {env cenv : Env} {sc : Scope} {E : Value → Shared → Prop} {W U V : List Addr} {cvs : List Value} {cs ys : List (List Int)} {s1 : Shared} {nm : List Str}
theorem liW_but {v : Value} {xs : List Int} {h' : Heap} {C : Addr} (x : liW U intR s.heap v xs) (hs : Heap.SameBut C s.heap h') (hC : C ∈ U) : liW U intR h' v xs := by
 refine aG ?_; intro gO; obtain ⟨l, vs, e, n, ⟨ep, hl⟩, p⟩ := x; unfold gO; clear gO
 exact ⟨l, vs, e, n, ⟨ep, (hs.2 l fun q => n (q ▸ hC)).trans hl⟩, p⟩
theorem lc4_rule {scope : Scope} {p0 p1 p2 p3 pos q0 q1 q2 q3 q4 c0 c1 c2 c3 d0 d1 d2 d3 f0 f1 f2 f3 : Pos} {u0 u1 u2 u3 nn : Nat} {Q : Value → Shared → Prop} (S : Sta env sc) (T : CompT scope sc [(("counts" : Str), c)] "a" false) (hA : Rm nn A) (hclos : closureFor scope env = pure [(("counts" : Str), c)])
  (hlk : ∀ x ∈ ([("a" : Str), "b", "c", "d"] : List Str), (jav scope sc).names.lookup x = some .local) (hck : (jav scope sc).names.lookup ("counts" : Str) = some .cell)
  (G : Good w B s) (hbc : Bnd env "counts" (.ref cl) s) (hcell : env.cells.lookup ("counts" : Str) = some c) (hcB : B.get? c = none) (hcp : PL s.heap cl cvs) (hcr : Paired (liW V intR s.heap) cvs cs) (hV : ∀ a ∈ V, ∃ o, s.heap.get? a = some o) (h4 : cs.length = 4) (hb : (prod cs []).length ≤ 1000)
  (h : ∀ D vs s', s.heap.get? D = none → PL s'.heap D vs → Paired (liW V intR s'.heap) vs (prod cs []) → Kp [] s s' → Q (.ref D) s') :
  wpAny (model P0 w) A (eval (e4 (.List [.Name "a" q0, .Name "b" q1, .Name "c" q2, .Name "d" q3] q4) (.Subscript (.Name "counts" c0) (.Constant (.int (0 : Nat)) u0 d0) f0) (.Subscript (.Name "counts" c1) (.Constant (.int (1 : Nat)) u1 d1) f1) (.Subscript (.Name "counts" c2) (.Constant (.int (2 : Nat)) u2 d2) f2) (.Subscript (.Name "counts" c3) (.Constant (.int (3 : Nat)) u3 d3) f3) p0 p1 p2 p3 scope pos) env) Q E s := by
 have hcd : s.heap.IsCell c (some (.ref cl)) := by
  unfold Bnd at hbc
  rw [hcell] at hbc
  exact hbc.2
 have hkeep := hcr
 show wpAny _ _ (eval (.ListComp _ _ _ _) env) _ _ _
 rw [eval_ListComp]
 obtain ⟨l0, vs0, e0, nl0, hl0, hp0⟩ := ja3 hcr 0 (by rw [jaa hcr]; exact lqb ‹_› (by rfl)) (lqb ‹_› (by rfl))
 refine wpAny_comprehension_free (use := none) rfl (fun Y => rfl) hclos T.kind T.names ?_
 refine ev_atc (i := 0) G S hbc hcp (by rw [List.getElem?_eq_getElem (by rw [jaa hcr]; exact lqb ‹_› (by rfl)), e0]) (lqe rfl) fun s2 k2 => ?_
 have G2 := G.kp k2 al0
 have hl2 := jaj hl0 k2 ni0
 refine (jaD G2 hl2.list).use fun it s3 It => ?_
 have G3 := G2.kp It.kp al0
 have K3 : Kp [] s s3 := (k2.trans It.kp).mono al0
 refine wpAny_newObj_type ?_ (by size_fits)
 have kD : Kp [] s3 { s3 with heap := s3.heap.push { cls := .type "list", dict := none, data := .seq ([] : List Value).toArray } } := jar G3
 have lD : PL ({ s3 with heap := s3.heap.push { cls := .type "list", dict := none, data := .seq ([] : List Value).toArray } } : Shared).heap s3.heap.objs.size ([] : List Value) := ⟨0, Heap.get?_push_size _ rfl⟩
 have fD : s3.heap.get? s3.heap.objs.size = none := jag
 generalize s3.heap.objs.size = D at lD fD ⊢
 generalize ({ s3 with heap := s3.heap.push { cls := .type "list", dict := none, data := .seq ([] : List Value).toArray } } : Shared) = s4 at kD lD ⊢
 have G4 := G3.kp kD al0
 have K4 : Kp [] s s4 := (K3.trans kD).mono al0
 have fDs := K3.back fD
 refine comp_env G4 S.ok T (by
   intro p hp
   cases List.mem_singleton.mp hp
   exact ⟨_, jaw hcd K4 ni0⟩) (List.pairwise_singleton _ _) (by
   intro p hp
   cases List.mem_singleton.mp hp
   exact hcB) fun cenv s5 aL fL Sc Fr hce hOwn k5 G5 => ?_
 refine aG ?_; intro gO; obtain ⟨N, hN, _⟩ := hce; unfold gO; clear gO
 have hN : cenv.cells = [(("counts" : Str), c)] := hN
 have K5 : Kp [] s s5 := (K4.trans k5).mono al0
 have lD5 := jaj lD k5 ni0
 have fLs := K4.back fL
 have hc5 : s5.heap.IsCell c (some (.ref cl)) := jaw hcd K5 ni0
 have ac : ∃ o, s.heap.get? c = some o := let ⟨o, ho, _⟩ := hcd; ⟨o, ho⟩
 have acl : ∃ o, s.heap.get? cl = some o := let ⟨ep, e⟩ := hcp; ⟨_, e⟩
 have nLD : cenv.locals ≠ D := fun q => by obtain ⟨ep, e⟩ := lD; rw [IsL, ← q, fL] at e; cases e
 have fW : ∀ a ∈ [D, cenv.locals], s.heap.get? a = none := by
  intro a ha
  rcases List.mem_cons.mp ha with rfl | ha
  ·exact fDs
  ·cases List.mem_singleton.mp ha; exact fLs
 have aW : ∀ a ∈ [D, cenv.locals], ∃ o, s5.heap.get? a = some o := by
  intro a ha
  rcases List.mem_cons.mp ha with rfl | ha
  ·obtain ⟨ep, e⟩ := lD5; exact ⟨_, e⟩
  ·cases List.mem_singleton.mp ha; exact Option.ne_none_iff_exists'.mp aL
 have own : ∀ a ∈ Own { cenv with scope := relabel scope env }, a = cenv.locals ∨ a = c := by
  intro a ha
  have ha' : a ∈ cenv.locals :: cenv.cells.map (·.2) := ha
  rw [hN] at ha'
  simpa using ha'
 have K25 : Kp [] s2 s5 := ((It.kp.trans kD).trans k5).mono al0
 have H : CE B { cenv with scope := relabel scope env } (jav scope sc) [D, cenv.locals] ([D, cenv.locals] ++ V) D cl s2 :=
  { sta := Sc
    loc := fun x hx => ⟨by
        show cenv.cells.lookup x = none
        rw [hN, List.lookup_cons]
        have : (x == ("counts" : Str)) = false := by
          simp only [List.mem_cons, List.not_mem_nil, or_false] at hx
          rcases hx with rfl | rfl | rfl | rfl <;> decide +kernel
        rw [this]; rfl, Sc.ok.kind (hlk x hx)⟩
    lw := by show cenv.locals ∈ _; simp
    dw := by simp
    own := fun a ha => by
      rcases own a ha with rfl | rfl
      · exact nLD
      · exact fun q => by obtain ⟨o, e⟩ := ac; rw [q, fDs] at e; cases e
    wo := fun a ha q => by obtain ⟨o, e⟩ := acl; rw [← q, fW a ha] at e; cases e
    wu := fun a ha => List.mem_append_left _ ha
    bw := fun a ha => G.new (fW a ha)
    bo := hOwn
    bx := fun a o e => by obtain ⟨o', e'⟩ := G.old.there _ _ e; exact k2.there _ _ e'
    tw := by obtain ⟨o, e⟩ := G.two; exact k2.there _ _ e }
 have X : CI w B { cenv with scope := relabel scope env } [D, cenv.locals] ([D, cenv.locals] ++ V) D cl cvs cs s2 s5 [] :=
  { g := G5, f := Fr, kp := K25.mono al0
    bc := by
      unfold Bnd
      show match cenv.cells.lookup ("counts" : Str) with | some c => _ | none => _
      have : cenv.cells.lookup ("counts" : Str) = some c := by rw [hN]; simp [List.lookup_cons]
      rw [this]
      exact ⟨.inl (Sc.ok.kind hck), hc5⟩
    cp := jaj hcp K5 ni0
    cr := jah (fun v x h => jan (liW_up h fW) K5 jaq) hcr
    dd := ⟨[], lD5, .nil⟩
    al := fun a ha => (List.mem_append.mp ha).elim (aW a) fun q => let ⟨_, e⟩ := hV a q; K5.there _ _ e
    alo := fun a ha => by
      rcases own a ha with rfl | rfl
      · exact Option.ne_none_iff_exists'.mp aL
      · obtain ⟨o, e⟩ := ac; exact K5.there _ _ e }
 have L3 : Lev w B A { cenv with scope := relabel scope env } (jav scope sc) [D, cenv.locals] ([D, cenv.locals] ++ V) D cl cvs cs (e4 (.List [.Name "a" q0, .Name "b" q1, .Name "c" q2, .Name "d" q3] q4) (.Subscript (.Name "counts" c0) (.Constant (.int (0 : Nat)) u0 d0) f0) (.Subscript (.Name "counts" c1) (.Constant (.int (1 : Nat)) u1 d1) f1) (.Subscript (.Name "counts" c2) (.Constant (.int (2 : Nat)) u2 d2) f2) (.Subscript (.Name "counts" c3) (.Constant (.int (3 : Nat)) u3 d3) f3) p0 p1 p2 p3 scope pos) 3 := lev_last hA.1 isComp3 (fun Y Y Y => tn3 _ _ _) h4
 have L2 := lev_mid (k := 2) (x := "c") hA.1 isComp2 (fun Y Y Y => tn2 _ _ _) rfl (lqe rfl) (lqb ‹_› (by rfl)) L3
 have L1 := lev_mid (k := 1) (x := "b") hA.1 isComp1 (fun Y Y Y => tn1 _ _ _) rfl (lqe rfl) (lqb ‹_› (by rfl)) L2
 have L0 := lev_mid (k := 0) (x := "a") hA.1 isComp0 (fun Y Y Y => tn0 _ _ _) rfl (lqe rfl) (lqb ‹_› (by rfl)) L1
 refine aG ?_; intro gO; obtain ⟨⟨I, St, ei, W0, st, fI, aI⟩, al, k1, g1⟩ := It; unfold gO; clear gO
 subst ei
 have st5 := W0.frame _ _ _ _ (W0.frame _ _ _ _ st kD nn0) k5 nn0
 have aI4 : ∃ o, s4.heap.get? I = some o := by obtain ⟨o, e⟩ := aI; exact kD.there _ _ e
 have nIs : ∀ a, (∃ o, s.heap.get? a = some o) → a ≠ I := fun a ⟨o, e⟩ q => by
  obtain ⟨o', e'⟩ := k2.there _ _ e
  rw [q, fI] at e'; cases e'
 have nWI : ∀ a ∈ [D, cenv.locals], a ≠ I := by
  intro a ha
  rcases List.mem_cons.mp ha with rfl | ha
  ·exact fun q => by obtain ⟨o, e⟩ := aI; rw [← q, fD] at e; cases e
  ·cases List.mem_singleton.mp ha
   exact fun q => by obtain ⟨o, e⟩ := aI4; rw [← q, fL] at e; cases e
 have nl0W : l0 ∉ [D, cenv.locals] := fun q => by
  obtain ⟨ep, e⟩ := hl0
  rw [IsL, fW _ q] at e; cases e
 refine coE (L0 s2 s5 I St l0 vs0 cs[0] [] [] (List.getElem?_eq_getElem (lqb ‹_› (by rfl))) W0 st5 fI (fun a ha => (List.mem_append.mp ha).elim (nWI a) fun q => nIs a (hV a q)) (fun a ha => by
   rcases own a ha with rfl | rfl
   ·exact nWI _ (List.Mem.tail _ (List.Mem.head _))
   ·exact nIs _ ac) (fun h => int_any hp0 h) nl0W H X (fun i z hz => by simp at hz) rfl hb) fun s6 hx0 => ?_
 obtain ⟨X6, _⟩ := hx0
 rw [List.drop_zero, List.nil_append] at X6
 refine aG ?_; intro gO; obtain ⟨⟨m, hm⟩, _⟩ := X6.f; unfold gO; clear gO
 refine aG ?_; intro gO; obtain ⟨vs, hd, pd⟩ := X6.dd; unfold gO; clear gO
 have K26 : Kp [] s s6 := (k2.mono al0).comp0 G X6.kp fW
 refine ⟨m, hm, fun h' hs' => ?_⟩
 have hd' : PL h' D vs := let ⟨ep, e⟩ := hd; ⟨ep, (hs'.2 D (Ne.symm nLD)).trans e⟩
 refine h D vs _ fDs hd' (jah (fun v x hx => liW_down (liW_but hx hs' (List.mem_append_left _ (List.Mem.tail _ (List.Mem.head _)))) fun a ha => List.mem_append_right _ ha) pd) (Kp.but G K26 fLs hs')
end
theorem clos_go (env : Env) (addr : Str → Addr) (f : Str × NameKind → List (Str × Addr) → Sem (ForInStep (List (Str × Addr)))) (hf : ∀ n k r, f (n, k) r = if (k == .free) = true then (cellOf env n >>= fun c => pure (ForInStep.yield ((n, c) :: r))) else pure (ForInStep.yield r)) :
  ∀ (names : List (Str × NameKind)) (cs : List (Str × Addr)), (∀ n ∈ (names.filter fun x => x.2 == .free).map (·.1), env.cells.lookup n = some (addr n)) →
  (forIn names cs f : Sem _) = (pure ((((names.filter fun x => x.2 == .free).map fun x => (x.1, addr x.1)).reverse) ++ cs) : Sem (List (Str × Addr))) := by
 intro names
 induction names with
 | nil =>
  rintro cs _
  exact rfl
 | cons hx9 r ih =>
  obtain ⟨n, k⟩ := hx9
  rintro cs h
  rw [List.forIn_cons, hf]
  cases hk : (k == NameKind.free) with
  | true =>
   have h1 : env.cells.lookup n = some (addr n) := h n (by simp [hk])
   have h2 := ih ((n, addr n) :: cs) (fun m hm => h m (by simp [hk]; right; simpa using hm))
   have hc : cellOf env n = pure (addr n) := by unfold cellOf; rw [h1]
   rw [if_pos rfl, hc]
   show (forIn r ((n, addr n) :: cs) f : Sem _) = _
   rw [h2]
   simp [hk]
  | false =>
   have h2 := ih cs (fun m hm => h m (by simpa [hk] using hm))
   rw [if_neg (by decide)]
   show (forIn r cs f : Sem _) = _
   rw [h2]
   simp [hk]
theorem jbh {scope : Scope} {env : Env} {frees : List Str} {cl : List (Str × Addr)} (addr : Str → Addr) (hf : (scope.names.filter fun x => x.2 == .free).map (·.1) = frees) (hc : ∀ n ∈ frees, env.cells.lookup n = some (addr n)) (hcl : cl = (frees.map fun n => (n, addr n)).reverse) : closureFor scope env = pure cl := by
 unfold closureFor
 rw [hcl, ← hf, List.map_map]
 refine (congrArg (fun (m : Sem (List (Str × Addr))) => m >>= fun s => pure s) (clos_go env addr _ ?_ scope.names [] ?_)).trans ?_
 ·intro n k r; rfl
 ·rw [hf]; exact hc
 ·rw [List.append_nil]; rfl
section
variable {w : World} {B : Heap} {A : Around} {s : Shared} {a d b e c k m x y I l f D dx r cl : Addr} {env cenv : Env} {sc : Scope} {E : Value → Shared → Prop} {W U V : List Addr} {s1 : Shared}
theorem jb2 {z : Str} {v : Value} {L : List (Str × Addr)} (S : Sta cenv sc) (hN : cenv.cells = L) (hl : L.lookup z = some c) (hk : sc.names.lookup z = some .cell) (hc : s1.heap.IsCell c (some v)) (k : Kp [] s1 s) : Bnd cenv z v s := by
 unfold Bnd
 rw [hN, hl]
 exact ⟨.inl (S.ok.kind hk), jaw hc k ni0⟩
theorem jaR {z : Str} {v : Value} (h : Bnd env z v s) (hc : env.cells.lookup z = some c) : s.heap.IsCell c (some v) := by
 unfold Bnd at h
 rw [hc] at h
 exact h.2
set_option tactic.hygienic true in
theorem jbn {T : List Addr} {test : Nat → Bool} {F : Nat → Value → Shared → Prop} : ∀ {n : Nat} {ys : List Value}, Outs T test F n ys s → Paired (fun y i => F i y s ∧ ∀ a, y = .ref a → a ∉ T) ys ((List.range n).filter test) := by
 intro n
 induction n with
 | zero =>
  rintro ys h
  unfold Outs at h; subst h; exact .nil
 | succ n ih =>
  rintro ys h
  unfold Outs at h
  rw [List.range_succ, List.filter_append]
  split at h
  ·rename_i ht
   obtain ⟨zs, y, e, h1, h2, h3⟩ := h
   subst e
   have : [n].filter test = [n] := by simp [ht]
   rw [this]
   exact (ih h1).snoc ⟨h2, h3⟩
  ·rename_i ht
   have : [n].filter test = [] := by simp [ht]
   rw [this, List.append_nil]
   exact ih h
theorem op_add {p q : Int} {t u : Nat} : Wp w A (binaryOp .Add (.int p t) (.int q u)) (fun v s' => (∃ t', v = .int (p + q) t') ∧ Kp [] s s') s := PyProof.Rows.add_int ⟨⟨_, rfl⟩, jak (Nat.le_succ _)⟩
theorem op_mul {p q : Int} {t u : Nat} (h : IntMulOk p q) : Wp w A (binaryOp .Mult (.int p t) (.int q u)) (fun v s' => (∃ t', v = .int (p * q) t') ∧ Kp [] s s') s := P.mul_int ⟨⟨_, rfl⟩, jak (Nat.le_succ _)⟩ h
theorem op_mod {p q : Int} {t u : Nat} (h : q ≠ 0) : Wp w A (binaryOp .Mod (.int p t) (.int q u)) (fun v s' => (∃ t', v = .int (p.fmod q) t') ∧ Kp [] s s') s := PyProof.Rows.mod_int h ⟨⟨_, rfl⟩, jak (Nat.le_succ _)⟩
end
noncomputable abbrev duB : List Stmt := ja2 (lawS "_law_due")
noncomputable abbrev liP (U : List Addr) : Rel (List (List Int)) := liW U (liW U intR)
noncomputable def tabR (U : List Addr) (rows : List (List Int)) (h : Heap) (kv : Int × Value) (k : Int) : Prop := kv.1 = k ∧ liP U h kv.2 (pairsOf rows (k / 4).toNat (k % 4).toNat)
noncomputable def ksAt (one two : Nat) : List Int := ((List.range one).flatMap fun o => (List.range o).map fun t => ((o * 4 + t : Nat) : Int)) ++ (List.range two).map fun t => ((one * 4 + t : Nat) : Int)
theorem ksAt_next (one two : Nat) : ksAt one (two + 1) = ksAt one two ++ [((one * 4 + two : Nat) : Int)] := by simp [ksAt, List.range_succ]
theorem ksAt_turn (one : Nat) : ksAt (one + 1) 0 = ksAt one one := by simp [ksAt, List.range_succ]
theorem ks_new : ∀ one : Fin 4, ∀ two : Fin 4, two.1 < one.1 → ((one.1 * 4 + two.1 : Nat) : Int) ∉ ksAt one.1 two.1 ∧ (((one.1 * 4 + two.1 : Nat) : Int) / 4).toNat = one.1 ∧ (((one.1 * 4 + two.1 : Nat) : Int) % 4).toNat = two.1 ∧ (ksAt one.1 two.1).length ≤ 10 := by decide +kernel
section
variable {w : World} {B : Heap} {A : Around} {s : Shared} {a d b e c k m x y I l f D dx r cl rl td : Addr} {env cenv : Env} {sc : Scope} {E : Value → Shared → Prop} {W U V : List Addr} {sX : Shared} {rvs : List Value} {rows : List (List Int)} {ks : List Int}
structure DuE (B : Heap) (env : Env) (sc : Scope) (W U : List Addr) (rl td : Addr) (sX : Shared) : Prop where
 sta : Sta env sc
 own : ∀ a ∈ Own env, a ∈ W
 tw' : td ∈ W
 to' : td ∉ Own env
 rw' : rl ∉ W
 wu : ∀ a ∈ W, a ∈ U
 bw : ∀ a ∈ W, B.get? a = none
 bx : ∀ a o, B.get? a = some o → ∃ o, sX.heap.get? a = some o
 tw : ∃ o, sX.heap.get? 2 = some o
 set : ∀ x ∈ ([("one" : Str), "two", "row", "counts", "due"] : List Str), jaB env x
structure DuI (w : World) (B : Heap) (env : Env) (W U : List Addr) (rl td : Addr) (rvs : List Value) (rows : List (List Int)) (sX s : Shared) (ks : List Int) : Prop where
 g : Good w B s
 f : Frm env s
 kp : Kp W sX s
 br : Bnd env "rows" (.ref rl) s
 bt : Bnd env "tables" (.ref td) s
 rp : PL s.heap rl rvs
 rr : Paired (liW U intR s.heap) rvs rows
 tt : ∃ kvs ep, Dt w s.heap td kvs ep ∧ Paired (tabR U rows s.heap) kvs ks
 al : ∀ a ∈ U, ∃ o, s.heap.get? a = some o
theorem tabR_kp {s' : Shared} {S : List Addr} {kv : Int × Value} {k : Int} (h : tabR U rows s.heap kv k) (kp : Kp S s s') (n : NoL U s S) : tabR U rows s'.heap kv k := ⟨h.1, jbd (jbd jaZ) s s' S _ _ h.2 kp n⟩
theorem DuI.to {s' : Shared} {S : List Addr} (H : DuE B env sc W U rl td sX) (X : DuI w B env W U rl td rvs rows sX s ks) (k : Kp S s s') (hS : ∀ a ∈ S, a ∈ W ∨ sX.heap.get? a = none) (hN : NoL W s S) (hrl : rl ∉ S) (htd : td ∉ S) (g : Good w B s') (f : Frm env s')
  (hb : ∀ (y : Str) u, y ∈ ([("rows" : Str), "tables"] : List Str) → Bnd env y u s → Bnd env y u s') : DuI w B env W U rl td rvs rows sX s' ks where
 g := g
 f := f
 kp := X.kp.compW k hS H.tw
 br := hb _ _ (List.mem_cons_self ..) X.br
 bt := hb _ _ (List.Mem.tail _ (List.Mem.head _)) X.bt
 rp := jaj X.rp k hrl
 rr := jab (fun v x h => jan h k (hN.mono H.wu)) X.rr
 tt := let ⟨kvs, ep, h1, h2⟩ := X.tt; ⟨kvs, ep, dt_kp h1 k htd, jah (fun Y Y h => tabR_kp h k (hN.mono H.wu)) h2⟩
 al := fun a ha => let ⟨_, e⟩ := X.al a ha; k.there _ _ e
theorem DuI.ex {s' : Shared} (H : DuE B env sc W U rl td sX) (X : DuI w B env W U rl td rvs rows sX s ks) (k : Kp [] s s') : DuI w B env W U rl td rvs rows sX s' ks :=
 X.to H k al0 jaq ni0 ni0 (X.g.kp k al0) (ja0 X.f k nn0) fun y u Y h => jcf h k ni0
theorem DuI.st {s' : Shared} {z : Str} {I : Addr} (H : DuE B env sc W U rl td sX) (X : DuI w B env W U rl td rvs rows sX s ks) (fI : sX.heap.get? I = none) (nI : ∀ a ∈ W, a ≠ I) (hI : ∃ o, s.heap.get? I = some o ∧ jba o) (k : Kp [I, jai env z] s s') (hz : z ∉ ([("rows" : Str), "tables"] : List Str)) (hk : ∀ y u, y ≠ z → Bnd env y u s → Bnd env y u s') (g : Good w B s') (f : Frm env s') :
  DuI w B env W U rl td rvs rows sX s' ks := by
 have nrl : rl ≠ I := fun q => by
  refine aG ?_; intro gO; obtain ⟨o, ho, hc⟩ := hI; unfold gO; clear gO
  obtain ⟨ep, e⟩ := X.rp
  rw [q, IsL, ho] at e
  cases e
  exact hc.1 rfl
 exact X.to H k (by
   intro a ha
   rcases List.mem_cons.mp ha with rfl | ha
   ·exact .inr fI
   ·cases List.mem_singleton.mp ha; exact .inl (H.own _ jac))
  (noL_it hI (H.own _ jac)) (by
   intro q
   rcases List.mem_cons.mp q with q | q
   ·exact nrl q
   ·cases List.mem_singleton.mp q; exact H.rw' (H.own _ jac)) (by
   intro q
   rcases List.mem_cons.mp q with q | q
   ·exact nI _ H.tw' q
   ·cases List.mem_singleton.mp q; exact H.to' jac) g f fun y u hy h => hk y u (fun q => hz (q ▸ hy)) h
theorem DuI.it {s' : Shared} {I : Addr} (H : DuE B env sc W U rl td sX) (X : DuI w B env W U rl td rvs rows sX s ks) (fI : sX.heap.get? I = none) (nI : ∀ a ∈ W, a ≠ I) (hI : ∃ o, s.heap.get? I = some o ∧ jba o) (k : Kp [I] s s') :
  DuI w B env W U rl td rvs rows sX s' ks := by
 have bI : B.get? I = none := by
  cases e : B.get? I with
  | none => rfl
  | some o => obtain ⟨o', e'⟩ := H.bx _ _ e; rw [fI] at e'; cases e'
 have nrl : rl ≠ I := fun q => by
  refine aG ?_; intro gO; obtain ⟨o, ho, hc⟩ := hI; unfold gO; clear gO
  obtain ⟨ep, e⟩ := X.rp
  rw [q, IsL, ho] at e
  cases e
  exact hc.1 rfl
 exact X.to H k (by simpa using .inr fI) (it_noL hI) (ni1 nrl) (by simpa using nI _ H.tw') (X.g.kp k (al1 bI)) (ja0 X.f k (fun a ha => by simpa using nI _ (H.own _ ha))) fun y u Y h => jaA h k fun a ha => by simpa using nI _ (H.own _ ha)
theorem DuI.base (X : DuI w B env W U rl td rvs rows sX s ks) : DuI w B env W U rl td rvs rows s s ks := { X with kp := (Kp.refl s).mono al0 }
theorem DuI.join {s1 : Shared} (k : Kp W sX s1) (X : DuI w B env W U rl td rvs rows s1 s ks) : DuI w B env W U rl td rvs rows sX s ks := { X with kp := (k.trans X.kp).mono ap2 }
theorem DuE.at {s1 : Shared} (H : DuE B env sc W U rl td sX) (k : Kp W sX s1) : DuE B env sc W U rl td s1 := { H with tw := let ⟨_, e⟩ := H.tw; k.there _ _ e, bx := fun a o e => let ⟨_, e⟩ := H.bx a o e; k.there _ _ e }
noncomputable abbrev oneB : List Stmt := forB duB[1]!
noncomputable abbrev twoB : List Stmt := forB oneB[0]!
theorem du_two {n one two t1 t2 : Nat} (hsc : sc = jas (lawS "_law_due")) (H : DuE B env sc W U rl td sX) (X : DuI w B env W U rl td rvs rows sX s (ksAt one two)) (hA : Rm n A) (hn : n < 200) (h1 : one < 4) (h2 : two < one) (b1 : Bnd env "one" (.int one t1) s) (b2 : Bnd env "two" (.int two t2) s)
  (hr : rows.length ≤ 100) (hr4 : ∀ r ∈ rows, r.length = 4) : Wp w A (execs twoB env) (fun f s' => f = .next ∧ DuI w B env W U rl td rvs rows sX s' (ksAt one (two + 1)) ∧ ∀ (y : Str) u, Bnd env y u s → Bnd env y u s') s := by
 try (refine lW ?_; intro Ro)
 have e1 : twoB = [twoB[0]!] := by kernel_rfl
 rw [e1]
 refine aG ?_; intro gO; obtain ⟨q1, q2, q3, q4⟩ := ks_new ⟨one, h1⟩ ⟨two, by exact Nat.lt_trans ‹_› ‹_›⟩ h2; unfold gO; clear gO
 simp only at q1 q2 q3 q4
 have ho : (KH w.params).lookup 1104 = some ((KH w.params).lookup 1104).get! := by
  have : ((KH w.params).lookup 1104).isSome = true := by kernel_rfl
  obtain ⟨o, e⟩ := Option.isSome_iff_exists.mp this
  rw [e]; rfl
 refine wpAny_execs_cons (wpAny_Assign_Subscript (jap (jal (.ref 1104) X.g H.sta.ok ?_ (by kernel_rfl) (by rw [hsc]; kernel_rfl) (by kernel_rfl))))
 refine callWith_def (o := ((KH w.params).lookup 1104).get!) (fd := fdAt (KH w.params) 1104) (by kernel_rfl) ?_
 refine jad (jaf H.sta X.br (jad (jaf H.sta b1 (jad (jaf H.sta b2 (jao ⟨X.g.k _ _ ho, ?_⟩))))))
 refine wpAny_call (coE2 (pairs_call X.g hA hn X.al X.rp X.rr hr (fun r hm => by rw [hr4 r hm]; exact ⟨h1, Nat.lt_trans h2 h1, by decide⟩)) fun fl vs s1 hx0 => ?_)
 refine aG ?_; intro gO; obtain ⟨ff, hfl, pfl, k1⟩ := hx0; unfold gO; clear gO
 have X1 := X.ex H k1
 refine jaf H.sta X1.bt ?_
 have kt : Kp [] s1 { s1 with toks := s1.toks + 1 } := jak (Nat.le_succ _)
 refine wpAny_BinOp (wpAny_BinOp (jaf H.sta (jae b1 k1) (wpAny_Constant_int ((op_mul (.of_right (by decide))).useP fun t3 s3 k3 => ?_))))
 have K3 : Kp [] s1 s3 := (kt.trans k3).mono al0
 refine jaf H.sta (jae (jae b2 k1) K3) (op_add.useP fun t4 s4 k4 => ?_)
 have K4 : Kp [] s1 s4 := (K3.trans k4).mono al0
 have X4 := X1.ex H K4
 refine aG ?_; intro gO; obtain ⟨kvs, ep, hd, hp⟩ := X4.tt; unfold gO; clear gO
 have hz : ((one : Int) * 4 + two) = ((one * 4 + two : Nat) : Int) := by push_cast; rfl
 rw [hz]
 have hkeys : ∀ {kvs : List (Int × Value)} {ks : List Int}, Paired (tabR U rows s4.heap) kvs ks → kvs.map (·.1) = ks := by
  intro kvs ks p
  induction p with
  | nil => rfl
  | cons a _ ih => rw [List.map_cons, ih, a.1]
 refine dt_set X4.g (H.bw _ H.tw') hd (by rw [jaa hp]; exact lq8 ‹_› (by rfl)) (by rw [hkeys hp]; exact q1) fun s5 ep5 hd5 k5 G5 => ?_
 have n5 : NoL U s4 [td] := ja9 (by simpa using H.wu _ H.tw')
 have b5 : ∀ y u, Bnd env y u s4 → Bnd env y u s5 := fun y u h => jaA h k5 fun a ha q => H.to' (by cases List.mem_singleton.mp q; exact ha)
 have X5 : DuI w B env W U rl td rvs rows sX s5 (ksAt one (two + 1)) :=
  { g := G5, f := ja0 X4.f k5 (fun a ha q => H.to' (by cases List.mem_singleton.mp q; exact ha)), kp := X4.kp.compW k5 (by simpa using .inl H.tw') H.tw, br := b5 _ _ X4.br, bt := b5 _ _ X4.bt,
    rp := jaj X4.rp k5 (by simpa using fun q : rl = td => H.rw' (q ▸ H.tw')), rr := jab (fun v x h => jan h k5 n5) X4.rr,
    tt := ⟨_, ep5, hd5, by
      rw [ksAt_next]
      refine (jah (fun Y Y h => tabR_kp h k5 n5) hp).snoc ⟨rfl, ?_⟩
      rw [q2, q3]
      have hl : liP U s1.heap (.ref fl) (pairsOf rows one two) := ⟨fl, vs, rfl, (fun q => by obtain ⟨o, e⟩ := X.al _ q; rw [ff] at e; cases e), hfl, pfl⟩
      exact jbd (jbd jaZ) _ _ _ _ _ (jbd (jbd jaZ) _ _ _ _ _ hl K4 jaq) k5 n5⟩
    al := fun a ha => let ⟨_, e⟩ := X4.al a ha; k5.there _ _ e }
 exact wpAny_execs_nil ⟨rfl, X5, fun y u h => b5 y u (jae (jae h k1) K4)⟩
end
theorem jaO : ∀ n : Fin 20, Builtin.Range.small 0 n.1 1 = true ∧ Builtin.Range.rangeSize 0 n.1 1 = n.1 := by decide +kernel
section
variable {w : World} {B : Heap} {A : Around} {s : Shared} {a d b e c k m x y I l f D dx r cl rl td : Addr} {env cenv : Env} {sc : Scope} {E : Value → Shared → Prop} {W U V : List Addr} {sX : Shared} {rvs : List Value} {rows : List (List Int)} {ks : List Int}
theorem du_one {n one t1 : Nat} (hsc : sc = jas (lawS "_law_due")) (H : DuE B env sc W U rl td sX) (X : DuI w B env W U rl td rvs rows sX s (ksAt one 0)) (hA : Rm n A) (hn : n < 200) (h1 : one < 4) (b1 : Bnd env "one" (.int one t1) s)
  (hr : rows.length ≤ 100) (hr4 : ∀ r ∈ rows, r.length = 4) : Wp w A (execs oneB env) (fun f s' => f = .next ∧ DuI w B env W U rl td rvs rows sX s' (ksAt (one + 1) 0)) s := by
 try (refine lW ?_; intro Ro)
 have e1 : oneB = [oneB[0]!] := by kernel_rfl
 rw [e1]
 have ownB : ∀ a ∈ Own env, B.get? a = none := fun a ha => H.bw _ (H.own a ha)
 refine wpAny_execs_cons (wpAny_For (jap (jal (.type "range") X.g H.sta.ok (callWith_type1 (jad (jaf H.sta b1 (jao ?_)))) (by kernel_rfl) (by rw [hsc]; kernel_rfl) (by kernel_rfl))))
 refine (jaH (n := one) X.g (hA.le (lq6 ‹_› (by rfl)))).useE4 fun r q1 q2 q3 s2 hx0 => ?_
 refine aG ?_; intro gO; obtain ⟨hr', fr, k2⟩ := hx0; unfold gO; clear gO
 have X2 := X.ex H k2
 obtain ⟨rs1, rs2⟩ := jaO ⟨one, by exact lq0 ‹_› (by rfl)⟩
 refine (jaI (n := one) X2.g hr' rs1 rs2).use fun v s3 It => ?_
 have H2 := H.at X2.kp
 refine jbz (W := W) H.sta hA X2.g It H.own (fun a ha => X2.al a (H.wu a ha)) al0 ownB (H.set _ (List.Mem.tail _ (List.Mem.head _)))
  (fun i s => DuI w B env W U rl td rvs rows s2 s (ksAt one i) ∧ Bnd env "one" (.int one t1) s) (fun i s h => ⟨h.1.g, h.1.f⟩) ⟨DuI.ex H2 X2.base It.kp, jae (jae b1 k2) It.kp⟩ ?_ ?_
 ·intro I i v s9 s10 fI hi hv ⟨X9, c9⟩ hI k10 b10 hk10 G10 F10
  obtain ⟨t, _, rfl⟩ := hv
  first | (refine lW ?_; intro Ro) | (refine lA ?_; intro Ro) | (refine lC ?_; intro Ro) | skip
  have nI : ∀ a ∈ W, a ≠ I := fun a ha q => by obtain ⟨o, e⟩ := X2.al a (H.wu a ha); rw [q, fI] at e; cases e
  have X10 := X9.st H2 fI nI hI k10 (by decide +kernel) hk10 G10 F10
  have H10 := H2.at X10.kp
  refine (du_two hsc H10 X10.base hA hn h1 hi (hk10 ("one" : Str) _ (by decide +kernel) c9) b10 hr hr4).useE fun s11 hx0 => ?_
  obtain ⟨X11, q11⟩ := hx0
  exact ⟨⟨X11.join X10.kp, q11 _ _ (hk10 ("one" : Str) _ (by decide +kernel) c9)⟩, X11.kp⟩
 ·intro I s9 s10 fI ⟨X9, c9⟩ hI k10
  first | (refine lW ?_; intro Ro) | (refine lA ?_; intro Ro) | (refine lC ?_; intro Ro) | skip
  have nI : ∀ a ∈ W, a ≠ I := fun a ha q => by obtain ⟨o, e⟩ := X2.al a (H.wu a ha); rw [q, fI] at e; cases e
  have X10 := (X9.it H2 fI nI hI k10).join X2.kp
  rw [← ksAt_turn] at X10
  exact wpAny_execs_nil ⟨rfl, X10⟩
theorem du_tables {n : Nat} (hsc : sc = jas (lawS "_law_due")) (H : DuE B env sc W U rl td sX) (X : DuI w B env W U rl td rvs rows sX s []) (hA : Rm n A) (hn : n < 200)
  (hr : rows.length ≤ 100) (hr4 : ∀ r ∈ rows, r.length = 4) : Wp w A (exec duB[1]! env) (fun f s' => f = .next ∧ DuI w B env W U rl td rvs rows sX s' (ksAt 4 0)) s := by
 try (refine lW ?_; intro Ro)
 have ownB : ∀ a ∈ Own env, B.get? a = none := fun a ha => H.bw _ (H.own a ha)
 refine wpAny_For (jap (jal (.type "range") X.g H.sta.ok (callWith_type1 (jad (wpAny_Constant_int (jao ?_)))) (by kernel_rfl) (by rw [hsc]; kernel_rfl) (by kernel_rfl)))
 have kt : Kp [] s { s with toks := s.toks + 1 } := jak (Nat.le_succ _)
 have X1 := X.ex H kt
 refine (jaH (n := 4) X1.g (hA.le (lq6 ‹_› (by rfl)))).useE4 fun r q1 q2 q3 s2 hx0 => ?_
 refine aG ?_; intro gO; obtain ⟨hr', fr, k2⟩ := hx0; unfold gO; clear gO
 have X2 := X1.ex H k2
 obtain ⟨rs1, rs2⟩ := jaO ⟨4, by exact lqe rfl⟩
 refine (jaI (n := 4) X2.g hr' rs1 rs2).use fun v s3 It => ?_
 have H2 := H.at X2.kp
 refine jbz (W := W) H.sta hA X2.g It H.own (fun a ha => X2.al a (H.wu a ha)) al0 ownB (H.set _ (List.mem_cons_self ..))
  (fun i s => DuI w B env W U rl td rvs rows s2 s (ksAt i 0)) (fun i s h => ⟨h.g, h.f⟩) (DuI.ex H2 X2.base It.kp) ?_ ?_
 ·intro I i v s9 s10 fI hi hv X9 hI k10 b10 hk10 G10 F10
  obtain ⟨t, _, rfl⟩ := hv
  first | (refine lW ?_; intro Ro) | (refine lA ?_; intro Ro) | (refine lC ?_; intro Ro) | skip
  have nI : ∀ a ∈ W, a ≠ I := fun a ha q => by obtain ⟨o, e⟩ := X2.al a (H.wu a ha); rw [q, fI] at e; cases e
  have X10 := X9.st H2 fI nI hI k10 (by decide +kernel) hk10 G10 F10
  have H10 := H2.at X10.kp
  refine (du_one hsc H10 X10.base hA hn hi b10 hr hr4).useE fun s11 X11 => ?_
  exact ⟨X11.join X10.kp, X11.kp⟩
 ·intro I s9 s10 fI X9 hI k10
  first | (refine lW ?_; intro Ro) | (refine lA ?_; intro Ro) | (refine lC ?_; intro Ro) | skip
  have nI : ∀ a ∈ W, a ≠ I := fun a ha q => by obtain ⟨o, e⟩ := X2.al a (H.wu a ha); rw [q, fI] at e; cases e
  exact ⟨rfl, (X9.it H2 fI nI hI k10).join X2.kp⟩
end
theorem jcg {f : Nat → Int} : Stab (fun i y Y => ∃ t, y = .int (f i) t) := fun Y Y Y Y Y h Y Y => h
theorem jb3 {f : Nat → Int} : StabB (fun i y Y => ∃ t, y = .int (f i) t) := fun Y Y Y Y Y h Y Y => h
theorem stab_liW {U : List Addr} {Pp : Nat → List Int → Prop} : Stab (fun i y s => ∃ ns, liW U intR s.heap y ns ∧ Pp i ns) := fun i y s s' S ⟨ns, ⟨l, vs, e, n, hl, p⟩, h⟩ k hy =>
 ⟨ns, ⟨l, vs, e, n, jaj hl k (hy l e), p⟩, h⟩
theorem stabB_liW {U : List Addr} {Pp : Nat → List Int → Prop} : StabB (fun i y s => ∃ ns, liW U intR s.heap y ns ∧ Pp i ns) := fun i y s C h' ⟨ns, ⟨l, vs, e, n, ⟨ep, hl⟩, p⟩, h⟩ hy hs =>
 ⟨ns, ⟨l, vs, e, n, ⟨ep, (hs.2 l (hy l e)).trans hl⟩, p⟩, h⟩
theorem jbj (n : Nat) : (List.range n).filter (fun Y => true) = List.range n := by simp
theorem jaF {α β γ : Type} {F : α → β → Prop} {G : α → γ → Prop} {g : β → γ} : ∀ {l₁ : List α} {l₂ : List β}, Paired F l₁ l₂ → (∀ a b, b ∈ l₂ → F a b → G a (g b)) → Paired G l₁ (l₂.map g) := by
 intro _ _ p
 induction p with
 | nil => intro _; exact .nil
 | cons a b ih => intro h; exact .cons (h _ _ (List.mem_cons_self ..) a) (ih fun x y hy hf => h x y (List.mem_cons_of_mem _ hy) hf)
theorem ja5 {α β : Type} (xs : List α) (g : α → β) (dflt : α) : (List.range xs.length).map (fun i => g (xs.getD i dflt)) = xs.map g := by
 refine List.ext_getElem? fun j => ?_
 rw [List.getElem?_map, List.getElem?_map]
 by_cases h : j < xs.length
 ·first | (refine lW ?_; intro Ro) | (refine lA ?_; intro Ro) | (refine lC ?_; intro Ro) | skip
  rw [List.getElem?_range h, List.getElem?_eq_getElem h]
  simp [h]
 ·first | (refine lW ?_; intro Ro) | (refine lA ?_; intro Ro) | (refine lC ?_; intro Ro) | skip
  rw [List.getElem?_eq_none (by simpa using h), List.getElem?_eq_none (Nat.not_lt.mp ‹_›)]
  rfl
section
variable {w : World} {B : Heap} {A : Around} {s : Shared} {a d b e c k m x y I l f D dx r cl rl td : Addr} {env cenv : Env} {sc : Scope} {E : Value → Shared → Prop} {W U V : List Addr} {sX : Shared} {rvs : List Value} {rows : List (List Int)} {ks : List Int}
theorem cell_ne_list {v : Option Value} {vs : List Value} (h : s.heap.IsCell c v) (hl : PL s.heap l vs) : l ≠ c := fun q => by
 refine aG ?_; intro gO; obtain ⟨o, ho, hd⟩ := h; unfold gO; clear gO
 obtain ⟨ep, e⟩ := hl
 rw [IsL, q, ho] at e
 cases e; cases hd
theorem cnt_inner {scope : Scope} {p1 p2 p3 p4 p5 pos : Pos} {i t n : Nat} (S : Sta env sc) (T : CompT scope sc [(("thing" : Str), c)] "row" false) (hA : Rm n A) (hclos : closureFor scope env = pure [(("thing" : Str), c)]) (hcB : B.get? c = none) (G : Good w B s)
  (brows : Bnd env "rows" (.ref rl) s) (bth : Bnd env "thing" (.int i t) s) (hcell : env.cells.lookup ("thing" : Str) = some c) (hkth : (jav scope sc).names.lookup ("thing" : Str) = some .cell) (rp : PL s.heap rl rvs) (rr : Paired (liW U intR s.heap) rvs rows) (hlen : ∀ r ∈ rows, i < r.length) (hi : i < 1000) (hr : rows.length ≤ 100) :
  Wp w A (eval (.ListComp (.Subscript (.Name "row" p1) (.Name "thing" p2) p3) [⟨.Name "row" p4, .Name "rows" p5, [], 0⟩] scope pos) env) (fun v s' => ∃ D vs, v = .ref D ∧ s.heap.get? D = none ∧ PL s'.heap D vs ∧ Paired (intR s'.heap) vs (rows.map (·.getD i 0)) ∧ Kp [] s s') s := by
 try (refine lW ?_; intro Ro)
 have hcd := jaR bth hcell
 refine jbV S.ok T hA hclos (List.pairwise_singleton _ _) (fun p hp => by cases List.mem_singleton.mp hp; exact hcB) (jaf S brows ((jaD G rp.list).use fun it s2 It => ?_))
 refine ⟨[rl], rvs.toArray.size, _, fun Y => true, fun j y Y => ∃ t, y = .int ((rows.getD j []).getD i 0) t, G, fun p hp => by cases List.mem_singleton.mp hp; exact ⟨_, hcd⟩, by simpa using cell_ne_list hcd rp, It, jcg (f := fun j => (rows.getD j []).getD i 0), jb3 (f := fun j => (rows.getD j []).getD i 0), by simp; rw [jaa rr]; exact lq8 ‹_› (by rfl), ?_, ?_⟩
 ·intro cenv A' j v s4 Sc hN _ hA' hj hv k4 G4 b4
  obtain ⟨_, hN⟩ := hN
  first | (refine lW ?_; intro Ro) | (refine lA ?_; intro Ro) | (refine lC ?_; intro Ro) | skip
  have rr4 := jab (fun v x h => jan h k4 (jaq (W := U))) rr
  refine aG ?_; intro gO; obtain ⟨row, hrow, l, vs, e, _, hl, hp⟩ := ja4 rr4 (toA hv); unfold gO; clear gO
  subst e
  have hil := hlen row (List.mem_of_getElem? hrow)
  obtain ⟨t', e'⟩ := int_at hp hil
  refine wpAny_tests_nil ⟨rfl, (Kp.refl _).mono al0, fun Y => ?_⟩
  refine ev_at Sc b4 hl (jb2 Sc hN (by simp [List.lookup_cons]) hkth hcd k4) e' hi ⟨⟨t', ?_⟩, (Kp.refl _).mono al0, by simp⟩
  have hj' : rows.getD j [] = row := by simp [List.getD_eq_getElem?_getD, hrow]
  rw [hj']
 ·intro D ys T' s' fD hl ho _ k' G'
  first | (refine lW ?_; intro Ro) | (refine lA ?_; intro Ro) | (refine lC ?_; intro Ro) | skip
  refine ⟨D, ys, rfl, fD, hl, ?_, k'⟩
  have := jbn ho
  rw [jbj, show rvs.toArray.size = rows.length by simp; exact jaa rr] at this
  rw [← ja5 rows (fun r => r.getD i 0) []]
  exact jaF this fun a b Y h => h.1
end
noncomputable def CntP (rows : List (List Int)) (i : Nat) (ns : List Int) : Prop := (∀ z, z ∈ ns ↔ ∃ r ∈ rows, z = r.getD i 0) ∧ ns.Pairwise (· < ·) ∧ ns.length ≤ 3
theorem sorted_strict {ns : List Int} (h : ns.Pairwise (· ≤ ·)) (hn : ns.Nodup) : ns.Pairwise (· < ·) := by
 induction ns with
 | nil => exact .nil
 | cons x xs ih =>
  rw [List.pairwise_cons] at h ⊢
  rw [List.nodup_cons] at hn
  exact ⟨fun y hy => Int.lt_iff_le_and_ne.mpr ⟨h.1 y hy, fun q => hn.1 (q ▸ hy)⟩, ih h.2 hn.2⟩
section
variable {w : World} {B : Heap} {A : Around} {s : Shared} {a d b e c k m x y I l f D dx r cl rl td cr : Addr} {env cenv : Env} {sc : Scope} {E : Value → Shared → Prop} {W U V : List Addr} {sX : Shared} {rvs : List Value} {rows : List (List Int)} {ks : List Int}
theorem cnt_outer {scope scope2 : Scope} {p1 p2 p3 p4 p5 p6 p7 p8 p9 q1 q2 q3 q4 q5 pos : Pos} {n kk : Nat} (S : Sta env sc) (T : CompT scope sc [(("rows" : Str), cr)] "thing" true) (hA : Rm n A) (hn : n < 200) (hclos : closureFor scope env = pure [(("rows" : Str), cr)]) (hcB : B.get? cr = none) (G : Good w B s)
  (T2 : ∀ N, CompT scope2 (jav scope sc) [(("thing" : Str), N)] "row" false) (hf2 : (scope2.names.filter fun x => x.2 == .free).map (·.1) = [("thing" : Str)])
  (hk1 : (jav scope sc).names.lookup ("rows" : Str) = some .cell) (hk2 : (jav scope sc).names.lookup ("thing" : Str) = some .cell) (hk3 : (jav scope2 (jav scope sc)).names.lookup ("thing" : Str) = some .cell)
  (hg1 : (jav scope sc).names.lookup ("sorted" : Str) = some .globalImplicit) (hg2 : (jav scope sc).names.lookup ("set" : Str) = some .globalImplicit) (hg3 : sc.names.lookup ("range" : Str) = some .globalImplicit)
  (hU : ∀ a ∈ U, ∃ o, s.heap.get? a = some o) (brows : Bnd env "rows" (.ref rl) s) (hcell : env.cells.lookup ("rows" : Str) = some cr) (rp : PL s.heap rl rvs) (rr : Paired (liW U intR s.heap) rvs rows) (hlen : ∀ r ∈ rows, r.length = 4) (hr : rows.length ≤ 3) :
  Wp w A (eval (.ListComp (.Call (.Name "sorted" p1) [.Call (.Name "set" p2) [.ListComp (.Subscript (.Name "row" p3) (.Name "thing" p4) p5) [⟨.Name "row" p6, .Name "rows" p7, [], 0⟩] scope2 p8] [] p9] [] q1) [⟨.Name "thing" q2, .Call (.Name "range" q3) [.Constant (.int (4 : Nat)) kk q4] [] q5, [], 0⟩] scope pos) env)
   (fun v s' => ∃ D vs cs, v = .ref D ∧ s.heap.get? D = none ∧ PL s'.heap D vs ∧ Paired (liW U intR s'.heap) vs cs ∧ cs.length = 4 ∧ (∀ i, i < 4 → CntP rows i (cs.getD i [])) ∧ Kp [] s s') s := by
 try (refine lW ?_; intro Ro)
 have hcd := jaR brows hcell
 refine jbV S.ok T hA hclos (List.pairwise_singleton _ _) (fun p hp => by cases List.mem_singleton.mp hp; exact hcB) (jap (jal (.type "range") G S.ok (callWith_type1 (jad (wpAny_Constant_int (jao ?_)))) (by kernel_rfl) hg3 (by kernel_rfl)))
 have kt : Kp [] s { s with toks := s.toks + 1 } := jak (Nat.le_succ _)
 have G1 := G.kp kt al0
 refine (jaH (n := 4) G1 (hA.le (lq6 ‹_› (by rfl)))).useE4 fun r q1 q2 q3 s2 hx0 => ?_
 refine aG ?_; intro gO; obtain ⟨hr', fr, k2⟩ := hx0; unfold gO; clear gO
 have K2 : Kp [] s s2 := (kt.trans k2).mono al0
 have G2 := G.kp K2 al0
 obtain ⟨rs1, rs2⟩ := jaO ⟨4, by exact lqe rfl⟩
 refine (jaI (n := 4) G2 hr' rs1 rs2).use fun it s3 It => ?_
 refine ⟨[], 4, _, fun Y => true, fun j y s => ∃ ns, liW U intR s.heap y ns ∧ CntP rows j ns, G2, fun p hp => by cases List.mem_singleton.mp hp; exact ⟨_, jaw hcd K2 ni0⟩, by simp, It, stab_liW (Pp := fun j ns => CntP rows j ns), stabB_liW (Pp := fun j ns => CntP rows j ns), by exact lqe rfl, ?_, ?_⟩
 ·intro cenv A' j v s4 Sc hN hB hA' hj hv k4 G4 b4
  obtain ⟨t, _, rfl⟩ := hv
  obtain ⟨N, hN⟩ := hN
  have hN : cenv.cells = (("thing" : Str), N) :: [(("rows" : Str), cr)] := hN
  have K4 : Kp [] s s4 := (K2.trans k4).mono al0
  have rp4 := jaj rp K4 ni0
  have rr4 := jab (fun v x h => jan h K4 (jaq (W := U))) rr
  have brow4 : Bnd cenv "rows" (.ref rl) s4 := jb2 Sc hN (by rw [List.lookup_cons, show ((("rows" : Str)) == ("thing" : Str)) = false by decide +kernel]; simp [List.lookup_cons]) hk1 hcd K4
  have hth : cenv.cells.lookup ("thing" : Str) = some N := by rw [hN]; simp [List.lookup_cons]
  have hNB : B.get? N = none := hB N (by unfold Own; rw [hN]; simp)
  refine wpAny_tests_nil ⟨rfl, (Kp.refl _).mono al0, fun Y => ?_⟩
  refine jap (jal (.builtin "sorted") G4 Sc.ok (ja8 (jad ?_)) (by kernel_rfl) hg1 (by kernel_rfl))
  refine jap (jal (.type "set") G4 Sc.ok (callWith_type1 (jad ?_)) (by kernel_rfl) hg2 (by kernel_rfl))
  refine (cnt_inner Sc (T2 N) hA' (jbh (frees := [("thing" : Str)]) (fun Y => N) hf2 (als hth) (List.nil_append _)) hNB G4 brow4 b4 hth hk3 rp4 rr4 (fun r hm => by rw [hlen r hm]; exact hj) (lq0 ‹_› (by rfl)) (lq8 ‹_› (by rfl))).useE2 fun D5 vs5 s5 hx0 => ?_
  refine aG ?_; intro gO; obtain ⟨f5, h5, p5, k5⟩ := hx0; unfold gO; clear gO
  have G5 := G4.kp k5 al0
  refine jao ((call_set_ints hA'.1 G5 h5 p5 (by rw [List.length_map]; exact hr)).useE4 fun D6 L6 ep6 t6 s6 hx0 => ?_)
  refine aG ?_; intro gO; obtain ⟨f6, h6, i6, k6⟩ := hx0; unfold gO; clear gO
  have G6 := G5.kp k6 al0
  have hl6 : L6.length ≤ 3 := Nat.le_trans i6.1 (by rw [List.length_map]; exact hr)
  refine jao ((sorted_set hA'.1 G6 h6 hl6).useE3 fun D7 vs7 ns7 s7 hx0 => ?_)
  refine aG ?_; intro gO; obtain ⟨f7, h7, p7, pm7, so7, k7⟩ := hx0; unfold gO; clear gO
  have K57 : Kp [] s4 s6 := (k5.trans k6).mono al0
  have f7' := K57.back f7
  refine ⟨⟨ns7, ⟨D7, vs7, rfl, fun q => ?_, h7, p7⟩, ?_, ?_, ?_⟩, (K57.trans k7).mono al0, fun a ea => by cases ea; exact f7'⟩
  ·obtain ⟨o, e⟩ := hU _ q
   have := K4.back f7'
   rw [this] at e; cases e
  ·intro z
   rw [pm7.mem_iff, i6.2 z, List.take_length, List.mem_map]
   exact ⟨fun hx0 => by obtain ⟨r, hr, e⟩ := hx0; exact ⟨r, hr, e.symm⟩, fun hx0 => by obtain ⟨r, hr, e⟩ := hx0; exact ⟨r, hr, e.symm⟩⟩
  ·exact sorted_strict so7 (pm7.nodup_iff.mpr h6.nd)
  ·rw [pm7.length_eq, List.length_map]; exact hl6
 ·intro D ys T' s' fD hl ho _ k' G'
  have := jbn ho
  rw [jbj] at this
  have hex : ∀ {ys : List Value} {is : List Nat}, Paired (fun y i => (∃ ns, liW U intR s'.heap y ns ∧ CntP rows i ns) ∧ ∀ a, y = .ref a → a ∉ T') ys is → ∃ cs, Paired (liW U intR s'.heap) ys cs ∧ Paired (CntP rows) is cs := by
   intro ys is p
   induction p with
   | nil => exact ⟨[], .nil, .nil⟩
   | cons h _ ih =>
    refine aG ?_; intro gO; obtain ⟨⟨ns, h1, h2⟩, _⟩ := h; unfold gO; clear gO
    refine aG ?_; intro gO; obtain ⟨cs, c1, c2⟩ := ih; unfold gO; clear gO
    exact ⟨ns :: cs, .cons h1 c1, .cons h2 c2⟩
  refine aG ?_; intro gO; obtain ⟨cs, c1, c2⟩ := hex this; unfold gO; clear gO
  have hl4 : cs.length = 4 := by rw [← jaa c2]; simp
  refine ⟨D, ys, cs, rfl, K2.back fD, hl, c1, hl4, fun i hi => ?_, (K2.trans k').mono al0⟩
  refine aG ?_; intro gO; obtain ⟨x, hx, hc⟩ := ja4 c2 (i := i) (v := i) (by rw [List.getElem?_range hi]); unfold gO; clear gO
  have : cs.getD i [] = x := by simp [List.getD_eq_getElem?_getD, hx]
  rw [this]; exact hc
end
theorem ks_div : ∀ k ∈ ksAt 4 0, Builtin.divisionGoesByPylong k 4 = false ∧ k.fdiv 4 = ((k / 4).toNat : Int) ∧ k.fmod 4 = ((k % 4).toNat : Int) ∧ (k / 4).toNat < 4 ∧ (k % 4).toNat < 4 := by decide +kernel
noncomputable def keyT (rows : List (List Int)) (row : List Int) (k : Int) : Bool := !decide ([row.getD (k / 4).toNat 0, row.getD (k % 4).toNat 0] ∈ pairsOf rows (k / 4).toNat (k % 4).toNat)
section
variable {w : World} {B : Heap} {A : Around} {s : Shared} {a d b e c k m x y I l f D dx r cl rl td cr ct : Addr} {env cenv : Env} {sc : Scope} {E : Value → Shared → Prop} {W U V : List Addr} {sX : Shared} {rvs rv : List Value} {rows : List (List Int)} {ks row : List Int} {kvs : List (Int × Value)} {ep : Nat}
theorem op_fdiv {p q : Int} {t u : Nat} (h0 : q ≠ 0) (h : Builtin.divisionGoesByPylong p q = false) : Wp w A (binaryOp .FloorDiv (.int p t) (.int q u)) (fun v s' => (∃ t', v = .int (p.fdiv q) t') ∧ Kp [] s s') s :=
 PySem.AutoIntOps.floordiv_1 ((fun e => h0 (beq_iff_eq.mp e))) (by rw [h]; simp) ⟨⟨_, rfl⟩, jak (Nat.le_succ _)⟩
theorem key_one {q1 q2 q3 q4 q5 : Pos} {op : Operator} {z : Int} {t kk i : Nat} {Q : Value → Shared → Prop} (G : Good w B s) (S : Sta env sc) (hr : Bnd env "row" (.ref r) s) (hk : Bnd env "key" (.int z t) s) (hl : PL s.heap r rv) (p : Paired (intR s.heap) rv row) (hi : i < row.length) (hb : row.length ≤ 1000)
  (ho : ∀ (A : Around) s u, Wp w A (binaryOp op (.int z t) (.int (4 : Nat) u)) (fun v s' => (∃ t', v = .int i t') ∧ Kp [] s s') s) (h : ∀ v s', (∃ t', v = .int (row.getD i 0) t') → Kp [] s s' → Q v s') :
  wpAny (model P0 w) A (eval (.Subscript (.Name "row" q1) (.BinOp (.Name "key" q2) op (.Constant (.int (4 : Nat)) kk q3) q4) q5) env) Q E s := by
 try (refine lW ?_; intro Ro)
 obtain ⟨t', e'⟩ := int_at p hi
 refine ev_item (jaf S hr (wpAny_BinOp (jaf S hk (wpAny_Constant_int ((ho _ _ _).use fun v s2 hx0 => ?_)))))
 refine aG ?_; intro gO; obtain ⟨⟨t2, e2⟩, k2⟩ := hx0; unfold gO; clear gO
 have kt : Kp [] s { s with toks := s.toks + 1 } := jak (Nat.le_succ _)
 have K2 : Kp [] s s2 := (kt.trans k2).mono al0
 exact ⟨r, rv, i, t2, _, rfl, e2, jaj hl K2 ni0, by omega, by omega, by simpa using e', h _ _ ⟨t', rfl⟩ K2⟩
theorem key_test {q1 q2 q3 q4 q5 q6 q7 q8 q9 u1 u2 u3 u4 u5 u6 : Pos} {z : Int} {t k1 k2 n : Nat} (G : Good w B s) (S : Sta env sc) (hA : Rm n A) (hn : n < 240) (hrow : Bnd env "row" (.ref r) s) (hk : Bnd env "key" (.int z t) s) (htab : Bnd env "tables" (.ref td) s) (hl : PL s.heap r rv) (p : Paired (intR s.heap) rv row) (h4 : row.length = 4)
  (hz : z ∈ ksAt 4 0) (hd : Dt w s.heap td kvs ep) (hp : Paired (tabR U rows s.heap) kvs (ksAt 4 0)) (hU : ∀ a ∈ U, ∃ o, s.heap.get? a = some o) :
  Wp w A (isTrue (.Compare (.List [.Subscript (.Name "row" q1) (.BinOp (.Name "key" q2) .FloorDiv (.Constant (.int (4 : Nat)) k1 q3) q4) q5, .Subscript (.Name "row" q6) (.BinOp (.Name "key" q7) .Mod (.Constant (.int (4 : Nat)) k2 q8) q9) u1] u2) [.NotIn] [.Subscript (.Name "tables" u3) (.Name "key" u4) u5] u6) env
   (eval (.Compare (.List [.Subscript (.Name "row" q1) (.BinOp (.Name "key" q2) .FloorDiv (.Constant (.int (4 : Nat)) k1 q3) q4) q5, .Subscript (.Name "row" q6) (.BinOp (.Name "key" q7) .Mod (.Constant (.int (4 : Nat)) k2 q8) q9) u1] u2) [.NotIn] [.Subscript (.Name "tables" u3) (.Name "key" u4) u5] u6) env)) (fun b s' => b = keyT rows row z ∧ Kp [] s s') s := by
 try (refine lW ?_; intro Ro)
 refine aG ?_; intro gO; obtain ⟨d1, d2, d3, d4, d5⟩ := ks_div z hz; unfold gO; clear gO
 refine wpAny_isTrue_Compare1 (jaU (B := B) (jad (key_one G S hrow hk hl p (i := (z / 4).toNat) (lqm ‹_› ‹_›) (lq9 ‹_› (by rfl)) (fun A s u => (op_fdiv (by decide) d1).use fun v s' ⟨⟨t', e⟩, k⟩ => ⟨⟨t', by rw [e]; congr 1⟩, k⟩) fun v1 s1 i1 c1 => ?_)))
 have G1 := G.kp c1 al0
 refine jad (key_one G1 S (jae hrow c1) (jae hk c1) (jaj hl c1 ni0) p (i := (z % 4).toNat) (lqm ‹_› ‹_›) (lq9 ‹_› (by rfl)) (fun A s u => (op_mod (by decide)).use fun v s' ⟨⟨t', e⟩, k⟩ => ⟨⟨t', by rw [e]; congr 1⟩, k⟩) fun v2 s2 i2 c2 => ?_)
 have G2 := G1.kp c2 al0
 refine jao ⟨G2, by simp, fun D s3 f3 h3 c3 => ?_⟩
 have C3 : Kp [] s s3 := ((c1.trans c2).trans c3).mono al0
 have hD : liW U intR s3.heap (.ref D) [row.getD (z / 4).toNat 0, row.getD (z % 4).toNat 0] := jbt hU ((c1.trans c2).back f3) h3 (.cons i1 (.cons i2 .nil)) rfl
 have G3 := G2.kp c3 al0
 have hd3 := dt_kp hd C3 ni0
 have hp3 := jah (fun Y Y h => tabR_kp h C3 (jaq (W := U))) hp
 obtain ⟨j, hj⟩ := List.mem_iff_getElem?.mp hz
 refine aG ?_; intro gO; obtain ⟨kv, hkv, e1, l, vs, e2, _, hvs, pvs⟩ := paired_ta hp3 hj; unfold gO; clear gO
 obtain ⟨kz, kvv⟩ := kv
 simp only at e1 e2
 subst e1 e2
 refine Subscript_ (jaf S (jae htab C3) (jaf S (jae hk C3) (subscriptTail_builtin (T := "dict") hd3.dictOf.typeIs slot_dict_getitem.lookup (dt_get hd3 (List.mem_of_getElem? hkv) fun s4 c4 => ?_))))
 have hvs4 := jaj hvs c4 ni0
 have pvs4 := jab (fun v x h => jan h c4 (jaq (W := U))) pvs
 have hD4 := jan hD c4 (jaq (W := U))
 have hu := hA.2.2
 refine (notin_list (n := 1) (liW_func jbi) (eqOk_liW (W := U) jbi jbq) (by unfold cLine; omega) ⟨l, vs, rfl, hvs4, pvs4⟩ hD4).use fun r s5 hx0 => ?_
 obtain ⟨er, es⟩ := hx0
 subst er es
 refine wpAny_truthy_bool ⟨?_, (C3.trans c4).mono al0⟩
 unfold keyT
 congr 1
 rw [Bool.eq_iff_iff]
 simp
end
noncomputable def okRow (rows : List (List Int)) (row : List Int) : Bool := ((ksAt 4 0).filter (keyT rows row)).isEmpty
section
variable {w : World} {B : Heap} {A : Around} {s : Shared} {a d b e c k m x y I l f D dx r cl rl td cr ct : Addr} {env cenv : Env} {sc : Scope} {E : Value → Shared → Prop} {W U V : List Addr} {sX : Shared} {rvs rv : List Value} {rows : List (List Int)} {ks row : List Int} {kvs : List (Int × Value)} {ep : Nat}
theorem dt_ne_cell {v : Option Value} (h : s.heap.IsCell c v) (hd : Dt w s.heap d kvs ep) : d ≠ c := fun q => by
 obtain ⟨o, ho, hx⟩ := h
 obtain ⟨o', es, ho', _, hd', _⟩ := hd
 rw [q, ho] at ho'
 cases ho'
 rw [hx] at hd'; cases hd'
theorem key_comp {scope : Scope} {q0 q1 q2 q3 q4 q5 q6 q7 q8 q9 u1 u2 u3 u4 u5 u6 u7 u8 pos pl pe : Pos} {k1 k2 n : Nat} (S : Sta env sc) (T : CompT scope sc [(("tables" : Str), ct), ("row", cr)] "key" false) (hA : Rm n A) (hn : n < 240) (hclos : closureFor scope env = pure [(("tables" : Str), ct), ("row", cr)]) (hctB : B.get? ct = none) (hcrB : B.get? cr = none) (hne : ct ≠ cr) (G : Good w B s)
  (hk1 : (jav scope sc).names.lookup ("tables" : Str) = some .cell) (hk2 : (jav scope sc).names.lookup ("row" : Str) = some .cell)
  (btab : Bnd env "tables" (.ref td) s) (hct : env.cells.lookup ("tables" : Str) = some ct) (brow : Bnd env "row" (.ref r) s) (hcr : env.cells.lookup ("row" : Str) = some cr)
  (hl : PL s.heap r rv) (p : Paired (intR s.heap) rv row) (h4 : row.length = 4) (hd : Dt w s.heap td kvs ep) (hp : Paired (tabR U rows s.heap) kvs (ksAt 4 0)) (hU : ∀ a ∈ U, ∃ o, s.heap.get? a = some o) (hds : (td == sysModules) = false) :
  Wp w A (isTrue (.Compare (.ListComp (.Name "key" q0) [⟨.Name "key" u7, .Name "tables" u8, [.Compare (.List [.Subscript (.Name "row" q1) (.BinOp (.Name "key" q2) .FloorDiv (.Constant (.int (4 : Nat)) k1 q3) q4) q5, .Subscript (.Name "row" q6) (.BinOp (.Name "key" q7) .Mod (.Constant (.int (4 : Nat)) k2 q8) q9) u1] u2) [.NotIn] [.Subscript (.Name "tables" u3) (.Name "key" u4) u5] u6], 0⟩] scope pos) [.Eq] [.List [] pl] pe) env
   (eval (.Compare (.ListComp (.Name "key" q0) [⟨.Name "key" u7, .Name "tables" u8, [.Compare (.List [.Subscript (.Name "row" q1) (.BinOp (.Name "key" q2) .FloorDiv (.Constant (.int (4 : Nat)) k1 q3) q4) q5, .Subscript (.Name "row" q6) (.BinOp (.Name "key" q7) .Mod (.Constant (.int (4 : Nat)) k2 q8) q9) u1] u2) [.NotIn] [.Subscript (.Name "tables" u3) (.Name "key" u4) u5] u6], 0⟩] scope pos) [.Eq] [.List [] pl] pe) env)) (fun b s' => b = okRow rows row ∧ Kp [] s s') s := by
 have hcd1 := jaR btab hct
 have hcd2 := jaR brow hcr
 have hlenk : kvs.length = (ksAt 4 0).length := jaa hp
 refine wpAny_isTrue_Compare1 (jbV S.ok T hA hclos (pw2 hne) (fun p hp => by
   rcases List.mem_cons.mp hp with rfl | hp
   ·exact hctB
   ·cases List.mem_singleton.mp hp; exact hcrB) (jaf S btab ((iter_dict G hd hds).use fun it s2 It => ?_)))
 refine ⟨[td], kvs.length, _, fun i => keyT rows row ((ksAt 4 0).getD i 0), fun i y Y => ∃ t, y = .int ((ksAt 4 0).getD i 0) t, G, fun p hp => by
   rcases List.mem_cons.mp hp with rfl | hp
   ·exact ⟨_, hcd1⟩
   ·cases List.mem_singleton.mp hp; exact ⟨_, hcd2⟩, by
   intro a ha
   cases List.mem_singleton.mp ha
   simp only [List.map_cons, List.map_nil, List.mem_cons, List.not_mem_nil, or_false, not_or]
   exact ⟨dt_ne_cell hcd1 hd, dt_ne_cell hcd2 hd⟩, It, jcg (f := fun i => (ksAt 4 0).getD i 0), jb3 (f := fun i => (ksAt 4 0).getD i 0), by rw [hlenk]; decide +kernel, ?_, ?_⟩
 ·intro cenv A' j v s4 Sc hN _ hA' hj hv k4 G4 b4
  obtain ⟨N, hN⟩ := hN
  have hN : cenv.cells = [(("tables" : Str), ct), ("row", cr)] := hN
  obtain ⟨z, u, t, hkv, rfl⟩ := hv
  obtain ⟨z', hz', e1, _⟩ := ja4 hp hkv
  simp only at e1
  subst e1
  have hg : (ksAt 4 0).getD j 0 = z := by rw [List.getD_eq_getElem?_getD, hz']; rfl
  dsimp only
  rw [hg]
  have htab : Bnd cenv "tables" (.ref td) s4 := jb2 Sc hN (by simp [List.lookup_cons]) hk1 hcd1 k4
  have hrow : Bnd cenv "row" (.ref r) s4 := jb2 Sc hN (by rw [List.lookup_cons, show (((("row" : Str)) == (("tables" : Str)))) = false by decide +kernel]; simp [List.lookup_cons]) hk2 hcd2 k4
  refine wpAny_tests_one ((key_test G4 Sc hA' hn hrow b4 htab (jaj hl k4 ni0) p h4 (List.mem_of_getElem? hz') (dt_kp hd k4 ni0) (jah (fun Y Y h => tabR_kp h k4 (jaq (W := U))) hp) (fun a ha => let ⟨_, e⟩ := hU a ha; k4.there _ _ e)).use fun b s5 ⟨eb, k5⟩ => ⟨eb, k5, fun Y => ?_⟩)
  exact jaf Sc (jae b4 k5) ⟨⟨t, rfl⟩, (Kp.refl _).mono al0, by simp⟩
 ·intro D ys T' s' fD hl' ho _ k' G'
  have hs := jbn ho
  have hys : Paired (intR s'.heap) ys ((ksAt 4 0).filter (keyT rows row)) := by
   have h1 : ((List.range kvs.length).filter fun i => keyT rows row ((ksAt 4 0).getD i 0)).map (fun i => (ksAt 4 0).getD i 0) = (ksAt 4 0).filter (keyT rows row) := by
    rw [hlenk]
    conv => rhs; rw [← List.map_id (ksAt 4 0), ← ja5 (ksAt 4 0) id 0]
    rw [List.filter_map]
    rfl
   rw [← h1]
   exact jaF hs fun a b Y h => h.1
  refine jaU (B := B) (jao ⟨G', by simp, fun D2 s3 f3 h3 k3 => ?_⟩)
  have hl3 := jaj hl' k3 ni0
  refine PySem.EqBoolInt.of_rc (rc_list (n := 0) jbq (by have := hA.2.2; unfold cLine; exact lqn ‹_› ‹_› (by rfl)) ⟨D, ys, rfl, hl3, hys⟩ ⟨D2, [], rfl, h3, .nil⟩) ?_
  refine wpAny_truthy_bool ⟨?_, (k'.trans k3).mono al0⟩
  unfold okRow
  rw [Bool.eq_iff_iff, List.isEmpty_iff]
  simp
end
section
variable {w : World} {B : Heap} {A : Around} {s : Shared} {a d b e c k m x y I l f D dx r cl rl td cr ct dl : Addr} {env cenv : Env} {sc : Scope} {E : Value → Shared → Prop} {W U V : List Addr} {sX : Shared} {rvs rv cvals : List Value} {rows cands : List (List Int)} {ks row : List Int} {kvs : List (Int × Value)} {ep : Nat}
theorem compT {scope sc : Scope} {cl : List (Str × Addr)} {x : Str} {xc : Bool} (h1 : scope.kind = .function) (h2 : (scope.names.all fun y => !(y.2 == .local) || (scope.names.lookup y.1 == some .local)) = true) (h3 : ∀ N, cellsFrom N scope.names cl = if xc then (x, N) :: cl else cl) (h4 : ∀ h, pushCells h scope.names = if xc then h.push { cls := .type "cell", data := .cell none } else h)
  (h5 : cl.lookup x = none) (h6 : (jav scope sc).names.lookup x = some (if xc then .cell else .local)) : CompT scope sc cl x xc :=
 ⟨h1, fun y hy hl => by
  have := List.all_eq_true.mp h2 y hy
  rw [hl] at this
  simpa using this, h3, h4, h5, h6⟩
theorem swap_cell {elt : Expr} {gens : List Comprehension} {scope : Scope} {pos pp : Pos} {t : Str} {ln : Nat} (h : env.kindOf t = some .cell) : swapsWith (.ListComp elt gens scope pos) (some (.Name t pp)) ln env = pure false := by
 unfold swapsWith
 show (pure (env.blockKind == .function && env.kindOf t == some .local && _ && _) : Sem Bool) = _
 rw [h]
 rw [show ((some NameKind.cell : Option NameKind) == some NameKind.local) = false by decide, Bool.and_false, Bool.false_and, Bool.false_and]
structure DuF (w : World) (B : Heap) (env : Env) (W U : List Addr) (rl td dl : Addr) (rvs cvals : List Value) (rows cands : List (List Int)) (sX s : Shared) (n : Nat) : Prop where
 du : DuI w B env W U rl td rvs rows sX s (ksAt 4 0)
 bd : Bnd env "due" (.ref dl) s
 pl : ∃ vs, PL s.heap dl vs ∧ Paired (liW U intR s.heap) vs ((cands.take n).filter (okRow rows))
 pc : Paired (liW U intR s.heap) cvals cands
noncomputable abbrev lastB : List Stmt := forB duB[4]!
theorem filter_step {xs : List (List Int)} {f : List Int → Bool} {i : Nat} {x : List Int} (h : xs[i]? = some x) : (xs.take (i + 1)).filter f = (xs.take i).filter f ++ (if f x = true then [x] else []) := by
 rw [List.take_add_one, h]
 simp [List.filter_append, List.filter_cons]
theorem du_turn {n i : Nat} (hsc : sc = jas (lawS "_law_due")) (H : DuE B env sc W U rl td sX) (X : DuF w B env W U rl td dl rvs cvals rows cands sX s i) (hA : Rm n A) (hn : n < 200) (hdl : dl ∈ W) (hdo : dl ∉ Own env) (hdt : dl ≠ td) (hc : cands[i]? = some row) (h4 : row.length = 4) (hlen : cands.length ≤ 1000)
  (hcells : env.cells = [(("counts" : Str), env.locals + 1 + 1 + 1 + 1), ("row", env.locals + 1 + 1 + 1), ("tables", env.locals + 1 + 1), ("rows", env.locals + 1)]) (hds : (td == sysModules) = false) {v : Value} (brow : Bnd env "row" v s) (hv : liW U intR s.heap v row) :
  Wp w A (execs lastB env) (fun f s' => f = .next ∧ DuF w B env W U rl td dl rvs cvals rows cands sX s' (i + 1)) s := by
 refine lW ?_
 intro Ro
 have e1 : lastB = [lastB[0]!] := by kernel_rfl
 rw [e1]
 subst hsc
 obtain ⟨r, rv, rfl, nr, hl, p⟩ := hv
 obtain ⟨kvs, ep, hd, hp⟩ := X.du.tt
 have hct : env.cells.lookup ("tables" : Str) = some (env.locals + 1 + 1) := by rw [hcells]; rfl
 have hcr : env.cells.lookup ("row" : Str) = some (env.locals + 1 + 1 + 1) := by rw [hcells]; rfl
 have oB : ∀ a ∈ Own env, B.get? a = none := fun a ha => H.bw _ (H.own a ha)
 have o1 : env.locals + 1 + 1 ∈ Own env := by unfold Own; rw [hcells]; simp
 have o2 : env.locals + 1 + 1 + 1 ∈ Own env := by unfold Own; rw [hcells]; simp
 refine wpAny_execs_cons (wpAny_If ((key_comp (ct := env.locals + 1 + 1) (cr := env.locals + 1 + 1 + 1) (n := n) (U := U) H.sta (compT (by kernel_rfl) (by kernel_rfl) (fun Y => by kernel_rfl) (fun Y => by kernel_rfl) (by kernel_rfl) (by kernel_rfl)) hA (lq0 hn rfl)
  (jbh (frees := ["row", "tables"]) (fun z => if z = ("row" : Str) then env.locals + 1 + 1 + 1 else env.locals + 1 + 1) (by kernel_rfl) (by
   intro z hz
   simp only [List.mem_cons, List.not_mem_nil, or_false] at hz
   rcases hz with rfl | rfl
   ·rw [if_pos rfl]; exact hcr
   ·rw [if_neg (by decide +kernel)]; exact hct) (by
   simp only [List.map_cons, List.map_nil, List.reverse_cons, List.reverse_nil, List.nil_append, List.cons_append]
   rw [if_neg (by decide +kernel)]
   simp)) (oB _ o1) (oB _ o2) (Nat.ne_of_lt (Nat.lt_succ_self _)) X.du.g (by kernel_rfl) (by kernel_rfl) X.du.bt hct brow hcr hl p h4 hd hp X.du.al hds).use fun b s1 ⟨eb, k1⟩ => ?_))
 have X1 := X.du.ex H k1
 have bd1 := jae X.bd k1
 have pc1 := jab (fun v x h => jan h k1 (jaq (W := U))) X.pc
 obtain ⟨vs, hvs, pvs⟩ := X.pl
 have hvs1 := jaj hvs k1 ni0
 have pvs1 := jab (fun v x h => jan h k1 (jaq (W := U))) pvs
 have hst := filter_step (f := okRow rows) hc
 subst eb
 cases hb : okRow rows row with
 | false =>
  rw [if_neg (by decide)]
  rw [hb, if_neg (by decide), List.append_nil] at hst
  exact wpAny_execs_nil (wpAny_execs_nil ⟨rfl, X1, bd1, ⟨vs, hvs1, by rw [hst]; exact pvs1⟩, pc1⟩)
 | true =>
  rw [if_pos rfl]
  rw [hb, if_pos rfl] at hst
  have hvl : vs.length ≤ 1000 := by
   rw [jaa pvs]
   refine Nat.le_trans (List.length_filter_le _ _) ?_
   rw [List.length_take]; exact Nat.le_trans (Nat.min_le_right _ _) ‹_›
  refine wpAny_execs_cons (jcn (B := B) H.sta.ok ?_)
  refine jaf H.sta bd1 ⟨dl, vs, rfl, hvs1, jaf H.sta (jae brow k1) ⟨hvs1, hvl, H.bw _ hdl, X1.g, fun s4 h4' k4 G4 => ?_⟩⟩
  have n4 : NoL U s1 [dl] := ja9 (by simpa using H.wu _ hdl)
  have b4 : ∀ y u, Bnd env y u s1 → Bnd env y u s4 := fun y u h => jaA h k4 fun a ha q => hdo (by cases List.mem_singleton.mp q; exact ha)
  refine wpAny_execs_nil (wpAny_execs_nil ⟨rfl, X1.to H k4 (by simpa using .inl hdl) (ja9 (al1 hdl)) (by simpa using fun q : rl = dl => H.rw' (q ▸ hdl)) (by simpa using Ne.symm hdt) G4 (ja0 X1.f k4 (fun a ha q => hdo (by cases List.mem_singleton.mp q; exact ha))) (fun y u Y h => b4 y u h), b4 _ _ bd1, ⟨_, h4', ?_⟩, jab (fun v x h => jan h k4 n4) pc1⟩)
  rw [hst]
  exact (jab (fun v x h => jan h k4 n4) pvs1).snoc (jan (jan ⟨r, rv, rfl, nr, hl, p⟩ k1 jaq) k4 n4)
end
section
variable {w : World} {B : Heap} {A : Around} {s : Shared} {a d b e c k m x y I l f D dx r cl rl td cr ct dl : Addr} {env cenv : Env} {sc : Scope} {E : Value → Shared → Prop} {W U V : List Addr} {sX : Shared} {rvs rv cvals : List Value} {rows cands : List (List Int)} {ks row : List Int} {kvs : List (Int × Value)} {ep : Nat}
theorem flat_len {α β : Type} {g : α → List β} {m : Nat} : ∀ {xs : List α}, (∀ x ∈ xs, (g x).length ≤ m) → (xs.flatMap g).length ≤ xs.length * m := by
 intro xs
 induction xs with
 | nil =>
  rintro _
  simp
 | cons x xs ih =>
  rintro h
  have h1 := h x (List.mem_cons_self ..)
  have h2 := ih fun y hy => h y (List.mem_cons_of_mem _ hy)
  rw [List.flatMap_cons, List.length_append, List.length_cons, Nat.add_mul]
  exact lsl ‹_› ‹_›
theorem prod_len : ∀ (cs : List (List Int)) (p : List Int), (∀ z ∈ cs, z.length ≤ 3) → (prod cs p).length ≤ 3 ^ cs.length := by
 intro cs
 induction cs with
 | nil =>
  rintro p _
  simp [prod]
 | cons z zs ih =>
  rintro p h
  have h1 := flat_len (xs := z) (g := fun v => prod zs (p ++ [v])) (m := 3 ^ zs.length) fun v Y => ih _ fun y hy => h y (List.mem_cons_of_mem _ hy)
  have h2 := h z (List.mem_cons_self ..)
  refine Nat.le_trans h1 ?_
  rw [List.length_cons, Nat.pow_succ, Nat.mul_comm]
  exact Nat.mul_le_mul_left _ h2
theorem prod_mem : ∀ (cs : List (List Int)) (p r : List Int), r ∈ prod cs p → r.length = p.length + cs.length := by
 intro cs
 induction cs with
 | nil =>
  rintro p r h
  simp [prod] at h; subst h; rfl
 | cons z zs ih =>
  rintro p r h
  unfold prod at h
  refine aG ?_; intro gO; obtain ⟨v, _, hr⟩ := List.mem_flatMap.mp h; unfold gO; clear gO
  have := ih _ r hr
  rw [this, List.length_append, List.length_cons]
  simp
  exact Nat.succ_add _ _
noncomputable def dueOf (rows : List (List Int)) (cs : List (List Int)) : List (List Int) := (prod cs []).filter (okRow rows)
theorem due_call {n : Nat} (G : Good w B s) (hA : Rm n A) (hn : n < 190) (hV : ∀ a ∈ V, ∃ o, s.heap.get? a = some o) (rp : PL s.heap rl rvs) (rr : Paired (liW V intR s.heap) rvs rows) (hr : rows.length ≤ 3) (hr4 : ∀ r ∈ rows, r.length = 4) :
  codeAny (model P0 w) A (.call (.ref 1109) ⟨[.ref rl], []⟩) (fun r s' => ∃ fl vs cs, r = .ok (.ret (.ref fl)) ∧ s.heap.get? fl = none ∧ PL s'.heap fl vs ∧ cs.length = 4 ∧ (∀ i, i < 4 → CntP rows i (cs.getD i [])) ∧ Paired (liW V intR s'.heap) vs (dueOf rows cs) ∧ Kp [] s s') s := by
 try (refine lC ?_; intro Ro)
 refine jcm G hA (lq0 hn rfl) (fn_due _) (sc_due _) (binds := [("rows", .ref rl)]) (by kernel_rfl) (fun N => by kernel_rfl) fun env A' s1 X R1 => ?_
 have G1 := G.kp X.kp al0
 have S := X.sta
 have own := X.own
 have ownB : ∀ a ∈ Own env, B.get? a = none := fun a ha => G.new (own a ha)
 have hcells : env.cells = [(("counts" : Str), env.locals + 1 + 1 + 1 + 1), ("row", env.locals + 1 + 1 + 1), ("tables", env.locals + 1 + 1), ("rows", env.locals + 1)] := X.cells.trans (by kernel_rfl)
 have e1 : duB = [duB[0]!, duB[1]!, duB[2]!, duB[3]!, duB[4]!, duB[5]!] := by kernel_rfl
 have b1 : Bnd env "rows" (.ref rl) s1 := X.bndC (by kernel_rfl) (fun Y => Option.isSome_iff_exists.mp (by kernel_rfl)) (by kernel_rfl)
 have setL : ∀ x ∈ ([("one" : Str), "two", "due"] : List Str), jaB env x := by
  intro x hx
  simp only [List.mem_cons, List.not_mem_nil, or_false] at hx
  rcases hx with rfl | rfl | rfl <;> exact X.setL (by kernel_rfl) (fun Y => by kernel_rfl)
 have setC : ∀ x ∈ ([("row" : Str), "counts", "tables"] : List Str), jaB env x := by
  intro x hx
  simp only [List.mem_cons, List.not_mem_nil, or_false] at hx
  rcases hx with rfl | rfl | rfl <;> exact X.setC (by kernel_rfl) (fun Y => Option.isSome_iff_exists.mp (by kernel_rfl))
 have set : ∀ x ∈ ([("one" : Str), "two", "row", "counts", "due"] : List Str), jaB env x := by
  intro x hx
  simp only [List.mem_cons, List.not_mem_nil, or_false] at hx
  rcases hx with rfl | rfl | rfl | rfl | rfl
  ·exact setL _ (List.mem_cons_self ..)
  ·exact setL _ (List.Mem.tail _ (List.Mem.head _))
  ·exact setC _ (List.mem_cons_self ..)
  ·exact setC _ (List.Mem.tail _ (List.Mem.head _))
  ·exact setL _ (List.Mem.tail _ (List.Mem.tail _ (List.Mem.head _)))
 show wpAny _ _ (execs duB env) _ _ _
 rw [e1]
 refine wpAny_execs_cons (wpAny_Assign_Name (wpAny_Dict_empty ?_))
 have ftd : s1.heap.get? s1.heap.objs.size = none := jag
 have k2 : Kp [] s1 { s1 with heap := s1.heap.push { cls := .type "dict", data := .dict #[] } } := jar G1
 have hd2 : Dt w ({ s1 with heap := s1.heap.push { cls := .type "dict", data := .dict #[] } } : Shared).heap s1.heap.objs.size [] 0 :=
  ⟨_, #[], Heap.get?_push_size _ rfl, ⟨rfl, rfl, rfl⟩, rfl, fun e he => by simp at he, .nil, by simp⟩
 generalize s1.heap.objs.size = td at ftd hd2 ⊢
 generalize ({ s1 with heap := s1.heap.push { cls := .type "dict", data := .dict #[] } } : Shared) = s2 at k2 hd2 ⊢
 have G2 := G1.kp k2 al0
 refine jaY G2 S (ja0 X.frm k2 nn0) ownB (fun s3 bt3 F3 hk3 k3 g3 G3 => ?_) (setC _ (List.Mem.tail _ (List.Mem.tail _ (List.Mem.head _))))
 have K12 : Kp [] s s2 := (X.kp.trans k2).mono al0
 have ftds : s.heap.get? td = none := X.kp.back ftd
 have aO1 := X.alive (ks := ["counts", "row", "tables", "rows"]) (fun Y => by kernel_rfl) (by decide +kernel)
 have ntd : td ∉ Own env := fun q => by obtain ⟨o, e⟩ := aO1 td q; rw [ftd] at e; cases e
 have K13 : Kp [] s s3 := K12.comp0 G k3 (by simpa using own _ jac)
 have hd3 : Dt w s3.heap td [] 0 := dt_kp hd2 k3 (by simpa using fun q : td = jai env "tables" => ntd (q ▸ jac))
 have atd : ∃ o, s3.heap.get? td = some o := by obtain ⟨o, _, ho, _⟩ := hd3; exact ⟨o, ho⟩
 have aO : ∀ a ∈ Own env, ∃ o, s3.heap.get? a = some o := fun a ha => by
  obtain ⟨o, e⟩ := aO1 a ha
  obtain ⟨o, e⟩ := k2.there _ _ e
  exact k3.there _ _ e
 have aW : ∀ a ∈ td :: Own env, ∃ o, s3.heap.get? a = some o := fun a ha => by
  rcases List.mem_cons.mp ha with rfl | ha
  ·exact atd
  ·exact aO a ha
 have fW : ∀ a ∈ td :: Own env, s.heap.get? a = none := fun a ha => by
  rcases List.mem_cons.mp ha with rfl | ha
  ·exact ftds
  ·exact own a ha
 have arl : ∃ o, s.heap.get? rl = some o := by obtain ⟨ep, e⟩ := rp; exact ⟨_, e⟩
 have H0 : DuE B env (jas (lawS "_law_due")) (td :: Own env) ((td :: Own env) ++ V) rl td s3 :=
  { sta := S, own := fun a ha => List.mem_cons_of_mem _ ha, tw' := List.mem_cons_self .., to' := ntd, rw' := (fun q => by obtain ⟨o, e⟩ := arl; rw [fW _ q] at e; cases e),
    wu := fun a ha => List.mem_append_left _ ha, bw := fun a ha => G.new (fW a ha), bx := fun a o e => by obtain ⟨o', e'⟩ := G.old.there _ _ e; exact K13.there _ _ e'
    tw := by obtain ⟨o, e⟩ := G.two; exact K13.there _ _ e
    set := set }
 have X3 : DuI w B env (td :: Own env) ((td :: Own env) ++ V) rl td rvs rows s3 s3 [] :=
  { g := G3, f := F3, kp := (Kp.refl _).mono al0, br := hk3 _ _ (by decide +kernel) (jae b1 k2), bt := bt3, rp := jaj rp K13 ni0, rr := jah (fun v x h => jan (liW_up h fW) K13 jaq) rr,
    tt := ⟨[], 0, hd3, .nil⟩
    al := fun a ha => (List.mem_append.mp ha).elim (aW a) fun q => by obtain ⟨o, e⟩ := hV a q; exact K13.there _ _ e }
 refine wpAny_execs_cons ((du_tables rfl H0 X3 R1 (lq2 hn rfl) (lq8 ‹_› (by rfl)) hr4).useE fun s4 X4 => ?_)
 have hrows : env.cells.lookup ("rows" : Str) = some (env.locals + 1) := by rw [hcells]; rfl
 have hcnt : env.cells.lookup ("counts" : Str) = some (env.locals + 1 + 1 + 1 + 1) := by rw [hcells]; rfl
 have o1 : env.locals + 1 ∈ Own env := by unfold Own; rw [hcells]; simp
 have o4 : env.locals + 1 + 1 + 1 + 1 ∈ Own env := by unfold Own; rw [hcells]; simp
 refine wpAny_execs_cons (wpAny_Assign_Name ?_ (swap_cell (S.ok.kind (by kernel_rfl))))
 refine (cnt_outer (cr := env.locals + 1) (n := n + 1) (U := (td :: Own env) ++ V) S (compT (by kernel_rfl) (by kernel_rfl) (fun Y => by kernel_rfl) (fun Y => by kernel_rfl) (by kernel_rfl) (by kernel_rfl)) R1 (lq2 hn rfl)
  (jbh (frees := ["rows"]) (fun Y => env.locals + 1) (by kernel_rfl) (als hrows) (List.nil_append _)) (ownB _ o1) X4.g (fun N => compT (by kernel_rfl) (by kernel_rfl) (fun Y => by kernel_rfl) (fun Y => by kernel_rfl) (by kernel_rfl) (by kernel_rfl)) (by kernel_rfl)
  (by kernel_rfl) (by kernel_rfl) (by kernel_rfl) (by kernel_rfl) (by kernel_rfl) (by kernel_rfl) X4.al X4.br hrows X4.rp X4.rr hr4 hr).useE3 fun cl cvs cs s5 hx0 => ?_
 refine aG ?_; intro gO; obtain ⟨fcl, hcl, pcl, l4, hcs, k5⟩ := hx0; unfold gO; clear gO
 have X5 := X4.ex H0 k5
 refine jaY X5.g S X5.f ownB (fun s6 bc6 F6 hk6 k6 g6 G6 => ?_) (setC ("counts" : Str) (List.Mem.tail _ (List.Mem.head _)))
 have clW : cl ∉ (td :: Own env) ++ V := fun q => by obtain ⟨o, e⟩ := X4.al _ q; rw [fcl] at e; cases e
 have sl6 : jai env "counts" ∈ td :: Own env := List.mem_cons_of_mem _ jac
 have n6 : NoL ((td :: Own env) ++ V) s5 [jai env "counts"] := ja9 (fun a ha => by cases List.mem_singleton.mp ha; exact List.mem_append_left V sl6)
 have X6 : DuI w B env (td :: Own env) ((td :: Own env) ++ V) rl td rvs rows s3 s6 (ksAt 4 0) := X5.to H0 k6 (fun a ha => by cases List.mem_singleton.mp ha; exact .inl sl6) (ja9 (fun a ha => by cases List.mem_singleton.mp ha; exact sl6)) (by simpa using fun q : rl = jai env "counts" => H0.rw' (q ▸ sl6)) (by simpa using fun q : td = jai env "counts" => ntd (q ▸ jac)) G6 F6
  (fun y u hy h => hk6 y u (by
   simp only [List.mem_cons, List.not_mem_nil, or_false] at hy
   rcases hy with rfl | rfl <;> decide +kernel) h)
 have hcl6 := jaj hcl k6 (by simpa using fun q : cl = jai env "counts" => clW (List.mem_append_left _ (q ▸ sl6)))
 have pcl6 := jab (fun v x h => jan h k6 n6) pcl
 have K36 : Kp (td :: Own env) s3 s6 := X6.kp
 have K16 : Kp [] s s6 := K13.comp0 G K36 fW
 refine wpAny_execs_cons (wpAny_Assign_Name (jaU (B := B) (jao ⟨G6, by simp, fun dl s7 fdl hdl k7 => ?_⟩)))
 have G7 := G6.kp k7 al0
 refine jaY G7 S (ja0 F6 k7 nn0) ownB (fun s8 bd8 F8 hk8 k8 g8 G8 => ?_) (setL ("due" : Str) (List.Mem.tail _ (List.Mem.tail _ (List.Mem.head _))))
 have fdls : s.heap.get? dl = none := K16.back fdl
 have ndlO : dl ∉ Own env := fun q => by obtain ⟨o, e⟩ := X6.al dl (List.mem_append_left _ (List.mem_cons_of_mem _ q)); rw [fdl] at e; cases e
 have ndlt : dl ≠ td := fun q => by obtain ⟨o, e⟩ := X6.al td (List.mem_append_left _ (List.mem_cons_self ..)); rw [← q, fdl] at e; cases e
 have sl8 : jai env "due" ∈ td :: Own env := List.mem_cons_of_mem _ jac
 have K18 : Kp [] s s8 := (K16.comp0 G k7 al0).comp0 G k8 (fun a ha => by cases List.mem_singleton.mp ha; exact own _ jac)
 have K68 : Kp [jai env "due"] s6 s8 := (k7.trans k8).mono sm0
 have n68 : NoL (dl :: ((td :: Own env) ++ V)) s6 [jai env "due"] := ja9 (fun a ha => by cases List.mem_singleton.mp ha; exact List.mem_cons_of_mem _ (List.mem_append_left V sl8))
 have lift : ∀ v xs, liW ((td :: Own env) ++ V) intR s6.heap v xs → liW (dl :: ((td :: Own env) ++ V)) intR s8.heap v xs := fun v xs h =>
  jan (liW_up (W := [dl]) h (al1 fdl)) K68 n68
 have liftT : ∀ kv k, tabR ((td :: Own env) ++ V) rows s6.heap kv k → tabR (dl :: ((td :: Own env) ++ V)) rows s8.heap kv k := fun kv k hx0 => by obtain ⟨e, l, vs, e1, n, hl, p⟩ := hx0; exact
  ⟨e, l, vs, e1, (fun q => by
   rcases List.mem_cons.mp q with rfl | q
   ·obtain ⟨ep, e⟩ := hl; rw [IsL, fdl] at e; cases e
   ·exact n q), jaj hl K68 (fun m => n (by cases List.mem_singleton.mp m; exact List.mem_append_left V sl8)), jah lift p⟩
 have hk68 : ∀ y u, y ≠ ("due" : Str) → Bnd env y u s6 → Bnd env y u s8 := fun y u hy h => hk8 y u hy (jae h k7)
 refine aG ?_; intro gO; obtain ⟨kvs, ep, hdt, hpt⟩ := X6.tt; unfold gO; clear gO
 have rlO : ∀ a ∈ td :: Own env, rl ≠ a := fun a ha q => by obtain ⟨o, e⟩ := arl; rw [q, fW a ha] at e; cases e
 have X8 : DuI w B env (dl :: td :: Own env) (dl :: ((td :: Own env) ++ V)) rl td rvs rows s8 s8 (ksAt 4 0) :=
  { g := G8, f := F8, kp := (Kp.refl _).mono al0, br := hk68 _ _ (by decide +kernel) X6.br, bt := hk68 _ _ (by decide +kernel) X6.bt
    rp := jaj X6.rp K68 (fun m => by cases List.mem_singleton.mp m; exact rlO _ sl8 rfl)
    rr := jah lift X6.rr
    tt := ⟨kvs, ep, dt_kp hdt K68 (fun m => ntd (by cases List.mem_singleton.mp m; exact jac)), jah liftT hpt⟩
    al := fun a ha => by
      rcases List.mem_cons.mp ha with rfl | ha
      · first | (refine lW ?_; intro Ro) | (refine lA ?_; intro Ro) | (refine lC ?_; intro Ro) | skip
        obtain ⟨ep, e⟩ := hdl
        exact k8.there _ _ e
      · first | (refine lW ?_; intro Ro) | (refine lA ?_; intro Ro) | (refine lC ?_; intro Ro) | skip
        obtain ⟨o, e⟩ := X6.al a ha
        exact K68.there _ _ e }
 have fW1 : ∀ a ∈ dl :: td :: Own env, s.heap.get? a = none := fun a ha => by
  rcases List.mem_cons.mp ha with rfl | ha
  ·exact fdls
  ·exact fW a ha
 have H1 : DuE B env (jas (lawS "_law_due")) (dl :: td :: Own env) (dl :: ((td :: Own env) ++ V)) rl td s8 :=
  { sta := S, own := fun a ha => List.mem_cons_of_mem _ (List.mem_cons_of_mem _ ha), tw' := by simp, to' := ntd, rw' := (fun q => by obtain ⟨o, e⟩ := arl; rw [fW1 _ q] at e; cases e),
    wu := (fun a ha => by
      rcases List.mem_cons.mp ha with rfl | ha
      · exact List.mem_cons_self ..
      · exact List.mem_cons_of_mem _ (List.mem_append_left _ ha)), bw := fun a ha => G.new (fW1 a ha), bx := fun a o e => by obtain ⟨o', e'⟩ := G.old.there _ _ e; exact K18.there _ _ e'
    tw := by obtain ⟨o, e⟩ := G.two; exact K18.there _ _ e
    set := set }
 have hcl8 := jaj hcl6 K68 (fun m => clW (by cases List.mem_singleton.mp m; exact List.mem_append_left _ sl8))
 have pcl8 : Paired (liW (dl :: ((td :: Own env) ++ V)) intR s8.heap) cvs cs := jah lift pcl6
 have hdl8 : PL s8.heap dl [] := jaj hdl k8 (fun m => ndlO (by cases List.mem_singleton.mp m; exact jac))
 have hz3 : ∀ z ∈ cs, z.length ≤ 3 := fun z hz => by
  obtain ⟨i, hi⟩ := List.mem_iff_getElem?.mp hz
  have hlt : i < cs.length := (List.getElem?_eq_some_iff.mp hi).1
  have := (hcs i (lql ‹_› ‹_›)).2.2
  rw [List.getD_eq_getElem?_getD, hi] at this
  exact this
 have hpl : (prod cs []).length ≤ 1000 := by
  have := prod_len cs [] hz3
  rw [l4] at this
  exact lq8 ‹_› (by rfl)
 refine wpAny_execs_cons (wpAny_For ?_)
 refine lc4_rule (V := dl :: ((td :: Own env) ++ V)) (c := env.locals + 1 + 1 + 1 + 1) (cl := cl) (cs := cs) S (compT (by kernel_rfl) (by kernel_rfl) (fun Y => by kernel_rfl) (fun Y => by kernel_rfl) (by kernel_rfl) (by kernel_rfl)) R1
  (jbh (frees := ["counts"]) (fun Y => env.locals + 1 + 1 + 1 + 1) (by kernel_rfl) (als hcnt) (List.nil_append _)) (fun x hx => by
   simp only [List.mem_cons, List.not_mem_nil, or_false] at hx
   rcases hx with rfl | rfl | rfl | rfl <;> kernel_rfl) (by kernel_rfl) G8 (hk68 _ _ (by decide +kernel) bc6) hcnt (ownB _ o4) hcl8 pcl8 X8.al l4 hpl fun D cvals s9 fD hD pD k9 => ?_
 have X9 := X8.ex H1 k9
 have H9 := H1.at X9.kp
 refine (jaD X9.g hD.list).use fun v s10 It => ?_
 have ncL : cvals.length = (prod cs []).length := jaa pD
 refine jbz (W := dl :: td :: Own env) S R1 X9.g It H1.own (fun a ha => X9.al a (H1.wu a ha)) (fun a ha q => ?_) ownB (set _ (List.Mem.tail _ (List.Mem.tail _ (List.Mem.head _))))
  (fun i s => DuF w B env (dl :: td :: Own env) (dl :: ((td :: Own env) ++ V)) rl td dl rvs cvals rows (prod cs []) s9 s i) (fun i s h => ⟨h.du.g, h.du.f⟩) ⟨DuI.ex H9 X9.base It.kp, jae (jae bd8 k9) It.kp, ⟨[], jaj (jaj hdl8 k9 ni0) It.kp ni0, by simpa using .nil⟩, jab (fun v x h => jan h It.kp jaq) pD⟩ ?_ ?_
 ·cases List.mem_singleton.mp ha
  obtain ⟨o, e⟩ := X8.al _ (H1.wu _ q)
  rw [fD] at e; cases e
 ·intro I i v s11 s12 fI hi hv X11 hI k12 b12 hk12 G12 F12
  first | (refine lW ?_; intro Ro) | (refine lA ?_; intro Ro) | (refine lC ?_; intro Ro) | skip
  have nI : ∀ a ∈ dl :: td :: Own env, a ≠ I := fun a ha q => by obtain ⟨o, e⟩ := X9.al a (H1.wu a ha); rw [q, fI] at e; cases e
  have X12 := X11.du.st H9 fI nI hI k12 (by decide +kernel) hk12 G12 F12
  have slW : jai env "row" ∈ dl :: td :: Own env := List.mem_cons_of_mem _ (List.mem_cons_of_mem _ jac)
  have n12 : NoL (dl :: ((td :: Own env) ++ V)) s11 [I, jai env "row"] := (noL_it hI slW).mono H1.wu
  have pc12 := jab (fun v x h => jan h k12 n12) X11.pc
  refine aG ?_; intro gO; obtain ⟨vs, h1, h2⟩ := X11.pl; unfold gO; clear gO
  have h1' := jaj h1 k12 (by
   intro q
   rcases List.mem_cons.mp q with q | q
   ·exact nI _ (List.mem_cons_self ..) q
   ·cases List.mem_singleton.mp q; exact ndlO jac)
  refine aG ?_; intro gO; obtain ⟨row, hrow, rv⟩ := ja4 pc12 (toA hv); unfold gO; clear gO
  have X12' : DuF w B env (dl :: td :: Own env) (dl :: ((td :: Own env) ++ V)) rl td dl rvs cvals rows (prod cs []) s12 s12 i :=
   ⟨X12.base, hk12 _ _ (by decide +kernel) X11.bd, ⟨vs, h1', jab (fun v x h => jan h k12 n12) h2⟩, pc12⟩
  have hr4' : row.length = 4 := by have := prod_mem cs [] row (List.mem_of_getElem? hrow); rw [this, l4]; rfl
  refine (du_turn rfl (H9.at X12.kp) X12' R1 (lq2 hn rfl) (List.mem_cons_self ..) ndlO ndlt hrow hr4' hpl hcells (G.sys ftds) b12 rv).useE fun s13 X13 => ?_
  exact ⟨⟨X13.du.join X12.kp, X13.bd, X13.pl, X13.pc⟩, X13.du.kp⟩
 ·intro I s11 s12 fI X11 hI k12
  first | (refine lW ?_; intro Ro) | (refine lA ?_; intro Ro) | (refine lC ?_; intro Ro) | skip
  have nI : ∀ a ∈ dl :: td :: Own env, a ≠ I := fun a ha q => by obtain ⟨o, e⟩ := X9.al a (H1.wu a ha); rw [q, fI] at e; cases e
  have X12 := X11.du.it H9 fI nI hI k12
  have bd12 := jaA X11.bd k12 fun a ha => by simpa using nI a (H1.own a ha)
  refine aG ?_; intro gO; obtain ⟨vs, h1, h2⟩ := X11.pl; unfold gO; clear gO
  have h1' := jaj h1 k12 (by simpa using nI _ (List.mem_cons_self ..))
  have h2' := jab (fun v x h => jan h k12 (it_noL hI)) h2
  refine wpAny_execs_cons (wpAny_Return_some (jaf S bd12 ?_))
  have hall : ((prod cs []).take cvals.toArray.size).filter (okRow rows) = dueOf rows cs := by
   unfold dueOf
   rw [show cvals.toArray.size = (prod cs []).length by simp; exact ncL, List.take_length]
  rw [hall] at h2'
  refine ⟨dl, vs, cs, rfl, fdls, h1', l4, hcs, jah (fun v x h => liW_down h fun a ha => List.mem_cons_of_mem _ (List.mem_append_right _ ha)) h2', ?_⟩
  exact (K18.comp0 G k9 al0).comp0 G X12.kp fW1
end
section
variable {w : World} {B : Heap} {A : Around} {s : Shared} {a d b e c k m x y I l f D dx r cl rl td cr ct dl : Addr} {env cenv : Env} {sc : Scope} {E : Value → Shared → Prop} {W U V : List Addr} {sX : Shared} {rvs rv cvals : List Value} {rows cands : List (List Int)} {ks row : List Int}
theorem sum_call {vs : List Value} (G : Good w B s) (hh : A.handled = none) (hl : PL s.heap l vs) (hI : ∀ v ∈ vs, ∃ n t, v = .int n t) : Wp w A (call (.builtin "sum") [.ref l]) (fun v s' => (∃ n t, v = .int n t) ∧ Kp [] s s') s := by
 have aL : ∃ o, s.heap.get? l = some o := by obtain ⟨ep, e⟩ := hl; exact ⟨_, e⟩
 have hne : l ≠ s.heap.objs.size := fun q => by obtain ⟨o, e⟩ := aL; rw [q, jag] at e; cases e
 refine tk_any (call_sum_walkG (wpAny_pyIter_list hl.list ?_))
 have hI' : s.heap.objs.size < (s.heap.push { cls := .type "list_iterator", data := .fields #[.ref l, .int 0 0] }).objs.size := by rw [Heap.size_push]; exact Nat.lt_succ_self _
 refine ⟨_, _, _, _, _, _, fun i => match vs[i]? with | some (.int n _) => n | _ => 0, rfl, Walks.list (A := A.in1) hh s.heap.objs.size l hne vs.toArray, ⟨⟨_, Heap.get?_push_size _ rfl, rfl, rfl⟩, hl.list.push _⟩, ?_, fun i v hv => ?_, fun h' tk t' hk htk => ⟨⟨_, t', rfl⟩, ?_⟩⟩
 ·intro b hb
  simp only [List.mem_cons, List.not_mem_nil, or_false] at hb
  rcases hb with rfl | rfl
  ·exact hI'
  ·obtain ⟨o, e⟩ := aL
   exact Nat.lt_trans (Heap.lt_size e) hI'
 ·have hv' : vs[i]? = some v := by simpa using hv
  obtain ⟨n, t, e⟩ := hI v (List.mem_of_getElem? hv')
  subst e
  dsimp only; rw [hv']
  exact ⟨t, rfl⟩
 ·refine jat (s' := { s with heap := h', toks := tk }) (fun b o e => hk b o ?_ (Heap.get?_push_of_some _ e)) G.two rfl htk rfl
  intro m
  cases List.mem_singleton.mp m
  rw [jag] at e; cases e
theorem abs_call {p : Int} {t : Nat} (G : Good w B s) : Wp w A (call (.builtin "abs") [.int p t]) (fun v s' => (∃ n t, v = .int n t ∧ 0 ≤ n) ∧ Kp [] s s') s := by
 refine tk_any (call_abs_int fun u tk htk => ⟨⟨_, u, rfl, ?_⟩, jak htk⟩)
 split <;> omega
end
noncomputable abbrev lwB : List Stmt := ja2 (lawS "law")
noncomputable def forI : Stmt → Expr | .For _ i _ _ _ => i | _ => .Constant .none 0 default
section
variable {w : World} {B : Heap} {A : Around} {s : Shared} {a d b e c k m x y I l f D dx r cl rl td cr ct dl sl co cs : Addr} {env cenv : Env} {sc : Scope} {E : Value → Shared → Prop} {W U V : List Addr} {sX : Shared} {rvs rv cvals svs : List Value} {rows cands : List (List Int)} {ks row : List Int}
theorem stab_nn : Stab (fun (_ : Nat) y (_ : Shared) => ∃ n t, y = .int n t ∧ 0 ≤ n) := fun Y Y Y Y Y h Y Y => h
theorem stabB_nn : StabB (fun (_ : Nat) y (_ : Shared) => ∃ n t, y = .int n t ∧ 0 ≤ n) := fun Y Y Y Y Y h Y Y => h
theorem slice_ints {vs : List Value} {lo hi st : Option Int} (h : ∀ v ∈ vs, ∃ n t, v = .int n t) : ∀ v ∈ (slicePick vs.toArray lo hi st).toList, ∃ n t, v = .int n t := fun v hv => by
 have hI := intsAre_map vs h
 exact (hI.pick lo hi st).all v hv
theorem row_comp {scope : Scope} {q1 q2 q3 q4 q5 q6 q7 q8 q9 u1 u2 u3 u4 u5 u6 u7 u8 u9 v1 v2 v3 v4 v5 v6 v7 v8 v9 pos : Pos} {k1 k2 k3 k4 k5 n one t1 : Nat} (S : Sta env sc) (T : CompT scope sc [(("script" : Str), cs), ("one", co)] "thing" false) (hA : Rm n A) (hn : n < 200) (hclos : closureFor scope env = pure [(("script" : Str), cs), ("one", co)]) (hcsB : B.get? cs = none) (hcoB : B.get? co = none) (hne : cs ≠ co) (G : Good w B s)
  (hk1 : (jav scope sc).names.lookup ("script" : Str) = some .cell) (hk2 : (jav scope sc).names.lookup ("one" : Str) = some .cell) (hg1 : (jav scope sc).names.lookup ("abs" : Str) = some .globalImplicit) (hg2 : (jav scope sc).names.lookup ("sum" : Str) = some .globalImplicit) (hg3 : sc.names.lookup ("range" : Str) = some .globalImplicit)
  (bs : Bnd env "script" (.ref sl) s) (hcs : env.cells.lookup ("script" : Str) = some cs) (bo : Bnd env "one" (.int one t1) s) (hco : env.cells.lookup ("one" : Str) = some co) (hone : one < 3)
  (hl : PL s.heap sl svs) (hI : ∀ v ∈ svs, ∃ n t, v = .int n t) (hlen : svs.length ≤ 100) :
  Wp w A (eval (.ListComp (.Call (.Name "abs" q1) [.BinOp (.BinOp (.BinOp (.BinOp (.Name "one" q2) .Mult (.BinOp (.Name "thing" q3) .Add (.Constant (.int (1 : Nat)) k1 q4) q5) q6) .Add (.Name "thing" q7) q8) .Mod (.Constant (.int (3 : Nat)) k2 q9) u1) .Add
    (.Call (.Name "sum" u2) [.Subscript (.Name "script" u3) (.Slice (some (.BinOp (.BinOp (.Name "thing" u4) .Mult (.Constant (.int (3 : Nat)) k3 u5) u6) .Add (.Name "one" u7) u8)) none (some (.Constant (.int (12 : Nat)) k4 u9)) v1) v2] [] v3) v4] [] v5) [⟨.Name "thing" v6, .Call (.Name "range" v7) [.Constant (.int (4 : Nat)) k5 v8] [] v9, [], 0⟩] scope pos) env)
   (fun v s' => ∃ D vs ns, v = .ref D ∧ s.heap.get? D = none ∧ PL s'.heap D vs ∧ Paired (intR s'.heap) vs ns ∧ ns.length = 4 ∧ (∀ z ∈ ns, 0 ≤ z) ∧ Kp [] s s') s := by
 try (refine lW ?_; intro Ro)
 have hcd1 := jaR bs hcs
 have hcd2 := jaR bo hco
 refine jbV S.ok T hA hclos (pw2 hne) (fun p hp => by
   rcases List.mem_cons.mp hp with rfl | hp
   ·exact hcsB
   ·cases List.mem_singleton.mp hp; exact hcoB) (jap (jal (.type "range") G S.ok (callWith_type1 (jad (wpAny_Constant_int (jao ?_)))) (by kernel_rfl) hg3 (by kernel_rfl)))
 have kt : Kp [] s { s with toks := s.toks + 1 } := jak (Nat.le_succ _)
 have G1 := G.kp kt al0
 refine (jaH (n := 4) G1 (hA.le (lq6 ‹_› (by rfl)))).useE4 fun r q1 q2 q3 s2 hx0 => ?_
 refine aG ?_; intro gO; obtain ⟨hr', fr, k2⟩ := hx0; unfold gO; clear gO
 have K2 : Kp [] s s2 := (kt.trans k2).mono al0
 have G2 := G.kp K2 al0
 obtain ⟨rs1, rs2⟩ := jaO ⟨4, by omega⟩
 refine (jaI (n := 4) G2 hr' rs1 rs2).use fun it s3 It => ?_
 refine ⟨[], 4, _, fun Y => true, fun Y y Y => ∃ n t, y = .int n t ∧ 0 ≤ n, G2, fun p hp => by
   rcases List.mem_cons.mp hp with rfl | hp
   ·exact ⟨_, jaw hcd1 K2 ni0⟩
   ·cases List.mem_singleton.mp hp; exact ⟨_, jaw hcd2 K2 ni0⟩, by simp, It, stab_nn, stabB_nn, by omega, ?_, ?_⟩
 ·intro cenv A' j v s4 Sc hN _ hA' hj hv k4 G4 b4
  obtain ⟨t, _, rfl⟩ := hv
  obtain ⟨N, hN⟩ := hN
  have hN : cenv.cells = [(("script" : Str), cs), ("one", co)] := hN
  have K4 : Kp [] s s4 := (K2.trans k4).mono al0
  have bs4 : Bnd cenv "script" (.ref sl) s4 := jb2 Sc hN (by simp [List.lookup_cons]) hk1 hcd1 K4
  have bo4 : Bnd cenv "one" (.int one t1) s4 := jb2 Sc hN (by rw [List.lookup_cons, show ((("one" : Str)) == (("script" : Str))) = false by decide +kernel]; simp [List.lookup_cons]) hk2 hcd2 K4
  have hl4 := jaj hl K4 ni0
  refine wpAny_tests_nil ⟨rfl, (Kp.refl _).mono al0, fun Y => ?_⟩
  refine jap (jal (.builtin "abs") G4 Sc.ok (ja8 (jad ?_)) (by kernel_rfl) hg1 (by kernel_rfl))
  refine wpAny_BinOp (wpAny_BinOp (wpAny_BinOp (wpAny_BinOp (jaf Sc bo4 (wpAny_BinOp (jaf Sc b4 (wpAny_Constant_int (op_add.useP fun t5 s5 k5 => ?_))))))))
  have c0 : Kp [] s4 { s4 with toks := s4.toks + 1 } := jak (Nat.le_succ _)
  have C5 : Kp [] s4 s5 := (c0.trans k5).mono al0
  refine (op_mul (.of_left (intBits_le_64 (by omega) (by omega)))).useP fun t6 s6 k6 => ?_
  have C6 : Kp [] s4 s6 := (C5.trans k6).mono al0
  refine jaf Sc (jae b4 C6) (op_add.useP fun t7 s7 k7 => ?_)
  have C7 : Kp [] s4 s7 := (C6.trans k7).mono al0
  refine wpAny_Constant_int ((op_mod (by decide)).useP fun t8 s8 k8 => ?_)
  have c7 : Kp [] s7 { s7 with toks := s7.toks + 1 } := jak (Nat.le_succ _)
  have C8 : Kp [] s4 s8 := ((C7.trans c7).trans k8).mono al0
  have G8 := G4.kp C8 al0
  refine jap (jal (.builtin "sum") G8 Sc.ok (ja8 (jad ?_)) (by kernel_rfl) hg2 (by kernel_rfl))
  refine ev_slice_st (B := B) (jaf Sc (jae bs4 C8) (wpAny_evalPart_some (wpAny_BinOp (wpAny_BinOp (jaf Sc (jae b4 C8) (wpAny_Constant_int ((op_mul (.of_right (by decide))).useP fun t9 s9 k9 => ?_)))))))
  have c8 : Kp [] s8 { s8 with toks := s8.toks + 1 } := jak (Nat.le_succ _)
  have C9 : Kp [] s4 s9 := ((C8.trans c8).trans k9).mono al0
  refine jaf Sc (jae bo4 C9) (op_add.useP fun t10 s10 k10 => ?_)
  have C10 : Kp [] s4 s10 := (C9.trans k10).mono al0
  refine wpAny_evalPart_none (wpAny_Constant_int ?_)
  have c10 : Kp [] s10 { s10 with toks := s10.toks + 1 } := jak (Nat.le_succ _)
  have C11 : Kp [] s4 { s10 with toks := s10.toks + 1 } := (C10.trans c10).mono al0
  refine ⟨sl, svs.toArray, _, _, _, rfl, (jaj hl4 C11 ni0).list, by simpa using Nat.le_trans hlen (lqe rfl), .int .., .none, .int .., by simp, G4.kp C11 al0, fun D s12 fD hD k12 => ?_⟩
  have C12 : Kp [] s4 s12 := (C11.trans k12).mono al0
  refine jao ((sum_call (G4.kp C12 al0) hA'.1 hD (slice_ints hI)).useP2 fun n13 t13 s13 k13 => ?_)
  have C13 : Kp [] s4 s13 := (C12.trans k13).mono al0
  refine op_add.useP fun t14 s14 k14 => ?_
  have C14 : Kp [] s4 s14 := (C13.trans k14).mono al0
  refine jao ((abs_call (G4.kp C14 al0)).use fun v s15 hx0 => ?_)
  refine aG ?_; intro gO; obtain ⟨⟨n15, t15, e15, h15⟩, k15⟩ := hx0; unfold gO; clear gO
  subst e15
  exact ⟨⟨n15, t15, rfl, h15⟩, (C14.trans k15).mono al0, by simp⟩
 ·intro D ys T' s' fD hl' ho _ k' G'
  have hs := jbn ho
  rw [jbj] at hs
  have hex : ∀ {ys : List Value} {is : List Nat}, Paired (fun y i => (∃ n t, y = .int n t ∧ (0 : Int) ≤ n) ∧ ∀ a, y = .ref a → a ∉ T') ys is → ∃ ns, Paired (intR s'.heap) ys ns ∧ ns.length = is.length ∧ ∀ z ∈ ns, 0 ≤ z := by
   intro ys is p
   induction p with
   | nil => exact ⟨[], .nil, rfl, by simp⟩
   | cons h _ ih =>
    refine aG ?_; intro gO; obtain ⟨⟨n, t, e, h0⟩, _⟩ := h; unfold gO; clear gO
    refine aG ?_; intro gO; obtain ⟨ns, c1, c2, c3⟩ := ih; unfold gO; clear gO
    exact ⟨n :: ns, .cons ⟨t, e⟩ c1, by simp [c2], by simpa using ⟨h0, c3⟩⟩
  refine aG ?_; intro gO; obtain ⟨ns, c1, c2, c3⟩ := hex hs; unfold gO; clear gO
  exact ⟨D, ys, ns, rfl, K2.back fD, hl', c1, by rw [c2]; simp, c3, (K2.trans k').mono al0⟩
end
noncomputable def jbQ (row : List Int) : VL := (List.range 4).map fun (j : Nat) => ((j : Int), row.getD j 0)
section
variable {w : World} {B : Heap} {A : Around} {s : Shared} {a d b e c k m x y I l f D dx r cl rl td cr ct dl sl co cs : Addr} {env cenv : Env} {sc : Scope} {E : Value → Shared → Prop} {W U V : List Addr} {sX : Shared} {rvs rv cvals svs : List Value} {rows cands : List (List Int)} {ks row : List Int} {kvs : List (Int × Value)} {ep : Nat}
set_option tactic.hygienic true in
theorem dt_dicO {h : Heap} (hd : Dt w h d kvs ep) {zs : VL} (hz : Paired (fun (kv : Int × Value) (z : Int × Int) => kv.1 = z.1 ∧ ∃ t, kv.2 = .int z.2 t) kvs zs) : ∃ L : List En, h.get? d = some (dicO L ep) ∧ vals L = zs := by
 refine aG ?_; intro gO; obtain ⟨o, es, ho, hx, hd, hk, hp, hn⟩ := hd; unfold gO; clear gO
 refine aG ?_; intro gO; obtain ⟨cls, dct, data, sl⟩ := o; unfold gO; clear gO
 refine aG ?_; intro gO; obtain ⟨e1, e2, e3⟩ := hx; unfold gO; clear gO
 simp only at e1 e2 e3 hd
 subst e1 e2 e3 hd
 have key : ∀ {es : List DictEntry} {kvs : List (Int × Value)} {zs : VL}, Pairs (intKind P0 w) es kvs → Paired (fun (kv : Int × Value) (z : Int × Int) => kv.1 = z.1 ∧ ∃ t, kv.2 = .int z.2 t) kvs zs → (∀ e ∈ es, ∃ k, (intKind P0 w).is k e.key = true ∧ e.hash = (intKind P0 w).hash k) → ∃ L : List En, es = L.map ent ∧ vals L = zs := by
  intro es kvs zs p
  induction p generalizing zs with
  | nil => intro q _; cases q; exact ⟨[], rfl, rfl⟩
  | @cons e kv es kvs h1 h2 _ ih =>
   intro q hk
   cases q with
   | cons q1 q2 =>
    rename_i z zs'
    refine aG ?_; intro gO; obtain ⟨L, hL, hv⟩ := ih q2 fun e he => hk e (List.mem_cons_of_mem _ he); unfold gO; clear gO
    refine aG ?_; intro gO; obtain ⟨k, hk1, hk2⟩ := hk e (List.mem_cons_self ..); unfold gO; clear gO
    obtain ⟨t1, e1⟩ := Value.isInt_shape h1
    obtain ⟨t2, e2⟩ := q1.2
    have hkk : k = kv.1 := (intKind P0 w).inj _ _ _ hk1 h1
    subst hkk
    refine ⟨(kv.1, t1, z.2, t2) :: L, ?_, ?_⟩
    ·first | (refine lW ?_; intro Ro) | (refine lA ?_; intro Ro) | (refine lC ?_; intro Ro) | skip
     rw [List.map_cons, ← hL]
     congr 1
     refine aG ?_; intro gO; obtain ⟨eh, ek, ev⟩ := e; unfold gO; clear gO
     simp only at h2 e1 hk2
     rw [h2, e2] at *
     subst e1
     show (⟨eh, _, _⟩ : DictEntry) = ⟨hashInt kv.1, _, _⟩
     rw [hk2]; rfl
    ·show (kv.1, z.2) :: vals L = _
     rw [hv, q1.1]
 refine aG ?_; intro gO; obtain ⟨L, hL, hv⟩ := key hp hz fun e he => hk e (Array.mem_toList_iff.mp he); unfold gO; clear gO
 refine ⟨L, ?_, hv⟩
 rw [ho]
 have : es = (L.map ent).toArray := by rw [← hL]
 rw [this]; rfl
theorem dt_put {z : Int} {t : Nat} {v : Value} {Q : Unit → Shared → Prop} (G : Good w B s) (hB : B.get? d = none) (D : Dt w s.heap d kvs ep) (hz : kvs.length ≤ 100) (hn : z ∉ kvs.map (·.1))
  (h : ∀ s' ep', Dt w s'.heap d (kvs ++ [(z, v)]) ep' → Kp [d] s s' → Good w B s' → Q () s') : wpAny (model P0 w) A (dictSet d (.int z t) v) Q E s := by
 refine wpAny_dictSet_pairs (knd := intKind P0 w) (k := z) (intKind_is _ _ _ _) D.dictOf (fun h' hm hs => ?_) (Nat.le_trans hz (show 100 ≤ sizeLine by decide))
 have hst : stored kvs z v = kvs ++ [(z, v)] := by
  unfold stored
  rw [if_neg]
  simp only [List.any_eq_true, decide_eq_true_eq, not_exists, not_and]
  intro x hx q
  exact hn (List.mem_map.mpr ⟨x, hx, q⟩)
 rw [hst] at hm
 obtain ⟨ep', hm⟩ := hm.dictAt
 have k := jaz (s := s) (h' := h') hs (jaP G hB) (by obtain ⟨o, _, ho, _⟩ := hm; exact ⟨o, ho⟩) (tk := s.toks + 1) (Nat.le_succ _)
 exact h _ ep' hm k (G.kp k (al1 hB))
theorem eval_DictComp' (kx vx gens scope pos) : eval (.DictComp kx vx gens scope pos) env = comprehension (.DictComp kx vx gens scope pos) scope env (firstIterPos gens pos) newDict (firstAsync gens) (firstIter gens env) := rfl
theorem dc_bag {scope : Scope} {q1 q2 q3 q4 q5 q6 q7 q8 pos : Pos} {kk n : Nat} (S : Sta env sc) (T : CompT scope sc [(("row" : Str), cr)] "thing" false) (hA : Rm n A) (hn : n < 200) (hclos : closureFor scope env = pure [(("row" : Str), cr)]) (hcB : B.get? cr = none) (G : Good w B s)
  (hk : (jav scope sc).names.lookup ("row" : Str) = some .cell) (hg3 : sc.names.lookup ("range" : Str) = some .globalImplicit) (brow : Bnd env "row" (.ref r) s) (hcell : env.cells.lookup ("row" : Str) = some cr) (hl : PL s.heap r rv) (p : Paired (intR s.heap) rv row) (h4 : row.length = 4) :
  Wp w A (eval (.DictComp (.Name "thing" q1) (.Subscript (.Name "row" q2) (.Name "thing" q3) q4) [⟨.Name "thing" q5, .Call (.Name "range" q6) [.Constant (.int (4 : Nat)) kk q7] [] q8, [], 0⟩] scope pos) env)
   (fun v s' => ∃ D L ep, v = .ref D ∧ s.heap.get? D = none ∧ s'.heap.get? D = some (dicO L ep) ∧ vals L = jbQ row ∧ Kp [] s s') s := by
 try (refine lW ?_; intro Ro)
 have hcd := jaR brow hcell
 rw [eval_DictComp']
 refine wpAny_comprehension_free (use := none) rfl (fun Y => rfl) hclos T.kind T.names ?_
 refine jap (jal (.type "range") G S.ok (callWith_type1 (jad (wpAny_Constant_int (jao ?_)))) (by kernel_rfl) hg3 (by kernel_rfl))
 have kt : Kp [] s { s with toks := s.toks + 1 } := jak (Nat.le_succ _)
 have G1 := G.kp kt al0
 refine (jaH (n := 4) G1 (hA.le (lq6 ‹_› (by rfl)))).useE4 fun rr y1 y2 y3 s2 hx0 => ?_
 refine aG ?_; intro gO; obtain ⟨hr', fr, k2⟩ := hx0; unfold gO; clear gO
 have K2 : Kp [] s s2 := (kt.trans k2).mono al0
 have G2 := G.kp K2 al0
 obtain ⟨rs1, rs2⟩ := jaO ⟨4, by exact lqe rfl⟩
 refine (jaI (n := 4) G2 hr' rs1 rs2).use fun it s3 It => ?_
 refine aG ?_; intro gO; obtain ⟨⟨I, St, ei, W0, st, fI, aI⟩, al, k3, g3⟩ := It; unfold gO; clear gO
 subst ei
 have K3 : Kp [] s s3 := (K2.trans k3).mono al0
 have G3 := G.kp K3 al0
 simp only [newDict, newObj]
 refine wpAny_bind (wpAny_alloc (wpAny_pure ?_))
 have fD : s3.heap.get? s3.heap.objs.size = none := jag
 have kD : Kp [] s3 { s3 with heap := s3.heap.push { cls := .type "dict", data := .dict #[] } } := jar G3
 have hd0 : Dt w ({ s3 with heap := s3.heap.push { cls := .type "dict", data := .dict #[] } } : Shared).heap s3.heap.objs.size [] 0 :=
  ⟨_, #[], Heap.get?_push_size _ rfl, ⟨rfl, rfl, rfl⟩, rfl, fun e he => by simp at he, .nil, by simp⟩
 generalize s3.heap.objs.size = D at fD hd0 ⊢
 generalize ({ s3 with heap := s3.heap.push { cls := .type "dict", data := .dict #[] } } : Shared) = s4 at kD hd0 ⊢
 have K4 : Kp [] s s4 := (K3.trans kD).mono al0
 have G4 := G.kp K4 al0
 have fDs := K3.back fD
 refine comp_env G4 S.ok T (by
   intro p hp
   cases List.mem_singleton.mp hp
   exact ⟨_, jaw hcd K4 ni0⟩) (List.pairwise_singleton _ _) (by
   intro p hp
   cases List.mem_singleton.mp hp
   exact hcB) fun cenv s5 aL fL Sc Fr hce hOwn k5 G5 => ?_
 refine aG ?_; intro gO; obtain ⟨N, hN, _⟩ := hce; unfold gO; clear gO
 have hN : cenv.cells = [(("row" : Str), cr)] := hN
 have K5 : Kp [] s s5 := (K4.trans k5).mono al0
 have hd5 := dt_kp hd0 k5 ni0
 have st5 := W0.frame _ _ _ _ (W0.frame _ _ _ _ st kD nn0) k5 nn0
 have fLs := K4.back fL
 have acr : ∃ o, s.heap.get? cr = some o := let ⟨o, ho, _⟩ := hcd; ⟨o, ho⟩
 have aD4 : ∃ o, s4.heap.get? D = some o := by obtain ⟨o, _, ho, _⟩ := hd0; exact ⟨o, ho⟩
 have aI4 : ∃ o, s4.heap.get? I = some o := by obtain ⟨o, e⟩ := aI; exact kD.there _ _ e
 have nLD : cenv.locals ≠ D := fun q => by obtain ⟨o, e⟩ := aD4; rw [← q, fL] at e; cases e
 have nLI : cenv.locals ≠ I := fun q => by obtain ⟨o, e⟩ := aI4; rw [← q, fL] at e; cases e
 have nDI : D ≠ I := fun q => by obtain ⟨o, e⟩ := aI; rw [← q, fD] at e; cases e
 have fIs : s.heap.get? I = none := K2.back fI
 have own : ∀ a ∈ Own { cenv with scope := relabel scope env }, a = cenv.locals ∨ a = cr := by
  intro a ha
  have ha' : a ∈ cenv.locals :: cenv.cells.map (·.2) := ha
  rw [hN] at ha'
  simpa using ha'
 have ncr : ∀ a, s.heap.get? a = none → cr ≠ a := fun a h q => by obtain ⟨o, e⟩ := acr; rw [q, h] at e; cases e
 have hx : cenv.cells.lookup ("thing" : Str) = none ∧ (jav scope sc).names.lookup ("thing" : Str) = some .local := ⟨by rw [hN]; exact T.x0, T.xk⟩
 have hslot : jai { cenv with scope := relabel scope env } "thing" = cenv.locals := by
  show (cenv.cells.lookup ("thing" : Str)).getD cenv.locals = _
  rw [hx.1]; rfl
 have fC : ∀ a ∈ [I, D, cenv.locals], s.heap.get? a = none := by
  intro a ha
  simp only [List.mem_cons, List.not_mem_nil, or_false] at ha
  rcases ha with rfl | rfl | rfl
  ·exact fIs
  ·exact fDs
  ·exact fLs
 have loop : codeAny (model P0 w) A (.compLoop (.DictComp (.Name "thing" q1) (.Subscript (.Name "row" q2) (.Name "thing" q3) q4) [⟨.Name "thing" q5, .Call (.Name "range" q6) [.Constant (.int (4 : Nat)) kk q7] [] q8, [], 0⟩] scope pos) 0 (.ref I) (.ref D) { cenv with scope := relabel scope env }) (compPost (model P0 w) A (fun Y Y => False) none (fun v s' => ∃ D L ep, v = .ref D ∧ s.heap.get? D = none ∧ s'.heap.get? D = some (dicO L ep) ∧ vals L = jbQ row ∧ Kp [] s s') (.ref D) cenv.locals) s5 := by
  refine codeAny_compLoop_testsD (fun n s' => ∃ i kvs ep, i ≤ 4 ∧ n = 4 - i ∧ St i s' ∧ Kp [] s s' ∧ Frm { cenv with scope := relabel scope env } s' ∧ Dt w s'.heap D kvs ep ∧ Paired (fun (kv : Int × Value) (z : Int × Int) => kv.1 = z.1 ∧ ∃ t, kv.2 = .int z.2 t) kvs ((List.range i).map fun (j : Nat) => ((j : Int), row.getD j 0))) ?_ 4 ⟨0, [], 0, by exact Nat.zero_le _, rfl, st5, K5, Fr, hd5, .nil⟩
  rintro n s6 ⟨i, kvs, ep, hi, rfl, st6, K6, F6, hd6, hp6⟩
  have G6 := G.kp K6 al0
  by_cases hlt : i < 4
  ·first | (refine lW ?_; intro Ro) | (refine lA ?_; intro Ro) | (refine lC ?_; intro Ro) | skip
   refine W0.item A i s6 _ _ hA.1 G6 hlt st6 fun v s7 hv st7 k7 g7 => ?_
   obtain ⟨t, _, rfl⟩ := hv
   have K7 := K6.comp0 G k7 (al1 fIs)
   have G7 := G.kp K7 al0
   have F7 := ja0 F6 k7 (fun a ha => by
    rcases own a ha with rfl | rfl
    ·simpa using nLI
    ·simpa using ncr I fIs)
   refine jbv (jaY G7 Sc F7 hOwn (fun s8 b8 F8 hk8 k8 g8 G8 => ?_) (.inl ⟨hx.1, Sc.ok.kind hx.2⟩))
   rw [hslot] at k8
   have K8 := K7.comp0 G k8 (al1 fLs)
   have brow8 : Bnd { cenv with scope := relabel scope env } "row" (.ref r) s8 := jb2 (cenv := { cenv with scope := relabel scope env }) Sc hN (by simp [List.lookup_cons]) hk hcd K8
   obtain ⟨t', e'⟩ := int_at p (by rw [h4]; exact hlt)
   refine wpAny_tests_nil ?_
   rw [if_pos rfl]
   refine jaf Sc b8 (ev_at Sc brow8 (jaj hl K8 ni0) b8 e' (lq0 ‹_› (by rfl)) ?_)
   have hd8 := dt_kp (dt_kp hd6 k7 (ni1 nDI)) k8 (by simpa using Ne.symm nLD)
   have hkeys : kvs.map (·.1) = (List.range i).map fun (j : Nat) => (j : Int) := by
    have : ∀ {kvs : List (Int × Value)} {zs : List (Int × Int)}, Paired (fun (kv : Int × Value) (z : Int × Int) => kv.1 = z.1 ∧ ∃ t, kv.2 = .int z.2 t) kvs zs → kvs.map (·.1) = zs.map (·.1) := by
     intro kvs zs p
     induction p with
     | nil => rfl
     | cons a _ ih => rw [List.map_cons, List.map_cons, ih, a.1]
    rw [this hp6, List.map_map]; rfl
   refine dt_put G8 (G.new fDs) hd8 (by rw [jaa hp6]; simp; exact lq6 ‹_› (by rfl)) (by
    rw [hkeys]
    intro hm
    refine aG ?_; intro gO; obtain ⟨j, hj, e⟩ := List.mem_map.mp hm; unfold gO; clear gO
    have := List.mem_range.mp hj
    omega) fun s9 ep9 hd9 k9 G9 => ?_
   refine ⟨4 - (i + 1), by exact lqk ‹_›, i + 1, _, ep9, hlt, rfl, ?_, K8.comp0 G k9 (al1 fDs), ?_, hd9, ?_⟩
   ·exact W0.frame _ _ _ _ (W0.frame _ _ _ _ st7 k8 (by simpa using Ne.symm nLI)) k9 (by simpa using Ne.symm nDI)
   ·exact ja0 F8 k9 (fun a ha => by
     rcases own a ha with rfl | rfl
     ·simpa using nLD
     ·simpa using ncr D fDs)
   ·first | (refine lW ?_; intro Ro) | (refine lA ?_; intro Ro) | (refine lC ?_; intro Ro) | skip
    rw [List.range_succ, List.map_append]
    exact hp6.snoc ⟨rfl, t', rfl⟩
  ·first | (refine lW ?_; intro Ro) | (refine lA ?_; intro Ro) | (refine lC ?_; intro Ro) | skip
   have hin : i = 4 := by exact ltf ‹_› ‹_›
   subst hin
   refine W0.done A s6 _ _ hA.1 G6 st6 fun s7 k7 g7 => ?_
   have K7 := K6.comp0 G k7 (al1 fIs)
   have F7 := ja0 F6 k7 (fun a ha => by
    rcases own a ha with rfl | rfl
    ·simpa using nLI
    ·simpa using ncr I fIs)
   have hd7 := dt_kp hd6 k7 (ni1 nDI)
   refine aG ?_; intro gO; obtain ⟨L, hL, hv⟩ := dt_dicO hd7 hp6; unfold gO; clear gO
   obtain ⟨m, hm⟩ := F7.ns
   refine ⟨m, hm, fun h' hs' => ⟨D, L, ep, rfl, fDs, (hs'.2 D (Ne.symm nLD)).trans hL, hv, Kp.but G K7 fLs hs'⟩⟩
 exact codeAny_compStart_dict loop (W0.self _ 0 _ _ _ st5 loop)
end
noncomputable abbrev lwN : List Str := ["rows", "one", "found", "row", "bag", "place", "here", "other", "stood", "join", "meet", "behind", "new"]
noncomputable abbrev lwC (L : Addr) : List (Str × Addr) := [("meet", L + 1 + 1 + 1 + 1 + 1 + 1 + 1), ("join", L + 1 + 1 + 1 + 1 + 1 + 1), ("other", L + 1 + 1 + 1 + 1 + 1), ("here", L + 1 + 1 + 1 + 1), ("row", L + 1 + 1 + 1), ("one", L + 1 + 1), ("script", L + 1)]
noncomputable def RowOk (rows : List (List Int)) : Prop := ∀ r ∈ rows, r.length = 4 ∧ ∀ z ∈ r, 0 ≤ z
section
variable {w : World} {B : Heap} {A : Around} {s : Shared} {a d b e c k m x y I l f D dx r cl rl td cr ct dl sl co cs rwl fl : Addr} {env cenv : Env} {sc : Scope} {E : Value → Shared → Prop} {W U V : List Addr} {sX : Shared} {rvs rv cvals svs : List Value} {rows cands : List (List Int)} {ks row : List Int} {kvs : List (Int × Value)} {ep : Nat}
structure LwE (B : Heap) (env : Env) (W : List Addr) (sX : Shared) : Prop where
 sta : Sta env (jas (lawS "law"))
 cells : env.cells = lwC env.locals
 own : ∀ a ∈ Own env, a ∈ W
 bw : ∀ a ∈ W, B.get? a = none
 bx : ∀ a o, B.get? a = some o → ∃ o, sX.heap.get? a = some o
 tw : ∃ o, sX.heap.get? 2 = some o
 set : ∀ x ∈ lwN, jaB env x
theorem LwE.at {s1 : Shared} (H : LwE B env W sX) (k : Kp W sX s1) : LwE B env W s1 := { H with tw := let ⟨_, e⟩ := H.tw; k.there _ _ e, bx := fun a o e => let ⟨_, e⟩ := H.bx a o e; k.there _ _ e }
theorem LwE.bI (H : LwE B env W sX) (fI : sX.heap.get? I = none) : B.get? I = none := by
 cases e : B.get? I with
 | none => rfl
 | some o => obtain ⟨o', e'⟩ := H.bx _ _ e; rw [fI] at e'; cases e'
structure L1 (w : World) (B : Heap) (env : Env) (W : List Addr) (sl rwl : Addr) (svs : List Value) (sX s : Shared) (n : Nat) : Prop where
 g : Good w B s
 f : Frm env s
 kp : Kp W sX s
 bs : Bnd env "script" (.ref sl) s
 ps : PL s.heap sl svs
 br : Bnd env "rows" (.ref rwl) s
 pr : ∃ rvs rows, PL s.heap rwl rvs ∧ Paired (liW W intR s.heap) rvs rows ∧ rows.length = n ∧ RowOk rows
 al : ∀ a ∈ W, ∃ o, s.heap.get? a = some o
noncomputable abbrev l1B : List Stmt := forB lwB[1]!
theorem law_one {n i t : Nat} (H : LwE B env W sX) (X : L1 w B env W sl rwl svs sX s i) (hA : Rm n A) (hn : n < 190) (hi : i < 3) (hrw : rwl ∈ W) (hro : rwl ∉ Own env) (hsl : sl ∉ W) (hI : ∀ v ∈ svs, ∃ n t, v = .int n t) (hlen : svs.length ≤ 100) (bo : Bnd env "one" (.int i t) s) :
  Wp w A (execs l1B env) (fun f s' => f = .next ∧ L1 w B env W sl rwl svs sX s' (i + 1)) s := by
 try (refine lW ?_; intro Ro)
 have e1 : l1B = [l1B[0]!] := by kernel_rfl
 rw [e1]
 have oB : ∀ a ∈ Own env, B.get? a = none := fun a ha => H.bw _ (H.own a ha)
 have hcs : env.cells.lookup ("script" : Str) = some (env.locals + 1) := by rw [H.cells]; rfl
 have hco : env.cells.lookup ("one" : Str) = some (env.locals + 1 + 1) := by rw [H.cells]; rfl
 have o1 : env.locals + 1 ∈ Own env := by unfold Own; rw [H.cells]; simp
 have o2 : env.locals + 1 + 1 ∈ Own env := by unfold Own; rw [H.cells]; simp
 refine aG ?_; intro gO; obtain ⟨rvs, rows, hpl, hpr, hl, hok⟩ := X.pr; unfold gO; clear gO
 refine wpAny_execs_cons (jcn (B := B) H.sta.ok ?_)
 refine jaf H.sta X.br ⟨rwl, rvs, rfl, hpl, ?_⟩
 refine (row_comp (cs := env.locals + 1) (co := env.locals + 1 + 1) (n := n) H.sta (compT (by kernel_rfl) (by kernel_rfl) (fun Y => by kernel_rfl) (fun Y => by kernel_rfl) (by kernel_rfl) (by kernel_rfl)) hA (lq0 hn rfl)
  (jbh (frees := ["one", "script"]) (fun z => if z = ("one" : Str) then env.locals + 1 + 1 else env.locals + 1) (by kernel_rfl) (by
   intro z hz
   simp only [List.mem_cons, List.not_mem_nil, or_false] at hz
   rcases hz with rfl | rfl
   ·rw [if_pos rfl]; exact hco
   ·rw [if_neg (by decide +kernel)]; exact hcs) (by
   simp only [List.map_cons, List.map_nil, List.reverse_cons, List.reverse_nil, List.nil_append, List.cons_append]
   rw [if_neg (by decide +kernel)]
   simp)) (oB _ o1) (oB _ o2) (Nat.ne_of_lt (Nat.lt_succ_self _)) X.g (by kernel_rfl) (by kernel_rfl) (by kernel_rfl) (by kernel_rfl) (by kernel_rfl) X.bs hcs bo hco hi X.ps hI hlen).useE3 fun D vs ns s2 hx0 => ?_
 refine aG ?_; intro gO; obtain ⟨fD, hD, pD, l4, nn, k2⟩ := hx0; unfold gO; clear gO
 have hpl2 := jaj hpl k2 ni0
 have G2 := X.g.kp k2 al0
 refine ⟨hpl2, by rw [jaa hpr]; exact lsa ‹_› ‹_› (by rfl), H.bw _ hrw, G2, fun s3 h3 k3 G3 => ?_⟩
 have n3 : NoL W s2 [rwl] := ja9 (al1 hrw)
 have K3 : Kp W s s3 := (k2.mono al0).compW k3 (by simpa using .inl hrw) X.g.two
 have b3 : ∀ y u, Bnd env y u s → Bnd env y u s3 := fun y u h => jaA (jae h k2) k3 fun a ha q => hro (by cases List.mem_singleton.mp q; exact ha)
 refine wpAny_execs_nil ⟨rfl, { g := G3, f := ja0 (ja0 X.f k2 nn0) k3 (fun a ha q => hro (by cases List.mem_singleton.mp q; exact ha)), kp := (X.kp.trans K3).mono ap2, bs := b3 _ _ X.bs, br := b3 _ _ X.br
                                ps := jaj X.ps K3 hsl
                                pr := ⟨_, rows ++ [ns], h3, ?_, by simp [hl], ?_⟩
                                al := fun a ha => let ⟨_, e⟩ := X.al a ha; K3.there _ _ e }⟩
 ·refine (jab (fun v x h => jan h k3 n3) (jab (fun v x h => jan h k2 jaq) hpr)).snoc (jan (jbt X.al fD hD pD rfl) k3 n3)
 ·intro r hr
  rcases List.mem_append.mp hr with h | h
  ·exact hok r h
  ·cases List.mem_singleton.mp h; exact ⟨l4, nn⟩
theorem L1.it {s' : Shared} {S : List Addr} {n : Nat} (H : LwE B env W sX) (X : L1 w B env W sl rwl svs sX s n) (k : Kp S s s') (hS : ∀ a ∈ S, a ∈ W ∨ sX.heap.get? a = none) (hN : NoL W s S) (hsl : sl ∉ S) (hrw : rwl ∉ S) (g : Good w B s') (f : Frm env s')
  (hb : ∀ (y : Str) u, y ∈ ([("script" : Str), "rows"] : List Str) → Bnd env y u s → Bnd env y u s') : L1 w B env W sl rwl svs sX s' n where
 g := g
 f := f
 kp := X.kp.compW k hS H.tw
 bs := hb _ _ (List.mem_cons_self ..) X.bs
 ps := jaj X.ps k hsl
 br := hb _ _ (List.Mem.tail _ (List.Mem.head _)) X.br
 pr := let ⟨rvs, rows, h1, h2, h3⟩ := X.pr; ⟨rvs, rows, jaj h1 k hrw, jab (fun v x h => jan h k hN) h2, h3⟩
 al := fun a ha => let ⟨_, e⟩ := X.al a ha; k.there _ _ e
theorem jb8 {vs : List Value} (hI : ∃ o, s.heap.get? I = some o ∧ jba o) (hl : PL s.heap l vs) : l ≠ I := fun q => by
 refine aG ?_; intro gO; obtain ⟨o, ho, hc⟩ := hI; unfold gO; clear gO
 obtain ⟨ep, e⟩ := hl
 rw [q, IsL, ho] at e
 cases e
 exact hc.1 rfl
theorem law_rows {n : Nat} (H : LwE B env W sX) (X : L1 w B env W sl rwl svs sX s 0) (hA : Rm n A) (hn : n < 190) (hrw : rwl ∈ W) (hro : rwl ∉ Own env) (hsl : sl ∉ W) (hI : ∀ v ∈ svs, ∃ n t, v = .int n t) (hlen : svs.length ≤ 100) :
  Wp w A (exec lwB[1]! env) (fun f s' => f = .next ∧ L1 w B env W sl rwl svs sX s' 3) s := by
 try (refine lW ?_; intro Ro)
 have oB : ∀ a ∈ Own env, B.get? a = none := fun a ha => H.bw _ (H.own a ha)
 refine wpAny_For (jap (jal (.type "range") X.g H.sta.ok (callWith_type1 (jad (wpAny_Constant_int (jao ?_))))))
 have kt : Kp [] s { s with toks := s.toks + 1 } := jak (Nat.le_succ _)
 have G1 := X.g.kp kt al0
 refine (jaH (n := 3) G1 (hA.le (lq6 ‹_› (by rfl)))).useE4 fun r q1 q2 q3 s2 hx0 => ?_
 refine aG ?_; intro gO; obtain ⟨hr', fr, k2⟩ := hx0; unfold gO; clear gO
 have K2 : Kp [] s s2 := (kt.trans k2).mono al0
 have ex : ∀ {s s' sX m}, LwE B env W sX → L1 w B env W sl rwl svs sX s m → Kp [] s s' → L1 w B env W sl rwl svs sX s' m := fun H X k => X.it H k al0 jaq ni0 ni0 (X.g.kp k al0) (ja0 X.f k nn0) fun y u Y h => jae h k
 have X2 := ex H X K2
 have base : ∀ {s sX m}, L1 w B env W sl rwl svs sX s m → L1 w B env W sl rwl svs s s m := fun X => { X with kp := (Kp.refl _).mono al0 }
 have H2 := H.at X2.kp
 obtain ⟨rs1, rs2⟩ := jaO ⟨3, by exact lqe rfl⟩
 refine (jaI (n := 3) X2.g hr' rs1 rs2).use fun v s3 It => ?_
 refine jbz (W := W) H.sta hA X2.g It H.own X2.al al0 oB (H.set _ (List.Mem.tail _ (List.Mem.head _)))
  (fun i s => L1 w B env W sl rwl svs s2 s i) (fun i s h => ⟨h.g, h.f⟩) (ex H2 (base X2) It.kp) ?_ ?_
 ·intro I i v s9 s10 fI hi hv X9 hI' k10 b10 hk10 G10 F10
  obtain ⟨t, _, rfl⟩ := hv
  have nI : ∀ a ∈ W, a ≠ I := fun a ha q => by obtain ⟨o, e⟩ := X2.al a ha; rw [q, fI] at e; cases e
  have so : jai env "one" ∈ W := H.own _ jac
  have X10 := X9.it H2 k10 (by
    intro a ha
    rcases List.mem_cons.mp ha with rfl | ha
    ·exact .inr fI
    ·cases List.mem_singleton.mp ha; exact .inl so) (noL_it hI' so) (by
    intro q
    rcases List.mem_cons.mp q with q | q
    ·exact jb8 hI' X9.ps q
    ·cases List.mem_singleton.mp q; exact hsl so) (by
    intro q
    rcases List.mem_cons.mp q with q | q
    ·exact nI _ hrw q
    ·cases List.mem_singleton.mp q; exact hro jac) G10 F10 fun y u hy h => hk10 y u (by
    simp only [List.mem_cons, List.not_mem_nil, or_false] at hy
    rcases hy with rfl | rfl <;> decide +kernel) h
  refine (law_one (H2.at X10.kp) (base X10) hA hn hi hrw hro hsl hI hlen b10).useE fun s11 X11 => ?_
  exact ⟨{ X11 with kp := (X10.kp.trans X11.kp).mono ap2 }, X11.kp⟩
 ·intro I s9 s10 fI X9 hI' k10
  have nI : ∀ a ∈ W, a ≠ I := fun a ha q => by obtain ⟨o, e⟩ := X2.al a ha; rw [q, fI] at e; cases e
  have X10 := X9.it H2 k10 (by simpa using .inr fI) (it_noL hI') (by simpa using jb8 hI' X9.ps) (by simpa using nI _ hrw) (X9.g.kp k10 (by simpa using H2.bI fI)) (ja0 X9.f k10 (fun a ha => by simpa using nI a (H.own a ha))) fun y u Y h => jaA h k10 fun a ha => by simpa using nI a (H.own a ha)
  exact ⟨rfl, { X10 with kp := (X2.kp.trans X10.kp).mono ap2 }⟩
end
noncomputable def addC (Ls : List (List En)) (L : List En) : List (List En) := if (Ls.any fun M => eqv M L) = true then Ls else Ls ++ [L]
section
variable {w : World} {B : Heap} {A : Around} {s : Shared} {a d b e c k m x y I l f D dx r cl rl td cr ct dl sl co cs rwl fl : Addr} {env cenv : Env} {sc : Scope} {E : Value → Shared → Prop} {W U V : List Addr} {sX : Shared} {rvs rv cvals svs : List Value} {rows cands : List (List Int)} {ks row : List Int} {kvs : List (Int × Value)} {ep : Nat} {Ls : List (List En)} {L : List En}
structure LI (w : World) (B : Heap) (env : Env) (W : List Addr) (rwl fl : Addr) (rvs : List Value) (rows : List (List Int)) (sX s : Shared) (Ls : List (List En)) : Prop where
 g : Good w B s
 f : Frm env s
 kp : Kp W sX s
 br : Bnd env "rows" (.ref rwl) s
 bf : Bnd env "found" (.ref fl) s
 rp : PL s.heap rwl rvs
 rr : Paired (liW W intR s.heap) rvs rows
 ff : ∃ vs, PL s.heap fl vs ∧ Paired (ctrR W s.heap) vs Ls
 al : ∀ a ∈ W, ∃ o, s.heap.get? a = some o
theorem ja6 : NoC W s [] := by intro x hx; simp at hx
theorem jbU {S : List Addr} (h : ∀ a ∈ S, a ∈ W) : NoC W s S := fun x hx => .inl (h x hx)
theorem noC_it (hI : ∃ o, s.heap.get? I = some o ∧ jba o) (ha : a ∈ W) : NoC W s [I, a] := by
 intro x hx
 rcases List.mem_cons.mp hx with rfl | hx
 ·obtain ⟨o, ho, hc⟩ := hI; exact .inr ⟨o, ho, hc.2.2, hc.2.1⟩
 ·cases List.mem_singleton.mp hx; exact .inl ha
theorem noC_it1 (hI : ∃ o, s.heap.get? I = some o ∧ jba o) : NoC W s [I] := by
 intro x hx
 cases List.mem_singleton.mp hx
 obtain ⟨o, ho, hc⟩ := hI; exact .inr ⟨o, ho, hc.2.2, hc.2.1⟩
theorem LI.to {s' : Shared} {S : List Addr} (H : LwE B env W sX) (X : LI w B env W rwl fl rvs rows sX s Ls) (k : Kp S s s') (hS : ∀ a ∈ S, a ∈ W ∨ sX.heap.get? a = none) (hN : NoL W s S) (hC : NoC W s S) (hrw : rwl ∉ S) (hf : fl ∉ S) (g : Good w B s') (f : Frm env s')
  (hb : ∀ (y : Str) u, y ∈ ([("rows" : Str), "found"] : List Str) → Bnd env y u s → Bnd env y u s') : LI w B env W rwl fl rvs rows sX s' Ls where
 g := g
 f := f
 kp := X.kp.compW k hS H.tw
 br := hb _ _ (List.mem_cons_self ..) X.br
 bf := hb _ _ (List.Mem.tail _ (List.Mem.head _)) X.bf
 rp := jaj X.rp k hrw
 rr := jab (fun v x h => jan h k hN) X.rr
 ff := let ⟨vs, h1, h2⟩ := X.ff; ⟨vs, jaj h1 k hf, jab (fun v x h => jaV h k hC) h2⟩
 al := fun a ha => let ⟨_, e⟩ := X.al a ha; k.there _ _ e
theorem LI.ex {s' : Shared} (H : LwE B env W sX) (X : LI w B env W rwl fl rvs rows sX s Ls) (k : Kp [] s s') : LI w B env W rwl fl rvs rows sX s' Ls :=
 X.to H k al0 jaq ja6 ni0 ni0 (X.g.kp k al0) (ja0 X.f k nn0) fun y u Y h => jae h k
theorem LI.st {s' : Shared} {z : Str} (H : LwE B env W sX) (X : LI w B env W rwl fl rvs rows sX s Ls) (hro : rwl ∉ Own env) (hfo : fl ∉ Own env) (fI : sX.heap.get? I = none) (hI : ∃ o, s.heap.get? I = some o ∧ jba o) (k : Kp [I, jai env z] s s') (hz : z ∉ ([("rows" : Str), "found"] : List Str)) (hk : ∀ y u, y ≠ z → Bnd env y u s → Bnd env y u s') (g : Good w B s') (f : Frm env s') :
  LI w B env W rwl fl rvs rows sX s' Ls := by
 have so : jai env z ∈ W := H.own _ jac
 obtain ⟨vs, hvs, _⟩ := id X.ff
 refine X.to H k (by
   intro a ha
   rcases List.mem_cons.mp ha with rfl | ha
   ·exact .inr fI
   ·cases List.mem_singleton.mp ha; exact .inl so) (noL_it hI so) (noC_it hI so) (by
   intro q
   rcases List.mem_cons.mp q with q | q
   ·exact jb8 hI X.rp q
   ·cases List.mem_singleton.mp q; exact hro jac) (by
   intro q
   rcases List.mem_cons.mp q with q | q
   ·exact jb8 hI hvs q
   ·cases List.mem_singleton.mp q; exact hfo jac) g f fun y u hy h => hk y u (fun q => hz (q ▸ hy)) h
theorem LI.sv {s' : Shared} {z : Str} (H : LwE B env W sX) (X : LI w B env W rwl fl rvs rows sX s Ls) (hro : rwl ∉ Own env) (hfo : fl ∉ Own env) (k : Kp [jai env z] s s') (hz : z ∉ ([("rows" : Str), "found"] : List Str)) (hk : ∀ y u, y ≠ z → Bnd env y u s → Bnd env y u s') (g : Good w B s') (f : Frm env s') :
  LI w B env W rwl fl rvs rows sX s' Ls := by
 have so : jai env z ∈ W := H.own _ jac
 exact X.to H k (fun a ha => by cases List.mem_singleton.mp ha; exact .inl so) (ja9 fun a ha => by cases List.mem_singleton.mp ha; exact so) (jbU fun a ha => by cases List.mem_singleton.mp ha; exact so)
  (fun q => hro (by cases List.mem_singleton.mp q; exact jac)) (fun q => hfo (by cases List.mem_singleton.mp q; exact jac)) g f fun y u hy h => hk y u (fun q => hz (q ▸ hy)) h
theorem LI.it {s' : Shared} (H : LwE B env W sX) (X : LI w B env W rwl fl rvs rows sX s Ls) (fI : sX.heap.get? I = none) (nI : ∀ a ∈ W, a ≠ I) (hI : ∃ o, s.heap.get? I = some o ∧ jba o) (k : Kp [I] s s') : LI w B env W rwl fl rvs rows sX s' Ls := by
 obtain ⟨vs, hvs, _⟩ := id X.ff
 exact X.to H k (by simpa using .inr fI) (it_noL hI) (noC_it1 hI) (by simpa using jb8 hI X.rp) (by simpa using jb8 hI hvs) (X.g.kp k (by simpa using H.bI fI)) (ja0 X.f k (fun a ha => by simpa using nI a (H.own a ha))) fun y u Y h => jaA h k fun a ha => by simpa using nI a (H.own a ha)
theorem LI.base (X : LI w B env W rwl fl rvs rows sX s Ls) : LI w B env W rwl fl rvs rows s s Ls := { X with kp := (Kp.refl s).mono al0 }
theorem LI.join {s1 : Shared} (k : Kp W sX s1) (X : LI w B env W rwl fl rvs rows s1 s Ls) : LI w B env W rwl fl rvs rows sX s Ls := { X with kp := (k.trans X.kp).mono ap2 }
set_option tactic.hygienic true in
theorem lw_add {z : Str} {v : Value} {p0 p1 p2 p3 p4 p5 p6 p7 p8 : Pos} {n : Nat} (H : LwE B env W sX) (X : LI w B env W rwl fl rvs rows sX s Ls) (hA : Rm n A) (hn : n < 200) (hz : Ls.length ≤ 500) (hfw : fl ∈ W) (hfo : fl ∉ Own env) (hrf : rwl ≠ fl) (hb : Bnd env z v s) (hv : ctrR W s.heap v L)
  (hl : (p4.endLine == p5.line) = true := by rfl) (d1 : (z == ("__debug__" : Str)) = false := by kernel_rfl) (d2 : (z == ("__classdict__" : Str)) = false := by kernel_rfl) :
  Wp w A (exec (.If (.Compare (.Name z p0) [.NotIn] [.Name "found" p1] p2) [.Expr (.Call (.Attribute (.Name "found" p3) "append" p4) [.Name z p8] [] p5) p6] [] p7) env) (fun f s' => f = .next ∧ LI w B env W rwl fl rvs rows sX s' (addC Ls L) ∧ ∀ y u, Bnd env y u s → Bnd env y u s') s := by
 obtain ⟨x, dx, epx, rfl, C, nx, ndx⟩ := hv
 obtain ⟨vs, hvs, pvs⟩ := X.ff
 refine wpAny_If (wpAny_isTrue_Compare1 (jaf H.sta hb (jaf H.sta X.bf ?_) d1 d2))
 refine (notin_ctrs hA (lq0 hn rfl) X.g hvs.list pvs C).useE fun s2 k2 => ?_
 have X2 := X.ex H k2
 have C2 := C.kp k2 ni0 ni0
 have hvs2 := jaj hvs k2 ni0
 have pvs2 := jab (fun v x h => jaV h k2 (ja6 (W := W))) pvs
 refine wpAny_truthy_bool ?_
 split
 rotate_left
 ·rename_i hm
  have hm : (Ls.any fun M => eqv M L) = true := by simpa using hm
  refine wpAny_execs_nil ⟨rfl, ?_, fun y u h => jae h k2⟩
  have : addC Ls L = Ls := by unfold addC; rw [if_pos hm]
  rw [this]; exact X2
 ·rename_i hm
  have hm : ¬ (Ls.any fun M => eqv M L) = true := by simpa using hm
  refine (wpAny_execs_cons (jcn (B := B) H.sta.ok ?_ (hb := rfl) (hl := hl)))
  refine jaf H.sta X2.bf ⟨fl, vs, rfl, hvs2, jaf H.sta (jae hb k2) ⟨hvs2, by rw [jaa pvs]; exact lq8 ‹_› (by rfl), H.bw _ hfw, X2.g, fun s4 h4 k4 G4 => ?_⟩ d1 d2⟩
  have e : addC Ls L = Ls ++ [L] := by unfold addC; rw [if_neg hm]
  rw [e]
  have n4 : NoC W s2 [fl] := jbU (al1 hfw)
  have b4 : ∀ y u, Bnd env y u s2 → Bnd env y u s4 := fun y u h => jaA h k4 fun a ha q => hfo (by cases List.mem_singleton.mp q; exact ha)
  refine wpAny_execs_nil ⟨rfl, ?_, fun y u h => b4 y u (jae h k2)⟩
  have hv2 : ctrR W s2.heap (.ref x) L := ⟨x, dx, epx, rfl, C2, nx, ndx⟩
  exact { g := G4, f := ja0 X2.f k4 (fun a ha q => hfo (by cases List.mem_singleton.mp q; exact ha)), kp := X2.kp.compW k4 (by simpa using .inl hfw) H.tw, br := b4 _ _ X2.br, bf := b4 _ _ X2.bf,
          rp := jaj X2.rp k4 (ni1 hrf), rr := jab (fun v x h => jan h k4 (ja9 (al1 hfw))) X2.rr,
          ff := ⟨_, h4, (jab (fun v x h => jaV h k4 n4) pvs2).snoc (jaV hv2 k4 n4)⟩
          al := fun a ha => let ⟨_, e⟩ := X2.al a ha; k4.there _ _ e }
end
noncomputable def eqV (E F : VL) : Bool := decide (∀ k ∈ E.map (·.1) ++ F.map (·.1), lk0 E k = lk0 F k)
noncomputable def addV (Vs : List VL) (V : VL) : List VL := if (Vs.any fun M => eqV M V) = true then Vs else Vs ++ [V]
noncomputable def jbm (rows : List (List Int)) : List VL := rows.foldl (fun f r => addV f (jbQ r)) []
theorem jaS (L : List En) : (vals L).map (·.1) = L.map (·.1) := by unfold vals; rw [List.map_map]; rfl
theorem eqv_vals (L M : List En) : eqv L M = eqV (vals L) (vals M) := by
 unfold eqv eqV ksOf
 rw [jaS, jaS]
 simp only [jaG]
theorem addC_vals (Ls : List (List En)) (L : List En) : (addC Ls L).map vals = addV (Ls.map vals) (vals L) := by
 unfold addC addV
 rw [List.any_map]
 have : (Ls.any fun M => eqv M L) = Ls.any ((fun M => eqV M (vals L)) ∘ vals) := by
  congr 1; funext M; exact eqv_vals M L
 rw [this]
 split
 ·rfl
 ·simp
theorem bagOf_keys (row : List Int) : (jbQ row).map (·.1) = [0, 1, 2, 3] := rfl
theorem addV_len (Vs : List VL) (V : VL) : (addV Vs V).length ≤ Vs.length + 1 := by unfold addV; split <;> simp
section
variable {w : World} {B : Heap} {A : Around} {s : Shared} {a d b e c k m x y I l f D dx r cl rl td cr ct dl sl co cs rwl fl : Addr} {env cenv : Env} {sc : Scope} {E : Value → Shared → Prop} {W U V : List Addr} {sX : Shared} {rvs rv cvals svs : List Value} {rows cands : List (List Int)} {ks row : List Int} {kvs : List (Int × Value)} {ep : Nat} {Ls : List (List En)} {L : List En}
theorem keep_cls (G : Good w B s) : Looks (model P0 w) s.heap (keeperOf (.ref 1093)) .machine := by
 have e := G.k _ _ (look93 w.params)
 obtain ⟨c, hc⟩ := cls_data w.params
 unfold keeperOf
 refine (Looks.ld (part := none) e).andThen ?_
 rw [hc]
 dsimp only
 refine ((jcl G).andThen (jaL (T := "type") (name := "__call__") (r := some (.builtin "type.__call__")) (by kernel_rfl))).andThen ?_
 exact .now
theorem cw_cls1 {pos : Pos} {ex : Expr} {Q : Value → Shared → Prop} (h : wpAny (model P0 w) A (eval ex env) (fun v s' => Good w B s' ∧ wpAny (model P0 w) A (call (.ref 1093) [v]) Q E s') E s)
  (he : starEach [ex] env = [(false, eval ex env)] := by rfl) : wpAny (model P0 w) A (callWith pos (.ref 1093) [] (backTo pos (starEach [ex] env)) []) Q E s := by
 rw [he]
 refine cw_mach rfl (Calls.evalArgs_plain (spliced_cons (wpAny_mono h (fun v s' hx0 => by obtain ⟨G, h'⟩ := hx0; exact spliced_nil ⟨keep_cls G, h'⟩) fun Y Y z => z)))
noncomputable abbrev bagB : List Stmt := forB lwB[3]!
theorem law_bag {n : Nat} {v : Value} (H : LwE B env W sX) (X : LI w B env W rwl fl rvs rows sX s Ls) (hA : Rm n A) (hn : n < 190) (hz : Ls.length ≤ 500) (hfw : fl ∈ W) (hfo : fl ∉ Own env) (hro : rwl ∉ Own env) (hrf : rwl ≠ fl) (br : Bnd env "row" v s) (hv : liW W intR s.heap v row) (h4 : row.length = 4) :
  Wp w A (execs bagB env) (fun f s' => f = .next ∧ ∃ L, vals L = jbQ row ∧ LI w B env W rwl fl rvs rows sX s' (addC Ls L)) s := by
 try (refine lW ?_; intro Ro)
 have e1 : bagB = [bagB[0]!, bagB[1]!] := by kernel_rfl
 rw [e1]
 have oB : ∀ a ∈ Own env, B.get? a = none := fun a ha => H.bw _ (H.own a ha)
 have hcr : env.cells.lookup ("row" : Str) = some (env.locals + 1 + 1 + 1) := by rw [H.cells]; rfl
 have o3 : env.locals + 1 + 1 + 1 ∈ Own env := by unfold Own; rw [H.cells]; simp
 obtain ⟨r, rv, rfl, nr, hl, p⟩ := hv
 refine wpAny_execs_cons (wpAny_Assign_Name (jap (jal (.ref 1093) X.g H.sta.ok (cw_cls1 (B := B) ?_))))
 refine (dc_bag (cr := env.locals + 1 + 1 + 1) (n := n) H.sta (compT (by kernel_rfl) (by kernel_rfl) (fun Y => by kernel_rfl) (fun Y => by kernel_rfl) (by kernel_rfl) (by kernel_rfl)) hA (lq0 hn rfl)
  (jbh (frees := ["row"]) (fun Y => env.locals + 1 + 1 + 1) (by kernel_rfl) (als hcr) (List.nil_append _)) (oB _ o3) X.g (by kernel_rfl) (by kernel_rfl) br hcr hl p h4).useE3 fun D L ep s2 hx0 => ?_
 refine aG ?_; intro gO; obtain ⟨fD, hD, hv, k2⟩ := hx0; unfold gO; clear gO
 have X2 := X.ex H k2
 refine ⟨X2.g, ?_⟩
 have hlen : L.length = 4 := by
  have : (vals L).length = 4 := by rw [hv]; simp [jbQ]
  simpa [vals] using this
 have hnd : (L.map (·.1)).Nodup := by rw [← jaS, hv, bagOf_keys]; decide
 refine (newD X2.g (hA.le (lq6 ‹_› (by rfl))) hD (X.g.sys fD) (lq9 ‹_› (by rfl)) hnd (fun Y Y => ⟨Nat.zero_le _, Nat.zero_le _⟩)).useE2 fun a d s3 hx0 => ?_
 refine aG ?_; intro gO; obtain ⟨C3, fa, fd, k3, _⟩ := hx0; unfold gO; clear gO
 have X3 := X2.ex H k3
 have hCW : ctrR W s3.heap (.ref a) L := ⟨a, d, _, rfl, C3, (fun q => by obtain ⟨o, e⟩ := X2.al _ q; rw [fa] at e; cases e), (fun q => by obtain ⟨o, e⟩ := X2.al _ q; rw [fd] at e; cases e)⟩
 refine jaY X3.g H.sta X3.f oB (fun s4 b4 F4 hk4 k4 g4 G4 => ?_) (H.set ("bag" : Str) (by simp [lwN]))
 have X4 := X3.sv H hro hfo k4 (by decide +kernel) hk4 G4 F4
 have hC4 := jaV hCW k4 (jbU fun a ha => by cases List.mem_singleton.mp ha; exact H.own _ jac)
 refine wpAny_execs_cons ((lw_add H X4 hA (lq0 hn rfl) hz hfw hfo hrf b4 hC4).useE fun s5 hx0 => ?_)
 obtain ⟨X5, _⟩ := hx0
 exact wpAny_execs_nil ⟨rfl, L, hv, X5⟩
end
theorem lwInit_len (rows : List (List Int)) (n : Nat) : ((rows.take n).foldl (fun f r => addV f (jbQ r)) []).length ≤ n := by
 have := jbb (k := 1) (g := fun f (r : List Int) => addV f (jbQ r)) (fun f x => addV_len f _) (rows.take n) []
 rw [List.length_nil, List.length_take] at this
 exact lsm ‹_›
section
variable {w : World} {B : Heap} {A : Around} {s : Shared} {a d b e c k m x y I l f D dx r cl rl td cr ct dl sl co cs rwl fl : Addr} {env cenv : Env} {sc : Scope} {E : Value → Shared → Prop} {W U V : List Addr} {sX : Shared} {rvs rv cvals svs : List Value} {rows cands : List (List Int)} {ks row : List Int} {kvs : List (Int × Value)} {ep : Nat} {Ls : List (List En)} {L : List En}
theorem law_found {n : Nat} (H : LwE B env W sX) (X : LI w B env W rwl fl rvs rows sX s []) (hA : Rm n A) (hn : n < 190) (hfw : fl ∈ W) (hfo : fl ∉ Own env) (hro : rwl ∉ Own env) (hrw : rwl ∉ W) (hr : rows.length ≤ 3) (hok : RowOk rows) :
  Wp w A (exec lwB[3]! env) (fun f s' => f = .next ∧ ∃ Ls, LI w B env W rwl fl rvs rows sX s' Ls ∧ Ls.map vals = jbm rows) s := by
 try (refine lW ?_; intro Ro)
 have oB : ∀ a ∈ Own env, B.get? a = none := fun a ha => H.bw _ (H.own a ha)
 refine wpAny_For (jaf H.sta X.br ((jaD X.g X.rp.list).use fun v s2 It => ?_))
 have H1 := H.at X.kp
 have X2 := LI.ex H1 X.base It.kp
 refine jbz (W := W) H.sta hA X.g It H.own X.al (fun a ha q => hrw (by cases List.mem_singleton.mp ha; exact q)) oB (H.set _ (by simp [lwN]))
  (fun i s' => ∃ Ls, LI w B env W rwl fl rvs rows s s' Ls ∧ Ls.map vals = (rows.take i).foldl (fun f r => addV f (jbQ r)) []) (fun i s h => let ⟨_, h, _⟩ := h; ⟨h.g, h.f⟩) ⟨[], X2, rfl⟩ ?_ ?_
 ·intro I i v s9 s10 fI hi hv ⟨Ls, X9, h9⟩ hI' k10 b10 hk10 G10 F10
  first | (refine lW ?_; intro Ro) | (refine lA ?_; intro Ro) | (refine lC ?_; intro Ro) | skip
  have X10 := X9.st H1 hro hfo fI hI' k10 (by decide +kernel) hk10 G10 F10
  refine aG ?_; intro gO; obtain ⟨row, hrow, rv⟩ := ja4 X10.rr (toA hv); unfold gO; clear gO
  have hi' : i < rows.length := (List.getElem?_eq_some_iff.mp hrow).1
  have hz : Ls.length ≤ i := by
   have := congrArg List.length h9
   rw [List.length_map] at this
   rw [this]; exact lwInit_len rows i
  refine (law_bag (H1.at X10.kp) X10.base hA hn (lsq ‹_› ‹_› ‹_› (by rfl)) hfw hfo hro (fun q => hrw (q ▸ hfw)) b10 rv (hok _ (List.mem_of_getElem? hrow)).1).useE fun s11 hx0 => ?_
  refine aG ?_; intro gO; obtain ⟨L, hL, X11⟩ := hx0; unfold gO; clear gO
  refine ⟨⟨_, X11.join X10.kp, ?_⟩, X11.kp⟩
  rw [jbu hrow, addC_vals, h9, hL]
 ·intro I s9 s10 fI ⟨Ls, X9, h9⟩ hI' k10
  first | (refine lW ?_; intro Ro) | (refine lA ?_; intro Ro) | (refine lC ?_; intro Ro) | skip
  have nI : ∀ a ∈ W, a ≠ I := fun a ha q => by obtain ⟨o, e⟩ := X.al a ha; rw [q, fI] at e; cases e
  have X10 := X9.it H1 fI nI hI' k10
  rw [fold_all (by rw [← jaa X.rr]; simp)] at h9
  exact ⟨rfl, Ls, X10.join X.kp, h9⟩
end
local macro_rules | `(tactic| x_close) => `(tactic| (exact ⟨_, _, _, rfl, by first | assumption | exact Mem.start _, rfl, rfl, by ((try dsimp only); omega)⟩))
theorem lenc_run (w : World) (s : Shared) (KX : (KH w.params).In s.heap) (a d ep : Nat) (es : Array DictEntry) (ha : s.heap.get? a = some ⟨.ref 1093, some d, .dict es ep, #[]⟩) (hz : es.size ≤ 100) :
  wpAny (model P0 w) lv0 (call (.builtin "len") [.ref a]) (fun v s' => ∃ n t news, v = .int n t ∧ Mem s.heap s'.heap [] news ∧ s'.gens = s.gens ∧ s'.os = s.os ∧ s.toks ≤ s'.toks) (fun Y Y => False) s := by
 have f2 := kf2 KX; have f3 := kf3 KX; have f83 := kf83 KX; have f84 := kf84 KX; have f99 := kf99 KX; have f100 := jbJ KX; have f116 := jbI KX; have f117 := jbH KX; have f466 := jbG KX; have f467 := jb0 KX; have f470 := jbF KX; have f471 := jbE KX; have f893 := jbO KX; have f894 := jbN KX; have f1092 := jbf KX; have f1093 := jbe KX
 x_run
section
variable {w : World} {B : Heap} {A : Around} {s : Shared} {a d b e c k m x y I l f D dx r : Addr} {env cenv : Env} {sc : Scope} {E : Value → Shared → Prop} {ep : Nat} {L : List En}
theorem c_hint (G : Good w B s) (C : IsC s.heap a d L ep) (hR : Rm 300 A) (hz : L.length ≤ 100) : Wp w A (Builtin.List.listLengthHint (.ref a)) (fun Y s' => Kp [] s s') s := by
 try (refine lW ?_; intro Ro)
 unfold Builtin.List.listLengthHint
 have LS := C.spec G (c_len w.params)
 refine wpAny_bind (LS.here ?_)
 generalize hid : ("dict.__len__" : String) = id0
 wp_delta
 rw [show splitId id0 = some ("dict", "__len__") from by subst hid; decide +kernel]
 subst hid
 refine wpAny_bind ((jbp G C (.type "dict")).here ?_)
 refine wpAny_ite_split (fun hab => absurd hab (by decide)) (fun Y => ?_)
 refine wpAny_ite_split (fun Y => ?_) (fun hab => absurd (by decide +kernel) hab)
 refine wpAny_bind (C.type.here ?_)
 dsimp only
 refine wpAny_bind (hR.lv (wpAny_mono (lenc_run w s G.k a d ep _ C.at_ (by simpa using hz)) (fun v s' hx0 => ?_) fun Y Y z => z))
 refine aG ?_; intro gO; obtain ⟨n, t, news, ev, Dm, h1, h2, h3⟩ := hx0; unfold gO; clear gO
 subst ev
 exact wpAny_bind (wpAny_pure (wpAny_pure (jax G Dm h2 h3 h1)))
theorem list_ctr {n : Nat} (G : Good w B s) (C : IsC s.heap a d L ep) (hA : Rm n A) (hn : n < 290) (hz : L.length ≤ 100) : Wp w A (call (.type "list") [.ref a]) (fun v s' => ∃ D vs, v = .ref D ∧ s.heap.get? D = none ∧ PL s'.heap D vs ∧ Paired (intR s'.heap) vs (L.map (·.1)) ∧ Kp [] s s') s := by
 try (refine lW ?_; intro Ro)
 refine wpAny_mono (list_of (B := B) (fp := [a, d]) (n := L.length) (P := fun i v => ∃ x, L[i]? = some x ∧ v = .int x.1 x.2.1) (tv := .ref 1093) hA.1 G (fun s1 k => (C.kp k ni0 ni0).type) rfl rfl ⟨_, C.at_⟩ (by
   intro b hb
   rcases List.mem_cons.mp hb with rfl | hb
   ·exact ⟨_, C.at_⟩
   ·cases List.mem_singleton.mp hb; exact ⟨_, C.ow⟩) (lq8 ‹_› (by rfl)) (fun A' s1 k1 G1 hA' => ?_) (fun A' s1 k1 G1 hA' => ?_)) (fun v s' ⟨D, vs, ev, fD, hD, hv, k⟩ => ⟨D, vs, ev, fD, hD, ?_, k⟩) fun Y Y z => z
 ·subst hA'
  exact iter_ctr G1 (C.kp k1 ni0 ni0) (hA.in1.in1.le (lq2 hn rfl))
 ·subst hA'
  exact c_hint G1 (C.kp k1 ni0 ni0) (hA.in1.in1.le (lq2 hn rfl)) hz
 ·have : ∀ (vs : List Value) (ks : List Int), vs.length = ks.length → (∀ (j : Nat) (v : Value), vs[j]? = some v → ∃ z t, ks[j]? = some z ∧ v = .int z t) → Paired (intR s'.heap) vs ks := by
   intro vs
   induction vs with
   | nil => intro ks hl _; cases ks with
    | nil => exact .nil
    | cons _ _ => simp at hl
   | cons v vs ih =>
    intro ks hl h
    cases ks with
    | nil => simp at hl
    | cons z zs =>
     refine aG ?_; intro gO; obtain ⟨z', t, e1, e2⟩ := h 0 v rfl; unfold gO; clear gO
     cases e1
     exact .cons ⟨t, e2⟩ (ih zs (Nat.succ.inj hl) fun j u hu => h (j + 1) u hu)
  refine this vs _ (by rw [hv.1, List.length_map]) fun j v hj => ?_
  refine aG ?_; intro gO; obtain ⟨x, hx, e⟩ := hv.2 j v hj; unfold gO; clear gO
  exact ⟨x.1, x.2.1, by rw [List.getElem?_map, hx]; rfl, e⟩
end
section
variable {w : World} {B : Heap} {A : Around} {s : Shared} {a d b e c k m x y I l f D dx r : Addr} {env cenv : Env} {sc : Scope} {E : Value → Shared → Prop} {ep ep' : Nat} {L M : List En}
theorem jcb {v : Option Value} (h : s.heap.IsCell c v) (C : IsC s.heap a d L ep) : a ≠ c ∧ d ≠ c := by
 refine aG ?_; intro gO; obtain ⟨o, ho, hd⟩ := h; unfold gO; clear gO
 refine ⟨fun q => ?_, fun q => ?_⟩
 ·have := C.at_
  rw [q, ho] at this
  cases this; cases hd
 ·have := C.ow
  rw [q, ho] at this
  cases this; cases hd
theorem pos_comp {scope : Scope} {zy zz : Str} {q1 q2 q3 q4 q5 q6 q7 q8 pos : Pos} {kk n : Nat} (S : Sta env sc) (T : CompT scope sc [(zz, c)] "thing" false) (hA : Rm n A) (hn : n < 240) (hclos : closureFor scope env = pure [(zz, c)]) (hcB : B.get? c = none) (G : Good w B s)
  (hk : (jav scope sc).names.lookup zz = some .cell) (by' : Bnd env zy (.ref a) s) (bz : Bnd env zz (.ref b) s) (hcell : env.cells.lookup zz = some c) (C : IsC s.heap a d L ep) (C' : IsC s.heap b e M ep') (hz : L.length ≤ 100)
  (d1 : (zy == ("__debug__" : Str)) = false := by kernel_rfl) (d2 : (zy == ("__classdict__" : Str)) = false := by kernel_rfl) (d3 : (zz == ("__debug__" : Str)) = false := by kernel_rfl) (d4 : (zz == ("__classdict__" : Str)) = false := by kernel_rfl) :
  Wp w A (eval (.ListComp (.Name "thing" q1) [⟨.Name "thing" q2, .Name zy q3, [.Compare (.Subscript (.Name zz q4) (.Name "thing" q5) q6) [.Gt] [.Constant (.int (0 : Nat)) kk q7] q8], 0⟩] scope pos) env)
   (fun v s' => ∃ D vs, v = .ref D ∧ s.heap.get? D = none ∧ PL s'.heap D vs ∧ Paired (intR s'.heap) vs ((L.map (·.1)).filter fun k => decide (0 < cnt M k)) ∧ Kp [] s s') s := by
 try (refine lW ?_; intro Ro)
 have hcd := jaR bz hcell
 have nc := jcb hcd C
 refine jbV S.ok T hA hclos (List.pairwise_singleton _ _) (fun p hp => by cases List.mem_singleton.mp hp; exact hcB) (jaf S by' ((iter_ctr G C (hA.le (lq6 ‹_› (by rfl)))).use fun it s2 It => ?_) d1 d2)
 refine ⟨[a, d], L.length, _, fun i => decide (0 < cnt M ((L.map (·.1)).getD i 0)), fun i y Y => ∃ t, y = .int ((L.map (·.1)).getD i 0) t, G, fun p hp => by cases List.mem_singleton.mp hp; exact ⟨_, hcd⟩, by
   intro x hx
   simp only [List.map_cons, List.map_nil, List.mem_singleton]
   rcases List.mem_cons.mp hx with rfl | hx
   ·exact nc.1
   ·cases List.mem_singleton.mp hx; exact nc.2, It, jcg (f := fun i => (L.map (·.1)).getD i 0), jb3 (f := fun i => (L.map (·.1)).getD i 0), by exact lq8 ‹_› (by rfl), ?_, ?_⟩
 ·intro cenv A' j v s4 Sc hN _ hA' hj hv k4 G4 b4
  obtain ⟨N, hN⟩ := hN
  have hN : cenv.cells = [(zz, c)] := hN
  obtain ⟨x, hx, rfl⟩ := hv
  have hg : (L.map (·.1)).getD j 0 = x.1 := by rw [List.getD_eq_getElem?_getD, List.getElem?_map, hx]; rfl
  dsimp only
  rw [hg]
  have bz4 : Bnd cenv zz (.ref b) s4 := jb2 Sc hN (by simp [List.lookup_cons]) hk hcd k4
  have C4 := C'.kp k4 ni0 ni0
  refine wpAny_tests_one (wpAny_isTrue_Compare1 (jaJ (jaf Sc bz4 (jaf Sc b4 ⟨jbx G4 C4, ?_⟩) d3 d4)))
  refine (jaC G4 C4 (hA'.le (lq6 ‹_› (by rfl)))).useE1 fun t1 s5 hx0 => ?_
  refine aG ?_; intro gO; obtain ⟨pt1, K1, g1⟩ := hx0; unfold gO; clear gO
  refine wpAny_Constant_int (PyProof.Rows.gt_int (wpAny_truthy_bool ?_))
  have kt : Kp [] s5 { s5 with toks := s5.toks + 1 } := jak (Nat.le_succ _)
  refine ⟨rfl, (K1.trans kt).mono al0, fun Y => ?_⟩
  exact jaf Sc (jae (jae b4 K1) kt) ⟨⟨_, rfl⟩, (Kp.refl _).mono al0, by simp⟩
 ·intro D ys T' s' fD hl' ho _ k' G'
  have hs := jbn ho
  refine ⟨D, ys, rfl, fD, hl', ?_, k'⟩
  have h1 : ((List.range L.length).filter fun i => decide (0 < cnt M ((L.map (·.1)).getD i 0))).map (fun i => (L.map (·.1)).getD i 0) = (L.map (·.1)).filter fun k => decide (0 < cnt M k) := by
   conv => rhs; rw [← List.map_id (L.map (·.1)), ← ja5 (L.map (·.1)) _root_.id 0]
   rw [List.filter_map, List.length_map]
   rfl
  rw [← h1]
  exact jaF hs fun a b Y h => h.1
end
theorem Kp.butW {w : World} {B : Heap} {W : List Addr} {s0 s : Shared} {C : Addr} {h' : Heap} (G : Good w B s0) (k : Kp W s0 s) (hC : s0.heap.get? C = none) (hs : Heap.SameBut C s.heap h') : Kp W s0 { s with heap := h' } := by
 have ne : ∀ b o, s0.heap.get? b = some o → b ≠ C := fun b o e q => by rw [q, hC] at e; cases e
 refine ⟨fun b o e hc hb => (hs.2 b (ne b o e)).trans (k.keep b o e hc hb), fun b o e => ?_, fun B' hW OT => ?_, fun n => ?_, k.os, k.tk, k.gb⟩
 ·obtain ⟨o', e'⟩ := k.there b o e
  exact ⟨o', (hs.2 b (ne b o e)).trans e'⟩
 ·have O := k.old B' hW OT
  have hB : ∀ b o, B'.get? b = some o → b ≠ C := fun b o e => by
   obtain ⟨o', e'⟩ := OT.there b o e
   exact ne b o' e'
  refine O.step_but (S := [C]) (h' := h') (fun a ha => ?_) (fun b o e hb => (hs.2 b ((fun e => hb (List.mem_singleton.mpr e)))).trans e) ⟨fun b o e => ?_, fun b o e => ?_⟩
  ·cases List.mem_singleton.mp ha
   cases e : B'.get? C with
   | none => rfl
   | some o => exact absurd rfl (hB C o e)
  ·rcases O.ok.old b o e with x | ⟨t, hc, vs, more, hv, x⟩ | ⟨rfl, hc, ⟨o', es, n, ho', r⟩, z⟩
   ·exact .inl ((hs.2 b (hB b o e)).trans x)
   ·exact .inr (.inl ⟨t, hc, vs, more, hv, (hs.2 b (hB b o e)).trans x⟩)
   ·exact .inr (.inr ⟨rfl, hc, ⟨o', es, n, (hs.2 _ (hB _ o e)).trans ho', r⟩, fun key => by rw [OldK.staticOf_congr (hs.2 _ (hB _ o e)) key]; exact z key⟩)
  ·obtain ⟨o', e'⟩ := O.there b o e
   exact ⟨o', (hs.2 b (hB b o e)).trans e'⟩
 ·obtain ⟨o, e⟩ := G.two
  exact (hs.2 2 (ne 2 o e)).trans (k.stat n)
section
variable {w : World} {B : Heap} {A : Around} {s : Shared} {a d b e c k m x y I l f D dx r C : Addr} {env cenv : Env} {sc : Scope} {E : Value → Shared → Prop} {h' : Heap}
theorem ns_but {mm : Str → Option Value} (h : s.heap.Ns l mm) (hs : Heap.SameBut C s.heap h') (n : l ≠ C) : h'.Ns l mm := by
 refine aG ?_; intro gO; obtain ⟨o, es, ep, h1, h2⟩ := h; unfold gO; clear gO
 exact ⟨o, es, ep, (hs.2 l n).trans h1, h2⟩
theorem cell_but {v : Option Value} (h : s.heap.IsCell c v) (hs : Heap.SameBut C s.heap h') (n : c ≠ C) : h'.IsCell c v := by
 refine aG ?_; intro gO; obtain ⟨o, h1, h2⟩ := h; unfold gO; clear gO
 exact ⟨o, (hs.2 c n).trans h1, h2⟩
theorem bnd_but {z : Str} {v : Value} (h : Bnd env z v s) (hs : Heap.SameBut C s.heap h') (n : ∀ a ∈ Own env, a ≠ C) : Bnd env z v { s with heap := h' } := by
 have n1 : jai env z ≠ C := n _ jac
 unfold Bnd jai at *
 cases hc : env.cells.lookup z with
 | none =>
  rw [hc] at h n1
  refine aG ?_; intro gO; obtain ⟨h1, m, h2, h3⟩ := h; unfold gO; clear gO
  exact ⟨h1, m, ns_but h2 hs n1, h3⟩
 | some c =>
  rw [hc] at h n1
  exact ⟨h.1, cell_but h.2 hs n1⟩
theorem frm_but (h : Frm env s) (hs : Heap.SameBut C s.heap h') (n : ∀ a ∈ Own env, a ≠ C) : Frm env { s with heap := h' } := by
 refine aG ?_; intro gO; obtain ⟨⟨m, hm⟩, hc⟩ := h; unfold gO; clear gO
 refine ⟨⟨m, ns_but hm hs (n _ (List.mem_cons_self ..))⟩, fun x c hx => ?_⟩
 obtain ⟨v, hv⟩ := hc x c hx
 exact ⟨v, cell_but hv hs (n _ (List.mem_cons_of_mem _ (List.mem_map_of_mem (mem_of_lookup hx))))⟩
set_option tactic.hygienic true in
theorem lc_use {elt iter : Expr} {x xt : Str} {px pt : Pos} {ifs : List Expr} {scope : Scope} {pos spos : Pos} {cl : List (Str × Addr)} {xc : Bool} {nn : Nat} {Q : Flow → Shared → Prop}
  (S : Sta env sc) (T : CompT scope sc cl x xc) (hA : Rm nn A) (hclos : closureFor scope env = pure cl) (hap : cl.Pairwise fun x y => x.2 ≠ y.2) (hclB : ∀ p ∈ cl, B.get? p.2 = none) (hBo : ∀ a ∈ Own env, B.get? a = none) (hset : jaB env xt)
  (hsw : swapsWith (.ListComp elt [⟨.Name x px, iter, ifs, 0⟩] scope pos) (some (.Name xt pt)) spos.line env = pure true)
  (h : wpAny (model P0 w) A (eval iter env) (fun xv s₁ => wpAny (model P0 w) A (pyIter xv) (fun it s₂ => ∃ fp n P test F, Good w B s₁ ∧ Frm env s₁ ∧ (∀ a ∈ Own env, ∃ o, s₁.heap.get? a = some o) ∧ (∀ p ∈ cl, ∃ v, s₁.heap.IsCell p.2 v) ∧ (∀ a ∈ fp, a ∉ cl.map (·.2)) ∧ Iter w B s₁ fp n P it s₂ ∧ Stab F ∧ StabB F ∧ n ≤ 1000 ∧
   Body w B nn (jav scope sc) cl x xc ifs elt s₁ n P test F ∧ (∀ i y s, F i y s → ∃ n t, y = .int n t) ∧
   (∀ D ys T' s', s₁.heap.get? D = none → PL s'.heap D ys → Outs T' test F n ys s' → Bnd env xt (.ref D) s' → (∀ y u, y ≠ xt → Bnd env y u s₁ → Bnd env y u s') → Frm env s' → Kp [jai env xt] s₁ s' → Good w B s' → Q .next s')) E s₁) E s)
  (hs : ∀ x, foldedSetIterable iter env x = pure x := by intro _; rfl) : wpAny (model P0 w) A (exec (.Assign [.Name xt pt] (.ListComp elt [⟨.Name x px, iter, ifs, 0⟩] scope pos) spos) env) Q E s := by
 rw [exec_Assign_Name_used _ _ _ _ hsw]
 refine wpAny_bind (wpAny_standAt (wpAny_bind ?_))
 show wpAny _ _ (comprehension _ scope env _ (newList []) _ _ (some (assign (.Name xt pt) env)) >>= fun Y => pure ()) _ _ _
 refine wpAny_bind (wpAny_comprehension_free (use := some (assign (.Name xt pt) env)) rfl hs hclos T.kind T.names (wpAny_mono h (fun xv s₁ h₁ => wpAny_mono h₁ (fun it s₂ h₂ => ?_) fun Y Y z => z) fun Y Y z => z))
 refine aG ?_; intro gO; obtain ⟨fp, n, P, test, F, G1, F1, aO, hcl, fpc, It, hF, hFB, hn, hb, hint, hq⟩ := h₂; unfold gO; clear gO
 refine lc_start (RR := fun acc C => compPost (model P0 w) A E (some (assign (.Name xt pt) env)) _ acc C) S.ok T hA hF hn G1 hcl hap hclB fpc It hb ?_
 intro D C ys s' T' fD fC nDC hns hl hO hD hC K G
 obtain ⟨m, hm⟩ := hns
 have nO : ∀ a ∈ Own env, a ≠ C := fun a ha q => by obtain ⟨o, e⟩ := aO a ha; rw [q, fC] at e; cases e
 have nOD : ∀ a ∈ Own env, D ≠ a := fun a ha q => by obtain ⟨o, e⟩ := aO a ha; rw [← q, fD] at e; cases e
 show wpAny (model P0 w) A (assign (.Name xt pt) env (.ref D)) _ _ s'
 refine jbv (jaY G S (ja0 F1 K nn0) hBo (fun s2 b2 F2 hk2 k2 g2 G2 => ?_) hset)
 refine ⟨m, jay hm k2 (by simpa using Ne.symm (nO _ jac)), fun h' hs' => wpAny_pure (wpAny_pure ?_)⟩
 have K2 : Kp [jai env xt] s₁ s2 := (K.trans k2).mono sm0
 have hFi : ∀ i y, F i y s' → F i y s2 := fun i y hy => hF i y _ _ _ hy k2 fun a ea => by obtain ⟨n, t, e⟩ := hint _ _ _ hy; rw [e] at ea; cases ea
 have hO2 : ∀ {i : Nat} {ys : List Value}, Outs T' test F i ys s' → Outs T' test F i ys s2 := by
  intro i
  induction i with
  | zero => intro ys h; exact h
  | succ i ih =>
   intro ys h
   unfold Outs at h ⊢
   split at h
   ·rename_i ht
    rw [if_pos ht]
    refine aG ?_; intro gO; obtain ⟨zs, y, e, h1, h2, h3⟩ := h; unfold gO; clear gO
    exact ⟨zs, y, e, ih h1, hFi _ _ h2, h3⟩
   ·rename_i ht
    rw [if_neg ht]
    exact ih h
 have hl2 := jaj hl k2 (by simpa using nOD _ jac)
 have hl3 : PL h' D ys := let ⟨ep, e⟩ := hl2; ⟨ep, (hs'.2 D nDC).trans e⟩
 refine hq D ys T' _ fD hl3 (outs_but (fun i y hy ha => hFB i y s2 C h' hy ha hs') hC (hO2 hO)) (bnd_but b2 hs' nO) (fun y u hy hb => bnd_but (hk2 y u hy (jae hb K)) hs' nO) (frm_but F2 hs' nO) (Kp.butW G1 K2 fC hs') ?_
 exact G1.kp (Kp.butW G1 K2 fC hs') (fun a ha => by cases List.mem_singleton.mp ha; exact hBo _ jac)
end
noncomputable abbrev plcB : List Stmt := forB lwB[4]!
noncomputable abbrev hereB : List Stmt := ifB plcB[0]!
noncomputable abbrev othB : List Stmt := forB hereB[1]!
section
variable {w : World} {B : Heap} {A : Around} {s : Shared} {a d b e c k m x y I l f D dx r C co ch : Addr} {env cenv : Env} {sc : Scope} {E : Value → Shared → Prop} {h' : Heap} {ep ep' : Nat} {L M : List En}
noncomputable def behK (L M : List En) : List Int := (M.map (·.1)).filter fun k => !(getE L k).isSome && decide (0 < cnt M k)
set_option tactic.hygienic true in
theorem beh_comp {scope : Scope} {q1 q2 q3 q4 q5 q6 q7 q8 q9 u1 u2 u3 u4 u5 pos spos pt : Pos} {kk n : Nat} {Q : Flow → Shared → Prop} (S : Sta env sc) (T : CompT scope sc [(("other" : Str), co), ("here", ch)] "thing" false) (hA : Rm n A) (hn : n < 240) (hclos : closureFor scope env = pure [(("other" : Str), co), ("here", ch)]) (hcB : B.get? co = none) (hhB : B.get? ch = none) (hne : co ≠ ch) (G : Good w B s) (F : Frm env s)
  (hBo : ∀ a ∈ Own env, B.get? a = none) (aO : ∀ a ∈ Own env, ∃ o, s.heap.get? a = some o) (hset : jaB env "behind")
  (hk1 : (jav scope sc).names.lookup ("other" : Str) = some .cell) (hk2 : (jav scope sc).names.lookup ("here" : Str) = some .cell) (bo : Bnd env "other" (.ref b) s) (bh : Bnd env "here" (.ref a) s) (hco : env.cells.lookup ("other" : Str) = some co) (hch : env.cells.lookup ("here" : Str) = some ch)
  (C : IsC s.heap a d L ep) (C' : IsC s.heap b e M ep') (hz : M.length ≤ 100)
  (hsw : swapsWith (.ListComp (.Name "thing" q1) [⟨.Name "thing" q2, .Name "other" q3, [.BoolOp .And [.Compare (.Name "thing" q4) [.NotIn] [.Name "here" q5] q6, .Compare (.Subscript (.Name "other" q7) (.Name "thing" q8) q9) [.Gt] [.Constant (.int (0 : Nat)) kk u1] u2] u3], 0⟩] scope pos) (some (.Name "behind" pt)) spos.line env = pure true)
  (h : ∀ D ys s', s.heap.get? D = none → PL s'.heap D ys → Paired (intR s'.heap) ys (behK L M) → Bnd env "behind" (.ref D) s' → (∀ (y : Str) u, y ≠ "behind" → Bnd env y u s → Bnd env y u s') → Frm env s' → Kp [jai env "behind"] s s' → Good w B s' → Q .next s') :
  wpAny (model P0 w) A (exec (.Assign [.Name "behind" pt] (.ListComp (.Name "thing" q1) [⟨.Name "thing" q2, .Name "other" q3, [.BoolOp .And [.Compare (.Name "thing" q4) [.NotIn] [.Name "here" q5] q6, .Compare (.Subscript (.Name "other" q7) (.Name "thing" q8) q9) [.Gt] [.Constant (.int (0 : Nat)) kk u1] u2] u3], 0⟩] scope pos) spos) env) Q E s := by
 have hcd1 := jaR bo hco
 have hcd2 := jaR bh hch
 have n1 := jcb hcd1 C'
 have n2 := jcb hcd2 C'
 refine lc_use S T hA hclos (pw2 hne) (fun p hp => by
   rcases List.mem_cons.mp hp with rfl | hp
   ·exact hcB
   ·cases List.mem_singleton.mp hp; exact hhB) hBo hset hsw (jaf S bo ((iter_ctr G C' (hA.le (lq6 ‹_› (by rfl)))).use fun it s2 It => ?_))
 refine ⟨[b, e], M.length, _, fun i => !(getE L ((M.map (·.1)).getD i 0)).isSome && decide (0 < cnt M ((M.map (·.1)).getD i 0)), fun i y Y => ∃ t, y = .int ((M.map (·.1)).getD i 0) t, G, F, aO, fun p hp => by
   rcases List.mem_cons.mp hp with rfl | hp
   ·exact ⟨_, hcd1⟩
   ·cases List.mem_singleton.mp hp; exact ⟨_, hcd2⟩, by
   intro x hx
   simp only [List.map_cons, List.map_nil, List.mem_cons, List.not_mem_nil, or_false, not_or]
   rcases List.mem_cons.mp hx with rfl | hx
   ·exact ⟨n1.1, n2.1⟩
   ·cases List.mem_singleton.mp hx; exact ⟨n1.2, n2.2⟩, It, jcg (f := fun i => (M.map (·.1)).getD i 0), jb3 (f := fun i => (M.map (·.1)).getD i 0), by exact lq8 ‹_› (by rfl), ?_, fun i y s ⟨t, e⟩ => ⟨_, t, e⟩, ?_⟩
 ·intro cenv A' j v s4 Sc hN _ hA' hj hv k4 G4 b4
  obtain ⟨N, hN⟩ := hN
  have hN : cenv.cells = [(("other" : Str), co), ("here", ch)] := hN
  obtain ⟨x, hx, rfl⟩ := hv
  have hg : (M.map (·.1)).getD j 0 = x.1 := by rw [List.getD_eq_getElem?_getD, List.getElem?_map, hx]; rfl
  dsimp only
  rw [hg]
  have bo4 : Bnd cenv "other" (.ref b) s4 := jb2 Sc hN (by simp [List.lookup_cons]) hk1 hcd1 k4
  have bh4 : Bnd cenv "here" (.ref a) s4 := jb2 Sc hN (by rw [List.lookup_cons, show ((("here" : Str)) == (("other" : Str))) = false by decide +kernel]; simp [List.lookup_cons]) hk2 hcd2 k4
  have C4 := C.kp k4 ni0 ni0
  have C4' := C'.kp k4 ni0 ni0
  refine wpAny_tests_one (isTrue_and (wpAny_isTrue_Compare1 (jaf Sc b4 (jaf Sc bh4 ?_))))
  show wpAny _ _ (do return Value.bool (!(← contains (.ref a) (.int x.1 x.2.1)))) _ _ _
  refine wpAny_bind ((contains_ctr G4 C4).use fun c s5 ⟨ec, k5, _⟩ => wpAny_pure (wpAny_truthy_bool ?_))
  subst ec
  have C5 := C4'.kp k5 ni0 ni0
  have G5 := G4.kp k5 al0
  cases hc : (getE L x.1).isSome with
  | true =>
   rw [if_neg Bool.noConfusion]
   exact ⟨by simp, k5, fun q => by simp at q⟩
  | false =>
   rw [if_pos (by simp)]
   refine isTrue_and (wpAny_isTrue_Compare1 (jaJ (jaf Sc (jae bo4 k5) (jaf Sc (jae b4 k5) ⟨jbx G5 C5, ?_⟩))))
   refine (jaC G5 C5 (hA'.le (lq6 ‹_› (by rfl)))).useE1 fun t1 s6 hx0 => ?_
   obtain ⟨pt1, K1, g1⟩ := hx0
   refine wpAny_Constant_int (PyProof.Rows.gt_int (wpAny_truthy_bool ?_))
   have kt : Kp [] s6 { s6 with toks := s6.toks + 1 } := jak (Nat.le_succ _)
   have K6 : Kp [] s4 { s6 with toks := s6.toks + 1 } := ((k5.trans K1).trans kt).mono al0
   have fin : ∀ bb, bb = decide (0 < cnt M x.1) → bb = (!false && decide (0 < cnt M x.1)) ∧ Kp [] s4 { s6 with toks := s6.toks + 1 } ∧ ((!false && decide (0 < cnt M x.1)) = true → Wp w A' (eval (.Name "thing" q1) cenv) (fun y s'' => (∃ t, y = .int x.1 t) ∧ Kp [] { s6 with toks := s6.toks + 1 } s'' ∧ ∀ a, y = .ref a → ({ s6 with toks := s6.toks + 1 } : Shared).heap.get? a = none) { s6 with toks := s6.toks + 1 }) :=
    fun bb hbb => ⟨by simpa using hbb, K6, fun Y => jaf Sc (jae b4 K6) ⟨⟨_, rfl⟩, (Kp.refl _).mono al0, by simp⟩⟩
   split
   ·rename_i hd
    refine isTrue_and_nil ?_
    exact fin true hd.symm
   ·rename_i hd
    exact fin false (by simpa using hd)
 ·intro D ys T' s' fD hl' ho hb hk hf k' G'
  have hs := jbn ho
  refine h D ys s' fD hl' ?_ hb hk hf k' G'
  have h1 : ((List.range M.length).filter fun i => !(getE L ((M.map (·.1)).getD i 0)).isSome && decide (0 < cnt M ((M.map (·.1)).getD i 0))).map (fun i => (M.map (·.1)).getD i 0) = behK L M := by
   unfold behK
   conv => rhs; rw [← List.map_id (M.map (·.1)), ← ja5 (M.map (·.1)) _root_.id 0]
   rw [List.filter_map, List.length_map]
   rfl
  rw [← h1]
  exact jaF hs fun a b Y h => h.1
end
end Mine
namespace Mine
open PySem PySem.W PySem.W.X PyProof.Rows PySem.Calls Builtin PySem.SeqAt
theorem rcne_list {α : Type} [DecidableEq α] {n : Nat} {R : Rel α} (hR : EqOk n R) {A : Around} {s : Shared} {l b : Addr} {xs xs' : List α} (hu : A.units + (n + 1) < cLine) (h : jbw R s.heap (.ref l) xs) (h' : jbw R s.heap (.ref b) xs') : RcNeAt A s (.ref l) (.ref b) (!decide (xs = xs')) := by
 obtain ⟨l1, vs, e1, hl, p⟩ := h
 obtain ⟨l2, vs', e2, hl', p'⟩ := h'
 cases e1; cases e2
 by_cases hz : vs.length = vs'.length
 ·have := RcNeAt.lists (A := A) hl.list hl'.list hz (ltj ‹_›) (eqOk_seq hR hu p p')
  rwa [show vs.toArray.size = xs.length by simpa using jaa p, all_eq (by rw [← jaa p, ← jaa p', hz])] at this
 ·have := RcNeAt.lists_lengths (A := A) hl.list hl'.list (bne_iff_ne.mpr hz) (ltj ‹_›)
  rwa [show decide (xs = xs') = false by
   rw [decide_eq_false_iff_not]; rintro rfl; exact hz (by rw [jaa p, jaa p'])]
section
variable {w : World} {A : Around} {s : Shared} {l b : Addr}
theorem ne_list {α : Type} [DecidableEq α] {n : Nat} {R : Rel α} (hR : EqOk n R) {xs xs' : List α} (hu : A.units + (n + 1) < cLine) (h : jbw R s.heap (.ref l) xs) (h' : jbw R s.heap (.ref b) xs') : Wp w A (compareOp .NotEq (.ref l) (.ref b)) (fun v s' => v = .bool (!decide (xs = xs')) ∧ s' = s) s :=
 PySem.EqBoolInt.of_rcne (rcne_list hR hu h h') ⟨rfl, rfl⟩
end
end Mine
namespace Mine
open PySem PySem.W PySem.W.X PyProof.Rows PySem.Calls Builtin
noncomputable def iitG (a : Addr) (i n ep : Nat) (t : Addr) (f : Bool) (ok ov : Value) : Obj := ⟨.type "dict_itemiterator", none, .fields #[rawInt t, .bool f, .ref a, .int i 0, .int n 0, .int ep 0, ok, ov], #[]⟩
section
variable {w : World} {B : Heap} {A : Around} {s : Shared} {a d b e c k m x y I l it t : Addr} {L : List En} {ep i : Nat} {E : Value → Shared → Prop}
theorem next_item_out {x : En} {f : Bool} {ok ov : Value} {ot : Obj} {Q : Option Value → Shared → Prop} (hit : s.heap.get? it = some (iitG a i L.length ep t f ok ov)) (ht : s.heap.get? t = some ot) (hti : t ≠ it) (C : IsC s.heap a d L ep) (hx : L[i]? = some x)
  (hq : ∀ h', h'.get? it = some (iitG a (i + 1) L.length ep t true ok ov) → h'.get? s.heap.objs.size = some (tupO #[.int x.1 x.2.1, .int x.2.2.1 x.2.2.2]) →
   (∀ b o, b ≠ it → s.heap.get? b = some o → h'.get? b = some o) → Q (some (.ref s.heap.objs.size)) { s with heap := h' }) :
  wpAny (model P0 w) A (pyNext (.ref it)) Q E s := by
 obtain ⟨h, g, dr, tk, os⟩ := s
 have hT : Shared.TypeIs ⟨h, g, dr, tk, os⟩ (.ref it) "dict_itemiterator" := ⟨_, hit, rfl⟩
 unfold pyNext
 refine wpAny_bind (wpAny_attempt (wpAny_callSpecial?_slot (name := Str.ofString "__next__") hT PySem.F.slot_dict_itemiterator_next
  (wpAny_call_entry PySem.F.slot_dict_itemiterator_next hT PySem.F.entry_dict_itemiterator_next ?_ (PySem.F.args_dict_itemiterator_next_1 _))))
 refine wpAny_bind (wpAny_pure ?_)
 refine wpAny_bind (wpAny_bind (wpAny_bind (wpAny_typeNameOfWhole_itemiter hT (wpAny_pure ?_))))
 refine wpAny_bind (wpAny_fieldsOf hit rfl ?_)
 have hown : Builtin.Dict_items.ownsTuple "dict_itemiterator" = true := by decide
 simp only [hown, if_true]
 have hn : (Value.ref a == Value.none) = false := rfl
 have hlt : i < L.length := (List.getElem?_eq_some_iff.mp hx).1
 show wpAny _ _ (if (Value.ref a == Value.none) = true then _ else _) _ _ _
 rw [hn, if_neg Bool.false_ne_true]
 refine wpAny_bind (wpAny_pure ?_)
 refine wpAny_bind (wpAny_dictEntries C.at_ rfl ?_)
 rw [if_neg sz0]
 refine wpAny_bind (wpAny_pure ?_)
 refine wpAny_bind (wpAny_dictEpoch C.at_ rfl ?_)
 rw [if_neg bn0]
 refine wpAny_pure ?_
 have hi : ¬ ((i : Int) < 0) := by exact lqi
 have he : (L.map ent).toArray[(i : Int).toNat]? = some (ent x) := by simp [hx]
 show wpAny _ _ (match (if (i : Int) < 0 then none else (L.map ent).toArray[(i : Int).toNat]?) with | some e => _ | none => _) _ _ _
 rw [if_neg hi, he]
 refine wpAny_bind (wpAny_bind (wpAny_typeNameOfWhole_itemiter hT (wpAny_pure ?_)))
 refine wpAny_bind (wpAny_isOneOf_itemiter hT ?_)
 simp only [hown, if_true]
 show wpAny _ _ (setField (.ref it) 3 (rawInt ((i : Int) + 1)) >>= _) _ _ _
 refine wpAny_bind (wpAny_setField_rec hit (lqf rfl) fun h₁ he₁ hs₁ => ?_)
 have hT₁ : Shared.TypeIs ⟨h₁, g, dr, tk, os⟩ (.ref it) "dict_itemiterator" := ⟨_, he₁, rfl⟩
 have e1 : ((i + 1 : Nat) : Int) = (i : Int) + 1 := by exact Int.natCast_succ _
 have he₂ : h₁.get? it = some (iitG a (i + 1) L.length ep t f ok ov) := by unfold iitG; rw [e1]; exact he₁
 refine wpAny_bind (wpAny_holding ?_)
 refine wpAny_bind (wpAny_isOneOf_itemiter hT₁ ?_)
 refine wpAny_bind (wpAny_isOneOf_itemiter hT₁ ?_)
 have hz : h₁.objs.size = h.objs.size := hs₁.1
 have hs1 : Heap.SameBut it h h₁ := hs₁
 have hil : it < h.objs.size := Heap.lt_size hit
 show wpAny _ _ (Builtin.Dict_items.pairFromOwner (.ref it) 6 (.int x.1 x.2.1) (.int x.2.2.1 x.2.2.2)) _ _ ⟨h₁, g, dr, tk, os⟩
 unfold Builtin.Dict_items.pairFromOwner
 refine wpAny_bind (wpAny_newTuple ?_)
 have h2 : (h₁.push (tupO #[.int x.1 x.2.1, .int x.2.2.1 x.2.2.2])).get? it = some (iitG a (i + 1) L.length ep t f ok ov) := Heap.get?_push_of_some _ he₂
 have htp : (h₁.push (tupO #[.int x.1 x.2.1, .int x.2.2.1 x.2.2.2])).get? h.objs.size = some (tupO #[.int x.1 x.2.1, .int x.2.2.1 x.2.2.2]) := by rw [← hz]; exact Heap.get?_push_size _ rfl
 have hkk : ∀ b o, b ≠ it → h.get? b = some o → (h₁.push (tupO #[.int x.1 x.2.1, .int x.2.2.1 x.2.2.2])).get? b = some o := fun b o nb e => Heap.get?_push_of_some _ ((hs1.2 b nb).trans e)
 change wpAny _ _ _ _ _ { heap := h₁.push (tupO #[.int x.1 x.2.1, .int x.2.2.1 x.2.2.2]), gens := g, drawn := dr, toks := tk, os := os }
 show wpAny _ _ (Builtin.Dict_items.ownedTupleIsFree (.ref it) >>= _) _ _ _
 rw [hz]
 generalize h₁.push (tupO #[.int x.1 x.2.1, .int x.2.2.1 x.2.2.2]) = h₂ at h2 htp hkk ⊢
 have ha₂ : h₂.get? t = some ot := hkk t ot hti ht
 refine wpAny_bind ?_
 unfold Builtin.Dict_items.ownedTupleIsFree
 refine wpAny_bind (wpAny_field h2 rfl (x := rawInt t) rfl ?_)
 show wpAny _ _ (loadIfAlive ((t : Int).toNat) >>= _) _ _ _
 rw [Int.toNat_natCast]
 refine wpAny_bind (kdx_alive ha₂ ?_)
 simp only [Option.isNone_some, Bool.false_eq_true, if_false]
 refine wpAny_bind (wpAny_field h2 rfl (x := .bool f) rfl ?_)
 cases f with
 | true =>
  rw [if_neg (show ¬ ((Value.bool true != Value.bool true) = true) from Bool.false_ne_true)]
  refine wpAny_pure ?_
  simp only [Bool.false_eq_true, if_false]
  exact wpAny_pure (wpAny_pure ⟨_, rfl, wpAny_pure (hq h₂ h2 htp hkk)⟩)
 | false =>
  rw [if_pos (show (Value.bool false != Value.bool true) = true from rfl)]
  refine wpAny_bind (wpAny_setField_rec h2 (lqf rfl) fun h₃ he₃ hs₃ => ?_)
  have hs3 : Heap.SameBut it h₂ h₃ := hs₃
  have he3 : h₃.get? it = some (iitG a (i + 1) L.length ep t true ok ov) := he₃
  refine wpAny_pure ?_
  simp only [Bool.false_eq_true, if_false]
  exact wpAny_pure (wpAny_pure ⟨_, rfl, wpAny_pure (hq h₃ he3 ((hs3.2 _ (Nat.ne_of_gt hil)).trans htp) fun b o nb e => (hs3.2 b nb).trans (hkk b o nb e))⟩)
end
section
variable {w : World} {B : Heap} {A : Around} {s : Shared} {a d b e c k m x y I l it t : Addr} {L : List En} {ep i : Nat} {E : Value → Shared → Prop} {R : Result → Shared → Prop}
theorem next_item_end_out {f : Bool} {ok ov : Value} {Q : Option Value → Shared → Prop} (G : Good w B s) (h2 : it ≠ 2) (hh : A.handled = none) (hit : s.heap.get? it = some (iitG a L.length L.length ep t f ok ov)) (C : IsC s.heap a d L ep)
  (hq : ∀ s', Kp [it] s s' → s'.gens = s.gens → Q none s') : wpAny (model P0 w) A (pyNext (.ref it)) Q E s := by
 obtain ⟨h, g, dr, tk, os⟩ := s
 have hT : Shared.TypeIs ⟨h, g, dr, tk, os⟩ (.ref it) "dict_itemiterator" := ⟨_, hit, rfl⟩
 unfold pyNext
 refine wpAny_bind (wpAny_attempt (wpAny_callSpecial?_slot (name := Str.ofString "__next__") hT PySem.F.slot_dict_itemiterator_next
  (wpAny_call_entry PySem.F.slot_dict_itemiterator_next hT PySem.F.entry_dict_itemiterator_next ?_ (PySem.F.args_dict_itemiterator_next_1 _))))
 refine wpAny_bind (wpAny_pure ?_)
 refine wpAny_bind (wpAny_bind (wpAny_bind (wpAny_typeNameOfWhole_itemiter hT (wpAny_pure ?_))))
 refine wpAny_bind (wpAny_fieldsOf hit rfl ?_)
 have hown : Builtin.Dict_items.ownsTuple "dict_itemiterator" = true := by decide
 simp only [hown, if_true]
 have hn : (Value.ref a == Value.none) = false := rfl
 show wpAny _ _ (if (Value.ref a == Value.none) = true then _ else _) _ _ _
 rw [hn, if_neg Bool.false_ne_true]
 refine wpAny_bind (wpAny_pure ?_)
 refine wpAny_bind (wpAny_dictEntries C.at_ rfl ?_)
 rw [if_neg sz0]
 refine wpAny_bind (wpAny_pure ?_)
 refine wpAny_bind (wpAny_dictEpoch C.at_ rfl ?_)
 rw [if_neg bn0]
 refine wpAny_pure ?_
 have hi : ¬ ((L.length : Int) < 0) := by exact lqi
 have he : (L.map ent).toArray[(L.length : Int).toNat]? = none := by simp
 show wpAny _ _ (match (if (L.length : Int) < 0 then none else (L.map ent).toArray[(L.length : Int).toNat]?) with | some e => _ | none => _) _ _ _
 rw [if_neg hi, he]
 refine wpAny_bind (wpAny_bind (wpAny_typeNameOfWhole_itemiter hT (wpAny_pure ?_)))
 simp only [hown, if_true]
 show wpAny _ _ (setField (.ref it) 2 .none >>= _) _ _ _
 refine wpAny_bind (wpAny_setField_rec hit (lqf rfl) fun h₁ he₁ hs₁ => ?_)
 refine jaT hh fun s' k1 k2 k3 k4 => ?_
 refine hq s' ((jaz (s := ⟨h, g, dr, tk, os⟩) hs₁ h2 ⟨_, he₁⟩ (Nat.le_refl _)).trans (jat k1 ?_ k3 k4 k2) |>.mono sm0) k2
 obtain ⟨o, e⟩ := G.two
 exact ⟨o, (hs₁.2 2 (Ne.symm h2)).trans e⟩
noncomputable def ItS (it l a : Addr) (n ep i : Nat) (h : Heap) : Prop := (i = 0 ∧ ∃ ok ov, h.get? it = some (iitO a 0 n ep .none ok ov)) ∨ ∃ t f ok ov ot, h.get? it = some (iitG a i n ep t f ok ov) ∧ h.get? t = some ot ∧ ot.cls = .type "tuple" ∧ t ≠ it ∧ t ≠ l
noncomputable def jbM (h : Heap) (v : Value) (x : En) : Prop := ∃ b, v = .ref b ∧ h.get? b = some (tupO #[.int x.1 x.2.1, .int x.2.2.1 x.2.2.2])
theorem jby {s' : Shared} {S : List Addr} {v : Value} {x : En} (h : jbM s.heap v x) (k : Kp S s s') (n : ∀ b o, b ∈ S → s.heap.get? b = some o → o.cls ≠ .type "tuple") : jbM s'.heap v x := by
 obtain ⟨b, e, hb⟩ := h
 exact ⟨b, e, k.keep _ _ hb (jau (by simp [tupO])) fun m => n b _ m hb rfl⟩
theorem kp_item {h' : Heap} (n2 : it ≠ 2) (G : Good w B s) (hk : ∀ b o, b ≠ it → s.heap.get? b = some o → h'.get? b = some o) (hi : ∃ o, h'.get? it = some o) : Kp [it] s { s with heap := h' } := by
 refine kp_same (fun Y => ?_) (fun b o e n => hk b o ((fun e => n (List.mem_singleton.mpr e))) e) (fun b o e => ?_) (Nat.le_refl _)
 ·obtain ⟨o, e⟩ := G.two
  rw [e]
  exact hk 2 o (Ne.symm n2) e
 ·by_cases q : b = it
  ·rw [q]; exact hi
  ·exact ⟨o, hk b o q e⟩
end
section
variable {w : World} {B : Heap} {A : Around} {s : Shared} {a d b e c k m x y I l it t vw : Addr} {L : List En} {ep i : Nat} {E : Value → Shared → Prop} {R : Result → Shared → Prop}
theorem ext_items (hh : A.handled = none) (hn : L.length ≤ 500) (hLI : l ≠ it) (hla : l ≠ a) (hld : l ≠ d) (hia : it ≠ a) (hid : it ≠ d) (hBI : B.get? it = none) (hB : B.get? l = none) (res : Value) :
  ∀ k i s vs, L.length - i = k → i ≤ L.length → Good w B s → ItS it l a L.length ep i s.heap → IsC s.heap a d L ep → PL s.heap l vs → Paired (jbM s.heap) vs (L.take i) → (∃ o, s.heap.get? it = some o ∧ o.cls ≠ .type "tuple") →
  (∀ s' vs, PL s'.heap l vs → Paired (jbM s'.heap) vs L → Kp [it, l] s s' → Good w B s' → R (.ok (.ret res)) s') →
  codeAny (model P0 w) A (.builtin "list.extend.loop" ⟨[.ref l, .ref it, res], []⟩) R s := by
 intro k
 induction k with
 | zero =>
  intro i s vs hk hi G st C hl hv aI hR
  have hin : i = L.length := by exact lqq ‹_› ‹_›
  subst hin
  have n2 := jaP G hBI
  refine codeAny_builtin PySem.F.entry_extend_loop ?_
  rw [Around.under_plainId PySem.F.plain_extend_loop _]
  show wpAny _ A.in1 (pyNext (.ref it) >>= _) _ _ s
  have fin : ∀ s', Kp [it] s s' → s'.gens = s.gens → R (.ok (.ret res)) s' := fun s' k g => by
   refine hR s' vs (jaj hl k (ni1 hLI)) ?_ (k.mono si2) (G.kp k (al1 hBI))
   rw [List.take_length] at hv
   exact jah (fun v x h => jby h k fun b o m e => by
    cases List.mem_singleton.mp m
    obtain ⟨o', e', hc⟩ := aI
    rw [e] at e'; cases e'; exact hc) hv
  rcases st with ⟨h0, ok, ov, hit⟩ | ⟨t, f, ok, ov, ot, hit, ht, _, hti, _⟩
  ·have hz : L.length = 0 := h0
   rw [show (0 : Nat) = L.length by omega] at hit
   have hit' : s.heap.get? it = some (iitO a L.length L.length ep .none ok ov) := hit
   exact wpAny_bind (jct G n2 hh hit' C fun s' k g => wpAny_pure (fin s' k g))
  ·exact wpAny_bind (next_item_end_out G n2 hh hit C fun s' k g => wpAny_pure (fin s' k g))
 | succ k ih =>
  intro i s vs hk hi G st C hl hv aI hR
  have hlt : i < L.length := by exact lqr ‹_›
  have hx : L[i]? = some L[i] := List.getElem?_eq_getElem hlt
  have n2 := jaP G hBI
  refine codeAny_builtin PySem.F.entry_extend_loop ?_
  rw [Around.under_plainId PySem.F.plain_extend_loop _]
  show wpAny _ A.in1 (pyNext (.ref it) >>= _) _ _ s
  have al : ∃ o, s.heap.get? l = some o := by obtain ⟨ep, e⟩ := hl; exact ⟨_, e⟩
  have nz : s.heap.objs.size ≠ l := fun q => by obtain ⟨o, e⟩ := al; rw [← q, jag] at e; cases e
  have nzi : s.heap.objs.size ≠ it := fun q => by obtain ⟨o, e, _⟩ := aI; rw [← q, jag] at e; cases e
  have go : ∀ h' o', h'.get? it = some o' → o'.cls ≠ .type "tuple" → ItS it l a L.length ep (i + 1) h' → h'.get? s.heap.objs.size = some (tupO #[.int L[i].1 L[i].2.1, .int L[i].2.2.1 L[i].2.2.2]) → (∀ b o, b ≠ it → s.heap.get? b = some o → h'.get? b = some o) →
    wpAny (model P0 w) A.in1 (updateSeq l (·.push (.ref s.heap.objs.size)) >>= fun Y => again (.builtin "list.extend.loop" ⟨[.ref l, .ref it, res], []⟩))
     (fun fin s' => match fin with | .done f => R (.ok f) s' | .again c' => c'.quiet = true ∧ codeAny (model P0 w) A c' R s') (fun e s' => R (.error e) s') { s with heap := h' } := by
   intro h' o' ho' hc' st' htp hkk
   have k1 : Kp [it] s { s with heap := h' } := kp_item n2 G hkk ⟨o', ho'⟩
   have G1 := G.kp k1 (al1 hBI)
   have C1 := C.kp k1 (by simpa using Ne.symm hia) (by simpa using Ne.symm hid)
   have hl1 := jaj hl k1 (ni1 hLI)
   have hv1 : Paired (jbM h') vs (L.take i) := jah (fun v x h => jby (s' := { s with heap := h' }) h k1 fun b o m e => by
    cases List.mem_singleton.mp m
    obtain ⟨o2, e2, hc2⟩ := aI
    rw [e] at e2; cases e2; exact hc2) hv
   have hvl : vs.length = i := by rw [jaa hv, List.length_take]; exact Nat.min_eq_left ‹_›
   refine wpAny_bind (pl_upd G1 hl1 hB (by omega) (by simp; omega) fun s2 hl2 k2 g2 G2 => ?_)
   obtain ⟨el, hle⟩ := hl1
   have nl : ∀ b o, b ∈ [l] → ({ s with heap := h' } : Shared).heap.get? b = some o → o.cls ≠ .type "tuple" := fun b o m e => by
    cases List.mem_singleton.mp m
    rw [hle] at e; cases e; simp
   have hv2 : Paired (jbM s2.heap) (vs ++ [.ref s.heap.objs.size]) (L.take (i + 1)) := by
    rw [List.take_add_one, hx]
    exact (jah (fun v x h => jby h k2 nl) hv1).snoc (jby (s := { s with heap := h' }) ⟨_, rfl, htp⟩ k2 nl)
   have st2 : ItS it l a L.length ep (i + 1) s2.heap := by
    rcases st' with ⟨q, _⟩ | ⟨t, f, ok, ov, ot, hit, ht, htc, hti, htl⟩
    ·omega
    ·exact .inr ⟨t, f, ok, ov, ot, k2.keep _ _ hit (jau (by simp [iitG])) (by simpa using Ne.symm hLI), k2.keep _ _ ht (jau (by rw [htc]; simp)) (ni1 htl), htc, hti, htl⟩
   refine wpAny_pure ⟨plainId_quiet PySem.F.plain_extend_loop _, ih (i + 1) s2 _ (lqj ‹_›) hlt G2 st2 (C1.kp k2 (by simpa using Ne.symm hla) (by simpa using Ne.symm hld)) (by simpa using hl2) hv2 ?_ fun s3 vs3 h3 hv3 k3 G3 => ?_⟩
   ·rcases st2 with ⟨q, _⟩ | ⟨t, f, ok, ov, ot, hit, _⟩
    ·omega
    ·exact ⟨_, hit, by simp [iitG]⟩
   ·exact hR s3 vs3 h3 hv3 (((k1.trans k2).trans k3).mono ap2) G3
  rcases st with ⟨h0, ok, ov, hit⟩ | ⟨t, f, ok, ov, ot, hit, ht, htc, hti, htl⟩
  ·subst h0
   refine wpAny_bind (next_item hit C hx fun h' q1 q2 q3 => ?_)
   have q1' : h'.get? it = some (iitG a (0 + 1) L.length ep s.heap.objs.size false (.int L[0].1 L[0].2.1) (.int L[0].2.2.1 L[0].2.2.2)) := q1
   exact go h' _ q1' (by simp [iitG]) (.inr ⟨_, _, _, _, _, q1', q2, rfl, nzi, nz⟩) q2 q3
  ·refine wpAny_bind (next_item_out hit ht hti C hx fun h' q1 q2 q3 => ?_)
   exact go h' _ q1 (by simp [iitG]) (.inr ⟨_, _, _, _, _, q1, q3 _ _ hti ht, htc, hti, htl⟩) q2 q3
end
section
variable {w : World} {B : Heap} {A : Around} {s : Shared} {a d b e c k m x y I l it t vw r : Addr} {L : List En} {ep i : Nat} {E : Value → Shared → Prop} {R : Result → Shared → Prop}
theorem i_hint {Q : Bool → Shared → Prop} (hT : s.TypeIs (.ref r) "dict_items") (h : Q false s) : wpAny (model P0 w) A (Builtin.List.listLengthHint (.ref r)) Q E s := by
 unfold Builtin.List.listLengthHint
 refine wpAny_bind (wpAny_specialOf hT PySem.F.slot_dict_items_len.lookup ?_)
 generalize hid : ("dict_items.__len__" : String) = id0
 wp_delta
 rw [show splitId id0 = some ("dict_items", "__len__") from by subst hid; decide +kernel]
 subst hid
 refine wpAny_bind (wpAny_isInstance (T := "dict_items") (b := true) hT (by rw [isSubtype_type]; kernel_rfl) ?_)
 refine wpAny_ite_split (fun hab => absurd hab (by decide)) (fun Y => ?_)
 refine wpAny_ite_split (fun Y => ?_) (fun hab => absurd (by decide +kernel) hab)
 refine wpAny_bind (wpAny_typeOf hT ?_)
 exact wpAny_pure h
theorem list_items {n : Nat} (G : Good w B s) (C : IsC s.heap a d L ep) (hv : s.heap.get? vw = some (ditO a)) (hA : Rm n A) (hn : n < 290) (hz : L.length ≤ 100) : Wp w A (call (.type "list") [.ref vw]) (fun v s' => ∃ D vs, v = .ref D ∧ s.heap.get? D = none ∧ PL s'.heap D vs ∧ Paired (jbM s'.heap) vs L ∧ Kp [] s s') s := by
 try (refine lW ?_; intro Ro)
 refine callType_codes (Q₁ := fun obj s₁ => obj = .ref s.heap.objs.size ∧ s₁ = { s with heap := s.heap.push { cls := .type "list", data := .seq #[] } }) PySem.F.called_list (PySem.F.typeCall_list_1 _) PySem.F.entry_list_init
  (code_list_new _ ⟨rfl, rfl⟩) fun obj s₁ h₁ => ?_
 obtain ⟨rfl, rfl⟩ := h₁
 have hS : (s.heap.push { cls := .type "list", data := .seq #[] }).get? s.heap.objs.size = some { cls := .type "list", data := .seq #[] } := Heap.get?_push_size _ rfl
 refine ⟨⟨_, hS, rfl⟩, PySem.F.args_list_init_2 _ _, ?_⟩
 have fD : s.heap.get? s.heap.objs.size = none := jag
 have kD : Kp [] s { s with heap := s.heap.push { cls := .type "list", dict := none, data := .seq #[] } } := jar G
 have hS' : ({ s with heap := s.heap.push { cls := .type "list", dict := none, data := .seq #[] } } : Shared).heap.get? s.heap.objs.size = some { cls := .type "list", data := .seq #[] } := hS
 generalize s.heap.objs.size = D at *
 generalize ({ s with heap := s.heap.push { cls := .type "list", dict := none, data := .seq #[] } } : Shared) = s1 at *
 have hl1 : PL s1.heap D [] := ⟨0, hS'⟩
 have hB := G.new fD
 have G1 := G.kp kD al0
 show wpAny _ A.in1.in1 (do let old ← Builtin.List.listItems (.ref D); Builtin.List.listUpdate (.ref D) (fun Y => #[]); letGo old.toList.reverse; Builtin.List.listExtendWith (.ref D) (.ref vw) .none) _ _ s1
 refine wpAny_bind (jaM hl1.list (wpAny_bind ?_))
 show wpAny _ _ (updateSeq D (fun Y => #[])) _ _ _
 refine pl_upd G1 hl1 hB (Nat.zero_le _) (Nat.zero_le _) fun s2 hl2 k2 g2 G2 => ?_
 refine wpAny_bind (wpAny_letGo ?_)
 have K2 : Kp [] s s2 := kD.comp0 G k2 (al1 fD)
 have ne : ∀ b, (∃ o, s.heap.get? b = some o) → D ≠ b := fun b ⟨o, e⟩ q => by rw [← q, fD] at e; cases e
 have nvw := ne vw ⟨_, hv⟩
 have nDa := ne a ⟨_, C.at_⟩
 have nDd := ne d ⟨_, C.ow⟩
 have hv2 : s2.heap.get? vw = some (ditO a) := K2.keep _ _ hv (jau (by simp [ditO])) ni0
 have C2 := C.kp K2 ni0 ni0
 have hT2 : s2.TypeIs (.ref vw) "dict_items" := ⟨_, hv2, rfl⟩
 unfold Builtin.List.listExtendWith
 refine wpAny_bind (wpAny_typeOf (T := "dict_items") hT2 ?_)
 have h1 : Builtin.List.listSameRef (.ref D) (.ref vw) = false := by simp [Builtin.List.listSameRef, nvw]
 rw [if_neg (by rw [h1]; decide)]
 refine wpAny_bind ((jbA G2 C2 hv2 (hA.in1.in1.le (lq2 hn rfl))).useE1 fun it s3 hx0 => ?_)
 refine aG ?_; intro gO; obtain ⟨fI, hI, k3, g3⟩ := hx0; unfold gO; clear gO
 have G3 := G2.kp k3 al0
 have K3 : Kp [] s s3 := (K2.trans k3).mono al0
 have hT3 : s3.TypeIs (.ref vw) "dict_items" := ⟨_, k3.keep _ _ hv2 (jau (by simp [ditO])) ni0, rfl⟩
 refine wpAny_bind (wpAny_holding (i_hint hT3 ?_))
 rw [if_pos (by decide)]
 have hl3 := jaj hl2 k3 ni0
 have aD3 : ∃ o, s2.heap.get? D = some o := by obtain ⟨e, h⟩ := hl2; exact ⟨_, h⟩
 have nDI : D ≠ it := fun q => by obtain ⟨o, e⟩ := aD3; rw [q, fI] at e; cases e
 refine wpAny_bind (wpAny_rule (wpAny_bind ?_))
 show wpAny _ _ (updateSeq D (·.push .none) >>= fun Y => updateSeq D (·.pop)) _ _ _
 refine wpAny_bind (pl_upd G3 hl3 hB (Nat.zero_le _) (Nat.succ_pos _) fun s4 hl4 k4 g4 G4 => ?_)
 refine pl_upd G4 hl4 hB (Nat.succ_pos _) (Nat.zero_le _) fun s5 hl5 k5 g5 G5 => ?_
 have K35 : Kp [D] s3 s5 := (k4.trans k5).mono ap2
 have K5 : Kp [] s s5 := K3.comp0 G K35 (al1 fD)
 have hI5 : s5.heap.get? it = some (iitO a 0 L.length ep .none .none .none) := K35.keep _ _ hI (jau (by simp [iitO])) (by simpa using Ne.symm nDI)
 have fIs := K2.back fI
 have nIa : it ≠ a := fun q => by have := C.at_; rw [← q, fIs] at this; cases this
 have nId : it ≠ d := fun q => by have := C.ow; rw [← q, fIs] at this; cases this
 refine wpAny_pure ⟨plainId_quiet PySem.F.plain_extend_loop _, ext_items (A := A.in1) hA.1 (lq8 ‹_› (by rfl)) nDI nDa nDd nIa nId (G.new fIs) hB .none L.length 0 s5 [] rfl (Nat.zero_le _) G5 (.inl ⟨rfl, _, _, hI5⟩) (C.kp K5 ni0 ni0) hl5 (by simpa using .nil) ⟨_, hI5, by simp [iitO]⟩ fun s6 vs h6 hv6 k6 G6 => ?_⟩
 refine ⟨rfl, D, vs, rfl, fD, h6, hv6, K5.comp0 G k6 ?_⟩
 intro x hx
 rcases List.mem_cons.mp hx with rfl | hx
 ·exact fIs
 ·cases List.mem_singleton.mp hx; exact fD
end
noncomputable def itL (L : List En) : List (List Int) := L.map fun x => [x.1, x.2.2.1]
section
variable {w : World} {B : Heap} {A : Around} {s : Shared} {a d b e c k m x y I l it t vw r : Addr} {L M : List En} {ep ep' i : Nat} {env : Env} {sc : Scope} {E : Value → Shared → Prop} {R : Result → Shared → Prop}
theorem tupEn_tup {h : Heap} {v : Value} {x : En} (p : jbM h v x) : tupR intR h v [x.1, x.2.2.1] := by
 refine aG ?_; intro gO; obtain ⟨b, e, hb⟩ := p; unfold gO; clear gO
 exact ⟨b, [.int x.1 x.2.1, .int x.2.2.1 x.2.2.2], e, ⟨_, hb, rfl, 0, rfl⟩, .cons ⟨_, rfl⟩ (.cons ⟨_, rfl⟩ .nil)⟩
theorem items_expr {z : Str} {p0 p1 p2 p3 ap : Pos} {n : Nat} (S : Sta env (jas (lawS "law"))) (G : Good w B s) (hA : Rm n A) (hn : n < 290) (hb : Bnd env z (.ref a) s) (C : IsC s.heap a d L ep) (hz : L.length ≤ 100)
  (hbase : attributeBase (.Name z p1) "items" env (eval (.Name z p1) env) = eval (.Name z p1) env := by rfl) (hl : (ap.endLine == p2.line) = true := by rfl)
  (d1 : (z == ("__debug__" : Str)) = false := by kernel_rfl) (d2 : (z == ("__classdict__" : Str)) = false := by kernel_rfl) :
  Wp w A (eval (.Call (.Name "list" p0) [.Call (.Attribute (.Name z p1) "items" ap) [] [] p2] [] p3) env) (fun v s' => ∃ D vs, v = .ref D ∧ s.heap.get? D = none ∧ PL s'.heap D vs ∧ Paired (jbM s'.heap) vs L ∧ Kp [] s s') s := by
 try (refine lW ?_; intro Ro)
 refine jap (jal (.type "list") G S.ok (callWith_type1 (jad ?_)))
 refine jbW (hb := hbase) (hl := hl) (jaf S hb ?_ d1 d2)
 refine (jaK G C (Mine.g4 _) PySem.F.type_dict_items).here ?_
 refine jb4 ?_
 refine (jcq G C (hA.le (lq6 ‹_› (by rfl)))).useE1 fun vw s2 hx0 => ?_
 refine aG ?_; intro gO; obtain ⟨f2, hv, k2, g2⟩ := hx0; unfold gO; clear gO
 refine jao ((list_items (G.kp k2 al0) (C.kp k2 ni0 ni0) hv hA hn hz).use fun v s3 hx0 => ?_)
 refine aG ?_; intro gO; obtain ⟨D, vs, ev, fD, hD, hp, k3⟩ := hx0; unfold gO; clear gO
 exact ⟨D, vs, ev, k2.back fD, hD, hp, (k2.trans k3).mono al0⟩
end
section
variable {w : World} {B : Heap} {A : Around} {s : Shared} {a d b e c k m x y I l it t vw r C : Addr} {L M : List En} {ep ep' i : Nat} {env : Env} {sc : Scope} {E : Value → Shared → Prop} {R : Result → Shared → Prop}
theorem is_ctr {Q : Value → Shared → Prop} (hab : a ≠ b) (Ca : IsC s.heap a d L ep) (Cb : IsC s.heap b e M ep') (h : Q (.bool false) s) : wpAny (model P0 w) A (compareOp .Is (.ref a) (.ref b)) Q E s := by
 show wpAny _ _ (do return .bool (← isSame (.ref a) (.ref b))) Q E s
 exact wpAny_bind (wpAny_isSame_ref_other hab Ca.at_ Cb.at_ (by simp [ctrO]) (wpAny_pure h))
theorem le_expr {zy zz : Str} {p1 p2 p3 : Pos} {n : Nat} (S : Sta env sc) (G : Good w B s) (hA : Rm n A) (hn : n < 240) (hy : Bnd env zy (.ref a) s) (hz : Bnd env zz (.ref b) s) (Ca : IsC s.heap a d L ep) (Cb : IsC s.heap b e M ep') (hle : ∀ k ∈ ksOf L M, cnt L k ≤ cnt M k)
  (d1 : (zy == ("__debug__" : Str)) = false := by kernel_rfl) (d2 : (zy == ("__classdict__" : Str)) = false := by kernel_rfl) (d3 : (zz == ("__debug__" : Str)) = false := by kernel_rfl) (d4 : (zz == ("__classdict__" : Str)) = false := by kernel_rfl) :
  Wp w A (isTrue (.Compare (.Name zy p1) [.LtE] [.Name zz p2] p3) env (eval (.Compare (.Name zy p1) [.LtE] [.Name zz p2] p3) env)) (fun v s' => v = true ∧ Kp [] s s') s := by
 refine wpAny_isTrue_Compare1 (jaf S hy (jaf S hz ((le_op hA (lq0 hn rfl) G Ca Cb).use fun v s' hx0 => ?_) d3 d4) d1 d2)
 obtain ⟨ev, k⟩ := hx0
 subst ev
 exact wpAny_truthy_bool ⟨by simpa using hle, k⟩
end
noncomputable abbrev CP := Addr × Addr × List En × Nat
noncomputable abbrev CP.at (h : Heap) (c : CP) : Prop := IsC h c.1 c.2.1 c.2.2.1 c.2.2.2
noncomputable abbrev CP.L (c : CP) : List En := c.2.2.1
section
variable {w : World} {B : Heap} {A : Around} {s : Shared} {env : Env} {H O J M : CP} {E : Value → Shared → Prop}
structure TI (w : World) (B : Heap) (env : Env) (H O J M : CP) (s : Shared) : Prop where
 g : Good w B s
 bh : Bnd env "here" (.ref H.1) s
 bo : Bnd env "other" (.ref O.1) s
 bj : Bnd env "join" (.ref J.1) s
 bm : Bnd env "meet" (.ref M.1) s
 ch : CP.at s.heap H
 co : CP.at s.heap O
 cj : CP.at s.heap J
 cm : CP.at s.heap M
theorem TI.ex {s' : Shared} (X : TI w B env H O J M s) (k : Kp [] s s') : TI w B env H O J M s' :=
 ⟨X.g.kp k al0, jae X.bh k, jae X.bo k, jae X.bj k, jae X.bm k, X.ch.kp k ni0 ni0, X.co.kp k ni0 ni0, X.cj.kp k ni0 ni0, X.cm.kp k ni0 ni0⟩
theorem le_stmt {n : Nat} (S : Sta env (jas (lawS "law"))) (X : TI w B env H O J M s) (hA : Rm n A) (hn : n < 240)
  (h1 : ∀ k ∈ ksOf (CP.L H) (CP.L J), cnt (CP.L H) k ≤ cnt (CP.L J) k) (h2 : ∀ k ∈ ksOf (CP.L O) (CP.L J), cnt (CP.L O) k ≤ cnt (CP.L J) k)
  (h3 : ∀ k ∈ ksOf (CP.L M) (CP.L H), cnt (CP.L M) k ≤ cnt (CP.L H) k) (h4 : ∀ k ∈ ksOf (CP.L M) (CP.L O), cnt (CP.L M) k ≤ cnt (CP.L O) k) :
  Wp w A (exec othB[7]! env) (fun f s' => f = .next ∧ Kp [] s s') s := by
 refine wpAny_If (wpAny_isTrue_Not (isTrue_and ((le_expr S X.g hA hn X.bh X.bj X.ch X.cj h1).useE fun s1 k1 => ?_)))
 rw [if_pos rfl]
 have X1 := X.ex k1
 refine isTrue_and ((le_expr S X1.g hA hn X1.bo X1.bj X1.co X1.cj h2).useE fun s2 k2 => ?_)
 rw [if_pos rfl]
 have X2 := X1.ex k2
 refine isTrue_and ((le_expr S X2.g hA hn X2.bm X2.bh X2.cm X2.ch h3).useE fun s3 k3 => ?_)
 rw [if_pos rfl]
 have X3 := X2.ex k3
 refine isTrue_and ((le_expr S X3.g hA hn X3.bm X3.bo X3.cm X3.co h4).useE fun s4 k4 => ?_)
 rw [if_pos rfl]
 refine isTrue_and_nil ?_
 rw [if_neg (by decide)]
 exact wpAny_execs_nil ⟨rfl, (((k1.trans k2).trans k3).trans k4).mono al0⟩
end
section
variable {w : World} {B : Heap} {A : Around} {s : Shared} {env : Env} {H O J M : CP} {E : Value → Shared → Prop}
theorem join_stmt {n : Nat} {bl : Addr} {bvs : List Value} {bks : List Int} (S : Sta env (jas (lawS "law"))) (hcells : env.cells = lwC env.locals) (oB : ∀ a ∈ Own env, B.get? a = none) (X : TI w B env H O J M s) (hA : Rm n A) (hn : n < 240) (zH : (CP.L H).length ≤ 100) (zJ : (CP.L J).length ≤ 100)
  (bb : Bnd env "behind" (.ref bl) s) (hb : PL s.heap bl bvs) (pb : Paired (intR s.heap) bvs bks) (zb : bks.length ≤ 100) (hk : (CP.L J).map (·.1) = ((CP.L H).map (·.1)).filter (fun k => decide (0 < cnt (CP.L J) k)) ++ bks) :
  Wp w A (exec othB[4]! env) (fun f s' => f = .next ∧ Kp [] s s') s := by
 try (refine lW ?_; intro Ro)
 have hcj : env.cells.lookup ("join" : Str) = some (env.locals + 1 + 1 + 1 + 1 + 1 + 1) := by rw [hcells]; rfl
 have oj : env.locals + 1 + 1 + 1 + 1 + 1 + 1 ∈ Own env := by unfold Own; rw [hcells]; simp
 refine wpAny_If (wpAny_isTrue_Compare1 (jap (jal (.type "list") X.g S.ok (callWith_type1 (jad (jaf S X.bj (jao ?_)))))))
 refine (list_ctr X.g X.cj hA (lq0 hn rfl) zJ).useE2 fun D1 v1 s1 hx0 => ?_
 refine aG ?_; intro gO; obtain ⟨f1, h1, p1, k1⟩ := hx0; unfold gO; clear gO
 have X1 := X.ex k1
 refine wpAny_BinOp ((pos_comp (c := env.locals + 1 + 1 + 1 + 1 + 1 + 1) (n := n) S (compT (by kernel_rfl) (by kernel_rfl) (fun Y => by kernel_rfl) (fun Y => by kernel_rfl) (by kernel_rfl) (by kernel_rfl)) hA (lq0 hn rfl)
  (jbh (frees := ["join"]) (fun Y => env.locals + 1 + 1 + 1 + 1 + 1 + 1) (by kernel_rfl) (als hcj) (List.nil_append _)) (oB _ oj) X1.g (by kernel_rfl) X1.bh X1.bj hcj X1.ch X1.cj zH).useE2 fun D2 v2 s2 hx0 => ?_)
 refine aG ?_; intro gO; obtain ⟨f2, h2, p2, k2⟩ := hx0; unfold gO; clear gO
 have X2 := X1.ex k2
 have K2 : Kp [] s s2 := (k1.trans k2).mono al0
 have hb2 := jaj hb K2 ni0
 refine jaf S (jae bb K2) ?_
 have hz2 : v2.length ≤ 100 := by
  rw [jaa p2]
  refine Nat.le_trans (List.length_filter_le _ _) ?_
  rw [List.length_map]; exact zH
 refine (add_call X2.g h2 hb2 (by rw [jaa pb]; omega)).useE1 fun D3 s3 hx0 => ?_
 refine aG ?_; intro gO; obtain ⟨f3, h3, k3⟩ := hx0; unfold gO; clear gO
 have h1' := jaj (jaj h1 k2 ni0) k3 ni0
 have app : ∀ {a b : List Value} {c d : List Int} {h : Heap}, Paired (intR h) a c → Paired (intR h) b d → Paired (intR h) (a ++ b) (c ++ d) := by
  intro a b c d h p q
  induction p with
  | nil => exact q
  | cons x _ ih => exact .cons x ih
 refine (ne_list (n := 0) (R := intR) jbq (by have := hA.2.2; unfold cLine; exact lqn ‹_› ‹_› (by rfl)) ⟨D1, v1, rfl, h1', p1⟩ ⟨D3, _, rfl, h3, app p2 pb⟩).use fun v s4 hx0 => ?_
 obtain ⟨e4, es⟩ := hx0
 subst e4 es
 rw [hk]
 refine wpAny_truthy_bool ?_
 rw [if_neg (by simp)]
 exact wpAny_execs_nil ⟨rfl, (K2.trans k3).mono al0⟩
theorem meet_stmt {n : Nat} (S : Sta env (jas (lawS "law"))) (hcells : env.cells = lwC env.locals) (oB : ∀ a ∈ Own env, B.get? a = none) (X : TI w B env H O J M s) (hA : Rm n A) (hn : n < 240) (zH : (CP.L H).length ≤ 100) (zM : (CP.L M).length ≤ 100)
  (hk : (CP.L M).map (·.1) = ((CP.L H).map (·.1)).filter (fun k => decide (0 < cnt (CP.L M) k))) :
  Wp w A (exec othB[5]! env) (fun f s' => f = .next ∧ Kp [] s s') s := by
 try (refine lW ?_; intro Ro)
 have hcj : env.cells.lookup ("meet" : Str) = some (env.locals + 1 + 1 + 1 + 1 + 1 + 1 + 1) := by rw [hcells]; rfl
 have oj : env.locals + 1 + 1 + 1 + 1 + 1 + 1 + 1 ∈ Own env := by unfold Own; rw [hcells]; simp
 refine wpAny_If (wpAny_isTrue_Compare1 (jap (jal (.type "list") X.g S.ok (callWith_type1 (jad (jaf S X.bm (jao ?_)))))))
 refine (list_ctr X.g X.cm hA (lq0 hn rfl) zM).useE2 fun D1 v1 s1 hx0 => ?_
 refine aG ?_; intro gO; obtain ⟨f1, h1, p1, k1⟩ := hx0; unfold gO; clear gO
 have X1 := X.ex k1
 refine (pos_comp (c := env.locals + 1 + 1 + 1 + 1 + 1 + 1 + 1) (n := n) S (compT (by kernel_rfl) (by kernel_rfl) (fun Y => by kernel_rfl) (fun Y => by kernel_rfl) (by kernel_rfl) (by kernel_rfl)) hA (lq0 hn rfl)
  (jbh (frees := ["meet"]) (fun Y => env.locals + 1 + 1 + 1 + 1 + 1 + 1 + 1) (by kernel_rfl) (als hcj) (List.nil_append _)) (oB _ oj) X1.g (by kernel_rfl) X1.bh X1.bm hcj X1.ch X1.cm zH).useE2 fun D2 v2 s2 hx0 => ?_
 refine aG ?_; intro gO; obtain ⟨f2, h2, p2, k2⟩ := hx0; unfold gO; clear gO
 refine (ne_list (n := 0) (R := intR) jbq (by have := hA.2.2; unfold cLine; exact lqn ‹_› ‹_› (by rfl)) ⟨D1, v1, rfl, jaj h1 k2 ni0, p1⟩ ⟨D2, v2, rfl, h2, p2⟩).use fun v s4 hx0 => ?_
 obtain ⟨e4, es⟩ := hx0
 subst e4 es
 rw [hk]
 refine wpAny_truthy_bool ?_
 rw [if_neg (by simp)]
 exact wpAny_execs_nil ⟨rfl, (k1.trans k2).mono al0⟩
end
noncomputable def dvtO (a : Addr) : Obj := ⟨.type "dict_values", none, .fields #[.ref a], #[]⟩
noncomputable def vitO (a : Addr) (i n ep : Nat) : Obj := ⟨.type "dict_valueiterator", none, .fields #[.ref a, .int i 0, .int n 0, .int ep 0], #[]⟩
local macro_rules | `(tactic| x_close) => `(tactic| (refine ⟨_, _, rfl, by assumption, ?m1, rfl, rfl, by ((try dsimp only); exact Nat.le_refl _)⟩; (case m1 => (repeat (first | exact List.Mem.head _ | refine List.Mem.tail _ ?_)))))
theorem values_run (w : World) (s : Shared) (KX : (KH w.params).In s.heap) (a d ep : Nat) (es : Array DictEntry) (ha : s.heap.get? a = some ⟨.ref 1093, some d, .dict es ep, #[]⟩) :
  wpAny (model P0 w) lv0 (call (.builtin "dict.values") [.ref a]) (fun v s' => ∃ vw news, v = .ref vw ∧ Mem s.heap s'.heap [] news ∧ (vw, (⟨.type "dict_values", none, .fields #[.ref a], #[]⟩ : Obj)) ∈ news ∧ s'.gens = s.gens ∧ s'.os = s.os ∧ s.toks ≤ s'.toks) (fun Y Y => False) s := by
 have f2 := kf2 KX; have f3 := kf3 KX; have f83 := kf83 KX; have f84 := kf84 KX; have f99 := kf99 KX; have f100 := jbJ KX; have f116 := jbI KX; have f117 := jbH KX; have f466 := jbG KX; have f467 := jb0 KX; have f470 := jbF KX; have f471 := jbE KX; have f893 := jbO KX; have f894 := jbN KX; have f1092 := jbf KX; have f1093 := jbe KX
 x_run
theorem iterv_run (w : World) (s : Shared) (KX : (KH w.params).In s.heap) (a d ep vw : Nat) (es : Array DictEntry) (ha : s.heap.get? a = some ⟨.ref 1093, some d, .dict es ep, #[]⟩) (hv : s.heap.get? vw = some ⟨.type "dict_values", none, .fields #[.ref a], #[]⟩) :
  wpAny (model P0 w) lv0 (call (.builtin "dict_values.__iter__") [.ref vw]) (fun v s' => ∃ it news, v = .ref it ∧ Mem s.heap s'.heap [] news ∧ (it, (⟨.type "dict_valueiterator", none, .fields #[.ref a, .int 0 0, .int es.size 0, .int ep 0], #[]⟩ : Obj)) ∈ news ∧ s'.gens = s.gens ∧ s'.os = s.os ∧ s.toks ≤ s'.toks) (fun Y Y => False) s := by
 have f2 := kf2 KX; have f3 := kf3 KX; have f83 := kf83 KX; have f84 := kf84 KX; have f99 := kf99 KX; have f100 := jbJ KX; have f116 := jbI KX; have f117 := jbH KX; have f466 := jbG KX; have f467 := jb0 KX; have f470 := jbF KX; have f471 := jbE KX; have f893 := jbO KX; have f894 := jbN KX; have f1092 := jbf KX; have f1093 := jbe KX
 x_run
section
variable {w : World} {B : Heap} {A : Around} {s : Shared} {a d it I vw : Addr} {L : List En} {ep i : Nat} {E : Value → Shared → Prop}
theorem next_val {x : En} {Q : Option Value → Shared → Prop} (hit : s.heap.get? it = some (vitO a i L.length ep)) (C : IsC s.heap a d L ep) (hx : L[i]? = some x)
  (hq : ∀ h', h'.get? it = some (vitO a (i + 1) L.length ep) → Heap.SameBut it s.heap h' → Q (some (.int x.2.2.1 x.2.2.2)) { s with heap := h' }) :
  wpAny (model P0 w) A (pyNext (.ref it)) Q E s := by
 obtain ⟨h, g, dr, tk, os⟩ := s
 have hT : Shared.TypeIs ⟨h, g, dr, tk, os⟩ (.ref it) "dict_valueiterator" := ⟨_, hit, rfl⟩
 unfold pyNext
 refine wpAny_bind (wpAny_attempt (wpAny_callSpecial?_slot (name := Str.ofString "__next__") hT PySem.F.slot_dict_valueiterator_next
  (wpAny_call_entry PySem.F.slot_dict_valueiterator_next hT PySem.F.entry_dict_valueiterator_next ?_ (PySem.F.args_dict_valueiterator_next_1 _))))
 refine wpAny_bind (wpAny_pure ?_)
 refine wpAny_bind (wpAny_bind (wpAny_bind (wpAny_typeNameOfWhole_valiter hT (wpAny_pure ?_))))
 refine wpAny_bind (wpAny_fieldsOf hit rfl ?_)
 have hown : Builtin.Dict_items.ownsTuple "dict_valueiterator" = false := by decide
 simp only [hown, Bool.false_eq_true, if_false]
 have hn : (Value.ref a == Value.none) = false := rfl
 have hlt : i < L.length := (List.getElem?_eq_some_iff.mp hx).1
 show wpAny _ _ (if (Value.ref a == Value.none) = true then _ else _) _ _ _
 rw [hn, if_neg Bool.false_ne_true]
 refine wpAny_bind (wpAny_pure ?_)
 refine wpAny_bind (wpAny_dictEntries C.at_ rfl ?_)
 rw [if_neg sz0]
 refine wpAny_bind (wpAny_pure ?_)
 refine wpAny_bind (wpAny_dictEpoch C.at_ rfl ?_)
 rw [if_neg bn0]
 refine wpAny_pure ?_
 have hi : ¬ ((i : Int) < 0) := by exact lqi
 have he : (L.map ent).toArray[(i : Int).toNat]? = some (ent x) := by simp [hx]
 show wpAny _ _ (match (if (i : Int) < 0 then none else (L.map ent).toArray[(i : Int).toNat]?) with | some e => _ | none => _) _ _ _
 rw [if_neg hi, he]
 refine wpAny_bind (wpAny_bind (wpAny_typeNameOfWhole_valiter hT (wpAny_pure ?_)))
 refine wpAny_bind (wpAny_isOneOf_valiter hT ?_)
 simp only [hown, Bool.false_eq_true, if_false]
 show wpAny _ _ (setField (.ref it) 1 (rawInt ((i : Int) + 1)) >>= _) _ _ _
 refine wpAny_bind (wpAny_setField_rec hit (lqf rfl) fun h₁ he₁ hs₁ => ?_)
 have hT₁ : Shared.TypeIs ⟨h₁, g, dr, tk, os⟩ (.ref it) "dict_valueiterator" := ⟨_, he₁, rfl⟩
 have e : ((i + 1 : Nat) : Int) = (i : Int) + 1 := by exact Int.natCast_succ _
 have he₂ : h₁.get? it = some (vitO a (i + 1) L.length ep) := by unfold vitO; rw [e]; exact he₁
 refine wpAny_bind (wpAny_holding ?_)
 refine wpAny_bind (wpAny_isOneOf_valiter hT₁ ?_)
 refine wpAny_bind (wpAny_isOneOf_valiter hT₁ ?_)
 show wpAny _ _ (pure (ent x).val) _ _ _
 exact wpAny_pure (wpAny_pure ⟨_, rfl, wpAny_pure (hq h₁ he₂ hs₁)⟩)
end
section
variable {w : World} {B : Heap} {A : Around} {s : Shared} {a d it I vw : Addr} {L : List En} {ep i : Nat} {E : Value → Shared → Prop}
theorem next_val_end (G : Good w B s) (h2 : it ≠ 2) {Q : Option Value → Shared → Prop} (hh : A.handled = none) (hit : s.heap.get? it = some (vitO a L.length L.length ep)) (C : IsC s.heap a d L ep)
  (hq : ∀ s', Kp [it] s s' → s'.gens = s.gens → Q none s') : wpAny (model P0 w) A (pyNext (.ref it)) Q E s := by
 obtain ⟨h, g, dr, tk, os⟩ := s
 have hT : Shared.TypeIs ⟨h, g, dr, tk, os⟩ (.ref it) "dict_valueiterator" := ⟨_, hit, rfl⟩
 unfold pyNext
 refine wpAny_bind (wpAny_attempt (wpAny_callSpecial?_slot (name := Str.ofString "__next__") hT PySem.F.slot_dict_valueiterator_next
  (wpAny_call_entry PySem.F.slot_dict_valueiterator_next hT PySem.F.entry_dict_valueiterator_next ?_ (PySem.F.args_dict_valueiterator_next_1 _))))
 refine wpAny_bind (wpAny_pure ?_)
 refine wpAny_bind (wpAny_bind (wpAny_bind (wpAny_typeNameOfWhole_valiter hT (wpAny_pure ?_))))
 refine wpAny_bind (wpAny_fieldsOf hit rfl ?_)
 have hown : Builtin.Dict_items.ownsTuple "dict_valueiterator" = false := by decide
 simp only [hown, Bool.false_eq_true, if_false]
 have hn : (Value.ref a == Value.none) = false := rfl
 show wpAny _ _ (if (Value.ref a == Value.none) = true then _ else _) _ _ _
 rw [hn, if_neg Bool.false_ne_true]
 refine wpAny_bind (wpAny_pure ?_)
 refine wpAny_bind (wpAny_dictEntries C.at_ rfl ?_)
 rw [if_neg sz0]
 refine wpAny_bind (wpAny_pure ?_)
 refine wpAny_bind (wpAny_dictEpoch C.at_ rfl ?_)
 rw [if_neg bn0]
 refine wpAny_pure ?_
 have hi : ¬ ((L.length : Int) < 0) := by exact lqi
 have he : (L.map ent).toArray[(L.length : Int).toNat]? = none := by simp
 show wpAny _ _ (match (if (L.length : Int) < 0 then none else (L.map ent).toArray[(L.length : Int).toNat]?) with | some e => _ | none => _) _ _ _
 rw [if_neg hi, he]
 refine wpAny_bind (wpAny_bind (wpAny_typeNameOfWhole_valiter hT (wpAny_pure ?_)))
 simp only [hown, Bool.false_eq_true, if_false]
 show wpAny _ _ (setField (.ref it) 0 .none >>= _) _ _ _
 refine wpAny_bind (wpAny_setField_rec hit (Nat.succ_pos _) fun h₁ he₁ hs₁ => ?_)
 refine jaT hh fun s' k1 k2 k3 k4 => ?_
 refine hq s' ((jaz (s := ⟨h, g, dr, tk, os⟩) hs₁ h2 ⟨_, he₁⟩ (Nat.le_refl _)).trans (jat k1 ?_ k3 k4 k2) |>.mono sm0) k2
 obtain ⟨o, e⟩ := G.two
 exact ⟨o, (hs₁.2 2 (Ne.symm h2)).trans e⟩
theorem vit_kp {n : Nat} {s' : Shared} {Sx : List Addr} (h : s.heap.get? I = some (vitO a i n ep)) (k : Kp Sx s s') (nn : I ∉ Sx) : s'.heap.get? I = some (vitO a i n ep) :=
 k.keep _ _ h (jau (by simp [vitO])) nn
theorem KW.values (na : I ≠ a) (nd : I ≠ d) : KW w B I [a, d] L.length (fun i v => ∃ x, L[i]? = some x ∧ v = .int x.2.2.1 x.2.2.2) (fun i s => s.heap.get? I = some (vitO a i L.length ep) ∧ IsC s.heap a d L ep) where
 frame := fun i s s' S st k n => ⟨vit_kp st.1 k (n _ (List.mem_cons_self ..)), st.2.kp k (n _ (List.Mem.tail _ (List.Mem.head _))) (n _ (List.Mem.tail _ (List.Mem.tail _ (List.Mem.head _))))⟩
 item := fun A i s Q E hh G hi st hq => by
  have hx : L[i]? = some L[i] := List.getElem?_eq_getElem hi
  have ne2 := G.not2 st.1 (by simp [vitO])
  refine next_val st.1 st.2 hx fun h' h1 h2 => ?_
  have k := jaz (s := s) h2 ne2 ⟨_, h1⟩ (Nat.le_refl s.toks)
  exact hq _ _ ⟨_, hx, rfl⟩ ⟨h1, st.2.kp k (by simpa using Ne.symm na) (by simpa using Ne.symm nd)⟩ k rfl
 done := fun A s Q E hh G st hq => next_val_end G (G.not2 st.1 (by simp [vitO])) hh st.1 st.2 hq
 self := fun A i s Q E st hq => by
  have hT : s.TypeIs (.ref I) "dict_valueiterator" := ⟨_, st.1, rfl⟩
  refine wpAny_pyIter_slot hT PySem.F.slot_dict_valueiterator_iter (wpAny_call_entry PySem.F.slot_dict_valueiterator_iter hT PySem.entry_dict_valueiterator_iter ?_ (PySem.F.args_dict_valueiterator_iter_1 _))
  show wpAny _ _ (ret (.ref I)) _ _ s
  exact wpAny_pure ⟨_, rfl, "dict_valueiterator", _, hT, PySem.F.slot_dict_valueiterator_next.lookup, hq⟩
 cl := fun i s st => ⟨_, st.1, by unfold jba vitO; simp⟩
end
theorem entry_ci : entryFor table "proto.contains_iter" = some Builtin.«proto.contains_iter» := entryFor_of_tree (by kernel_rfl)
theorem plain_ci : plainId "proto.contains_iter" = true := by decide +kernel
section
variable {w : World} {B : Heap} {A : Around} {s : Shared} {a d it I vw : Addr} {L : List En} {ep i n t : Nat} {fp : List Addr} {P : Nat → Value → Prop} {St : Nat → Shared → Prop}
theorem ci_loop (hh : A.handled = none) (W : KW w B I fp n P St) (hBI : B.get? I = none) (hP : ∀ i v, P i v → ∃ z u, v = .int z u ∧ z ≠ 0) :
  ∀ k i s, n - i = k → i ≤ n → Good w B s → St i s → codeAny (model P0 w) A (.builtin "proto.contains_iter" ⟨[.ref I, .int 0 t], []⟩) (fun r s' => r = .ok (.ret (.bool false)) ∧ Kp [I] s s') s := by
 intro k
 induction k with
 | zero =>
  intro i s hk hi G st
  have hin : i = n := by exact lqq ‹_› ‹_›
  subst hin
  refine codeAny_builtin entry_ci ?_
  rw [Around.under_plainId plain_ci _]
  show wpAny _ A.in1 (pyNext (.ref I) >>= _) _ _ s
  refine wpAny_bind (W.done _ s _ _ hh G st fun s' k g => ?_)
  exact wpAny_bind (wpAny_rule (wpAny_pure ⟨rfl, k⟩))
 | succ k ih =>
  intro i s hk hi G st
  have hlt : i < n := by exact lqr ‹_›
  refine codeAny_builtin entry_ci ?_
  rw [Around.under_plainId plain_ci _]
  show wpAny _ A.in1 (pyNext (.ref I) >>= _) _ _ s
  refine wpAny_bind (W.item _ i s _ _ hh G hlt st fun v s1 hp st1 k1 g1 => ?_)
  obtain ⟨z, u, rfl, hz⟩ := hP i v hp
  dsimp only
  refine wpAny_bind ((intKind P0 w).eqBool (a := z) (b := 0) (intKind_is _ _ _ _) (intKind_is _ _ _ _) ?_)
  rw [decide_eq_false hz]
  refine iff_ rfl (wpAny_pure ⟨plainId_quiet plain_ci _, codeAny_mono (ih (i + 1) s1 (lqj ‹_›) hlt (G.kp k1 (al1 hBI)) st1) fun r s2 hx0 => by obtain ⟨er, k2⟩ := hx0; exact ⟨er, (k1.trans k2).mono ap2⟩⟩)
end
theorem nc_values : typeLookup (.type "dict_values") (PySem.Str.ofString "__contains__") = pure none := by rw [typeLookup_type, builtinLookup_eq_fast]; kernel_rfl
theorem tv_values : typeOf (.builtin "dict.values") = pure (.type "method_descriptor") := by show builtinType _ = _; rw [builtinType_eq_fast]; kernel_rfl
section
variable {w : World} {B : Heap} {A : Around} {s : Shared} {a d it I vw : Addr} {L : List En} {ep i n t : Nat} {E : Value → Shared → Prop}
theorem iter_values (G : Good w B s) (C : IsC s.heap a d L ep) (hv : s.heap.get? vw = some (dvtO a)) (hR : Rm 300 A) :
  Wp w A (pyIter (.ref vw)) (fun v s' => Iter w B s [a, d] L.length (fun i v => ∃ x, L[i]? = some x ∧ v = .int x.2.2.1 x.2.2.2) v s') s := by
 try (refine lW ?_; intro Ro)
 have hT : s.TypeIs (.ref vw) "dict_values" := ⟨_, hv, rfl⟩
 refine wpAny_pyIter_slot hT PySem.F.slot_dict_values_iter ?_
 refine hR.lv (wpAny_mono (iterv_run w s G.k a d ep vw _ C.at_ hv) (fun v s' hx0 => ?_) fun Y Y z => z)
 refine aG ?_; intro gO; obtain ⟨it, news, h1, D, hm, h3, h4, h5⟩ := hx0; unfold gO; clear gO
 have e := (D.nw _ hm).1
 have f1 := (D.nw _ hm).2
 have K := jax G D h4 h5 h3
 have e1 : s'.heap.get? it = some (vitO a 0 L.length ep) := by simpa [vitO] using e
 refine ⟨"dict_valueiterator", _, by rw [h1]; exact ⟨_, e1, rfl⟩, PySem.F.slot_dict_valueiterator_next.lookup, ?_⟩
 subst h1
 refine ⟨⟨it, _, rfl, KW.values (Ne.symm (jb9 f1 C.at_)) (Ne.symm (jb9 f1 C.ow)), ⟨e1, C.kp K ni0 ni0⟩, f1, ⟨_, e1⟩⟩, ?_, K, h3⟩
 intro b hb
 rcases List.mem_cons.mp hb with rfl | hb
 ·exact ⟨_, C.at_⟩
 ·cases List.mem_singleton.mp hb; exact ⟨_, C.ow⟩
theorem zero_in (G : Good w B s) (C : IsC s.heap a d L ep) (hv : s.heap.get? vw = some (dvtO a)) (hR : Rm 300 A) (hz : ∀ x ∈ L, x.2.2.1 ≠ 0) : Wp w A (compareOp .In (.int 0 t) (.ref vw)) (fun v s' => v = .bool false ∧ Kp [] s s') s := by
 try (refine lW ?_; intro Ro)
 have hT : s.TypeIs (.ref vw) "dict_values" := ⟨_, hv, rfl⟩
 show wpAny _ _ (do return Value.bool (← contains (.ref vw) (.int 0 t))) _ _ _
 refine wpAny_bind ?_
 unfold contains
 refine wpAny_holding ?_
 refine wpAny_bind (wpAny_specialOf hT nc_values ?_)
 show wpAny _ _ (if ((none : Option Value) == some Value.none) = true then _ else _) _ _ _
 rw [if_neg (by decide)]
 refine wpAny_bind (wpAny_callSpecialUnlessNone?_none hT nc_values ?_)
 refine wpAny_bind (wpAny_rule (wpAny_bind (wpAny_tryCatch ?_)))
 refine (iter_values G C hv hR).use fun v s1 hx0 => ?_
 refine aG ?_; intro gO; obtain ⟨⟨I, St, ev, W, st, fI, aI⟩, al, k1, g1⟩ := hx0; unfold gO; clear gO
 subst ev
 refine wpAny_bind (wpAny_runValue (coE (ci_loop hR.1 W (G.new fI) (fun i v ⟨x, hx, e⟩ => ⟨_, _, e, hz x (List.mem_of_getElem? hx)⟩) L.length 0 s1 rfl (Nat.zero_le _) (G.kp k1 al0) st) fun s2 k2 => ?_))
 exact wpAny_pure (wpAny_pure ⟨rfl, k1.comp0 G k2 (al1 fI)⟩)
end
noncomputable def stR : Rel (List (List (List Int))) := jbw (jbw (tupR intR))
noncomputable def StV (h : Heap) (v : Value) (L M : List En) (ad : List Addr) : Prop := ∃ D D1 D2 v1 v2, v = .ref D ∧ PL h D [.ref D1, .ref D2] ∧ PL h D1 v1 ∧ PL h D2 v2 ∧ Paired (jbM h) v1 L ∧ Paired (jbM h) v2 M ∧ ad = [D, D1, D2]
theorem pl_list {α : Type} {R : Rel α} {h : Heap} {l : Addr} {vs : List Value} {xs : List α} (a : PL h l vs) (p : Paired (R h) vs xs) : jbw R h (.ref l) xs := ⟨l, vs, rfl, a, p⟩
section
variable {w : World} {B : Heap} {A : Around} {s : Shared} {a d b e : Addr} {L M : List En} {ep ep' : Nat} {env : Env} {E : Value → Shared → Prop} {ad : List Addr} {v : Value}
theorem StV.st {h : Heap} (x : StV h v L M ad) : stR h v [itL L, itL M] := by
 obtain ⟨D, D1, D2, v1, v2, rfl, h0, h1, h2, p1, p2, _⟩ := x
 exact pl_list h0 (.cons (pl_list h1 (jaF p1 fun Y Y Y q => tupEn_tup q)) (.cons (pl_list h2 (jaF p2 fun Y Y Y q => tupEn_tup q)) .nil))
theorem StV.kp {s' : Shared} {S : List Addr} (x : StV s.heap v L M ad) (k : Kp S s s') (h1 : ∀ a ∈ ad, a ∉ S) (h2 : ∀ b o, b ∈ S → s.heap.get? b = some o → o.cls ≠ .type "tuple") : StV s'.heap v L M ad := by
 obtain ⟨D, D1, D2, v1, v2, rfl, q0, q1, q2, p1, p2, rfl⟩ := x
 exact ⟨D, D1, D2, v1, v2, rfl, jaj q0 k (h1 _ (List.mem_cons_self ..)), jaj q1 k (h1 _ (List.Mem.tail _ (List.Mem.head _))), jaj q2 k (h1 _ (List.Mem.tail _ (List.Mem.tail _ (List.Mem.head _)))), jah (fun Y Y q => jby q k h2) p1, jah (fun Y Y q => jby q k h2) p2, rfl⟩
theorem stood_expr {p0 p1 p2 p3 ap q0 q1 q2 q3 aq pp : Pos} {n : Nat} (S : Sta env (jas (lawS "law"))) (G : Good w B s) (hA : Rm n A) (hn : n < 290) (hb : Bnd env "here" (.ref a) s) (ho : Bnd env "other" (.ref b) s) (C : IsC s.heap a d L ep) (C' : IsC s.heap b e M ep') (hz : L.length ≤ 100) (hz' : M.length ≤ 100)
  (hl : (ap.endLine == p2.line) = true := by rfl) (hl' : (aq.endLine == q2.line) = true := by rfl) :
  Wp w A (eval (.List [.Call (.Name "list" p0) [.Call (.Attribute (.Name "here" p1) "items" ap) [] [] p2] [] p3, .Call (.Name "list" q0) [.Call (.Attribute (.Name "other" q1) "items" aq) [] [] q2] [] q3] pp) env) (fun v s' => ∃ ad, StV s'.heap v L M ad ∧ (∀ x ∈ ad, s.heap.get? x = none) ∧ Kp [] s s' ∧ Good w B s') s := by
 try (refine lW ?_; intro Ro)
 refine jaU (B := B) (jad ((items_expr S G hA hn hb C hz (hl := hl)).useE2 fun D1 v1 s1 hx0 => ?_))
 refine aG ?_; intro gO; obtain ⟨f1, h1, p1, k1⟩ := hx0; unfold gO; clear gO
 have G1 := G.kp k1 al0
 refine jad ((items_expr S G1 hA hn (jae ho k1) (C'.kp k1 ni0 ni0) hz' (hl := hl')).useE2 fun D2 v2 s2 hx0 => ?_)
 refine aG ?_; intro gO; obtain ⟨f2, h2, p2, k2⟩ := hx0; unfold gO; clear gO
 have G2 := G1.kp k2 al0
 refine jao ⟨G2, by simp, fun D s3 f3 h3 k3 => ?_⟩
 have tk : ∀ {s s' : Shared} {v x}, Kp [] s s' → jbM s.heap v x → jbM s'.heap v x := fun k q => jby q k nb0
 refine ⟨[D, D1, D2], ⟨D, D1, D2, v1, v2, rfl, h3, jaj (jaj h1 k2 ni0) k3 ni0, jaj h2 k3 ni0, jah (fun Y Y q => tk k3 (tk k2 q)) p1, jah (fun Y Y q => tk k3 q) p2, rfl⟩, ?_, ((k1.trans k2).trans k3).mono al0, G2.kp k3 al0⟩
 intro x hx
 simp only [List.mem_cons, List.not_mem_nil, or_false] at hx
 rcases hx with rfl | rfl | rfl
 ·exact k1.back (k2.back f3)
 ·exact f1
 ·exact k1.back f2
end
theorem g_values (P : Params) : findIn (KH P) (.ref 1093) (PySem.Str.ofString "values") = some (some (.builtin "dict.values")) := by kernel_rfl
section
variable {w : World} {B : Heap} {A : Around} {s : Shared} {env : Env} {H O J M : CP} {E : Value → Shared → Prop} {ad : List Addr} {sv : Value}
theorem vals_stmt {n : Nat} (S : Sta env (jas (lawS "law"))) (X : TI w B env H O J M s) (hA : Rm n A) (hn : n < 240) (zH : (CP.L H).length ≤ 100) (zO : (CP.L O).length ≤ 100) (hz : ∀ x ∈ CP.L J, x.2.2.1 ≠ 0) (bs : Bnd env "stood" sv s) (st : StV s.heap sv (CP.L H) (CP.L O) ad) :
  Wp w A (exec othB[6]! env) (fun f s' => f = .next ∧ Kp [] s s') s := by
 try (refine lW ?_; intro Ro)
 refine wpAny_If (isTrue_or (wpAny_isTrue_Compare1 (wpAny_Constant_int ?_)))
 have kt : Kp [] s { s with toks := s.toks + 1 } := jak (Nat.le_succ _)
 have X0 := X.ex kt
 refine jbW (jaf S X0.bj ?_)
 refine (jaK X0.g X0.cj (g_values _) tv_values).here ?_
 refine jb4 ?_
 refine Wp.useE2 ((hA.le (show n ≤ 300 by exact lq6 ‹_› (by rfl))).lv (values_run w _ X0.g.k J.1 J.2.1 J.2.2.2 _ X0.cj.at_)) fun vw news s1 hx0 => ?_
 refine aG ?_; intro gO; obtain ⟨D1, m1, h1, h2, h3⟩ := hx0; unfold gO; clear gO
 have k1 := jax X0.g D1 h2 h3 h1
 have X1 := X0.ex k1
 have hv : s1.heap.get? vw = some (dvtO J.1) := (D1.nw _ m1).1
 refine (zero_in X1.g X1.cj hv (hA.le (lq6 ‹_› (by rfl))) hz).useE fun s2 k2 => ?_
 have X2 := X1.ex k2
 refine wpAny_truthy_bool ?_
 rw [if_neg (by decide)]
 have K2 : Kp [] s s2 := ((kt.trans k1).trans k2).mono al0
 refine isTrue_or (wpAny_isTrue_Compare1 ((stood_expr S X2.g hA (lq0 hn rfl) X2.bh X2.bo X2.ch X2.co zH zO).use fun v s3 hx0 => ?_))
 refine aG ?_; intro gO; obtain ⟨ad3, st3, _, k3, G3⟩ := hx0; unfold gO; clear gO
 have K3 : Kp [] s s3 := (K2.trans k3).mono al0
 refine jaf S (jae bs K3) ?_
 have st0 := st.kp K3 nn0 nb0
 refine aG ?_; intro gO; obtain ⟨D, _, _, _, _, eD, _⟩ := id st3; unfold gO; clear gO
 refine aG ?_; intro gO; obtain ⟨D', _, _, _, _, eD', _⟩ := id st0; unfold gO; clear gO
 have q1 := st3.st
 have q2 := st0.st
 rw [eD] at q1 ⊢
 rw [eD'] at q2 ⊢
 refine (ne_list (n := 2) (R := jbw (tupR intR)) (eqOk_list (tupR_func jbi) (eqOk_tup jbi jbq)) (by have := hA.2.2; unfold cLine; exact lqn ‹_› ‹_› (by rfl)) q1 q2).use fun v s4 hx0 => ?_
 obtain ⟨e4, es⟩ := hx0
 subst e4 es
 refine wpAny_truthy_bool ?_
 rw [if_neg (by simp)]
 refine isTrue_or_nil ?_
 rw [if_neg (by decide)]
 exact wpAny_execs_nil ⟨rfl, K3⟩
end
end Mine
namespace Mine
structure VOk (V : VL) : Prop where
 nd : (V.map (·.1)).Nodup
 ks : ∀ p ∈ V, 0 ≤ p.1 ∧ p.1 < 4
 nn : ∀ p ∈ V, 0 ≤ p.2
theorem jaE : ∀ {V : VL} {p : Int × Int}, (V.map (·.1)).Nodup → p ∈ V → lk0 V p.1 = p.2
 | q :: V, p, hn, hm => by
  rw [List.map_cons, List.nodup_cons] at hn
  unfold lk0
  rw [List.find?_cons]
  rcases List.mem_cons.mp hm with rfl | hm
  ·simp
  ·have : (q.1 == p.1) = false := by
    rw [beq_eq_false_iff_ne]
    intro e
    exact hn.1 (e ▸ List.mem_map_of_mem hm)
   rw [this]
   exact jaE hn.2 hm
theorem jaX {V : VL} {k : Int} (h : ∀ p ∈ V, p.1 ≠ k) : lk0 V k = 0 := by
 unfold lk0
 rw [List.find?_eq_none.mpr (fun p hp => by simpa using h p hp)]
set_option tactic.hygienic true in
theorem lk0_nn {V : VL} (h : VOk V) (k : Int) : 0 ≤ lk0 V k := by
 unfold lk0
 split
 ·rename_i p e; exact h.nn _ (List.mem_of_find?_eq_some e)
 ·exact Int.le_refl _
theorem key_or (V : VL) (k : Int) : (∃ p ∈ V, p.1 = k) ∨ ∀ p ∈ V, p.1 ≠ k := by
 by_cases h : ∃ p ∈ V, p.1 = k
 ·exact .inl h
 ·exact .inr fun p hp e => h ⟨p, hp, e⟩
theorem ite_max (a b : Int) : (if a < b then b else a) = max a b := by
 by_cases h : a < b
 ·rw [if_pos h, Int.max_eq_right (Int.le_of_lt h)]
 ·rw [if_neg h, Int.max_eq_left (Int.not_lt.mp h)]
theorem ite_min (a b : Int) : (if a < b then a else b) = min a b := by
 by_cases h : a < b
 ·rw [if_pos h, Int.min_eq_left (Int.le_of_lt h)]
 ·rw [if_neg h, Int.min_eq_right (Int.not_lt.mp h)]
set_option tactic.hygienic true in
theorem mem_meetV {E F : VL} {q : Int × Int} : q ∈ jbl E F ↔ ∃ p ∈ E, q = (p.1, min p.2 (lk0 F p.1)) ∧ 0 < min p.2 (lk0 F p.1) := by
 unfold jbl
 rw [List.mem_filterMap]
 have e := ite_min
 constructor
 ·rintro ⟨p, hp, h⟩
  dsimp only at h
  rw [e] at h
  split at h
  ·rename_i h0; exact ⟨p, hp, (Option.some.inj h).symm, h0⟩
  ·cases h
 ·rintro ⟨p, hp, rfl, h0⟩
  exact ⟨p, hp, by dsimp only; rw [e, if_pos h0]⟩
set_option tactic.hygienic true in
theorem mem_joinA {E F : VL} {q : Int × Int} : q ∈ jbK E F ↔ ∃ p ∈ E, q = (p.1, max p.2 (lk0 F p.1)) ∧ 0 < max p.2 (lk0 F p.1) := by
 unfold jbK
 rw [List.mem_filterMap]
 have e := ite_max
 constructor
 ·rintro ⟨p, hp, h⟩
  dsimp only at h
  rw [e] at h
  split at h
  ·rename_i h0; exact ⟨p, hp, (Option.some.inj h).symm, h0⟩
  ·cases h
 ·rintro ⟨p, hp, rfl, h0⟩
  exact ⟨p, hp, by dsimp only; rw [e, if_pos h0]⟩
theorem mem_joinB {E F : VL} {q : Int × Int} : q ∈ jcc E F ↔ q ∈ F ∧ (∀ p ∈ E, p.1 ≠ q.1) ∧ 0 < q.2 := by
 unfold jcc
 rw [List.mem_filter]
 simp [Option.isNone_iff_eq_none, List.find?_eq_none]
theorem fm_keys {g : Int × Int → Int} {c : Int × Int → Prop} [DecidablePred c] {d : Int → Bool} : ∀ {E : VL}, (∀ p ∈ E, c p ↔ d p.1 = true) → (E.filterMap fun p => if c p then some (p.1, g p) else none).map (·.1) = (E.map (·.1)).filter d := by
 intro E
 induction E with
 | nil =>
  rintro _
  exact rfl
 | cons p E ih =>
  rintro h
  have ih := ih fun q hq => h q (List.mem_cons_of_mem _ hq)
  have h1 := h p (List.mem_cons_self ..)
  rw [List.filterMap_cons, List.map_cons, List.filter_cons]
  by_cases hc : c p
  ·rw [if_pos hc, if_pos (h1.mp hc)]; simpa using ih
  ·rw [if_neg hc, if_neg (fun q => hc (h1.mpr q))]; exact ih
theorem meet_fm (E F : VL) : jbl E F = E.filterMap fun p => if 0 < min p.2 (lk0 F p.1) then some (p.1, min p.2 (lk0 F p.1)) else none := by
 have e := ite_min
 unfold jbl; congr 1; funext p; dsimp only; rw [e]
theorem joinA_fm (E F : VL) : jbK E F = E.filterMap fun p => if 0 < max p.2 (lk0 F p.1) then some (p.1, max p.2 (lk0 F p.1)) else none := by
 have e := ite_max
 unfold jbK; congr 1; funext p; dsimp only; rw [e]
set_option tactic.hygienic true in
theorem nd_fm {g : Int × Int → Int} {c : Int × Int → Prop} [DecidablePred c] : ∀ {E : VL}, (E.map (·.1)).Nodup → ((E.filterMap fun p => if c p then some (p.1, g p) else none).map (·.1)).Nodup := by
 intro E
 induction E with
 | nil =>
  rintro _
  exact .nil
 | cons p E ih =>
  rintro h
  rw [List.map_cons, List.nodup_cons] at h
  have ih := ih h.2
  rw [List.filterMap_cons]
  split
  ·exact ih
  ·rename_i e
   rw [List.map_cons, List.nodup_cons]
   refine ⟨fun q => ?_, ih⟩
   split at e <;> cases e
   obtain ⟨x, hx, ex⟩ := List.mem_map.mp q
   obtain ⟨y, hy, ey⟩ := List.mem_filterMap.mp hx
   split at ey <;> cases ey
   dsimp only at ex
   exact h.1 (List.mem_map.mpr ⟨y, hy, ex⟩)
theorem meet_ok {E F : VL} (hE : VOk E) : VOk (jbl E F) where
 nd := by rw [meet_fm]; exact nd_fm hE.nd
 ks p hp := by obtain ⟨q, hq, rfl, _⟩ := mem_meetV.mp hp; exact hE.ks q hq
 nn p hp := by obtain ⟨q, hq, rfl, h⟩ := mem_meetV.mp hp; exact Int.le_of_lt h
theorem join_ok {E F : VL} (hE : VOk E) (hF : VOk F) : VOk (jbP E F) where
 nd := by
  unfold jbP
  rw [List.map_append, List.nodup_append]
  refine ⟨by rw [joinA_fm]; exact nd_fm hE.nd, ?_, ?_⟩
  ·exact List.Nodup.sublist (List.Sublist.map _ List.filter_sublist) hF.nd
  ·intro a ha b hb e
   obtain ⟨x, hx, ex⟩ := List.mem_map.mp ha
   obtain ⟨y, hy, ey⟩ := List.mem_map.mp hb
   obtain ⟨q, hq, rfl, _⟩ := mem_joinA.mp hx
   obtain ⟨_, h2, _⟩ := mem_joinB.mp hy
   exact h2 q hq (ex.trans (e.trans ey.symm))
 ks p hp := by
  rcases List.mem_append.mp hp with h | h
  ·obtain ⟨q, hq, rfl, _⟩ := mem_joinA.mp h; exact hE.ks q hq
  ·exact hF.ks p (mem_joinB.mp h).1
 nn p hp := by
  rcases List.mem_append.mp hp with h | h
  ·obtain ⟨q, hq, rfl, h'⟩ := mem_joinA.mp h; exact Int.le_of_lt h'
  ·exact Int.le_of_lt (mem_joinB.mp h).2.2
theorem lk0_meet {E F : VL} (hE : VOk E) (hF : VOk F) (k : Int) : lk0 (jbl E F) k = min (lk0 E k) (lk0 F k) := by
 have n1 := lk0_nn hF k
 rcases key_or E k with ⟨p, hp, rfl⟩ | h
 ·rw [jaE hE.nd hp]
  by_cases h0 : 0 < min p.2 (lk0 F p.1)
  ·exact jaE (meet_ok (F := F) hE).nd (mem_meetV.mpr ⟨p, hp, rfl, h0⟩)
  ·rw [jaX]
   ·have := hE.nn p hp; exact ltb ‹_› ‹_› ‹_›
   ·intro q hq e
    obtain ⟨p', hp', rfl, h1⟩ := mem_meetV.mp hq
    have e1 := jaE hE.nd hp'
    have e2 := jaE hE.nd hp
    dsimp only at e
    rw [e] at e1 h1
    rw [← e1, e2] at h1
    exact h0 h1
 ·rw [jaX h, jaX]
  ·exact lte ‹_›
  ·intro q hq
   obtain ⟨p', hp', rfl, h1⟩ := mem_meetV.mp hq
   exact h p' hp'
theorem lk0_join {E F : VL} (hE : VOk E) (hF : VOk F) (k : Int) : lk0 (jbP E F) k = max (lk0 E k) (lk0 F k) := by
 have n1 := lk0_nn hF k
 have nd := (join_ok hE hF).nd
 rcases key_or E k with ⟨p, hp, rfl⟩ | h
 ·rw [jaE hE.nd hp]
  by_cases h0 : 0 < max p.2 (lk0 F p.1)
  ·exact jaE nd (List.mem_append_left _ (mem_joinA.mpr ⟨p, hp, rfl, h0⟩))
  ·rw [jaX]
   ·have := hE.nn p hp; exact lta ‹_› ‹_› ‹_›
   ·intro q hq e
    rcases List.mem_append.mp hq with hq | hq
    ·obtain ⟨p', hp', rfl, h1⟩ := mem_joinA.mp hq
     have e1 := jaE hE.nd hp'
     have e2 := jaE hE.nd hp
     dsimp only at e
     rw [e] at e1 h1
     rw [← e1, e2] at h1
     exact h0 h1
    ·exact (mem_joinB.mp hq).2.1 p hp e.symm
 ·rw [jaX h]
  rcases key_or F k with ⟨p, hp, rfl⟩ | h'
  ·rw [jaE hF.nd hp]
   by_cases h0 : 0 < p.2
   ·rw [jaE nd (List.mem_append_right _ (mem_joinB.mpr ⟨hp, h, h0⟩))]; exact ltc (Int.le_of_lt ‹_›)
   ·rw [jaX]
    ·have := hF.nn p hp; exact ltd ‹_› ‹_›
    ·intro q hq e
     rcases List.mem_append.mp hq with hq | hq
     ·obtain ⟨p', hp', rfl, h1⟩ := mem_joinA.mp hq
      exact h p' hp' e
     ·obtain ⟨q1, _, q3⟩ := mem_joinB.mp hq
      have e1 := jaE hF.nd q1
      have e2 := jaE hF.nd hp
      rw [e, e2] at e1
      omega
  ·rw [jaX h', jaX]
   ·omega
   ·intro q hq e
    rcases List.mem_append.mp hq with hq | hq
    ·obtain ⟨p', hp', rfl, h1⟩ := mem_joinA.mp hq
     exact h p' hp' e
    ·exact h' q (mem_joinB.mp hq).1 e
theorem meet_keys {E F : VL} (hE : VOk E) (hF : VOk F) : (jbl E F).map (·.1) = (E.map (·.1)).filter fun k => decide (0 < lk0 (jbl E F) k) := by
 conv => lhs; rw [meet_fm]
 refine fm_keys fun p hp => ?_
 rw [lk0_meet hE hF, jaE hE.nd hp]; simp
theorem join_keys {E F : VL} (hE : VOk E) (hF : VOk F) : (jbP E F).map (·.1) = ((E.map (·.1)).filter fun k => decide (0 < lk0 (jbP E F) k)) ++ (F.map (·.1)).filter fun k => (E.find? fun q => q.1 == k).isNone && decide (0 < lk0 F k) := by
 have h1 : (jbK E F).map (·.1) = (E.map (·.1)).filter fun k => decide (0 < lk0 (jbP E F) k) := by
  rw [joinA_fm]
  refine fm_keys fun p hp => ?_
  rw [lk0_join hE hF, jaE hE.nd hp]; simp
 have h2 : (jcc E F).map (·.1) = (F.map (·.1)).filter fun k => (E.find? fun q => q.1 == k).isNone && decide (0 < lk0 F k) := by
  unfold jcc
  rw [List.filter_map]
  congr 1
  refine List.filter_congr fun p hp => ?_
  rw [Function.comp_apply, jaE hF.nd hp]
 rw [← h1, ← h2, ← List.map_append]; rfl
theorem join_pos {E F : VL} {p : Int × Int} (h : p ∈ jbP E F) : p.2 ≠ 0 := by
 rcases List.mem_append.mp h with h | h
 ·obtain ⟨q, hq, rfl, h⟩ := mem_joinA.mp h; dsimp only; omega
 ·have := (mem_joinB.mp h).2.2; omega
theorem vok_len {V : VL} (h : VOk V) : V.length ≤ 4 := by
 have h1 : (V.map (·.1)).length ≤ ([0, 1, 2, 3] : List Int).length := by
  refine List.Nodup.length_le_of_subset h.nd fun k hk => ?_
  obtain ⟨p, hp, rfl⟩ := List.mem_map.mp hk
  have := h.ks p hp
  simp only [List.mem_cons, List.not_mem_nil, or_false]
  obtain ⟨n, e⟩ := Int.eq_ofNat_of_zero_le this.1
  rw [e] at this ⊢
  exact (by decide : ∀ n : Nat, n < 4 → ((n : Int) = 0 ∨ (n : Int) = 1 ∨ (n : Int) = 2 ∨ (n : Int) = 3)) n (Int.ofNat_lt.mp this.2)
 simpa using h1
end Mine
namespace Mine
open PySem PySem.W PySem.W.X PyProof.Rows PySem.Calls Builtin
noncomputable def jce (h : VL) (f : List VL) (o : VL) : List VL := addV (addV f (jbP h o)) (jbl h o)
noncomputable def jaN (f : List VL) (p : Nat) : List VL := match f[p]? with | none => f | some h => (f.take (p + 1)).foldl (jce h) f
theorem lwTurn_len (h : VL) (f : List VL) (o : VL) : (jce h f o).length ≤ f.length + 2 := by
 unfold jce
 have h1 := addV_len f (jbP h o)
 have h2 := addV_len (addV f (jbP h o)) (jbl h o)
 exact lsj ‹_› ‹_› (by rfl)
noncomputable abbrev newB : List Stmt := forB othB[8]!
section
variable {w : World} {B : Heap} {A : Around} {s : Shared} {a d b e rwl fl I : Addr} {env : Env} {sc : Scope} {E : Value → Shared → Prop} {W : List Addr} {sX : Shared} {rvs : List Value} {rows : List (List Int)} {Ls : List (List En)} {L : List En} {H O J M C : CP}
theorem isC_kpC {S : List Addr} {ep : Nat} {s' : Shared} (C : IsC s.heap a d L ep) (k : Kp S s s') (hS : NoC W s S) (h1 : a ∉ W) (h2 : d ∉ W) : IsC s'.heap a d L ep := by
 refine C.kp k (fun m => ?_) (fun m => ?_)
 ·rcases hS _ m with q | ⟨o, ho, hc, _⟩
  ·exact h1 q
  ·rw [C.at_] at ho; cases ho; exact hc rfl
 ·rcases hS _ m with q | ⟨o, ho, _, hc⟩
  ·exact h2 q
  ·rw [C.ow] at ho; cases ho; exact hc rfl
noncomputable def OutW (W : List Addr) (c : CP) : Prop := c.1 ∉ W ∧ c.2.1 ∉ W
theorem CP.kpC {S : List Addr} {s' : Shared} (X : CP.at s.heap C) (k : Kp S s s') (hS : NoC W s S) (h : OutW W C) : CP.at s'.heap C := isC_kpC X k hS h.1 h.2
theorem CP.ctr (X : CP.at s.heap C) (h : OutW W C) : ctrR W s.heap (.ref C.1) C.L := ⟨_, _, _, rfl, X, h.1, h.2⟩
structure TF (w : World) (B : Heap) (env : Env) (H O J M : CP) (s : Shared) : Prop where
 ti : TI w B env H O J M s
 hj : H.1 ≠ J.1
 hm : H.1 ≠ M.1
 oj : O.1 ≠ J.1
 om : O.1 ≠ M.1
theorem TF.to {S : List Addr} {s' : Shared} (X : TF w B env H O J M s) (k : Kp S s s') (hS : NoC W s S) (h1 : OutW W H) (h2 : OutW W O) (h3 : OutW W J) (h4 : OutW W M) (g : Good w B s')
  (hb : ∀ (y : Str) u, y ∈ ([("here" : Str), "other", "join", "meet"] : List Str) → Bnd env y u s → Bnd env y u s') : TF w B env H O J M s' :=
 { X with ti := ⟨g, hb _ _ (List.mem_cons_self ..) X.ti.bh, hb _ _ (List.Mem.tail _ (List.Mem.head _)) X.ti.bo, hb _ _ (List.Mem.tail _ (List.Mem.tail _ (List.Mem.head _))) X.ti.bj, hb _ _ (by simp) X.ti.bm, CP.kpC X.ti.ch k hS h1, CP.kpC X.ti.co k hS h2, CP.kpC X.ti.cj k hS h3, CP.kpC X.ti.cm k hS h4⟩ }
theorem lw_new1 {n : Nat} (H' : LwE B env W sX) (X : LI w B env W rwl fl rvs rows sX s Ls) (T : TF w B env H O J M s) (hA : Rm n A) (hn : n < 190) (hz : Ls.length ≤ 500) (hfw : fl ∈ W) (hfo : fl ∉ Own env) (hrf : rwl ≠ fl) (hb : Bnd env "new" (.ref C.1) s) (hC : CP.at s.heap C) (oC : OutW W C) (n1 : C.1 ≠ H.1) (n2 : C.1 ≠ O.1) :
  Wp w A (execs newB env) (fun f s' => f = .next ∧ LI w B env W rwl fl rvs rows sX s' (addC Ls C.L) ∧ ∀ y u, Bnd env y u s → Bnd env y u s') s := by
 refine lW ?_
 intro Ro
 have e1 : newB = [newB[0]!, newB[1]!] := by kernel_rfl
 rw [e1]
 refine wpAny_execs_cons (wpAny_If (isTrue_or (wpAny_isTrue_Compare1 (jaf H'.sta hb (jaf H'.sta T.ti.bh (is_ctr n1 hC T.ti.ch (wpAny_truthy_bool ?_)))))))
 rw [if_neg (by decide)]
 refine isTrue_or (wpAny_isTrue_Compare1 (jaf H'.sta hb (jaf H'.sta T.ti.bo (is_ctr n2 hC T.ti.co (wpAny_truthy_bool ?_)))))
 rw [if_neg (by decide)]
 refine isTrue_or_nil ?_
 rw [if_neg (by decide)]
 refine wpAny_execs_nil ?_
 refine wpAny_execs_cons ((lw_add H' X hA (lq0 hn rfl) hz hfw hfo hrf hb (CP.ctr hC oC)).useE fun s2 hx0 => ?_)
 obtain ⟨X2, hb2⟩ := hx0
 exact wpAny_execs_nil ⟨rfl, X2, hb2⟩
theorem lw_new {n : Nat} (H' : LwE B env W sX) (X : LI w B env W rwl fl rvs rows sX s Ls) (T : TF w B env H O J M s) (hA : Rm n A) (hn : n < 190) (hz : Ls.length ≤ 490) (hfw : fl ∈ W) (hfo : fl ∉ Own env) (hro : rwl ∉ Own env) (hrf : rwl ≠ fl) (h1 : OutW W H) (h2 : OutW W O) (h3 : OutW W J) (h4 : OutW W M) :
  Wp w A (exec othB[8]! env) (fun f s' => f = .next ∧ LI w B env W rwl fl rvs rows sX s' (addC (addC Ls J.L) M.L) ∧ TF w B env H O J M s') s := by
 refine lW ?_
 intro Ro
 have oB : ∀ a ∈ Own env, B.get? a = none := fun a ha => H'.bw _ (H'.own a ha)
 refine wpAny_For (jaU (B := B) (jad (jaf H'.sta T.ti.bj (jad (jaf H'.sta T.ti.bm (jao ⟨X.g, by simp, fun D s1 fD hD k1 => ?_⟩))))))
 have X1 := X.ex H' k1
 have T1 := T.to (W := W) k1 ja6 h1 h2 h3 h4 X1.g (fun y u Y h => jae h k1)
 have H1 := H'.at X1.kp
 refine (jaD X1.g hD.list).use fun v s2 It => ?_
 have lenA : ∀ (i : Nat), (([J.L, M.L].take i).foldl addC Ls).length ≤ 500 := fun i => by
  have := jbb (k := 1) (g := addC) (fun f x => by unfold addC; split <;> simp) ([J.L, M.L].take i) Ls
  have h2 : ([J.L, M.L].take i).length ≤ 2 := by rw [List.length_take]; simp; exact Nat.min_le_right _ _
  exact lsr ‹_› ‹_› ‹_› (by rfl)
 refine jbz (W := W) H'.sta hA X1.g It H'.own X1.al (fun a ha q => by
   cases List.mem_singleton.mp ha
   obtain ⟨o, e⟩ := X.al _ q
   rw [fD] at e; cases e) oB (H'.set ("new" : Str) (by simp [lwN]))
  (fun i s => LI w B env W rwl fl rvs rows s1 s (([J.L, M.L].take i).foldl addC Ls) ∧ TF w B env H O J M s) (fun i s h => ⟨h.1.g, h.1.f⟩)
  ⟨LI.ex H1 X1.base It.kp, T1.to (W := W) It.kp ja6 h1 h2 h3 h4 (X1.g.kp It.kp al0) (fun y u Y h => jae h It.kp)⟩ ?_ ?_
 ·intro I i v s3 s4 fI hi hv ⟨X3, T3⟩ hI k4 b4 hk4 G4 F4
  have X4 := X3.st H1 hro hfo fI hI k4 (by decide +kernel) hk4 G4 F4
  have T4 := T3.to (W := W) k4 (noC_it hI (H'.own _ jac)) h1 h2 h3 h4 G4 (fun y u hy h => hk4 y u (by
   simp only [List.mem_cons, List.not_mem_nil, or_false] at hy
   rcases hy with rfl | rfl | rfl | rfl <;> decide +kernel) h)
  have go : ∀ (C : CP), [J.L, M.L][i]? = some C.L → v = .ref C.1 → CP.at s4.heap C → OutW W C → C.1 ≠ H.1 → C.1 ≠ O.1 → Wp w A (execs newB env) (fun f s3 => match f with
    | .next | .cont => (LI w B env W rwl fl rvs rows s1 s3 (([J.L, M.L].take (i + 1)).foldl addC Ls) ∧ TF w B env H O J M s3) ∧ Kp W s4 s3
    | .ret v => False
    | .brk => False) s4 := by
   intro C hC ev hc oC n1 n2
   subst ev
   refine (lw_new1 (H1.at X4.kp) X4.base T4 hA hn (lenA i) hfw hfo hrf b4 hc oC n1 n2).useE fun s5 hx0 => ?_
   obtain ⟨X5, hb5⟩ := hx0
   refine ⟨⟨?_, T4.to (W := W) X5.kp (jbU fun Y h => h) h1 h2 h3 h4 X5.g (fun y u Y h => hb5 y u h)⟩, X5.kp⟩
   rw [jbu hC]
   exact X5.join X4.kp
  have go' : Wp w A (execs newB env) (fun f s3 => match f with
    | .next | .cont => (LI w B env W rwl fl rvs rows s1 s3 (([J.L, M.L].take (i + 1)).foldl addC Ls) ∧ TF w B env H O J M s3) ∧ Kp W s4 s3
    | .ret v => False
    | .brk => False) s4 := by
   rcases i with _ | _ | i
   ·exact go J rfl (by simpa using hv.symm) T4.ti.cj h3 T4.hj.symm T4.oj.symm
   ·exact go M rfl (by simpa using hv.symm) T4.ti.cm h4 T4.hm.symm T4.om.symm
   ·exact absurd hi (by simp)
  refine go'.use fun f s5 hf => ?_
  cases f with
  | next => exact hf
  | cont => exact hf
  | brk => exact hf.elim
  | ret v => exact hf.elim
 ·intro I s3 s4 fI ⟨X3, T3⟩ hI k4
  have nI : ∀ a ∈ W, a ≠ I := fun a ha q => by obtain ⟨o, e⟩ := X1.al a ha; rw [q, fI] at e; cases e
  have X4 := X3.it H1 fI nI hI k4
  refine ⟨rfl, ?_, T3.to (W := W) k4 (noC_it1 hI) h1 h2 h3 h4 X4.g (fun y u Y h => jaA h k4 fun a ha => by simpa using nI a (H'.own a ha))⟩
  exact X4.join X1.kp
end
section
variable {w : World} {B : Heap} {A : Around} {s s' : Shared} {a d b e rwl fl I l : Addr} {env : Env} {sc : Scope} {E : Value → Shared → Prop} {W ad : List Addr} {sX : Shared} {rvs : List Value} {rows : List (List Int)} {Ls : List (List En)} {L M : List En} {H O : CP} {z : Str} {v : Value}
theorem swap_loc1 {elt : Expr} {gens : List Comprehension} {scope : Scope} {pos pp : Pos} {t : Str} {ln : Nat} (S : Sta env sc) (h : env.kindOf t = some .local) (hp : (pp.line == pos.line && !(scope.names.any fun x => x.1 == t && (x.2 == .local || x.2 == .cell))) = true) : swapsWith (.ListComp elt gens scope pos) (some (.Name t pp)) ln env = pure true := by
 have h2 : env.blockKind = .function := by unfold Env.blockKind; rw [show env.scope.kind.isAnnotationScope = false by rw [S.ok.fk]; rfl]; exact S.ok.fk
 simp only [Bool.and_eq_true] at hp
 show (pure (env.blockKind == .function && env.kindOf t == some .local && pp.line == pos.line && !(scope.names.any fun x => x.1 == t && (x.2 == .local || x.2 == .cell))) : Sem Bool) = _
 rw [h, h2, hp.1, hp.2]
 rfl
theorem slot_data (F : Frm env s) {o : Obj} (e : s.heap.get? (jai env z) = some o) {xs : Array Value} {n : Nat} : o.data ≠ .seq xs n := by
 unfold jai at e
 cases hc : env.cells.lookup z with
 | none =>
  rw [hc] at e
  refine aG ?_; intro gO; obtain ⟨m, o', es, ep, h1, h2, _⟩ := F.ns; unfold gO; clear gO
  rw [show (none : Option Addr).getD env.locals = env.locals from rfl, h1] at e
  cases e
  rw [h2]; simp
 | some c =>
  rw [hc] at e
  refine aG ?_; intro gO; obtain ⟨u, o', h1, h2⟩ := F.ce z c hc; unfold gO; clear gO
  rw [show (some c : Option Addr).getD env.locals = c from rfl, h1] at e
  cases e
  rw [h2]; simp
theorem pl_slot (F : Frm env s) {vs : List Value} (hl : PL s.heap l vs) : l ≠ jai env z := fun q => by
 obtain ⟨ep, e⟩ := hl
 rw [q] at e
 exact slot_data F e rfl
theorem tup_slot (F : Frm env s) {x : En} (k : Kp [jai env z] s s') (h : jbM s.heap v x) : jbM s'.heap v x := by
 refine aG ?_; intro gO; obtain ⟨b, e, hb⟩ := h; unfold gO; clear gO
 refine ⟨b, e, k.keep _ _ hb (jau (by simp [tupO])) fun m => ?_⟩
 rw [List.mem_singleton.mp m] at hb
 exact slot_data F hb rfl
theorem StV.kpS (x : StV s.heap v L M ad) (F : Frm env s) (k : Kp [jai env z] s s') : StV s'.heap v L M ad := by
 obtain ⟨D, D1, D2, v1, v2, rfl, q0, q1, q2, p1, p2, rfl⟩ := x
 exact ⟨D, D1, D2, v1, v2, rfl, jaj q0 k (by simpa using pl_slot F q0), jaj q1 k (by simpa using pl_slot F q1), jaj q2 k (by simpa using pl_slot F q2), jah (fun Y Y q => tup_slot F k q) p1, jah (fun Y Y q => tup_slot F k q) p2, rfl⟩
theorem behK_eq (L M : List En) : behK L M = ((vals M).map (·.1)).filter fun k => ((vals L).find? fun q => q.1 == k).isNone && decide (0 < lk0 (vals M) k) := by
 unfold behK
 rw [jaS]
 refine List.filter_congr fun k Y => ?_
 rw [find_vals, jaG]
theorem vok_ent (h : VOk (vals L)) : L.length ≤ 4 ∧ (L.map (·.1)).Nodup := by
 have h1 := vok_len h
 have h2 := h.nd
 rw [jaS] at h2
 exact ⟨by simpa [vals] using h1, h2⟩
theorem lw_turn {n : Nat} (H' : LwE B env W sX) (X : LI w B env W rwl fl rvs rows sX s Ls) (hA : Rm n A) (hn : n < 190) (hz : Ls.length ≤ 490) (hfw : fl ∈ W) (hfo : fl ∉ Own env) (hro : rwl ∉ Own env) (hrf : rwl ≠ fl)
  (bh : Bnd env "here" (.ref H.1) s) (bo : Bnd env "other" (.ref O.1) s) (ch : CP.at s.heap H) (co : CP.at s.heap O) (h1 : OutW W H) (h2 : OutW W O) (vh : VOk (vals H.L)) (vo : VOk (vals O.L)) :
  Wp w A (execs othB env) (fun f s' => f = .next ∧ ∃ LJ LM, vals LJ = jbP (vals H.L) (vals O.L) ∧ vals LM = jbl (vals H.L) (vals O.L) ∧ LI w B env W rwl fl rvs rows sX s' (addC (addC Ls LJ) LM) ∧ Bnd env "here" (.ref H.1) s') s := by
 try (refine lW ?_; intro Ro)
 have e0 : othB = [othB[0]!, othB[1]!, othB[2]!, othB[3]!, othB[4]!, othB[5]!, othB[6]!, othB[7]!, othB[8]!] := by kernel_rfl
 rw [e0]
 have S := H'.sta
 have oB : ∀ a ∈ Own env, B.get? a = none := fun a ha => H'.bw _ (H'.own a ha)
 obtain ⟨zH, ndH⟩ := vok_ent vh
 obtain ⟨zO, ndO⟩ := vok_ent vo
 have zH' : H.2.2.1.length ≤ 4 := zH
 have zO' : O.2.2.1.length ≤ 4 := zO
 have nsl : ∀ (z : Str) (s : Shared), NoC W s [jai env z] := fun z s => jbU fun a ha => by cases List.mem_singleton.mp ha; exact H'.own _ jac
 refine wpAny_execs_cons (wpAny_Assign_Name ((stood_expr S X.g hA (lq0 hn rfl) bh bo ch co (lq8 ‹_› (by rfl)) (lq8 ‹_› (by rfl))).use fun v s1 hx0 => ?_))
 refine aG ?_; intro gO; obtain ⟨ad, st1, fr, k1, G1⟩ := hx0; unfold gO; clear gO
 have X1 := X.ex H' k1
 refine jaY G1 S X1.f oB (fun s2 b2 F2 hk2 k2 g2 G2 => ?_) (H'.set ("stood" : Str) (by simp [lwN]))
 have X2 := X1.sv H' hro hfo k2 (by decide +kernel) hk2 G2 F2
 have st2 := st1.kpS X1.f k2
 have ch2 := CP.kpC (CP.kpC ch k1 ja6 h1) k2 (nsl _ _) h1
 have co2 := CP.kpC (CP.kpC co k1 ja6 h2) k2 (nsl _ _) h2
 have bh2 := hk2 ("here" : Str) _ (by decide +kernel) (jae bh k1)
 have bo2 := hk2 ("other" : Str) _ (by decide +kernel) (jae bo k1)
 refine wpAny_execs_cons (wpAny_Assign_Name (wpAny_BinOp (jaf S bh2 (jaf S bo2 ((or_op hA (lq0 hn rfl) G2 ch2 co2 (lq8 ‹_› (by rfl)) ndH (lq8 ‹_› (by rfl)) ndO).useE4 fun r rd LJ epr s3 hx0 => ?_)))))
 refine aG ?_; intro gO; obtain ⟨cj3, vj, fr3, frd3, k3, g3⟩ := hx0; unfold gO; clear gO
 have X3 := X2.ex H' k3
 refine jaY X3.g S X3.f oB (fun s4 b4 F4 hk4 k4 g4 G4 => ?_) (H'.set ("join" : Str) (by simp [lwN]))
 have X4 := X3.sv H' hro hfo k4 (by decide +kernel) hk4 G4 F4
 have st4 := (st2.kp k3 nn0 nb0).kpS X3.f k4
 have ch4 := CP.kpC (CP.kpC ch2 k3 ja6 h1) k4 (nsl _ _) h1
 have co4 := CP.kpC (CP.kpC co2 k3 ja6 h2) k4 (nsl _ _) h2
 have bh4 := hk4 ("here" : Str) _ (by decide +kernel) (jae bh2 k3)
 have bo4 := hk4 ("other" : Str) _ (by decide +kernel) (jae bo2 k3)
 have bs4 := hk4 ("stood" : Str) _ (by decide +kernel) (jae b2 k3)
 have h3 : OutW W ((r, rd, LJ, epr) : CP) := ⟨(fun q => by obtain ⟨o, e⟩ := X2.al _ q; rw [fr3] at e; cases e), (fun q => by obtain ⟨o, e⟩ := X2.al _ q; rw [frd3] at e; cases e)⟩
 have cj4 : CP.at s4.heap ((r, rd, LJ, epr) : CP) := CP.kpC (C := (r, rd, LJ, epr)) cj3 k4 (nsl _ _) h3
 have hj : H.1 ≠ r := fun q => by have := ch2.at_; rw [q, fr3] at this; cases this
 have oj : O.1 ≠ r := fun q => by have := co2.at_; rw [q, fr3] at this; cases this
 refine wpAny_execs_cons (wpAny_Assign_Name (wpAny_BinOp (jaf S bh4 (jaf S bo4 ((and_op hA (lq0 hn rfl) G4 ch4 co4 (lq8 ‹_› (by rfl)) ndH).useE4 fun m md LM epm s5 hx0 => ?_)))))
 refine aG ?_; intro gO; obtain ⟨cm5, vm, fr5, frd5, k5, g5⟩ := hx0; unfold gO; clear gO
 have X5 := X4.ex H' k5
 refine jaY X5.g S X5.f oB (fun s6 b6 F6 hk6 k6 g6 G6 => ?_) (H'.set ("meet" : Str) (by simp [lwN]))
 have X6 := X5.sv H' hro hfo k6 (by decide +kernel) hk6 G6 F6
 have st6 := (st4.kp k5 nn0 nb0).kpS X5.f k6
 have ch6 := CP.kpC (CP.kpC ch4 k5 ja6 h1) k6 (nsl _ _) h1
 have co6 := CP.kpC (CP.kpC co4 k5 ja6 h2) k6 (nsl _ _) h2
 have cj6 := CP.kpC (CP.kpC cj4 k5 ja6 h3) k6 (nsl _ _) h3
 have bh6 := hk6 ("here" : Str) _ (by decide +kernel) (jae bh4 k5)
 have bo6 := hk6 ("other" : Str) _ (by decide +kernel) (jae bo4 k5)
 have bs6 := hk6 ("stood" : Str) _ (by decide +kernel) (jae bs4 k5)
 have bj6 := hk6 ("join" : Str) _ (by decide +kernel) (jae b4 k5)
 have h4 : OutW W ((m, md, LM, epm) : CP) := ⟨(fun q => by obtain ⟨o, e⟩ := X4.al _ q; rw [fr5] at e; cases e), (fun q => by obtain ⟨o, e⟩ := X4.al _ q; rw [frd5] at e; cases e)⟩
 have cm6 : CP.at s6.heap ((m, md, LM, epm) : CP) := CP.kpC (C := (m, md, LM, epm)) cm5 k6 (nsl _ _) h4
 have hm : H.1 ≠ m := fun q => by have := ch4.at_; rw [q, fr5] at this; cases this
 have om : O.1 ≠ m := fun q => by have := co4.at_; rw [q, fr5] at this; cases this
 have vJ : VOk (vals LJ) := by rw [vj]; exact join_ok vh vo
 have vM : VOk (vals LM) := by rw [vm]; exact meet_ok vh
 obtain ⟨zJ, _⟩ := vok_ent vJ
 obtain ⟨zM, _⟩ := vok_ent vM
 have hco : env.cells.lookup ("other" : Str) = some (env.locals + 1 + 1 + 1 + 1 + 1) := by rw [H'.cells]; rfl
 have hch : env.cells.lookup ("here" : Str) = some (env.locals + 1 + 1 + 1 + 1) := by rw [H'.cells]; rfl
 have o5 : env.locals + 1 + 1 + 1 + 1 + 1 ∈ Own env := by unfold Own; rw [H'.cells]; simp
 have o4 : env.locals + 1 + 1 + 1 + 1 ∈ Own env := by unfold Own; rw [H'.cells]; simp
 have aO : ∀ a ∈ Own env, ∃ o, s6.heap.get? a = some o := fun a ha => X6.al a (H'.own a ha)
 refine wpAny_execs_cons (beh_comp (u4 := default) (u5 := default) (co := env.locals + 1 + 1 + 1 + 1 + 1) (ch := env.locals + 1 + 1 + 1 + 1) (n := n) S (compT (by kernel_rfl) (by kernel_rfl) (fun Y => by kernel_rfl) (fun Y => by kernel_rfl) (by kernel_rfl) (by kernel_rfl)) hA (lq0 hn rfl)
  (jbh (frees := ["here", "other"]) (fun z => if z = ("here" : Str) then env.locals + 1 + 1 + 1 + 1 else env.locals + 1 + 1 + 1 + 1 + 1) (by kernel_rfl) (by
   intro z hz
   simp only [List.mem_cons, List.not_mem_nil, or_false] at hz
   rcases hz with rfl | rfl
   ·rw [if_pos rfl]; exact hch
   ·rw [if_neg (by decide +kernel)]; exact hco) (by
   simp only [List.map_cons, List.map_nil, List.reverse_cons, List.reverse_nil, List.nil_append, List.cons_append]
   rw [if_neg (by decide +kernel)]
   simp)) (oB _ o5) (oB _ o4) (Nat.ne_of_gt (Nat.lt_succ_self _)) G6 X6.f oB aO (H'.set ("behind" : Str) (by simp [lwN])) (by kernel_rfl) (by kernel_rfl) bo6 bh6 hco hch ch6 co6 (lq8 ‹_› (by rfl))
  (swap_loc1 S (S.ok.kind (by kernel_rfl)) (by kernel_rfl)) fun D ys s7 fD hD pD b7 hk7 F7 k7 G7 => ?_)
 have X7 := X6.sv H' hro hfo k7 (by decide +kernel) hk7 G7 F7
 have st7 := st6.kpS X6.f k7
 have T7 : TF w B env H O (r, rd, LJ, epr) (m, md, LM, epm) s7 :=
  { ti := { g := G7, bh := hk7 _ _ (by decide +kernel) bh6, bo := hk7 _ _ (by decide +kernel) bo6, bj := hk7 _ _ (by decide +kernel) bj6, bm := hk7 _ _ (by decide +kernel) b6
            ch := CP.kpC ch6 k7 (nsl _ _) h1, co := CP.kpC co6 k7 (nsl _ _) h2, cj := CP.kpC cj6 k7 (nsl _ _) h3, cm := CP.kpC cm6 k7 (nsl _ _) h4 }
    hj := hj, hm := hm, oj := oj, om := om }
 have bs7 := hk7 ("stood" : Str) _ (by decide +kernel) bs6
 refine wpAny_execs_cons ((join_stmt S H'.cells oB T7.ti hA (lq0 hn rfl) (lq8 ‹_› (by rfl)) (show LJ.length ≤ 100 by exact lq8 ‹_› (by rfl)) b7 hD pD ?_ ?_).use fun f s8 hx0 => ?_)
 ·unfold behK
  refine Nat.le_trans (List.length_filter_le _ _) ?_
  rw [List.length_map]; exact (by omega : O.L.length ≤ 100)
 ·rw [behK_eq]
  show LJ.map (·.1) = _
  rw [← jaS LJ, vj, join_keys vh vo]
  congr 1
  rw [jaS]
  refine List.filter_congr fun k Y => ?_
  rw [jaG]
  show _ = decide (0 < lk0 (vals LJ) k)
  rw [vj]
 obtain ⟨ef, k8⟩ := hx0
 subst ef
 have T8 := T7.to (W := W) k8 ja6 h1 h2 h3 h4 (G7.kp k8 al0) fun y u Y h => jae h k8
 refine wpAny_execs_cons ((meet_stmt S H'.cells oB T8.ti hA (lq0 hn rfl) (lq8 ‹_› (by rfl)) (show LM.length ≤ 100 by exact lq8 ‹_› (by rfl)) ?_).use fun f s9 hx0 => ?_)
 ·show LM.map (·.1) = _
  rw [← jaS LM, vm, meet_keys vh vo]
  rw [jaS]
  refine List.filter_congr fun k Y => ?_
  rw [jaG]
  show _ = decide (0 < lk0 (vals LM) k)
  rw [vm]
 obtain ⟨ef, k9⟩ := hx0
 subst ef
 have T9 := T8.to (W := W) k9 ja6 h1 h2 h3 h4 (T8.ti.g.kp k9 al0) fun y u Y h => jae h k9
 have st9 := (st7.kp k8 nn0 nb0).kp k9 nn0 nb0
 refine wpAny_execs_cons ((vals_stmt S T9.ti hA (lq0 hn rfl) (lq8 ‹_› (by rfl)) (lq8 ‹_› (by rfl)) (fun x hx => ?_) (jae (jae bs7 k8) k9) st9).use fun f s10 hx0 => ?_)
 ·have : (x.1, x.2.2.1) ∈ jbP (vals H.L) (vals O.L) := by rw [← vj]; exact List.mem_map_of_mem hx
  exact join_pos this
 obtain ⟨ef, k10⟩ := hx0
 subst ef
 have T10 := T9.to (W := W) k10 ja6 h1 h2 h3 h4 (T9.ti.g.kp k10 al0) fun y u Y h => jae h k10
 have lj : ∀ k, cnt LJ k = max (cnt H.L k) (cnt O.L k) := fun k => by rw [jaG, vj, lk0_join vh vo, jaG, jaG]
 have lm : ∀ k, cnt LM k = min (cnt H.L k) (cnt O.L k) := fun k => by rw [jaG, vm, lk0_meet vh vo, jaG, jaG]
 refine wpAny_execs_cons ((le_stmt S T10.ti hA (lq0 hn rfl) (fun k Y => ?_) (fun k Y => ?_) (fun k Y => ?_) (fun k Y => ?_)).use fun f s11 hx0 => ?_)
 ·show _ ≤ cnt LJ k; rw [lj]; exact Int.le_max_left _ _
 ·show _ ≤ cnt LJ k; rw [lj]; exact Int.le_max_right _ _
 ·show cnt LM k ≤ _; rw [lm]; exact Int.min_le_left _ _
 ·show cnt LM k ≤ _; rw [lm]; exact Int.min_le_right _ _
 obtain ⟨ef, k11⟩ := hx0
 subst ef
 have T11 := T10.to (W := W) k11 ja6 h1 h2 h3 h4 (T10.ti.g.kp k11 al0) fun y u Y h => jae h k11
 have K11 : Kp [] s7 s11 := (((k8.trans k9).trans k10).trans k11).mono al0
 have X11 := X7.ex H' K11
 refine wpAny_execs_cons ((lw_new H' X11 T11 hA hn hz hfw hfo hro hrf h1 h2 h3 h4).useE fun s12 hx0 => ?_)
 obtain ⟨X12, T12⟩ := hx0
 exact wpAny_execs_nil ⟨rfl, LJ, LM, vj, vm, X12, T12.ti.bh⟩
end
theorem addV_ok {f : List VL} {V : VL} (hf : ∀ U ∈ f, VOk U) (hV : VOk V) : ∀ U ∈ addV f V, VOk U := by
 unfold addV
 split
 ·exact hf
 ·intro U hU
  first | (refine lW ?_; intro Ro) | (refine lA ?_; intro Ro) | (refine lC ?_; intro Ro) | skip
  rcases List.mem_append.mp hU with h | h
  ·exact hf U h
  ·cases List.mem_singleton.mp h; exact hV
theorem lwTurn_ok {h o : VL} {f : List VL} (hf : ∀ U ∈ f, VOk U) (hh : VOk h) (ho : VOk o) : ∀ U ∈ jce h f o, VOk U :=
 addV_ok (addV_ok hf (join_ok hh ho)) (meet_ok hh)
set_option tactic.hygienic true in
theorem lwPlace_ok {f : List VL} (p : Nat) (hf : ∀ U ∈ f, VOk U) : ∀ U ∈ jaN f p, VOk U := by
 unfold jaN
 split
 ·exact hf
 ·rename_i h hp
  exact ja7 (P := fun f : List VL => ∀ U ∈ f, VOk U) _ _ (fun b x hx hb => lwTurn_ok hb (hf _ (List.mem_of_getElem? hp)) (hf _ (List.mem_of_mem_take hx))) hf
set_option tactic.hygienic true in
theorem lwPlace_len (f : List VL) (p : Nat) : (jaN f p).length ≤ f.length + 2 * (p + 1) := by
 unfold jaN
 split
 ·exact Nat.le_add_right _ _
 ·rename_i h _
  have := jbb (k := 2) (lwTurn_len h) (f.take (p + 1)) f
  have h2 : (f.take (p + 1)).length ≤ p + 1 := by simp; exact Nat.min_le_left _ _
  exact lsn ‹_› ‹_›
theorem lwAll_len (f : List VL) : ∀ n, ((List.range n).foldl jaN f).length ≤ f.length + n * (n + 1) := by
 intro n
 induction n with
 | zero =>
  simp
 | succ n ih =>
  rw [jbc]
  have h1 := lwPlace_len ((List.range n).foldl jaN f) n
  have h2 := ih
  have : (n + 1) * (n + 1 + 1) = n * (n + 1) + 2 * (n + 1) := by rw [← Nat.add_mul]; exact Nat.mul_comm _ _
  rw [this, ← Nat.add_assoc]
  exact Nat.le_trans h1 (Nat.add_le_add_right h2 _)
theorem bagOf_ok {row : List Int} (h4 : row.length = 4) (hr : ∀ z ∈ row, 0 ≤ z) : VOk (jbQ row) where
 nd := by rw [bagOf_keys]; decide
 ks p hp := by
  obtain ⟨j, hj, rfl⟩ := List.mem_map.mp hp
  have := List.mem_range.mp hj
  dsimp only; exact ⟨Int.natCast_nonneg _, Int.ofNat_lt.mpr ‹_›⟩
 nn p hp := by
  obtain ⟨j, hj, rfl⟩ := List.mem_map.mp hp
  have hj := List.mem_range.mp hj
  have : row.getD j 0 = row[j]'(lqm ‹_› ‹_›) := by simp [List.getD_eq_getElem?_getD, List.getElem?_eq_getElem (show j < row.length by exact lqm ‹_› ‹_›)]
  try dsimp only
  rw [this]; exact hr _ (List.getElem_mem _)
theorem lwInit_ok {rows : List (List Int)} (h : RowOk rows) : ∀ U ∈ jbm rows, VOk U :=
 ja7 (P := fun f : List VL => ∀ U ∈ f, VOk U) _ _ (fun b x hx hb => addV_ok hb (bagOf_ok (h x hx).1 (h x hx).2)) na0
section
variable {w : World} {B : Heap} {A : Around} {s s' : Shared} {a d b e rwl fl I l : Addr} {env : Env} {sc : Scope} {E : Value → Shared → Prop} {W ad : List Addr} {sX : Shared} {rvs : List Value} {rows : List (List Int)} {Ls : List (List En)} {L M : List En} {H O : CP} {z : Str} {v : Value}
theorem lw_others {n p t : Nat} (H' : LwE B env W sX) (X : LI w B env W rwl fl rvs rows sX s Ls) (hA : Rm n A) (hn : n < 190) (hz : Ls.length + 2 * (p + 1) ≤ 490) (hp : p ≤ 100) (hfw : fl ∈ W) (hfo : fl ∉ Own env) (hro : rwl ∉ Own env) (hrf : rwl ≠ fl)
  (bh : Bnd env "here" (.ref H.1) s) (hpl : Bnd env "place" (.int p t) s) (ch : CP.at s.heap H) (h1 : OutW W H) (vh : VOk (vals H.L)) (vf : ∀ L ∈ Ls, VOk (vals L)) :
  Wp w A (exec hereB[1]! env) (fun f s' => f = .next ∧ ∃ Ls', LI w B env W rwl fl rvs rows sX s' Ls' ∧ Ls'.map vals = ((Ls.map vals).take (p + 1)).foldl (jce (vals H.L)) (Ls.map vals)) s := by
 try (refine lW ?_; intro Ro)
 refine wpAny_For ?_
 refine aG ?_; intro gO; obtain ⟨vs, hvs, pvs⟩ := X.ff; unfold gO; clear gO
 have hle : vs.length ≤ 1000 := by rw [jaa pvs]; exact lsg ‹_› (by rfl)
 have oB : ∀ a ∈ Own env, B.get? a = none := fun a ha => H'.bw _ (H'.own a ha)
 have kt : Kp [] s { s with toks := s.toks + 1 } := jak (Nat.le_succ _)
 refine ev_slice (B := B) (jaf H'.sta X.bf (wpAny_evalPart_none (wpAny_evalPart_some (wpAny_BinOp (jaf H'.sta hpl (wpAny_Constant_int (op_add.useP fun t0 s0 k0 => ?_)))))))
 have K0 : Kp [] s s0 := (kt.trans k0).mono al0
 have X0 := X.ex H' K0
 have hvs0 := jaj hvs K0 ni0
 refine ⟨fl, vs, none, some _, rfl, hvs0, hle, .none, .int .., X0.g, fun D s1 f1 hD k1 => ?_⟩
 have hD : PL s1.heap D (slicePick vs.toArray none (some ((p + 1 : Nat) : Int)) none).toList := hD
 rw [slicePick_upto'] at hD
 have hD' : PL s1.heap D (vs.take (p + 1)) := by simpa using hD
 have X1 := X0.ex H' k1
 have K1 : Kp [] s s1 := (K0.trans k1).mono al0
 have p1 : Paired (ctrR W s1.heap) (vs.take (p + 1)) (Ls.take (p + 1)) := jbY (p + 1) (jab (fun v x h => jaV h K1 ja6) pvs)
 refine (jaD X1.g hD'.list).use fun v s2 It => ?_
 have H1 := H'.at X1.kp
 have X2 := LI.ex H1 X1.base It.kp
 refine jbz (W := W) H'.sta hA X1.g It H'.own X1.al (fun a ha q => ?_) oB (H'.set ("other" : Str) (by simp [lwN]))
  (fun i s => ∃ Ls', LI w B env W rwl fl rvs rows s1 s Ls' ∧ Ls'.map vals = (((Ls.take (p + 1)).take i).map vals).foldl (jce (vals H.L)) (Ls.map vals) ∧ Paired (ctrR W s.heap) (vs.take (p + 1)) (Ls.take (p + 1)) ∧ Bnd env "here" (.ref H.1) s ∧ CP.at s.heap H) (fun i s h => let ⟨_, h, _⟩ := h; ⟨h.g, h.f⟩)
  ⟨Ls, X2, rfl, jab (fun v x h => jaV h It.kp ja6) p1, jae (jae bh K1) It.kp, CP.kpC (CP.kpC ch K1 ja6 h1) It.kp ja6 h1⟩ ?_ ?_
 ·cases List.mem_singleton.mp ha
  obtain ⟨o, e⟩ := X0.al _ q
  rw [f1] at e; cases e
 ·rintro I i v s3 s4 fI hi hv ⟨Ls', X3, e3, p3, b3, c3⟩ hI k4 b4 hk4 G4 F4
  first | (refine lW ?_; intro Ro) | (refine lA ?_; intro Ro) | (refine lC ?_; intro Ro) | skip
  have X4 := X3.st H1 hro hfo fI hI k4 (by decide +kernel) hk4 G4 F4
  have n4 : NoC W s3 [I, jai env "other"] := noC_it hI (H'.own _ jac)
  have p4 := jab (fun v x h => jaV h k4 n4) p3
  have c4 := CP.kpC c3 k4 n4 h1
  have d4 := hk4 ("here" : Str) _ (by decide +kernel) b3
  refine aG ?_; intro gO; obtain ⟨L, hL, rx⟩ := ja4 p4 (toA hv); unfold gO; clear gO
  obtain ⟨a, d, ep, rfl, C, n1, n2⟩ := rx
  have hLm : L ∈ Ls := List.mem_of_mem_take (List.mem_of_getElem? hL)
  have hlen : Ls'.length ≤ Ls.length + 2 * (p + 1) := by
   have h1 := congrArg List.length e3
   have h2 := jbb (k := 2) (lwTurn_len (vals H.L)) (((Ls.take (p + 1)).take i).map vals) (Ls.map vals)
   have h3 : (((Ls.take (p + 1)).take i).map vals).length ≤ p + 1 := by rw [List.length_map, List.length_take, List.length_take]; exact Nat.le_trans (Nat.min_le_right _ _) (Nat.min_le_left _ _)
   rw [List.length_map] at h1 h2
   omega
  refine (lw_turn (H := H) (O := (a, d, L, ep)) (H1.at X4.kp) X4.base hA hn (Nat.le_trans ‹_› ‹_›) hfw hfo hro hrf d4 b4 c4 C h1 ⟨n1, n2⟩ vh (vf L hLm)).useE fun s5 hx0 => ?_
  refine aG ?_; intro gO; obtain ⟨LJ, LM, vj, vm, X5, b5⟩ := hx0; unfold gO; clear gO
  have n5 : NoC W s4 W := jbU fun Y h => h
  refine ⟨⟨_, X5.join X4.kp, ?_, jab (fun v x h => jaV h X5.kp n5) p4, b5, CP.kpC c4 X5.kp n5 h1⟩, X5.kp⟩
  have hL2 : ((Ls.take (p + 1)).map vals)[i]? = some (vals L) := by rw [List.getElem?_map, hL]; rfl
  rw [addC_vals, addC_vals, e3, vj, vm, List.map_take (i := i), List.map_take (i := i + 1), jbu hL2]
  rfl
 ·rintro I s3 s4 fI ⟨Ls', X3, e3, _⟩ hI k4
  first | (refine lW ?_; intro Ro) | (refine lA ?_; intro Ro) | (refine lC ?_; intro Ro) | skip
  have nI : ∀ a ∈ W, a ≠ I := fun a ha q => by obtain ⟨o, e⟩ := X1.al a ha; rw [q, fI] at e; cases e
  have X4 := X3.it H1 fI nI hI k4
  refine ⟨rfl, Ls', X4.join X1.kp, ?_⟩
  rw [e3, List.take_of_length_le (by rw [← jaa p1]; simp), List.map_take]
end
noncomputable def lwAll (rows : List (List Int)) : List VL := (List.range 18).foldl jaN (jbm rows)
section
variable {w : World} {B : Heap} {A : Around} {s s' : Shared} {a d b e rwl fl I l : Addr} {env : Env} {sc : Scope} {E : Value → Shared → Prop} {W ad : List Addr} {sX : Shared} {rvs : List Value} {rows : List (List Int)} {Ls : List (List En)} {L M : List En} {H O : CP} {z : Str} {v : Value}
set_option tactic.hygienic true in
theorem lw_place {n p t : Nat} (H' : LwE B env W sX) (X : LI w B env W rwl fl rvs rows sX s Ls) (hA : Rm n A) (hn : n < 190) (hz : Ls.length + 2 * (p + 1) ≤ 490) (hp : p ≤ 100) (hfw : fl ∈ W) (hfo : fl ∉ Own env) (hro : rwl ∉ Own env) (hrf : rwl ≠ fl)
  (hpl : Bnd env "place" (.int p t) s) (vf : ∀ L ∈ Ls, VOk (vals L)) :
  Wp w A (execs plcB env) (fun f s' => f = .next ∧ ∃ Ls', LI w B env W rwl fl rvs rows sX s' Ls' ∧ Ls'.map vals = jaN (Ls.map vals) p) s := by
 try (refine lW ?_; intro Ro)
 have e1 : plcB = [plcB[0]!] := by kernel_rfl
 rw [e1]
 refine aG ?_; intro gO; obtain ⟨vs, hvs, pvs⟩ := X.ff; unfold gO; clear gO
 have hle : vs.length ≤ 1000 := by rw [jaa pvs]; exact lsg ‹_› (by rfl)
 have oB : ∀ a ∈ Own env, B.get? a = none := fun a ha => H'.bw _ (H'.own a ha)
 refine wpAny_execs_cons (wpAny_If (wpAny_isTrue_Compare1 (jaf H'.sta hpl (jap (jal (.builtin "len") X.g H'.sta.ok ?_)))))
 refine ja8 (jad (jaf H'.sta X.bf (jao ?_)))
 refine (len_call hvs hle).useP fun t' s1 k1 => ?_
 have X1 := X.ex H' k1
 refine lt_int (wpAny_truthy_bool ?_)
 split
 rotate_left
 ·rename_i hlt
  have hlt : vs.length ≤ p := by simpa using hlt
  refine wpAny_execs_nil (wpAny_execs_nil ⟨rfl, Ls, X1, ?_⟩)
  unfold jaN
  rw [List.getElem?_eq_none (by rw [List.length_map, ← jaa pvs]; exact hlt)]
 ·rename_i hlt
  have hlt : p < vs.length := by simpa using hlt
  have hlt' : p < Ls.length := by rw [← jaa pvs]; exact hlt
  have e2 : hereB = [hereB[0]!, hereB[1]!] := by kernel_rfl
  have hvs1 := jaj hvs k1 ni0
  have pvs1 := jab (fun v x h => jaV h k1 (ja6 (W := W))) pvs
  have hh : ctrR W s1.heap vs[p] Ls[p] := ja3 pvs1 p hlt hlt'
  show wpAny _ _ (execs hereB env) _ _ _
  rw [e2]
  refine wpAny_execs_cons (wpAny_Assign_Name (ev_at H'.sta X1.bf hvs1 (jae hpl k1) (List.getElem?_eq_getElem hlt) (lq5 ‹_› (by rfl)) ?_))
  refine jaY X1.g H'.sta X1.f oB (fun s2 b2 F2 hk2 k2 g2 G2 => ?_) (H'.set ("here" : Str) (by simp [lwN]))
  have X2 := X1.sv H' hro hfo k2 (by decide +kernel) hk2 G2 F2
  have n2 : NoC W s1 [jai env "here"] := jbU fun a ha => by cases List.mem_singleton.mp ha; exact H'.own _ jac
  have hh2 := jaV hh k2 n2
  refine aG ?_; intro gO; obtain ⟨a, d, ep, ev, C, n1, n2'⟩ := hh2; unfold gO; clear gO
  rw [ev] at b2
  refine wpAny_execs_cons ((lw_others (H := (a, d, Ls[p], ep)) H' X2 hA hn hz hp hfw hfo hro hrf b2 (hk2 ("place" : Str) _ (by decide +kernel) (jae hpl k1)) C ⟨n1, n2'⟩ (vf _ (List.getElem_mem _)) vf).useE fun s3 hx0 => ?_)
  refine aG ?_; intro gO; obtain ⟨Ls', X3, e3⟩ := hx0; unfold gO; clear gO
  refine wpAny_execs_nil (wpAny_execs_nil ⟨rfl, Ls', X3, ?_⟩)
  rw [e3]
  unfold jaN
  rw [List.getElem?_map, List.getElem?_eq_getElem hlt']
  rfl
theorem lw_places {n : Nat} (H' : LwE B env W sX) (X : LI w B env W rwl fl rvs rows sX s Ls) (hA : Rm n A) (hn : n < 190) (hL : Ls.map vals = jbm rows) (hr : rows.length ≤ 3) (hok : RowOk rows) (hfw : fl ∈ W) (hfo : fl ∉ Own env) (hro : rwl ∉ Own env) (hrf : rwl ≠ fl) :
  Wp w A (exec lwB[4]! env) (fun f s' => f = .next ∧ ∃ Ls', LI w B env W rwl fl rvs rows sX s' Ls' ∧ Ls'.map vals = lwAll rows) s := by
 try (refine lW ?_; intro Ro)
 have oB : ∀ a ∈ Own env, B.get? a = none := fun a ha => H'.bw _ (H'.own a ha)
 refine wpAny_For (jap (jal (.type "range") X.g H'.sta.ok (callWith_type1 (jad (wpAny_Constant_int (jao ?_))))))
 have kt : Kp [] s { s with toks := s.toks + 1 } := jak (Nat.le_succ _)
 have G1 := X.g.kp kt al0
 refine (jaH (n := 18) G1 (hA.le (lq6 ‹_› (by rfl)))).useE4 fun r q1 q2 q3 s2 hx0 => ?_
 refine aG ?_; intro gO; obtain ⟨hr', fr, k2⟩ := hx0; unfold gO; clear gO
 have K2 : Kp [] s s2 := (kt.trans k2).mono al0
 have X2 := X.ex H' K2
 have H2 := H'.at X2.kp
 refine (jaI (n := 18) X2.g hr' (by decide +kernel) (by decide +kernel)).use fun v s3 It => ?_
 have zi : (jbm rows).length ≤ 3 := by
  have := lwInit_len rows rows.length
  rw [List.take_length] at this
  exact Nat.le_trans this hr
 have okA : ∀ i, ∀ U ∈ (List.range i).foldl jaN (jbm rows), VOk U := fun i =>
  ja7 (P := fun f : List VL => ∀ U ∈ f, VOk U) _ _ (fun b x Y hb => lwPlace_ok x hb) (lwInit_ok hok)
 refine jbz (W := W) H'.sta hA X2.g It H'.own X2.al al0 oB (H'.set ("place" : Str) (by simp [lwN]))
  (fun i s' => ∃ Ls', LI w B env W rwl fl rvs rows s2 s' Ls' ∧ Ls'.map vals = (List.range i).foldl jaN (jbm rows)) (fun i s h => let ⟨_, h, _⟩ := h; ⟨h.g, h.f⟩) ⟨Ls, LI.ex H2 X2.base It.kp, hL⟩ ?_ ?_
 ·intro I i v s9 s10 fI hi hv ⟨Ls', X9, h9⟩ hI' k10 b10 hk10 G10 F10
  obtain ⟨t, _, rfl⟩ := hv
  first | (refine lW ?_; intro Ro) | (refine lA ?_; intro Ro) | (refine lC ?_; intro Ro) | skip
  have X10 := X9.st H2 hro hfo fI hI' k10 (by decide +kernel) hk10 G10 F10
  have hlen : Ls'.length ≤ 3 + i * (i + 1) := by
   have h1 := congrArg List.length h9
   have h2 := lwAll_len (jbm rows) i
   rw [List.length_map] at h1
   omega
  have hi2 : i * (i + 1) ≤ 17 * 18 := Nat.mul_le_mul (lq6 ‹_› (by rfl)) (lq0 ‹_› (by rfl))
  refine (lw_place (H2.at X10.kp) X10.base hA hn (by omega) (lq6 ‹_› (by rfl)) hfw hfo hro hrf b10 (fun L hL => okA i _ (by rw [← h9]; exact List.mem_map_of_mem hL))).useE fun s11 hx0 => ?_
  refine aG ?_; intro gO; obtain ⟨Ls'', X11, h11⟩ := hx0; unfold gO; clear gO
  refine ⟨⟨_, X11.join X10.kp, ?_⟩, X11.kp⟩
  rw [h11, h9, jbc]
 ·intro I s9 s10 fI ⟨Ls', X9, h9⟩ hI' k10
  first | (refine lW ?_; intro Ro) | (refine lA ?_; intro Ro) | (refine lC ?_; intro Ro) | skip
  have nI : ∀ a ∈ W, a ≠ I := fun a ha q => by obtain ⟨o, e⟩ := X2.al a ha; rw [q, fI] at e; cases e
  have X10 := X9.it H2 fI nI hI' k10
  exact ⟨rfl, Ls', X10.join X2.kp, h9⟩
end
noncomputable def vecL (L : List En) : List Int := (List.range 4).map fun (j : Nat) => cnt L j
section
variable {w : World} {B : Heap} {A : Around} {s s' : Shared} {a c d b e rwl fl I l : Addr} {env : Env} {sc : Scope} {E : Value → Shared → Prop} {W U ad : List Addr} {sX : Shared} {rvs fvs : List Value} {rows : List (List Int)} {Ls : List (List En)} {L M : List En} {z : Str} {v : Value} {ep : Nat}
theorem vec_inner {scope : Scope} {p1 p2 p3 p4 p5 p6 p7 pos : Pos} {n kk : Nat} (S : Sta env sc) (T : CompT scope sc [(("bag" : Str), c)] "thing" false) (hA : Rm n A) (hn : n < 240) (hclos : closureFor scope env = pure [(("bag" : Str), c)]) (hcB : B.get? c = none) (G : Good w B s)
  (hkb : (jav scope sc).names.lookup ("bag" : Str) = some .cell) (hg3 : sc.names.lookup ("range" : Str) = some .globalImplicit) (bb : Bnd env "bag" (.ref a) s) (hcell : env.cells.lookup ("bag" : Str) = some c) (C : IsC s.heap a d L ep) :
  Wp w A (eval (.ListComp (.Subscript (.Name "bag" p1) (.Name "thing" p2) p3) [⟨.Name "thing" p4, .Call (.Name "range" p5) [.Constant (.int (4 : Nat)) kk p6] [] p7, [], 0⟩] scope pos) env) (fun v s' => ∃ D vs, v = .ref D ∧ s.heap.get? D = none ∧ PL s'.heap D vs ∧ Paired (intR s'.heap) vs (vecL L) ∧ Kp [] s s') s := by
 try (refine lW ?_; intro Ro)
 have hcd := jaR bb hcell
 refine jbV S.ok T hA hclos (List.pairwise_singleton _ _) (fun p hp => by cases List.mem_singleton.mp hp; exact hcB) (jap (jal (.type "range") G S.ok (callWith_type1 (jad (wpAny_Constant_int (jao ?_)))) (by kernel_rfl) hg3 (by kernel_rfl)))
 have kt : Kp [] s { s with toks := s.toks + 1 } := jak (Nat.le_succ _)
 have G1 := G.kp kt al0
 refine (jaH (n := 4) G1 (hA.le (lq6 ‹_› (by rfl)))).useE4 fun r q1 q2 q3 s2 hx0 => ?_
 refine aG ?_; intro gO; obtain ⟨hr', fr, k2⟩ := hx0; unfold gO; clear gO
 have K2 : Kp [] s s2 := (kt.trans k2).mono al0
 have G2 := G.kp K2 al0
 obtain ⟨rs1, rs2⟩ := jaO ⟨4, by exact lqe rfl⟩
 refine (jaI (n := 4) G2 hr' rs1 rs2).use fun it s3 It => ?_
 refine ⟨[], 4, _, fun Y => true, fun j y Y => ∃ t, y = .int (cnt L j) t, G2, fun p hp => by cases List.mem_singleton.mp hp; exact ⟨_, jaw hcd K2 ni0⟩, by simp, It, jcg (f := fun j => cnt L j), jb3 (f := fun j => cnt L j), by exact lqe rfl, ?_, ?_⟩
 ·intro cenv A' j v s4 Sc hN _ hA' hj hv k4 G4 b4
  obtain ⟨N, hN⟩ := hN
  first | (refine lW ?_; intro Ro) | (refine lA ?_; intro Ro) | (refine lC ?_; intro Ro) | skip
  have hN : cenv.cells = [(("bag" : Str), c)] := hN
  obtain ⟨t, _, rfl⟩ := hv
  have K4 : Kp [] s s4 := (K2.trans k4).mono al0
  have bb4 : Bnd cenv "bag" (.ref a) s4 := jb2 Sc hN (by simp [List.lookup_cons]) hkb hcd K4
  have C4 := C.kp K4 ni0 ni0
  refine wpAny_tests_nil ⟨rfl, (Kp.refl _).mono al0, fun Y => ?_⟩
  refine jaJ (jaf Sc bb4 (jaf Sc b4 ⟨jbx G4 C4, ?_⟩))
  refine (jaC G4 C4 (hA'.le (lq6 ‹_› (by rfl)))).useE1 fun t1 s5 hx0 => ?_
  refine aG ?_; intro gO; obtain ⟨pt1, K1, g1⟩ := hx0; unfold gO; clear gO
  exact ⟨⟨_, rfl⟩, K1, by simp⟩
 ·intro D ys T' s' fD hl' ho _ k' G'
  first | (refine lW ?_; intro Ro) | (refine lA ?_; intro Ro) | (refine lC ?_; intro Ro) | skip
  have hs := jbn ho
  rw [jbj] at hs
  exact ⟨D, ys, rfl, K2.back fD, hl', jaF hs fun a b Y h => h.1, (K2.trans k').mono al0⟩
theorem vec_outer {scope scope2 : Scope} {p1 p2 p3 p4 p5 p6 p7 p8 p9 q1 pos : Pos} {n kk : Nat} (S : Sta env sc) (T : CompT scope sc [] "bag" true) (hA : Rm n A) (hn : n < 200) (hclos : closureFor scope env = pure []) (G : Good w B s)
  (T2 : ∀ N, CompT scope2 (jav scope sc) [(("bag" : Str), N)] "thing" false) (hf2 : (scope2.names.filter fun x => x.2 == .free).map (·.1) = [("bag" : Str)])
  (hk3 : (jav scope2 (jav scope sc)).names.lookup ("bag" : Str) = some .cell) (hg3 : (jav scope sc).names.lookup ("range" : Str) = some .globalImplicit)
  (hU : ∀ a ∈ U, ∃ o, s.heap.get? a = some o) (bf : Bnd env "found" (.ref fl) s) (hl : PL s.heap fl fvs) (hp : Paired (ctrR W s.heap) fvs Ls) (hz : Ls.length ≤ 500) :
  Wp w A (eval (.ListComp (.ListComp (.Subscript (.Name "bag" p1) (.Name "thing" p2) p3) [⟨.Name "thing" p4, .Call (.Name "range" p5) [.Constant (.int (4 : Nat)) kk p6] [] p7, [], 0⟩] scope2 p8) [⟨.Name "bag" p9, .Name "found" q1, [], 0⟩] scope pos) env)
   (fun v s' => ∃ D vs, v = .ref D ∧ s.heap.get? D = none ∧ PL s'.heap D vs ∧ Paired (liW U intR s'.heap) vs (Ls.map vecL) ∧ Kp [] s s') s := by
 try (refine lW ?_; intro Ro)
 refine jbV (B := B) S.ok T hA hclos List.Pairwise.nil na0 (jaf S bf ((jaD G hl.list).use fun it s2 It => ?_))
 refine ⟨[fl], fvs.toArray.size, _, fun Y => true, fun j y s => ∃ ns, liW U intR s.heap y ns ∧ ns = vecL (Ls.getD j []), G, by simp, by simp, It, stab_liW (Pp := fun j ns => ns = vecL (Ls.getD j [])), stabB_liW (Pp := fun j ns => ns = vecL (Ls.getD j [])), by simp; rw [jaa hp]; exact lq8 ‹_› (by rfl), ?_, ?_⟩
 ·intro cenv A' j v s4 Sc hN hB hA' hj hv k4 G4 b4
  obtain ⟨N, hN⟩ := hN
  first | (refine lW ?_; intro Ro) | (refine lA ?_; intro Ro) | (refine lC ?_; intro Ro) | skip
  have hN : cenv.cells = [(("bag" : Str), N)] := hN
  have p4 := jab (fun v x h => jaV h k4 (ja6 (W := W))) hp
  obtain ⟨L, hL, a, d, ep, rfl, C, _, _⟩ := ja4 p4 (toA hv)
  have hth : cenv.cells.lookup ("bag" : Str) = some N := by rw [hN]; simp [List.lookup_cons]
  have hNB : B.get? N = none := hB N (by unfold Own; rw [hN]; simp)
  refine wpAny_tests_nil ⟨rfl, (Kp.refl _).mono al0, fun Y => ?_⟩
  refine (vec_inner Sc (T2 N) hA' (lq0 hn rfl) (jbh (frees := [("bag" : Str)]) (fun Y => N) hf2 (als hth) (List.nil_append _)) hNB G4 hk3 hg3 b4 hth C).useE2 fun D5 vs5 s5 hx0 => ?_
  refine aG ?_; intro gO; obtain ⟨f5, h5, p5, k5⟩ := hx0; unfold gO; clear gO
  refine ⟨⟨_, ⟨D5, vs5, rfl, (fun q => ?_), h5, p5⟩, ?_⟩, k5, fun a ea => by cases ea; exact f5⟩
  ·first | (refine lW ?_; intro Ro) | (refine lA ?_; intro Ro) | (refine lC ?_; intro Ro) | skip
   obtain ⟨o, e⟩ := hU _ q
   have := k4.back f5
   rw [this] at e; cases e
  ·first | (refine lW ?_; intro Ro) | (refine lA ?_; intro Ro) | (refine lC ?_; intro Ro) | skip
   have : Ls.getD j [] = L := by simp [List.getD_eq_getElem?_getD, hL]
   rw [this]
 ·intro D ys T' s' fD hl' ho _ k' G'
  first | (refine lW ?_; intro Ro) | (refine lA ?_; intro Ro) | (refine lC ?_; intro Ro) | skip
  have hs := jbn ho
  rw [jbj, show fvs.toArray.size = Ls.length by simp; exact jaa hp] at hs
  refine ⟨D, ys, rfl, fD, hl', ?_, k'⟩
  rw [← ja5 Ls vecL []]
  exact jaF hs fun a b Y hx0 => by obtain ⟨⟨ns, h, e⟩, _⟩ := hx0; rw [← e]; exact h
end
noncomputable def pw (lt : Nat → Nat → Bool) (n : Nat) {α : Type} : KasT α → (α → Prop) → Prop
 | .ret a, Q => Q a
 | .ask i j k, Q => i < n ∧ j < n ∧ pw lt n (k (lt i j)) Q
theorem jbg {lt : Nat → Nat → Bool} {n : Nat} {α : Type} {Q Q' : α → Prop} (h : ∀ a, Q a → Q' a) : ∀ (t : KasT α), pw lt n t Q → pw lt n t Q'
 | .ret _, q => h _ q
 | .ask _ _ k, ⟨a, b, c⟩ => ⟨a, b, jbg h (k _) c⟩
theorem jcx {lt : Nat → Nat → Bool} {n : Nat} {α β : Type} {Q : β → Prop} {f : α → KasT β} : ∀ (t : KasT α), pw lt n t (fun a => pw lt n (f a) Q) → pw lt n (t.bind f) Q
 | .ret _, q => q
 | .ask _ _ k, ⟨a, b, c⟩ => ⟨a, b, jcx (k _) c⟩
theorem pw_wp {lt : Nat → Nat → Bool} {n : Nat} {cmp : Nat → Nat → (Bool → Shared → Prop) → Shared → Prop} {s : Shared} (hc : ∀ i j C, i < n → j < n → C (lt i j) s → cmp i j C s) {α : Type} {Q : α → Shared → Prop} : ∀ (t : KasT α), pw lt n t (fun a => Q a s) → t.kasWp cmp Q s
 | .ret _, q => q
 | .ask i j k, ⟨a, b, c⟩ => hc i j _ a b (pw_wp hc (k _) c)
structure POk (n : Nat) (p : Array Nat) : Prop where
 pm : p.toList.Perm (List.range n)
theorem POk.size {n : Nat} {p : Array Nat} (h : POk n p) : p.size = n := by simpa using h.pm.length_eq
theorem POk.lt {n : Nat} {p : Array Nat} (h : POk n p) {i : Nat} (hi : i < n) : p.getD i 0 < n := by
 have hs := h.size
 have e : p.getD i 0 = p[i]'(lqm ‹_› ‹_›) := by simp [Array.getD, hs, hi]
 rw [e]
 have := h.pm.mem_iff (a := p[i]'(lqm ‹_› ‹_›))
 simpa using this.mp (by simp)
theorem POk.ne {n : Nat} {p : Array Nat} (h : POk n p) {i j : Nat} (hi : i < n) (hj : j < n) (hij : i ≠ j) : p.getD i 0 ≠ p.getD j 0 := by
 have hs := h.size
 have e1 : p.getD i 0 = p.toList[i]'(by simp; exact lqm ‹_› ‹_›) := by simp [Array.getD, hs, hi]
 have e2 : p.getD j 0 = p.toList[j]'(by simp; exact lqm ‹_› ‹_›) := by simp [Array.getD, hs, hj]
 have nd : p.toList.Nodup := h.pm.nodup_iff.mpr List.nodup_range
 rw [e1, e2]
 have pr := List.pairwise_iff_getElem.mp nd
 rcases Nat.lt_or_gt_of_ne hij with q | q
 ·exact pr i j (by simp; exact lqm ‹_› ‹_›) (by simp; exact lqm ‹_› ‹_›) q
 ·exact (pr j i (by simp; exact lqm ‹_› ‹_›) (by simp; exact lqm ‹_› ‹_›) q).symm
theorem POk.perm {n : Nat} {p q : Array Nat} (h : POk n p) (k : q.Perm p) : POk n q := ⟨(Array.perm_iff_toList_perm.mp k).trans h.pm⟩
theorem getD_of {p q : Array Nat} {i j : Nat} (h : p[i]? = q[j]?) : p.getD i 0 = q.getD j 0 := by
 rw [Array.getD_eq_getD_getElem?, Array.getD_eq_getD_getElem?, h]
structure SLt (n : Nat) (lt : Nat → Nat → Bool) : Prop where
 tr : ∀ a b c, a < n → b < n → c < n → lt a b = true → lt b c = true → lt a c = true
 as : ∀ a b, a < n → b < n → lt a b = true → lt b a = false
 to : ∀ a b, a < n → b < n → a ≠ b → lt a b = false → lt b a = true
section
variable {n : Nat} {lt : Nat → Nat → Bool} {p : Array Nat}
noncomputable def Asc (lt : Nat → Nat → Bool) (p : Array Nat) (m : Nat) : Prop := ∀ i j, i < j → j < m → lt (p.getD i 0) (p.getD j 0) = true
noncomputable def Dsc (lt : Nat → Nat → Bool) (p : Array Nat) (m : Nat) : Prop := ∀ i j, i < j → j < m → lt (p.getD j 0) (p.getD i 0) = true
theorem asc_step (T : SLt n lt) (hp : POk n p) {a : Nat} (ha : 1 ≤ a) (han : a < n) (h : Asc lt p a) (hl : lt (p.getD (a - 1) 0) (p.getD a 0) = true) : Asc lt p (a + 1) := by
 intro i j hij hj
 by_cases hja : j < a
 ·exact h i j hij hja
 ·have : j = a := by exact lto ‹_› ‹_›
  subst this
  by_cases hi : i = j - 1
  ·subst hi; exact hl
  ·exact T.tr _ _ _ (hp.lt (Nat.lt_trans ‹_› ‹_›)) (hp.lt (lti ‹_› ‹_›)) (hp.lt han) (h i (j - 1) (lre ‹_› ‹_›) (lqk ‹_›)) hl
theorem dsc_step (T : SLt n lt) (hp : POk n p) {a : Nat} (ha : 1 ≤ a) (han : a < n) (h : Dsc lt p a) (hl : lt (p.getD a 0) (p.getD (a - 1) 0) = true) : Dsc lt p (a + 1) := by
 intro i j hij hj
 by_cases hja : j < a
 ·exact h i j hij hja
 ·have : j = a := by exact lto ‹_› ‹_›
  subst this
  by_cases hi : i = j - 1
  ·subst hi; exact hl
  ·exact T.tr _ _ _ (hp.lt han) (hp.lt (lti ‹_› ‹_›)) (hp.lt (Nat.lt_trans ‹_› ‹_›)) hl (h i (j - 1) (lre ‹_› ‹_›) (lqk ‹_›))
set_option tactic.hygienic true in
theorem pw_asc (T : SLt n lt) (hp : POk n p) : ∀ f a, 1 ≤ a → a + f ≤ n → Asc lt p a → pw lt n (kas_asc p f a) (fun m => a ≤ m ∧ m ≤ a + f ∧ Asc lt p m ∧ (m = a + f ∨ lt (p.getD m 0) (p.getD (m - 1) 0) = true)) := by
 intro f
 induction f with
 | zero =>
  rintro a _ _ h
  exact ⟨Nat.le_refl _, Nat.le_refl _, h, .inl rfl⟩
 | succ f ih =>
  rintro a ha hn h
  refine ⟨hp.lt (ltj ‹_›), hp.lt (ltl ‹_›), ?_⟩
  dsimp only
  split
  ·rename_i hc
   exact ⟨Nat.le_refl _, by exact Nat.le_add_right _ _, h, .inr hc⟩
  ·rename_i hc
   have hl := T.to _ _ (hp.lt (by omega : a < n)) (hp.lt (by omega : a - 1 < n)) (hp.ne (ltj ‹_›) (ltl ‹_›) (ltn ‹_›)) (Bool.eq_false_iff.mpr hc)
   refine jbg ?_ _ (ih (a + 1) (lqe rfl) (ltk ‹_›) (asc_step T hp ha (ltj ‹_›) h hl))
   rintro m ⟨h1, h2, h3, h4⟩
   exact ⟨by exact Nat.le_of_lt ‹_›, by exact ltm ‹_›, h3, h4.imp (by omega) id⟩
set_option tactic.hygienic true in
theorem pw_desc (T : SLt n lt) (hp : POk n p) : ∀ f a, 1 ≤ a → a + f ≤ n → Dsc lt p a → pw lt n (kas_desc f p a 0) (fun r => r.1 = p ∧ r.2.2 = 0 ∧ a ≤ r.2.1 ∧ r.2.1 ≤ a + f ∧ Dsc lt p r.2.1) := by
 intro f
 induction f with
 | zero =>
  rintro a _ _ h
  exact ⟨rfl, rfl, Nat.le_refl _, Nat.le_refl _, h⟩
 | succ f ih =>
  rintro a ha hn h
  refine ⟨hp.lt (ltj ‹_›), hp.lt (ltl ‹_›), ?_⟩
  dsimp only
  split
  ·rename_i hc
   rw [if_neg (by omega)]
   refine jbg ?_ _ (ih (a + 1) (lqe rfl) (ltk ‹_›) (dsc_step T hp ha (ltj ‹_›) h hc))
   rintro r ⟨h0, h1, h2, h3, h4⟩
   exact ⟨h0, h1, by exact Nat.le_of_lt ‹_›, by exact ltm ‹_›, h4⟩
  ·rename_i hc
   have hl := T.to _ _ (hp.lt (by omega : a < n)) (hp.lt (by omega : a - 1 < n)) (hp.ne (ltj ‹_›) (ltl ‹_›) (ltn ‹_›)) (Bool.eq_false_iff.mpr hc)
   refine ⟨hp.lt (ltl ‹_›), hp.lt (ltj ‹_›), ?_⟩
   dsimp only
   rw [hl, if_pos rfl]
   exact ⟨rfl, rfl, Nat.le_refl _, (by show a ≤ a + (f + 1); exact Nat.le_add_right _ _), h⟩
theorem rev_ok (hp : POk n p) {m : Nat} : POk n (kas_rev p 0 m) := hp.perm (mirror_perm _ _ _ _)
theorem rev_asc (hp : POk n p) {m : Nat} (hm : m ≤ n) (h : Dsc lt p m) : Asc lt (kas_rev p 0 m) m := by
 intro i j hij hj
 have e : ∀ k, k < m → (kas_rev p 0 m).getD k 0 = p.getD (m - 1 - k) 0 := fun k hk => by
  refine getD_of ?_
  unfold kas_rev
  rw [getElem?_mirror_all (by rw [hp.size]; exact hm), if_pos ⟨Nat.zero_le _, hk⟩]
  congr 1; exact congrArg (· - _) (congrArg (· - 1) (Nat.zero_add _))
 rw [e i (Nat.lt_trans ‹_› ‹_›), e j hj]
 exact h _ _ (lrg ‹_› ‹_›) (lrh ‹_› ‹_›)
theorem pw_tail3 (T : SLt n lt) (hp : POk n p) {m : Nat} (h1 : 1 ≤ m) (hm : m ≤ n) (h : Dsc lt p m) : pw lt n (kas_tail3 m n p) (fun r => POk n r.2 ∧ 1 ≤ r.1 ∧ r.1 ≤ n ∧ Asc lt r.2 r.1) := by
 unfold kas_tail3
 refine jcx _ (jbg ?_ _ (pw_asc T (rev_ok hp) (n - m) m h1 (by omega) (rev_asc hp hm h)))
 rintro r ⟨h1, h2, h3, _⟩
 exact ⟨rev_ok hp, by exact Nat.le_trans ‹_› ‹_›, by exact lsz ‹_› ‹_›, h3⟩
theorem pw_descPart (T : SLt n lt) (hp : POk n p) (hn : 2 ≤ n) (h : lt (p.getD 1 0) (p.getD 0 0) = true) : pw lt n (kas_descPart 1 n p) (fun r => POk n r.2 ∧ 1 ≤ r.1 ∧ r.1 ≤ n ∧ Asc lt r.2 r.1) := by
 unfold kas_descPart
 have h2 : Dsc lt p 2 := by
  intro i j hij hj
  have e1 : i = 0 := by omega
  have e2 : j = 1 := by omega
  subst e1 e2; exact h
 refine jcx _ (jbg ?_ _ (pw_desc T hp (n - 2) 2 (lqe rfl) (by omega) h2))
 rintro ⟨p', m, q⟩ ⟨e1, e2, h3, h4, h5⟩
 dsimp only at e1 e2 h3 h4 h5 ⊢
 subst e1 e2
 rw [if_neg (by omega)]
 exact pw_tail3 T hp (lqc ‹_› (by rfl)) (lsz ‹_› ‹_›) h5
theorem pw_count (T : SLt n lt) (hp : POk n p) (hn : 2 ≤ n) : pw lt n (kas_count n p) (fun r => POk n r.2 ∧ 1 ≤ r.1 ∧ r.1 ≤ n ∧ Asc lt r.2 r.1) := by
 unfold kas_count
 refine jcx _ (jbg ?_ _ (pw_asc T hp (n - 1) 1 (Nat.le_refl _) (by omega) (fun i j hij hj => by omega)))
 rintro m ⟨h1, h2, h3, h4⟩
 by_cases he : m = n
 ·rw [if_pos (beq_iff_eq.mpr he)]
  exact ⟨hp, h1, by exact Nat.le_of_eq ‹_›, h3⟩
 ·rw [if_neg ((fun e => he (beq_iff_eq.mp e)))]
  by_cases hg : m > 1
  ·rw [if_pos hg]
   refine ⟨hp.lt (lqc ‹_› (by rfl)), hp.lt (by omega), ?_⟩
   dsimp only
   rw [h3 0 (m - 1) (Nat.le_sub_one_of_lt ‹_›) (lqk ‹_›), if_pos rfl]
   exact ⟨hp, h1, by omega, h3⟩
  ·rw [if_neg hg]
   have : m = 1 := by exact (ltf ‹_› ‹_›).symm
   subst this
   exact pw_descPart T hp hn (h4.resolve_left (by omega))
set_option tactic.hygienic true in
theorem pw_place (T : SLt n lt) (hp : POk n p) {k : Nat} (hk : k < n) (h : Asc lt p k) : ∀ f l r, r ≤ k → r - l ≤ f → l ≤ r → (∀ i, i < l → lt (p.getD i 0) (p.getD k 0) = true) → (∀ i, r ≤ i → i < k → lt (p.getD k 0) (p.getD i 0) = true) →
  pw lt n (kas_place p k f l r) (fun m => m ≤ k ∧ (∀ i, i < m → lt (p.getD i 0) (p.getD k 0) = true) ∧ ∀ i, m ≤ i → i < k → lt (p.getD k 0) (p.getD i 0) = true) := by
 intro f
 induction f with
 | zero =>
  rintro l r hr hf hlr h1 h2
  exact ⟨by exact Nat.le_trans ‹_› ‹_›, h1, fun i hi => h2 i (lts ‹_› ‹_›)⟩
 | succ f ih =>
  rintro l r hr hf hlr h1 h2
  unfold kas_place
  by_cases hge : l ≥ r
  ·rw [if_pos hge]; exact ⟨by exact Nat.le_trans ‹_› ‹_›, h1, fun i hi => h2 i (Nat.le_trans ‹_› ‹_›)⟩
  ·rw [if_neg hge]
   have hm : (l + r) / 2 < r := by omega
   have hm2 : l ≤ (l + r) / 2 := by omega
   generalize (l + r) / 2 = m at hm hm2 ⊢
   have mn := Nat.lt_trans (Nat.lt_of_lt_of_le hm hr) hk
   refine ⟨hp.lt hk, hp.lt mn, ?_⟩
   dsimp only
   split
   ·rename_i hc
    refine ih l m (Nat.le_of_lt (Nat.lt_of_lt_of_le hm hr)) (Nat.le_of_lt_succ (Nat.lt_of_lt_of_le (Nat.sub_lt_sub_right hm2 hm) hf)) hm2 h1 fun i hi hik => ?_
    by_cases e : i = m
    ·subst e; exact hc
    ·exact T.tr _ _ _ (hp.lt hk) (hp.lt mn) (hp.lt (Nat.lt_trans hik hk)) hc (h _ i (Nat.lt_of_le_of_ne hi (Ne.symm e)) hik)
   ·rename_i hc
    have hl := T.to _ _ (hp.lt hk) (hp.lt mn) (hp.ne hk mn (Nat.ne_of_gt (Nat.lt_of_lt_of_le hm hr))) (Bool.eq_false_iff.mpr hc)
    refine ih (m + 1) r hr (Nat.le_trans (Nat.sub_le_sub_left (Nat.succ_le_succ hm2) r) (Nat.pred_le_pred hf)) hm (fun i hi => ?_) h2
    by_cases e : i = m
    ·subst e; exact hl
    ·have im := Nat.lt_of_le_of_ne (Nat.le_of_lt_succ hi) e
     exact T.tr _ _ _ (hp.lt (Nat.lt_trans im mn)) (hp.lt mn) (hp.lt hk) (h i _ im (Nat.lt_of_lt_of_le hm hr)) hl
theorem bub_asc (hp : POk n p) {k m : Nat} (hk : k < n) (h : Asc lt p k) (hm : m ≤ k) (h1 : ∀ i, i < m → lt (p.getD i 0) (p.getD k 0) = true) (h2 : ∀ i, m ≤ i → i < k → lt (p.getD k 0) (p.getD i 0) = true) : Asc lt (bubble p k (k - m)) (k + 1) := by
 have e : ∀ i, (bubble p k (k - m)).getD i 0 = if i = m then p.getD k 0 else if m < i ∧ i ≤ k then p.getD (i - 1) 0 else p.getD i 0 := fun i => by
  have := getElem?_bubble (xs := p) (src := k) (by rw [hp.size]; exact hk) (k - m) (Nat.sub_le _ _) i
  rw [show k - (k - m) = m by omega] at this
  by_cases a : i = m
  ·rw [if_pos a] at this ⊢; exact getD_of this
  ·rw [if_neg a] at this ⊢
   by_cases b : m < i ∧ i ≤ k
   ·rw [if_pos b] at this ⊢; exact getD_of this
   ·rw [if_neg b] at this ⊢; exact getD_of this
 intro i j hij hj
 rw [e i, e j]
 have jk := Nat.lt_of_lt_of_le (Nat.sub_lt (Nat.zero_lt_of_lt hij) Nat.one_pos) (Nat.le_of_lt_succ hj)
 by_cases a : i = m
 ·rw [if_pos a, if_neg fun q => Nat.ne_of_lt hij (a.trans q.symm), if_pos ⟨a ▸ hij, Nat.le_of_lt_succ hj⟩]
  exact h2 _ (Nat.le_sub_one_of_lt (a ▸ hij)) jk
 ·rw [if_neg a]
  by_cases b : m < i ∧ i ≤ k
  ·rw [if_pos b, if_neg (Nat.ne_of_gt (Nat.lt_trans b.1 hij)), if_pos ⟨Nat.lt_trans b.1 hij, Nat.le_of_lt_succ hj⟩]
   exact h _ _ (Nat.sub_lt_sub_right (Nat.zero_lt_of_lt b.1) hij) jk
  ·have im : i < m := Nat.lt_of_le_of_ne (Nat.not_lt.mp fun q => b ⟨q, Nat.le_of_lt_succ (Nat.lt_trans hij hj)⟩) a
   rw [if_neg b]
   by_cases c : j = m
   ·rw [if_pos c]; exact h1 i im
   ·rw [if_neg c]
    by_cases d : m < j ∧ j ≤ k
    ·rw [if_pos d]; exact h _ _ (Nat.lt_of_lt_of_le im (Nat.le_sub_one_of_lt d.1)) jk
    ·rw [if_neg d]; exact h _ _ hij (Nat.lt_of_lt_of_le (Nat.lt_of_le_of_ne (Nat.not_lt.mp fun q => d ⟨q, Nat.le_of_lt_succ hj⟩) c) hm)
theorem pw_bin (T : SLt n lt) : ∀ f (p : Array Nat) k, POk n p → k + f ≤ n → Asc lt p k → pw lt n (kas_bin f p k) (fun q => POk n q ∧ Asc lt q (k + f)) := by
 intro f
 induction f with
 | zero =>
  rintro p k hp _ h
  exact ⟨hp, h⟩
 | succ f ih =>
  rintro p k hp hk h
  unfold kas_bin
  refine jcx _ (jbg ?_ _ (pw_place T hp (k := k) (ltj ‹_›) h k 0 k (Nat.le_refl _) (Nat.le_refl _) (Nat.zero_le _) (by omega) (by omega)))
  rintro m ⟨h0, h1, h2⟩
  refine jbg ?_ _ (ih _ (k + 1) (hp.perm (bubble_perm _ _ _)) (ltk ‹_›) (bub_asc hp (ltj ‹_›) h h0 h1 h2))
  rintro q ⟨a, b⟩
  exact ⟨a, by rw [show k + (f + 1) = k + 1 + f by omega]; exact b⟩
theorem pw_sort (T : SLt n lt) (hn : 2 ≤ n) : pw lt n (kas_sort n) (fun q => POk n q ∧ Asc lt q n) := by
 unfold kas_sort
 refine jcx _ (jbg ?_ _ (pw_count T (p := List.toArray (List.range n)) ⟨by simp⟩ hn))
 rintro ⟨m, p⟩ ⟨hp, h1, h2, h3⟩
 dsimp only at hp h1 h2 h3 ⊢
 by_cases hm : m < n
 ·rw [if_pos hm, show max m 1 = m by omega]
  refine jbg ?_ _ (pw_bin T (n - m) p m hp (by omega) h3)
  rintro q ⟨a, b⟩
  exact ⟨a, by rw [show m + (n - m) = n by omega] at b; exact b⟩
 ·rw [if_neg hm]
  exact ⟨hp, by rw [show n = m by omega]; exact h3⟩
end
end Mine
namespace Mine
open PySem PySem.W PySem.W.X PyProof.Rows PySem.Calls Builtin PySem.MeetsSeq PySem.MeetsSeq2 PySem.MeetsSeq3 PySem.SeqAt
noncomputable def ltL : List Int → List Int → Bool
 | x :: xs, y :: ys => if x = y then ltL xs ys else decide (x < y)
 | _, _ => false
theorem ltL_as : ∀ {a b : List Int}, ltL a b = true → ltL b a = false
 | x :: xs, y :: ys, h => by
  unfold ltL at h ⊢
  by_cases e : x = y
  ·rw [if_pos e] at h; rw [if_pos e.symm]; exact ltL_as h
  ·rw [if_neg e] at h; rw [if_neg (Ne.symm e)]
   simp only [decide_eq_true_eq, decide_eq_false_iff_not] at h ⊢; exact Int.not_lt.mpr (Int.le_of_lt ‹_›)
 | [], [], h => by simp [ltL] at h
 | [], _ :: _, h => by simp [ltL] at h
 | _ :: _, [], h => by simp [ltL] at h
theorem ltL_tr : ∀ {a b c : List Int}, ltL a b = true → ltL b c = true → ltL a c = true
 | x :: xs, y :: ys, z :: zs, h, h' => by
  unfold ltL at h h' ⊢
  by_cases e : x = y
  ·subst e
   rw [if_pos rfl] at h
   by_cases e' : x = z
   ·rw [if_pos e'] at h' ⊢; exact ltL_tr h h'
   ·rw [if_neg e'] at h' ⊢; exact h'
  ·rw [if_neg e] at h
   simp only [decide_eq_true_eq] at h
   by_cases e' : y = z
   ·subst e'; rw [if_neg e]; simpa using h
   ·rw [if_neg e'] at h'
    simp only [decide_eq_true_eq] at h'
    rw [if_neg (by omega)]
    simp only [decide_eq_true_eq]; exact Int.lt_trans ‹_› ‹_›
 | [], _, _, h, _ => by simp [ltL] at h
 | _ :: _, [], _, h, _ => by simp [ltL] at h
 | _ :: _, _ :: _, [], _, h => by simp [ltL] at h
theorem ltL_to : ∀ {a b : List Int}, a.length = b.length → a ≠ b → ltL a b = false → ltL b a = true
 | x :: xs, y :: ys, hl, hn, h => by
  unfold ltL at h ⊢
  by_cases e : x = y
  ·subst e
   rw [if_pos rfl] at h ⊢
   exact ltL_to (Nat.succ.inj hl) (fun q => hn (by rw [q])) h
  ·rw [if_neg e] at h; rw [if_neg (Ne.symm e)]
   simp only [decide_eq_true_eq, decide_eq_false_iff_not] at h ⊢; omega
 | [], [], _, hn, _ => absurd rfl hn
 | [], _ :: _, hl, _, _ => by simp at hl
 | _ :: _, [], hl, _, _ => by simp at hl
theorem sorted_uniq : ∀ {a b : List (List Int)}, a.Perm b → a.Pairwise (fun x y => ltL x y = true) → b.Pairwise (fun x y => ltL x y = true) → a = b
 | [], b, h, _, _ => (List.nil_perm.mp h).symm
 | x :: xs, [], h, _, _ => by simpa using h
 | x :: xs, y :: ys, h, h1, h2 => by
  rw [List.pairwise_cons] at h1 h2
  have e : x = y := by
   have m1 : x ∈ y :: ys := h.mem_iff.mp (List.mem_cons_self ..)
   have m2 : y ∈ x :: xs := h.mem_iff.mpr (List.mem_cons_self ..)
   rcases List.mem_cons.mp m1 with q | q
   ·exact q
   ·rcases List.mem_cons.mp m2 with q' | q'
    ·exact q'.symm
    ·have := ltL_as (h1.1 y q')
     rw [h2.1 x q] at this; cases this
  subst e
  rw [sorted_uniq (List.perm_cons x |>.mp h) h1.2 h2.2]
section
variable {w : World} {B : Heap} {A : Around} {s s' : Shared} {a b c d e l x y : Addr} {E : Value → Shared → Prop} {W U : List Addr} {vs us : List Value} {xs ys : List Int} {n : Nat}
theorem jco : plainId "list.__eq__.loop" = true := by decide +kernel
theorem entry_eql : entryFor table "list.__eq__.loop" = some Builtin.«list.__eq__.loop» := PySem.MeetsSeq3.entry_eq_loop
theorem lt_loop (hu : A.units + 1 < cLine) (hl : s.heap.IsList x vs.toArray) (hl' : s.heap.IsList y us.toArray) (p : Paired (intR s.heap) vs xs) (p' : Paired (intR s.heap) us ys) (hz : vs.length = us.length) : ∀ k i, vs.length - i = k → i ≤ vs.length →
  codeAny (model P0 w) A (.builtin "list.__eq__.loop" ⟨[.ref x, .ref y, rawInt i, rawInt 0], []⟩) (fun r s' => r = .ok (.ret (.bool (ltL (xs.drop i) (ys.drop i)))) ∧ s' = s) s := by
 intro k
 induction k with
 | zero =>
  intro i hk hi
  have hin : i = vs.length := by exact lqq ‹_› ‹_›
  refine codeAny_builtin entry_eql ?_
  rw [Around.under_plainId jco _]
  show wpAny _ _ (Builtin.List.listItems (.ref x) >>= _) _ _ _
  refine wpAny_bind (jaM hl (wpAny_bind (jaM hl' ?_)))
  have hg : vs.toArray[((i : Nat) : Int).toNat]? = none := by simp [hin]
  have hg' : us.toArray[((i : Nat) : Int).toNat]? = none := by simp [hin, hz]
  rw [hg, hg']
  refine wpAny_bind (jaM hl (wpAny_bind (jaM hl' (wpAny_pure ⟨?_, rfl⟩))))
  rw [List.drop_of_length_le (by rw [← jaa p]; exact Nat.le_of_eq ‹_ = _›.symm), List.drop_of_length_le (l := ys) (by rw [← jaa p']; omega)]
  show Except.ok (Flow.ret (.bool (decide (vs.toArray.size < us.toArray.size)))) = _
  rw [show decide (vs.toArray.size < us.toArray.size) = false by simp [hz]]
  rfl
 | succ k ih =>
  intro i hk hi
  have hlt : i < vs.length := by exact lqr ‹_›
  have hlt' : i < us.length := by exact lql ‹_› ‹_›
  have hx : i < xs.length := by rw [← jaa p]; exact hlt
  have hy : i < ys.length := by rw [← jaa p']; exact hlt'
  refine codeAny_builtin entry_eql ?_
  rw [Around.under_plainId jco _]
  show wpAny _ _ (Builtin.List.listItems (.ref x) >>= _) _ _ _
  refine wpAny_bind (jaM hl (wpAny_bind (jaM hl' ?_)))
  have hg : vs.toArray[((i : Nat) : Int).toNat]? = some vs[i] := by simp [hlt]
  have hg' : us.toArray[((i : Nat) : Int).toNat]? = some us[i] := by simp [hlt']
  rw [hg, hg']
  have r1 := ja3 p i hlt hx
  have r2 := ja3 p' i hlt' hy
  have hd : xs.drop i = xs[i] :: xs.drop (i + 1) := List.drop_eq_getElem_cons hx
  have hd' : ys.drop i = ys[i] :: ys.drop (i + 1) := List.drop_eq_getElem_cons hy
  rw [hd, hd']
  refine wpAny_bind (jbq A.in1 s vs[i] us[i] xs[i] ys[i] (by show A.units + 1 + 0 < cLine; exact lq0 ‹_› (by rfl)) r1 r2 P0 w _ _ ?_)
  by_cases e : xs[i] = ys[i]
  ·rw [decide_eq_true e]
   refine ift_ rfl (wpAny_pure ⟨plainId_quiet jco _, ?_⟩)
   have hc : ((i : Int) + 1) = ((i + 1 : Nat) : Int) := by push_cast; rfl
   show codeAny _ _ (.builtin "list.__eq__.loop" ⟨[.ref x, .ref y, rawInt ((i : Int) + 1), rawInt 0], []⟩) _ _
   rw [hc]
   refine codeAny_mono (ih (i + 1) (lqj ‹_›) hlt) fun r s' ⟨er, es⟩ => ⟨?_, es⟩
   rw [er]
   conv => rhs; unfold ltL
   rw [if_pos e]
  ·rw [decide_eq_false e]
   refine iff_ rfl (wpAny_bind (jaM hl (wpAny_bind (jaM hl' ?_))))
   rw [hg, hg']
   obtain ⟨t1, e1⟩ := r1
   obtain ⟨t2, e2⟩ := r2
   rw [e1, e2]
   refine wpAny_bind ?_
   show wpAny _ _ (compareOp .Lt (.int xs[i] t1) (.int ys[i] t2)) _ _ _
   refine lt_int (wpAny_pure ⟨?_, rfl⟩)
   conv => rhs; unfold ltL
   rw [if_neg e]
theorem lt_one {Q : Bool → Shared → Prop} (hA : Rm n A) (hn : n < 500) (hl : s.heap.IsList x vs.toArray) (hl' : s.heap.IsList y us.toArray) (p : Paired (intR s.heap) vs xs) (p' : Paired (intR s.heap) us ys) (hz : vs.length = us.length) (h : Q (ltL xs ys) s) :
  wpAny (model P0 w) A (oneLt' true (.ref x) (.ref y)) Q E s := by
 rw [oneLt'_eq]
 simp only [if_true]
 have hu := hA.2.2
 refine wpAny_bind (wpAny_cRoomFor (Nat.lt_of_le_of_lt hA.2.2 (by unfold cLine; omega)) ?_)
 have g : MeetsIn P0 w (Builtin.«list.__lt__» ⟨[.ref x, .ref y], []⟩) (fun A' R s' => Rm n A' ∧ s' = s ∧ R (.ok (.ret (.bool (ltL xs ys)))) s) := by
  intro A' R s' ⟨hA', es, hR⟩
  subst es
  have hu' := hA'.2.2
  show wpAny _ _ (do
   if !(← isInstance (.ref y) (.type "list")) then return ← ret .notImplemented
   again (.builtin "list.__eq__.loop" ⟨[.ref x, .ref y, rawInt 0, rawInt 0], []⟩)) _ _ _
  refine wpAny_bind (wpAny_isInstance (T := "list") (b := true) hl'.typeIs (by rw [isSubtype_type]; kernel_rfl) ?_)
  refine iff_ rfl ?_
  refine wpAny_pure ⟨plainId_quiet jco _, codeAny_mono (lt_loop (A := A') (by unfold cLine; exact lqn ‹_› ‹_› (by rfl)) hl hl' p p' hz vs.length 0 (Nat.sub_zero _) (Nat.zero_le _)) fun r s'' hx0 => ?_⟩
  obtain ⟨er, es⟩ := hx0
  subst er es
  exact hR
 refine wpAny_bind (wpAny_callSpecialIfBound?_slot hl.typeIs F.slot_list_lt (call_meetsIn F.slot_list_lt hl.typeIs F.entry_list_lt (F.args_list_lt_2 _ _) g ⟨hA, rfl, ?_⟩))
 exact wpAny_truthy_bool h
end
end Mine
namespace Mine
open PySem PySem.W PySem.W.X PyProof.Rows PySem.Calls Builtin
section
variable {w : World} {B : Heap} {A : Around} {s s' : Shared} {a b c d e l x y : Addr} {E : Value → Shared → Prop} {W U : List Addr} {vs us : List Value} {xs : List (List Int)} {n m : Nat}
theorem pw_lt2 {α : Type} {R : α → α → Prop} {l : List α} (h : l.length < 2) : l.Pairwise R := by
 rcases l with _ | ⟨x, _ | ⟨y, l⟩⟩
 ·exact .nil
 ·exact List.pairwise_singleton ..
 ·exact absurd (Nat.le_of_succ_le_succ (Nat.le_of_succ_le_succ h)) (Nat.not_succ_le_zero _)
theorem slt_of (hnd : xs.Nodup) (h4 : ∀ z ∈ xs, z.length = m) : SLt xs.length fun i j => ltL (xs.getD i []) (xs.getD j []) := by
 have g : ∀ {i}, i < xs.length → xs.getD i [] ∈ xs := fun {i} hi => by
  rw [List.getD_eq_getElem?_getD, List.getElem?_eq_getElem hi]; exact List.getElem_mem _
 have pr := List.pairwise_iff_getElem.mp hnd
 refine ⟨fun a b c Y Y Y h h' => ltL_tr h h', fun a b Y Y h => ltL_as h, fun a b ha hb hab h => ltL_to ((h4 _ (g ha)).trans (h4 _ (g hb)).symm) ?_ h⟩
 have e1 : xs.getD a [] = xs[a] := by rw [List.getD_eq_getElem?_getD, List.getElem?_eq_getElem ha]; rfl
 have e2 : xs.getD b [] = xs[b] := by rw [List.getD_eq_getElem?_getD, List.getElem?_eq_getElem hb]; rfl
 rw [e1, e2]
 rcases Nat.lt_or_gt_of_ne hab with q | q
 ·exact pr a b ha hb q
 ·exact (pr b a hb ha q).symm
theorem perm_getD {α : Type} {zs : List α} {dflt : α} {p : List Nat} (h : p.Perm (List.range zs.length)) : (p.map fun i => zs.getD i dflt).Perm zs := by
 have h1 := h.map fun i => zs.getD i dflt
 have h2 : (List.range zs.length).map (fun i => zs.getD i dflt) = zs := by
  have := ja5 zs (_root_.id) dflt
  simpa using this
 rwa [h2] at h1
theorem sort_lists {Q : Value → Shared → Prop} (G : Good w B s) (hA : Rm n A) (hn : n < 400) (hB : B.get? l = none) (ho : s.heap.get? l = some (seqObj "list" vs.toArray 0)) (hp : Paired (liW [l] intR s.heap) vs xs) (hnd : xs.Nodup) (h4 : ∀ z ∈ xs, z.length = m) (h64 : vs.length < 64)
  (hq : ∀ s' vs' xs', PL s'.heap l vs' → Paired (liW [l] intR s'.heap) vs' xs' → xs'.Perm xs → xs'.Pairwise (fun x y => ltL x y = true) → Kp [l] s s' → Q .none s') : wpAny (model P0 w) A (call (.builtin "list.sort") [.ref l]) Q E s := by
 refine wpAny_call_entry slot_list_sort ⟨_, ho, rfl⟩ entry_list_sort ?_ (args_list_sort _)
 rw [list_sort_plain]
 have hlen := jaa hp
 have n2 := jaP G hB
 refine wpAny_bind (listItems_at ho rfl ?_)
 refine wpAny_bind (listUpdate_at ho rfl ?_ (by rw [List.size_toArray, sizeLine_eq]; exact lq6 ‹_› (by rfl)) (Nat.zero_le _))
 have e1 := get?_update_seq ho (fun Y => #[])
 generalize hep : (if (((fun Y => #[]) : Array Value → Array Value) vs.toArray).size == vs.toArray.size then 0 else 0 + 1) = ep1 at e1
 refine wpAny_bind (seqEpoch_at e1 rfl ?_)
 refine wpAny_bind (wpAny_newTuple ?_ (by show vs.length ≤ _; rw [sizeLine_eq]; exact lq6 ‹_› (by rfl)))
 refine wpAny_bind (wpAny_newList ?_ (Nat.zero_le _))
 refine wpAny_holding ?_
 have k1 := jaz (s := s) (h' := s.heap.update l (Obj.mapSeq fun Y => #[])) (Heap.SameBut.update ..) n2 ⟨_, e1⟩ (Nat.le_refl s.toks)
 have G1 := G.kp k1 (al1 hB)
 have k2 := jar G1 (o := seqObj "tuple" vs.toArray 0)
 have G2 := G1.kp k2 al0
 have k3 := jar G2 (o := seqObj "list" #[] 0)
 have e3 : ({ s with heap := ((s.heap.update l (Obj.mapSeq fun Y => #[])).push (seqObj "tuple" vs.toArray 0)).push (seqObj "list" #[] 0) } : Shared).heap.get? l = some (seqObj "list" #[] ep1) := Heap.get?_push_of_some (seqObj "list" #[] 0) (Heap.get?_push_of_some (seqObj "tuple" vs.toArray 0) e1)
 have G3 := G2.kp k3 al0
 have K3 := ((k1.trans k2).trans k3).mono (S' := [l]) sm0
 show wpAny (model P0 w) A.in1 _ _ E { s with heap := ((s.heap.update l (Obj.mapSeq fun Y => #[])).push (seqObj "tuple" vs.toArray 0)).push (seqObj "list" #[] 0) }
 clear k1 k2 k3 G1 G2
 generalize ({ s with heap := ((s.heap.update l (Obj.mapSeq fun Y => #[])).push (seqObj "tuple" vs.toArray 0)).push (seqObj "list" #[] 0) } : Shared) = s3 at *
 have hp3 := jab (fun v x h => jan h K3 (ja9 (W := [l]) sm0)) hp
 have fin : ∀ (st : SortSt) (p : List Nat), p.Perm (List.range xs.length) → (p.map fun i => xs.getD i []).Pairwise (fun x y => ltL x y = true) → (arrOf st).map (·.2) = (p.map fun i => vs.getD i .none).toArray → failedOf st = none →
   wpAny (model P0 w) A.in1 (do
    let sorted := (arrOf st).map (·.2)
    let touched := (← seqEpoch l) != ep1
    Builtin.List.listUpdate (.ref l) fun Y => sorted
    if let some e := failedOf st then rule "list.sort.comparison-raised"; throw e
    if touched then rule "list.sort.modified"; raiseError "ValueError" "list modified during sort"
    ret .none) (fun fin s' => ∃ v, fin = .done (.ret v) ∧ Q v s') E s3 := by
  intro st p pp ps pa pf
  dsimp only
  refine wpAny_bind (seqEpoch_at e3 rfl ?_)
  have hs : ((arrOf st).map (·.2)).size = vs.length := by
   rw [pa, List.size_toArray, List.length_map, pp.length_eq, List.length_range, hlen]
  refine wpAny_bind (listUpdate_at e3 rfl ?_ (Nat.zero_le _) (by rw [hs, sizeLine_eq]; exact lq6 ‹_› (by rfl)))
  rw [pf]
  simp only [bne_self_eq_false, Bool.false_eq_true, if_false]
  refine wpAny_pure ⟨_, rfl, ?_⟩
  have e4 := get?_update_seq e3 (fun Y => (arrOf st).map (·.2))
  have k4 := jaz (s := s3) (h' := s3.heap.update l (Obj.mapSeq fun Y => (arrOf st).map (·.2))) (Heap.SameBut.update ..) n2 ⟨_, e4⟩ (Nat.le_refl _)
  have hpl : PL (s3.heap.update l (Obj.mapSeq fun Y => (arrOf st).map (·.2))) l (p.map fun i => vs.getD i .none) := by
   unfold PL IsL
   rw [← pa]
   exact ⟨_, e4⟩
  refine hq _ _ (p.map fun i => xs.getD i []) hpl ?_ (perm_getD pp) ps ((K3.trans k4).mono ap2)
  have hmem : ∀ i ∈ p, i < xs.length := fun i hi => by simpa using pp.mem_iff.mp hi
  clear pp ps pa hs e4 hpl
  induction p with
  | nil => exact .nil
  | cons i p ih =>
   refine .cons ?_ (ih fun j hj => hmem j (List.mem_cons_of_mem _ hj))
   have hi := hmem i (List.mem_cons_self ..)
   have := ja3 hp3 i (lqm ‹_› ‹_›) hi
   have a1 : vs.getD i .none = vs[i] := by rw [List.getD_eq_getElem?_getD, List.getElem?_eq_getElem (lqm ‹_› ‹_›)]; rfl
   have a2 : xs.getD i [] = xs[i] := by rw [List.getD_eq_getElem?_getD, List.getElem?_eq_getElem hi]; rfl
   dsimp only
   rw [a1, a2]
   exact jan this k4 (ja9 (W := [l]) sm0)
 dsimp only
 by_cases h2 : vs.toArray.size < 2
 ·rw [if_pos h2, if_pos h2]
  refine wpAny_bind (wpAny_pure ?_)
  rw [StateT.run_pure]
  refine wpAny_bind (wpAny_pure ?_)
  have h2' : vs.length < 2 := by simpa using h2
  refine fin (SortSt.mk' general' (vs.toArray.zip vs.toArray) #[] 7 none) (List.range xs.length) (.refl _) ?_ ?_ rfl
  ·have := ja5 xs (_root_.id) []
   simp only [_root_.id] at this
   rw [this]
   exact pw_lt2 (by rw [List.length_map, ← hlen]; exact h2')
  ·have := ja5 vs (_root_.id) .none
   simp only [_root_.id] at this
   rw [← hlen, this, List.map_id]
   show (PyProof.Rows.pairsOf vs).map (·.2) = vs.toArray
   refine Array.ext (by simp [pairsOf_size]) fun i h1 h2 => ?_
   simp [PyProof.Rows.pairsOf]
 ·rw [if_neg h2, if_neg h2]
  have h2' : 2 ≤ vs.length := by simpa using h2
  refine wpAny_bind (kas_kind (T := .type "list") h2' (fun v hv => ?_) (by decide) (by decide) ?_)
  ·obtain ⟨i, hi⟩ := List.mem_iff_getElem?.mp hv
   obtain ⟨z, _, lz, zv, rfl, _, ⟨ep, hz⟩, _⟩ := ja4 hp3 hi
   exact (Looks.ld (part := some headPart) hz).andThen .now
  have est : SortSt.mk' oneType' (vs.toArray.zip vs.toArray) #[] 7 none = kas_st oneType' (PyProof.Rows.pairsOf vs) (List.toArray (List.range vs.length)) := by
   have e := kas_range (PyProof.Rows.pairsOf vs)
   rw [pairsOf_size] at e
   show SortSt.mk' oneType' (PyProof.Rows.pairsOf vs) #[] 7 none = SortSt.mk' oneType' ((List.toArray (List.range vs.length)).map (kas_item (PyProof.Rows.pairsOf vs))) #[] 7 none
   rw [e]
  have ask : (kas_sort vs.length).kasWp (kas_cmp P0 w A.in1 oneType' (PyProof.Rows.pairsOf vs)) (fun q s' => (POk vs.length q ∧ Asc (fun i j => ltL (xs.getD i []) (xs.getD j [])) q vs.length) ∧ s' = s3) s3 := by
   refine pw_wp (lt := fun i j => ltL (xs.getD i []) (xs.getD j [])) (n := vs.length) (fun i j C hi hj hC => ?_) _ (jbg (fun q hq => ⟨hq, rfl⟩) _ (pw_sort (by rw [hlen]; exact slt_of hnd h4) h2'))
   unfold kas_cmp
   rw [kas_item_eq, kas_item_eq]
   have a1 : ∀ {i : Nat} (hi : i < vs.length), vs.getD i .none = vs[i] := fun {i} hi => by rw [List.getD_eq_getElem?_getD, List.getElem?_eq_getElem hi]; rfl
   have a2 : ∀ {i : Nat} (hi : i < xs.length), xs.getD i [] = xs[i] := fun {i} hi => by rw [List.getD_eq_getElem?_getD, List.getElem?_eq_getElem hi]; rfl
   dsimp only
   rw [a1 hi, a1 hj]
   rw [a2 (by omega : i < xs.length), a2 (by omega : j < xs.length)] at hC
   obtain ⟨l1, v1, q1, _, p1, r1⟩ := ja3 hp3 i hi (lql ‹_› ‹_›)
   obtain ⟨l2, v2, q2, _, p2, r2⟩ := ja3 hp3 j hj (lql ‹_› ‹_›)
   rw [q1, q2, keyLt'_oneType]
   exact lt_one hA.in1 (lq2 hn rfl) p1.list p2.list r1 r2 (by rw [jaa r1, jaa r2, h4 _ (List.getElem_mem _), h4 _ (List.getElem_mem _)]) hC
  have run := kas_runs (E := E) (Q := fun Y st' s' => (∃ p : Array Nat, p.size = vs.length ∧ arrOf st' = p.map (kas_item (PyProof.Rows.pairsOf vs)) ∧ failedOf st' = none ∧ (POk vs.length p ∧ Asc (fun i j => ltL (xs.getD i []) (xs.getD j [])) p vs.length)) ∧ s' = s3)
   h2' h64 (fun p' st' s' a1 a2 a3 a4 => ⟨⟨p', a1, a2, a3, a4.1⟩, a4.2⟩) ask
  rw [← est] at run
  refine wpAny_bind (wpAny_mono run ?_ fun Y Y e => e)
  rintro ⟨⟨⟩, st'⟩ s' ⟨⟨p, hps, har, hf, hpo, hasc⟩, rfl⟩
  refine fin st' p.toList (by rw [← hlen]; exact hpo.pm) ?_ ?_ hf
  ·rw [List.pairwise_map]
   refine List.pairwise_iff_getElem.mpr fun i j hi hj hij => ?_
   have hi' : i < p.size := by simpa using hi
   have hj' : j < p.size := by simpa using hj
   have := hasc i j hij (lql ‹_› ‹_›)
   have g1 : p.getD i 0 = p.toList[i] := by simp [Array.getD, hi']
   have g2 : p.getD j 0 = p.toList[j] := by simp [Array.getD, hj']
   rw [g1, g2] at this
   exact this
  ·rw [har]
   apply Array.toList_inj.mp
   rw [Array.map_map, Array.toList_map]
   exact List.map_congr_left fun i Y => by show (kas_item (PyProof.Rows.pairsOf vs) i).2 = _; rw [kas_item_eq]
theorem sorted_lists (G : Good w B s) (hA : Rm n A) (hn : n < 390) (hl : PL s.heap l vs) (hp : Paired (jbw intR s.heap) vs xs) (hnd : xs.Nodup) (h4 : ∀ z ∈ xs, z.length = m) (h64 : vs.length < 64) :
  Wp w A (call (.builtin "sorted") [.ref l]) (fun v s' => ∃ D vs' xs', v = .ref D ∧ s.heap.get? D = none ∧ PL s'.heap D vs' ∧ Paired (jbw intR s'.heap) vs' xs' ∧ xs'.Perm xs ∧ xs'.Pairwise (fun x y => ltL x y = true) ∧ Kp [] s s') s := by
 refine lW ?_
 intro Ro
 refine Calls.call_function_entry kind_sorted plain_sorted entry_sorted (args_sorted1 _) ?_
 unfold Builtin.«sorted»
 refine wpAny_bind (m := checkCount "sorted" 1 1 _) (wpAny_pure ?_)
 refine wpAny_bind (collect_list hl.list ?_ (by rw [sizeLine_eq]; exact lq6 ‹_› (by rfl)))
 have f1 : s.heap.get? s.heap.objs.size = none := jag
 have kp1 : Kp [] s { s with heap := s.heap.push (seqObj "list" #[] 0) } := jar G
 have G1 := G.kp kp1 al0
 have hB1 := G.new f1
 have o1 : (s.heap.push (seqObj "list" #[] 0)).get? s.heap.objs.size = some (seqObj "list" #[] 0) := Heap.get?_push_size _ rfl
 have o2 := get?_update_seq o1 (· ++ vs.toArray)
 have kp2 := jaz (s := { s with heap := s.heap.push (seqObj "list" #[] 0) }) (h' := (s.heap.push (seqObj "list" #[] 0)).update s.heap.objs.size (Obj.mapSeq (· ++ vs.toArray))) (Heap.SameBut.update ..) (jaP G hB1) ⟨_, o2⟩ (Nat.le_refl s.toks)
 have K2 : Kp [] s { s with heap := (s.heap.push (seqObj "list" #[] 0)).update s.heap.objs.size (Obj.mapSeq (· ++ vs.toArray)) } := kp1.comp0 G kp2 (al1 f1)
 clear kp1 G1 o1 o2 kp2
 generalize ({ s with heap := (s.heap.push (seqObj "list" #[] 0)).update s.heap.objs.size (Obj.mapSeq (· ++ vs.toArray)) } : Shared) = s2 at *
 have G2 := G.kp K2 al0
 have hp2 : Paired (jbw intR s2.heap) vs xs := jah (fun v x hx0 => by obtain ⟨l, vs, e, hl, p⟩ := hx0; exact ⟨l, vs, e, jaj hl K2 ni0, p⟩) hp
 refine wpAny_bind (wpAny_newList ?_ (by rw [sizeLine_eq]; exact lq6 ‹_› (by rfl)))
 have fD : s2.heap.get? s2.heap.objs.size = none := jag
 have kD : Kp [] s2 { s2 with heap := s2.heap.push { cls := .type "list", data := .seq vs.toArray } } := jar G2
 have hS' : ({ s2 with heap := s2.heap.push { cls := .type "list", data := .seq vs.toArray } } : Shared).heap.get? s2.heap.objs.size = some (seqObj "list" vs.toArray 0) := Heap.get?_push_size _ rfl
 have hp3 : Paired (liW [s2.heap.objs.size] intR ({ s2 with heap := s2.heap.push { cls := .type "list", data := .seq vs.toArray } } : Shared).heap) vs xs := jah (fun v x hx0 => by obtain ⟨l, vs, e, hl, p⟩ := hx0; exact ⟨l, vs, e, (fun q => by
   obtain ⟨ep, hl⟩ := hl
   rw [List.mem_singleton.mp q, IsL, fD] at hl; cases hl), jaj hl kD ni0, p⟩) hp2
 refine wpAny_bind (wpAny_holding (sort_lists (G2.kp kD al0) hA.in1 (lq2 hn rfl) (G2.new fD) hS' hp3 hnd h4 h64 fun s4 vs' xs' h1 h2 h3 h4 k4 => ?_))
 exact wpAny_pure ⟨_, rfl, _, vs', xs', rfl, K2.back fD, h1, jah (fun v x h => h.list) h2, h3, h4, (K2.comp0 G kD al0).comp0 G k4 (by simpa using K2.back fD)⟩
end
noncomputable def vecV (V : VL) : List Int := (List.range 4).map fun (j : Nat) => lk0 V j
theorem vecL_vals (L : List En) : vecL L = vecV (vals L) := by
 unfold vecL vecV
 exact List.map_congr_left fun j Y => jaG L j
noncomputable def LawPure : Prop := ∀ rows, RowOk rows → rows.length = 3 → ((lwAll rows).map vecV).Nodup ∧ (lwAll rows).length ≤ 18 ∧ ∀ cs, cs.length = 4 → (∀ i, i < 4 → CntP rows i (cs.getD i [])) → ((lwAll rows).map vecV).Perm (dueOf rows cs)
theorem dueOf_len {rows cs : List (List Int)} (h : cs.length = 4) : ∀ z ∈ dueOf rows cs, z.length = 4 := fun z hz => by
 have := prod_mem cs [] z (List.mem_filter.mp hz).1
 rw [this, h]; rfl
section
variable {w : World} {B : Heap} {A : Around} {s s' : Shared} {a b c d e l x y rwl fl : Addr} {env : Env} {E : Value → Shared → Prop} {W U : List Addr} {sX : Shared} {rvs : List Value} {rows xs : List (List Int)} {Ls : List (List En)} {n m : Nat}
theorem law_last {n : Nat} (hPure : LawPure) (H : LwE B env W sX) (X : LI w B env W rwl fl rvs rows sX s Ls) (hA : Rm n A) (hn : n < 180) (hLs : Ls.map vals = lwAll rows) (hr : rows.length = 3) (hok : RowOk rows) (hzz : Ls.length ≤ 500) :
  Wp w A (exec lwB[5]! env) (fun f s' => f = .ret (.bool true) ∧ Kp [] s s') s := by
 try (refine lW ?_; intro Ro)
 have S := H.sta
 refine aG ?_; intro gO; obtain ⟨fvs, hf, hp⟩ := X.ff; unfold gO; clear gO
 have hr4 : ∀ r ∈ rows, r.length = 4 := fun r h => (hok r h).1
 have hLl : Ls.length = (lwAll rows).length := by rw [← hLs, List.length_map]
 refine wpAny_Return_some (wpAny_Compare1 (jap (jal (.builtin "sorted") X.g S.ok (ja8 (jad ?_)))))
 have hz : Ls.length ≤ 500 := hzz
 refine (vec_outer (U := W) (n := n) S (compT (by kernel_rfl) (by kernel_rfl) (fun Y => by kernel_rfl) (fun Y => by kernel_rfl) (by kernel_rfl) (by kernel_rfl)) hA (lq0 hn rfl) (jbh (frees := []) (fun Y => 0) (by kernel_rfl) (by simp) rfl) X.g
  (fun N => compT (by kernel_rfl) (by kernel_rfl) (fun Y => by kernel_rfl) (fun Y => by kernel_rfl) (by kernel_rfl) (by kernel_rfl)) (by kernel_rfl) (by kernel_rfl) (by kernel_rfl) X.al X.bf hf hp hz).useE2 fun D1 v1 s1 hx0 => ?_
 refine aG ?_; intro gO; obtain ⟨f1, h1, p1, k1⟩ := hx0; unfold gO; clear gO
 have X1 := X.ex H k1
 have hmap : Ls.map vecL = (lwAll rows).map vecV := by
  rw [← hLs, List.map_map]
  exact List.map_congr_left fun L Y => vecL_vals L
 refine aG ?_; intro gO; obtain ⟨q1, q2, qP⟩ := hPure rows hok hr; unfold gO; clear gO
 have hnl : (Ls.map vecL).Nodup := by rw [hmap]; exact q1
 have hl1 : v1.length < 64 := by rw [jaa p1, List.length_map]; omega
 have four : ∀ z ∈ Ls.map vecL, z.length = 4 := fun z hz => by obtain ⟨L, _, rfl⟩ := List.mem_map.mp hz; simp [vecL]
 refine jao ((sorted_lists X1.g hA (lq0 hn rfl) h1 (jah (fun v x h => h.list) p1) hnl four hl1).useE3 fun D2 v2 y2 s2 hx0 => ?_)
 refine aG ?_; intro gO; obtain ⟨f2, h2, p2, pm2, so2, k2⟩ := hx0; unfold gO; clear gO
 have X2 := X1.ex H k2
 refine jap (jal (.builtin "sorted") X2.g S.ok (ja8 (jad ?_)))
 have ho : (KH w.params).lookup 1109 = some ((KH w.params).lookup 1109).get! := by
  have : ((KH w.params).lookup 1109).isSome = true := by kernel_rfl
  obtain ⟨o, e⟩ := Option.isSome_iff_exists.mp this
  rw [e]; rfl
 refine jap (jal (.ref 1109) X2.g S.ok ?_)
 refine callWith_def (o := ((KH w.params).lookup 1109).get!) (fd := fdAt (KH w.params) 1109) (by kernel_rfl) ?_
 refine jad (jaf S X2.br (jao ⟨X2.g.k _ _ ho, ?_⟩))
 refine wpAny_call (coE3 (due_call X2.g hA (lq0 hn rfl) X2.al X2.rp X2.rr (lq9 ‹_› (by rfl)) hr4) fun dl dvs cs s3 hx0 => ?_)
 refine aG ?_; intro gO; obtain ⟨fd, hd, l4, hcs, pd, k3⟩ := hx0; unfold gO; clear gO
 have q3 := qP cs l4 hcs
 have G3 := X2.g.kp k3 al0
 have hnd : (dueOf rows cs).Nodup := q3.nodup_iff.mp q1
 have hl3 : dvs.length < 64 := by rw [jaa pd, ← q3.length_eq, List.length_map]; omega
 refine jao ((sorted_lists G3 hA (lq0 hn rfl) hd (jah (fun v x h => h.list) pd) hnd (dueOf_len l4) hl3).useE3 fun D4 v4 y4 s4 hx0 => ?_)
 refine aG ?_; intro gO; obtain ⟨f4, h4, p4, pm4, so4, k4⟩ := hx0; unfold gO; clear gO
 have K34 : Kp [] s2 s4 := (k3.trans k4).mono al0
 have h2' := jaj h2 K34 ni0
 have p2' : Paired (jbw intR s4.heap) v2 y2 := jah (fun v x hx0 => by obtain ⟨l, vs, e, hl, p⟩ := hx0; exact ⟨l, vs, e, jaj hl K34 ni0, p⟩) p2
 have heq : y2 = y4 := sorted_uniq (pm2.trans ((by rw [hmap]; exact q3 : (Ls.map vecL).Perm (dueOf rows cs)).trans pm4.symm)) so2 so4
 refine PySem.EqBoolInt.of_rc (rc_list (n := 1) (R := jbw intR) (eqOk_list jbi jbq) (by have := hA.2.2; unfold cLine; omega) ⟨D2, v2, rfl, h2', p2'⟩ ⟨D4, v4, rfl, h4, p4⟩) ?_
 rw [heq]
 exact ⟨by simp, ((k1.trans k2).trans K34).mono al0⟩
end
section
variable {w : World} {B : Heap} {A : Around} {s s' : Shared} {sl : Addr} {svs : List Value}
theorem law_call {n : Nat} (hPure : LawPure) (G : Good w B s) (hA : Rm n A) (hn : n < 170) (ps : PL s.heap sl svs) (hI : ∀ v ∈ svs, ∃ n t, v = .int n t) (hlen : svs.length ≤ 100) :
  codeAny (model P0 w) A (.call (.ref 1114) ⟨[.ref sl], []⟩) (fun r s' => r = .ok (.ret (.bool true)) ∧ Kp [] s s') s := by
 refine jcm G hA (lq0 hn rfl) (fn_law _) (sc_law _) (binds := [("script", .ref sl)]) (by kernel_rfl) (fun N => by kernel_rfl) fun env A' s1 X R1 => ?_
 have G1 := G.kp X.kp al0
 have S := X.sta
 have own := X.own
 have ownB : ∀ a ∈ Own env, B.get? a = none := fun a ha => G.new (own a ha)
 have hcells : env.cells = lwC env.locals := X.cells.trans (by kernel_rfl)
 have e1 : lwB = [lwB[0]!, lwB[1]!, lwB[2]!, lwB[3]!, lwB[4]!, lwB[5]!] := by kernel_rfl
 have b1 : Bnd env "script" (.ref sl) s1 := X.bndC (by kernel_rfl) (fun Y => Option.isSome_iff_exists.mp (by kernel_rfl)) (by kernel_rfl)
 have set : ∀ x ∈ lwN, jaB env x := by
  intro x hx
  simp only [lwN, List.mem_cons, List.not_mem_nil, or_false] at hx
  rcases hx with rfl | rfl | rfl | rfl | rfl | rfl | rfl | rfl | rfl | rfl | rfl | rfl | rfl
  ·exact X.setL (by kernel_rfl) (fun Y => by kernel_rfl)
  ·exact X.setC (by kernel_rfl) (fun Y => Option.isSome_iff_exists.mp (by kernel_rfl))
  ·exact X.setL (by kernel_rfl) (fun Y => by kernel_rfl)
  ·exact X.setC (by kernel_rfl) (fun Y => Option.isSome_iff_exists.mp (by kernel_rfl))
  ·exact X.setL (by kernel_rfl) (fun Y => by kernel_rfl)
  ·exact X.setL (by kernel_rfl) (fun Y => by kernel_rfl)
  ·exact X.setC (by kernel_rfl) (fun Y => Option.isSome_iff_exists.mp (by kernel_rfl))
  ·exact X.setC (by kernel_rfl) (fun Y => Option.isSome_iff_exists.mp (by kernel_rfl))
  ·exact X.setL (by kernel_rfl) (fun Y => by kernel_rfl)
  ·exact X.setC (by kernel_rfl) (fun Y => Option.isSome_iff_exists.mp (by kernel_rfl))
  ·exact X.setC (by kernel_rfl) (fun Y => Option.isSome_iff_exists.mp (by kernel_rfl))
  ·exact X.setL (by kernel_rfl) (fun Y => by kernel_rfl)
  ·exact X.setL (by kernel_rfl) (fun Y => by kernel_rfl)
 show wpAny _ _ (execs lwB env) _ _ _
 rw [e1]
 have aO1 := X.alive (ks := ["meet", "join", "other", "here", "row", "one", "script"]) (fun Y => by kernel_rfl) (by decide +kernel)
 have asl : ∃ o, s.heap.get? sl = some o := by obtain ⟨ep, e⟩ := ps; exact ⟨_, e⟩
 refine wpAny_execs_cons (wpAny_Assign_Name (jaU (B := B) (jao ⟨G1, by simp, fun rwl s2 f2 hD k2 => ?_⟩)))
 have G2 := G1.kp k2 al0
 refine jaY G2 S (ja0 X.frm k2 (by simp)) ownB (fun s3 br3 F3 hk3 k3 g3 G3 => ?_) (set ("rows" : Str) (by simp [lwN]))
 have K12 : Kp [] s s2 := (X.kp.trans k2).mono al0
 have frw : s.heap.get? rwl = none := X.kp.back f2
 have nro : rwl ∉ Own env := fun q => by obtain ⟨o, e⟩ := aO1 rwl q; rw [f2] at e; cases e
 have K13 : Kp [] s s3 := K12.comp0 G k3 (by simpa using own _ jac)
 have aO : ∀ a ∈ Own env, ∃ o, s3.heap.get? a = some o := fun a ha => by
  obtain ⟨o, e⟩ := aO1 a ha
  obtain ⟨o, e⟩ := k2.there _ _ e
  exact k3.there _ _ e
 have hD3 : PL s3.heap rwl [] := jaj hD k3 (by simpa using fun q : rwl = jai env "rows" => nro (q ▸ jac))
 have fW : ∀ a ∈ rwl :: Own env, s.heap.get? a = none := fun a ha => by
  rcases List.mem_cons.mp ha with rfl | ha
  ·exact frw
  ·exact own a ha
 have nsl : ∀ {W : List Addr}, (∀ a ∈ W, s.heap.get? a = none) → sl ∉ W := fun h q => by obtain ⟨o, e⟩ := asl; rw [h _ q] at e; cases e
 have H1 : LwE B env (rwl :: Own env) s3 :=
  { sta := S, cells := hcells, own := fun a ha => List.mem_cons_of_mem _ ha, bw := fun a ha => G.new (fW a ha), bx := fun a o e => by obtain ⟨o', e'⟩ := G.old.there _ _ e; exact K13.there _ _ e'
    tw := by obtain ⟨o, e⟩ := G.two; exact K13.there _ _ e
    set := set }
 have X3 : L1 w B env (rwl :: Own env) sl rwl svs s3 s3 0 :=
  { g := G3, f := F3, kp := (Kp.refl _).mono al0, bs := hk3 _ _ (by decide +kernel) (jae b1 k2), ps := jaj ps K13 ni0, br := br3
    pr := ⟨[], [], hD3, .nil, rfl, by intro r hr; simp at hr⟩
    al := fun a ha => by
      rcases List.mem_cons.mp ha with rfl | ha
      · obtain ⟨ep, e⟩ := hD3; exact ⟨_, e⟩
      · exact aO a ha }
 refine wpAny_execs_cons ((law_rows H1 X3 R1 (lq2 hn rfl) (List.mem_cons_self ..) nro (nsl fW) hI hlen).use fun f s4 hx0 => ?_)
 obtain ⟨ef, X4⟩ := hx0
 subst ef
 obtain ⟨rvs, rows, hr4, pr4, lr, hok⟩ := X4.pr
 have K14 : Kp [] s s4 := K13.comp0 G X4.kp fW
 refine wpAny_execs_cons (wpAny_Assign_Name (jaU (B := B) (jao ⟨X4.g, by simp, fun fl s5 f5 hF k5 => ?_⟩)))
 have G5 := X4.g.kp k5 al0
 refine jaY G5 S (ja0 X4.f k5 (by simp)) ownB (fun s6 bf6 F6 hk6 k6 g6 G6 => ?_) (set ("found" : Str) (by simp [lwN]))
 have ffl : s.heap.get? fl = none := K14.back f5
 have nfo : fl ∉ Own env := fun q => by obtain ⟨o, e⟩ := X4.al fl (List.mem_cons_of_mem _ q); rw [f5] at e; cases e
 have nrf : rwl ≠ fl := fun q => by obtain ⟨o, e⟩ := X4.al rwl (List.mem_cons_self ..); rw [q, f5] at e; cases e
 have K46 : Kp [jai env "found"] s4 s6 := (k5.trans k6).mono sm0
 have K16 : Kp [] s s6 := K14.comp0 G K46 (fun a ha => by cases List.mem_singleton.mp ha; exact own _ jac)
 have hF6 : PL s6.heap fl [] := jaj hF k6 (by simpa using fun q : fl = jai env "found" => nfo (q ▸ jac))
 have fW2 : ∀ a ∈ fl :: Own env, s.heap.get? a = none := fun a ha => by
  rcases List.mem_cons.mp ha with rfl | ha
  ·exact ffl
  ·exact own a ha
 have H2 : LwE B env (fl :: Own env) s6 :=
  { sta := S, cells := hcells, own := fun a ha => List.mem_cons_of_mem _ ha, bw := fun a ha => G.new (fW2 a ha), bx := fun a o e => by obtain ⟨o', e'⟩ := G.old.there _ _ e; exact K16.there _ _ e'
    tw := by obtain ⟨o, e⟩ := G.two; exact K16.there _ _ e
    set := set }
 have lift : ∀ v xs, liW (rwl :: Own env) intR s4.heap v xs → liW (fl :: Own env) intR s6.heap v xs := fun v xs h =>
  jan (liW_up (W := [fl]) (liW_down (V := Own env) h fun a ha => List.mem_cons_of_mem _ ha) (al1 f5)) K46 (ja9 fun a ha => by cases List.mem_singleton.mp ha; exact List.mem_cons_of_mem _ jac)
 have X6 : LI w B env (fl :: Own env) rwl fl rvs rows s6 s6 [] :=
  { g := G6, f := F6, kp := (Kp.refl _).mono al0, br := hk6 _ _ (by decide +kernel) (jae X4.br k5), bf := bf6
    rp := jaj hr4 K46 (fun m => nro (by cases List.mem_singleton.mp m; exact jac))
    rr := jah lift pr4
    ff := ⟨[], hF6, .nil⟩
    al := fun a ha => by
      rcases List.mem_cons.mp ha with rfl | ha
      · obtain ⟨ep, e⟩ := hF6; exact ⟨_, e⟩
      · obtain ⟨o, e⟩ := aO a ha
        obtain ⟨o, e⟩ := X4.kp.there _ _ e
        exact K46.there _ _ e }
 have nrw : rwl ∉ fl :: Own env := fun q => by
  rcases List.mem_cons.mp q with q | q
  ·exact nrf q
  ·exact nro q
 have fm : fl ∈ fl :: Own env := List.mem_cons_self ..
 refine wpAny_execs_cons ((law_found H2 X6 R1 (lq2 hn rfl) fm nfo nro nrw (lq9 ‹_› (by rfl)) hok).use fun f s7 hx0 => ?_)
 obtain ⟨ef, Ls, X7, e7⟩ := hx0
 subst ef
 refine wpAny_execs_cons ((lw_places H2 X7 R1 (lq2 hn rfl) e7 (lq9 ‹_› (by rfl)) hok fm nfo nro nrf).use fun f s8 hx0 => ?_)
 obtain ⟨ef, Ls', X8, e8⟩ := hx0
 subst ef
 have H8 := H2.at X8.kp
 have hzz : Ls'.length ≤ 500 := by
  have h0 := congrArg List.length e8
  have h1 : (lwAll rows).length ≤ (jbm rows).length + 18 * (18 + 1) := lwAll_len (jbm rows) 18
  have h2 := lwInit_len rows rows.length
  rw [List.take_length] at h2
  have h4 : (jbm rows).length ≤ rows.length := h2
  rw [List.length_map] at h0
  omega
 refine wpAny_execs_cons ((law_last hPure H8 X8.base R1 (lq2 hn rfl) e8 lr hok hzz).use fun f s9 hx0 => ?_)
 obtain ⟨ef, k9⟩ := hx0
 subst ef
 exact ⟨rfl, (K16.comp0 G X8.kp fW2).comp0 G k9 al0⟩
end
end Mine
namespace Mine
section
variable {α : Type} [DecidableEq α] {news : α → α → List α} {e : Nat}
noncomputable def gStep (news : α → α → List α) (h : α) (f : List α) (o : α) : List α := (news h o).foldl addN f
noncomputable def jb1 (news : α → α → List α) (e : Nat) (f : List α) (p : Nat) : List α := match f[p]? with | none => f | some h => (f.take (p + e)).foldl (gStep news h) f
noncomputable def gAll (news : α → α → List α) (e : Nat) (f : List α) (n : Nat) : List α := (List.range n).foldl (jb1 news e) f
theorem addN_pre (f : List α) (x : α) : f <+: addN f x := by unfold addN; split; exact List.prefix_refl _; exact List.prefix_append ..
theorem addN_mem (f : List α) (x : α) : x ∈ addN f x := by unfold addN; split; assumption; simp
theorem addN_in {P : α → Prop} {f : List α} {x : α} (hf : ∀ y ∈ f, P y) (hx : P x) : ∀ y ∈ addN f x, P y := by
 unfold addN
 split
 ·exact hf
 ·intro y hy
  rcases List.mem_append.mp hy with h | h
  ·exact hf y h
  ·cases List.mem_singleton.mp h; exact hx
set_option tactic.hygienic true in
theorem addN_nodup {f : List α} {x : α} (h : f.Nodup) : (addN f x).Nodup := by
 unfold addN
 split
 ·exact h
 ·rename_i hx
  rw [List.nodup_append]
  exact ⟨h, by simp, fun a ha b hb => by cases List.mem_singleton.mp hb; rintro rfl; exact hx ha⟩
theorem fold_pre {β γ : Type} {g : List γ → β → List γ} (hg : ∀ f x, f <+: g f x) : ∀ (xs : List β) (f : List γ), f <+: xs.foldl g f := by
 intro xs
 induction xs with
 | nil =>
  rintro f
  exact List.prefix_refl _
 | cons x xs ih =>
  rintro f
  exact (hg f x).trans (ih (g f x))
theorem jcj {β γ : Type} {g : List γ → β → List γ} (hg : ∀ f x, f <+: g f x) {z : γ} {b : β} (hb : ∀ f, z ∈ g f b) : ∀ (xs : List β) (f : List γ), b ∈ xs → z ∈ xs.foldl g f
 | x :: xs, f, h => by
  rcases List.mem_cons.mp h with rfl | h
  ·exact (fold_pre hg xs (g f b)).subset (hb f)
  ·exact jcj hg hb xs (g f x) h
theorem gStep_pre (h : α) (f : List α) (o : α) : f <+: gStep news h f o := fold_pre addN_pre _ _
theorem gPlace_pre (f : List α) (p : Nat) : f <+: jb1 news e f p := by
 unfold jb1
 split
 ·exact List.prefix_refl _
 ·exact fold_pre (gStep_pre _) _ _
theorem jbs (f : List α) (n : Nat) : gAll news e f (n + 1) = jb1 news e (gAll news e f n) n := by unfold gAll; rw [jbc]
theorem jci (f : List α) : ∀ {m n : Nat}, m ≤ n → gAll news e f m <+: gAll news e f n
 | m, 0, h => by rw [show m = 0 by omega]; exact List.prefix_refl _
 | m, n + 1, h => by
  by_cases q : m = n + 1
  ·rw [q]; exact List.prefix_refl _
  ·rw [jbs]; exact (jci f (by omega)).trans (gPlace_pre _ _)
theorem gAll_stop (f : List α) {p : Nat} (h : (gAll news e f p).length ≤ p) : ∀ k, gAll news e f (p + k) = gAll news e f p := by
 intro k
 induction k with
 | zero =>
  exact rfl
 | succ k ih =>
  rw [← Nat.add_assoc, jbs, ih]
  unfold jb1
  rw [List.getElem?_eq_none (Nat.le_add_right_of_le ‹_›)]
theorem pre_get {l m : List α} (h : l <+: m) {i : Nat} (hi : i < l.length) : m[i]? = l[i]? := by
 obtain ⟨t, rfl⟩ := h
 rw [List.getElem?_append_left hi]
theorem g_closed (he : e ≤ 1) (f : List α) (N : Nat) (hN : (gAll news e f N).length ≤ N) {p q : Nat} {h o x : α} (hp : (gAll news e f N)[p]? = some h) (hq : (gAll news e f N)[q]? = some o) (hqp : q < p + e) (hx : x ∈ news h o) : x ∈ gAll news e f N := by
 have hpl : p < (gAll news e f N).length := (List.getElem?_eq_some_iff.mp hp).1
 have hlt : p < (gAll news e f p).length := by
  rcases Nat.lt_or_ge p (gAll news e f p).length with c | c
  ·exact c
  ·have := gAll_stop f c (N - p)
   rw [Nat.add_sub_of_le (Nat.le_of_lt (Nat.lt_of_lt_of_le hpl hN))] at this
   rw [this] at hpl; exact absurd hpl (Nat.not_lt.mpr c)
 have pN := Nat.lt_of_lt_of_le hpl hN
 have pre := jci (news := news) (e := e) f (Nat.le_of_lt pN)
 rw [pre_get pre hlt] at hp
 rw [pre_get pre (Nat.lt_of_lt_of_le hqp (Nat.le_trans (Nat.add_le_add_left he p) hlt))] at hq
 refine (jci (news := news) (e := e) f pN).subset ?_
 rw [jbs]
 unfold jb1
 rw [hp]
 refine jcj (gStep_pre h) (b := o) (fun f' => ?_) _ _ (List.mem_of_getElem? (i := q) (by rw [List.getElem?_take, if_pos hqp]; exact hq))
 exact jcj addN_pre (fun f'' => addN_mem f'' x) _ _ hx
set_option tactic.hygienic true in
theorem g_inv {P : α → Prop} (hP : ∀ h o, P h → P o → ∀ x ∈ news h o, P x) {f : List α} (h0 : ∀ y ∈ f, P y) : ∀ n, ∀ y ∈ gAll news e f n, P y := by
 intro n
 induction n with
 | zero =>
  exact h0
 | succ n ih =>
  have ih := ih
  rw [jbs]
  unfold jb1
  split
  ·exact ih
  ·rename_i h hh
   have ph := ih h (List.mem_of_getElem? hh)
   refine ja7 (P := fun f : List α => ∀ y ∈ f, P y) _ _ (fun b o ho hb => ?_) ih
   exact ja7 (P := fun f : List α => ∀ y ∈ f, P y) _ _ (fun b' x hx hb' => addN_in hb' (hP h o ph (ih o (List.mem_of_mem_take ho)) x hx)) hb
theorem g_nodup {f : List α} (h0 : f.Nodup) : ∀ n, (gAll news e f n).Nodup := by
 intro n
 induction n with
 | zero =>
  exact h0
 | succ n ih =>
  have ih := ih
  rw [jbs]
  unfold jb1
  split
  ·exact ih
  ·exact ja7 (P := List.Nodup) _ _ (fun b o Y hb => ja7 (P := List.Nodup) _ _ (fun b' x Y hb' => addN_nodup hb') hb) ih
theorem g_shut (he : e ≤ 1) (hc : ∀ h o x, x ∈ news h o → x ∈ news o h) (f : List α) (N : Nat) (hN : (gAll news e f N).length ≤ N) (hd : e = 0 → ∀ h, h ∈ gAll news e f N → ∀ x ∈ news h h, x ∈ gAll news e f N) {h o x : α} (hh : h ∈ gAll news e f N) (ho : o ∈ gAll news e f N) (hx : x ∈ news h o) : x ∈ gAll news e f N := by
 obtain ⟨p, hp⟩ := List.mem_iff_getElem?.mp hh
 obtain ⟨q, hq⟩ := List.mem_iff_getElem?.mp ho
 rcases Nat.lt_trichotomy q p with c | c | c
 ·exact g_closed he f N hN hp hq (Nat.le_add_right_of_le ‹_›) hx
 ·subst c
  rw [hp] at hq; cases hq
  by_cases z : e = 0
  ·exact hd z h hh x hx
  ·exact g_closed he f N hN hp hp (by omega) hx
 ·exact g_closed he f N hN hq hp (Nat.le_add_right_of_le ‹_›) (hc _ _ _ hx)
theorem inj_len {β : Type} [DecidableEq β] {R : α → β → Prop} (hR : ∀ v v' f, R v f → R v' f → v = v') : ∀ (F : List α) (M : List β), F.Nodup → (∀ v ∈ F, ∃ f ∈ M, R v f) → F.length ≤ M.length := by
 intro F
 induction F with
 | nil =>
  rintro _ _ _
  exact Nat.zero_le _
 | cons v F ih =>
  rintro M hn h
  rw [List.nodup_cons] at hn
  obtain ⟨f, hf, hv⟩ := h v (List.mem_cons_self ..)
  have ih := ih (M.erase f) hn.2 fun v' hv' => by
   obtain ⟨f', hf', r'⟩ := h v' (List.mem_cons_of_mem _ hv')
   have ne : f' ≠ f := fun q => hn.1 (hR v v' f hv (q ▸ r') ▸ hv')
   exact ⟨f', (List.mem_erase_of_ne ne).mpr hf', r'⟩
  rw [List.length_erase_of_mem hf] at ih
  have : 0 < M.length := List.length_pos_of_mem hf
  rw [List.length_cons]; omega
end
end Mine
namespace Mine
theorem mx_eq (a b : Int) : mx a b = max a b := ite_max a b
theorem mn_eq (a b : Int) : mn a b = min a b := (ite_min b a).trans (Int.min_comm b a)
theorem pairs_g (rows : List (List Int)) (i j : Nat) : pairsOf rows i j = gAll jbk 0 (jcd rows i j) 9 := by
 unfold pairsOf gAll
 congr 1
 funext f p
 unfold jaQ jb1
 cases f[p]? <;> rfl
theorem prInit_mem {rows : List (List Int)} {i j : Nat} {r : List Int} (h : r ∈ rows) : [r.getD i 0, r.getD j 0] ∈ jcd rows i j :=
 jcj (g := fun f r => addN f [r.getD i 0, r.getD j 0]) (fun f r => addN_pre f _) (b := r) (fun f => addN_mem f _) rows [] h
theorem prInit_all {P : List Int → Prop} {rows : List (List Int)} {i j : Nat} (h : ∀ r ∈ rows, P [r.getD i 0, r.getD j 0]) : ∀ y ∈ jcd rows i j, P y :=
 ja7 (P := fun f : List (List Int) => ∀ y ∈ f, P y) _ _ (fun Y r hr hb => addN_in hb (h r hr)) na0
theorem prInit_nd (rows : List (List Int)) (i j : Nat) : (jcd rows i j).Nodup :=
 ja7 (P := List.Nodup) _ _ (fun Y Y Y hb => addN_nodup hb) .nil
theorem mx_or (a b : Int) : mx a b = a ∨ mx a b = b := by unfold mx; split <;> simp
theorem mn_or (a b : Int) : mn a b = a ∨ mn a b = b := by unfold mn; split <;> simp
section
variable {rows : List (List Int)} {i j : Nat}
theorem pairs_all {P : List Int → Prop} (h0 : ∀ r ∈ rows, P [r.getD i 0, r.getD j 0]) (hP : ∀ h o, P h → P o → ∀ x ∈ jbk h o, P x) : ∀ y ∈ pairsOf rows i j, P y := by
 rw [pairs_g]; exact g_inv hP (prInit_all h0) 9
theorem pairs_len (hr : rows.length = 3) : (pairsOf rows i j).length ≤ 9 := by
 obtain ⟨a, b, c, rfl⟩ := ln3 hr
 have hnd : (pairsOf [a, b, c] i j).Nodup := by rw [pairs_g]; exact g_nodup (prInit_nd _ _ _) 9
 have all : ∀ y ∈ pairsOf [a, b, c] i j, ∃ u ∈ ([a, b, c].map (·.getD i 0)), ∃ v ∈ ([a, b, c].map (·.getD j 0)), y = [u, v] := by
  refine pairs_all (fun r hr => ⟨_, List.mem_map_of_mem hr, _, List.mem_map_of_mem hr, rfl⟩) ?_
  rintro h o ⟨u, hu, v, hv, rfl⟩ ⟨u', hu', v', hv', rfl⟩ x hx
  have pick : ∀ {zs : List Int} {a b c : Int}, a ∈ zs → b ∈ zs → (c = a ∨ c = b) → c ∈ zs := fun ha hb h => by rcases h with rfl | rfl <;> assumption
  simp only [jbk, List.mem_cons, List.not_mem_nil, or_false] at hx
  rcases hx with rfl | rfl
  ·exact ⟨_, pick hu hu' (mx_or _ _), _, pick hv hv' (mx_or _ _), rfl⟩
  ·exact ⟨_, pick hu hu' (mn_or _ _), _, pick hv hv' (mn_or _ _), rfl⟩
 have sub : pairsOf [a, b, c] i j ⊆ (([a, b, c].map (·.getD i 0)).flatMap fun u => ([a, b, c].map (·.getD j 0)).map fun v => [u, v]) := fun y hy => by
  obtain ⟨u, hu, v, hv, e⟩ := all y hy
  exact List.mem_flatMap.mpr ⟨u, hu, List.mem_map.mpr ⟨v, hv, e.symm⟩⟩
 have := List.Nodup.length_le_of_subset hnd sub
 simpa using this
theorem pairs_two : ∀ y ∈ pairsOf rows i j, y.length = 2 := pairs_all (fun Y Y => rfl) fun h o Y Y x hx => by
 simp only [jbk, List.mem_cons, List.not_mem_nil, or_false] at hx
 rcases hx with rfl | rfl <;> rfl
theorem pairs_shut (hr : rows.length = 3) {h o x : List Int} (hh : h ∈ pairsOf rows i j) (ho : o ∈ pairsOf rows i j) (hx : x ∈ jbk h o) : x ∈ pairsOf rows i j := by
 have hl := pairs_len (i := i) (j := j) hr
 have t2 := pairs_two (rows := rows) (i := i) (j := j)
 rw [pairs_g] at hl hh ho t2 ⊢
 refine g_shut (Nat.zero_le _) (fun h o x hx => ?_) _ _ hl (fun Y h hh x hx => ?_) hh ho hx
 ·simp only [jbk, mx_eq, mn_eq, List.mem_cons, List.not_mem_nil, or_false] at hx ⊢
  rw [Int.max_comm (o.getD 0 0), Int.max_comm (o.getD 1 0), Int.min_comm (o.getD 0 0), Int.min_comm (o.getD 1 0)]; exact hx
 ·have h2 := t2 h hh
  obtain ⟨a, b, rfl⟩ := ln2 h2
  simp only [jbk, mx_eq, mn_eq, List.mem_cons, List.not_mem_nil, or_false, List.getD_cons_zero, List.getD_cons_succ, Int.max_self, Int.min_self, or_self] at hx
  rw [hx]; exact hh
theorem pairs_max (hr : rows.length = 3) {a b c d : Int} (h : [a, b] ∈ pairsOf rows i j) (h' : [c, d] ∈ pairsOf rows i j) : [max a c, max b d] ∈ pairsOf rows i j :=
 pairs_shut hr h h' (by simp [jbk, mx_eq])
theorem pairs_min (hr : rows.length = 3) {a b c d : Int} (h : [a, b] ∈ pairsOf rows i j) (h' : [c, d] ∈ pairsOf rows i j) : [min a c, min b d] ∈ pairsOf rows i j :=
 pairs_shut hr h h' (by simp [jbk, mn_eq])
theorem pairs_row {r : List Int} (h : r ∈ rows) : [r.getD i 0, r.getD j 0] ∈ pairsOf rows i j := by
 rw [pairs_g]
 exact (jci (news := jbk) (e := 0) _ (Nat.zero_le 9)).subset (prInit_mem h)
end
theorem md1 (t x : Int) : max (max (min t t) (min t x)) (min t x) = t := by rw [Int.min_self, Int.max_eq_left (Int.min_le_left t x), Int.max_eq_left (Int.min_le_left t x)]
theorem md2 (t x : Int) : max (max (min t x) (min x t)) (min t t) = t := by rw [Int.min_comm x t, Int.max_self, Int.min_self, Int.max_eq_right (Int.min_le_left t x)]
theorem md3 (t x : Int) : max (max (min x t) (min t t)) (min x t) = t := by rw [Int.min_self, Int.max_eq_right (Int.min_le_right x t), Int.max_eq_left (Int.min_le_right x t)]
theorem baker (C : Int → Int → Int → Int → Prop) (hmax : ∀ {a b c d a' b' c' d'}, C a b c d → C a' b' c' d' → C (max a a') (max b b') (max c c') (max d d')) (hmin : ∀ {a b c d a' b' c' d'}, C a b c d → C a' b' c' d' → C (min a a') (min b b') (min c c') (min d d'))
  {a b c d : Int} (h01 : ∃ x y, C a b x y) (h02 : ∃ x y, C a x c y) (h03 : ∃ x y, C a x y d) (h12 : ∃ x y, C x b c y) (h13 : ∃ x y, C x b y d) (h23 : ∃ x y, C x y c d) : C a b c d := by
 have med : ∀ {a b c d a' b' c' d' a'' b'' c'' d''}, C a b c d → C a' b' c' d' → C a'' b'' c'' d'' →
   C (max (max (min a a') (min a' a'')) (min a a'')) (max (max (min b b') (min b' b'')) (min b b'')) (max (max (min c c') (min c' c'')) (min c c'')) (max (max (min d d') (min d' d'')) (min d d'')) :=
  fun h h' h'' => hmax (hmax (hmin h h') (hmin h' h'')) (hmin h h'')
 obtain ⟨x1, y1, h01⟩ := h01
 obtain ⟨x2, y2, h02⟩ := h02
 obtain ⟨x3, y3, h03⟩ := h03
 obtain ⟨x4, y4, h12⟩ := h12
 obtain ⟨x5, y5, h13⟩ := h13
 obtain ⟨x6, y6, h23⟩ := h23
 have to : ∀ {a b c d a' b' c' d'}, C a b c d → a = a' → b = b' → c = c' → d = d' → C a' b' c' d' := by rintro _ _ _ _ _ _ _ _ h rfl rfl rfl rfl; exact h
 have w012 : ∃ d', C a b c d' := ⟨_, to (med h01 h02 h12) (md1 _ _) (md2 _ _) (md3 _ _) rfl⟩
 have w013 : ∃ c', C a b c' d := ⟨_, to (med h01 h03 h13) (md1 _ _) (md2 _ _) rfl (md3 _ _)⟩
 have w023 : ∃ b', C a b' c d := ⟨_, to (med h02 h03 h23) (md1 _ _) rfl (md2 _ _) (md3 _ _)⟩
 obtain ⟨z1, w012⟩ := w012
 obtain ⟨z2, w013⟩ := w013
 obtain ⟨z3, w023⟩ := w023
 exact to (med w012 w013 w023) (md1 _ _) (md1 _ _) (md2 _ _) (md3 _ _)
end Mine
namespace Mine
noncomputable def vmax (a b : List Int) : List Int := (List.range 4).map fun (j : Nat) => max (a.getD j 0) (b.getD j 0)
noncomputable def vmin (a b : List Int) : List Int := (List.range 4).map fun (j : Nat) => min (a.getD j 0) (b.getD j 0)
noncomputable def vNew (h o : List Int) : List (List Int) := [vmax h o, vmin h o]
theorem ja1 {f : Nat → Int} {j : Nat} (hj : j < 4) : ((List.range 4).map f).getD j 0 = f j := by
 rw [List.getD_eq_getElem?_getD, List.getElem?_map, List.getElem?_range hj]; rfl
theorem jbR {V : VL} {j : Nat} (hj : j < 4) : (vecV V).getD j 0 = lk0 V j := ja1 (f := fun j => lk0 V j) hj
theorem vec_join {E F : VL} (hE : VOk E) (hF : VOk F) : vecV (jbP E F) = vmax (vecV E) (vecV F) := by
 unfold vmax
 refine List.map_congr_left fun j hj => ?_
 have := List.mem_range.mp hj
 rw [jbR this, jbR this, lk0_join hE hF]
theorem vec_meet {E F : VL} (hE : VOk E) (hF : VOk F) : vecV (jbl E F) = vmin (vecV E) (vecV F) := by
 unfold vmin
 refine List.map_congr_left fun j hj => ?_
 have := List.mem_range.mp hj
 rw [jbR this, jbR this, lk0_meet hE hF]
theorem vec_eq {E F : VL} (hE : VOk E) (hF : VOk F) : eqV E F = true ↔ vecV E = vecV F := by
 unfold eqV
 rw [decide_eq_true_eq]
 constructor
 ·intro h
  refine List.map_congr_left fun j Y => ?_
  rcases key_or E (j : Int) with ⟨p, hp, e⟩ | h1
  ·exact h _ (List.mem_append_left _ (List.mem_map.mpr ⟨p, hp, e⟩))
  ·rcases key_or F (j : Int) with ⟨p, hp, e⟩ | h2
   ·exact h _ (List.mem_append_right _ (List.mem_map.mpr ⟨p, hp, e⟩))
   ·rw [jaX h1, jaX h2]
 ·intro h k hk
  have hk4 : 0 ≤ k ∧ k < 4 := by
   rcases List.mem_append.mp hk with q | q
   ·obtain ⟨p, hp, rfl⟩ := List.mem_map.mp q; exact hE.ks p hp
   ·obtain ⟨p, hp, rfl⟩ := List.mem_map.mp q; exact hF.ks p hp
  have e : ((k.toNat : Nat) : Int) = k := by exact Int.toNat_of_nonneg ‹_ ∧ _›.1
  have h1 := jbR (V := E) (j := k.toNat) (by omega)
  have h2 := jbR (V := F) (j := k.toNat) (by omega)
  rw [e] at h1 h2
  rw [← h1, ← h2, h]
theorem vec_add {f : List VL} {V : VL} (hf : ∀ U ∈ f, VOk U) (hV : VOk V) : (addV f V).map vecV = addN (f.map vecV) (vecV V) := by
 unfold addV addN
 have : (f.any fun M => eqV M V) = true ↔ vecV V ∈ f.map vecV := by
  rw [List.any_eq_true, List.mem_map]
  exact ⟨fun hx0 => by obtain ⟨x, hx, h⟩ := hx0; exact ⟨x, hx, (vec_eq (hf x hx) hV).mp h⟩, fun hx0 => by obtain ⟨x, hx, h⟩ := hx0; exact ⟨x, hx, (vec_eq (hf x hx) hV).mpr h⟩⟩
 by_cases q : (f.any fun M => eqV M V) = true
 ·rw [if_pos q, if_pos (this.mp q)]
 ·rw [if_neg q, if_neg (fun h => q (this.mpr h))]; simp
theorem vec_turn {h o : VL} {f : List VL} (hf : ∀ U ∈ f, VOk U) (hh : VOk h) (ho : VOk o) : (jce h f o).map vecV = gStep vNew (vecV h) (f.map vecV) (vecV o) := by
 unfold jce gStep vNew
 rw [vec_add (addV_ok hf (join_ok hh ho)) (meet_ok hh), vec_add hf (join_ok hh ho), vec_join hh ho, vec_meet hh ho]
 rfl
theorem vec_turns {h : VL} (hh : VOk h) : ∀ (os : List VL) (f : List VL), (∀ U ∈ os, VOk U) → (∀ U ∈ f, VOk U) → (os.foldl (jce h) f).map vecV = (os.map vecV).foldl (gStep vNew (vecV h)) (f.map vecV) := by
 intro os
 induction os with
 | nil =>
  rintro f _ _
  exact rfl
 | cons o os ih =>
  rintro f ho hf
  have h1 := ho o (List.mem_cons_self ..)
  rw [List.foldl_cons, List.map_cons, List.foldl_cons, ← vec_turn hf hh h1]
  exact ih _ (fun U hU => ho U (List.mem_cons_of_mem _ hU)) (lwTurn_ok hf hh h1)
theorem vec_place {f : List VL} (hf : ∀ U ∈ f, VOk U) (p : Nat) : (jaN f p).map vecV = jb1 vNew 1 (f.map vecV) p := by
 unfold jaN jb1
 rw [List.getElem?_map]
 cases h : f[p]? with
 | none => rfl
 | some x =>
  dsimp only [Option.map]
  rw [vec_turns (hf x (List.mem_of_getElem? h)) _ f (fun U hU => hf U (List.mem_of_mem_take hU)) hf, List.map_take]
theorem vec_all {rows : List (List Int)} (hok : RowOk rows) : ∀ n, ((List.range n).foldl jaN (jbm rows)).map vecV = gAll vNew 1 ((jbm rows).map vecV) n := by
 intro n
 induction n with
 | zero =>
  exact rfl
 | succ n ih =>
  rw [jbs, jbc, ← ih]
  exact vec_place (ja7 (P := fun f : List VL => ∀ U ∈ f, VOk U) _ _ (fun b x Y hb => lwPlace_ok x hb) (lwInit_ok hok)) n
theorem vec_bag {r : List Int} (h : r.length = 4) (h0 : ∀ z ∈ r, 0 ≤ z) : vecV (jbQ r) = r := by
 have hb := bagOf_ok h h0
 refine List.ext_getElem (by simp [vecV, h]) fun j h1 h2 => ?_
 have hj : j < 4 := by exact lql ‹_› ‹_›
 have e : (vecV (jbQ r)).getD j 0 = lk0 (jbQ r) j := jbR hj
 have m : ((j : Int), r.getD j 0) ∈ jbQ r := List.mem_map.mpr ⟨j, List.mem_range.mpr hj, rfl⟩
 have l := jaE hb.nd m
 dsimp only at l
 rw [l, List.getD_eq_getElem?_getD, List.getElem?_eq_getElem h1, List.getD_eq_getElem?_getD, List.getElem?_eq_getElem h2] at e
 exact e
theorem vec_init {rows : List (List Int)} (hok : RowOk rows) : (jbm rows).map vecV = rows.foldl addN [] := by
 have : ∀ (rs : List (List Int)) (f : List VL), (∀ r ∈ rs, r.length = 4 ∧ ∀ z ∈ r, 0 ≤ z) → (∀ U ∈ f, VOk U) → (rs.foldl (fun f r => addV f (jbQ r)) f).map vecV = rs.foldl addN (f.map vecV) := by
  intro rs
  induction rs with
  | nil => intro f _ _; rfl
  | cons r rs ih =>
   intro f hr hf
   obtain ⟨a, b⟩ := hr r (List.mem_cons_self ..)
   rw [List.foldl_cons, List.foldl_cons, ih _ (fun r h => hr r (List.mem_cons_of_mem _ h)) (addV_ok hf (bagOf_ok a b)), vec_add hf (bagOf_ok a b), vec_bag a b]
 exact this rows [] hok na0
noncomputable def M18 : List (BitVec 8) := [128, 136, 160, 168, 170, 192, 200, 204, 224, 232, 234, 236, 238, 240, 248, 250, 252, 254]
theorem m18_shut : ∀ f ∈ M18, ∀ g ∈ M18, f ||| g ∈ M18 ∧ f &&& g ∈ M18 := by decide +kernel
noncomputable def ev3 (f : BitVec 8) (x y z : Bool) : Bool := f.getLsbD (x.toNat * 4 + y.toNat * 2 + z.toNat)
theorem ev_or (f g : BitVec 8) (x y z : Bool) : ev3 (f ||| g) x y z = (ev3 f x y z || ev3 g x y z) := by unfold ev3; rw [BitVec.getLsbD_or]
theorem ev_and (f g : BitVec 8) (x y z : Bool) : ev3 (f &&& g) x y z = (ev3 f x y z && ev3 g x y z) := by unfold ev3; rw [BitVec.getLsbD_and]
theorem ev_a : ∀ x y z, ev3 240 x y z = x := by decide
theorem ev_b : ∀ x y z, ev3 204 x y z = y := by decide
theorem ev_c : ∀ x y z, ev3 170 x y z = z := by decide
noncomputable def Rep (a b c : List Int) (v : List Int) (f : BitVec 8) : Prop := v.length = 4 ∧ ∀ i, i < 4 → ∀ t : Int, decide (t ≤ v.getD i 0) = ev3 f (decide (t ≤ a.getD i 0)) (decide (t ≤ b.getD i 0)) (decide (t ≤ c.getD i 0))
theorem ext4 {v u : List Int} (hv : v.length = 4) (hu : u.length = 4) (h : ∀ i, i < 4 → v.getD i 0 = u.getD i 0) : v = u := by
 refine List.ext_getElem (by omega) fun j h1 h2 => ?_
 have := h j (lql ‹_› ‹_›)
 rwa [List.getD_eq_getElem?_getD, List.getElem?_eq_getElem h1, List.getD_eq_getElem?_getD, List.getElem?_eq_getElem h2] at this
section
variable {a b c v u : List Int} {f g : BitVec 8}
theorem rep_inj (h : Rep a b c v f) (h' : Rep a b c u f) : v = u := by
 refine ext4 h.1 h'.1 fun i hi => ?_
 have e : ∀ t : Int, decide (t ≤ v.getD i 0) = decide (t ≤ u.getD i 0) := fun t => by rw [h.2 i hi t, h'.2 i hi t]
 have e1 := e (v.getD i 0)
 have e2 := e (u.getD i 0)
 simp only [Int.le_refl, decide_true] at e1 e2
 have e1 := of_decide_eq_true e1.symm
 exact Int.le_antisymm e1 (of_decide_eq_true e2)
theorem le_mx {t a b : Int} : t ≤ max a b ↔ t ≤ a ∨ t ≤ b := ⟨fun h => (Int.le_total a b).elim (fun q => .inr (Int.max_eq_right q ▸ h)) (fun q => .inl (Int.max_eq_left q ▸ h)), fun h => h.elim (fun q => Int.le_trans q (Int.le_max_left ..)) (fun q => Int.le_trans q (Int.le_max_right ..))⟩
theorem rep_max (h : Rep a b c v f) (h' : Rep a b c u g) : Rep a b c (vmax v u) (f ||| g) := by
 refine ⟨by simp [vmax], fun i hi t => ?_⟩
 rw [ev_or, ← h.2 i hi t, ← h'.2 i hi t]
 unfold vmax
 rw [ja1 (f := fun j => max (v.getD j 0) (u.getD j 0)) hi]
 rw [Bool.eq_iff_iff]
 simp only [Bool.or_eq_true, decide_eq_true_eq]; exact le_mx
theorem rep_min (h : Rep a b c v f) (h' : Rep a b c u g) : Rep a b c (vmin v u) (f &&& g) := by
 refine ⟨by simp [vmin], fun i hi t => ?_⟩
 rw [ev_and, ← h.2 i hi t, ← h'.2 i hi t]
 unfold vmin
 rw [ja1 (f := fun j => min (v.getD j 0) (u.getD j 0)) hi]
 rw [Bool.eq_iff_iff]
 simp only [Bool.and_eq_true, decide_eq_true_eq]; exact Int.le_min
end
end Mine
namespace Mine
section
variable {rows cs : List (List Int)} {a b c : List Int}
noncomputable def vAll (rows : List (List Int)) : List (List Int) := gAll vNew 1 (rows.foldl addN []) 18
theorem rows_mem {r : List Int} (h : r ∈ rows) : r ∈ vAll rows :=
 (jci (news := vNew) (e := 1) _ (Nat.zero_le 18)).subset (jcj (g := addN) addN_pre (b := r) (fun f => addN_mem f r) rows [] h)
theorem vAll_inv {P : List Int → Prop} (h0 : ∀ r ∈ rows, P r) (hP : ∀ h o, P h → P o → P (vmax h o) ∧ P (vmin h o)) : ∀ v ∈ vAll rows, P v := by
 refine g_inv (fun h o hh ho x hx => ?_) (ja7 (P := fun f : List (List Int) => ∀ y ∈ f, P y) rows [] (fun b r hr hb => addN_in hb (h0 r hr)) na0) 18
 obtain ⟨q1, q2⟩ := hP h o hh ho
 simp only [vNew, List.mem_cons, List.not_mem_nil, or_false] at hx
 rcases hx with rfl | rfl <;> assumption
theorem vAll_nd : (vAll rows).Nodup := g_nodup (ja7 (P := List.Nodup) rows [] (fun Y Y Y hb => addN_nodup hb) .nil) 18
theorem three_rows (hr : rows.length = 3) : ∃ a b c, rows = [a, b, c] := ln3 hr
theorem vAll_len (hok : RowOk rows) (hr : rows.length = 3) : (vAll rows).length ≤ 18 := by
 obtain ⟨a, b, c, rfl⟩ := three_rows hr
 refine inj_len (R := Rep a b c) (fun v v' f h h' => rep_inj h h') _ M18 vAll_nd (vAll_inv (P := fun v => ∃ f ∈ M18, Rep a b c v f) (fun r hm => ?_) ?_)
 ·have h4 := (hok r hm).1
  simp only [List.mem_cons, List.not_mem_nil, or_false] at hm
  rcases hm with rfl | rfl | rfl
  ·exact ⟨240, by decide, h4, fun i Y t => (ev_a _ _ _).symm⟩
  ·exact ⟨204, by decide, h4, fun i Y t => (ev_b _ _ _).symm⟩
  ·exact ⟨170, by decide, h4, fun i Y t => (ev_c _ _ _).symm⟩
 ·rintro h o ⟨f, hf, r⟩ ⟨g, hg, r'⟩
  obtain ⟨m1, m2⟩ := m18_shut f hf g hg
  exact ⟨⟨_, m1, rep_max r r'⟩, ⟨_, m2, rep_min r r'⟩⟩
theorem vmax_comm (h o : List Int) : vmax h o = vmax o h := List.map_congr_left fun j Y => Int.max_comm _ _
theorem vmin_comm (h o : List Int) : vmin h o = vmin o h := List.map_congr_left fun j Y => Int.min_comm _ _
theorem vAll_shut (hok : RowOk rows) (hr : rows.length = 3) {h o : List Int} (hh : h ∈ vAll rows) (ho : o ∈ vAll rows) : vmax h o ∈ vAll rows ∧ vmin h o ∈ vAll rows := by
 have go : ∀ x ∈ vNew h o, x ∈ vAll rows := fun x hx =>
  g_shut (news := vNew) (e := 1) (Nat.le_refl _) (fun h o x hx => by unfold vNew at hx ⊢; rw [vmax_comm o h, vmin_comm o h]; exact hx) _ 18 (vAll_len hok hr) (fun q => absurd q (by decide)) hh ho hx
 exact ⟨go _ (by simp [vNew]), go _ (by simp [vNew])⟩
theorem vmax4 (a b c d a' b' c' d' : Int) : vmax [a, b, c, d] [a', b', c', d'] = [max a a', max b b', max c c', max d d'] := rfl
theorem vmin4 (a b c d a' b' c' d' : Int) : vmin [a, b, c, d] [a', b', c', d'] = [min a a', min b b', min c c', min d d'] := rfl
theorem four {v : List Int} (h : v.length = 4) : ∃ a b c d, v = [a, b, c, d] := ln4 h
theorem vAll_four (hok : RowOk rows) : ∀ v ∈ vAll rows, v.length = 4 := vAll_inv (fun r h => (hok r h).1) fun h o Y Y => ⟨by simp [vmax], by simp [vmin]⟩
theorem jbr (hok : RowOk rows) (hr : rows.length = 3) {i j : Nat} (hi : i < 4) (hj : j < 4) {x y : Int} (h : [x, y] ∈ pairsOf rows i j) : ∃ u ∈ vAll rows, u.getD i 0 = x ∧ u.getD j 0 = y := by
 have := pairs_all (rows := rows) (i := i) (j := j) (P := fun p => ∃ u ∈ vAll rows, p = [u.getD i 0, u.getD j 0]) (fun r hm => ⟨r, rows_mem hm, rfl⟩) (by
  rintro h o ⟨u, hu, rfl⟩ ⟨u', hu', rfl⟩ z hz
  obtain ⟨m1, m2⟩ := vAll_shut hok hr hu hu'
  simp only [jbk, mx_eq, mn_eq, List.mem_cons, List.not_mem_nil, or_false, List.getD_cons_zero, List.getD_cons_succ] at hz
  rcases hz with rfl | rfl
  ·refine ⟨_, m1, ?_⟩
   unfold vmax
   rw [ja1 (f := fun j => max (u.getD j 0) (u'.getD j 0)) hi, ja1 (f := fun j => max (u.getD j 0) (u'.getD j 0)) hj]
  ·refine ⟨_, m2, ?_⟩
   unfold vmin
   rw [ja1 (f := fun j => min (u.getD j 0) (u'.getD j 0)) hi, ja1 (f := fun j => min (u.getD j 0) (u'.getD j 0)) hj]) _ h
 obtain ⟨u, hu, e⟩ := this
 simp only [List.cons.injEq, and_true] at e
 exact ⟨u, hu, e.1.symm, e.2.symm⟩
theorem ok_iff {v : List Int} : okRow rows v = true ↔ [v.getD 1 0, v.getD 0 0] ∈ pairsOf rows 1 0 ∧ [v.getD 2 0, v.getD 0 0] ∈ pairsOf rows 2 0 ∧ [v.getD 2 0, v.getD 1 0] ∈ pairsOf rows 2 1 ∧ [v.getD 3 0, v.getD 0 0] ∈ pairsOf rows 3 0 ∧ [v.getD 3 0, v.getD 1 0] ∈ pairsOf rows 3 1 ∧ [v.getD 3 0, v.getD 2 0] ∈ pairsOf rows 3 2 := by
 have e : ksAt 4 0 = [4, 8, 9, 12, 13, 14] := by decide +kernel
 unfold okRow
 rw [e, List.isEmpty_iff, List.filter_eq_nil_iff]
 have k : ∀ z, (¬ keyT rows v z = true) ↔ [v.getD (z / 4).toNat 0, v.getD (z % 4).toNat 0] ∈ pairsOf rows (z / 4).toNat (z % 4).toNat := fun z => by
  unfold keyT
  rw [Bool.not_eq_true', decide_eq_false_iff_not, Classical.not_not]
 simp only [k, List.forall_mem_cons, List.not_mem_nil, false_implies, implies_true, and_true]
 exact Iff.rfl
theorem prod4 {c0 c1 c2 c3 v : List Int} : v ∈ prod [c0, c1, c2, c3] [] ↔ ∃ x ∈ c0, ∃ y ∈ c1, ∃ z ∈ c2, ∃ t ∈ c3, v = [x, y, z, t] := by
 simp only [prod, List.mem_flatMap, List.nil_append, List.cons_append, List.mem_singleton]
theorem prod_nd : ∀ (cs : List (List Int)) (p : List Int), (∀ z ∈ cs, z.Nodup) → (prod cs p).Nodup := by
 intro cs
 induction cs with
 | nil =>
  rintro p _
  simp [prod]
 | cons z zs ih =>
  rintro p h
  unfold prod
  rw [List.nodup_iff_pairwise_ne, List.pairwise_flatMap]
  refine ⟨fun v Y => ih _ fun y hy => h y (List.mem_cons_of_mem _ hy), ?_⟩
  refine List.Pairwise.imp ?_ (h z (List.mem_cons_self ..))
  intro x y hxy u hu u' hu' e
  have pre : ∀ (zs : List (List Int)) (p r : List Int), r ∈ prod zs p → ∃ t, r = p ++ t := by
   intro zs
   induction zs with
   | nil => intro p r hr; simp [prod] at hr; exact ⟨[], by simp [hr]⟩
   | cons z zs ih =>
    intro p r hr
    unfold prod at hr
    obtain ⟨v, _, hr⟩ := List.mem_flatMap.mp hr
    obtain ⟨t, e⟩ := ih _ _ hr
    exact ⟨v :: t, by rw [e]; simp⟩
  obtain ⟨t, e1⟩ := pre _ _ _ hu
  obtain ⟨t', e2⟩ := pre _ _ _ hu'
  rw [e1, e2, List.append_assoc, List.append_assoc] at e
  have := List.append_cancel_left e
  simp at this
  exact hxy this.1
theorem law_pure : LawPure := by
 intro rows hok hr
 have hv : (lwAll rows).map vecV = vAll rows := by
  unfold lwAll vAll
  rw [vec_all hok, vec_init hok]
 have hl := vAll_len hok hr
 rw [hv]
 refine ⟨vAll_nd, by rw [← hv, List.length_map] at hl; exact hl, fun cs h4 hcs => ?_⟩
 obtain ⟨c0, c1, c2, c3, rfl⟩ := ln4 h4
 have p0 : CntP rows 0 c0 := hcs 0 (lqe rfl)
 have p1 : CntP rows 1 c1 := hcs 1 (lqe rfl)
 have p2 : CntP rows 2 c2 := hcs 2 (lqe rfl)
 have p3 : CntP rows 3 c3 := hcs 3 (lqe rfl)
 have nd : ∀ {i c}, CntP rows i c → c.Nodup := fun h => List.nodup_iff_pairwise_ne.mpr (h.2.1.imp fun q => Int.ne_of_lt q)
 have hdn : (dueOf rows [c0, c1, c2, c3]).Nodup := List.Nodup.sublist List.filter_sublist (prod_nd _ _ fun z hz => by
  simp only [List.mem_cons, List.not_mem_nil, or_false] at hz
  rcases hz with rfl | rfl | rfl | rfl
  ·exact nd p0
  ·exact nd p1
  ·exact nd p2
  ·exact nd p3)
 refine (List.perm_ext_iff_of_nodup vAll_nd hdn).mpr fun v => ?_
 unfold dueOf
 rw [List.mem_filter, prod4, ok_iff]
 constructor
 ·intro hm
  obtain ⟨x, y, z, t, rfl⟩ := four (vAll_four hok v hm)
  have q := vAll_inv (rows := rows) (P := fun v => v.length = 4 ∧ (∀ i, i < 4 → ∃ r ∈ rows, v.getD i 0 = r.getD i 0) ∧ ∀ i j, i < 4 → j < 4 → [v.getD i 0, v.getD j 0] ∈ pairsOf rows i j)
   (fun r h => ⟨(hok r h).1, fun i Y => ⟨r, h, rfl⟩, fun i j Y Y => pairs_row h⟩) (by
    rintro h o ⟨_, h2, h3⟩ ⟨_, o2, o3⟩
    refine ⟨⟨by simp [vmax], fun i hi => ?_, fun i j hi hj => ?_⟩, ⟨by simp [vmin], fun i hi => ?_, fun i j hi hj => ?_⟩⟩
    ·unfold vmax
     rw [ja1 (f := fun j => max (h.getD j 0) (o.getD j 0)) hi]
     obtain ⟨r, hr, e⟩ := h2 i hi
     obtain ⟨r', hr', e'⟩ := o2 i hi
     rcases Int.le_total (h.getD i 0) (o.getD i 0) with q | q
     ·exact ⟨r', hr', by rw [Int.max_eq_right q]; exact e'⟩
     ·exact ⟨r, hr, by rw [Int.max_eq_left q]; exact e⟩
    ·unfold vmax
     rw [ja1 (f := fun j => max (h.getD j 0) (o.getD j 0)) hi, ja1 (f := fun j => max (h.getD j 0) (o.getD j 0)) hj]
     exact pairs_max hr (h3 i j hi hj) (o3 i j hi hj)
    ·unfold vmin
     rw [ja1 (f := fun j => min (h.getD j 0) (o.getD j 0)) hi]
     obtain ⟨r, hr, e⟩ := h2 i hi
     obtain ⟨r', hr', e'⟩ := o2 i hi
     rcases Int.le_total (h.getD i 0) (o.getD i 0) with q | q
     ·exact ⟨r, hr, by rw [Int.min_eq_left q]; exact e⟩
     ·exact ⟨r', hr', by rw [Int.min_eq_right q]; exact e'⟩
    ·unfold vmin
     rw [ja1 (f := fun j => min (h.getD j 0) (o.getD j 0)) hi, ja1 (f := fun j => min (h.getD j 0) (o.getD j 0)) hj]
     exact pairs_min hr (h3 i j hi hj) (o3 i j hi hj)) _ hm
  obtain ⟨_, q2, q3⟩ := q
  refine ⟨⟨x, (p0.1 x).mpr (q2 0 (lqe rfl)), y, (p1.1 y).mpr (q2 1 (lqe rfl)), z, (p2.1 z).mpr (q2 2 (lqe rfl)), t, (p3.1 t).mpr (q2 3 (lqe rfl)), rfl⟩, q3 1 0 (lqe rfl) (lqe rfl), q3 2 0 (lqe rfl) (lqe rfl), q3 2 1 (lqe rfl) (lqe rfl), q3 3 0 (lqe rfl) (lqe rfl), q3 3 1 (lqe rfl) (lqe rfl), q3 3 2 (lqe rfl) (lqe rfl)⟩
 ·rintro ⟨⟨x, _, y, _, z, _, t, _, rfl⟩, h10, h20, h21, h30, h31, h32⟩
  have at4 : ∀ {u : List Int}, u ∈ vAll rows → ∃ p q r s, u = [p, q, r, s] := fun hu => four (vAll_four hok _ hu)
  refine baker (fun a b c d => [a, b, c, d] ∈ vAll rows) (fun h h' => ?_) (fun h h' => ?_) ?_ ?_ ?_ ?_ ?_ ?_
  ·have := (vAll_shut hok hr h h').1; rwa [vmax4] at this
  ·have := (vAll_shut hok hr h h').2; rwa [vmin4] at this
  ·obtain ⟨u, hu, e1, e2⟩ := jbr hok hr (lqe rfl) (lqe rfl) h10
   obtain ⟨p, q, r, s, rfl⟩ := at4 hu
   exact ⟨r, s, by rw [← show q = y from e1, ← show p = x from e2]; exact hu⟩
  ·obtain ⟨u, hu, e1, e2⟩ := jbr hok hr (lqe rfl) (lqe rfl) h20
   obtain ⟨p, q, r, s, rfl⟩ := at4 hu
   exact ⟨q, s, by rw [← show r = z from e1, ← show p = x from e2]; exact hu⟩
  ·obtain ⟨u, hu, e1, e2⟩ := jbr hok hr (lqe rfl) (lqe rfl) h30
   obtain ⟨p, q, r, s, rfl⟩ := at4 hu
   exact ⟨q, r, by rw [← show s = t from e1, ← show p = x from e2]; exact hu⟩
  ·obtain ⟨u, hu, e1, e2⟩ := jbr hok hr (lqe rfl) (lqe rfl) h21
   obtain ⟨p, q, r, s, rfl⟩ := at4 hu
   exact ⟨p, s, by rw [← show r = z from e1, ← show q = y from e2]; exact hu⟩
  ·obtain ⟨u, hu, e1, e2⟩ := jbr hok hr (lqe rfl) (lqe rfl) h31
   obtain ⟨p, q, r, s, rfl⟩ := at4 hu
   exact ⟨p, r, by rw [← show s = t from e1, ← show q = y from e2]; exact hu⟩
  ·obtain ⟨u, hu, e1, e2⟩ := jbr hok hr (lqe rfl) (lqe rfl) h32
   obtain ⟨p, q, r, s, rfl⟩ := at4 hu
   exact ⟨p, q, by rw [← show s = t from e1, ← show r = z from e2]; exact hu⟩
end
end Mine
namespace Mine
open PySem PySem.W PySem.W.X PyProof.Rows PySem.Calls Builtin
theorem left_ok : LeftO PySem.Challenge.pw_io0007_01 lview loo (fun s => recOk (RowW.records lrow) s) (obsZ kas) (valZ KB 1115 1792) 10000 true :=
 left_of fun w => by
  have h := head_all w
  rw [← PySem.W.Fast.te4187177175401517315, ← PySem.W.Fast.te5923862056798008813] at h
  exact h
theorem lookup_app {a : Addr} {o : Obj} {l : Frag} : ∀ {K : Frag}, K.lookup a = some o → (K ++ l).lookup a = some o
 | (b, x) :: K, h => by
  rw [List.cons_append, List.lookup_cons]
  rw [List.lookup_cons] at h
  cases q : a == b with
  | true => rw [q] at h; exact h
  | false => rw [q] at h; exact lookup_app h
end Mine
namespace Mine
open PySem PySem.W PySem.W.X PyProof.Rows PySem.Calls Builtin
theorem tb_of {P : Params} {h : Heap} (X : (KB P).In h) : Tb h := by
 have tr : TriplesOk (#[] : Array Value).toList := by simp [TriplesOk]
 intro c hc
 simp only [gcodes, List.mem_cons, List.not_mem_nil, or_false] at hc
 rcases hc with rfl | rfl
 ·have e1 := X 979 _ rfl
  have e2 := X 975 _ rfl
  exact ⟨975, #[], by decide, ⟨_, _, _, _, _, _, _, _, _, _, e1, rfl, rfl, rfl, rfl, rfl, rfl, e2, rfl, tr, by decide⟩, ⟨⟨_, _, e1, rfl, rfl, rfl⟩, e2⟩⟩
 ·have e1 := X 993 _ rfl
  have e2 := X 989 _ rfl
  exact ⟨989, #[], by decide, ⟨_, _, _, _, _, _, _, _, _, _, e1, rfl, rfl, rfl, rfl, rfl, rfl, e2, rfl, tr, by decide⟩, ⟨⟨_, _, e1, rfl, rfl, rfl⟩, e2⟩⟩
theorem rm_caller : Rm 1 callerA := ⟨rfl, by decide +kernel, by decide +kernel⟩
theorem said_ok : OpenLaw.wellSaid PySem.Challenge.rw_io0007_01 = true := by
 rw [PySem.W.Fast.te9446332074065402090]; kernel_rfl
theorem law_name (P : Params) : nsMapOf (KH P) 3 (PySem.Str.ofString "law") = some (.ref 1114) := by kernel_rfl
end Mine
set_option tactic.hygienic true in
theorem PySem.Challenge.cw_io0007_01_holds : PySem.Challenge.rw_io0007_01.Holds := by
 open Mine PySem PySem.W PySem.W.X PyProof.Rows PySem.Calls in
 w_on
 refine holds_law said_ok fun said => ?_
 refine holds_openX (q := lview) (loose := loo) (Xt := fun s => recOk (RowW.records lrow) s) (XP := fun Y Y => True) (Yf := obsZ kas) (Ya := valZ KB 1115 1792) (N := 10000) left_ok (fun Y Y => trivial) (fun Y Y Y Y Y => trivial) (by rfl) (by rfl) (by rfl) (fun s e => recFacts_of e) (by rfl) (by assumption) (by decide +kernel) ⟨rfl, rfl, rfl, rfl, rfl, by decide +kernel⟩ ?hw ?hc
 case hw => w_witness2
 case hc =>
  intro w s₀ s₁ mg mb G Y fa o pm cd doc dV kV ho hd hcd hD hmg hg args vals as L hpre hlay hrd hwl hlo
  clear ho hd hcd hD
  have hmg2 : mg (PySem.Str.ofString "law") = some (.ref fa) := hmg
  clear hmg
  wrow_args hpre hlay hrd hwl hlo
  rename_i hL _ _ _ hI _ hc _
  obtain ⟨_, KX0, _, ht⟩ := z_facts kas_eq Y
  have KX : (KB w.params).In s₁.heap := fun a o e => L.keeps a o (KX0 a o e)
  have KH1 : (KH w.params).In s₁.heap := fun a o e => KX a o (lookup_app e)
  have tk := script_toks L ht
  have ob := script_obj L hL
  have e1 := ns_uniq (ns_of KH1 (ns := 3) (by kernel_rfl)) G.T.g
  rw [← e1, law_name] at hmg2
  cases hmg2
  have tb := tb_of KX
  have G1 : Good w s₁.heap s₁ := ⟨KH1, ⟨tb, OldK.refl _, tb⟩, rfl, by omega, by rw [hg]; exact AllBare.empty⟩
  have hlen := hI.length
  refine wpAny_call (coE (law_call law_pure G1 rm_caller (by decide) (svs := _) ⟨0, ob⟩ (fun v hv => hI.all v hv) (by omega)) fun s' k => ?_)
  exact ⟨.inl ⟨_, .bool true, [], rfl, fun Y => rfl, ReadsW.bool true, (by kernel_rfl), fun Y => ⟨List.nodup_nil, fun Y hm => (nomatch hm)⟩⟩, (k.old s₁.heap (by simp) ⟨tb, OldK.refl _, tb⟩).ok, k.os, k.gb G1.gb⟩
